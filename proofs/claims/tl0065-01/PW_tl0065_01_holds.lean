import PyProof.Rows.All
import KE.KNestM
import KE.KItem
import KE.KPairComp
import KE.KRevIter
import KE.KEndW
import Flt.Ops
import Wide.FinOn
import PySem.Challenge.RW_tl0065_01
set_option Elab.async false
set_option maxRecDepth 100000
set_option linter.all false
set_option compiler.extract_closed false
set_option genSizeOfSpec false
set_option genSizeOf false
section
namespace TL
open PySem PySem.W PyProof.Rows PySem.Calls PyProof.Rows.LCg
noncomputable abbrev PH := Addr → Option Obj
noncomputable def Has (h : Heap) (P : PH) : Prop := ∀ a o, P a = some o → h.get? a = some o
noncomputable def Sub (P P' : PH) : Prop := ∀ a o, P a = some o → P' a = some o
theorem Sub.refl (P : PH) : Sub P P := fun _ _ h => h
theorem Sub.trans {P Q R : PH} (x : Sub P Q) (y : Sub Q R) : Sub P R := fun a o h => y a o (x a o h)
theorem Has.sub {h : Heap} {P P' : PH} (x : Has h P') (y : Sub P P') : Has h P := fun a o e => x a o (y a o e)
noncomputable def upd (P : PH) (a : Addr) (o : Obj) : PH := fun b => if b = a then some o else P b
theorem upd_self (P : PH) (a : Addr) (o : Obj) : upd P a o a = some o := if_pos rfl
theorem upd_ne {P : PH} {a b : Addr} {o : Obj} (h : b ≠ a) : upd P a o b = P b := if_neg h
theorem Sub.upd_new {P : PH} {a : Addr} {o : Obj} (h : P a = none) : Sub P (upd P a o) := fun b o' e => by
  by_cases q : b = a
  · subst q; rw [h] at e; cases e
  · rw [upd_ne q]; exact e
theorem Sub.upd_off {F P : PH} {a : Addr} {o : Obj} (x : Sub F P) (h : F a = none) : Sub F (upd P a o) := fun b o' e => by
  by_cases q : b = a
  · subst q; rw [h] at e; cases e
  · rw [upd_ne q]; exact x b o' e
theorem Has.fresh {h : Heap} {P : PH} (x : Has h P) : P h.objs.size = none := by
  cases e : P h.objs.size with
  | none => rfl
  | some o => exact absurd (Heap.lt_size (x _ _ e)) (Nat.lt_irrefl _)
theorem Has.lt {h : Heap} {P : PH} (x : Has h P) {a : Addr} (e : P a ≠ none) : a < h.objs.size := by
  cases q : P a with
  | none => exact absurd q e
  | some o => exact Heap.lt_size (x _ _ q)
theorem Has.push {h : Heap} {P : PH} (x : Has h P) {o : Obj} (hf : o.isFreed = false) : Has (h.push o) (upd P h.objs.size o) := fun b o' e => by
  by_cases q : b = h.objs.size
  · subst q; rw [upd_self] at e; cases e; exact Heap.get?_push_size _ hf
  · rw [upd_ne q] at e; exact Heap.get?_push_of_some _ (x _ _ e)
theorem Has.same {h h' : Heap} {P : PH} {a : Addr} {o : Obj} (x : Has h P) (s : Heap.SameBut a h h') (e : h'.get? a = some o) : Has h' (upd P a o) := fun b o' q => by
  by_cases c : b = a
  · subst c; rw [upd_self] at q; cases q; exact e
  · rw [upd_ne c] at q; exact (s.2 b c).trans (x _ _ q)
theorem Has.keeps {h h' : Heap} {P : PH} (x : Has h P) (k : ∀ b o, h.get? b = some o → h'.get? b = some o) : Has h' P := fun b o e => k b o (x b o e)
structure Ext (F P F' P' : PH) : Prop where
  f : Sub F F'
  p : Sub P P'
  fp : Sub F' P'
  new : ∀ a, F' a ≠ none → F a ≠ none ∨ P a = none
theorem Ext.refl {F P : PH} (h : Sub F P) : Ext F P F P := ⟨.refl _, .refl _, h, fun _ e => .inl e⟩
theorem Ext.trans {F P F' P' F'' P'' : PH} (x : Ext F P F' P') (y : Ext F' P' F'' P'') : Ext F P F'' P'' :=
  ⟨x.f.trans y.f, x.p.trans y.p, y.fp, fun a h => by
    rcases y.new a h with q | q
    · exact x.new a q
    · refine .inr ?_
      cases e : P a with
      | none => rfl
      | some o => rw [x.p a o e] at q; cases q⟩
theorem Ext.off {F P F' P' : PH} (x : Ext F P F' P') {a : Addr} (h : F a = none) (hp : P a ≠ none) : F' a = none := by
  cases e : F' a with
  | none => rfl
  | some o =>
    rcases x.new a (by rw [e]; exact fun h => nomatch h) with q | q
    · exact absurd h q
    · exact absurd q hp
noncomputable def Tr {α : Type} (prog : Program) (w : World) (A : Around) (t : Sem α) (P : PH) (Φ : PH → α → Prop) : Prop :=
  ∀ s : Shared, Has s.heap P → wpAny (model prog w) A t (fun a s' => ∃ h tk P', s' = { s with heap := h, toks := tk } ∧ Has h P' ∧ Φ P' a) (fun _ _ => False) s
section
variable {α β : Type} {prog : Program} {w : World} {A : Around} {P : PH}
theorem Tr.pure {a : α} {Φ : PH → α → Prop} (h : Φ P a) : Tr prog w A (pure a) P Φ := fun s hs => wpAny_pure ⟨_, _, P, rfl, hs, h⟩
theorem Tr.bind {m : Sem α} {f : α → Sem β} {Φ : PH → α → Prop} {Ψ : PH → β → Prop} (h : Tr prog w A m P Φ) (k : ∀ P' a, Φ P' a → Tr prog w A (f a) P' Ψ) : Tr prog w A (m >>= f) P Ψ := fun s hs =>
  wpAny_bind (wpAny_mono (h s hs) (fun a s' z => by
    obtain ⟨h₁, tk, P', rfl, hP, hf⟩ := z
    refine wpAny_mono (k P' a hf _ hP) (fun b s'' z => ?_) fun _ _ e => e
    obtain ⟨h₂, tk₂, P₂, rfl, hP₂, hq⟩ := z
    exact ⟨h₂, tk₂, P₂, rfl, hP₂, hq⟩) fun _ _ e => e)
theorem Tr.mono {t : Sem α} {Φ Ψ : PH → α → Prop} (h : Tr prog w A t P Φ) (k : ∀ P' a, Φ P' a → Ψ P' a) : Tr prog w A t P Ψ := fun s hs =>
  wpAny_mono (h s hs) (fun _ _ ⟨h, tk, P', e, hP, q⟩ => ⟨h, tk, P', e, hP, k _ _ q⟩) fun _ _ e => e
theorem Tr.sub {t : Sem α} {P' : PH} {Φ : PH → α → Prop} (h : Tr prog w A t P Φ) (x : Sub P P') : Tr prog w A t P' Φ := fun s hs => h s (hs.sub x)
theorem Tr.out {t : Sem α} {Φ : PH → α → Prop} {s : Shared} {Q : α → Shared → Prop} {E : Value → Shared → Prop} (h : Tr prog w A t P Φ) (hs : Has s.heap P)
    (k : ∀ h' tk P' a, Has h' P' → Φ P' a → Q a { s with heap := h', toks := tk }) : wpAny (model prog w) A t Q E s :=
  wpAny_mono (h s hs) (fun a s' ⟨h', tk, P', e, hP, q⟩ => by subst e; exact k h' tk P' a hP q) fun _ _ e => e.elim
theorem Tr.holding {t : Sem α} {vs : List Value} {Φ : PH → α → Prop} (h : Tr prog w A t P Φ) : Tr prog w A (holding vs t) P Φ := fun s hs => wpAny_holding (h s hs)
theorem Tr.standAt {p : Pos} {f : Sem α} {Φ : PH → α → Prop} (h : Tr prog w A f P Φ) : Tr prog w A (standAt p >>= fun _ => f) P Φ := fun s hs => wpAny_bind (wpAny_standAt (h s hs))
end
inductive D where
  | none | bool (b : Bool) | int (i : Int) | flt (b : UInt64) | str (s : Str) | tup (l : List D) | lst (l : List D) | rng (a b : Int) | set (n : Nat) | raw (v : Value) | emp | empIt
mutual
noncomputable def Rep (F : PH) : D → Value → Prop
  | .none, v => v = .none
  | .bool b, v => v = .bool b
  | .int i, v => ∃ t, v = .int i t
  | .flt b, v => ∃ t, v = .float b t
  | .str x, v => ∃ t, v = .str x t
  | .tup l, v => ∃ a o vs n, v = .ref a ∧ F a = some o ∧ (o.cls = .type "tuple" ∧ o.dict = Option.none ∧ o.slots = #[]) ∧ o.data = .seq vs n ∧ RepL F l vs.toList
  | .lst l, v => ∃ a o vs n, v = .ref a ∧ F a = some o ∧ (o.cls = .type "list" ∧ o.dict = Option.none ∧ o.slots = #[]) ∧ o.data = .seq vs n ∧ RepL F l vs.toList
  | .rng a b, v => ∃ r t u c, v = .ref r ∧ F r = some { cls := .type "range", dict := Option.none, data := .fields #[.int a t, .int b u, .int 1 c], slots := #[] }
  | .set n, v => ∃ a o es ep t, v = .ref a ∧ F a = some o ∧ o.ExactSet ∧ o.data = .set es ep t ∧ t.fits es.size = true ∧ es.size = n
  | .raw u, v => v = u
  | .emp, v => ∃ a, v = .ref a ∧ F a = some { cls := .type "dict", data := .dict #[] } ∧ (a == sysModules) = false
  | .empIt, v => ∃ r a, v = .ref r ∧ F r = some { cls := .type "dict_items", data := .fields #[.ref a] } ∧ F a = some { cls := .type "dict", data := .dict #[] } ∧ (a == sysModules) = false
noncomputable def RepL (F : PH) : List D → List Value → Prop
  | [], vs => vs = []
  | d :: l, vs => ∃ v r, vs = v :: r ∧ Rep F d v ∧ RepL F l r
end
mutual
theorem Rep.sub {F F' : PH} (x : Sub F F') : ∀ {d : D} {v : Value}, Rep F d v → Rep F' d v
  | .none, _, h => by simp only [Rep] at *; exact h
  | .bool _, _, h => by simp only [Rep] at *; exact h
  | .int _, _, h => by simp only [Rep] at *; exact h
  | .flt _, _, h => by simp only [Rep] at *; exact h
  | .str _, _, h => by simp only [Rep] at *; exact h
  | .tup _, _, h => by
    simp only [Rep] at *
    obtain ⟨a, o, vs, n, e, f, r, d, l⟩ := h
    exact ⟨a, o, vs, n, e, x _ _ f, r, d, RepL.sub x l⟩
  | .lst _, _, h => by
    simp only [Rep] at *
    obtain ⟨a, o, vs, n, e, f, r, d, l⟩ := h
    exact ⟨a, o, vs, n, e, x _ _ f, r, d, RepL.sub x l⟩
  | .rng _ _, _, h => by
    simp only [Rep] at *
    obtain ⟨r, t, u, c, e, f⟩ := h
    exact ⟨r, t, u, c, e, x _ _ f⟩
  | .set _, _, h => by
    simp only [Rep] at *
    obtain ⟨a, o, es, ep, t, e, f, r⟩ := h
    exact ⟨a, o, es, ep, t, e, x _ _ f, r⟩
  | .raw _, _, h => by simp only [Rep] at *; exact h
  | .emp, _, h => by simp only [Rep] at *; obtain ⟨a, e, f, z⟩ := h; exact ⟨a, e, x _ _ f, z⟩
  | .empIt, _, h => by simp only [Rep] at *; obtain ⟨r, a, e, f, f', z⟩ := h; exact ⟨r, a, e, x _ _ f, x _ _ f', z⟩
theorem RepL.sub {F F' : PH} (x : Sub F F') : ∀ {l : List D} {vs : List Value}, RepL F l vs → RepL F' l vs
  | [], _, h => by simp only [RepL] at *; exact h
  | _ :: _, _, h => by
    simp only [RepL] at *
    obtain ⟨v, r, e, h1, h2⟩ := h
    exact ⟨v, r, e, Rep.sub x h1, RepL.sub x h2⟩
end
theorem RepL.nil {F : PH} : RepL F [] [] := by simp [RepL]
theorem RepL.cons {F : PH} {d : D} {l : List D} {v : Value} {vs : List Value} (h : Rep F d v) (r : RepL F l vs) : RepL F (d :: l) (v :: vs) := by
  simp only [RepL]; exact ⟨v, vs, rfl, h, r⟩
theorem RepL.length {F : PH} : ∀ {l : List D} {vs : List Value}, RepL F l vs → vs.length = l.length
  | [], _, h => by simp only [RepL] at h; subst h; rfl
  | _ :: _, _, h => by simp only [RepL] at h; obtain ⟨v, r, rfl, _, h2⟩ := h; simp [RepL.length h2]
theorem RepL.get {F : PH} : ∀ {l : List D} {vs : List Value}, RepL F l vs → ∀ {i : Nat} {d : D}, l[i]? = some d → ∃ v, vs[i]? = some v ∧ Rep F d v
  | [], _, _, _, _, e => by simp at e
  | x :: l, _, h, i, d, e => by
    simp only [RepL] at h; obtain ⟨v, r, rfl, h1, h2⟩ := h
    cases i with
    | zero => simp at e; subst e; exact ⟨v, by simp, h1⟩
    | succ i => simp at e; obtain ⟨v', q, z⟩ := RepL.get h2 e; exact ⟨v', by simpa using q, z⟩
theorem RepL.get' {F : PH} : ∀ {l : List D} {vs : List Value}, RepL F l vs → ∀ {i : Nat} {v : Value}, vs[i]? = some v → ∃ d, l[i]? = some d ∧ Rep F d v
  | [], _, h, i, v, e => by simp only [RepL] at h; subst h; simp at e
  | x :: l, _, h, i, v, e => by
    simp only [RepL] at h; obtain ⟨v', r, rfl, h1, h2⟩ := h
    cases i with
    | zero => simp at e; subst e; exact ⟨x, by simp, h1⟩
    | succ i => simp at e; obtain ⟨d, q, z⟩ := RepL.get' h2 e; exact ⟨d, by simpa using q, z⟩
theorem RepL.snoc {F : PH} : ∀ {l : List D} {vs : List Value}, RepL F l vs → ∀ {d : D} {v : Value}, Rep F d v → RepL F (l ++ [d]) (vs ++ [v])
  | [], _, h, d, v, z => by simp only [RepL] at h; subst h; exact .cons z .nil
  | x :: l, _, h, d, v, z => by
    simp only [RepL] at h; obtain ⟨v', r, rfl, h1, h2⟩ := h
    exact .cons h1 (RepL.snoc h2 z)
theorem RepL.append {F : PH} : ∀ {l : List D} {vs : List Value}, RepL F l vs → ∀ {l' : List D} {vs' : List Value}, RepL F l' vs' → RepL F (l ++ l') (vs ++ vs')
  | [], _, h, l', vs', z => by simp only [RepL] at h; subst h; exact z
  | x :: l, _, h, l', vs', z => by
    simp only [RepL] at h; obtain ⟨v', r, rfl, h1, h2⟩ := h
    exact .cons h1 (RepL.append h2 z)
theorem obj_of {o : Obj} {c : String} {d : Data} (h : o.cls = .type c ∧ o.dict = none ∧ o.slots = #[]) (hd : o.data = d) : o = { cls := .type c, dict := none, data := d, slots := #[] } := by
  obtain ⟨c', d', dt, sl⟩ := o
  obtain ⟨h1, h2, h3⟩ := h
  simp only at h1 h2 h3 hd
  subst h1 h2 h3 hd
  rfl
end TL
end
section
namespace TL
open PySem PySem.W PyProof.Rows PySem.Calls PyProof.Rows.LCg
structure Step (W : Addr → Prop) (F P F' P' : PH) : Prop where
  f : Sub F F'
  p : ∀ a o, P a = some o → ¬ W a → P' a = some o
  fp : Sub F' P'
  new : ∀ a, F' a ≠ none → F a ≠ none ∨ (P a = none ∧ ¬ W a)
theorem Ext.step {F P F' P' : PH} (e : Ext F P F' P') {W : Addr → Prop} (h : ∀ a, W a → P a ≠ none) : Step W F P F' P' :=
  ⟨e.f, fun a o h _ => e.p a o h, e.fp, fun a q => (e.new a q).imp id fun z => ⟨z, fun y => h a y z⟩⟩
theorem Step.trans {W : Addr → Prop} {F P F' P' F'' P'' : PH} (x : Step W F P F' P') (y : Step W F' P' F'' P'') : Step W F P F'' P'' :=
  ⟨x.f.trans y.f, fun a o h n => y.p a o (x.p a o h n) n, y.fp, fun a h => by
    rcases y.new a h with q | ⟨q, n⟩
    · exact x.new a q
    · refine .inr ⟨?_, n⟩
      cases e : P a with
      | none => rfl
      | some o => rw [x.p a o e n] at q; cases q⟩
theorem Step.mono {W W' : Addr → Prop} {F P F' P' : PH} (x : Step W F P F' P') (h : ∀ a, W a → W' a ∨ P a = none) (h' : ∀ a, W' a → W a ∨ P a ≠ none) : Step W' F P F' P' :=
  ⟨x.f, fun a o e n => x.p a o e fun q => (h a q).elim n fun z => (by rw [e] at z; cases z), x.fp, fun a q => (x.new a q).imp id fun z => ⟨z.1, fun y => (h' a y).elim z.2 fun k => k z.1⟩⟩
theorem Step.ext {W : Addr → Prop} {F P F' P' : PH} (x : Step W F P F' P') (h : ∀ a, W a → P a = none) : Ext F P F' P' :=
  ⟨x.f, fun a o e => x.p a o e fun q => (by rw [h a q] at e; cases e), x.fp, fun a q => (x.new a q).imp id (·.1)⟩
theorem Step.refl {W : Addr → Prop} {F P : PH} (h : Sub F P) : Step W F P F P := ⟨.refl _, fun _ _ h _ => h, h, fun _ h => .inl h⟩
theorem Step.off {W : Addr → Prop} {F P F' P' : PH} (x : Step W F P F' P') {a : Addr} (h : F a = none) (hp : P a ≠ none) : F' a = none := by
  cases e : F' a with
  | none => rfl
  | some o =>
    rcases x.new a (by rw [e]; exact fun h => nomatch h) with q | q
    · exact absurd h q
    · exact absurd q.1 hp
theorem Step.upd {W : Addr → Prop} {F P : PH} {a : Addr} {o : Obj} (hf : Sub F P) (h : F a = none) (hw : W a) : Step W F P F (upd P a o) :=
  ⟨.refl _, fun b o' e n => by
    by_cases q : b = a
    · subst q; exact absurd hw n
    · rw [upd_ne q]; exact e, hf.upd_off h, fun _ e => .inl e⟩
noncomputable def hid (P : PH) (a : Addr) : PH := fun b => if b = a then none else P b
theorem Sub.hid_off {F P : PH} {a : Addr} (x : Sub F P) (h : F a = none) : Sub F (hid P a) := fun b o e => by
  unfold hid
  by_cases q : b = a
  · subst q; rw [h] at e; cases e
  · rw [if_neg q]; exact x b o e
theorem Step.hid {W : Addr → Prop} {F P : PH} {a : Addr} (hf : Sub F P) (h : F a = none) (hw : W a) : Step W F P F (hid P a) :=
  ⟨.refl _, fun b o' e n => by
    unfold TL.hid
    by_cases q : b = a
    · subst q; exact absurd hw n
    · rw [if_neg q]; exact e, hf.hid_off h, fun _ e => .inl e⟩
theorem Has.hid {h h' : Heap} {P : PH} {a : Addr} (x : Has h P) (k : ∀ b o, b ≠ a → h.get? b = some o → h'.get? b = some o) : Has h' (hid P a) := fun b o e => by
  unfold TL.hid at e
  by_cases q : b = a
  · rw [if_pos q] at e; cases e
  · rw [if_neg q] at e; exact k b o q (x b o e)
noncomputable def iterCls (o : Obj) : Bool := (match o.cls with
  | .type n => ["list_iterator", "tuple_iterator", "range_iterator", "str_ascii_iterator", "str_iterator", "enumerate", "list_reverseiterator", "dict_itemiterator"].contains n
  | _ => false) && (match o.data with | .fields _ => true | _ => false)
structure Soft (F P F' P' : PH) : Prop where
  f : Sub F F'
  it : ∀ a o, P a = some o → iterCls o = true → P' a = some o
  off : ∀ a o, P a = some o → iterCls o = true → F a = none → F' a = none
theorem Soft.trans {F P F' P' F'' P'' : PH} (x : Soft F P F' P') (y : Soft F' P' F'' P'') : Soft F P F'' P'' :=
  ⟨x.f.trans y.f, fun a o h k => y.it a o (x.it a o h k) k, fun a o h k n => y.off a o (x.it a o h k) k (x.off a o h k n)⟩
theorem Ext.soft {F P F' P' : PH} (e : Ext F P F' P') : Soft F P F' P' := ⟨e.f, fun a o h _ => e.p a o h, fun a o h _ n => e.off n (by rw [h]; exact fun z => nomatch z)⟩
theorem Step.soft {W : Addr → Prop} {F P F' P' : PH} (e : Step W F P F' P') (h : ∀ a o, W a → P a = some o → iterCls o = false) : Soft F P F' P' :=
  ⟨e.f, fun a o q k => e.p a o q fun w => (by rw [h a o w q] at k; cases k), fun a o q _ n => e.off n (by rw [q]; exact fun z => nomatch z)⟩
structure XP where
  p : PH → PH → Prop
  st : ∀ F P F' P', p F P → Ext F P F' P' → p F' P'
noncomputable def XP.tt : XP := ⟨fun _ _ => True, fun _ _ _ _ _ _ => trivial⟩
noncomputable def XP.pure (q : Prop) : XP := ⟨fun _ _ => q, fun _ _ _ _ h _ => h⟩
noncomputable def XP.and (x y : XP) : XP := ⟨fun F P => x.p F P ∧ y.p F P, fun F P F' P' h e => ⟨x.st _ _ _ _ h.1 e, y.st _ _ _ _ h.2 e⟩⟩
noncomputable def XP.own (a : Addr) (o : Obj) : XP := ⟨fun F P => P a = some o ∧ F a = none, fun F P F' P' h e => ⟨e.p _ _ h.1, e.off h.2 (by rw [h.1]; exact fun q => nomatch q)⟩⟩
noncomputable def XP.rep (d : D) (v : Value) : XP := ⟨fun F _ => Rep F d v, fun _ _ _ _ h e => h.sub e.f⟩
structure EnvOk (env : Env) : Prop where
  kind : env.scope.kind = .function
  g : env.globals = mainGlobals
  b : env.builtins = builtinsNs
structure Cx (A : Around) (n : Nat) : Prop where
  h : A.handled = none
  d : A.depth + n < recursionLimit
  u : A.units + 8 * n < cLine
theorem Cx.le {A : Around} {m n : Nat} (x : Cx A n) (h : m ≤ n) : Cx A m := ⟨x.h, by have := x.d; omega, by have := x.u; omega⟩
structure Mut (env : Env) (F P : PH) : Prop where
  loc : F env.locals = none
  ne : ∀ x c, env.cells.lookup x = some c → c ≠ env.locals
  tot : ∀ x, (env.kindOf x = some .cell ∨ env.kindOf x = some .free) → ∃ c o v, env.cells.lookup x = some c ∧ P c = some o ∧ o.data = .cell v
  off : ∀ x c, env.cells.lookup x = some c → env.kindOf x = some .cell → F c = none
  inj : ∀ x y c, env.cells.lookup x = some c → env.cells.lookup y = some c → x = y
theorem Mut.cel {env : Env} {F P : PH} (M : Mut env F P) (x : Str) (c : Addr) (h : env.cells.lookup x = some c) (k : env.kindOf x = some .cell) : F c = none ∧ ∃ o v, P c = some o ∧ o.data = .cell v := by
  obtain ⟨c', o, v, h1, h2, h3⟩ := M.tot x (.inl k)
  rw [h] at h1; cases h1
  exact ⟨M.off x c h k, o, v, h2, h3⟩
theorem Mut.step {env : Env} {F P F' P' : PH} {W : Addr → Prop} (M : Mut env F P) (hL : P env.locals ≠ none) (e : Step W F P F' P') (hW : ∀ x c o v, env.cells.lookup x = some c → P c = some o → o.data = .cell v → ¬ W c) : Mut env F' P' where
  loc := e.off M.loc hL
  ne := M.ne
  tot := fun x k => by
    obtain ⟨c, o, v, h1, h2, h3⟩ := M.tot x k
    exact ⟨c, o, v, h1, e.p _ _ h2 (hW x c o v h1 h2 h3), h3⟩
  off := fun x c h k => by
    obtain ⟨h1, o, v, h2, _⟩ := M.cel x c h k
    exact e.off h1 (by rw [h2]; exact fun z => nomatch z)
  inj := M.inj
structure Vars (hb : Heap) (env : Env) (F P : PH) (ρ : List (Str × D)) : Prop where
  ok : EnvOk env
  base : Sub hb.get? F
  fp : Sub F P
  loc : ∃ m oL, P env.locals = some oL ∧ NsObj oL m ∧ ∀ x d, ρ.lookup x = some d → env.kindOf x = some .local → ∃ v, m x = some v ∧ Rep F d v
  cel : ∀ x d, ρ.lookup x = some d → (env.kindOf x = some .cell ∨ env.kindOf x = some .free) → ∃ c v o, env.cells.lookup x = some c ∧ P c = some o ∧ o.data = .cell (some v) ∧ Rep F d v
  m : Mut env F P
theorem Vars.locNe {hb : Heap} {env : Env} {F P : PH} {ρ : List (Str × D)} (V : Vars hb env F P ρ) : P env.locals ≠ none := by
  obtain ⟨m, oL, h1, _⟩ := V.loc
  rw [h1]; exact fun z => nomatch z
theorem Vars.step {hb : Heap} {env : Env} {F P F' P' : PH} {ρ : List (Str × D)} {W : Addr → Prop} (V : Vars hb env F P ρ) (e : Step W F P F' P') (hl : ¬ W env.locals) (hc : ∀ x c o v, env.cells.lookup x = some c → P c = some o → o.data = .cell v → ¬ W c) : Vars hb env F' P' ρ where
  ok := V.ok
  base := V.base.trans e.f
  fp := e.fp
  loc := by
    obtain ⟨m, oL, h1, h2, h3⟩ := V.loc
    refine ⟨m, oL, e.p _ _ h1 hl, h2, fun x d hx hk => ?_⟩
    obtain ⟨v, h4, h5⟩ := h3 x d hx hk
    exact ⟨v, h4, h5.sub e.f⟩
  cel := fun x d hx hk => by
    obtain ⟨c, v, o, h1, h2, h3, h4⟩ := V.cel x d hx hk
    exact ⟨c, v, o, h1, e.p _ _ h2 (hc x c o _ h1 h2 h3), h3, h4.sub e.f⟩
  m := V.m.step V.locNe e hc
theorem Vars.ext {hb : Heap} {env : Env} {F P F' P' : PH} {ρ : List (Str × D)} (V : Vars hb env F P ρ) (e : Ext F P F' P') : Vars hb env F' P' ρ :=
  V.step (W := fun _ => False) (e.step fun _ q => q.elim) (fun q => q) fun _ _ _ _ _ _ _ q => q
theorem Vars.sub {hb : Heap} {env : Env} {F P : PH} {ρ ρ' : List (Str × D)} (V : Vars hb env F P ρ) (h : ∀ x d, ρ'.lookup x = some d → ρ.lookup x = some d) : Vars hb env F P ρ' where
  ok := V.ok
  base := V.base
  fp := V.fp
  loc := by
    obtain ⟨m, oL, h1, h2, h3⟩ := V.loc
    exact ⟨m, oL, h1, h2, fun x d hx hk => h3 x d (h x d hx) hk⟩
  cel := fun x d hx hk => V.cel x d (h x d hx) hk
  m := V.m
structure G where
  prog : Program
  w : World
  hb : Heap
  mg : Str → Option Value
  mb : Str → Option Value
structure GOk (g : G) : Prop where
  gl : g.hb.Ns mainGlobals g.mg
  bl : g.hb.Ns builtinsNs g.mb
  bi : ∀ x : Str, x ≠ "__name__" → g.mb x = bootBuiltins x
  nolimit : g.hb.NoLimit
structure Ev (g : G) (A : Around) (env : Env) (ρ : List (Str × D)) (X : XP) (e : Expr) (d : D) : Prop where
  run : ∀ F P, Vars g.hb env F P ρ → X.p F P → Tr g.prog g.w A (eval e env) P (fun P' v => ∃ F', Ext F P F' P' ∧ Rep F' d v)
structure EvB (g : G) (A : Around) (env : Env) (ρ : List (Str × D)) (X : XP) (e : Expr) (b : Bool) : Prop where
  run : ∀ F P, Vars g.hb env F P ρ → X.p F P → Tr g.prog g.w A (isTrue e env (eval e env)) P (fun P' c => ∃ F', Ext F P F' P' ∧ c = b)
structure EvL (g : G) (A : Around) (env : Env) (ρ : List (Str × D)) (X : XP) (pos : Pos) (es : List Expr) (ds : List D) : Prop where
  run : ∀ F P, Vars g.hb env F P ρ → X.p F P → Tr g.prog g.w A (spliced (backTo pos (starEach es env))) P (fun P' vs => ∃ F', Ext F P F' P' ∧ RepL F' ds vs)
section
variable {g : G} {A : Around} {env : Env} {ρ : List (Str × D)} {X : XP}
theorem Ev.conv {e : Expr} {d d' : D} (h : Ev g A env ρ X e d) (q : d = d') : Ev g A env ρ X e d' := q ▸ h
theorem EvB.conv {e : Expr} {d d' : Bool} (h : EvB g A env ρ X e d) (q : d = d') : EvB g A env ρ X e d' := q ▸ h
theorem Ev.int {i : Int} {k : Nat} {pos : Pos} : Ev g A env ρ X (.Constant (.int i) k pos) (.int i) := Ev.mk fun F P V _ s hs => by
  refine wpAny_Constant_int ?_
  exact ⟨_, _, P, rfl, hs, F, .refl V.fp, by simp only [Rep]; exact ⟨_, rfl⟩⟩
theorem Ev.str {x : Str} {k : Nat} {pos : Pos} : Ev g A env ρ X (.Constant (.str x) k pos) (.str x) := Ev.mk fun F P V _ s hs => by
  refine wpAny_Constant_str ?_
  exact ⟨_, _, P, rfl, hs, F, .refl V.fp, by simp only [Rep]; exact ⟨_, rfl⟩⟩
theorem Ev.bool {b : Bool} {k : Nat} {pos : Pos} : Ev g A env ρ X (.Constant (.bool b) k pos) (.bool b) := Ev.mk fun F P V _ s hs => by
  refine wpAny_Constant_bool ?_
  exact ⟨_, s.toks, P, rfl, hs, F, .refl V.fp, by simp only [Rep]⟩
theorem Ev.noneC {k : Nat} {pos : Pos} : Ev g A env ρ X (.Constant .none k pos) .none := Ev.mk fun F P V _ s hs => by
  refine wpAny_Constant_none ?_
  exact ⟨_, s.toks, P, rfl, hs, F, .refl V.fp, by simp only [Rep]⟩
theorem Ev.flt {b : UInt64} {k : Nat} {pos : Pos} : Ev g A env ρ X (.Constant (.float b) k pos) (.flt b) := Ev.mk fun F P V _ s hs => by
  exact fun _ _ _ => ⟨_, _, P, rfl, hs, F, .refl V.fp, by simp only [Rep]; exact ⟨_, rfl⟩⟩
theorem Ev.loc {x : Str} {pos : Pos} {d : D} (hx : ρ.lookup x = some d) (hk : env.kindOf x = some .local) (hd : (x == ("__debug__" : Str)) = false) : Ev g A env ρ X (.Name x pos) d := Ev.mk fun F P V _ s hs => by
  obtain ⟨m, oL, h1, h2, h3⟩ := V.loc
  obtain ⟨v, h4, h5⟩ := h3 x d hx hk
  exact wpAny_Name (wpAny_loadName_local V.ok.kind hk (h2.ns (hs _ _ h1)) h4 ⟨_, s.toks, P, rfl, hs, F, .refl V.fp, h5⟩) hd
theorem Ev.cell {x : Str} {pos : Pos} {d : D} (hx : ρ.lookup x = some d) (hk : env.kindOf x = some .cell) (hd : (x == ("__debug__" : Str)) = false) : Ev g A env ρ X (.Name x pos) d := Ev.mk fun F P V _ s hs => by
  obtain ⟨c, v, o, h1, h2, h3, h4⟩ := V.cel x d hx (.inl hk)
  exact wpAny_Name (wpAny_loadName_cell V.ok.kind hk h1 ⟨o, hs _ _ h2, h3⟩ ⟨_, s.toks, P, rfl, hs, F, .refl V.fp, h4⟩) hd
theorem Ev.free {x : Str} {pos : Pos} {d : D} (hx : ρ.lookup x = some d) (hk : env.kindOf x = some .free) (hd : (x == ("__debug__" : Str)) = false) (hn : (x == ("__classdict__" : Str)) = false) : Ev g A env ρ X (.Name x pos) d := Ev.mk fun F P V _ s hs => by
  obtain ⟨c, v, o, h1, h2, h3, h4⟩ := V.cel x d hx (.inr hk)
  exact wpAny_Name (wpAny_loadName_free V.ok.kind hk h1 ⟨o, hs _ _ h2, h3⟩ ⟨_, s.toks, P, rfl, hs, F, .refl V.fp, h4⟩ hn) hd
noncomputable def Op2 (g : G) (A : Around) (t : Value → Value → Sem Value) (d₁ d₂ d : D) : Prop :=
  ∀ (F : PH) (v₁ v₂ : Value) (s : Shared) (Q : Value → Shared → Prop) (E : Value → Shared → Prop), Has s.heap F → Rep F d₁ v₁ → Rep F d₂ v₂ → (∀ v tk, Rep F d v → Q v { s with toks := tk }) → wpAny (model g.prog g.w) A (t v₁ v₂) Q E s
theorem Ev.bin {op : Operator} {a b : Expr} {pos : Pos} {d₁ d₂ d : D} (h₁ : Ev g A env ρ X a d₁) (h₂ : Ev g A env ρ X b d₂) (ho : Op2 g A (binaryOp op) d₁ d₂ d) : Ev g A env ρ X (.BinOp a op b pos) d := Ev.mk fun F P V x s hs => by
  refine wpAny_BinOp ((h₁.run F P V x).out hs fun h tk P₁ v₁ hP₁ ⟨F₁, e₁, r₁⟩ => ?_)
  refine (h₂.run F₁ P₁ (V.ext e₁) (X.st _ _ _ _ x e₁)).out hP₁ fun h tk P₂ v₂ hP₂ ⟨F₂, e₂, r₂⟩ => ?_
  exact ho F₂ v₁ v₂ _ _ _ (hP₂.sub e₂.fp) (r₁.sub e₂.f) r₂ fun v tk r => ⟨_, _, P₂, rfl, hP₂, F₂, e₁.trans e₂, r⟩
theorem Ev.cmp {op : CmpOp} {a b : Expr} {pos : Pos} {d₁ d₂ d : D} (h₁ : Ev g A env ρ X a d₁) (h₂ : Ev g A env ρ X b d₂) (ho : Op2 g A (compareOp op) d₁ d₂ d)
    (hm : behindInMarks op b = false := by with_unfolding_all rfl) : Ev g A env ρ X (.Compare a [op] [b] pos) d := Ev.mk fun F P V x s hs => by
  refine wpAny_Compare1 ((h₁.run F P V x).out hs fun h tk P₁ v₁ hP₁ ⟨F₁, e₁, r₁⟩ => ?_) hm
  refine (h₂.run F₁ P₁ (V.ext e₁) (X.st _ _ _ _ x e₁)).out hP₁ fun h tk P₂ v₂ hP₂ ⟨F₂, e₂, r₂⟩ => ?_
  exact ho F₂ v₁ v₂ _ _ _ (hP₂.sub e₂.fp) (r₁.sub e₂.f) r₂ fun v tk r => ⟨_, _, P₂, rfl, hP₂, F₂, e₁.trans e₂, r⟩
theorem EvB.cmp {op : CmpOp} {a b : Expr} {pos : Pos} {d₁ d₂ : D} {c : Bool} (h₁ : Ev g A env ρ X a d₁) (h₂ : Ev g A env ρ X b d₂) (ho : Op2 g A (compareOp op) d₁ d₂ (.bool c))
    (hm : behindInMarks op b = false := by with_unfolding_all rfl) : EvB g A env ρ X (.Compare a [op] [b] pos) c := EvB.mk fun F P V x s hs => by
  refine wpAny_isTrue_Compare1 ((h₁.run F P V x).out hs fun h tk P₁ v₁ hP₁ ⟨F₁, e₁, r₁⟩ => ?_) hm
  refine (h₂.run F₁ P₁ (V.ext e₁) (X.st _ _ _ _ x e₁)).out hP₁ fun h tk P₂ v₂ hP₂ ⟨F₂, e₂, r₂⟩ => ?_
  refine ho F₂ v₁ v₂ _ _ _ (hP₂.sub e₂.fp) (r₁.sub e₂.f) r₂ fun v tk r => ?_
  simp only [Rep] at r
  subst r
  exact wpAny_truthy_bool ⟨_, _, P₂, rfl, hP₂, F₂, e₁.trans e₂, rfl⟩
section ops
variable {a b : Int}
theorem op_add : Op2 g A (binaryOp .Add) (.int a) (.int b) (.int (a + b)) := fun F v₁ v₂ s Q E hs r₁ r₂ k => by
  simp only [Rep] at r₁ r₂; obtain ⟨t, rfl⟩ := r₁; obtain ⟨u, rfl⟩ := r₂
  exact add_int (k _ _ (by simp only [Rep]; exact ⟨_, rfl⟩))
theorem op_sub : Op2 g A (binaryOp .Sub) (.int a) (.int b) (.int (a - b)) := fun F v₁ v₂ s Q E hs r₁ r₂ k => by
  simp only [Rep] at r₁ r₂; obtain ⟨t, rfl⟩ := r₁; obtain ⟨u, rfl⟩ := r₂
  exact sub_int (k _ _ (by simp only [Rep]; exact ⟨_, rfl⟩))
theorem op_mul (h1 : -(2 ^ 64) < a) (h2 : a < 2 ^ 64) : Op2 g A (binaryOp .Mult) (.int a) (.int b) (.int (a * b)) := fun F v₁ v₂ s Q E hs r₁ r₂ k => by
  simp only [Rep] at r₁ r₂; obtain ⟨t, rfl⟩ := r₁; obtain ⟨u, rfl⟩ := r₂
  exact mul_int (k _ _ (by simp only [Rep]; exact ⟨_, rfl⟩)) (IntMulOk.of_left (intBits_le_64 h1 h2))
theorem op_mod (h : b ≠ 0) : Op2 g A (binaryOp .Mod) (.int a) (.int b) (.int (a.fmod b)) := fun F v₁ v₂ s Q E hs r₁ r₂ k => by
  simp only [Rep] at r₁ r₂; obtain ⟨t, rfl⟩ := r₁; obtain ⟨u, rfl⟩ := r₂
  exact mod_int h (k _ _ (by simp only [Rep]; exact ⟨_, rfl⟩))
theorem cmp_eq : Op2 g A (compareOp .Eq) (.int a) (.int b) (.bool (a == b)) := fun F v₁ v₂ s Q E hs r₁ r₂ k => by
  simp only [Rep] at r₁ r₂; obtain ⟨t, rfl⟩ := r₁; obtain ⟨u, rfl⟩ := r₂
  exact eq_int (k _ s.toks (by simp only [Rep]))
theorem cmp_ne : Op2 g A (compareOp .NotEq) (.int a) (.int b) (.bool (a != b)) := fun F v₁ v₂ s Q E hs r₁ r₂ k => by
  simp only [Rep] at r₁ r₂; obtain ⟨t, rfl⟩ := r₁; obtain ⟨u, rfl⟩ := r₂
  exact ne_int (k _ s.toks (by simp only [Rep]))
theorem cmp_lt : Op2 g A (compareOp .Lt) (.int a) (.int b) (.bool (decide (a < b))) := fun F v₁ v₂ s Q E hs r₁ r₂ k => by
  simp only [Rep] at r₁ r₂; obtain ⟨t, rfl⟩ := r₁; obtain ⟨u, rfl⟩ := r₂
  exact lt_int (k _ s.toks (by simp only [Rep]))
theorem cmp_gt : Op2 g A (compareOp .Gt) (.int a) (.int b) (.bool (decide (b < a))) := fun F v₁ v₂ s Q E hs r₁ r₂ k => by
  simp only [Rep] at r₁ r₂; obtain ⟨t, rfl⟩ := r₁; obtain ⟨u, rfl⟩ := r₂
  exact gt_int (k _ s.toks (by simp only [Rep]))
end ops
theorem EvB.val {e : Expr} {b : Bool} (h : Ev g A env ρ X e (.bool b)) (he : isTrue e env (eval e env) = (do let v ← eval e env; standAt e.pos; holding [v] (truthy v)) := by rfl) : EvB g A env ρ X e b := EvB.mk fun F P V x s hs => by
  refine wpAny_isTrue_value ((h.run F P V x).out hs fun h tk P₁ v₁ hP₁ ⟨F₁, e₁, r₁⟩ => ?_) he
  simp only [Rep] at r₁
  subst r₁
  exact wpAny_truthy_bool ⟨_, tk, P₁, rfl, hP₁, F₁, e₁, rfl⟩
theorem Ev.ite {t a b : Expr} {pos : Pos} {c : Bool} {d : D} (ht : EvB g A env ρ X t c) (ha : c = true → Ev g A env ρ X a d) (hb : c = false → Ev g A env ρ X b d) : Ev g A env ρ X (.IfExp t a b pos) d := Ev.mk fun F P V x s hs => by
  refine IfExp_ ((ht.run F P V x).out hs fun h tk P₁ c' hP₁ ⟨F₁, e₁, r₁⟩ => ?_)
  subst r₁
  cases c' with
  | true => exact ((ha rfl).run F₁ P₁ (V.ext e₁) (X.st _ _ _ _ x e₁)).out hP₁ fun h tk P₂ v hP₂ ⟨F₂, e₂, r₂⟩ => ⟨_, _, P₂, rfl, hP₂, F₂, e₁.trans e₂, r₂⟩
  | false => exact ((hb rfl).run F₁ P₁ (V.ext e₁) (X.st _ _ _ _ x e₁)).out hP₁ fun h tk P₂ v hP₂ ⟨F₂, e₂, r₂⟩ => ⟨_, _, P₂, rfl, hP₂, F₂, e₁.trans e₂, r₂⟩
theorem EvL.nil {pos : Pos} : EvL g A env ρ X pos [] [] := EvL.mk fun F P V _ s hs => wpAny_items_nil ⟨_, s.toks, P, rfl, hs, F, .refl V.fp, .nil⟩
theorem EvL.cons {pos : Pos} {e : Expr} {es : List Expr} {d : D} {ds : List D} (h₁ : Ev g A env ρ X e d) (h₂ : EvL g A env ρ X pos es ds)
    (he : starEach (e :: es) env = (false, eval e env) :: starEach es env := by rfl) : EvL g A env ρ X pos (e :: es) (d :: ds) := EvL.mk fun F P V x s hs => by
  refine wpAny_items_cons ((h₁.run F P V x).out hs fun h tk P₁ v₁ hP₁ ⟨F₁, e₁, r₁⟩ => ?_) he
  exact (h₂.run F₁ P₁ (V.ext e₁) (X.st _ _ _ _ x e₁)).out hP₁ fun h tk P₂ vs hP₂ ⟨F₂, e₂, r₂⟩ => ⟨_, _, P₂, rfl, hP₂, F₂, e₁.trans e₂, .cons (r₁.sub e₂.f) r₂⟩
theorem Ext.alloc {F P : PH} {n : Addr} {o : Obj} (hf : Sub F P) (h : P n = none) : Ext F P (upd F n o) (upd P n o) := by
  have hF : F n = none := by
    cases e : F n with
    | none => rfl
    | some o' => rw [hf _ _ e] at h; cases h
  refine ⟨.upd_new hF, .upd_new h, fun a o' e => ?_, fun a e => ?_⟩
  · by_cases q : a = n
    · subst q; rw [upd_self] at e ⊢; exact e
    · rw [upd_ne q] at e ⊢; exact hf _ _ e
  · by_cases q : a = n
    · subst q; exact .inr h
    · rw [upd_ne q] at e; exact .inl e
theorem Ev.list {es : List Expr} {pos : Pos} {ds : List D} (h : EvL g A env ρ X pos es ds) (hl : ds.length ≤ 4096) : Ev g A env ρ X (.List es pos) (.lst ds) := Ev.mk fun F P V x s hs => by
  refine List_ ((h.run F P V x).out hs fun h tk P₁ vs hP₁ ⟨F₁, e₁, r₁⟩ => ?_)
  refine wpAny_newObj_type ⟨_, _, _, rfl, hP₁.push rfl, _, e₁.trans (.alloc e₁.fp hP₁.fresh), ?_⟩ (by show vs.toArray.size ≤ sizeLine; rw [List.size_toArray, r₁.length]; exact Nat.le_trans hl (by decide))
  simp only [Rep]
  exact ⟨_, _, _, _, rfl, upd_self .., ⟨rfl, rfl, rfl⟩, rfl, r₁.sub (.upd_new (by
    cases q : F₁ h.objs.size with
    | none => rfl
    | some o => have := hP₁.fresh; rw [e₁.fp _ _ q] at this; cases this))⟩
theorem Ev.tuple {es : List Expr} {k : Nat} {pos : Pos} {ds : List D} (h : EvL g A env ρ X pos es ds) (hl : ds.length ≤ 4096) : Ev g A env ρ X (.Tuple es k pos) (.tup ds) := Ev.mk fun F P V x s hs => by
  refine Tuple_ ((h.run F P V x).out hs fun h tk P₁ vs hP₁ ⟨F₁, e₁, r₁⟩ => ?_)
  refine wpAny_newObj_type ⟨_, _, _, rfl, hP₁.push rfl, _, e₁.trans (.alloc e₁.fp hP₁.fresh), ?_⟩ (by show vs.toArray.size ≤ sizeLine; rw [List.size_toArray, r₁.length]; exact Nat.le_trans hl (by decide))
  simp only [Rep]
  exact ⟨_, _, _, _, rfl, upd_self .., ⟨rfl, rfl, rfl⟩, rfl, r₁.sub (.upd_new (by
    cases q : F₁ h.objs.size with
    | none => rfl
    | some o => have := hP₁.fresh; rw [e₁.fp _ _ q] at this; cases this))⟩
end
end TL
end
section
namespace TL
open PySem PySem.W PyProof.Rows PySem.Calls PyProof.Rows.LCg
noncomputable def muts (env : Env) (a : Addr) : Prop := a = env.locals ∨ ∃ x, env.kindOf x = some .cell ∧ env.cells.lookup x = some a
theorem Mut.ext {hb : Heap} {env : Env} {F P F' P' : PH} {ρ : List (Str × D)} (M : Mut env F P) (V : Vars hb env F P ρ) (e : Ext F P F' P') : Mut env F' P' := (V.ext e).m
noncomputable def AdrOk (env : Env) (W : Addr → Prop) (x : Str) : Prop := (env.kindOf x = some .local ∧ W env.locals) ∨ (env.kindOf x = some .cell ∧ ∀ c, env.cells.lookup x = some c → W c)
theorem AdrOk.loc {env : Env} {x : Str} (h : env.kindOf x = some .local) : AdrOk env (muts env) x := .inl ⟨h, .inl rfl⟩
theorem AdrOk.cell {env : Env} {x : Str} (h : env.kindOf x = some .cell) : AdrOk env (muts env) x := .inr ⟨h, fun c h' => .inr ⟨x, h, h'⟩⟩
section
variable {g : G} {A : Around} {env : Env} {ρ ρ' : List (Str × D)} {X : XP}
theorem store_ok {F P : PH} {W : Addr → Prop} {x : Str} {d : D} {v : Value} (V : Vars g.hb env F P ρ) (M : Mut env F P) (r : Rep F d v) (hx : AdrOk env W x) :
    Tr g.prog g.w A (storeName env x v) P (fun P' _ => Vars g.hb env F P' ((x, d) :: ρ) ∧ Mut env F P' ∧ Step W F P F P' ∧ Soft F P F P') := fun s hs => by
  obtain ⟨m, oL, h1, h2, h3⟩ := V.loc
  rcases hx with ⟨hx, hW⟩ | ⟨hx, hW⟩
  · refine wpAny_storeName_local hx (h2.ns (hs _ _ h1)) (fun h' hn hsb => ?_) (by rw [V.ok.kind]; rfl)
    obtain ⟨o', e', n'⟩ := ns_obj hn
    have st : Step W F P F (upd P env.locals o') := .upd V.fp M.loc hW
    have M' : Mut env F (upd P env.locals o') := M.step V.locNe (W := fun a => a = env.locals) (.upd V.fp M.loc rfl) fun y c _ _ hy _ _ q => M.ne y c hy q
    refine ⟨_, _, upd P env.locals o', rfl, hs.same hsb e', ⟨V.ok, V.base, st.fp, ⟨_, o', upd_self .., n', fun y d' hy hk => ?_⟩, fun y d' hy hk => ?_, M'⟩, M', st, Step.soft (W := fun a => a = env.locals) (.upd V.fp M.loc rfl) fun a o w e => ?_⟩
    rotate_left 2
    · subst w; rw [h1] at e; cases e
      obtain ⟨es, ep, hd, _⟩ := h2
      unfold iterCls; rw [hd, Bool.and_false]
    · by_cases q : y = x
      · subst q
        rw [List.lookup_cons, beq_self_eq_true] at hy
        cases hy
        exact ⟨v, by simp, r⟩
      · have : (y == x) = false := by simpa using q
        rw [List.lookup_cons, this] at hy
        obtain ⟨v', h4, h5⟩ := h3 y d' hy hk
        exact ⟨v', by simp [q, h4], h5⟩
    · have q : y ≠ x := fun q => by subst q; rw [hx] at hk; rcases hk with hk | hk <;> cases hk
      have : (y == x) = false := by simpa using q
      rw [List.lookup_cons, this] at hy
      obtain ⟨c, v', o, c1, c2, c3, c4⟩ := V.cel y d' hy hk
      exact ⟨c, v', o, c1, by rw [upd_ne (M.ne y c c1)]; exact c2, c3, c4⟩
  · obtain ⟨c, _, _, hc, _⟩ := M.tot x (.inl hx)
    replace hW := hW c hc
    obtain ⟨hF, o, v₀, hP, hd⟩ := M.cel x c hc hx
    refine wpAny_storeName_cell V.ok.kind hx hc ⟨o, hs _ _ hP, hd⟩ fun h' hv hsb => ?_
    obtain ⟨o', e', d'⟩ := hv
    have st : Step W F P F (upd P c o') := .upd V.fp hF hW
    have cL := M.ne x c hc
    have M' : Mut env F (upd P c o') := ⟨M.loc, M.ne, fun y k => by
      obtain ⟨c', o₂, v₂, f1, f2, f3⟩ := M.tot y k
      by_cases q : c' = c
      · subst q; exact ⟨c', o', _, f1, upd_self .., d'⟩
      · exact ⟨c', o₂, v₂, f1, by rw [upd_ne q]; exact f2, f3⟩, M.off, M.inj⟩
    refine ⟨_, s.toks, upd P c o', rfl, hs.same hsb e', ⟨V.ok, V.base, st.fp, ⟨m, oL, by rw [upd_ne (Ne.symm cL)]; exact h1, h2, fun y d' hy hk => ?_⟩, fun y d' hy hk => ?_, M'⟩, M', st, Step.soft (W := fun a => a = c) (.upd V.fp hF rfl) fun a o' w e => (by subst w; rw [hP] at e; cases e; unfold iterCls; rw [hd, Bool.and_false])⟩
    · have q : y ≠ x := fun q => by subst q; rw [hx] at hk; cases hk
      have : (y == x) = false := by simpa using q
      rw [List.lookup_cons, this] at hy
      exact h3 y d' hy hk
    · by_cases q : y = x
      · subst q
        rw [List.lookup_cons, beq_self_eq_true] at hy
        cases hy
        exact ⟨c, v, o', hc, upd_self .., d', r⟩
      · have : (y == x) = false := by simpa using q
        rw [List.lookup_cons, this] at hy
        obtain ⟨c', v', o'', c1, c2, c3, c4⟩ := V.cel y d' hy hk
        have qc : c' ≠ c := fun z => q (M.inj y x c' c1 (by rw [z]; exact hc))
        exact ⟨c', v', o'', c1, by rw [upd_ne qc]; exact c2, c3, c4⟩
noncomputable def Asg (g : G) (A : Around) (env : Env) (W : Addr → Prop) (t : Expr) (d : D) (ρ ρ' : List (Str × D)) : Prop :=
  ∀ F P v, Vars g.hb env F P ρ → Mut env F P → Rep F d v → Tr g.prog g.w A (assign t env v) P (fun P' _ => ∃ F', Step W F P F' P' ∧ Soft F P F' P' ∧ Vars g.hb env F' P' ρ' ∧ Mut env F' P')
noncomputable def AsgL (g : G) (A : Around) (env : Env) (W : Addr → Prop) (ts : List Expr) (ds : List D) (ρ ρ' : List (Str × D)) : Prop :=
  ∀ F P vs, Vars g.hb env F P ρ → Mut env F P → RepL F ds vs → Tr g.prog g.w A (assignInOrder ((assignEach ts env).map (·.2)) vs) P (fun P' _ => ∃ F', Step W F P F' P' ∧ Soft F P F' P' ∧ Vars g.hb env F' P' ρ' ∧ Mut env F' P')
theorem Asg.name {W : Addr → Prop} {x : Str} {pos : Pos} {d : D} (hx : AdrOk env W x) : Asg g A env W (.Name x pos) d ρ ((x, d) :: ρ) := fun F P v V M r s hs =>
  wpAny_assign_Name ((store_ok (A := A) V M r hx).out hs fun h tk P' _ hP q => ⟨h, tk, P', rfl, hP, F, q.2.2.1, q.2.2.2, q.1, q.2.1⟩)
theorem AsgL.nil {W : Addr → Prop} : AsgL g A env W [] [] ρ ρ := fun F P vs V M r s hs => by
  simp only [RepL] at r; subst r
  exact assignInOrder_nil ⟨_, s.toks, P, rfl, hs, F, .refl V.fp, (Ext.refl V.fp).soft, V, M⟩
theorem AsgL.cons {W : Addr → Prop} {t : Expr} {ts : List Expr} {d : D} {ds : List D} {ρ₁ : List (Str × D)} (h₁ : Asg g A env W t d ρ ρ₁) (h₂ : AsgL g A env W ts ds ρ₁ ρ')
    (he : (assignEach (t :: ts) env).map (·.2) = assign t env :: (assignEach ts env).map (·.2) := by rfl) : AsgL g A env W (t :: ts) (d :: ds) ρ ρ' := fun F P vs V M r s hs => by
  simp only [RepL] at r; obtain ⟨v, r', rfl, r1, r2⟩ := r
  rw [he]
  refine assignInOrder_cons ((h₁ F P v V M r1).out hs fun h tk P₁ _ hP ⟨F₁, s₁, t₁, V₁, M₁⟩ => ?_)
  exact (h₂ F₁ P₁ r' V₁ M₁ (r2.sub s₁.f)).out hP fun h tk P₂ _ hP ⟨F₂, s₂, t₂, V₂, M₂⟩ => ⟨_, _, P₂, rfl, hP, F₂, s₁.trans s₂, t₁.trans t₂, V₂, M₂⟩
theorem Asg.tup {W : Addr → Prop} {ts : List Expr} {k : Nat} {pos : Pos} {ds : List D} (hh : A.handled = none) (h : AsgL g A env W ts ds ρ ρ') (hn : (assignEach ts env).length = ds.length) (hstar : (assignEach ts env).findIdx? (·.1) = none) :
    Asg g A env W (.Tuple ts k pos) (.tup ds) ρ ρ' := fun F P v V M r s hs => by
  simp only [Rep] at r
  obtain ⟨a, o, vs, n, rfl, hF, hc, hd, hl⟩ := r
  refine assign_Tuple_tuple hh ⟨o, hs _ _ (V.fp _ _ hF), hc.1, n, hd⟩ (by rw [hn, ← hl.length]; simp) hstar fun h' hx => ?_
  have hs' : Has h' P := fun b o' e => hx b o' (Nat.ne_of_lt (hs.lt (by rw [e]; exact fun z => nomatch z))) (hs _ _ e)
  exact (h F P vs.toList V M hl).out hs' fun h tk P₂ _ hP ⟨F₂, s₂, V₂, M₂⟩ => ⟨_, _, P₂, rfl, hP, F₂, s₂, V₂, M₂⟩
inductive Out where
  | next (ρ : List (Str × D))
  | ret (d : D)
  | brk (ρ : List (Str × D))
  | any (Q : PH → PH → Flow → Prop)
noncomputable def OutOk (hb : Heap) (env : Env) (F P : PH) : Out → Flow → Prop
  | .next ρ, f => f = .next ∧ Vars hb env F P ρ ∧ Mut env F P
  | .ret d, f => ∃ v, f = .ret v ∧ Rep F d v
  | .brk ρ, f => f = .brk ∧ Vars hb env F P ρ ∧ Mut env F P
  | .any Q, f => Q F P f
structure Fx where
  env : Env
  F₀ : PH
  P₀ : PH
  nm : ∀ a, muts env a → P₀ a = none
noncomputable def Fx.soft (fx : Fx) (P : PH) (a : Addr) : Prop := muts fx.env a ∨ (fx.P₀ a = none ∧ ∃ o, P a = some o ∧ iterCls o = true)
theorem Fx.soft_new {fx : Fx} {P : PH} {a : Addr} (h : fx.soft P a) : fx.P₀ a = none := h.elim (fx.nm a) (·.1)
structure XS (fx : Fx) extends XP where
  stp : ∀ (W : Addr → Prop) (F P F' P' : PH), p F P → Step W F P F' P' → (∀ a, W a → fx.soft P a) → p F' P'
noncomputable def XS.tt {fx : Fx} : XS fx := ⟨XP.tt, fun _ _ _ _ _ _ _ _ => trivial⟩
theorem inv_step {fx : Fx} {W : Addr → Prop} {F P F' P' : PH} (h : Ext fx.F₀ fx.P₀ F P) (s : Step W F P F' P') (hW : ∀ a, W a → fx.P₀ a = none) : Ext fx.F₀ fx.P₀ F' P' :=
  ⟨h.f.trans s.f, fun a o e => s.p a o (h.p a o e) fun q => (by rw [hW a q] at e; cases e), s.fp, fun a e => by
    rcases s.new a e with q | ⟨q, _⟩
    · exact h.new a q
    · refine .inr ?_
      cases e : fx.P₀ a with
      | none => rfl
      | some o => rw [h.p a o e] at q; cases q⟩
structure Ex (g : G) (A : Around) (fx : Fx) (X X' : XS fx) (t : Sem Flow) (ρ : List (Str × D)) (o : Out) : Prop where
  run : ∀ F P, Ext fx.F₀ fx.P₀ F P → Vars g.hb fx.env F P ρ → Mut fx.env F P → X.p F P → Tr g.prog g.w A t P (fun P' f => ∃ F', Soft F P F' P' ∧ Ext fx.F₀ fx.P₀ F' P' ∧ X'.p F' P' ∧ OutOk g.hb fx.env F' P' o f)
end
section
variable {g : G} {A : Around} {fx : Fx} {ρ ρ' : List (Str × D)} {X X' X'' : XS fx}
theorem Ex.nil : Ex g A fx X X (execs [] fx.env) ρ (.next ρ) := Ex.mk fun F P I V M x s hs => wpAny_execs_nil ⟨_, s.toks, P, rfl, hs, F, (Ext.refl V.fp).soft, I, x, rfl, V, M⟩
theorem Ex.cons {st : Stmt} {r : List Stmt} {ρ₁ : List (Str × D)} {o : Out} (h₁ : Ex g A fx X X' (exec st fx.env) ρ (.next ρ₁)) (h₂ : Ex g A fx X' X'' (execs r fx.env) ρ₁ o) : Ex g A fx X X'' (execs (st :: r) fx.env) ρ o := Ex.mk fun F P I V M x s hs => by
  refine wpAny_execs_cons ((h₁.run F P I V M x).out hs fun h tk P₁ f hP ⟨F₁, t₁, I₁, x₁, q⟩ => ?_)
  obtain ⟨rfl, V₁, M₁⟩ := q
  exact (h₂.run F₁ P₁ I₁ V₁ M₁ x₁).out hP fun h tk P₂ f hP ⟨F₂, t₂, I₂, x₂, q⟩ => ⟨_, _, P₂, rfl, hP, F₂, t₁.trans t₂, I₂, x₂, q⟩
theorem Ex.last {st : Stmt} {r : List Stmt} {d : D} (h₁ : Ex g A fx X X' (exec st fx.env) ρ (.ret d)) : Ex g A fx X X' (execs (st :: r) fx.env) ρ (.ret d) := Ex.mk fun F P I V M x s hs => by
  refine wpAny_execs_cons ((h₁.run F P I V M x).out hs fun h tk P₁ f hP ⟨F₁, t₁, I₁, x₁, q⟩ => ?_)
  obtain ⟨v, rfl, r⟩ := q
  exact ⟨_, _, P₁, rfl, hP, F₁, t₁, I₁, x₁, v, rfl, r⟩
theorem Ex.ret {e : Expr} {pos : Pos} {d : D} (h : Ev g A fx.env ρ X.toXP e d) : Ex g A fx X X (exec (.Return (some e) pos) fx.env) ρ (.ret d) := Ex.mk fun F P I V M x s hs =>
  wpAny_Return_some ((h.run F P V x).out hs fun h tk P₁ v hP ⟨F₁, e₁, r⟩ => ⟨_, _, P₁, rfl, hP, F₁, e₁.soft, I.trans e₁, X.st _ _ _ _ x e₁, v, rfl, r⟩)
theorem Ex.sub {t : Sem Flow} {ρ₁ : List (Str × D)} (h : Ex g A fx X X' t ρ (.next ρ₁)) (q : ∀ x d, ρ'.lookup x = some d → ρ₁.lookup x = some d) : Ex g A fx X X' t ρ (.next ρ') := Ex.mk fun F P I V M x =>
  (h.run F P I V M x).mono fun P' f ⟨F', t', s, x', e, V', M'⟩ => ⟨F', t', s, x', e, V'.sub q, M'⟩
theorem Ex.pre {t : Sem Flow} {ρ₁ : List (Str × D)} {o : Out} (h : Ex g A fx X X' t ρ₁ o) (q : ∀ x d, ρ₁.lookup x = some d → ρ.lookup x = some d) : Ex g A fx X X' t ρ o := Ex.mk fun F P I V M x => h.run F P I (V.sub q) M x
theorem Ex.store {F P : PH} {x : Str} {d : D} {v : Value} (I : Ext fx.F₀ fx.P₀ F P) (V : Vars g.hb fx.env F P ρ) (M : Mut fx.env F P) (xx : X.p F P) (r : Rep F d v) (hx : AdrOk fx.env (muts fx.env) x) :
    Tr g.prog g.w A (storeName fx.env x v) P (fun P' _ => Soft F P F P' ∧ Ext fx.F₀ fx.P₀ F P' ∧ X.p F P' ∧ Vars g.hb fx.env F P' ((x, d) :: ρ) ∧ Mut fx.env F P') :=
  (store_ok (A := A) V M r hx).mono fun P' _ ⟨V', M', s, t⟩ => ⟨t, inv_step I s fx.nm, X.stp _ _ _ _ _ xx s fun a h => .inl h, V', M'⟩
theorem Ex.assign {x : Str} {xp pos : Pos} {value : Expr} {d : D} (h : Ev g A fx.env ρ X.toXP value d) (hx : AdrOk fx.env (muts fx.env) x)
    (hs : swapsWith value (some (.Name x xp)) pos.line fx.env = pure false) : Ex g A fx X X (exec (.Assign [.Name x xp] value pos) fx.env) ρ (.next ((x, d) :: ρ)) := Ex.mk fun F P I V M xx s hP₀ => by
  refine wpAny_Assign_Name ((h.run F P V xx).out hP₀ fun h tk P₁ v hP ⟨F₁, e₁, r⟩ => ?_) hs
  exact (Ex.store (I.trans e₁) (V.ext e₁) (M.ext V e₁) (X.st _ _ _ _ xx e₁) r hx).out hP fun h tk P₂ _ hP ⟨t₂, I₂, x₂, V₂, M₂⟩ => ⟨_, _, P₂, rfl, hP, F₁, e₁.soft.trans t₂, I₂, x₂, rfl, V₂, M₂⟩
theorem Ex.if {t : Expr} {b o : List Stmt} {pos : Pos} {c : Bool} {out : Out} (ht : EvB g A fx.env ρ X.toXP t c) (h₁ : c = true → Ex g A fx X X' (execs b fx.env) ρ out) (h₀ : c = false → Ex g A fx X X' (execs o fx.env) ρ out) :
    Ex g A fx X X' (exec (.If t b o pos) fx.env) ρ out := Ex.mk fun F P I V M x s hs => by
  refine wpAny_If ((ht.run F P V x).out hs fun h tk P₁ c' hP ⟨F₁, e₁, r⟩ => ?_)
  subst r
  have V₁ := V.ext e₁
  have M₁ := M.ext V e₁
  have x₁ := X.st _ _ _ _ x e₁
  cases c' with
  | true => exact ((h₁ rfl).run F₁ P₁ (I.trans e₁) V₁ M₁ x₁).out hP fun h tk P₂ f hP ⟨F₂, t₂, I₂, x₂, q⟩ => ⟨_, _, P₂, rfl, hP, F₂, e₁.soft.trans t₂, I₂, x₂, q⟩
  | false => exact ((h₀ rfl).run F₁ P₁ (I.trans e₁) V₁ M₁ x₁).out hP fun h tk P₂ f hP ⟨F₂, t₂, I₂, x₂, q⟩ => ⟨_, _, P₂, rfl, hP, F₂, e₁.soft.trans t₂, I₂, x₂, q⟩
end
end TL
end
section
namespace TL
open PySem PySem.W PyProof.Rows PySem.Calls PyProof.Rows.LCg
noncomputable def NextOk (g : G) (A : Around) (it : Value) (target : Expr) (P : PH) (Φ : PH → Value → Prop) : Prop :=
  ∀ s : Shared, Has s.heap P → wpAny (model g.prog g.w) A (pyNext it) (fun r s₁ => ∃ v, r = some v ∧ wpAny (model g.prog g.w) A (letOwnedTupleGo target it v) (fun _ s₂ => ∃ h tk P', s₂ = { s with heap := h, toks := tk } ∧ Has h P' ∧ Φ P' v) (fun _ _ => False) s₁) (fun _ _ => False) s
structure Iter (g : G) (A : Around) (it : Value) (W : Addr → Prop) (St : Nat → PH → PH → Prop) (ds : List D) (target : Expr) : Prop where
  soft : ∀ i F P, St i F P → ∀ a, W a → ∃ o, P a = some o ∧ iterCls o = true
  off : ∀ i F P, St i F P → ∀ a, W a → F a = none
  keep : ∀ i F P F' P', St i F P → Sub F F' → (∀ a o, W a → P a = some o → P' a = some o) → (∀ a, W a → F' a = none) → St i F' P'
  next : ∀ i F P d, Sub F P → St i F P → ds[i]? = some d → NextOk g A it target P (fun P' v => ∃ F', Step W F P F' P' ∧ St (i + 1) F' P' ∧ Rep F' d v)
  done : ∀ i F P, Sub F P → St i F P → ds[i]? = none → Tr g.prog g.w A (pyNext it) P (fun P' r => r = none ∧ Step W F P F P')
  self : ∀ i F P, Sub F P → St i F P → Tr g.prog g.w A (pyIter it) P (fun P' v => P' = P ∧ v = it)
noncomputable def Itb (g : G) (A : Around) (d : D) (ds : List D) (target : Expr) : Prop :=
  ∀ F P v, Sub F P → Rep F d v → Tr g.prog g.w A (pyIter v) P (fun P' it => ∃ W St, Iter g A it W St ds target ∧ Ext F P F P' ∧ St 0 F P' ∧ ∀ a, W a → P a = none)
noncomputable def ownTup : List String := ["enumerate", "zip", "dict_itemiterator", "dict_reverseitemiterator", "odict_iterator", "itertools.zip_longest", "itertools.pairwise"]
noncomputable def plainIter (o : Obj) : Prop := ∃ n vs, o.cls = .type n ∧ o.data = .fields vs ∧ ownTup.contains n = false
theorem letgo_seq {prog : Program} {w : World} {A : Around} {E : Value → Shared → Prop} {s : Shared} {I : Addr} {v : Value} {o : Obj} {Q : Unit → Shared → Prop} (ho : s.heap.get? I = some o) (hp : plainIter o) (h : Q () s) (es : List Expr) (x1) (pos : Pos) :
    wpAny (model prog w) A (letOwnedTupleGo (.Tuple es x1 pos) (.ref I) v) Q E s := by
  obtain ⟨n, vs, hc, hd, hn⟩ := hp
  cases v with
  | ref a =>
    refine wpAny_bind (wpAny_load ho ?_)
    rw [hc, hd]
    show wpAny _ A (if (ownTup.contains n && vs[0]? == some (rawInt a)) = true then _ else _) Q E s
    rw [hn]
    exact wpAny_pure h
  | _ => exact wpAny_pure h
theorem letgo_plain {prog : Program} {w : World} {A : Around} {E : Value → Shared → Prop} {s : Shared} {target : Expr} {I : Addr} {v : Value} {o : Obj} {Q : Unit → Shared → Prop} (ho : s.heap.get? I = some o) (hp : plainIter o) (h : Q () s) :
    wpAny (model prog w) A (letOwnedTupleGo target (.ref I) v) Q E s := by
  cases target with
  | Tuple es x1 pos => exact letgo_seq ho hp h es x1 pos
  | List es pos => exact letgo_seq ho hp h es 0 pos
  | _ => exact wpAny_pure h
section
variable {g : G} {A : Around}
noncomputable def WSt (I : Addr) (fp : List Addr) (n : Nat) (St : Nat → Heap → Prop) (F₀ : PH) (i : Nat) (F P : PH) : Prop :=
  i ≤ n ∧ Sub F₀ F ∧ F I = none ∧ (∃ o, P I = some o ∧ iterCls o = true ∧ plainIter o) ∧ (∀ b ∈ fp, b = I ∨ ∃ o, F b = some o) ∧
    ∃ h₁ : Heap, St i h₁ ∧ ∀ b ∈ fp, ∀ o, h₁.get? b = some o → (b = I ∧ P I = some o) ∨ F b = some o
theorem Iter.ofWalks {I : Addr} {fp : List Addr} {n : Nat} {Pv : Nat → Value → Prop} {St : Nat → Heap → Prop} {ds : List D} {target : Expr} {F₀ : PH} (Wk : Walks g.prog g.w A I fp [I] n Pv St) (hn : n = ds.length)
    (hc : ∀ i h, St i h → ∃ o, h.get? I = some o ∧ iterCls o = true ∧ plainIter o) (hv : ∀ i v F' d, Sub F₀ F' → Pv i v → ds[i]? = some d → Rep F' d v) :
    Iter g A (.ref I) (fun a => a = I) (WSt I fp n St F₀) ds target := by
  have here : ∀ {i F P} {h : Heap}, WSt I fp n St F₀ i F P → Sub F P → Has h P → St i h := fun {i F P h} x hs hP => by
    obtain ⟨_, _, _, _, _, h₁, hst, hk⟩ := x
    exact Wk.frame i h₁ h hst fun b hb o e => by
      rcases hk b hb o e with ⟨q, z⟩ | z
      · subst q; exact hP _ _ z
      · exact hP _ _ (hs _ _ z)
  refine ⟨fun i F P ⟨_, _, _, ⟨o, h1, h2, _⟩, _⟩ a ha => by subst ha; exact ⟨o, h1, h2⟩, fun i F P ⟨_, _, h1, _⟩ a ha => by subst ha; exact h1, fun i F P F' P' x hf hp hn => ?_, fun i F P d hs x hd s hP => ?_, fun i F P hs x hd s hP => ?_, fun i F P hs x s hP => Wk.self i s _ _ (here x hs hP) ⟨_, s.toks, P, rfl, hP, rfl, rfl⟩⟩
  · obtain ⟨hi, h0, h1, ⟨o, h2, h3, h4⟩, h5, h₁, hst, hk⟩ := x
    refine ⟨hi, h0.trans hf, hn I rfl, ⟨o, hp _ _ rfl h2, h3, h4⟩, fun b hb => (h5 b hb).imp id fun ⟨o', q⟩ => ⟨o', hf _ _ q⟩, h₁, hst, fun b hb o' q => ?_⟩
    rcases hk b hb o' q with ⟨q, z⟩ | z
    · subst q; exact .inl ⟨rfl, hp _ _ rfl z⟩
    · exact .inr (hf _ _ z)
  · have st := here x hs hP
    obtain ⟨hi, h0, h1, ⟨o, h2, h3, h4⟩, h5, _⟩ := x
    have hlt : i < n := by rw [hn]; exact (List.getElem?_eq_some_iff.mp hd).1
    refine Wk.item i s _ _ hlt st fun v h' tk hPv st' hk => ?_
    obtain ⟨o', ho', c1, c2⟩ := hc _ _ st'
    refine ⟨v, rfl, letgo_plain ho' c2 ⟨h', tk, upd P I o', rfl, fun b ob e => ?_, F, .upd hs h1 rfl, ⟨hlt, h0, h1, ⟨o', upd_self .., c1, c2⟩, h5, h', st', fun b hb ob e => ?_⟩, hv i v F d h0 hPv hd⟩⟩
    · by_cases q : b = I
      · subst q; rw [upd_self] at e; cases e; exact ho'
      · rw [upd_ne q] at e; exact hk b ob (by simpa using q) (hP _ _ e)
    · rcases h5 b hb with q | ⟨o₂, q⟩
      · subst q; rw [ho'] at e; cases e; exact .inl ⟨rfl, upd_self ..⟩
      · by_cases z : b = I
        · subst z; rw [h1] at q; cases q
        · have := hk b o₂ (by simpa using z) (hP _ _ (hs _ _ q))
          rw [this] at e; cases e; exact .inr q
  · have st := here x hs hP
    obtain ⟨hi, h0, h1, _⟩ := x
    have : i = n := Nat.le_antisymm hi (by rw [hn]; simpa using hd)
    subst this
    exact Wk.done s _ _ st fun h' tk hk => ⟨h', tk, hid P I, rfl, hP.hid fun b o q e => hk b o (by simpa using q) e, rfl, .hid hs h1 rfl⟩
theorem cls_iter {o : Obj} {n : String} {fs : Array Value} (h : o.cls = .type n) (hd : o.data = .fields fs) (h' : (["list_iterator", "tuple_iterator", "range_iterator", "str_ascii_iterator", "str_iterator", "enumerate", "list_reverseiterator", "dict_itemiterator"].contains n) = true)
    (h'' : ownTup.contains n = false) : iterCls o = true ∧ plainIter o := by
  refine ⟨?_, n, fs, h, hd, h''⟩
  unfold iterCls
  rw [h, hd]
  exact (congrArg (· && true) h' : _)
theorem Ext.own {F P : PH} {n : Addr} {o : Obj} (hf : Sub F P) (h : P n = Option.none) : Ext F P F (upd P n o) :=
  ⟨.refl _, .upd_new h, fun a o' e => Sub.upd_new h a o' (hf a o' e), fun _ e => .inl e⟩
theorem none_of {F P : PH} (hf : Sub F P) {a : Addr} (h : P a = Option.none) : F a = Option.none := by
  cases e : F a with
  | none => rfl
  | some o => rw [hf _ _ e] at h; cases h
theorem Itb.lst (hh : A.handled = none) {ds : List D} {target : Expr} : Itb g A (.lst ds) ds target := fun F P v hf r s hP => by
  simp only [Rep] at r
  obtain ⟨a, o, vs, n, rfl, hF, hc, hd, hl⟩ := r
  have hI : s.heap.IsList a vs := ⟨o, hP _ _ (hf _ _ hF), hc.1, n, hd⟩
  have hne : a ≠ s.heap.objs.size := Nat.ne_of_lt (Heap.lt_size (hP _ _ (hf _ _ hF)))
  refine wpAny_pyIter_list hI ⟨_, _, _, rfl, hP.push rfl, (fun a => a = s.heap.objs.size), _, Iter.ofWalks (F₀ := F) (Walks.list hh s.heap.objs.size a hne vs) (by rw [← hl.length]; simp) (fun i h st => ?_) (fun i v F' d hs hp hd' => ?_), .own hf hP.fresh, ⟨Nat.zero_le _, .refl _, none_of hf hP.fresh, ⟨_, upd_self .., rfl, _, _, rfl, rfl, rfl⟩, fun b hb => ?_, s.heap.push { cls := .type "list_iterator", data := .fields #[.ref a, .int 0 0] }, ⟨⟨_, Heap.get?_push_size _ rfl, rfl, rfl⟩, hI.push _⟩, fun b hb o' e => ?_⟩, fun a e => by subst e; exact hP.fresh⟩
  · obtain ⟨o', e1, e2, e3⟩ := st.1
    exact ⟨o', e1, cls_iter e2 e3 (by decide) (by decide)⟩
  · obtain ⟨d', q, r⟩ := hl.get' (i := i) (v := v) (by simpa using hp)
    rw [hd'] at q; cases q; exact r.sub hs
  · rcases List.mem_cons.mp hb with rfl | hb
    · exact .inl rfl
    · rw [List.mem_singleton.mp hb]; exact .inr ⟨o, hF⟩
  · rcases List.mem_cons.mp hb with rfl | hb
    · rw [Heap.get?_push_size _ rfl] at e; cases e; exact .inl ⟨rfl, upd_self ..⟩
    · rw [List.mem_singleton.mp hb] at e ⊢
      rw [Heap.get?_push_of_some _ (hP _ _ (hf _ _ hF))] at e; cases e; exact .inr hF
theorem tupIs {h : Heap} {a : Addr} {o : Obj} {vs : Array Value} {n : Nat} (e : h.get? a = some o) (c : o.cls = .type "tuple") (d : o.data = .seq vs n) : h.IsTuple a vs := ⟨o, e, c, n, d⟩
theorem Itb.tup (hh : A.handled = none) {ds : List D} {target : Expr} : Itb g A (.tup ds) ds target := fun F P v hf r s hP => by
  simp only [Rep] at r
  obtain ⟨a, o, vs, n, rfl, hF, hc, hd, hl⟩ := r
  have hI : s.heap.IsTuple a vs := tupIs (hP _ _ (hf _ _ hF)) hc.1 hd
  have hne : a ≠ s.heap.objs.size := Nat.ne_of_lt (Heap.lt_size (hP _ _ (hf _ _ hF)))
  refine wpAny_pyIter_tuple hI ⟨_, _, _, rfl, hP.push rfl, (fun a => a = s.heap.objs.size), _, Iter.ofWalks (F₀ := F) (Walks.tuple hh s.heap.objs.size a hne vs) (by rw [← hl.length]; simp) (fun i h st => ?_) (fun i v F' d hs hp hd' => ?_), .own hf hP.fresh, ⟨Nat.zero_le _, .refl _, none_of hf hP.fresh, ⟨_, upd_self .., rfl, _, _, rfl, rfl, rfl⟩, fun b hb => ?_, s.heap.push { cls := .type "tuple_iterator", data := .fields #[.ref a, .int 0 0] }, ⟨⟨_, Heap.get?_push_size _ rfl, rfl, rfl⟩, tupIs (Heap.get?_push_of_some _ (hP _ _ (hf _ _ hF))) hc.1 hd⟩, fun b hb o' e => ?_⟩, fun a e => by subst e; exact hP.fresh⟩
  · obtain ⟨o', e1, e2, e3⟩ := st.1
    exact ⟨o', e1, cls_iter e2 e3 (by decide) (by decide)⟩
  · obtain ⟨d', q, r⟩ := hl.get' (i := i) (v := v) (by simpa using hp)
    rw [hd'] at q; cases q; exact r.sub hs
  · rcases List.mem_cons.mp hb with rfl | hb
    · exact .inl rfl
    · rw [List.mem_singleton.mp hb]; exact .inr ⟨o, hF⟩
  · rcases List.mem_cons.mp hb with rfl | hb
    · rw [Heap.get?_push_size _ rfl] at e; cases e; exact .inl ⟨rfl, upd_self ..⟩
    · rw [List.mem_singleton.mp hb] at e ⊢
      rw [Heap.get?_push_of_some _ (hP _ _ (hf _ _ hF))] at e; cases e; exact .inr hF
noncomputable def rngD (a : Int) (n : Nat) : List D := (List.range n).map fun (i : Nat) => D.int (a + (i : Int))
theorem Itb.rng (hh : A.handled = none) {a b : Int} {n : Nat} {target : Expr} (hsm : Builtin.Range.small a b 1 = true) (hn : Builtin.Range.rangeSize a b 1 = ((n : Nat) : Int)) : Itb g A (.rng a b) (rngD a n) target := fun F P v hf r s hP => by
  simp only [Rep] at r
  obtain ⟨r, t, u, c, rfl, hF⟩ := r
  refine wpAny_pyIter_range (hP _ _ (hf _ _ hF)) hsm ⟨_, _, _, rfl, hP.push rfl, (fun a => a = s.heap.objs.size), _, Iter.ofWalks (F₀ := F) (range_walks hh a n) (by simp [rngD]) (fun i h st => ?_) (fun i v F' d hs hp hd' => ?_), .own hf hP.fresh, ⟨Nat.zero_le _, .refl _, none_of hf hP.fresh, ⟨_, upd_self .., rfl, _, _, rfl, rfl, rfl⟩, fun b hb => ?_, s.heap.push { cls := .type "range_iterator", data := .fields #[rawInt a, rawInt (Builtin.Range.rangeSize a b 1), rawInt 1] }, (by show IsRangeIter _ _ _ _ _; rw [hn]; simpa using Heap.get?_push_size _ rfl), fun b hb o' e => ?_⟩, fun a e => by subst e; exact hP.fresh⟩
  · exact ⟨_, st, rfl, _, _, rfl, rfl, rfl⟩
  · obtain ⟨t, rfl⟩ := hp
    obtain ⟨hi, e⟩ := List.getElem?_eq_some_iff.mp hd'
    simp only [rngD, List.getElem_map, List.getElem_range] at e
    subst e
    simp only [Rep]; exact ⟨_, rfl⟩
  · rw [List.mem_singleton.mp hb]; exact .inl rfl
  · rw [List.mem_singleton.mp hb] at e ⊢
    rw [Heap.get?_push_size _ rfl] at e; cases e; exact .inl ⟨rfl, by rw [upd_self, hn]⟩
end
section
variable {g : G} {A : Around} {fx : Fx} {ρ ρ' : List (Str × D)}
structure EvI (g : G) (A : Around) (env : Env) (ρ : List (Str × D)) (X : XP) (iter : Expr) (ds : List D) (target : Expr) : Prop where
  run : ∀ F P, Vars g.hb env F P ρ → X.p F P → ∀ s : Shared, Has s.heap P → wpAny (model g.prog g.w) A (eval iter env) (fun x s₁ => wpAny (model g.prog g.w) A (pyIter x) (fun it s₂ => ∃ h tk F' P' W St, s₂ = { s with heap := h, toks := tk } ∧ Has h P' ∧ Ext F P F' P' ∧ Iter g A it W St ds target ∧ St 0 F' P' ∧ ∀ a, W a → P a = Option.none) (fun _ _ => False) s₁) (fun _ _ => False) s
theorem EvI.of {env : Env} {X : XP} {iter target : Expr} {d : D} {ds : List D} (hi : Ev g A env ρ X iter d) (ht : Itb g A d ds target) : EvI g A env ρ X iter ds target := EvI.mk fun F P V x s hP =>
  (hi.run F P V x).out hP fun h₁ tk₁ P₁ v hP₁ ⟨F₁, e₁, r₁⟩ => (ht F₁ P₁ v e₁.fp r₁).out hP₁ fun h₂ tk₂ P₂ it hP₂ ⟨W, St, It, e₂, st₀, hnew⟩ =>
    ⟨_, _, F₁, P₂, W, St, rfl, hP₂, e₁.trans e₂, It, st₀, fun a ha => none_of e₁.p (hnew a ha)⟩
noncomputable def NextQ (g : G) (fx : Fx) {ι : Type} (R : ι → List (Str × D)) (X : ι → XS fx) (F P : PH) (f : Flow) : Prop := f = .next ∧ ∃ j, Vars g.hb fx.env F P (R j) ∧ (X j).p F P
noncomputable def TurnQ (g : G) (fx : Fx) {ι : Type} (R : ι → List (Str × D)) (X : ι → XS fx) (Rb : ι → List (Str × D)) (Xb : ι → XS fx) (F P : PH) (f : Flow) : Prop :=
  (f = .next ∧ ∃ j, Vars g.hb fx.env F P (R j) ∧ (X j).p F P) ∨ (f = .brk ∧ ∃ j, Vars g.hb fx.env F P (Rb j) ∧ (Xb j).p F P)
structure ForSt (hb : Heap) (fx : Fx) (F₀ P₀ : PH) (W : Addr → Prop) (ρ : List (Str × D)) (X : XS fx) (S : PH → PH → Prop) (F P : PH) : Prop where
  t : Soft F₀ P₀ F P
  I : Ext fx.F₀ fx.P₀ F P
  V : Vars hb fx.env F P ρ
  x : X.p F P
  st : S F P
  hw : ∀ a, W a → F a = none
structure ForW (fx : Fx) (P₀ : PH) (W : Addr → Prop) : Prop where
  old : ∀ a o, P₀ a = some o → ¬ W a
  new : ∀ a, W a → fx.P₀ a = none
  mt : ∀ a, W a → ¬ muts fx.env a
theorem ForSt.turn {hb : Heap} {F₀ P₀ F P F' P' : PH} {W : Addr → Prop} {X : XS fx} {S S' : PH → PH → Prop} (w : ForW fx P₀ W) (x : ForSt hb fx F₀ P₀ W ρ X S F P) (hs : ∀ a, W a → ∃ o, P a = some o ∧ iterCls o = true) (s : Step W F P F' P') (h : S' F' P') : ForSt hb fx F₀ P₀ W ρ X S' F' P' :=
  have no : ∀ a o, P a = some o → iterCls o = false → ¬ W a := fun a o e c ha => (hs a ha).elim fun o' q => by
    rw [Option.some.inj (e.symm.trans q.1), q.2] at c; exact nomatch c
  have some' : ∀ a, W a → P a ≠ none := fun a ha => (hs a ha).elim fun o' q => by rw [q.1]; exact fun z => nomatch z
  ⟨⟨x.t.f.trans s.f, fun a o e k => s.p a o (x.t.it a o e k) (w.old _ _ e), fun a o e k n => s.off (x.t.off a o e k n) (by rw [x.t.it a o e k]; exact fun z => nomatch z)⟩,
   inv_step x.I s w.new, x.V.step s (fun q => w.mt _ q (.inl rfl)) fun y c o v' _ e hd => no _ _ e (by unfold iterCls; rw [hd, Bool.and_false]),
   X.stp _ _ _ _ _ x.x s fun a ha => .inr ⟨w.new a ha, hs a ha⟩, h, fun a ha => s.off (x.hw a ha) (some' a ha)⟩
theorem ForSt.on {A : Around} {F₀ P₀ F P F' P' : PH} {W : Addr → Prop} {it : Value} {St : Nat → PH → PH → Prop} {ds : List D} {target : Expr} {X X' : XS fx} {i : Nat} (It : Iter g A it W St ds target) (x : ForSt g.hb fx F₀ P₀ W ρ X (St i) F P) (k : Soft F P F' P') (I' : Ext fx.F₀ fx.P₀ F' P') (V' : Vars g.hb fx.env F' P' ρ') (x' : X'.p F' P') : ForSt g.hb fx F₀ P₀ W ρ' X' (St i) F' P' :=
  have hw : ∀ a, W a → F' a = none := fun a ha => (It.soft _ _ _ x.st a ha).elim fun o' q => k.off a o' q.1 q.2 (x.hw a ha)
  ⟨x.t.trans k, I', V', x', It.keep i _ _ _ _ x.st k.f (fun a o ha e => k.it a o e ((It.soft _ _ _ x.st a ha).elim fun o' q => by rw [Option.some.inj (e.symm.trans q.1)]; exact q.2)) hw, hw⟩
noncomputable def ForInv (hb : Heap) (fx : Fx) (F₀ P₀ : PH) (W : Addr → Prop) {ι : Type} (R : Nat → ι → List (Str × D)) (X : Nat → ι → XS fx) (St : Nat → PH → PH → Prop) (n : Nat) (s : Shared) (k : Nat) (s' : Shared) : Prop :=
  ∃ i j F P, i ≤ n ∧ k = n + 1 - i ∧ Has s'.heap P ∧ (∃ h tk, s' = { s with heap := h, toks := tk }) ∧ ForSt hb fx F₀ P₀ W (R i j) (X i j) (St i) F P
theorem forQ_loop {ι : Type} {R : Nat → ι → List (Str × D)} {X : Nat → ι → XS fx} {Rb : ι → List (Str × D)} {Xb : ι → XS fx} {j₀ : ι} {target : Expr} {body : List Stmt} {ds : List D} {F₀ P₀ F P : PH} {W : Addr → Prop} {it : Value} {St : Nat → PH → PH → Prop} {Z : Result → Shared → Prop} {s : Shared} {h : Heap} {tk : Nat}
    (w : ForW fx P₀ W) (It : Iter g A it W St ds target)
    (turn : ∀ i j di, ds[i]? = some di → ∃ ρ', Asg g A fx.env (muts fx.env) target di (R i j) ρ' ∧ Ex g A fx (X i j) XS.tt (execs body fx.env) ρ' (.any (TurnQ g fx (R (i + 1)) (X (i + 1)) Rb Xb)))
    (hend : ∀ F P j, Vars g.hb fx.env F P (R ds.length j) → (X ds.length j).p F P → ∃ j', Vars g.hb fx.env F P (Rb j') ∧ (Xb j').p F P)
    (hP : Has h P) (x : ForSt g.hb fx F₀ P₀ W (R 0 j₀) (X 0 j₀) (St 0) F P)
    (k : ∀ h tk F P j, Has h P → Soft F₀ P₀ F P → Ext fx.F₀ fx.P₀ F P → Vars g.hb fx.env F P (Rb j) → (Xb j).p F P → Z (.ok .next) { s with heap := h, toks := tk }) :
    codeAny (model g.prog g.w) A (.forLoop target it body [] fx.env) Z { s with heap := h, toks := tk } := by
  refine codeAny_forLoop_any (ForInv g.hb fx F₀ P₀ W R X St ds.length s) ?_ (ds.length + 1) ⟨0, j₀, F, P, Nat.zero_le _, rfl, hP, ⟨_, _, rfl⟩, x⟩
  intro n s' ⟨i, j, F, P, hi, e1, hP, ⟨h, tk, e2⟩, x⟩
  subst e1 e2
  have sf := It.soft i F P x.st
  by_cases hlt : i < ds.length
  · have hd : ds[i]? = some ds[i] := List.getElem?_eq_getElem hlt
    obtain ⟨ρ', hA, hB⟩ := turn i j ds[i] hd
    refine wpAny_mono (It.next i F P ds[i] x.V.fp x.st hd _ hP) (fun r s₁ ⟨v, hr, z⟩ => ?_) fun _ _ e => e.elim
    subst hr
    refine wpAny_mono z (fun _ s₂ ⟨h₁, tk₁, P₁, hs₂, hP₁, F₁, sW, st₁, rv⟩ => ?_) fun _ _ e => e.elim
    subst hs₂
    have y := x.turn w sf sW st₁
    refine (hA F₁ P₁ v y.V y.V.m rv).out hP₁ fun h₂ tk₂ P₂ _ hP₂ ⟨F₂, sA, tA, V₂, _⟩ => ?_
    have y := y.on It tA (inv_step y.I sA fx.nm) V₂ ((X i j).stp _ _ _ _ _ y.x sA fun a h => .inl h)
    refine (hB.run F₂ P₂ y.I y.V y.V.m y.x).out hP₂ fun h₃ tk₃ P₃ f hP₃ ⟨F₃, t₃, I₃, _, q⟩ => ?_
    rcases q with ⟨q, j', V₃, x₃⟩ | ⟨q, j', V₃, x₃⟩
    · subst q
      exact ⟨ds.length + 1 - (i + 1), by omega, i + 1, j', F₃, P₃, hlt, rfl, hP₃, ⟨_, _, rfl⟩, y.on It t₃ I₃ V₃ x₃⟩
    · subst q
      exact k _ _ F₃ P₃ j' hP₃ (y.t.trans t₃) I₃ V₃ x₃
  · have e : i = ds.length := Nat.le_antisymm hi (Nat.not_lt.mp hlt)
    subst e
    refine (It.done _ F P x.V.fp x.st (by simp)).out hP fun h₁ tk₁ P₁ r hP₁ ⟨hr, sW⟩ => ?_
    subst hr
    have y := x.turn (S' := fun _ _ => True) w sf sW trivial
    obtain ⟨j', V', x'⟩ := hend F P₁ j y.V y.x
    exact wpAny_execs_nil (k _ _ F P₁ j' hP₁ y.t y.I V' x')
theorem Ex.forQ {ι : Type} {R : Nat → ι → List (Str × D)} {X : Nat → ι → XS fx} {Rb : ι → List (Str × D)} {Xb : ι → XS fx} {j₀ : ι} {iter target : Expr} {body : List Stmt} {pos : Pos} {ds : List D} (hi : EvI g A fx.env (R 0 j₀) (X 0 j₀).toXP iter ds target)
    (turn : ∀ i j di, ds[i]? = some di → ∃ ρ', Asg g A fx.env (muts fx.env) target di (R i j) ρ' ∧ Ex g A fx (X i j) XS.tt (execs body fx.env) ρ' (.any (TurnQ g fx (R (i + 1)) (X (i + 1)) Rb Xb)))
    (hend : ∀ F P j, Vars g.hb fx.env F P (R ds.length j) → (X ds.length j).p F P → ∃ j', Vars g.hb fx.env F P (Rb j') ∧ (Xb j').p F P)
    (hs : ∀ x, foldedSetIterable iter fx.env x = pure x := by intro _; rfl) :
    Ex g A fx (X 0 j₀) XS.tt (exec (.For target iter body [] pos) fx.env) (R 0 j₀) (.any (NextQ g fx Rb Xb)) := Ex.mk fun F₀ P₀ I V M x s hP =>
  wpAny_For (wpAny_mono (hi.run F₀ P₀ V x s hP) (fun xv s₁ z => wpAny_mono z (fun it s₂ ⟨h₂, tk₂, F₁, P₂, W, St, e, hP₂, e₁₂, It, st₀, hnew⟩ => by
    subst e
    refine forQ_loop ⟨fun a o e ha => ?_, fun a ha => none_of I.p (hnew a ha), fun a ha hm => ?_⟩ It turn hend hP₂ ⟨e₁₂.soft, I.trans e₁₂, V.ext e₁₂, (X 0 j₀).st _ _ _ _ x e₁₂, st₀, It.off 0 F₁ P₂ st₀⟩ fun h tk F P j hP t I V x => ⟨_, _, P, rfl, hP, F, t, I, trivial, rfl, j, V, x⟩
    · rw [hnew a ha] at e; exact nomatch e
    · have n := hnew a ha
      rcases hm with q | ⟨y, hk, hl⟩
      · subst q; exact V.locNe n
      · obtain ⟨_, o, v', q, _⟩ := M.cel y a hl hk
        rw [q] at n; exact nomatch n) fun _ _ e => e.elim) fun _ _ e => e) hs
theorem Ex.toQ {X X' : XS fx} {t : Sem Flow} {Q : PH → PH → Flow → Prop} (h : Ex g A fx X X' t ρ (.next ρ')) (q : ∀ F P, Vars g.hb fx.env F P ρ' → X'.p F P → Q F P .next) : Ex g A fx X XS.tt t ρ (.any Q) := Ex.mk fun F P I V M x s hP =>
  (h.run F P I V M x).out hP fun h tk P₁ f hP₁ ⟨F₁, t₁, I₁, x₁, q₁⟩ => ⟨_, _, P₁, rfl, hP₁, F₁, t₁, I₁, trivial, (show Q F₁ P₁ f from q₁.1 ▸ q _ _ q₁.2.1 x₁)⟩
theorem Ex.ofQ {X X' : XS fx} {t : Sem Flow} (h : Ex g A fx X XS.tt t ρ (.any (NextQ g fx (fun _ : Unit => ρ') (fun _ => X')))) : Ex g A fx X X' t ρ (.next ρ') := Ex.mk fun F P I V M x s hP =>
  (h.run F P I V M x).out hP fun h tk P₁ f hP₁ ⟨F₁, t₁, I₁, _, q₁, _, V₁, x₁⟩ => ⟨_, _, P₁, rfl, hP₁, F₁, t₁, I₁, x₁, q₁, V₁, V₁.m⟩
theorem Ex.forI {R : Nat → List (Str × D)} {X : Nat → XS fx} {iter target : Expr} {body : List Stmt} {pos : Pos} {ds : List D} (hi : EvI g A fx.env (R 0) (X 0).toXP iter ds target)
    (turn : ∀ i di, ds[i]? = some di → ∃ ρ', Asg g A fx.env (muts fx.env) target di (R i) ρ' ∧ Ex g A fx (X i) (X (i + 1)) (execs body fx.env) ρ' (.next (R (i + 1))))
    (hs : ∀ x, foldedSetIterable iter fx.env x = pure x := by intro _; rfl) :
    Ex g A fx (X 0) (X ds.length) (exec (.For target iter body [] pos) fx.env) (R 0) (.next (R ds.length)) :=
  Ex.ofQ (Ex.forQ (R := fun i (_ : Unit) => R i) (X := fun i _ => X i) (j₀ := ()) hi (fun i _ di hd => (turn i di hd).elim fun ρ' z => ⟨ρ', z.1, z.2.toQ fun _ _ V x => .inl ⟨rfl, (), V, x⟩⟩) (fun _ _ _ V x => ⟨(), V, x⟩) hs)
theorem Ex.for {R : Nat → List (Str × D)} {X : Nat → XS fx} {iter target : Expr} {body : List Stmt} {pos : Pos} {d : D} {ds : List D} (hi : Ev g A fx.env (R 0) (X 0).toXP iter d) (ht : Itb g A d ds target)
    (turn : ∀ i di, ds[i]? = some di → ∃ ρ', Asg g A fx.env (muts fx.env) target di (R i) ρ' ∧ Ex g A fx (X i) (X (i + 1)) (execs body fx.env) ρ' (.next (R (i + 1))))
    (hs : ∀ x, foldedSetIterable iter fx.env x = pure x := by intro _; rfl) :
    Ex g A fx (X 0) (X ds.length) (exec (.For target iter body [] pos) fx.env) (R 0) (.next (R ds.length)) := Ex.forI (EvI.of hi ht) turn hs
end
end TL
end
section
namespace TL
open PySem PySem.W PyProof.Rows PySem.Calls PyProof.Rows.LCg
noncomputable def tailK (elt : Expr) (gens : List Comprehension) (scope : Scope) (pos : Pos) (k : Nat) (acc : Value) (env : Env) (jp : Sem Fin) : Sem Fin := match gens[k + 1]? with
  | some g' => eval g'.iter env >>= fun x => standAt g'.iter.pos >>= fun _ => if (g'.is_async != 0) = true then foldedIterable g'.iter x >>= fun x =>
      holding [x] (if (g'.is_async != 0) = true then asyncIter x else pyIter x) >>= fun it => runOwn (.compStart (.ListComp elt gens scope pos) (k + 1) it acc env) env >>= fun _ => jp
    else foldedSetIterable g'.iter env x >>= fun x =>
      holding [x] (if (g'.is_async != 0) = true then asyncIter x else pyIter x) >>= fun it => runOwn (.compStart (.ListComp elt gens scope pos) (k + 1) it acc env) env >>= fun _ => jp
  | none => (eval elt env >>= fun x => call (.builtin "list.append") [acc, x] >>= fun _ => pure ()) >>= fun _ => jp
noncomputable def testsC (ifs : List Expr) (env : Env) : Sem Bool := forIn ifs true fun c r => if r = true then do let ok ← isTrue c env (eval c env); pure (ForInStep.yield ok) else pure (ForInStep.yield r)
noncomputable def compBody (elt : Expr) (gens : List Comprehension) (scope : Scope) (pos : Pos) (k : Nat) (it acc : Value) (env : Env) (target : Expr) (ifs : List Expr) (v : Value) : Sem Fin :=
  assign target env v >>= fun _ => testsC ifs env >>= fun ok =>
    if ok = true then tailK elt gens scope pos k acc env (again (.compLoop (.ListComp elt gens scope pos) k it acc env)) else again (.compLoop (.ListComp elt gens scope pos) k it acc env)
theorem compTurn_at {elt target iter : Expr} {ifs : List Expr} {gens : List Comprehension} {scope : Scope} {pos : Pos} {k : Nat} (h : gens[k]? = some ⟨target, iter, ifs, 0⟩) (it acc : Value) (env : Env) :
    compTurn (.ListComp elt gens scope pos) k it acc env = (standAt iter.pos >>= fun _ => pyNext it >>= fun r => match r with
      | none => pure (.done .next)
      | some v => letOwnedTupleGo target it v >>= fun _ => compBody elt gens scope pos k it acc env target ifs v) := by
  unfold compTurn
  dsimp only
  rw [h]
  rfl
theorem compStart_at {elt target iter : Expr} {ifs : List Expr} {gens : List Comprehension} {scope : Scope} {pos : Pos} {k : Nat} (h : gens[k]? = some ⟨target, iter, ifs, 0⟩) (it acc : Value) (env : Env) :
    compStart (.ListComp elt gens scope pos) k it acc env = (do
      if (← ask).params.followText "comprehension-iter-twice" then return ← again (.compLoop (.ListComp elt gens scope pos) k it acc env)
      rule "comprehension.iter-twice"
      standAt iter.pos
      again (.compLoop (.ListComp elt gens scope pos) k (← pyIter it) acc env)) := by
  unfold compStart
  rw [show (clausesOf (.ListComp elt gens scope pos))[k]? = some ⟨target, iter, ifs, 0⟩ from h]
  rfl
noncomputable def TrC (prog : Program) (w : World) (A : Around) (c : Code) (P : PH) (Φ : PH → Flow → Prop) : Prop :=
  ∀ s : Shared, Has s.heap P → codeAny (model prog w) A c (fun r s' => ∃ f h tk P', r = .ok f ∧ s' = { s with heap := h, toks := tk } ∧ Has h P' ∧ Φ P' f) s
theorem take_flat {α : Type} (yss : List (List α)) (i : Nat) (h : i < yss.length) : (yss.take (i + 1)).flatten = (yss.take i).flatten ++ yss[i] := by
  rw [List.take_succ_eq_append_getElem h, List.flatten_append]
  simp
noncomputable def Tests (g : G) (A : Around) (X : XP) (cenv : Env) (ρ : List (Str × D)) : List Expr → Bool → Prop
  | [], c => c = true
  | [t], c => EvB g A cenv ρ X t c
  | _, _ => False
noncomputable def Gen (g : G) (A : Around) (X : XP) (cenv : Env) (Wc : Addr → Prop) (elt : Expr) : List Comprehension → List (Str × D) → List D → Prop
  | [], ρ, ys => ∃ y, ys = [y] ∧ Ev g A cenv ρ X elt y
  | ⟨target, iter, ifs, as⟩ :: gs, ρ, ys => as = 0 ∧ (∀ x, foldedSetIterable iter cenv x = pure x) ∧ ∃ (d : D) (ds : List D) (yss : List (List D)), Ev g A cenv ρ X iter d ∧ Itb g A d ds target ∧ yss.length = ds.length ∧ ys = yss.flatten ∧
      ∀ (i : Nat) (di : D) (yi : List D), ds[i]? = some di → yss[i]? = some yi → ∃ ρ' c, Asg g A cenv Wc target di ρ ρ' ∧ (∀ x d, ρ.lookup x = some d → ρ'.lookup x = some d) ∧ Tests g A X cenv ρ' ifs c ∧
        (c = true → Gen g A X cenv Wc elt gs ρ' yi) ∧ (c = false → yi = [])
noncomputable def Turn (g : G) (A : Around) (X : XP) (cenv : Env) (Wc : Addr → Prop) (elt target : Expr) (ifs : List Expr) (gs : List Comprehension) (ρ : List (Str × D)) (ds : List D) (yss : List (List D)) : Prop :=
  ∀ (i : Nat) (di : D) (yi : List D), ds[i]? = some di → yss[i]? = some yi → ∃ ρ' c, Asg g A cenv Wc target di ρ ρ' ∧ (∀ x d, ρ.lookup x = some d → ρ'.lookup x = some d) ∧ Tests g A X cenv ρ' ifs c ∧
        (c = true → Gen g A X cenv Wc elt gs ρ' yi) ∧ (c = false → yi = [])
structure CSt (hb : Heap) (cenv : Env) (Fs Ps : PH) (D₀ : Addr) (ρ : List (Str × D)) (acc : List D) (F P : PH) : Prop where
  ext : Ext Fs Ps F P
  V : Vars hb cenv F P ρ
  M : Mut cenv F P
  off : F D₀ = none
  at' : ∃ xs, P D₀ = some (lst xs) ∧ RepL F acc xs
theorem lst_soft (xs : List Value) : iterCls (lst xs) = false := rfl
theorem CSt.ext' {hb : Heap} {cenv : Env} {Fs Ps F P F' P' : PH} {D₀ : Addr} {ρ : List (Str × D)} {acc : List D} (x : CSt hb cenv Fs Ps D₀ ρ acc F P) (e : Ext F P F' P') : CSt hb cenv Fs Ps D₀ ρ acc F' P' := by
  obtain ⟨xs, h1, h2⟩ := x.at'
  exact ⟨x.ext.trans e, x.V.ext e, x.M.ext x.V e, e.off x.off (by rw [h1]; exact fun z => nomatch z), xs, e.p _ _ h1, h2.sub e.f⟩
theorem Ext.then {Fs Ps F P F' P' : PH} {W : Addr → Prop} (h : Ext Fs Ps F P) (s : Step W F P F' P') (hW : ∀ a, W a → Ps a = none) : Ext Fs Ps F' P' :=
  ⟨h.f.trans s.f, fun a o e => s.p a o (h.p a o e) fun q => (by rw [hW a q] at e; cases e), s.fp, fun a e => by
    rcases s.new a e with q | ⟨q, _⟩
    · exact h.new a q
    · refine .inr ?_
      cases e : Ps a with
      | none => rfl
      | some o => rw [h.p a o e] at q; cases q⟩
theorem cell_soft {o : Obj} {v : Option Value} (h : o.data = .cell v) : iterCls o = false := by unfold iterCls; rw [h, Bool.and_false]
theorem Vars.locSoft {hb : Heap} {env : Env} {F P : PH} {ρ : List (Str × D)} (V : Vars hb env F P ρ) : ∃ o, P env.locals = some o ∧ iterCls o = false := by
  obtain ⟨m, oL, h1, ⟨es, ep, hd, _⟩, _⟩ := V.loc
  exact ⟨oL, h1, by unfold iterCls; rw [hd, Bool.and_false]⟩
theorem CSt.iter {hb : Heap} {cenv : Env} {Fs Ps F P F' P' : PH} {D₀ : Addr} {ρ : List (Str × D)} {acc : List D} {W : Addr → Prop} (x : CSt hb cenv Fs Ps D₀ ρ acc F P) (s : Step W F P F' P') (hW : ∀ a, W a → Ps a = none)
    (hs : ∀ a, W a → ∃ o, P a = some o ∧ iterCls o = true) : CSt hb cenv Fs Ps D₀ ρ acc F' P' := by
  have no : ∀ {a o}, P a = some o → iterCls o = false → ¬ W a := fun {a o} e c ha => by
    obtain ⟨o', q, z⟩ := hs a ha
    rw [e] at q; cases q; rw [c] at z; cases z
  obtain ⟨xs, h1, h2⟩ := x.at'
  obtain ⟨oL, l1, l2⟩ := x.V.locSoft
  refine ⟨x.ext.then s hW, x.V.step s (no l1 l2) fun y c o v _ e hd => no e (cell_soft hd), x.M.step x.V.locNe s fun y c o v _ e hd => no e (cell_soft hd), s.off x.off (by rw [h1]; exact fun z => nomatch z), xs, s.p _ _ h1 (no h1 (lst_soft xs)), h2.sub s.f⟩
section
variable {g : G} {A : Around} {X : XP} {cenv : Env} {Wc : Addr → Prop} {elt : Expr} {gens : List Comprehension} {scope : Scope} {pos : Pos} {D₀ : Addr} {Fs Ps : PH}
theorem CSt.get {ρ : List (Str × D)} {acc : List D} {F P : PH} (hX : X.p Fs Ps) (C : CSt g.hb cenv Fs Ps D₀ ρ acc F P) : X.p F P := X.st _ _ _ _ hX C.ext
noncomputable def TailOk (g : G) (A : Around) (X : XP) (cenv : Env) (Wc : Addr → Prop) (elt : Expr) (gens : List Comprehension) (scope : Scope) (pos : Pos) (D₀ : Addr) (Fs Ps : PH) (rest : List Comprehension) (k : Nat) : Prop :=
  ∀ (ρ : List (Str × D)) (yi acc : List D) (Fr Pr F P : PH), Gen g A X cenv Wc elt rest ρ yi → CSt g.hb cenv Fs Ps D₀ ρ acc F P → Soft Fr Pr F P → (acc ++ yi).length ≤ 4096 →
    ∀ (jp : Sem Fin) (s : Shared) (Q : Fin → Shared → Prop) (E : Value → Shared → Prop), Has s.heap P → (∀ h tk F' P', Has h P' → Soft Fr Pr F' P' → CSt g.hb cenv Fs Ps D₀ ρ (acc ++ yi) F' P' → wpAny (model g.prog g.w) A jp Q E { s with heap := h, toks := tk }) →
      wpAny (model g.prog g.w) A (tailK elt gens scope pos k (.ref D₀) cenv jp) Q E s
theorem tests_ok {ρ : List (Str × D)} {ifs : List Expr} {c : Bool} {acc : List D} {F P : PH} {s : Shared} {E : Value → Shared → Prop} {Q : Bool → Shared → Prop} (hX : X.p Fs Ps) (h : Tests g A X cenv ρ ifs c) (C : CSt g.hb cenv Fs Ps D₀ ρ acc F P) (hP : Has s.heap P)
    (k : ∀ h tk F' P', Has h P' → Ext F P F' P' → Q c { s with heap := h, toks := tk }) :
    wpAny (model g.prog g.w) A (testsC ifs cenv) Q E s := by
  match ifs, h with
  | [], h => simp only [Tests] at h; subst h; exact wpAny_tests_nil (k _ s.toks F P hP (.refl C.V.fp))
  | [t], h =>
    simp only [Tests] at h
    refine wpAny_tests_one ((h.run F P C.V (C.get hX)).out hP fun h' tk P' c' hP' ⟨F', e, q⟩ => ?_)
    subst q
    exact k h' tk F' P' hP' e
  | _ :: _ :: _, h => simp only [Tests] at h
structure CompSt (W : Addr → Prop) (Fr Pr : PH) (S C : PH → PH → Prop) (F P : PH) : Prop where
  t : Soft Fr Pr F P
  st : S F P
  hw : ∀ a, W a → F a = none
  c : C F P
theorem CompSt.turn {W : Addr → Prop} {Fr Pr F P F' P' : PH} {S S' C : PH → PH → Prop} (hr : ∀ a o, W a → Pr a = some o → iterCls o = true → False) (x : CompSt W Fr Pr S C F P) (hs : ∀ a, W a → ∃ o, P a = some o ∧ iterCls o = true) (s : Step W F P F' P') (h : S' F' P') (c : C F' P') : CompSt W Fr Pr S' C F' P' :=
  ⟨⟨x.t.f.trans s.f, fun a o e k => s.p a o (x.t.it a o e k) (fun ha => hr a o ha e k), fun a o e k n => s.off (x.t.off a o e k n) (by rw [x.t.it a o e k]; exact fun z => nomatch z)⟩, h, fun a ha => s.off (x.hw a ha) ((hs a ha).elim fun o' q => by rw [q.1]; exact fun z => nomatch z), c⟩
theorem CompSt.on {it : Value} {target : Expr} {W : Addr → Prop} {Fr Pr F P F' P' : PH} {St : Nat → PH → PH → Prop} {ds : List D} {C C' : PH → PH → Prop} {i : Nat} (It : Iter g A it W St ds target) (x : CompSt W Fr Pr (St i) C F P) (k : Soft F P F' P') (c : C' F' P') : CompSt W Fr Pr (St i) C' F' P' :=
  have hw : ∀ a, W a → F' a = none := fun a ha => (It.soft _ _ _ x.st a ha).elim fun o' q => k.off a o' q.1 q.2 (x.hw a ha)
  ⟨x.t.trans k, It.keep i _ _ _ _ x.st k.f (fun a o ha e => k.it a o e ((It.soft _ _ _ x.st a ha).elim fun o' q => by rw [Option.some.inj (e.symm.trans q.1)]; exact q.2)) hw, hw, c⟩
noncomputable def CompInv (W : Addr → Prop) (Fr Pr : PH) (St C : Nat → PH → PH → Prop) (n : Nat) (s : Shared) (k : Nat) (s' : Shared) : Prop :=
  ∃ i F P, i ≤ n ∧ k = n + 1 - i ∧ Has s'.heap P ∧ (∃ h tk, s' = { s with heap := h, toks := tk }) ∧ CompSt W Fr Pr (St i) (C i) F P
noncomputable def TurnAt (g : G) (A : Around) (cenv : Env) (elt : Expr) (gens : List Comprehension) (scope : Scope) (pos : Pos) (D₀ : Addr) (k : Nat) (it : Value) (target : Expr) (ifs : List Expr) (d : D) (C C' : PH → PH → Prop) : Prop :=
  ∀ (F P : PH) (v : Value) (s : Shared) (Q : Fin → Shared → Prop) (E : Value → Shared → Prop), C F P → Rep F d v → Has s.heap P →
    (∀ h tk F' P', Has h P' → Soft F P F' P' → C' F' P' → wpAny (model g.prog g.w) A (again (.compLoop (.ListComp elt gens scope pos) k it (.ref D₀) cenv)) Q E { s with heap := h, toks := tk }) →
    wpAny (model g.prog g.w) A (compBody elt gens scope pos k it (.ref D₀) cenv target ifs v) Q E s
theorem comp_turns {C : Nat → PH → PH → Prop} {k : Nat} {target iter : Expr} {ifs : List Expr} (hk : gens[k]? = some ⟨target, iter, ifs, 0⟩) {ds : List D} {Fr Pr F P : PH} {it : Value} {W : Addr → Prop} {St : Nat → PH → PH → Prop} {Z : Result → Shared → Prop} {s : Shared}
    (cV : ∀ i F P, C i F P → Sub F P) (cI : ∀ i F P F' P', C i F P → Step W F P F' P' → (∀ a, W a → ∃ o, P a = some o ∧ iterCls o = true) → C i F' P')
    (turn : ∀ (i : Nat) (di : D), ds[i]? = some di → TurnAt g A cenv elt gens scope pos D₀ k it target ifs di (C i) (C (i + 1)))
    (It : Iter g A it W St ds target) (hr : ∀ a o, W a → Pr a = some o → iterCls o = true → False) (x : CompSt W Fr Pr (St 0) (C 0) F P) (hP : Has s.heap P)
    (K : ∀ h tk F P, Has h P → Soft Fr Pr F P → C ds.length F P → Z (.ok .next) { s with heap := h, toks := tk }) :
    codeAny (model g.prog g.w) A (.compLoop (.ListComp elt gens scope pos) k it (.ref D₀) cenv) Z s := by
  refine codeAny_loop rfl (CompInv W Fr Pr St C ds.length s) ?_ (ds.length + 1) ⟨0, F, P, Nat.zero_le _, rfl, hP, ⟨_, _, rfl⟩, x⟩
  intro n s' ⟨i, F, P, hi, e1, hP, ⟨h, tk, e2⟩, x⟩
  subst e1 e2
  show wpAny _ A ((compTurn (.ListComp elt gens scope pos) k it (.ref D₀) cenv).onRaise (fun x => do noteFrame x cenv; theTreesLotGoes x)) _ _ _
  refine wpAny_noted ?_
  rw [compTurn_at hk]
  refine wpAny_bind (wpAny_standAt (wpAny_bind ?_))
  have sf := It.soft i F P x.st
  by_cases hlt : i < ds.length
  · have hd : ds[i]? = some ds[i] := List.getElem?_eq_getElem hlt
    refine wpAny_mono (It.next i F P ds[i] (cV _ _ _ x.c) x.st hd _ hP) (fun r s₁ ⟨v, e, z⟩ => ?_) fun _ _ e => e.elim
    subst e
    refine wpAny_bind (wpAny_mono z (fun _ s₂ ⟨h₁, tk₁, P₁, e, hP₁, F₁, sW, st₁, rv⟩ => ?_) fun _ _ e => e.elim)
    subst e
    have y := x.turn hr sf sW st₁ (cI i _ _ _ _ x.c sW sf)
    exact turn i _ hd F₁ P₁ v _ _ _ y.c rv hP₁ fun h₂ tk₂ F₂ P₂ hP₂ t₂ c₂ => wpAny_pure ⟨rfl, ds.length + 1 - (i + 1), by omega, i + 1, F₂, P₂, hlt, rfl, hP₂, ⟨_, _, rfl⟩, y.on It t₂ c₂⟩
  · have e : i = ds.length := Nat.le_antisymm hi (Nat.not_lt.mp hlt)
    subst e
    refine (It.done _ F P (cV _ _ _ x.c) x.st (by simp)).out hP fun h₁ tk₁ P₁ r hP₁ ⟨e, sW⟩ => ?_
    subst e
    have y := x.turn (S' := fun _ _ => True) hr sf sW trivial (cI _ _ _ _ _ x.c sW sf)
    exact wpAny_pure (K _ _ F P₁ hP₁ y.t y.c)
theorem comp_loop {C : Nat → PH → PH → Prop} {Ce : PH → PH → Prop} {k : Nat} {target iter : Expr} {ifs : List Expr} (hk : gens[k]? = some ⟨target, iter, ifs, 0⟩) {ds : List D} {Fr Pr F P : PH} {it : Value} {W : Addr → Prop} {St : Nat → PH → PH → Prop}
    (cV : ∀ i F P, C i F P → Sub F P) (cI : ∀ i F P F' P', C i F P → Step W F P F' P' → (∀ a, W a → ∃ o, P a = some o ∧ iterCls o = true) → C i F' P')
    (turn : ∀ (i : Nat) (di : D), ds[i]? = some di → TurnAt g A cenv elt gens scope pos D₀ k it target ifs di (C i) (C (i + 1)))
    (It : Iter g A it W St ds target) (hr : ∀ a o, W a → Pr a = some o → iterCls o = true → False) (x : CompSt W Fr Pr (St 0) (C 0) F P) (he : ∀ F P, C ds.length F P → Ce F P) :
    TrC g.prog g.w A (.compStart (.ListComp elt gens scope pos) k it (.ref D₀) cenv) P (fun P' f => f = .next ∧ ∃ F', Soft Fr Pr F' P' ∧ Ce F' P') := by
  have loop : ∀ {s : Shared} {Z : Result → Shared → Prop}, Has s.heap P → (∀ h tk F P, Has h P → Soft Fr Pr F P → C ds.length F P → Z (.ok .next) { s with heap := h, toks := tk }) → codeAny (model g.prog g.w) A (.compLoop (.ListComp elt gens scope pos) k it (.ref D₀) cenv) Z s := comp_turns hk cV cI turn It hr x
  intro s hP
  refine codeAny_of_tree ?_
  show wpAny _ _ ((compStart (.ListComp elt gens scope pos) k it (.ref D₀) cenv).onRaise (fun x => do noteFrame x cenv; standAt theWindowsPlace)) _ _ s
  refine wpAny_notedAt ?_
  rw [compStart_at hk]
  refine wpAny_bind (wpAny_askSetting (wpAny_ite ?_))
  split
  · first
      | exact wpAny_bind (wpAny_pure (wpAny_pure (And.intro rfl (loop hP fun h tk F P hP t c => ⟨.next, _, _, P, rfl, rfl, hP, rfl, F, t, he _ _ c⟩))))
      | exact wpAny_pure (And.intro rfl (loop hP fun h tk F P hP t c => ⟨.next, _, _, P, rfl, rfl, hP, rfl, F, t, he _ _ c⟩))
  · refine wpAny_bind (wpAny_rule (wpAny_bind (wpAny_standAt (wpAny_bind ((It.self 0 F P (cV _ _ _ x.c) x.st).out hP fun h₁ tk₁ P₁ v hP₁ ⟨q, hv⟩ => ?_)))))
    subst q hv
    exact wpAny_pure (And.intro rfl (loop hP₁ fun h tk F P hP t c => ⟨.next, _, _, P, rfl, rfl, hP, rfl, F, t, he _ _ c⟩))
theorem take_len (acc : List D) (yss : List (List D)) (i : Nat) (h : i < yss.length) (hl : (acc ++ yss.flatten).length ≤ 4096) : (acc ++ (yss.take i).flatten ++ yss[i]).length ≤ 4096 := by
  rw [List.append_assoc, ← take_flat yss i h]
  refine Nat.le_trans ?_ hl
  rw [List.length_append, List.length_append]
  refine Nat.add_le_add_left ?_ _
  have e := congrArg (fun l => l.flatten.length) (List.take_append_drop (i + 1) yss)
  rw [← e, List.flatten_append, List.length_append]
  exact Nat.le_add_right ..
theorem loop_core (hX : X.p Fs Ps) (hWc : ∀ a, Wc a → Ps a = none) (hWD : ¬ Wc D₀) {rest : List Comprehension} {k : Nat} {target iter : Expr} {ifs : List Expr} (hk : gens[k]? = some ⟨target, iter, ifs, 0⟩)
    (tail : TailOk g A X cenv Wc elt gens scope pos D₀ Fs Ps rest k) {ρ : List (Str × D)} {ds : List D} {yss : List (List D)} {acc : List D} {Fr Pr F P : PH} {it : Value} {W : Addr → Prop} {St : Nat → PH → PH → Prop}
    (T : Turn g A X cenv Wc elt target ifs rest ρ ds yss) (hl : yss.length = ds.length) (It : Iter g A it W St ds target) (st : St 0 F P) (C : CSt g.hb cenv Fs Ps D₀ ρ acc F P) (t : Soft Fr Pr F P) (hr : ∀ a o, W a → Pr a = some o → iterCls o = true → False) (hs : ∀ a, W a → Ps a = none) (hw : ∀ a, W a → F a = none)
    (hlen : (acc ++ yss.flatten).length ≤ 4096) :
    TrC g.prog g.w A (.compStart (.ListComp elt gens scope pos) k it (.ref D₀) cenv) P (fun P' f => f = .next ∧ ∃ F', Soft Fr Pr F' P' ∧ CSt g.hb cenv Fs Ps D₀ ρ (acc ++ yss.flatten) F' P') := by
  refine comp_loop (C := fun i => CSt g.hb cenv Fs Ps D₀ ρ (acc ++ (yss.take i).flatten)) hk (fun _ _ _ c => c.V.fp) (fun _ _ _ _ _ c s h => c.iter s hs h) (fun i di hd => ?_) It hr ⟨t, st, hw, by rw [List.take_zero]; exact (List.append_nil acc).symm ▸ C⟩ fun F P c => by rw [List.take_of_length_le (Nat.le_of_eq hl)] at c; exact c
  intro F P v s Q E C rv hP K
  have hlt' : i < yss.length := by rw [hl]; exact (List.getElem?_eq_some_iff.mp hd).1
  obtain ⟨ρ', c, hA, hsub, hT, hc1, hc0⟩ := T i _ _ hd (List.getElem?_eq_getElem hlt')
  rw [take_flat yss i hlt', ← List.append_assoc] at K
  refine wpAny_bind ((hA F P v C.V C.M rv).out hP fun h₂ tk₂ P₂ _ hP₂ ⟨F₂, sA, tA, V₂, M₂⟩ => ?_)
  have C₂ : CSt g.hb cenv Fs Ps D₀ ρ' (acc ++ (yss.take i).flatten) F₂ P₂ := C.at'.elim fun xs z => ⟨C.ext.then sA hWc, V₂, M₂, sA.off C.off (by rw [z.1]; exact fun z => nomatch z), xs, sA.p _ _ z.1 hWD, z.2.sub sA.f⟩
  refine wpAny_bind (tests_ok hX hT C₂ hP₂ fun h₃ tk₃ F₃ P₃ hP₃ e₃ => ?_)
  have C₃ := C₂.ext' e₃
  cases c with
  | false =>
    refine K h₃ tk₃ F₃ P₃ hP₃ (tA.trans e₃.soft) ?_
    rw [hc0 rfl, List.append_nil]
    exact ⟨C₃.ext, C₃.V.sub hsub, C₃.M, C₃.off, C₃.at'⟩
  | true =>
    exact tail ρ' yss[i] _ F₃ P₃ F₃ P₃ (hc1 rfl) C₃ (Ext.refl C₃.V.fp).soft (take_len acc yss i hlt' hlen) _ _ _ _ hP₃ fun h₄ tk₄ F₄ P₄ hP₄ t₄ C₄ => K h₄ tk₄ F₄ P₄ hP₄ ((tA.trans e₃.soft).trans t₄) ⟨C₄.ext, C₄.V.sub hsub, C₄.M, C₄.off, C₄.at'⟩
theorem Gen.turn {target iter : Expr} {ifs : List Expr} {as : Int} {gs : List Comprehension} {ρ : List (Str × D)} {ys : List D} (h : Gen g A X cenv Wc elt (⟨target, iter, ifs, as⟩ :: gs) ρ ys) :
    as = 0 ∧ (∀ x, foldedSetIterable iter cenv x = pure x) ∧ ∃ (d : D) (ds : List D) (yss : List (List D)), Ev g A cenv ρ X iter d ∧ Itb g A d ds target ∧ yss.length = ds.length ∧ ys = yss.flatten ∧ Turn g A X cenv Wc elt target ifs gs ρ ds yss := h
theorem tails (hX : X.p Fs Ps) (hDs : Ps D₀ = none) (hWc : ∀ a, Wc a → Ps a = none) (hWD : ¬ Wc D₀) (hDL : D₀ ≠ cenv.locals) :
    ∀ (rest : List Comprehension) (k : Nat), gens.drop (k + 1) = rest → TailOk g A X cenv Wc elt gens scope pos D₀ Fs Ps rest k
  | [], k, hk => fun ρ yi acc Fr Pr F P G C t hlen jp s Q E hP K => by
    have e : gens[k + 1]? = none := by
      rw [List.getElem?_eq_none_iff]
      exact List.drop_eq_nil_iff.mp hk
    simp only [Gen] at G
    obtain ⟨y, rfl, hE⟩ := G
    unfold tailK
    rw [e]
    dsimp only
    refine wpAny_bind (wpAny_bind ((hE.run F P C.V (C.get hX)).out hP fun h₁ tk₁ P₁ v hP₁ ⟨F₁, e₁, r⟩ => ?_))
    have C₁ := C.ext' e₁
    obtain ⟨xs, hx, hxs⟩ := C₁.at'
    refine wpAny_bind (append_at (n := xs.length) (its := xs.toArray) (hsz := ?_) (hP₁ _ _ hx) fun h' hs' hD' => wpAny_pure ?_)
    rotate_left 1
    · rw [List.size_toArray, hxs.length]
      rw [List.length_append] at hlen
      exact Nat.le_trans (Nat.le_trans (Nat.le_add_right ..) hlen) (by decide)
    · have hD'' : h'.get? D₀ = some (lst (xs ++ [v])) := hD'.trans (congrArg some (lst_snoc xs v))
      have sA : Step (fun a => a = D₀) F₁ P₁ F₁ (upd P₁ D₀ (lst (xs ++ [v]))) := .upd C₁.V.fp C₁.off rfl
      have sS : Soft F₁ P₁ F₁ (upd P₁ D₀ (lst (xs ++ [v]))) := sA.soft fun a o w e => by subst w; rw [hx] at e; cases e; rfl
      refine K h' tk₁ F₁ (upd P₁ D₀ (lst (xs ++ [v]))) (hP₁.same hs' hD'') ((t.trans e₁.soft).trans sS) ⟨C₁.ext.then sA fun a w => by subst w; exact hDs, C₁.V.step sA (Ne.symm hDL) fun y c o v' _ e hd w => ?_, C₁.M.step C₁.V.locNe sA fun y c o v' _ e hd w => ?_, C₁.off, _, upd_self .., hxs.snoc r⟩
      · subst w; rw [hx] at e; cases e; cases hd
      · subst w; rw [hx] at e; cases e; cases hd
  | ⟨target, iter, ifs, as⟩ :: rest, k, hk => fun ρ yi acc Fr Pr F P G C t hlen jp s Q E hP K => by
    obtain ⟨rfl, hs, d, ds, yss, hE, hI, hl, rfl, T⟩ := Gen.turn G
    have e : gens[k + 1]? = some ⟨target, iter, ifs, 0⟩ := by
      have : (gens.drop (k + 1))[0]? = some ⟨target, iter, ifs, 0⟩ := by rw [hk]; rfl
      simpa using this
    have hk' : gens.drop (k + 1 + 1) = rest := by
      have : (gens.drop (k + 1)).drop 1 = rest := by rw [hk]; rfl
      rwa [List.drop_drop] at this
    have ih := tails hX hDs hWc hWD hDL rest (k + 1) hk'
    unfold tailK
    rw [e]
    dsimp only
    refine wpAny_bind ((hE.run F P C.V (C.get hX)).out hP fun h₁ tk₁ P₁ v hP₁ ⟨F₁, e₁, r⟩ => wpAny_bind (wpAny_standAt ?_))
    have C₁ := C.ext' e₁
    show wpAny _ A (foldedSetIterable iter cenv v >>= _) _ _ _
    refine wpAny_bind (wpAny_of_eq (hs v) (wpAny_bind (wpAny_holding ?_)))
    refine (hI F₁ P₁ v e₁.fp r).out hP₁ fun h₂ tk₂ P₂ it hP₂ ⟨W, St, It, e₂, st₀, hnew⟩ => ?_
    have C₂ := C₁.ext' e₂
    have core := loop_core (scope := scope) (pos := pos) hX hWc hWD e ih T hl It st₀ C₂ ((t.trans e₁.soft).trans e₂.soft) (fun a o ha e k => by have := hnew a ha; rw [e₁.p _ _ (t.it _ _ e k)] at this; cases this) (fun a ha => none_of C₁.ext.p (hnew a ha)) (fun a ha => none_of e₁.fp (hnew a ha)) hlen
    refine wpAny_bind (wpAny_runOwn (codeAny_mono (core _ hP₂) fun r s' ⟨f, h₃, tk₃, P₃, q1, q2, hP₃, q3, F₃, t₃, C₃⟩ => ?_))
    subst q1 q2
    exact K h₃ tk₃ F₃ P₃ hP₃ t₃ C₃
end
end TL
end
section
namespace TL
open PySem PySem.W PyProof.Rows PySem.Calls PyProof.Rows.LCg
noncomputable def ccEnv (env : Env) (scope : Scope) (C : Addr) (cells : List (Str × Addr)) : Env :=
  { scope := relabel scope env, locals := C, globals := env.globals, cells := cells, qual := env.qual, func := none, code := env.code, frame := env.frame, builtins := env.builtins }
noncomputable def cown (scope : Scope) (cenv : Env) (a : Addr) : Prop := a = cenv.locals ∨ ∃ x, scope.names.lookup x = some .cell ∧ cenv.cells.lookup x = some a
noncomputable def freeIn (env : Env) : List (Str × NameKind) → List (Str × Addr) → List (Str × Addr)
  | [], acc => acc
  | (n, k) :: r, acc => if k == .free then freeIn env r ((n, (env.cells.lookup n).getD 0) :: acc) else freeIn env r acc
theorem closureFor_eq {env : Env} {scope : Scope} (h : ∀ n, (n, NameKind.free) ∈ scope.names → (env.cells.lookup n).isSome = true) : closureFor scope env = pure (freeIn env scope.names []) := by
  have gen : ∀ (l : List (Str × NameKind)) (acc : List (Str × Addr)), (∀ n, (n, NameKind.free) ∈ l → (env.cells.lookup n).isSome = true) →
      (forIn l acc fun (x : Str × NameKind) cs => match x with | (name, kind) => if (kind == NameKind.free) = true then do let a ← cellOf env name; pure (ForInStep.yield ((name, a) :: cs)) else pure (ForInStep.yield cs) : Sem (List (Str × Addr))) = pure (freeIn env l acc) := by
    intro l
    induction l with
    | nil => intro acc _; rfl
    | cons x r ih =>
      intro acc hl
      obtain ⟨n, k⟩ := x
      rw [List.forIn_cons]
      by_cases hk : (k == NameKind.free) = true
      · obtain ⟨c, hc⟩ := Option.isSome_iff_exists.mp (hl n (by rw [beq_iff_eq.mp hk]; exact List.mem_cons_self))
        have e : cellOf env n = pure c := by unfold cellOf; rw [hc]
        have e2 : freeIn env ((n, k) :: r) acc = freeIn env r ((n, c) :: acc) := by
          conv => lhs; unfold freeIn
          rw [if_pos hk, hc]; rfl
        rw [e2, ← ih _ fun m hm => hl m (List.mem_cons_of_mem _ hm)]
        dsimp only
        rw [if_pos hk, e]
        rfl
      · have e2 : freeIn env ((n, k) :: r) acc = freeIn env r acc := by
          conv => lhs; unfold freeIn
          rw [if_neg hk]
        rw [e2, ← ih _ fun m hm => hl m (List.mem_cons_of_mem _ hm)]
        dsimp only
        rw [if_neg hk]
        rfl
  have := gen scope.names [] h
  unfold closureFor
  show (forIn scope.names ([] : List (Str × Addr)) (fun (x : Str × NameKind) cs => match x with | (name, kind) => if (kind == NameKind.free) = true then do let a ← cellOf env name; pure (ForInStep.yield ((name, a) :: cs)) else pure (ForInStep.yield cs)) >>= fun cs => pure cs) = _
  rw [this]
  rfl
theorem freeIn_mem {env : Env} : ∀ {l : List (Str × NameKind)} {acc : List (Str × Addr)} {x : Str} {c : Addr}, (x, c) ∈ freeIn env l acc → (x, c) ∈ acc ∨ ((x, NameKind.free) ∈ l ∧ c = (env.cells.lookup x).getD 0)
  | [], _, _, _, h => .inl h
  | (n, k) :: r, acc, x, c, h => by
    unfold freeIn at h
    split at h
    · rename_i hk
      rcases freeIn_mem h with h | ⟨h, e⟩
      · rcases List.mem_cons.mp h with h | h
        · cases h; exact .inr ⟨by rw [beq_iff_eq.mp hk]; exact List.mem_cons_self, rfl⟩
        · exact .inl h
      · exact .inr ⟨List.mem_cons_of_mem _ h, e⟩
    · rcases freeIn_mem h with h | ⟨h, e⟩
      · exact .inl h
      · exact .inr ⟨List.mem_cons_of_mem _ h, e⟩
theorem freeIn_acc {env : Env} : ∀ {l : List (Str × NameKind)} {acc : List (Str × Addr)} {p : Str × Addr}, p ∈ acc → p ∈ freeIn env l acc
  | [], _, _, h => h
  | (n, k) :: r, acc, p, h => by
    unfold freeIn
    split
    · exact freeIn_acc (List.mem_cons_of_mem _ h)
    · exact freeIn_acc h
theorem freeIn_has {env : Env} : ∀ {l : List (Str × NameKind)} {acc : List (Str × Addr)} {x : Str}, (x, NameKind.free) ∈ l → (x, (env.cells.lookup x).getD 0) ∈ freeIn env l acc
  | (n, k) :: r, acc, x, h => by
    unfold freeIn
    rcases List.mem_cons.mp h with h | h
    · cases h
      rw [if_pos (show (NameKind.free == NameKind.free) = true from rfl)]
      exact freeIn_acc List.mem_cons_self
    · split
      · exact freeIn_has h
      · exact freeIn_has h
theorem lookup_of_mem {α : Type} [DecidableEq α] : ∀ {l : List (Str × α)} {x : Str} {c : α}, (x, c) ∈ l → (∀ c', (x, c') ∈ l → c' = c) → l.lookup x = some c
  | (n, c₀) :: r, x, c, h, u => by
    rw [List.lookup_cons]
    by_cases q : (x == n) = true
    · have := beq_iff_eq.mp q
      subst this
      simp only [beq_self_eq_true]
      exact congrArg some (u c₀ List.mem_cons_self)
    · have q' : (x == n) = false := by simpa using q
      rw [q']
      rcases List.mem_cons.mp h with h | h
      · cases h; simp at q
      · exact lookup_of_mem h fun c' hc => u c' (List.mem_cons_of_mem _ hc)
theorem freeIn_lookup {env : Env} {l : List (Str × NameKind)} {x : Str} (h : (x, NameKind.free) ∈ l) : (freeIn env l []).lookup x = some ((env.cells.lookup x).getD 0) :=
  lookup_of_mem (freeIn_has h) fun c' hc => by
    rcases freeIn_mem hc with h | ⟨_, e⟩
    · cases h
    · exact e
theorem cellsFrom_acc : ∀ (names : List (Str × NameKind)) (n : Nat) (acc : List (Str × Addr)), cellsFrom n names acc = cellsFrom n names [] ++ acc
  | [], _, _ => rfl
  | (x, k) :: r, n, acc => by
    unfold cellsFrom
    split
    · rw [cellsFrom_acc r (n + 1) ((x, n) :: acc), cellsFrom_acc r (n + 1) [(x, n)], List.append_assoc]; rfl
    · exact cellsFrom_acc r n acc
theorem cellsFrom_mem : ∀ {names : List (Str × NameKind)} {n : Nat} {x : Str} {c : Addr}, (x, c) ∈ cellsFrom n names [] → (x, NameKind.cell) ∈ names
  | [], _, _, _, h => nomatch h
  | (y, k) :: r, n, x, c, h => by
    unfold cellsFrom at h
    split at h
    · rename_i hk
      rw [cellsFrom_acc] at h
      rcases List.mem_append.mp h with h | h
      · exact List.mem_cons_of_mem _ (cellsFrom_mem h)
      · rw [List.mem_singleton] at h; cases h
        rw [beq_iff_eq.mp hk]; exact List.mem_cons_self
    · exact List.mem_cons_of_mem _ (cellsFrom_mem h)
theorem cellsFrom_has : ∀ {names : List (Str × NameKind)} {n : Nat} {x : Str}, (x, NameKind.cell) ∈ names → ∃ c, (x, c) ∈ cellsFrom n names []
  | (y, k) :: r, n, x, h => by
    unfold cellsFrom
    rcases List.mem_cons.mp h with h | h
    · cases h
      rw [if_pos (show (NameKind.cell == NameKind.cell) = true from rfl), cellsFrom_acc]
      exact ⟨n, List.mem_append_right _ List.mem_cons_self⟩
    · split
      · rw [cellsFrom_acc]
        obtain ⟨c, hc⟩ := cellsFrom_has (n := n + 1) h
        exact ⟨c, List.mem_append_left _ hc⟩
      · exact cellsFrom_has h
theorem lookup_map_key (f : Str → NameKind → NameKind) : ∀ (l : List (Str × NameKind)) (x : Str), (l.map fun p => (p.1, f p.1 p.2)).lookup x = (l.lookup x).map (f x)
  | [], _ => rfl
  | (n, k) :: r, x => by
    rw [List.map_cons, List.lookup_cons, List.lookup_cons]
    by_cases q : (x == n) = true
    · have := beq_iff_eq.mp q
      subst this
      simp
    · have q' : (x == n) = false := by simpa using q
      simp only [q']
      exact lookup_map_key f r x
theorem relabel_lookup {scope : Scope} {env : Env} {x : Str} : (relabel scope env).names.lookup x = (scope.names.lookup x).map fun k => if (k == NameKind.free && env.scope.kind == .function && env.kindOf x == some .cell) = true then NameKind.cell else k := by
  rw [← lookup_map_key (fun n k => if (k == NameKind.free && env.scope.kind == .function && env.kindOf n == some .cell) = true then NameKind.cell else k)]
  unfold relabel
  dsimp only
  congr 1
  refine List.map_congr_left fun p _ => ?_
  obtain ⟨n, k⟩ := p
  dsimp only
  split <;> rfl
theorem mem_lookup {l : List (Str × NameKind)} {x : Str} {k : NameKind} (h : l.lookup x = some k) : (x, k) ∈ l := PySem.mem_of_lookup h
theorem lookup_mem {l : List (Str × NameKind)} {x : Str} {k : NameKind} (hn : (l.map (·.1)).Nodup) (h : (x, k) ∈ l) : l.lookup x = some k := by
  induction l with
  | nil => nomatch h
  | cons p r ih =>
    obtain ⟨y, k'⟩ := p
    rw [List.map_cons, List.nodup_cons] at hn
    rw [List.lookup_cons]
    rcases List.mem_cons.mp h with h | h'
    · cases h; simp
    · have : (x == y) = false := by
        simp only [beq_eq_false_iff_ne, ne_eq]
        rintro rfl
        exact hn.1 (List.mem_map.mpr ⟨(x, k), h', rfl⟩)
      rw [this]
      exact ih hn.2 h'
theorem lookup_some {α : Type} : ∀ {l : List (Str × α)} {x : Str} {c : α}, (x, c) ∈ l → ∃ c', l.lookup x = some c'
  | (y, c₀) :: r, x, c, h => by
    rw [List.lookup_cons]
    by_cases q : (x == y) = true
    · rw [q]; exact ⟨c₀, rfl⟩
    · have q' : (x == y) = false := by simpa using q
      rw [q']
      rcases List.mem_cons.mp h with h | h
      · cases h; simp at q
      · exact lookup_some h
theorem lookup_left {α : Type} : ∀ {l l' : List (Str × α)} {x : Str} {c : α}, l.lookup x = some c → (l ++ l').lookup x = some c
  | [], _, _, _, h => by cases h
  | (y, c₀) :: r, l', x, c, h => by
    rw [List.cons_append, List.lookup_cons]
    rw [List.lookup_cons] at h
    cases q : x == y with
    | true => rw [q] at h; exact h
    | false => rw [q] at h; exact lookup_left h
theorem lookup_right {α : Type} : ∀ {l l' : List (Str × α)} {x : Str}, (∀ c, (x, c) ∉ l) → (l ++ l').lookup x = l'.lookup x
  | [], _, _, _ => rfl
  | (y, c₀) :: r, l', x, h => by
    rw [List.cons_append, List.lookup_cons]
    have q : (x == y) = false := by
      simp only [beq_eq_false_iff_ne, ne_eq]
      rintro rfl
      exact h c₀ List.mem_cons_self
    rw [q]
    exact lookup_right fun c hc => h c (List.mem_cons_of_mem _ hc)
theorem newEnv_ok {prog : Program} {w : World} {A : Around} {env : Env} {scope : Scope} {hb : Heap} {F P : PH} {ρ ρc : List (Str × D)} {s : Shared} {Q : Env → Shared → Prop} {E : Value → Shared → Prop} (V : Vars hb env F P ρ) (hP : Has s.heap P) (hk : scope.kind = .function)
    (hnd : (scope.names.map (·.1)).Nodup) (hcap : ∀ x, (x, NameKind.free) ∈ scope.names → env.kindOf x = some .cell ∨ env.kindOf x = some .free)
    (hρ : ∀ x d, ρc.lookup x = some d → ρ.lookup x = some d ∧ (x, NameKind.free) ∈ scope.names)
    (k : ∀ h tk P' C cells, Has h P' → Ext F P F P' → P C = none → (∀ a, cown scope (ccEnv env scope C cells) a → P a = none) → Vars hb (ccEnv env scope C cells) F P' ρc → Q (newEnv scope C env.globals cells env.qual none .none (some env) builtinsNs) { s with heap := h, toks := tk }) :
    wpAny (model prog w) A (newFunctionEnv scope env.globals (freeIn env scope.names []) [] env.qual none .none (some env)) Q E s := by
  simp only [newFunctionEnv, Option.isSome_some, if_true]
  refine wpAny_bind (wpAny_alloc ?_)
  refine wpAny_bind (wpAny_layCells _ (fun name kind cells => by cases hkc : kind == NameKind.cell <;> simp [hkc]) _ _ _ _ ?_)
  have ok := cellsFrom_ok scope.names (s.heap.push { cls := .type "dict", data := .dict #[] }) (s.heap.objs.size + 1) [] ⟨fun _ _ hm => (nomatch hm), List.Pairwise.nil⟩ (by rw [Heap.size_push]; exact Nat.le_refl _)
  rw [Heap.size_push] at ok
  rw [show ({ s with heap := s.heap.push { cls := .type "dict", data := .dict #[] } } : Shared).heap.objs.size = s.heap.objs.size + 1 from Heap.size_push ..]
  rw [List.forIn_nil]
  refine wpAny_bind (wpAny_pure (wpAny_pure ?_))
  rw [cellsFrom_acc]
  dsimp only
  generalize hn : s.heap.objs.size = n at *
  generalize hown : cellsFrom (n + 1) scope.names [] = own at *
  generalize hH : pushCells (s.heap.push { cls := .type "dict", data := .dict #[] }) scope.names = H at *
  have keep : ∀ b o, s.heap.get? b = some o → H.get? b = some o := fun b o e => by rw [← hH]; exact pushCells_keeps _ _ b o (Heap.get?_push_of_some _ e)
  have hC : H.get? n = some { cls := .type "dict", data := .dict #[] } := by rw [← hH, ← hn]; exact pushCells_keeps _ _ _ _ (Heap.get?_push_size _ rfl)
  let P' : PH := fun a => if a < n then P a else H.get? a
  have ltP : ∀ {a}, P a ≠ Option.none → a < n := fun {a} h => by rw [← hn]; exact hP.lt h
  have geN : ∀ {a}, n ≤ a → P a = Option.none := fun {a} h => by
    cases e : P a with
    | none => rfl
    | some o => exact absurd (ltP (by rw [e]; exact fun z => nomatch z)) (Nat.not_lt.mpr h)
  have hsub : Sub P P' := fun a o e => by
    show (if a < n then P a else H.get? a) = some o
    rw [if_pos (ltP (by rw [e]; exact fun z => nomatch z))]; exact e
  have hH' : Has H P' := fun a o e => by
    replace e : (if a < n then P a else H.get? a) = some o := e
    by_cases q : a < n
    · rw [if_pos q] at e; exact keep _ _ (hP _ _ e)
    · rw [if_neg q] at e; exact e
  have atN : ∀ {a}, n ≤ a → P' a = H.get? a := fun {a} h => if_neg (Nat.not_lt.mpr h)
  have ext : Ext F P F P' := ⟨.refl _, hsub, V.fp.trans hsub, fun _ e => .inl e⟩
  have m₀ := V.m
  have capt : ∀ {x}, (x, NameKind.free) ∈ scope.names → ∃ c o v, (freeIn env scope.names []).lookup x = some c ∧ env.cells.lookup x = some c ∧ P c = some o ∧ o.data = .cell v := fun {x} hx => by
    obtain ⟨c, o, v, h1, h2, h3⟩ := m₀.tot x (hcap x hx)
    exact ⟨c, o, v, by rw [freeIn_lookup hx, h1]; rfl, h1, h2, h3⟩
  have clm : ∀ {x c}, (x, c) ∈ freeIn env scope.names [] → env.cells.lookup x = some c ∧ c < n ∧ (x, NameKind.free) ∈ scope.names := fun {x c} h => by
    rcases freeIn_mem h with h | ⟨h, e⟩
    · nomatch h
    · obtain ⟨c', o, v, h1, h2, h3⟩ := m₀.tot x (hcap x h)
      rw [h1] at e
      have : c = c' := e
      subst this
      exact ⟨h1, ltP (by rw [h2]; exact fun z => nomatch z), h⟩
  have ownm : ∀ {x c}, (x, c) ∈ own → H.IsCell c Option.none ∧ n + 1 ≤ c ∧ (x, NameKind.cell) ∈ scope.names := fun {x c} h => ⟨(ok.empty x c h).1, (ok.empty x c h).2, by rw [← hown] at h; exact cellsFrom_mem h⟩
  have look : ∀ {x c}, (own ++ freeIn env scope.names []).lookup x = some c → (x, c) ∈ own ∨ (x, c) ∈ freeIn env scope.names [] := fun {x c} h => List.mem_append.mp (PySem.mem_of_lookup h)
  have kinds : ∀ {x k k'}, (x, k) ∈ scope.names → (x, k') ∈ scope.names → k = k' := fun {x k k'} h h' => by
    have := lookup_mem hnd h
    rw [lookup_mem hnd h'] at this
    cases this; rfl
  have lookOwn : ∀ {x}, (x, NameKind.cell) ∈ scope.names → ∃ c, (own ++ freeIn env scope.names []).lookup x = some c ∧ (x, c) ∈ own := fun {x} hx => by
    obtain ⟨c, hc⟩ := cellsFrom_has (n := n + 1) hx
    rw [hown] at hc
    obtain ⟨c', hc'⟩ := lookup_some hc
    exact ⟨c', lookup_left hc', PySem.mem_of_lookup hc'⟩
  have lookFree : ∀ {x}, (x, NameKind.free) ∈ scope.names → (own ++ freeIn env scope.names []).lookup x = (freeIn env scope.names []).lookup x := fun {x} hx =>
    lookup_right fun c hc => by have := kinds hx (ownm hc).2.2; cases this
  have kindC : ∀ {x}, (x, NameKind.free) ∈ scope.names → (relabel scope env).names.lookup x = some .cell ∨ (relabel scope env).names.lookup x = some .free := fun {x} hx => by
    rw [relabel_lookup, lookup_mem hnd hx]
    simp only [Option.map_some]
    split
    · exact .inl rfl
    · exact .inr rfl
  have kindD : ∀ {x}, ((relabel scope env).names.lookup x = some .cell ∨ (relabel scope env).names.lookup x = some .free) → (x, NameKind.cell) ∈ scope.names ∨ (x, NameKind.free) ∈ scope.names := fun {x} hx => by
    rw [relabel_lookup] at hx
    cases q : scope.names.lookup x with
    | none => rw [q] at hx; rcases hx with hx | hx <;> cases hx
    | some k =>
      rw [q] at hx
      simp only [Option.map_some, Option.some.injEq] at hx
      cases k with
      | cell => exact .inl (mem_lookup q)
      | free => exact .inr (mem_lookup q)
      | «local» => rcases hx with hx | hx <;> simp at hx
      | globalImplicit => rcases hx with hx | hx <;> simp at hx
      | globalExplicit => rcases hx with hx | hx <;> simp at hx
  refine k H _ P' n (own ++ freeIn env scope.names []) hH' ext (geN (Nat.le_refl _)) (fun a ha => ?_) ⟨⟨hk, V.ok.g, V.ok.b⟩, V.base, ext.fp, ⟨fun _ => Option.none, _, (atN (Nat.le_refl _)).trans hC, ⟨#[], 0, rfl, fun _ he => by simp at he, fun _ => rfl⟩, fun x d hx hl => ?_⟩, fun x d hx hl => ?_, ?_⟩
  · rcases ha with rfl | ⟨x, hx, hl⟩
    · exact geN (Nat.le_refl _)
    · rcases look hl with h | h
      · exact geN (Nat.le_of_succ_le (ownm h).2.1)
      · have := kinds (mem_lookup hx) (clm h).2.2; cases this
  · obtain ⟨_, h2⟩ := hρ x d hx
    have hl' : (relabel scope env).names.lookup x = some .local := hl
    rcases kindC h2 with q | q <;> (rw [q] at hl'; cases hl')
  · obtain ⟨h1, h2⟩ := hρ x d hx
    obtain ⟨c, v, o, c1, c2, c3, c4⟩ := V.cel x d h1 (hcap x h2)
    refine ⟨c, v, o, ?_, hsub _ _ c2, c3, c4⟩
    show (own ++ freeIn env scope.names []).lookup x = some c
    rw [lookFree h2, freeIn_lookup h2, c1]; rfl
  · refine ⟨none_of V.fp (geN (Nat.le_refl _)), fun x c h => ?_, fun x hx => ?_, fun x c h hx => ?_, fun x y c h h' => ?_⟩
    · show c ≠ n
      rcases look h with h | h
      · exact Nat.ne_of_gt (ownm h).2.1
      · exact Nat.ne_of_lt (clm h).2.1
    · rcases kindD hx with q | q
      · obtain ⟨c, h1, h2⟩ := lookOwn q
        obtain ⟨⟨o, ho, hd⟩, hge, _⟩ := ownm h2
        exact ⟨c, o, _, h1, (atN (Nat.le_of_succ_le hge)).trans ho, hd⟩
      · obtain ⟨c, o, v, h1, h2, h3, h4⟩ := capt q
        exact ⟨c, o, v, (lookFree q).trans h1, hsub _ _ h3, h4⟩
    · rcases look h with h | h
      · exact none_of V.fp (geN (Nat.le_of_succ_le (ownm h).2.1))
      · obtain ⟨h1, h2, h3⟩ := clm h
        have hx' : (relabel scope env).names.lookup x = some .cell := hx
        rw [relabel_lookup, lookup_mem hnd h3] at hx'
        simp only [Option.map_some, Option.some.injEq] at hx'
        split at hx'
        · rename_i q
          simp only [Bool.and_eq_true, beq_iff_eq] at q
          exact m₀.off x c h1 q.2
        · cases hx'
    · rcases look h with a | a <;> rcases look h' with b | b
      · exact PySem.name_of_addr ok.apart a b
      · exact absurd (clm b).2.1 (Nat.not_lt.mpr (Nat.le_of_succ_le (ownm a).2.1))
      · exact absurd (clm a).2.1 (Nat.not_lt.mpr (Nat.le_of_succ_le (ownm b).2.1))
      · exact m₀.inj x y c (clm a).1 (clm b).1
end TL
end
section
namespace TL
open PySem PySem.W PyProof.Rows PySem.Calls PyProof.Rows.LCg
structure ScOk (env : Env) (scope : Scope) : Prop where
  kind : scope.kind = .function
  nd : (scope.names.map (·.1)).Nodup
  cap : ∀ x, (x, NameKind.free) ∈ scope.names → env.kindOf x = some .cell ∨ env.kindOf x = some .free
structure CEnd (F P : PH) (D₀ C : Addr) (xs : List Value) (ys : List D) (F' P' : PH) : Prop where
  ext : Ext F P F' P'
  newD : P D₀ = none
  newC : P C = none
  offD : F' D₀ = none
  offC : F' C = none
  at' : P' D₀ = some (lst xs)
  rep : RepL F' ys xs
  ne : D₀ ≠ C
  ns : ∃ m oC, P' C = some oC ∧ NsObj oC m
section
variable {g : G} {A : Around} {env : Env} {ρ ρc : List (Str × D)} {X : XP}
theorem comp_core {elt target iter : Expr} {ifs : List Expr} {gs : List Comprehension} {scope : Scope} {pos p : Pos} {d : D} {ds : List D} {yss : List (List D)} {F P : PH} {s : Shared} {use : Option (Value → Sem Unit)} {Q : Value → Shared → Prop} {E : Value → Shared → Prop}
    (S : ScOk env scope) (V : Vars g.hb env F P ρ) (x : X.p F P) (hP : Has s.heap P) (hi : Ev g A env ρ X iter d) (hs : ∀ x, foldedSetIterable iter env x = pure x) (ht : Itb g A d ds target) (hl : yss.length = ds.length)
    (hρ : ∀ x d, ρc.lookup x = some d → ρ.lookup x = some d ∧ (x, NameKind.free) ∈ scope.names)
    (T : ∀ C cells, Turn g A X (ccEnv env scope C cells) (cown scope (ccEnv env scope C cells)) elt target ifs gs ρc ds yss) (hlen : yss.flatten.length ≤ 4096)
    (k : ∀ h tk F' P' D₀ C xs, Has h P' → CEnd F P D₀ C xs yss.flatten F' P' → compPost (model g.prog g.w) A E use Q (.ref D₀) C (.ok .next) { s with heap := h, toks := tk }) :
    wpAny (model g.prog g.w) A (comprehension (.ListComp elt (⟨target, iter, ifs, 0⟩ :: gs) scope pos) scope env p (newList []) false (eval iter env) use) Q E s := by
  have hfree : ∀ n, (n, NameKind.free) ∈ scope.names → (env.cells.lookup n).isSome = true := fun n hn => by
    obtain ⟨c, o, v, h1, _⟩ := V.m.tot n (S.cap n hn)
    rw [h1]; rfl
  refine wpAny_comprehension_free (cl := freeIn env scope.names []) rfl hs (closureFor_eq hfree) S.kind (fun y hy hk => by rw [← hk]; exact lookup_mem S.nd hy) ?_
  refine (hi.run F P V x).out hP fun h₁ tk₁ P₁ v hP₁ ⟨F₁, e₁, r₁⟩ => ?_
  refine (ht F₁ P₁ v e₁.fp r₁).out hP₁ fun h₂ tk₂ P₂ it hP₂ ⟨W, St, It, e₂, st₀, hnew⟩ => ?_
  have V₂ := (V.ext e₁).ext e₂
  refine wpAny_newObj_type ?_
  have hD := hP₂.fresh
  have hP₃ : Has (h₂.push { cls := .type "list", data := .seq ([] : List Value).toArray }) (upd P₂ h₂.objs.size (lst [])) := hP₂.push rfl
  have eD : Ext F₁ P₂ F₁ (upd P₂ h₂.objs.size (lst [])) := .own e₂.fp hD
  have V₃ := V₂.ext eD
  refine newEnv_ok (ρc := ρc) V₃ hP₃ S.kind S.nd S.cap hρ fun h₄ tk₄ P₄ C cells hP₄ e₄ hC hown V₄ => ?_
  have e₁₄ := ((e₁.trans e₂).trans eD).trans e₄
  have DC : h₂.objs.size ≠ C := fun q => by rw [← q, upd_self] at hC; cases hC
  have hD0 : P h₂.objs.size = none := none_of ((e₁.trans e₂).p) hD
  have dropP : ∀ {a}, upd P₂ h₂.objs.size (lst []) a = none → P a = none := fun {a} q => none_of (((e₁.trans e₂).trans eD).p) q
  have Cst : CSt g.hb (ccEnv env scope C cells) F P h₂.objs.size ρc [] F₁ P₄ := ⟨e₁₄, V₄, V₄.m, none_of e₂.fp hD, [], e₄.p _ _ (upd_self ..), .nil⟩
  have hown' : ∀ a, cown scope (ccEnv env scope C cells) a → P a = none := fun a ha => dropP (hown a ha)
  have hWD : ¬ cown scope (ccEnv env scope C cells) h₂.objs.size := fun q => by have := hown _ q; rw [upd_self] at this; cases this
  have st₁ := It.keep 0 _ _ F₁ P₄ st₀ (.refl _) (fun a o _ e => (eD.trans e₄).p _ _ e) (fun a ha => none_of e₁.fp (hnew a ha))
  have core := loop_core (g := g) (A := A) (X := X) (cenv := ccEnv env scope C cells) (Wc := cown scope (ccEnv env scope C cells)) (elt := elt) (gens := ⟨target, iter, ifs, 0⟩ :: gs) (scope := scope) (pos := pos) (D₀ := h₂.objs.size) (Fs := F) (Ps := P) (rest := gs) (k := 0) (acc := []) (Fr := F₁) (Pr := P₁) x hown' hWD rfl
    (tails x hD0 hown' hWD DC gs 0 rfl) (T C cells) hl It st₁ Cst ((e₂.trans eD).trans e₄).soft (fun a o ha e _ => by rw [hnew a ha] at e; cases e) (fun a ha => none_of e₁.p (hnew a ha)) (fun a ha => none_of e₁.fp (hnew a ha)) (by simpa using hlen)
  refine codeAny_mono (core _ hP₄) fun r s' ⟨f, h₅, tk₅, P₅, q1, q2, hP₅, q3, F₅, t₅, C₅⟩ => ?_
  subst q1 q2 q3
  obtain ⟨xs, hx, hxs⟩ := C₅.at'
  obtain ⟨m, oC, c1, c2, _⟩ := C₅.V.loc
  exact k h₅ tk₅ F₅ P₅ h₂.objs.size C xs hP₅ ⟨C₅.ext, hD0, dropP hC, C₅.off, C₅.M.loc, hx, by simpa using hxs, DC, m, oC, c1, c2⟩
theorem CEnd.freezeP {F P F' P' : PH} {D₀ C : Addr} {xs : List Value} {ys : List D} (c : CEnd F P D₀ C xs ys F' P') : Ext F P (upd F' D₀ (lst xs)) P' := by
  refine ⟨c.ext.f.trans (.upd_new c.offD), c.ext.p, fun a o e => ?_, fun a e => ?_⟩
  · by_cases q : a = D₀
    · subst q; rw [upd_self] at e; cases e; exact c.at'
    · rw [upd_ne q] at e; exact c.ext.fp _ _ e
  · by_cases q : a = D₀
    · subst q; exact .inr c.newD
    · rw [upd_ne q] at e; exact c.ext.new a e
theorem CEnd.freeze {F P F' P' : PH} {D₀ C : Addr} {xs : List Value} {ys : List D} (c : CEnd F P D₀ C xs ys F' P') : Ext F P (upd F' D₀ (lst xs)) (hid P' C) ∧ Rep (upd F' D₀ (lst xs)) (.lst ys) (.ref D₀) := by
  refine ⟨⟨c.ext.f.trans (.upd_new c.offD), fun a o e => ?_, fun a o e => ?_, fun a e => ?_⟩, ?_⟩
  · unfold hid
    rw [if_neg (fun q => by rw [q, c.newC] at e; cases e)]
    exact c.ext.p _ _ e
  · unfold hid
    by_cases q : a = D₀
    · subst q; rw [upd_self] at e; cases e; rw [if_neg c.ne]; exact c.at'
    · rw [upd_ne q] at e
      rw [if_neg (fun z => by rw [z, c.offC] at e; cases e)]
      exact c.ext.fp _ _ e
  · by_cases q : a = D₀
    · subst q; exact .inr c.newD
    · rw [upd_ne q] at e; exact c.ext.new a e
  · simp only [Rep]
    exact ⟨D₀, lst xs, xs.toArray, xs.length, rfl, upd_self .., ⟨rfl, rfl, rfl⟩, rfl, c.rep.sub (.upd_new c.offD)⟩
theorem Ev.comp {elt target iter : Expr} {ifs : List Expr} {gs : List Comprehension} {scope : Scope} {pos : Pos} {d : D} {ds : List D} {yss : List (List D)} (S : ScOk env scope)
    (hi : Ev g A env ρ X iter d) (hs : ∀ x, foldedSetIterable iter env x = pure x) (ht : Itb g A d ds target) (hl : yss.length = ds.length) (hρ : ∀ x d, ρc.lookup x = some d → ρ.lookup x = some d ∧ (x, NameKind.free) ∈ scope.names)
    (T : ∀ C cells, Turn g A X (ccEnv env scope C cells) (cown scope (ccEnv env scope C cells)) elt target ifs gs ρc ds yss) (hlen : yss.flatten.length ≤ 4096) :
    Ev g A env ρ X (.ListComp elt (⟨target, iter, ifs, 0⟩ :: gs) scope pos) (.lst yss.flatten) := Ev.mk fun F P V x s hP => by
  show wpAny _ A (comprehension _ scope env _ (newList []) false (eval iter env) Option.none) _ _ s
  refine comp_core S V x hP hi hs ht hl hρ T hlen fun h tk F' P' D₀ C xs hP' c => ?_
  obtain ⟨m, oC, c1, c2⟩ := c.ns
  refine ⟨m, c2.ns (hP' _ _ c1), fun h' hsb => ?_⟩
  obtain ⟨e, r⟩ := c.freeze
  exact ⟨h', tk, hid P' C, rfl, hP'.hid fun b o q e => (hsb.2 b q).trans e, _, e, r⟩
end
section
variable {g : G} {A : Around} {fx : Fx} {ρ ρc : List (Str × D)} {X : XS fx}
theorem Ex.assign_comp {y : Str} {yp spos : Pos} {elt target iter : Expr} {ifs : List Expr} {gs : List Comprehension} {scope : Scope} {pos : Pos} {d : D} {ds : List D} {yss : List (List D)} (S : ScOk fx.env scope)
    (hi : Ev g A fx.env ρ X.toXP iter d) (hs : ∀ x, foldedSetIterable iter fx.env x = pure x) (ht : Itb g A d ds target) (hl : yss.length = ds.length) (hρ : ∀ x d, ρc.lookup x = some d → ρ.lookup x = some d ∧ (x, NameKind.free) ∈ scope.names)
    (T : ∀ C cells, Turn g A X.toXP (ccEnv fx.env scope C cells) (cown scope (ccEnv fx.env scope C cells)) elt target ifs gs ρc ds yss) (hlen : yss.flatten.length ≤ 4096)
    (hx : AdrOk fx.env (muts fx.env) y) (hsw : swapsWith (.ListComp elt (⟨target, iter, ifs, 0⟩ :: gs) scope pos) (some (.Name y yp)) spos.line fx.env = pure true) :
    Ex g A fx X X (exec (.Assign [.Name y yp] (.ListComp elt (⟨target, iter, ifs, 0⟩ :: gs) scope pos) spos) fx.env) ρ (.next ((y, .lst yss.flatten) :: ρ)) := Ex.mk fun F P I V M x s hP => by
  rw [exec_Assign_Name_used _ _ _ _ hsw]
  refine wpAny_bind (wpAny_standAt (wpAny_bind ?_))
  show wpAny _ A (do let _ ← comprehension _ scope fx.env _ (newList []) false (eval iter fx.env) (some (PySem.assign (.Name y yp) fx.env))) _ _ s
  refine wpAny_bind (wpAny_mono (comp_core (use := some (PySem.assign (.Name y yp) fx.env)) (E := fun _ _ => False) (Q := fun _ s' => ∃ h tk P', s' = { s with heap := h, toks := tk } ∧ Has h P' ∧ ∃ F', Soft F P F' P' ∧ Ext fx.F₀ fx.P₀ F' P' ∧ X.p F' P' ∧ OutOk g.hb fx.env F' P' (.next ((y, .lst yss.flatten) :: ρ)) .next)
    S V x hP hi hs ht hl hρ T hlen fun h tk F' P' D₀ C xs hP' c => ?_) (fun _ s' hq => wpAny_pure (wpAny_pure hq)) fun _ _ e => e)
  obtain ⟨m, oC, c1, c2⟩ := c.ns
  obtain ⟨e, r⟩ := c.freeze
  have I' := I.trans e
  have V' := V.ext e
  have x' := X.st _ _ _ _ x e
  show wpAny _ A (PySem.assign (.Name y yp) fx.env (.ref D₀)) _ _ _
  have eP := c.freezeP
  have VP := V.ext eP
  have hC : ∀ a, muts fx.env a → a ≠ C := fun a ha q => by
    subst q
    rcases ha with rfl | ⟨z, hk, hl⟩
    · exact V.locNe c.newC
    · obtain ⟨_, o, v, q, _⟩ := M.cel z _ hl hk
      rw [c.newC] at q; cases q
  refine wpAny_assign_Name ((store_ok (A := A) (g := g) VP VP.m r hx).out hP' fun h₂ tk₂ P₂ _ hP₂ ⟨V₂, M₂, s₂, t₂⟩ => ?_)
  have C₂ : P₂ C = some oC := s₂.p _ _ c1 fun q => hC _ q rfl
  have offC : upd F' D₀ (lst xs) C = Option.none := by rw [upd_ne (Ne.symm c.ne)]; exact c.offC
  have sH : Step (muts fx.env) (upd F' D₀ (lst xs)) (hid P' C) (upd F' D₀ (lst xs)) (hid P₂ C) := ⟨.refl _, fun a o e n => by
    unfold hid at e ⊢
    by_cases q : a = C
    · rw [if_pos q] at e; cases e
    · rw [if_neg q] at e ⊢; exact s₂.p _ _ e n, s₂.fp.hid_off offC, fun _ h => .inl h⟩
  have VH : Vars g.hb fx.env (upd F' D₀ (lst xs)) (hid P₂ C) ((y, .lst yss.flatten) :: ρ) := V₂.step (W := fun a => a = C) (.hid s₂.fp offC rfl) (fun q => hC _ (.inl rfl) q) fun z cc o v hl hcp hd q => by
    have q' : cc = C := q
    rw [q', C₂] at hcp
    cases hcp
    obtain ⟨es, ep, hd', _⟩ := c2
    rw [hd'] at hd; cases hd
  refine ⟨m, c2.ns (hP₂ _ _ C₂), fun h' hsb => ⟨h', tk₂, hid P₂ C, rfl, hP₂.hid fun b o q e => (hsb.2 b q).trans e, _, ?_, inv_step I' sH fx.nm, X.stp _ _ _ _ _ x' sH fun a h => .inl h, rfl, VH, VH.m⟩⟩
  exact e.soft.trans ⟨.refl _, fun a o q k => by
    unfold hid at q ⊢
    by_cases z : a = C
    · rw [if_pos z] at q; cases q
    · rw [if_neg z] at q ⊢; exact t₂.it _ _ q k, fun a o q k n => n⟩
end
end TL
end
section
namespace TL
open PySem PySem.W PyProof.Rows PySem.Calls PyProof.Rows.LCg
theorem bindL_ne {k : Str → Option NameKind} : ∀ {b : List (Str × Value)} {m : Str → Option Value} {x : Str}, (∀ v, (x, v) ∉ b) → bindL k b m x = m x
  | [], _, _, _ => rfl
  | (n, v) :: r, m, x, h => by
    unfold bindL
    rw [bindL_ne fun v' hv => h v' (List.mem_cons_of_mem _ hv)]
    split
    · exact if_neg (by rintro rfl; exact h v List.mem_cons_self)
    · rfl
theorem bindC_ne {k : Str → Option NameKind} : ∀ {b : List (Str × Value)} {m : Str → Option Value} {x : Str}, (∀ v, (x, v) ∉ b) → bindC k b m x = m x
  | [], _, _, _ => rfl
  | (n, v) :: r, m, x, h => by
    unfold bindC
    rw [bindC_ne fun v' hv => h v' (List.mem_cons_of_mem _ hv)]
    split
    · rfl
    · exact if_neg (by rintro rfl; exact h v List.mem_cons_self)
theorem bindL_get {k : Str → Option NameKind} : ∀ {b : List (Str × Value)} {m : Str → Option Value} {x : Str} {v : Value}, (b.map (·.1)).Nodup → (x, v) ∈ b → k x = some .local → bindL k b m x = some v
  | (n, v₀) :: r, m, x, v, hn, h, hk => by
    rw [List.map_cons, List.nodup_cons] at hn
    unfold bindL
    rcases List.mem_cons.mp h with h | h
    · cases h
      rw [bindL_ne fun v' hv => hn.1 (List.mem_map.mpr ⟨_, hv, rfl⟩), if_pos hk, if_pos rfl]
    · exact bindL_get hn.2 h hk
theorem bindC_get {k : Str → Option NameKind} : ∀ {b : List (Str × Value)} {m : Str → Option Value} {x : Str} {v : Value}, (b.map (·.1)).Nodup → (x, v) ∈ b → k x ≠ some .local → bindC k b m x = some v
  | (n, v₀) :: r, m, x, v, hn, h, hk => by
    rw [List.map_cons, List.nodup_cons] at hn
    unfold bindC
    rcases List.mem_cons.mp h with h | h
    · cases h
      rw [bindC_ne fun v' hv => hn.1 (List.mem_map.mpr ⟨_, hv, rfl⟩), if_neg hk, if_pos rfl]
    · exact bindC_get hn.2 h hk
theorem zip_rep {F : PH} : ∀ {ns : List Str} {ds : List D} {vs : List Value} {x : Str} {d : D}, RepL F ds vs → (ns.zip ds).lookup x = some d → ∃ v, (x, v) ∈ ns.zip vs ∧ Rep F d v
  | [], _, _, _, _, _, h => by simp at h
  | n :: ns, [], _, _, _, _, h => by simp at h
  | n :: ns, d₀ :: ds, vs, x, d, r, h => by
    simp only [RepL] at r
    obtain ⟨v, r', rfl, r1, r2⟩ := r
    rw [List.zip_cons_cons, List.lookup_cons] at h
    cases q : x == n with
    | true =>
      rw [q] at h; cases h
      have := beq_iff_eq.mp q
      subst this
      exact ⟨v, List.mem_cons_self, r1⟩
    | false =>
      rw [q] at h
      obtain ⟨v', h1, h2⟩ := zip_rep r2 h
      exact ⟨v', List.mem_cons_of_mem _ h1, h2⟩
theorem zip_keys : ∀ {ns : List Str} {vs : List Value}, vs.length = ns.length → (ns.zip vs).map (·.1) = ns
  | [], _, _ => by simp
  | n :: ns, [], h => by simp at h
  | n :: ns, v :: vs, h => by
    rw [List.zip_cons_cons, List.map_cons, zip_keys (by simpa using h)]
theorem enter_ok {prog : Program} {w : World} {A : Around} {hb : Heap} {F P : PH} {s : Shared} {Q : Env → Shared → Prop} {E : Value → Shared → Prop} {scope : Scope} {qual : Str} {f : Addr} {cd : Value} {ns : List Str} {ds : List D} {vs : List Value}
    (hbs : Sub hb.get? F) (hf : Sub F P) (hP : Has s.heap P) (hr : RepL F ds vs) (hl : ds.length = ns.length) (hk : scope.kind = .function) (hnd : (scope.names.map (·.1)).Nodup) (hn : ns.Nodup) (hnf : ∀ x, (x, NameKind.free) ∉ scope.names)
    (hloc : ∀ x ∈ ns, scope.names.lookup x = some .local ∨ scope.names.lookup x = some .cell)
    (k : ∀ L h tk P' cells, Has h P' → Ext F P F P' → P L = none → (∀ a, muts (envX qual scope L f cd cells) a → P a = none) → Vars hb (envX qual scope L f cd cells) F P' (ns.zip ds) → Q (envX qual scope L f cd cells) { s with heap := h, toks := tk }) :
    wpAny (model prog w) A (newFunctionEnv scope mainGlobals [] (ns.zip vs) (qual ++ ".<locals>.") (some f) cd none builtinsNs) Q E s := by
  have hvl : vs.length = ns.length := by rw [hr.length, hl]
  have hkeys := zip_keys hvl
  have hmem : ∀ {x v}, (x, v) ∈ ns.zip vs → x ∈ ns := fun {x v} h => by rw [← hkeys]; exact List.mem_map.mpr ⟨_, h, rfl⟩
  refine wpAny_newFunctionEnv_cells hk (fun x hx => ?_) fun env he s' x => ?_
  · rcases hloc x.1 (hmem (v := x.2) hx) with h | h
    · exact .inl h
    · refine .inr ⟨h, ?_⟩
      obtain ⟨c, hc⟩ := cellsFrom_has (n := s.heap.objs.size + 1) (mem_lookup h)
      obtain ⟨c', hc'⟩ := lookup_some hc
      rw [hc']; rfl
  generalize hsz : s.heap.objs.size = n at *
  have he' : env = envX qual scope n f cd (cellsFrom (n + 1) scope.names []) := he
  clear he
  subst he'
  obtain ⟨h, tk, rfl⟩ := x.toInCall.same
  have keep : ∀ b o, s.heap.get? b = some o → h.get? b = some o := x.toInCall.keep
  have ltP : ∀ {a}, P a ≠ Option.none → a < n := fun {a} e => by rw [← hsz]; exact hP.lt e
  have geN : ∀ {a}, n ≤ a → P a = Option.none := fun {a} h => by
    cases e : P a with
    | none => rfl
    | some o => exact absurd (ltP (by rw [e]; exact fun z => nomatch z)) (Nat.not_lt.mpr h)
  let P' : PH := fun a => if a < n then P a else h.get? a
  have hsub : Sub P P' := fun a o e => by
    show (if a < n then P a else h.get? a) = some o
    rw [if_pos (ltP (by rw [e]; exact fun z => nomatch z))]; exact e
  have hH' : Has h P' := fun a o e => by
    replace e : (if a < n then P a else h.get? a) = some o := e
    by_cases q : a < n
    · rw [if_pos q] at e; exact keep _ _ (hP _ _ e)
    · rw [if_neg q] at e; exact e
  have atN : ∀ {a}, n ≤ a → P' a = h.get? a := fun {a} h => if_neg (Nat.not_lt.mpr h)
  have ext : Ext F P F P' := ⟨.refl _, hsub, hf.trans hsub, fun _ e => .inl e⟩
  have above : ∀ {y c}, (y, c) ∈ cellsFrom (n + 1) scope.names [] → n < c := fun {y c} hc => x.above y c hc
  have lookC : ∀ {y}, scope.names.lookup y = some .cell → ∃ c, (cellsFrom (n + 1) scope.names []).lookup y = some c := fun {y} hy => by
    obtain ⟨c, hc⟩ := cellsFrom_has (n := n + 1) (mem_lookup hy)
    exact lookup_some hc
  obtain ⟨oL, eL, nL⟩ := ns_obj x.toInCall.ns
  have hnd' : ((ns.zip vs).map (·.1)).Nodup := by rw [hkeys]; exact hn
  have cellOf : ∀ {y c}, (cellsFrom (n + 1) scope.names []).lookup y = some c → ∃ o, P' c = some o ∧ o.data = .cell (bindC (fun z => List.lookup z scope.names) (ns.zip vs) (fun _ => Option.none) y) := fun {y c} hc => by
    obtain ⟨o, ho, hd⟩ := x.cell y c hc
    exact ⟨o, (atN (Nat.le_of_lt (above (PySem.mem_of_lookup hc)))).trans ho, hd⟩
  refine k n h tk P' _ hH' ext (geN (Nat.le_refl _)) (fun a ha => ?_) ⟨⟨hk, rfl, rfl⟩, hbs, ext.fp, ⟨_, oL, (atN (Nat.le_refl _)).trans eL, nL, fun y d hy hky => ?_⟩, fun y d hy hky => ?_, ?_⟩
  · rcases ha with rfl | ⟨y, _, hl⟩
    · exact geN (Nat.le_refl _)
    · exact geN (Nat.le_of_lt (above (PySem.mem_of_lookup hl)))
  · obtain ⟨v, h1, h2⟩ := zip_rep hr hy
    exact ⟨v, bindL_get hnd' h1 hky, h2⟩
  · rcases hky with hky | hky
    · obtain ⟨c, hc⟩ := lookC hky
      obtain ⟨v, h1, h2⟩ := zip_rep hr hy
      obtain ⟨o, ho, hd⟩ := cellOf hc
      refine ⟨c, v, o, hc, ho, ?_, h2⟩
      rw [hd, bindC_get hnd' h1 (by rw [show scope.names.lookup y = some .cell from hky]; decide)]
    · exact absurd (mem_lookup hky) (hnf y)
  · refine ⟨none_of hf (geN (Nat.le_refl _)), fun y c hc => Nat.ne_of_gt (above (PySem.mem_of_lookup hc)), fun y hy => ?_, fun y c hc _ => none_of hf (geN (Nat.le_of_lt (above (PySem.mem_of_lookup hc)))), fun y z c hy hz => PySem.name_of_addr x.apart (PySem.mem_of_lookup hy) (PySem.mem_of_lookup hz)⟩
    rcases hy with hy | hy
    · obtain ⟨c, hc⟩ := lookC hy
      obtain ⟨o, ho, hd⟩ := cellOf hc
      exact ⟨c, o, _, hc, ho, hd⟩
    · exact absurd (mem_lookup hy) (hnf y)
noncomputable def CallOk (g : G) (f : Value) (args : List D) (d : D) (n : Nat) : Prop :=
  ∀ (A : Around) (F P : PH) (vs : List Value), Cx A n → Sub g.hb.get? F → Sub F P → RepL F args vs → Tr g.prog g.w A (PySem.call f vs []) P (fun P' v => ∃ F', Ext F P F' P' ∧ Rep F' d v)
structure FnAt (g : G) (a : Addr) (name : Str) (params : Arguments) (body : List Stmt) (scope : Scope) : Prop where
  ex : ∃ o pm code doc, g.hb.get? a = some o ∧ o.data = .func (docDef name params body scope pm code doc) ∧ g.hb.CodeRec code name
structure FnSc (scope : Scope) (ns : List Str) : Prop where
  kind : scope.kind = .function
  nd : (scope.names.map (·.1)).Nodup
  nn : ns.Nodup
  nf : ∀ x, (x, NameKind.free) ∉ scope.names
  loc : ∀ x ∈ ns, scope.names.lookup x = some .local ∨ scope.names.lookup x = some .cell
  co : scope.isCoroutine = false
  gen : scope.isGenerator = false
theorem Cx.deeper {A : Around} {n : Nat} {env : Env} (x : Cx A (n + 1)) : Cx (A.deeper env) n := ⟨x.h, by have := x.d; show A.depth + 1 + n < _; omega, by have := x.u; show A.units + 3 + 8 * n < _; omega⟩
theorem CallOk.fn {g : G} {a : Addr} {name : Str} {params : Arguments} {body : List Stmt} {scope : Scope} {ns : List Str} {args : List D} {d : D} {n : Nat} (ok : GOk g) (fn : FnAt g a name params body scope) (sc : FnSc scope ns) (hl : args.length = ns.length)
    (hbind : ∀ pm code doc vs, vs.length = ns.length → bindArgs (docDef name params body scope pm code doc) ⟨vs, []⟩ = pure (ns.zip vs))
    (h : ∀ (A : Around) (fx : Fx) (L : Addr) (cells : List (Str × Addr)) (cd : Value), Cx A n → fx.env = envX name scope L a cd cells → Ex g A fx XS.tt XS.tt (execs body fx.env) (ns.zip args) (.ret d)) : CallOk g (.ref a) args d (n + 1) := fun A F P vs cx hbs hf hr s hP => by
  obtain ⟨o, pm, code, doc, ho, hd, hc⟩ := fn.ex
  have hk : ∀ b o, g.hb.get? b = some o → s.heap.get? b = some o := fun b o e => hP _ _ (hf _ _ (hbs _ _ e))
  refine wpAny_call (codeAny_call_function (by have := cx.d; omega) (hk _ _ ho) hd sc.co sc.gen rfl (hc.keeps hk) ?_)
  rw [hbind pm code doc vs (by rw [hr.length, hl])]
  refine wpAny_pure (enter_ok (hb := g.hb) hbs hf hP hr hl sc.kind sc.nd sc.nn sc.nf sc.loc fun L h₁ tk₁ P₁ cells hP₁ e₁ _ hnew V => ⟨ok.nolimit.keeps fun b o e => hP₁ _ _ (e₁.fp _ _ (e₁.f _ _ (hbs _ _ e))), codeAny_func ?_⟩)
  have B := (h (A.deeper (envX name scope L a code cells)) ⟨envX name scope L a code cells, F, P, hnew⟩ L cells code cx.deeper rfl).run F P₁ e₁ V V.m trivial
  refine B.out hP₁ fun h₂ tk₂ P₂ f hP₂ ⟨F₂, t₂, I₂, _, v, hf', r⟩ => ?_
  subst hf'
  exact ⟨_, _, P₂, rfl, hP₂, F₂, I₂, r⟩
section
variable {g : G} {A : Around} {env : Env} {ρ : List (Str × D)} {X : XP}
theorem Ev.glob {x : Str} {pos : Pos} {v : Value} (ok : GOk g) (hv : g.mg x = some v) (hk : env.kindOf x = some .globalImplicit) (hd : (x == ("__debug__" : Str)) = false) : Ev g A env ρ X (.Name x pos) (.raw v) := Ev.mk fun F P V _ s hs => by
  have keep : ∀ b o, g.hb.get? b = some o → s.heap.get? b = some o := fun b o e => hs _ _ (V.fp _ _ (V.base _ _ e))
  exact Name_function_global V.ok.kind hk (loadGlobal_global (by rw [V.ok.g]; exact ok.gl.keeps keep) hv ⟨_, s.toks, P, rfl, hs, F, .refl V.fp, by simp only [Rep]⟩) hd
theorem Ev.builtin {x : Str} {pos : Pos} {v : Value} (ok : GOk g) (hn : g.mg x = none) (hv : bootBuiltins x = some v) (hnn : x ≠ "__name__") (hk : env.kindOf x = some .globalImplicit) (hd : (x == ("__debug__" : Str)) = false) : Ev g A env ρ X (.Name x pos) (.raw v) := Ev.mk fun F P V _ s hs => by
  have keep : ∀ b o, g.hb.get? b = some o → s.heap.get? b = some o := fun b o e => hs _ _ (V.fp _ _ (V.base _ _ e))
  exact Name_function_global V.ok.kind hk (loadGlobal_builtin (by rw [V.ok.g]; exact ok.gl.keeps keep) hn (by rw [V.ok.b]; exact ok.bl.keeps keep) ((ok.bi x hnn).trans hv) ⟨_, s.toks, P, rfl, hs, F, .refl V.fp, by simp only [Rep]⟩) hd
noncomputable def Keep (g : G) (f : Value) : Prop := ∀ h : Heap, (∀ b o, g.hb.get? b = some o → h.get? b = some o) → ∃ k, (k = Keeper.frame ∨ k = Keeper.machine ∨ k = Keeper.boundFrame) ∧ Looks (model g.prog g.w) h (keeperOf f) k
theorem Keep.fn {a : Addr} {name : Str} {params : Arguments} {body : List Stmt} {scope : Scope} (fn : FnAt g a name params body scope) : Keep g (.ref a) := fun h hk => by
  obtain ⟨o, pm, code, doc, ho, hd, hc⟩ := fn.ex
  refine ⟨.frame, .inl rfl, (Looks.ld (part := none) (hk _ _ ho)).andThen ?_⟩
  rw [hd]
  exact .now
theorem Keep.builtin {id : String} : Keep g (.builtin id) := fun h hk => ⟨.machine, .inr (.inl rfl), .now⟩
theorem Keep.type {id : String} : Keep g (.type id) := fun h hk => ⟨.machine, .inr (.inl rfl), .now⟩
theorem Ev.call {fn e : Expr} {args : List Expr} {pos : Pos} {f : Value} {ds : List D} {d : D} {n : Nat} (cx : Cx A n) (hf : Ev g A env ρ X fn (.raw f)) (hk : Keep g f) (ha : EvL g A env ρ X pos (e :: args) ds) (hc : CallOk g f ds d n)
    (he : eval (.Call fn (e :: args) [] pos) env = (eval fn env >>= fun f => callWith pos f [] (backTo pos (starEach (e :: args) env)) []) := by rfl)
    (hst : starEach (e :: args) env = (false, eval e env) :: starEach args env := by rfl) (hst' : (backTo pos (starEach args env)).any (·.1) = false := by rfl) : Ev g A env ρ X (.Call fn (e :: args) [] pos) d := Ev.mk fun F P V x s hs => by
  rw [he]
  refine wpAny_bind ((hf.run F P V x).out hs fun h₁ tk₁ P₁ v hP₁ ⟨F₁, e₁, r₁⟩ => ?_)
  simp only [Rep] at r₁
  subst r₁
  have V₁ := V.ext e₁
  have key := ha.run F₁ P₁ V₁ (X.st _ _ _ _ x e₁)
  rw [hst] at key ⊢
  refine callWith_of (P := fun h => ∀ b o, g.hb.get? b = some o → h.get? b = some o) (by show ((false || (backTo pos (starEach args env)).any (·.1)) || false) = false; rw [hst']; rfl) hk (evalArgs_plain ?_)
  refine key.out hP₁ fun h₂ tk₂ P₂ vs hP₂ ⟨F₂, e₂, r₂⟩ => ?_
  have V₂ := V₁.ext e₂
  exact ⟨fun b o e => hP₂ _ _ (V₂.fp _ _ (V₂.base _ _ e)), (hc A F₂ P₂ vs cx V₂.base V₂.fp r₂).out hP₂ fun h₃ tk₃ P₃ v hP₃ ⟨F₃, e₃, r₃⟩ => ⟨_, _, P₃, rfl, hP₃, F₃, (e₁.trans e₂).trans e₃, r₃⟩⟩
theorem Ev.call0 {fn : Expr} {pos : Pos} {f : Value} {d : D} {n : Nat} (cx : Cx A n) (hf : Ev g A env ρ X fn (.raw f)) (hk : Keep g f) (hc : CallOk g f [] d n)
    (he : eval (.Call fn [] [] pos) env = (eval fn env >>= fun f => callWith pos f [] [] []) := by rfl) : Ev g A env ρ X (.Call fn [] [] pos) d := Ev.mk fun F P V x s hs => by
  rw [he]
  refine wpAny_bind ((hf.run F P V x).out hs fun h₁ tk₁ P₁ v hP₁ ⟨F₁, e₁, r₁⟩ => ?_)
  simp only [Rep] at r₁
  subst r₁
  have V₁ := V.ext e₁
  refine callWith_of (P := fun h => ∀ b o, g.hb.get? b = some o → h.get? b = some o) rfl hk (evalArgs_nil3 ?_)
  exact ⟨fun b o e => hP₁ _ _ (V₁.fp _ _ (V₁.base _ _ e)), (hc A F₁ P₁ [] cx V₁.base V₁.fp .nil).out hP₁ fun h₃ tk₃ P₃ v hP₃ ⟨F₃, e₃, r₃⟩ => ⟨_, _, P₃, rfl, hP₃, F₃, e₁.trans e₃, r₃⟩⟩
end
end TL
end
section
namespace TL
open PySem PySem.W PyProof.Rows PySem.Calls PyProof.Rows.LCg
noncomputable def intsD (l : List Int) : D := .lst (l.map .int)
theorem ints_of {F : PH} : ∀ {ns : List Int} {vs : List Value}, RepL F (ns.map .int) vs → ∃ xs : Array (Int × Tok), intItems xs = vs.toArray ∧ xs.toList.map (·.1) = ns
  | [], vs, h => by simp only [List.map_nil, RepL] at h; subst h; exact ⟨#[], by simp [intItems], rfl⟩
  | n :: ns, vs, h => by
    simp only [List.map_cons, RepL, Rep] at h
    obtain ⟨v, r, rfl, ⟨t, rfl⟩, h2⟩ := h
    obtain ⟨xs, e1, e2⟩ := ints_of h2
    refine ⟨((n, t) :: xs.toList).toArray, ?_, by simp [e2]⟩
    have : (xs.toList.map fun p => Value.int p.1 p.2) = r := by
      have := congrArg Array.toList e1
      simpa [intItems] using this
    simp [intItems, this]
theorem intsAre_of {F : PH} : ∀ {ns : List Int} {vs : List Value}, RepL F (ns.map .int) vs → IntsAre vs ns
  | [], vs, h => by simp only [List.map_nil, RepL] at h; subst h; exact .nil
  | n :: ns, vs, h => by
    simp only [List.map_cons, RepL, Rep] at h
    obtain ⟨v, r, rfl, ⟨t, rfl⟩, h2⟩ := h
    exact .cons _ _ (intsAre_of h2)
section
variable {g : G} {A : Around} {env : Env} {ρ : List (Str × D)} {X : XP}
theorem Ev.sub {value slice : Expr} {pos : Pos} {d₁ d₂ d : D} (h₁ : Ev g A env ρ X value d₁) (h₂ : Ev g A env ρ X slice d₂) (ho : Op2 g A (subscriptTail value slice) d₁ d₂ d) : Ev g A env ρ X (.Subscript value slice pos) d := Ev.mk fun F P V x s hs => by
  refine Subscript_ ((h₁.run F P V x).out hs fun h tk P₁ v₁ hP₁ ⟨F₁, e₁, r₁⟩ => ?_)
  refine (h₂.run F₁ P₁ (V.ext e₁) (X.st _ _ _ _ x e₁)).out hP₁ fun h tk P₂ v₂ hP₂ ⟨F₂, e₂, r₂⟩ => ?_
  exact ho F₂ v₁ v₂ _ _ _ (hP₂.sub e₂.fp) (r₁.sub e₂.f) r₂ fun v tk r => ⟨_, _, P₂, rfl, hP₂, F₂, e₁.trans e₂, r⟩
theorem item_lst {value slice : Expr} {ds : List D} {k : Int} {d : D} (h0 : 0 ≤ k) (hk : k < 2 ^ 63) (hx : ds[k.toNat]? = some d)
    (hs : ∀ (o : Addr) (i : Int) (t : Tok), subscripted slice false (.ref o) (.int i t) = operate [.ref o, .int i t] (getItem (.ref o) (.int i t)) := by intro _ _ _; rfl) : Op2 g A (subscriptTail value slice) (.lst ds) (.int k) d := fun F v₁ v₂ s Q E hF r₁ r₂ K => by
  simp only [Rep] at r₁ r₂
  obtain ⟨a, o, vs, n, rfl, hF', hc, hd, hl⟩ := r₁
  obtain ⟨t, rfl⟩ := r₂
  have hI : s.heap.IsList a vs := ⟨o, hF _ _ hF', hc.1, n, hd⟩
  obtain ⟨v, e, r⟩ := hl.get hx
  exact tail_any hI.typeIs slot_list_getitem.lookup (wpAny_getItem_list hI h0 hk (by simpa using e) (K v s.toks r)) (hs ..)
theorem item_tup {value slice : Expr} {ds : List D} {k : Int} {j : Nat} {d : D} (h0 : -(2 ^ 63) ≤ k) (hk : k < 2 ^ 63) (hj : seqIndex? k ds.length = some j) (hx : ds[j]? = some d)
    (hs : ∀ (o : Addr) (i : Int) (t : Tok), subscripted slice false (.ref o) (.int i t) = operate [.ref o, .int i t] (getItem (.ref o) (.int i t)) := by intro _ _ _; rfl) : Op2 g A (subscriptTail value slice) (.tup ds) (.int k) d := fun F v₁ v₂ s Q E hF r₁ r₂ K => by
  simp only [Rep] at r₁ r₂
  obtain ⟨a, o, vs, n, rfl, hF', hc, hd, hl⟩ := r₁
  obtain ⟨t, rfl⟩ := r₂
  have hI : IsTup s.heap a vs.toList.toArray := ⟨o, hF _ _ hF', hc.1, n, by simpa using hd⟩
  obtain ⟨v, e, r⟩ := hl.get hx
  exact item_tupleT hI h0 hk (by rw [hl.length]; exact hj) e (K v s.toks r) (hs ..)
theorem item_strD {value slice : Expr} {x : Str} {k : Int} (h0 : 0 ≤ k) (hk : k < x.length) (hk' : k < 2 ^ 63)
    (hs : ∀ (x : Str) (u : Tok) (i : Int) (t : Tok), subscripted slice false (.str x u) (.int i t) = operate [.str x u, .int i t] (getItem (.str x u) (.int i t)) := by intro _ _ _ _; rfl)
    (ht : ∀ (x : Str) (t : Tok) (r : Value), letTemporaryGo value (.str x t) r = pure () := by intro _ _ _; rfl) : Op2 g A (subscriptTail value slice) (.str x) (.int k) (.str (Txt.item x k)) := fun F v₁ v₂ s Q E hF r₁ r₂ K => by
  simp only [Rep] at r₁ r₂
  obtain ⟨t, rfl⟩ := r₁
  obtain ⟨u, rfl⟩ := r₂
  refine item_str ?_ (by omega) hk (fun _ => K _ _ (by simp only [Rep]; exact ⟨_, rfl⟩)) (hs ..) (ht _ _)
  exact fitsSsize_of (N := 9223372036854775808) (by omega) (by omega) (Int.le_refl _)
theorem Ev.neg {e : Expr} {pos : Pos} {i : Int} (h : Ev g A env ρ X e (.int i)) : Ev g A env ρ X (.UnaryOp .USub e pos) (.int (-i)) := Ev.mk fun F P V x s hs => by
  refine UnaryOp_ ((h.run F P V x).out hs fun h tk P₁ v₁ hP₁ ⟨F₁, e₁, r₁⟩ => ?_)
  simp only [Rep] at r₁
  obtain ⟨t, rfl⟩ := r₁
  exact neg_int ⟨_, _, P₁, rfl, hP₁, F₁, e₁, by simp only [Rep]; exact ⟨_, rfl⟩⟩
theorem RepL.one {F : PH} {d : D} {vs : List Value} (h : RepL F [d] vs) : ∃ v, vs = [v] ∧ Rep F d v := by
  simp only [RepL] at h
  obtain ⟨v, r, rfl, h1, rfl⟩ := h
  exact ⟨v, rfl, h1⟩
theorem len_lst {ds : List D} {n : Nat} (hl : ds.length ≤ 4096) : CallOk g (.builtin "len") [.lst ds] (.int ds.length) n := fun A F P vs cx hb hf hr s hP => by
  obtain ⟨v, rfl, r⟩ := hr.one
  simp only [Rep] at r
  obtain ⟨a, o, vs, m, rfl, hF, hc, hd, hl'⟩ := r
  have e : vs.size = ds.length := by rw [← hl'.length]; simp
  refine Calls.call_len_list ⟨o, hP _ _ (hf _ _ hF), hc.1, m, hd⟩ (by rw [e]; omega) ⟨_, _, P, rfl, hP, F, .refl hf, ?_⟩
  simp only [Rep]; exact ⟨_, by rw [e]⟩
theorem len_tup {ds : List D} {n : Nat} (hl : ds.length ≤ 4096) : CallOk g (.builtin "len") [.tup ds] (.int ds.length) n := fun A F P vs cx hb hf hr s hP => by
  obtain ⟨v, rfl, r⟩ := hr.one
  simp only [Rep] at r
  obtain ⟨a, o, vs, m, rfl, hF, hc, hd, hl'⟩ := r
  have e : vs.size = ds.length := by rw [← hl'.length]; simp
  refine len_tuple ⟨o, hP _ _ (hf _ _ hF), hc.1, m, hd⟩ (by rw [e]; omega) ⟨_, _, P, rfl, hP, F, .refl hf, ?_⟩
  simp only [Rep]; exact ⟨_, by rw [e]⟩
theorem preSum_list (f : Nat → Int) (l : List Int) (h : ∀ i, i < l.length → f i = l.getD i 0) : preSum f l.length = l.sum := by
  have gen : ∀ k, k ≤ l.length → preSum f k = (l.take k).sum := by
    intro k
    induction k with
    | zero => intro _; rfl
    | succ k ih =>
      intro hk
      have hk' : k < l.length := hk
      rw [preSum, ih (Nat.le_of_lt hk'), h k hk', List.take_succ_eq_append_getElem hk', List.sum_append]
      simp [List.getD_eq_getElem?_getD, List.getElem?_eq_getElem hk']
  have := gen l.length (Nat.le_refl _)
  rwa [List.take_length] at this
theorem numAt_getD (xs : Array (Int × Tok)) (i : Nat) : numAt xs i = (xs.toList.map (·.1)).getD i 0 := by
  unfold numAt
  rw [List.getD_eq_getElem?_getD, List.getElem?_map, Array.getElem?_toList]
theorem preSum_eq (xs : Array (Int × Tok)) : preSum (numAt xs) xs.size = (xs.toList.map (·.1)).sum := by
  have := preSum_list (numAt xs) (xs.toList.map (·.1)) fun i _ => numAt_getD xs i
  simpa using this
theorem sum_ok {ns : List Int} {n : Nat} : CallOk g (.builtin "sum") [intsD ns] (.int ns.sum) n := fun A F P vs cx hb hf hr s hP => by
  obtain ⟨v, rfl, r⟩ := hr.one
  simp only [intsD, Rep] at r
  obtain ⟨a, o, vs, m, rfl, hF, hc, hd, hl'⟩ := r
  obtain ⟨xs, e1, e2⟩ := ints_of hl'
  have hI : s.heap.IsList a (intItems xs) := ⟨o, hP _ _ (hf _ _ hF), hc.1, m, by rw [hd, e1]⟩
  refine sum_intListG cx.h hI fun h' tk t' hk => ⟨_, _, P, rfl, hP.keeps hk, F, .refl hf, ?_⟩
  simp only [Rep]; exact ⟨_, by rw [preSum_eq, e2]⟩
theorem range1 {k : Int} {n : Nat} : CallOk g (.type "range") [.int k] (.rng 0 k) n := fun A F P vs cx hb hf hr s hP => by
  obtain ⟨v, rfl, r⟩ := hr.one
  simp only [Rep] at r
  obtain ⟨t, rfl⟩ := r
  refine call_range_1 ⟨_, _, _, rfl, hP.push rfl, _, .alloc hf hP.fresh, ?_⟩
  simp only [Rep]; exact ⟨_, _, _, _, rfl, upd_self ..⟩
theorem RepL.two {F : PH} {d e : D} {vs : List Value} (h : RepL F [d, e] vs) : ∃ v w, vs = [v, w] ∧ Rep F d v ∧ Rep F e w := by
  simp only [RepL] at h
  obtain ⟨v, r, rfl, h1, w, r', rfl, h2, rfl⟩ := h
  exact ⟨v, w, rfl, h1, h2⟩
theorem RepL.three {F : PH} {d e f : D} {vs : List Value} (h : RepL F [d, e, f] vs) : ∃ v w u, vs = [v, w, u] ∧ Rep F d v ∧ Rep F e w ∧ Rep F f u := by
  simp only [RepL] at h
  obtain ⟨v, r, rfl, h1, w, r', rfl, h2, u, r'', rfl, h3, rfl⟩ := h
  exact ⟨v, w, u, rfl, h1, h2, h3⟩
theorem range2 {j k : Int} {n : Nat} : CallOk g (.type "range") [.int j, .int k] (.rng j k) n := fun A F P vs cx hb hf hr s hP => by
  obtain ⟨v, w, rfl, r, r'⟩ := hr.two
  simp only [Rep] at r r'
  obtain ⟨t, rfl⟩ := r
  obtain ⟨u, rfl⟩ := r'
  refine call_range_2 ⟨_, _, _, rfl, hP.push rfl, _, .alloc hf hP.fresh, ?_⟩
  simp only [Rep]; exact ⟨_, _, _, _, rfl, upd_self ..⟩
theorem tuple_lst {ds : List D} {n : Nat} (hl : ds.length ≤ 4096) : CallOk g (.type "tuple") [.lst ds] (.tup ds) n := fun A F P vs cx hb hf hr s hP => by
  obtain ⟨v, rfl, r⟩ := hr.one
  simp only [Rep] at r
  obtain ⟨a, o, vs, m, rfl, hF, hc, hd, hl'⟩ := r
  have e : vs.size = ds.length := by rw [← hl'.length]; simp
  refine call_tuple_list ⟨o, hP _ _ (hf _ _ hF), hc.1, m, hd⟩ (fun h' hk => ?_) (by rw [e]; exact Nat.le_trans hl (by decide))
  have hP' := hP.keeps hk
  refine ⟨_, _, _, rfl, hP'.push rfl, _, .alloc hf hP'.fresh, ?_⟩
  simp only [Rep]
  exact ⟨_, _, _, _, rfl, upd_self .., ⟨rfl, rfl, rfl⟩, rfl, hl'.sub (.upd_new (none_of hf hP'.fresh))⟩
theorem max3 {a b c : Int} {n : Nat} : CallOk g (.builtin "max") [.int a, .int b, .int c] (.int (max a (max b c))) n := fun A F P vs cx hb hf hr s hP => by
  obtain ⟨v, w, u, rfl, r1, r2, r3⟩ := hr.three
  simp only [Rep] at r1 r2 r3
  obtain ⟨t1, rfl⟩ := r1
  obtain ⟨t2, rfl⟩ := r2
  obtain ⟨t3, rfl⟩ := r3
  refine max_three_ints cx.h fun h' tk hk => ⟨_, _, P, rfl, hP.keeps hk, F, .refl hf, ?_⟩
  simp only [Rep]
  (repeat' split) <;> exact ⟨_, congrArg (Value.int · _) (by omega)⟩
theorem min3 {a b c : Int} {n : Nat} : CallOk g (.builtin "min") [.int a, .int b, .int c] (.int (min a (min b c))) n := fun A F P vs cx hb hf hr s hP => by
  obtain ⟨v, w, u, rfl, r1, r2, r3⟩ := hr.three
  simp only [Rep] at r1 r2 r3
  obtain ⟨t1, rfl⟩ := r1
  obtain ⟨t2, rfl⟩ := r2
  obtain ⟨t3, rfl⟩ := r3
  refine min_three_ints cx.h fun h' tk hk => ⟨_, _, P, rfl, hP.keeps hk, F, .refl hf, ?_⟩
  simp only [Rep]
  (repeat' split) <;> exact ⟨_, congrArg (Value.int · _) (by omega)⟩
noncomputable def kinds (l : List Int) : Nat := (l.foldl step_dedup []).length
theorem range_getD (l : List Int) : (List.range l.length).map (fun i => l.getD i 0) = l := by
  apply List.ext_getElem
  · simp
  · intro i h1 h2
    simp [List.getD_eq_getElem?_getD, List.getElem?_eq_getElem h2]
theorem set_ok {ns : List Int} {n : Nat} (hl : ns.length ≤ 1000) : CallOk g (.type "set") [intsD ns] (.set (kinds ns)) n := fun A F P vs cx hb hf hr s hP => by
  obtain ⟨v, rfl, r⟩ := hr.one
  simp only [intsD, Rep] at r
  obtain ⟨a, o, vs, m, rfl, hF, hc, hd, hl'⟩ := r
  have e : vs.size = ns.length := by have := hl'.length; simpa using this
  refine call_set_list cx.h ⟨o, hP _ _ (hf _ _ hF), hc.1, m, hd⟩ (intsAre_of hl') (by rw [e]; exact Nat.lt_of_le_of_lt (Nat.succ_le_succ hl) (by decide)) fun h' tk hs hk => ?_
  obtain ⟨o', es, ep, t, h1, h2, h3, _, _, h6, h7, h8⟩ := hs
  have hP' : Has h' (upd P s.heap.objs.size o') := fun b ob e => by
    by_cases q : b = s.heap.objs.size
    · subst q; rw [upd_self] at e; cases e; exact h1
    · rw [upd_ne q] at e; exact hk b ob (hP.lt (by rw [e]; exact fun z => nomatch z)) (hP _ _ e)
  refine ⟨_, _, _, rfl, hP', _, .alloc hf hP.fresh, ?_⟩
  simp only [Rep]
  refine ⟨_, o', es, ep, t, rfl, upd_self .., h2, h3, h7, h8.trans ?_⟩
  unfold firstMet kinds
  rw [e, range_getD]
theorem kinds_le (l : List Int) : kinds l ≤ l.length := by
  unfold kinds
  have gen : ∀ (l acc : List Int), (l.foldl step_dedup acc).length ≤ acc.length + l.length := by
    intro l
    induction l with
    | nil => intro acc; simp
    | cons x r ih =>
      intro acc
      rw [List.foldl_cons]
      have := ih (step_dedup acc x)
      have h2 : (step_dedup acc x).length ≤ acc.length + 1 := by
        unfold step_dedup
        split <;> simp
      simp only [List.length_cons]
      omega
  simpa using gen l []
theorem len_set {k n : Nat} (hk : k < 2 ^ 63) : CallOk g (.builtin "len") [.set k] (.int k) n := fun A F P vs cx hb hf hr s hP => by
  obtain ⟨v, rfl, r⟩ := hr.one
  simp only [Rep] at r
  obtain ⟨a, o, es, ep, t, rfl, hF, h1, h2, h3, h4⟩ := r
  refine call_len_set (hP _ _ (hf _ _ hF)) h1 h2 h3 (by rw [h4]; omega) ⟨_, _, P, rfl, hP, F, .refl hf, ?_⟩
  simp only [Rep]; exact ⟨_, by rw [h4]⟩
theorem max_lst {ns : List Int} {M : Int} {n : Nat} (hM : M ∈ ns) (hle : ∀ a ∈ ns, a ≤ M) : CallOk g (.builtin "max") [intsD ns] (.int M) n := fun A F P vs cx hb hf hr s hP => by
  obtain ⟨v, rfl, r⟩ := hr.one
  simp only [intsD, Rep] at r
  obtain ⟨a, o, vs, m, rfl, hF, hc, hd, hl'⟩ := r
  obtain ⟨xs, e1, e2⟩ := ints_of hl'
  have hI : s.heap.IsList a (intItems xs) := ⟨o, hP _ _ (hf _ _ hF), hc.1, m, by rw [hd, e1]⟩
  have hsz : xs.size = ns.length := by rw [← e2]; simp
  have hpos : 0 < xs.size := by rw [hsz]; exact List.length_pos_of_mem hM
  refine max_intList cx.h hI hpos fun v h' tk hv hk => ⟨_, _, P, rfl, hP.keeps hk, F, .refl hf, ?_⟩
  obtain ⟨b1, b2⟩ := argBest_gt (numAt xs) (xs.size - 1)
  generalize argBest (fun i j => decide (numAt xs i > numAt xs j)) (xs.size - 1) = k at *
  have hk' : k < xs.size := by omega
  have hv' : v = .int (xs[k]).1 (xs[k]).2 := by
    simp only [intItems, Array.getElem?_map, Array.getElem?_eq_getElem hk', Option.map_some, Option.some.injEq] at hv
    exact hv.symm
  have num : ∀ j, j < xs.size → ∀ hj : j < xs.size, numAt xs j = (xs[j]).1 := fun j _ hj => by unfold numAt; rw [Array.getElem?_eq_getElem hj]; rfl
  have mem : (xs[k]).1 ∈ ns := by rw [← e2]; exact List.mem_map.mpr ⟨xs[k], by simp, rfl⟩
  have : (xs[k]).1 = M := by
    apply Int.le_antisymm (hle _ mem)
    rw [← e2] at hM
    obtain ⟨p, hp, rfl⟩ := List.mem_map.mp hM
    obtain ⟨j, hj, rfl⟩ := List.getElem_of_mem hp
    have hj' : j < xs.size := by simpa using hj
    have := b2 j (by omega)
    rw [num j hj' hj', num k hk' hk'] at this
    simpa using this
  simp only [Rep]; exact ⟨_, by rw [hv', this]⟩
theorem min_lst {ns : List Int} {M : Int} {n : Nat} (hM : M ∈ ns) (hle : ∀ a ∈ ns, M ≤ a) : CallOk g (.builtin "min") [intsD ns] (.int M) n := fun A F P vs cx hb hf hr s hP => by
  obtain ⟨v, rfl, r⟩ := hr.one
  simp only [intsD, Rep] at r
  obtain ⟨a, o, vs, m, rfl, hF, hc, hd, hl'⟩ := r
  obtain ⟨xs, e1, e2⟩ := ints_of hl'
  have hI : s.heap.IsList a (intItems xs) := ⟨o, hP _ _ (hf _ _ hF), hc.1, m, by rw [hd, e1]⟩
  have hsz : xs.size = ns.length := by rw [← e2]; simp
  have hpos : 0 < xs.size := by rw [hsz]; exact List.length_pos_of_mem hM
  refine min_intList cx.h hI hpos fun v h' tk hv hk => ⟨_, _, P, rfl, hP.keeps hk, F, .refl hf, ?_⟩
  obtain ⟨b1, b2⟩ := argBest_lt (numAt xs) (xs.size - 1)
  generalize argBest (fun i j => decide (numAt xs i < numAt xs j)) (xs.size - 1) = k at *
  have hk' : k < xs.size := by omega
  have hv' : v = .int (xs[k]).1 (xs[k]).2 := by
    simp only [intItems, Array.getElem?_map, Array.getElem?_eq_getElem hk', Option.map_some, Option.some.injEq] at hv
    exact hv.symm
  have num : ∀ j, ∀ hj : j < xs.size, numAt xs j = (xs[j]).1 := fun j hj => by unfold numAt; rw [Array.getElem?_eq_getElem hj]; rfl
  have mem : (xs[k]).1 ∈ ns := by rw [← e2]; exact List.mem_map.mpr ⟨xs[k], by simp, rfl⟩
  have : (xs[k]).1 = M := by
    apply Int.le_antisymm _ (hle _ mem)
    rw [← e2] at hM
    obtain ⟨p, hp, rfl⟩ := List.mem_map.mp hM
    obtain ⟨j, hj, rfl⟩ := List.getElem_of_mem hp
    have hj' : j < xs.size := by simpa using hj
    have := b2 j (by omega)
    rw [num j hj', num k hk'] at this
    simpa using this
  simp only [Rep]; exact ⟨_, by rw [hv', this]⟩
end
end TL
end
section
namespace TL
open PySem PySem.W PyProof.Rows PySem.Calls PyProof.Rows.LCg
theorem cap_of {ρc ρ : List (Str × D)} {scope : Scope} (h : ∀ p ∈ ρc, ρ.lookup p.1 = some p.2 ∧ scope.names.contains (p.1, NameKind.free) = true) : ∀ x d, ρc.lookup x = some d → ρ.lookup x = some d ∧ (x, NameKind.free) ∈ scope.names := fun x d e => by
  obtain ⟨h1, h2⟩ := h _ (PySem.mem_of_lookup e)
  exact ⟨h1, by simpa using h2⟩
theorem sub_of {ρ' ρ : List (Str × D)} (h : ∀ p ∈ ρ', ρ.lookup p.1 = some p.2) : ∀ x d, ρ'.lookup x = some d → ρ.lookup x = some d := fun x d e => h _ (PySem.mem_of_lookup e)
theorem flatten1 {α β : Type} (l : List α) (f : α → β) : (l.map fun x => [f x]).flatten = l.map f := by
  induction l with
  | nil => rfl
  | cons a r ih => simp [ih]
theorem flatten_if {α β : Type} (l : List α) (q : α → Bool) (f : α → β) : (l.map fun x => if q x then [f x] else []).flatten = (l.filter q).map f := by
  induction l with
  | nil => rfl
  | cons a r ih =>
    rw [List.map_cons, List.flatten_cons, ih, List.filter_cons]
    split <;> simp
section
variable {g : G} {A : Around} {X : XP} {cenv : Env} {Wc : Addr → Prop} {elt target : Expr} {ifs : List Expr} {gs : List Comprehension} {ρ : List (Str × D)}
theorem Turn.map {α : Type} {l : List α} {f : α → D} {h : α → List D} (t : ∀ a ∈ l, ∃ ρ' c, Asg g A cenv Wc target (f a) ρ ρ' ∧ (∀ x d, ρ.lookup x = some d → ρ'.lookup x = some d) ∧ Tests g A X cenv ρ' ifs c ∧ (c = true → Gen g A X cenv Wc elt gs ρ' (h a)) ∧ (c = false → h a = [])) :
    Turn g A X cenv Wc elt target ifs gs ρ (l.map f) (l.map h) := fun i di yi hd hy => by
  rw [List.getElem?_map] at hd hy
  obtain ⟨a, ha, rfl⟩ := Option.map_eq_some_iff.mp hd
  rw [ha] at hy
  cases hy
  exact t a (List.mem_of_getElem? ha)
theorem Turn.map1 {α : Type} {l : List α} {f : α → D} {h : α → D} (t : ∀ a ∈ l, ∃ ρ', Asg g A cenv Wc target (f a) ρ ρ' ∧ (∀ x d, ρ.lookup x = some d → ρ'.lookup x = some d) ∧ Ev g A cenv ρ' X elt (h a)) :
    Turn g A X cenv Wc elt target [] [] ρ (l.map f) (l.map fun a => [h a]) := Turn.map fun a ha => by
  obtain ⟨ρ', h1, h2, h3⟩ := t a ha
  exact ⟨ρ', true, h1, h2, rfl, fun _ => ⟨_, rfl, h3⟩, fun z => nomatch z⟩
theorem Turn.map2 {α : Type} {l : List α} {f : α → D} {q : α → Bool} {h : α → D} {t : Expr} (tt : ∀ a ∈ l, ∃ ρ', Asg g A cenv Wc target (f a) ρ ρ' ∧ (∀ x d, ρ.lookup x = some d → ρ'.lookup x = some d) ∧ EvB g A cenv ρ' X t (q a) ∧ (q a = true → Ev g A cenv ρ' X elt (h a))) :
    Turn g A X cenv Wc elt target [t] [] ρ (l.map f) (l.map fun a => if q a then [h a] else []) := Turn.map fun a ha => by
  obtain ⟨ρ', h1, h2, h3, h4⟩ := tt a ha
  refine ⟨ρ', q a, h1, h2, h3, fun z => ?_, fun z => ?_⟩
  · rw [if_pos z]; exact ⟨_, rfl, h4 z⟩
  · rw [if_neg (by rw [z]; exact Bool.false_ne_true)]
end
theorem fresh_sub {ρ : List (Str × D)} {x : Str} {d : D} (h : ρ.lookup x = none) : ∀ y e, ρ.lookup y = some e → ((x, d) :: ρ).lookup y = some e := fun y e q => by
  rw [List.lookup_cons]
  by_cases z : (y == x) = true
  · have := beq_iff_eq.mp z
    subst this
    rw [h] at q; cases q
  · have : (y == x) = false := by simpa using z
    rw [this]; exact q
theorem sub_trans {ρ ρ₁ ρ₂ : List (Str × D)} (h : ∀ x d, ρ.lookup x = some d → ρ₁.lookup x = some d) (k : ∀ x d, ρ₁.lookup x = some d → ρ₂.lookup x = some d) : ∀ x d, ρ.lookup x = some d → ρ₂.lookup x = some d := fun x d q => k x d (h x d q)
noncomputable def topStmt (i : Nat) : Stmt := (PySem.Challenge.pw_tl0065_01.main.body[i]?).getD (.Pass default)
noncomputable def bodyOf : Stmt → List Stmt | .FunctionDef _ _ b _ _ _ _ _ _ _ => b | _ => []
noncomputable def paramsOf : Stmt → Arguments | .FunctionDef _ a _ _ _ _ _ _ _ _ => a | _ => ⟨[], [], none, [], [], none, []⟩
noncomputable def scopeOf : Stmt → Scope | .FunctionDef _ _ _ _ _ _ s _ _ _ => s | _ => { kind := .function, names := [], isGenerator := false, isCoroutine := false }
noncomputable def nameOf : Stmt → Str | .FunctionDef n _ _ _ _ _ _ _ _ _ => n | _ => ""
theorem sc_ok {scope : Scope} {ns : List Str} (h : (decide (scope.kind = .function) && decide ((scope.names.map (·.1)).Nodup) && decide ns.Nodup && (scope.names.all fun p => p.2 != .free) && (ns.all fun x => scope.names.lookup x == some .local || scope.names.lookup x == some .cell) && !scope.isCoroutine && !scope.isGenerator) = true) : FnSc scope ns := by
  simp only [Bool.and_eq_true, decide_eq_true_eq, Bool.not_eq_true'] at h
  obtain ⟨⟨⟨⟨⟨⟨h1, h2⟩, h3⟩, h4⟩, h5⟩, h6⟩, h7⟩ := h
  refine ⟨h1, h2, h3, fun x hx => ?_, fun x hx => ?_, h6, h7⟩
  · have := List.all_eq_true.mp h4 _ hx
    simp at this
  · have := List.all_eq_true.mp h5 _ hx
    simpa using this
theorem scOk_of {env : Env} {scope : Scope} (h : (decide (scope.kind = .function) && decide ((scope.names.map (·.1)).Nodup) && (scope.names.all fun p => p.2 != .free || env.kindOf p.1 == some .cell || env.kindOf p.1 == some .free)) = true) : ScOk env scope := by
  simp only [Bool.and_eq_true, decide_eq_true_eq] at h
  obtain ⟨⟨h1, h2⟩, h3⟩ := h
  refine ⟨h1, h2, fun x hx => ?_⟩
  have := List.all_eq_true.mp h3 _ hx
  simpa using this
noncomputable def DefAt (g : G) (i : Nat) (a : Addr) : Prop := FnAt g a (nameOf (topStmt i)) (paramsOf (topStmt i)) (bodyOf (topStmt i)) (scopeOf (topStmt i))
noncomputable def intD (n : Nat) : D := .int n
noncomputable def natsD (l : List Nat) : D := .lst (l.map intD)
noncomputable def tieD (t : Nat × Nat) : D := .tup [intD t.1, intD t.2]
noncomputable def tiesD (l : List (Nat × Nat)) : D := .lst (l.map tieD)
end TL
end
section
namespace TL
open PySem PySem.W PyProof.Rows PySem.Calls PyProof.Rows.LCg
section
variable {g : G} {A : Around} {env : Env} {ρ : List (Str × D)} {X : XP}
theorem Ev.add_lst {a b : Expr} {pos : Pos} {d₁ d₂ : List D} (h₁ : Ev g A env ρ X a (.lst d₁)) (h₂ : Ev g A env ρ X b (.lst d₂)) (hl : d₁.length + d₂.length ≤ 4096) : Ev g A env ρ X (.BinOp a .Add b pos) (.lst (d₁ ++ d₂)) := Ev.mk fun F P V x s hs => by
  refine wpAny_BinOp ((h₁.run F P V x).out hs fun h tk P₁ v₁ hP₁ ⟨F₁, e₁, r₁⟩ => ?_)
  refine (h₂.run F₁ P₁ (V.ext e₁) (X.st _ _ _ _ x e₁)).out hP₁ fun h tk P₂ v₂ hP₂ ⟨F₂, e₂, r₂⟩ => ?_
  replace r₁ := r₁.sub e₂.f
  simp only [Rep] at r₁ r₂
  obtain ⟨a, o, vs, n, rfl, hF, hc, hd, hl₁⟩ := r₁
  obtain ⟨b, o', ws, m, rfl, hF', hc', hd', hl₂⟩ := r₂
  have q1 : vs.size = d₁.length := by have := hl₁.length; simpa using this
  have q2 : ws.size = d₂.length := by have := hl₂.length; simpa using this
  refine PySem.P.add_list (n := n) (n2 := m) ((hP₂ _ _ (e₂.fp _ _ hF)).trans (congrArg some (obj_of hc hd))) ((hP₂ _ _ (e₂.fp _ _ hF')).trans (congrArg some (obj_of hc' hd'))) ⟨_, _, _, rfl, hP₂.push rfl, _, (e₁.trans e₂).trans (.alloc e₂.fp hP₂.fresh), ?_⟩ (by rw [q1, q2]; exact Nat.le_trans hl (by decide))
  have hn := none_of e₂.fp hP₂.fresh
  simp only [Rep]
  exact ⟨_, _, _, _, rfl, upd_self .., ⟨rfl, rfl, rfl⟩, rfl, by simpa using (hl₁.sub (.upd_new hn)).append (hl₂.sub (.upd_new hn))⟩
theorem RepL.drop {F : PH} : ∀ {ds : List D} {vs : List Value} (k : Nat), RepL F ds vs → RepL F (ds.drop k) (vs.drop k)
  | ds, vs, 0, h => by simpa using h
  | [], vs, k + 1, h => by simp only [RepL] at h; subst h; simpa using RepL.nil
  | d :: ds, vs, k + 1, h => by
    simp only [RepL] at h
    obtain ⟨v, r, rfl, _, h2⟩ := h
    simpa using RepL.drop k h2
theorem RepL.take {F : PH} : ∀ {ds : List D} {vs : List Value} (k : Nat), RepL F ds vs → RepL F (ds.take k) (vs.take k)
  | ds, vs, 0, h => by simpa using RepL.nil
  | [], vs, k + 1, h => by simp only [RepL] at h; subst h; simpa using RepL.nil
  | d :: ds, vs, k + 1, h => by
    simp only [RepL] at h
    obtain ⟨v, r, rfl, h1, h2⟩ := h
    rw [List.take_succ_cons, List.take_succ_cons]
    exact RepL.cons h1 (RepL.take k h2)
theorem Ev.slice_from {value : Expr} {k : Nat} {kk : Nat} {p₁ p₂ pos : Pos} {ds : List D} (h₁ : Ev g A env ρ X value (.lst ds)) (hk : k ≤ ds.length) (hl : ds.length ≤ 4096) :
    Ev g A env ρ X (.Subscript value (.Slice (some (.Constant (.int (k : Int)) kk p₁)) Option.none Option.none p₂) pos) (.lst (ds.drop k)) := Ev.mk fun F P V x s hs => by
  refine Subscript_ ((h₁.run F P V x).out hs fun h tk P₁ v₁ hP₁ ⟨F₁, e₁, r₁⟩ => ?_)
  rw [arm_eval_Slice]
  show wpAny _ A (eval (.Constant (.int (k : Int)) kk p₁) env >>= _) _ _ _
  refine wpAny_bind (((Ev.int (g := g) (A := A) (X := X)).run F₁ P₁ (V.ext e₁) (X.st _ _ _ _ x e₁)).out hP₁ fun h tk P₂ v₂ hP₂ ⟨F₂, e₂, r₂⟩ => ?_)
  refine wpAny_bind (wpAny_holding (wpAny_pure (wpAny_bind (wpAny_holding (wpAny_pure (wpAny_newObj_type ?_))))))
  simp only [Rep] at r₂
  obtain ⟨t, rfl⟩ := r₂
  have hP₃ := hP₂.push (o := { cls := .type "slice", data := .fields #[.int (k : Int) t, .none, .none] }) rfl
  have e₃ := Ext.own (o := { cls := .type "slice", data := .fields #[.int (k : Int) t, .none, .none] }) e₂.fp hP₂.fresh
  replace r₁ := r₁.sub e₂.f
  simp only [Rep] at r₁
  obtain ⟨a, o, vs, n, rfl, hF, hc, hd, hl₁⟩ := r₁
  have q1 : vs.size = ds.length := by have := hl₁.length; simpa using this
  have hI : Heap.IsList (h.push { cls := .type "slice", data := .fields #[.int (k : Int) t, .none, .none] }) a vs := ⟨o, Heap.get?_push_of_some _ (hP₂ _ _ (e₂.fp _ _ hF)), hc.1, n, hd⟩
  refine tail_any (s := { heap := _, gens := _, drawn := _, toks := _, os := _ }) hI.typeIs slot_list_getitem.lookup (wpAny_getItem_list_slice (s := { heap := _, gens := _, drawn := _, toks := _, os := _ }) hI ⟨_, Heap.get?_push_size _ rfl, rfl, rfl⟩ (.int _ _) .none .none (by simp) ?_ (by rw [q1]; exact Nat.le_trans hl (by decide))) (by rfl)
  rw [slicePick_from vs k (by rw [q1]; exact hk)]
  refine ⟨_, _, _, rfl, hP₃.push rfl, _, ((e₁.trans e₂).trans e₃).trans (.alloc e₃.fp hP₃.fresh), ?_⟩
  simp only [Rep]
  exact ⟨_, _, _, _, rfl, upd_self .., ⟨rfl, rfl, rfl⟩, rfl, by simpa using (hl₁.drop k).sub (.upd_new (none_of e₃.fp hP₃.fresh))⟩
theorem EvB.val' {e : Expr} {b : Bool} (h : Ev g A env ρ X e (.bool b)) (he : isTrue e env (eval e env) = (do let v ← eval e env; standAt e.pos; holding [v] (truthy v)) := by rfl) : EvB g A env ρ X e b := EvB.val h he
end
theorem fmod_nat (a b : Nat) : Int.fmod (a : Int) (b : Int) = ((a % b : Nat) : Int) := by
  rw [Int.fmod_eq_emod_of_nonneg _ (Int.natCast_nonneg b)]; rfl
end TL
end
section
namespace TL
open PySem PySem.W PyProof.Rows PySem.Calls PyProof.Rows.LCg
section
variable {g : G} {A : Around} {fx : Fx} {ρ ρ' : List (Str × D)} {X X' : XS fx} {o : Out}
theorem Sq.assign (d : D) {x : Str} {xp pos : Pos} {value : Expr} {r : List Stmt} (h : Ev g A fx.env ρ X.toXP value d) (hx : AdrOk fx.env (muts fx.env) x) (hs : swapsWith value (some (.Name x xp)) pos.line fx.env = pure false)
    (k : Ex g A fx X X' (execs r fx.env) ((x, d) :: ρ) o) : Ex g A fx X X' (execs (.Assign [.Name x xp] value pos :: r) fx.env) ρ o := Ex.cons (Ex.assign h hx hs) k
theorem Sq.ret {e : Expr} {pos : Pos} {r : List Stmt} {d : D} (h : Ev g A fx.env ρ X.toXP e d) : Ex g A fx X X (execs (.Return (some e) pos :: r) fx.env) ρ (.ret d) := Ex.last (Ex.ret h)
theorem Sq.iff {t : Expr} {b : List Stmt} {pos : Pos} {r : List Stmt} (h : EvB g A fx.env ρ X.toXP t false) (k : Ex g A fx X X' (execs r fx.env) ρ o) : Ex g A fx X X' (execs (.If t b [] pos :: r) fx.env) ρ o :=
  Ex.cons (Ex.if h (fun z => nomatch z) fun _ => Ex.nil) k
theorem Sq.assignC (ρc : List (Str × D)) (ds : List D) (yss : List (List D)) {y : Str} {yp spos : Pos} {elt target iter : Expr} {ifs : List Expr} {gs : List Comprehension} {scope : Scope} {pos : Pos} {d : D} {ys : List D} {r : List Stmt} (S : ScOk fx.env scope)
    (hi : Ev g A fx.env ρ X.toXP iter d) (hs : ∀ x, foldedSetIterable iter fx.env x = pure x) (ht : Itb g A d ds target) (hl : yss.length = ds.length) (hρ : ∀ x d, ρc.lookup x = some d → ρ.lookup x = some d ∧ (x, NameKind.free) ∈ scope.names)
    (T : ∀ C cells, Turn g A X.toXP (ccEnv fx.env scope C cells) (cown scope (ccEnv fx.env scope C cells)) elt target ifs gs ρc ds yss) (hlen : yss.flatten.length ≤ 4096)
    (hx : AdrOk fx.env (muts fx.env) y) (hsw : swapsWith (.ListComp elt (⟨target, iter, ifs, 0⟩ :: gs) scope pos) (some (.Name y yp)) spos.line fx.env = pure true) (hys : yss.flatten = ys)
    (k : Ex g A fx X X' (execs r fx.env) ((y, .lst ys) :: ρ) o) :
    Ex g A fx X X' (execs (.Assign [.Name y yp] (.ListComp elt (⟨target, iter, ifs, 0⟩ :: gs) scope pos) spos :: r) fx.env) ρ o := by
  subst hys
  exact Ex.cons (Ex.assign_comp S hi hs ht hl hρ T hlen hx hsw) k
theorem Sq.for (R : Nat → List (Str × D)) (ds : List D) {iter target : Expr} {body : List Stmt} {pos : Pos} {r : List Stmt} (hR : ∀ x d, (R 0).lookup x = some d → ρ.lookup x = some d) (hi : EvI g A fx.env (R 0) X.toXP iter ds target)
    (turn : ∀ i di, ds[i]? = some di → ∃ ρ', Asg g A fx.env (muts fx.env) target di (R i) ρ' ∧ Ex g A fx X X (execs body fx.env) ρ' (.next (R (i + 1))))
    (hs : ∀ x, foldedSetIterable iter fx.env x = pure x) (k : Ex g A fx X X' (execs r fx.env) (R ds.length) o) : Ex g A fx X X' (execs (.For target iter body [] pos :: r) fx.env) ρ o :=
  Ex.cons (Ex.pre (Ex.forI (X := fun _ => X) hi turn hs) hR) k
end
section
variable {g : G} {A : Around} {env : Env} {ρ : List (Str × D)} {X : XP}
theorem Ev.compD (ρc : List (Str × D)) (ds : List D) (yss : List (List D)) {elt target iter : Expr} {ifs : List Expr} {gs : List Comprehension} {scope : Scope} {pos : Pos} {d : D} {ys : List D} (S : ScOk env scope)
    (hi : Ev g A env ρ X iter d) (hs : ∀ x, foldedSetIterable iter env x = pure x) (ht : Itb g A d ds target) (hl : yss.length = ds.length) (hρ : ∀ x d, ρc.lookup x = some d → ρ.lookup x = some d ∧ (x, NameKind.free) ∈ scope.names)
    (T : ∀ C cells, Turn g A X (ccEnv env scope C cells) (cown scope (ccEnv env scope C cells)) elt target ifs gs ρc ds yss) (hlen : yss.flatten.length ≤ 4096) (hys : yss.flatten = ys) :
    Ev g A env ρ X (.ListComp elt (⟨target, iter, ifs, 0⟩ :: gs) scope pos) (.lst ys) := hys ▸ Ev.comp S hi hs ht hl hρ T hlen
theorem Ev.map1 {α : Type} (ρc : List (Str × D)) (l : List α) (f h : α → D) {x : Str} {xp : Pos} {elt iter : Expr} {scope : Scope} {pos : Pos} {d : D} (S : ScOk env scope) (hi : Ev g A env ρ X iter d) (hs : ∀ x, foldedSetIterable iter env x = pure x)
    (ht : Itb g A d (l.map f) (.Name x xp)) (hρ : ∀ p ∈ ρc, ρ.lookup p.1 = some p.2 ∧ scope.names.contains (p.1, NameKind.free) = true) (fr : ρc.lookup x = Option.none) (ad : ∀ C cells, AdrOk (ccEnv env scope C cells) (cown scope (ccEnv env scope C cells)) x)
    (E : ∀ C cells a, a ∈ l → Ev g A (ccEnv env scope C cells) ((x, f a) :: ρc) X elt (h a)) (hl : l.length ≤ 4096) : Ev g A env ρ X (.ListComp elt [⟨.Name x xp, iter, [], 0⟩] scope pos) (.lst (l.map h)) := by
  rw [← flatten1]
  exact Ev.comp S hi hs ht (by simp) (cap_of hρ) (fun C cells => Turn.map1 fun a ha => ⟨_, Asg.name (ad C cells), fresh_sub fr, E C cells a ha⟩) (by rw [flatten1, List.length_map]; exact hl)
theorem Ev.map2 {α : Type} (ρc : List (Str × D)) (l : List α) (f : α → D) (q : α → Bool) (h : α → D) {x : Str} {xp : Pos} {elt iter t : Expr} {scope : Scope} {pos : Pos} {d : D} (S : ScOk env scope) (hi : Ev g A env ρ X iter d) (hs : ∀ x, foldedSetIterable iter env x = pure x)
    (ht : Itb g A d (l.map f) (.Name x xp)) (hρ : ∀ p ∈ ρc, ρ.lookup p.1 = some p.2 ∧ scope.names.contains (p.1, NameKind.free) = true) (fr : ρc.lookup x = Option.none) (ad : ∀ C cells, AdrOk (ccEnv env scope C cells) (cown scope (ccEnv env scope C cells)) x)
    (B : ∀ C cells a, a ∈ l → EvB g A (ccEnv env scope C cells) ((x, f a) :: ρc) X t (q a)) (E : ∀ C cells a, a ∈ l → q a = true → Ev g A (ccEnv env scope C cells) ((x, f a) :: ρc) X elt (h a)) (hl : l.length ≤ 4096) : Ev g A env ρ X (.ListComp elt [⟨.Name x xp, iter, [t], 0⟩] scope pos) (.lst ((l.filter q).map h)) := by
  rw [← flatten_if]
  exact Ev.comp S hi hs ht (by simp) (cap_of hρ) (fun C cells => Turn.map2 fun a ha => ⟨_, Asg.name (ad C cells), fresh_sub fr, B C cells a ha, E C cells a ha⟩) (by rw [flatten_if, List.length_map]; exact Nat.le_trans (List.length_filter_le _ _) hl)
end
section
variable {g : G} {A : Around} {env : Env} {ρ : List (Str × D)} {X : XP}
theorem Ev.subK {value : Expr} {i : Int} {k : Nat} {p pos : Pos} {ds : List D} {d : D} (h : Ev g A env ρ X value (.lst ds)) (hd : ds[i.toNat]? = some d) (hi : (decide (0 ≤ i) && decide (i < 2 ^ 63)) = true) : Ev g A env ρ X (.Subscript value (.Constant (.int i) k p) pos) d := by
  rw [Bool.and_eq_true] at hi
  exact Ev.sub h Ev.int (item_lst (of_decide_eq_true hi.1) (of_decide_eq_true hi.2) hd)
theorem Ev.subN {value : Expr} {slice : Expr} {i : Nat} {pos : Pos} {ds : List D} {d : D} (h : Ev g A env ρ X value (.lst ds)) (h2 : Ev g A env ρ X slice (intD i)) (hd : ds[i]? = some d) (hi : i < 2 ^ 63)
    (hs : ∀ (o : Addr) (i : Int) (t : Tok), subscripted slice false (.ref o) (.int i t) = operate [.ref o, .int i t] (getItem (.ref o) (.int i t)) := by intro _ _ _; rfl) : Ev g A env ρ X (.Subscript value slice pos) d :=
  Ev.sub h h2 (item_lst (by omega) (by omega) (by rw [Int.toNat_natCast]; exact hd) hs)
end
theorem op_modN {g : G} {A : Around} {a : Nat} (b : Nat) (h : b ≠ 0) : Op2 g A (binaryOp .Mod) (intD a) (.int (b : Int)) (intD (a % b)) := by
  have := op_mod (g := g) (A := A) (a := (a : Int)) (b := (b : Int)) (by omega)
  rwa [fmod_nat] at this
end TL
end
section
namespace TL
open PySem PySem.W PyProof.Rows PySem.Calls PyProof.Rows.LCg
noncomputable def lstN (xs : List Value) (n : Nat) : Obj := { cls := .type "list", data := .seq xs.toArray n }
theorem RepL.set {F : PH} {d : D} {v : Value} (r : Rep F d v) : ∀ {ds : List D} {xs : List Value} {j : Nat}, RepL F ds xs → RepL F (ds.set j d) (xs.set j v)
  | [], _, j, h => by simp only [RepL] at h; subst h; exact .nil
  | e :: l, _, j, h => by
    simp only [RepL] at h; obtain ⟨u, q, rfl, h1, h2⟩ := h
    cases j with
    | zero => exact .cons r h2
    | succ j => exact .cons h1 (RepL.set r h2)
noncomputable def Own (fx : Fx) (a : Addr) (ds : List D) (F P : PH) : Prop := ∃ xs n, P a = some (lstN xs n) ∧ RepL F ds xs ∧ F a = none ∧ fx.P₀ a = none ∧ ¬ muts fx.env a
theorem Own.step {fx : Fx} {a : Addr} {ds : List D} {W : Addr → Prop} {F P F' P' : PH} (h : Own fx a ds F P) (s : Step W F P F' P') (hW : ∀ b, W b → fx.soft P b) : Own fx a ds F' P' := by
  obtain ⟨xs, n, h1, h2, h3, h4, h5⟩ := h
  refine ⟨xs, n, s.p _ _ h1 fun w => ?_, h2.sub s.f, s.off h3 (by rw [h1]; exact fun z => nomatch z), h4, h5⟩
  rcases hW a w with q | ⟨_, o, q, z⟩
  · exact h5 q
  · rw [h1] at q; cases q; cases z
theorem Own.ext {fx : Fx} {a : Addr} {ds : List D} {F P F' P' : PH} (h : Own fx a ds F P) (e : Ext F P F' P') : Own fx a ds F' P' := by
  obtain ⟨xs, n, h1, h2, h3, h4, h5⟩ := h
  exact ⟨xs, n, e.p _ _ h1, h2.sub e.f, e.off h3 (by rw [h1]; exact fun z => nomatch z), h4, h5⟩
theorem Own.stepW {fx : Fx} {a : Addr} {ds : List D} {W : Addr → Prop} {F P F' P' : PH} (h : Own fx a ds F P) (s : Step W F P F' P') (hW : ¬ W a) : Own fx a ds F' P' := by
  obtain ⟨xs, n, h1, h2, h3, h4, h5⟩ := h
  exact ⟨xs, n, s.p _ _ h1 hW, h2.sub s.f, s.off h3 (by rw [h1]; exact fun z => nomatch z), h4, h5⟩
noncomputable def XS.own {fx : Fx} (a : Addr) (ds : List D) : XS fx := ⟨⟨Own fx a ds, fun _ _ _ _ h e => h.ext e⟩, fun _ _ _ _ _ h s hW => h.step s hW⟩
noncomputable def XS.and {fx : Fx} (x y : XS fx) : XS fx := ⟨⟨fun F P => x.p F P ∧ y.p F P, fun _ _ _ _ h e => ⟨x.st _ _ _ _ h.1 e, y.st _ _ _ _ h.2 e⟩⟩, fun _ _ _ _ _ h s hW => ⟨x.stp _ _ _ _ _ h.1 s hW, y.stp _ _ _ _ _ h.2 s hW⟩⟩
theorem Own.upd {fx : Fx} {a b : Addr} {ds : List D} {F P : PH} {o : Obj} (h : Own fx a ds F P) (hn : a ≠ b) : Own fx a ds F (upd P b o) := by
  obtain ⟨xs, n, h1, h2, h3, h4, h5⟩ := h
  exact ⟨xs, n, by rw [upd_ne hn]; exact h1, h2, h3, h4, h5⟩
noncomputable def Mat (fx : Fx) (a : Addr) (bs : List Addr) (rows : List (List D)) (F P : PH) : Prop :=
  Own fx a (bs.map fun b => .raw (.ref b)) F P ∧ ∀ (i : Nat) (b : Addr) (r : List D), bs[i]? = some b → rows[i]? = some r → Own fx b r F P
noncomputable def XS.mat {fx : Fx} (a : Addr) (bs : List Addr) (rows : List (List D)) : XS fx :=
  ⟨⟨Mat fx a bs rows, fun _ _ _ _ h e => ⟨h.1.ext e, fun i b r q z => (h.2 i b r q z).ext e⟩⟩, fun _ _ _ _ _ h s hW => ⟨h.1.step s hW, fun i b r q z => (h.2 i b r q z).step s hW⟩⟩
section
variable {g : G} {A : Around} {env : Env} {ρ : List (Str × D)} {X : XP}
theorem Ev.item {value slice : Expr} {pos : Pos} {a : Addr} {i : Nat} {d : D} (ds : List D) (hv : Ev g A env ρ X value (.raw (.ref a))) (hi : Ev g A env ρ X slice (intD i)) (hx : ∀ F P, X.p F P → ∃ xs n, P a = some (lstN xs n) ∧ RepL F ds xs) (hd : ds[i]? = some d) (hk : i < 2 ^ 63)
    (hs : ∀ (o : Addr) (i : Int) (t : Tok), subscripted slice false (.ref o) (.int i t) = operate [.ref o, .int i t] (getItem (.ref o) (.int i t)) := by intro _ _ _; rfl) : Ev g A env ρ X (.Subscript value slice pos) d := Ev.mk fun F P V x s hP => by
  refine Subscript_ ((hv.run F P V x).out hP fun h tk P₁ v₁ hP₁ ⟨F₁, e₁, r₁⟩ => ?_)
  refine (hi.run F₁ P₁ (V.ext e₁) (X.st _ _ _ _ x e₁)).out hP₁ fun h tk P₂ v₂ hP₂ ⟨F₂, e₂, r₂⟩ => ?_
  obtain ⟨xs, n, h1, h2⟩ := hx _ _ (X.st _ _ _ _ (X.st _ _ _ _ x e₁) e₂)
  simp only [Rep, intD] at r₁ r₂
  subst r₁
  obtain ⟨t, rfl⟩ := r₂
  have hI : Heap.IsList h a xs.toArray := ⟨_, hP₂ _ _ h1, rfl, n, rfl⟩
  obtain ⟨v, e, r⟩ := h2.get hd
  exact tail_any hI.typeIs slot_list_getitem.lookup (wpAny_getItem_list hI (by omega) (by omega) (by simpa using e) ⟨_, _, P₂, rfl, hP₂, F₂, e₁.trans e₂, r⟩) (hs ..)
structure EvN (g : G) (A : Around) (env : Env) (ρ : List (Str × D)) (X : XP) (e : Expr) (ds : List D) : Prop where
  run : ∀ F P, Vars g.hb env F P ρ → X.p F P → Tr g.prog g.w A (eval e env) P (fun P' v => ∃ F' b xs n, v = .ref b ∧ Ext F P F' P' ∧ P b = none ∧ F' b = none ∧ P' b = some (lstN xs n) ∧ RepL F' ds xs)
theorem EvN.list {es : List Expr} {pos : Pos} {ds : List D} (h : EvL g A env ρ X pos es ds) (hl : ds.length ≤ 4096) : EvN g A env ρ X (.List es pos) ds := EvN.mk fun F P V x s hs => by
  refine List_ ((h.run F P V x).out hs fun h tk P₁ vs hP₁ ⟨F₁, e₁, r₁⟩ => ?_)
  exact wpAny_newObj_type ⟨_, _, _, rfl, hP₁.push rfl, F₁, _, vs, _, rfl, e₁.trans (.own e₁.fp hP₁.fresh), none_of e₁.p hP₁.fresh, none_of e₁.fp hP₁.fresh, upd_self .., r₁⟩ (by show vs.toArray.size ≤ sizeLine; rw [List.size_toArray, r₁.length]; exact Nat.le_trans hl (by decide))
end
section
variable {g : G} {A : Around} {fx : Fx} {ρ ρ' : List (Str × D)} {X X' : XS fx} {o : Out}
theorem Ex.weak {t : Sem Flow} (h : Ex g A fx X X' t ρ o) : Ex g A fx X XS.tt t ρ o := Ex.mk fun F P I V M x => (h.run F P I V M x).mono fun P' f ⟨F', t', s, _, q⟩ => ⟨F', t', s, trivial, q⟩
theorem new_own {a : Addr} {ds : List D} {F P F' P' : PH} {xs : List Value} {n : Nat} (I : Ext fx.F₀ fx.P₀ F P) (V : Vars g.hb fx.env F P ρ) (M : Mut fx.env F P) (hn : P a = none) (hF : F' a = none) (hP : P' a = some (lstN xs n)) (hr : RepL F' ds xs) : Own fx a ds F' P' := by
  refine ⟨xs, n, hP, hr, hF, none_of I.p hn, fun q => ?_⟩
  rcases q with rfl | ⟨y, hk, hl⟩
  · exact V.locNe hn
  · obtain ⟨_, o, v, q, _⟩ := M.cel y a hl hk
    rw [hn] at q; cases q
theorem Sq.own (ds : List D) {x : Str} {xp pos : Pos} {value : Expr} {r : List Stmt} (h : EvN g A fx.env ρ X.toXP value ds) (hx : AdrOk fx.env (muts fx.env) x) (hs : swapsWith value (some (.Name x xp)) pos.line fx.env = pure false)
    (k : ∀ a, (∀ b, (∀ F P, X.p F P → P b ≠ none) → a ≠ b) → Ex g A fx (X.and (XS.own a ds)) X' (execs r fx.env) ((x, .raw (.ref a)) :: ρ) o) : Ex g A fx X X' (execs (.Assign [.Name x xp] value pos :: r) fx.env) ρ o := Ex.mk fun F P I V M xx s hP => by
  refine wpAny_execs_cons (wpAny_Assign_Name ((h.run F P V xx).out hP fun h tk P₁ v hP₁ ⟨F₁, b, xs, n, hv, e₁, hn, hF, hb, hr⟩ => ?_) hs)
  subst hv
  have ow : Own fx b ds F₁ P₁ := new_own I V M hn hF hb hr
  refine (Ex.store (X := X.and (XS.own b ds)) (d := .raw (.ref b)) (I.trans e₁) (V.ext e₁) (M.ext V e₁) ⟨X.st _ _ _ _ xx e₁, ow⟩ (by simp only [Rep]) hx).out hP₁ fun h tk P₂ _ hP₂ ⟨t₂, I₂, x₂, V₂, M₂⟩ => ?_
  exact ((k b fun c hc q => hc F P xx (q ▸ hn)).run F₁ P₂ I₂ V₂ M₂ x₂).out hP₂ fun h tk P₃ f hP₃ ⟨F₃, t₃, I₃, x₃, q⟩ => ⟨_, _, P₃, rfl, hP₃, F₃, (e₁.soft.trans t₂).trans t₃, I₃, x₃, q⟩
theorem Sq.set {value o i : Expr} {p pos : Pos} {r : List Stmt} {a : Addr} {j : Nat} (ds : List D) (d : D) (hv : Ev g A fx.env ρ X.toXP value d) (ho : Ev g A fx.env ρ X.toXP o (.raw (.ref a))) (hi : Ev g A fx.env ρ X.toXP i (intD j)) (hX : ∀ F P, X.p F P → Own fx a ds F P) (hj : j < ds.length) (hk : j < 2 ^ 63)
    (hs : swapsWith value (some (.Subscript o i p)) pos.line fx.env = pure false) {X₁ : XS fx} (hX₁ : ∀ F P ob, X.p F P → Own fx a (ds.set j d) F (upd P a ob) → X₁.p F (upd P a ob)) {out : Out}
    (k : Ex g A fx X₁ X' (execs r fx.env) ρ out) : Ex g A fx X X' (execs (.Assign [.Subscript o i p] value pos :: r) fx.env) ρ out := Ex.mk fun F P I V M xx s hP => by
  refine wpAny_execs_cons (wpAny_Assign_Subscript ((hv.run F P V xx).out hP fun h tk P₁ v hP₁ ⟨F₁, e₁, r₁⟩ => ?_) hs)
  refine (ho.run F₁ P₁ (V.ext e₁) (X.st _ _ _ _ xx e₁)).out hP₁ fun h tk P₂ v₂ hP₂ ⟨F₂, e₂, r₂⟩ => ?_
  have x₂ := X.st _ _ _ _ (X.st _ _ _ _ xx e₁) e₂
  refine (hi.run F₂ P₂ ((V.ext e₁).ext e₂) x₂).out hP₂ fun h tk P₃ v₃ hP₃ ⟨F₃, e₃, r₃⟩ => ?_
  have x₃ := X.st _ _ _ _ x₂ e₃
  have e₁₃ := (e₁.trans e₂).trans e₃
  have V₃ := V.ext e₁₃
  obtain ⟨xs, n, h1, h2, h3, h4, h5⟩ := hX _ _ x₃
  simp only [Rep, intD] at r₂ r₃
  subst r₂
  obtain ⟨t, rfl⟩ := r₃
  have hl : xs.length = ds.length := h2.length
  refine ki_setAt (items := xs.toArray) (hP₃ _ _ h1) (by omega) (by omega) (by simp; omega) ?_
  have ob : ({ h with } : Heap) = h := rfl
  have sS : Step (fun b => b = a) F₃ P₃ F₃ (upd P₃ a (lstN (xs.set j v) n)) := .upd V₃.fp h3 rfl
  have hget : (h.update a (Obj.mapSeq (·.setIfInBounds ((j : Int)).toNat v))).get? a = some (lstN (xs.set j v) n) := by
    rw [Heap.get?_update_self _ (hP₃ _ _ h1) rfl]
    simp [Obj.mapSeq, lstN]
  have hP₄ : Has (h.update a (Obj.mapSeq (·.setIfInBounds ((j : Int)).toNat v))) (upd P₃ a (lstN (xs.set j v) n)) := hP₃.same (Heap.SameBut.update ..) hget
  have rS : RepL F₃ (ds.set j d) (xs.set j v) := by
    exact h2.set (r₁.sub (e₂.trans e₃).f)
  have ow : Own fx a (ds.set j d) F₃ (upd P₃ a (lstN (xs.set j v) n)) := ⟨_, n, upd_self .., rS, h3, h4, h5⟩
  have V₄ : Vars g.hb fx.env F₃ (upd P₃ a (lstN (xs.set j v) n)) ρ := V₃.step sS (fun q => h5 (.inl q.symm)) fun y c ob v' hl he hd q => by
    have q' : c = a := q
    subst q'; rw [h1] at he; cases he; cases hd
  have t₄ : Soft F₃ P₃ F₃ (upd P₃ a (lstN (xs.set j v) n)) := sS.soft fun b ob w e => by
    have w' : b = a := w
    subst w'; rw [h1] at e; cases e; rfl
  have I₄ := inv_step (I.trans e₁₃) sS fun b hb => by
    have w' : b = a := hb
    rw [w']; exact h4
  refine (k.run F₃ _ I₄ V₄ V₄.m (hX₁ _ _ _ x₃ ow)).out hP₄ fun h tk P₅ f hP₅ ⟨F₅, t₅, I₅, x₅, q⟩ => ⟨_, _, P₅, rfl, hP₅, F₅, (e₁₃.soft.trans t₄).trans t₅, I₅, x₅, q⟩
end
end TL
end
section
namespace TL
open PySem PySem.W PyProof.Rows PySem.Calls PyProof.Rows.LCg
noncomputable def Rows (D₀ : Addr) (Ps : PH) (bs : List Addr) (rows : List (List D)) (F P : PH) : Prop :=
  bs.length = rows.length ∧ bs.Nodup ∧ ∀ (j : Nat) (b : Addr) (r : List D), bs[j]? = some b → rows[j]? = some r → ∃ xs n, P b = some (lstN xs n) ∧ RepL F r xs ∧ F b = none ∧ Ps b = none ∧ b ≠ D₀
theorem Rows.step {D₀ : Addr} {Ps : PH} {bs : List Addr} {rows : List (List D)} {F P F' P' : PH} {W : Addr → Prop} (h : Rows D₀ Ps bs rows F P) (s : Step W F P F' P') (hW : ∀ a xs n, W a → P a = some (lstN xs n) → a = D₀) : Rows D₀ Ps bs rows F' P' :=
  ⟨h.1, h.2.1, fun j b r hb hr => by
    obtain ⟨xs, n, h1, h2, h3, h4, h5⟩ := h.2.2 j b r hb hr
    exact ⟨xs, n, s.p _ _ h1 fun w => h5 (hW _ _ _ w h1), h2.sub s.f, s.off h3 (by rw [h1]; exact fun z => nomatch z), h4, h5⟩⟩
theorem Rows.ext {D₀ : Addr} {Ps : PH} {bs : List Addr} {rows : List (List D)} {F P F' P' : PH} (h : Rows D₀ Ps bs rows F P) (e : Ext F P F' P') : Rows D₀ Ps bs rows F' P' :=
  ⟨h.1, h.2.1, fun j b r hb hr => by
    obtain ⟨xs, n, h1, h2, h3, h4, h5⟩ := h.2.2 j b r hb hr
    exact ⟨xs, n, e.p _ _ h1, h2.sub e.f, e.off h3 (by rw [h1]; exact fun z => nomatch z), h4, h5⟩⟩
theorem Rows.snoc {D₀ b : Addr} {Ps : PH} {bs : List Addr} {rows : List (List D)} {F P : PH} {r : List D} {xs : List Value} {n : Nat} (h : Rows D₀ Ps bs rows F P) (hn : b ∉ bs) (h1 : P b = some (lstN xs n)) (h2 : RepL F r xs) (h3 : F b = none) (h4 : Ps b = none) (h5 : b ≠ D₀) : Rows D₀ Ps (bs ++ [b]) (rows ++ [r]) F P := by
  refine ⟨by simp [h.1], ?_, fun j b' r' hb hr => ?_⟩
  · rw [List.nodup_append]
    refine ⟨h.2.1, by simp, fun x hx y hy => ?_⟩
    rw [List.mem_singleton.mp hy]
    rintro rfl
    exact hn hx
  · rcases Nat.lt_or_ge j bs.length with q | q
    · rw [List.getElem?_append_left q] at hb
      rw [List.getElem?_append_left (by rw [← h.1]; exact q)] at hr
      exact h.2.2 j b' r' hb hr
    · rw [List.getElem?_append_right q] at hb
      rw [List.getElem?_append_right (by rw [← h.1]; exact q)] at hr
      cases z : j - bs.length with
      | zero =>
        rw [z] at hb; rw [← h.1, z] at hr
        simp at hb hr
        subst hb hr
        exact ⟨xs, n, h1, h2, h3, h4, h5⟩
      | succ k => rw [z] at hb; simp at hb
structure CSO (hb : Heap) (cenv : Env) (Fs Ps : PH) (D₀ : Addr) (ρ : List (Str × D)) (rows : List (List D)) (F P : PH) : Prop where
  ext : Ext Fs Ps F P
  V : Vars hb cenv F P ρ
  M : Mut cenv F P
  off : F D₀ = none
  at' : ∃ bs : List Addr, P D₀ = some (lst (bs.map Value.ref)) ∧ Rows D₀ Ps bs rows F P
theorem CSO.iter {hb : Heap} {cenv : Env} {Fs Ps F P F' P' : PH} {D₀ : Addr} {ρ : List (Str × D)} {rows : List (List D)} {W : Addr → Prop} (x : CSO hb cenv Fs Ps D₀ ρ rows F P) (s : Step W F P F' P') (hW : ∀ a, W a → Ps a = none)
    (hs : ∀ a, W a → ∃ o, P a = some o ∧ iterCls o = true) : CSO hb cenv Fs Ps D₀ ρ rows F' P' := by
  have no : ∀ {a o}, P a = some o → iterCls o = false → ¬ W a := fun {a o} e c ha => by
    obtain ⟨o', q, z⟩ := hs a ha
    rw [e] at q; cases q; rw [c] at z; cases z
  obtain ⟨bs, h1, h2⟩ := x.at'
  obtain ⟨oL, l1, l2⟩ := x.V.locSoft
  refine ⟨x.ext.then s hW, x.V.step s (no l1 l2) fun y c o v _ e hd => no e (cell_soft hd), x.M.step x.V.locNe s fun y c o v _ e hd => no e (cell_soft hd), s.off x.off (by rw [h1]; exact fun z => nomatch z), bs, s.p _ _ h1 (no h1 (lst_soft _)), h2.step s fun a xs n w e => absurd w (no e rfl)⟩
theorem CSO.ext' {hb : Heap} {cenv : Env} {Fs Ps F P F' P' : PH} {D₀ : Addr} {ρ : List (Str × D)} {rows : List (List D)} (x : CSO hb cenv Fs Ps D₀ ρ rows F P) (e : Ext F P F' P') : CSO hb cenv Fs Ps D₀ ρ rows F' P' := by
  obtain ⟨bs, h1, h2⟩ := x.at'
  exact ⟨x.ext.trans e, x.V.ext e, x.M.ext x.V e, e.off x.off (by rw [h1]; exact fun z => nomatch z), bs, e.p _ _ h1, h2.ext e⟩
section
variable {g : G} {A : Around} {X : XP} {cenv : Env} {Wc : Addr → Prop} {elt : Expr} {scope : Scope} {pos : Pos} {D₀ : Addr} {Fs Ps : PH}
theorem CSO.snoc {hb : Heap} {cenv : Env} {Fs Ps F P : PH} {D₀ b : Addr} {ρ : List (Str × D)} {rows : List (List D)} {bs : List Addr} {r : List D} {xs : List Value} {n : Nat} (hDs : Ps D₀ = none) (hDL : D₀ ≠ cenv.locals) (C : CSO hb cenv Fs Ps D₀ ρ rows F P)
    (hx : P D₀ = some (lst (bs.map Value.ref))) (hbs : Rows D₀ Ps bs rows F P) (hm : b ∉ bs) (h1 : P b = some (lstN xs n)) (h2 : RepL F r xs) (h3 : F b = none) (h4 : Ps b = none) (bD : b ≠ D₀) :
    Soft F P F (upd P D₀ (lst ((bs ++ [b]).map Value.ref))) ∧ CSO hb cenv Fs Ps D₀ ρ (rows ++ [r]) F (upd P D₀ (lst ((bs ++ [b]).map Value.ref))) :=
  have s : Step (fun a => a = D₀) F P F (upd P D₀ (lst ((bs ++ [b]).map Value.ref))) := .upd C.V.fp C.off rfl
  have V : Vars hb cenv F (upd P D₀ (lst ((bs ++ [b]).map Value.ref))) ρ := C.V.step s (Ne.symm hDL) fun y c o v' _ e hd w => by
    have w' : c = D₀ := w
    rw [w', hx] at e
    rw [← Option.some.inj e] at hd
    exact nomatch hd
  ⟨s.soft fun a o w e => by
    have w : a = D₀ := w
    rw [w, hx] at e
    rw [← Option.some.inj e]; rfl,
   C.ext.then s (fun a w => by rw [show a = D₀ from w]; exact hDs), V, V.m, C.off, _, upd_self .., Rows.snoc (hbs.step s fun a xs n w e => w) hm (by rw [upd_ne bD]; exact h1) h2 h3 h4 bD⟩
theorem Rows.fresh {D₀ b : Addr} {Ps : PH} {bs : List Addr} {rows : List (List D)} {F P : PH} (h : Rows D₀ Ps bs rows F P) (hn : P b = none) : b ∉ bs := fun hm => by
  obtain ⟨j, hj⟩ := List.getElem?_of_mem hm
  obtain ⟨_, _, q, _⟩ := h.2.2 j b _ hj (List.getElem?_eq_getElem (by rw [← h.1]; exact (List.getElem?_eq_some_iff.mp hj).1))
  rw [hn] at q; exact nomatch q
theorem CSO.asg {g : G} {cenv : Env} {Wc : Addr → Prop} {Fs Ps F P F' P' : PH} {D₀ : Addr} {ρ ρ' : List (Str × D)} {rows : List (List D)} (hWc : ∀ a, Wc a → Ps a = none) (hWD : ¬ Wc D₀) (hWm : ∀ a, Wc a → a = cenv.locals ∨ ∃ x, cenv.kindOf x = some .cell ∧ cenv.cells.lookup x = some a)
    (C : CSO g.hb cenv Fs Ps D₀ ρ rows F P) (s : Step Wc F P F' P') (V : Vars g.hb cenv F' P' ρ') : CSO g.hb cenv Fs Ps D₀ ρ' rows F' P' :=
  C.at'.elim fun bs z => ⟨C.ext.then s hWc, V, V.m, s.off C.off (by rw [z.1]; exact fun z => nomatch z), bs, s.p _ _ z.1 hWD, z.2.step s fun a xs n w e => by
    rcases hWm a w with q | ⟨y, hk, hl⟩
    · obtain ⟨m, oL, l1, ⟨es, ep, hd, _⟩, _⟩ := C.V.loc
      rw [← q, e] at l1; rw [← Option.some.inj l1] at hd; exact nomatch hd
    · obtain ⟨_, o, v', q, hd⟩ := C.M.cel y a hl hk
      rw [e] at q; rw [← Option.some.inj q] at hd; exact nomatch hd⟩
theorem own_core (hX : X.p Fs Ps) (hDs : Ps D₀ = none) (hWc : ∀ a, Wc a → Ps a = none) (hWD : ¬ Wc D₀) (hDL : D₀ ≠ cenv.locals) {target iter : Expr} {ρ : List (Str × D)} {ds : List D} {rows : List (List D)} {Fr Pr F P : PH} {it : Value} {W : Addr → Prop} {St : Nat → PH → PH → Prop}
    (hWm : ∀ a, Wc a → a = cenv.locals ∨ ∃ x, cenv.kindOf x = some .cell ∧ cenv.cells.lookup x = some a)
    (T : ∀ (i : Nat) (di : D) (r : List D), ds[i]? = some di → rows[i]? = some r → ∃ ρ', Asg g A cenv Wc target di ρ ρ' ∧ (∀ x d, ρ.lookup x = some d → ρ'.lookup x = some d) ∧ EvN g A cenv ρ' X elt r)
    (hl : rows.length = ds.length) (It : Iter g A it W St ds target) (st : St 0 F P) (C : CSO g.hb cenv Fs Ps D₀ ρ [] F P) (t : Soft Fr Pr F P) (hr : ∀ a o, W a → Pr a = some o → iterCls o = true → False) (hs : ∀ a, W a → Ps a = none) (hw : ∀ a, W a → F a = none)
    (hlen : rows.length ≤ 4096) :
    TrC g.prog g.w A (.compStart (.ListComp elt [⟨target, iter, [], 0⟩] scope pos) 0 it (.ref D₀) cenv) P (fun P' f => f = .next ∧ ∃ F', Soft Fr Pr F' P' ∧ CSO g.hb cenv Fs Ps D₀ ρ rows F' P') := by
  refine comp_loop (C := fun i => CSO g.hb cenv Fs Ps D₀ ρ (rows.take i)) (k := 0) rfl (fun _ _ _ c => c.V.fp) (fun _ _ _ _ _ c s h => c.iter s hs h) (fun i di hd => ?_) It hr ⟨t, st, hw, C⟩ fun F P c => by rw [List.take_of_length_le (Nat.le_of_eq hl)] at c; exact c
  intro F P v s Q E C rv hP K
  have hlt' : i < rows.length := by rw [hl]; exact (List.getElem?_eq_some_iff.mp hd).1
  obtain ⟨ρ', hA, hsub, hE⟩ := T i _ _ hd (List.getElem?_eq_getElem hlt')
  rw [List.take_succ_eq_append_getElem hlt'] at K
  refine wpAny_bind ((hA F P v C.V C.M rv).out hP fun h₂ tk₂ P₂ _ hP₂ ⟨F₂, sA, tA, V₂, _⟩ => ?_)
  have C₂ := C.asg hWc hWD hWm sA V₂
  refine wpAny_bind (wpAny_tests_nil ?_)
  show wpAny _ A ((eval elt cenv >>= fun x => PySem.call (.builtin "list.append") [.ref D₀, x] >>= fun _ => pure ()) >>= fun _ => _) _ _ _
  refine wpAny_bind (wpAny_bind ((hE.run F₂ P₂ C₂.V (X.st _ _ _ _ hX C₂.ext)).out hP₂ fun h₃ tk₃ P₃ v₃ hP₃ ⟨F₃, b, xs, n, hv, e₃, hn, hF, hb, hr₃⟩ => ?_))
  subst hv
  obtain ⟨bs, hx₂, hbs₂⟩ := C₂.at'
  have hx := e₃.p _ _ hx₂
  have hbs := hbs₂.ext e₃
  have hbl : bs.length ≤ 4096 := by rw [hbs.1, List.length_take]; omega
  obtain ⟨sS, C₄⟩ := (C₂.ext' e₃).snoc hDs hDL hx hbs (hbs₂.fresh hn) hb hr₃ hF (none_of C₂.ext.p hn) fun q => by rw [q, hx₂] at hn; exact nomatch hn
  refine wpAny_bind (append_at (n := bs.length) (its := (bs.map Value.ref).toArray) (hsz := ?_) (by have z := hP₃ _ _ hx; unfold lst at z; rw [List.length_map] at z; exact z) fun h' hs' hD' => wpAny_pure (K h' tk₃ F₃ _ (hP₃.same hs' (hD'.trans (congrArg some ?_))) ((tA.trans e₃.soft).trans sS) ⟨C₄.ext, C₄.V.sub hsub, C₄.M, C₄.off, C₄.at'⟩))
  · have z := lst_snoc (bs.map Value.ref) (.ref b)
    rw [List.length_map] at z
    rw [List.map_append]; exact z
  · rw [List.size_toArray, List.length_map]
    exact Nat.le_trans hbl (by decide)
end
end TL
end
section
namespace TL
open PySem PySem.W PyProof.Rows PySem.Calls PyProof.Rows.LCg
theorem Ext.hidC {F P F' P' : PH} {C : Addr} (e : Ext F P F' P') (hn : P C = none) (ho : F' C = none) : Ext F P F' (hid P' C) := by
  refine ⟨e.f, fun a o q => ?_, fun a o q => ?_, e.new⟩
  · unfold hid
    rw [if_neg (fun z => by rw [z, hn] at q; cases q)]
    exact e.p _ _ q
  · unfold hid
    rw [if_neg (fun z => by rw [z, ho] at q; cases q)]
    exact e.fp _ _ q
section
variable {g : G} {A : Around} {env : Env} {ρ : List (Str × D)} {X : XP}
theorem EvN.comp (ρc : List (Str × D)) {elt target iter : Expr} {ifs : List Expr} {gs : List Comprehension} {scope : Scope} {pos : Pos} {d : D} {ds : List D} {yss : List (List D)} (S : ScOk env scope)
    (hi : Ev g A env ρ X iter d) (hs : ∀ x, foldedSetIterable iter env x = pure x) (ht : Itb g A d ds target) (hl : yss.length = ds.length) (hρ : ∀ x d, ρc.lookup x = some d → ρ.lookup x = some d ∧ (x, NameKind.free) ∈ scope.names)
    (T : ∀ C cells, Turn g A X (ccEnv env scope C cells) (cown scope (ccEnv env scope C cells)) elt target ifs gs ρc ds yss) (hlen : yss.flatten.length ≤ 4096) :
    EvN g A env ρ X (.ListComp elt (⟨target, iter, ifs, 0⟩ :: gs) scope pos) yss.flatten := EvN.mk fun F P V x s hP => by
  show wpAny _ A (comprehension _ scope env _ (newList []) false (eval iter env) Option.none) _ _ s
  refine comp_core S V x hP hi hs ht hl hρ T hlen fun h tk F' P' D₀ C xs hP' c => ?_
  obtain ⟨m, oC, c1, c2⟩ := c.ns
  refine ⟨m, c2.ns (hP' _ _ c1), fun h' hsb => ?_⟩
  exact ⟨h', tk, hid P' C, rfl, hP'.hid fun b o q e => (hsb.2 b q).trans e, F', D₀, xs, xs.length, rfl, c.ext.hidC c.newC c.offC, c.newD, c.offD, by unfold hid; rw [if_neg c.ne]; exact c.at', c.rep⟩
theorem EvN.map1 {α : Type} (ρc : List (Str × D)) (l : List α) (f h : α → D) {x : Str} {xp : Pos} {elt iter : Expr} {scope : Scope} {pos : Pos} {d : D} (S : ScOk env scope) (hi : Ev g A env ρ X iter d) (hs : ∀ x, foldedSetIterable iter env x = pure x)
    (ht : Itb g A d (l.map f) (.Name x xp)) (hρ : ∀ p ∈ ρc, ρ.lookup p.1 = some p.2 ∧ scope.names.contains (p.1, NameKind.free) = true) (fr : ρc.lookup x = Option.none) (ad : ∀ C cells, AdrOk (ccEnv env scope C cells) (cown scope (ccEnv env scope C cells)) x)
    (E : ∀ C cells a, a ∈ l → Ev g A (ccEnv env scope C cells) ((x, f a) :: ρc) X elt (h a)) (hl : l.length ≤ 4096) : EvN g A env ρ X (.ListComp elt [⟨.Name x xp, iter, [], 0⟩] scope pos) (l.map h) := by
  rw [← flatten1]
  exact EvN.comp ρc S hi hs ht (by simp) (cap_of hρ) (fun C cells => Turn.map1 fun a ha => ⟨_, Asg.name (ad C cells), fresh_sub fr, E C cells a ha⟩) (by rw [flatten1, List.length_map]; exact hl)
structure CEndO (F P : PH) (D₀ C : Addr) (bs : List Addr) (rows : List (List D)) (F' P' : PH) : Prop where
  ext : Ext F P F' P'
  newD : P D₀ = none
  newC : P C = none
  offD : F' D₀ = none
  offC : F' C = none
  at' : P' D₀ = some (lst (bs.map Value.ref))
  rows : Rows D₀ P bs rows F' P'
  ne : D₀ ≠ C
  ns : ∃ m oC, P' C = some oC ∧ NsObj oC m
theorem own_comp (ρc : List (Str × D)) {elt target iter : Expr} {scope : Scope} {pos p : Pos} {d : D} {ds : List D} {rows : List (List D)} {F P : PH} {s : Shared} {use : Option (Value → Sem Unit)} {Q : Value → Shared → Prop} {E : Value → Shared → Prop}
    (S : ScOk env scope) (V : Vars g.hb env F P ρ) (x : X.p F P) (hP : Has s.heap P) (hi : Ev g A env ρ X iter d) (hs : ∀ x, foldedSetIterable iter env x = pure x) (ht : Itb g A d ds target) (hl : rows.length = ds.length)
    (hρ : ∀ x d, ρc.lookup x = some d → ρ.lookup x = some d ∧ (x, NameKind.free) ∈ scope.names)
    (T : ∀ C cells (i : Nat) (di : D) (r : List D), ds[i]? = some di → rows[i]? = some r → ∃ ρ', Asg g A (ccEnv env scope C cells) (cown scope (ccEnv env scope C cells)) target di ρc ρ' ∧ (∀ x d, ρc.lookup x = some d → ρ'.lookup x = some d) ∧ EvN g A (ccEnv env scope C cells) ρ' X elt r) (hlen : rows.length ≤ 4096)
    (k : ∀ h tk F' P' D₀ C bs, Has h P' → CEndO F P D₀ C bs rows F' P' → compPost (model g.prog g.w) A E use Q (.ref D₀) C (.ok .next) { s with heap := h, toks := tk }) :
    wpAny (model g.prog g.w) A (comprehension (.ListComp elt [⟨target, iter, [], 0⟩] scope pos) scope env p (newList []) false (eval iter env) use) Q E s := by
  have hfree : ∀ n, (n, NameKind.free) ∈ scope.names → (env.cells.lookup n).isSome = true := fun n hn => by
    obtain ⟨c, o, v, h1, _⟩ := V.m.tot n (S.cap n hn)
    rw [h1]; rfl
  refine wpAny_comprehension_free (cl := freeIn env scope.names []) rfl hs (closureFor_eq hfree) S.kind (fun y hy hk => by rw [← hk]; exact lookup_mem S.nd hy) ?_
  refine (hi.run F P V x).out hP fun h₁ tk₁ P₁ v hP₁ ⟨F₁, e₁, r₁⟩ => ?_
  refine (ht F₁ P₁ v e₁.fp r₁).out hP₁ fun h₂ tk₂ P₂ it hP₂ ⟨W, St, It, e₂, st₀, hnew⟩ => ?_
  have V₂ := (V.ext e₁).ext e₂
  refine wpAny_newObj_type ?_
  have hD := hP₂.fresh
  have hP₃ : Has (h₂.push { cls := .type "list", data := .seq ([] : List Value).toArray }) (upd P₂ h₂.objs.size (lst [])) := hP₂.push rfl
  have eD : Ext F₁ P₂ F₁ (upd P₂ h₂.objs.size (lst [])) := .own e₂.fp hD
  have V₃ := V₂.ext eD
  refine newEnv_ok (ρc := ρc) V₃ hP₃ S.kind S.nd S.cap hρ fun h₄ tk₄ P₄ C cells hP₄ e₄ hC hown V₄ => ?_
  have e₁₄ := ((e₁.trans e₂).trans eD).trans e₄
  have DC : h₂.objs.size ≠ C := fun q => by rw [← q, upd_self] at hC; cases hC
  have hD0 : P h₂.objs.size = Option.none := none_of ((e₁.trans e₂).p) hD
  have dropP : ∀ {a}, upd P₂ h₂.objs.size (lst []) a = Option.none → P a = Option.none := fun {a} q => none_of (((e₁.trans e₂).trans eD).p) q
  have Cst : CSO g.hb (ccEnv env scope C cells) F P h₂.objs.size ρc [] F₁ P₄ := ⟨e₁₄, V₄, V₄.m, none_of e₂.fp hD, [], e₄.p _ _ (upd_self ..), rfl, List.nodup_nil, fun j b r hb _ => by simp at hb⟩
  have hown' : ∀ a, cown scope (ccEnv env scope C cells) a → P a = Option.none := fun a ha => dropP (hown a ha)
  have hWD : ¬ cown scope (ccEnv env scope C cells) h₂.objs.size := fun q => by have := hown _ q; rw [upd_self] at this; cases this
  have st₁ := It.keep 0 _ _ F₁ P₄ st₀ (.refl _) (fun a o _ e => (eD.trans e₄).p _ _ e) (fun a ha => none_of e₁.fp (hnew a ha))
  have core := own_core (g := g) (A := A) (X := X) (cenv := ccEnv env scope C cells) (Wc := cown scope (ccEnv env scope C cells)) (elt := elt) (target := target) (iter := iter) (scope := scope) (pos := pos) (D₀ := h₂.objs.size) (Fs := F) (Ps := P) (Fr := F₁) (Pr := P₁) x hD0 hown' hWD DC
    (fun a ha => by
      rcases ha with ha | ⟨y, hy, hl⟩
      · exact .inl ha
      · refine .inr ⟨y, ?_, hl⟩
        show (relabel scope env).names.lookup y = some .cell
        rw [relabel_lookup, hy]; rfl)
    (fun i di r => T C cells i di r) hl It st₁ Cst ((e₂.trans eD).trans e₄).soft (fun a o ha e _ => by rw [hnew a ha] at e; cases e) (fun a ha => none_of e₁.p (hnew a ha)) (fun a ha => none_of e₁.fp (hnew a ha)) hlen
  refine codeAny_mono (core _ hP₄) fun r s' ⟨f, h₅, tk₅, P₅, q1, q2, hP₅, q3, F₅, t₅, C₅⟩ => ?_
  subst q1 q2 q3
  obtain ⟨bs, hx, hbs⟩ := C₅.at'
  obtain ⟨m, oC, c1, c2, _⟩ := C₅.V.loc
  exact k h₅ tk₅ F₅ P₅ h₂.objs.size C bs hP₅ ⟨C₅.ext, hD0, dropP hC, C₅.off, C₅.M.loc, hx, hbs, DC, m, oC, c1, c2⟩
end
section
variable {g : G} {A : Around} {fx : Fx} {ρ : List (Str × D)} {X X' : XS fx} {o : Out}
theorem Sq.mat {α : Type} (ρc : List (Str × D)) (l : List α) (f : α → D) (row : α → List D) (d : D) {y x : Str} {yp xp spos : Pos} {elt iter : Expr} {scope : Scope} {pos : Pos} {r : List Stmt} (S : ScOk fx.env scope)
    (hi : Ev g A fx.env ρ X.toXP iter d) (hs : ∀ x, foldedSetIterable iter fx.env x = pure x) (ht : Itb g A d (l.map f) (.Name x xp)) (hρ : ∀ p ∈ ρc, ρ.lookup p.1 = some p.2 ∧ scope.names.contains (p.1, NameKind.free) = true) (fr : ρc.lookup x = none) (ad : ∀ C cells, AdrOk (ccEnv fx.env scope C cells) (cown scope (ccEnv fx.env scope C cells)) x)
    (E : ∀ C cells a, a ∈ l → EvN g A (ccEnv fx.env scope C cells) ((x, f a) :: ρc) X.toXP elt (row a)) (hlen : l.length ≤ 4096)
    (hx : AdrOk fx.env (muts fx.env) y) (hsw : swapsWith (.ListComp elt [⟨.Name x xp, iter, [], 0⟩] scope pos) (some (.Name y yp)) spos.line fx.env = pure true)
    (k : ∀ a bs, bs.length = l.length → bs.Nodup → a ∉ bs → Ex g A fx (X.and (XS.mat a bs (l.map row))) X' (execs r fx.env) ((y, .raw (.ref a)) :: ρ) o) :
    Ex g A fx X X' (execs (.Assign [.Name y yp] (.ListComp elt [⟨.Name x xp, iter, [], 0⟩] scope pos) spos :: r) fx.env) ρ o := Ex.mk fun F P I V M xx s hP => by
  refine wpAny_execs_cons ?_
  rw [exec_Assign_Name_used _ _ _ _ hsw]
  refine wpAny_bind (wpAny_standAt (wpAny_bind ?_))
  show wpAny _ A (do let _ ← comprehension _ scope fx.env _ (newList []) false (eval iter fx.env) (some (PySem.assign (.Name y yp) fx.env))) _ _ s
  refine wpAny_bind (wpAny_mono (own_comp ρc (rows := l.map row) (use := some (PySem.assign (.Name y yp) fx.env)) (E := fun _ _ => False) (Q := fun _ s' => ∃ h tk P' a bs, s' = { s with heap := h, toks := tk } ∧ Has h P' ∧ bs.length = l.length ∧ bs.Nodup ∧ a ∉ bs ∧ ∃ F', Soft F P F' P' ∧ Ext fx.F₀ fx.P₀ F' P' ∧ (X.and (XS.mat a bs (l.map row))).p F' P' ∧ Vars g.hb fx.env F' P' ((y, .raw (.ref a)) :: ρ) ∧ Mut fx.env F' P')
    S V xx hP hi hs ht (by simp) (cap_of hρ) (fun C cells i di rr hd hr => ?_) (by simpa using hlen) fun h tk F' P' D₀ C bs hP' c => ?_) (fun _ s' hq => ?_) fun _ _ e => e.elim)
  · rw [List.getElem?_map] at hd hr
    obtain ⟨a, ha, rfl⟩ := Option.map_eq_some_iff.mp hd
    rw [ha] at hr
    cases hr
    exact ⟨_, Asg.name (ad C cells), fresh_sub fr, E C cells a (List.mem_of_getElem? ha)⟩
  · obtain ⟨m, oC, c1, c2⟩ := c.ns
    have V' := V.ext c.ext
    show wpAny _ A (PySem.assign (.Name y yp) fx.env (.ref D₀)) _ _ _
    have hC : ∀ a, muts fx.env a → a ≠ C := fun a ha q => by
      subst q
      rcases ha with rfl | ⟨z, hk, hl⟩
      · exact V.locNe c.newC
      · obtain ⟨_, o, v, q, _⟩ := M.cel z _ hl hk
        rw [c.newC] at q; cases q
    have bl : bs.length = l.length := by rw [c.rows.1, List.length_map]
    have rowAt : ∀ (j : Nat) (b : Addr), bs[j]? = some b → ∃ r xs n, (l.map row)[j]? = some r ∧ P' b = some (lstN xs n) ∧ RepL F' r xs ∧ F' b = none ∧ P b = none ∧ b ≠ D₀ := fun j b hb => by
      have hj : j < (l.map row).length := by rw [List.length_map, ← bl]; exact (List.getElem?_eq_some_iff.mp hb).1
      obtain ⟨xs, n, q⟩ := c.rows.2.2 j b _ hb (List.getElem?_eq_getElem hj)
      exact ⟨_, xs, n, List.getElem?_eq_getElem hj, q⟩
    have nD : D₀ ∉ bs := fun hm => by
      obtain ⟨j, hj⟩ := List.getElem?_of_mem hm
      obtain ⟨_, _, _, _, _, _, _, _, q⟩ := rowAt j D₀ hj
      exact q rfl
    have refs : ∀ (bs : List Addr), RepL F' (bs.map fun b => D.raw (.ref b)) (bs.map Value.ref) := fun bs => by
      induction bs with
      | nil => exact .nil
      | cons b r ih => exact .cons (by simp only [Rep]) ih
    have mat : Mat fx D₀ bs (l.map row) F' P' := ⟨new_own I V M c.newD c.offD (n := (bs.map Value.ref).length) c.at' (refs bs), fun i b r hb hr => by
      obtain ⟨xs, n, q1, q2, q3, q4, q5⟩ := c.rows.2.2 i b r hb hr
      exact new_own I V M q4 q3 q1 q2⟩
    refine wpAny_assign_Name ((store_ok (A := A) (g := g) (d := .raw (.ref D₀)) V' V'.m (by simp only [Rep]) hx).out hP' fun h₂ tk₂ P₂ _ hP₂ ⟨V₂, M₂, s₂, t₂⟩ => ?_)
    have C₂ : P₂ C = some oC := s₂.p _ _ c1 fun q => hC _ q rfl
    have sH : Step (muts fx.env) F' (hid P' C) F' (hid P₂ C) := ⟨.refl _, fun a o e n => by
      unfold hid at e ⊢
      by_cases q : a = C
      · rw [if_pos q] at e; cases e
      · rw [if_neg q] at e ⊢; exact s₂.p _ _ e n, s₂.fp.hid_off c.offC, fun _ h => .inl h⟩
    have eH := c.ext.hidC c.newC c.offC
    have VH : Vars g.hb fx.env F' (hid P₂ C) ((y, .raw (.ref D₀)) :: ρ) := V₂.step (W := fun a => a = C) (.hid s₂.fp c.offC rfl) (fun q => hC _ (.inl rfl) q) fun z cc o v hl hcp hd q => by
      have q' : cc = C := q
      rw [q', C₂] at hcp
      cases hcp
      obtain ⟨es, ep, hd', _⟩ := c2
      rw [hd'] at hd; cases hd
    have ne_of : ∀ {b : Addr} {xs : List Value} {n : Nat}, P' b = some (lstN xs n) → b ≠ C := fun {b xs n} e q => by
      rw [q, c1] at e
      obtain ⟨es, ep, hd', _⟩ := c2
      cases e; cases hd'
    have matH : Mat fx D₀ bs (l.map row) F' (hid P' C) := by
      have go : ∀ {b ds}, Own fx b ds F' P' → Own fx b ds F' (hid P' C) := fun {b ds} ⟨xs, n, q1, q2⟩ => ⟨xs, n, by unfold hid; rw [if_neg (ne_of q1)]; exact q1, q2⟩
      exact ⟨go mat.1, fun i b r hb hr => go (mat.2 i b r hb hr)⟩
    refine ⟨m, c2.ns (hP₂ _ _ C₂), fun h' hsb => ⟨h', tk₂, hid P₂ C, D₀, bs, rfl, hP₂.hid fun b o q e => (hsb.2 b q).trans e, bl, c.rows.2.1, nD, F', ?_, inv_step (I.trans eH) sH fx.nm,
      (X.and (XS.mat D₀ bs (l.map row))).stp _ _ _ _ _ ⟨X.st _ _ _ _ xx eH, matH⟩ sH fun a h => .inl h, VH, VH.m⟩⟩
    exact eH.soft.trans ⟨.refl _, fun a o q k => by
      unfold hid at q ⊢
      by_cases z : a = C
      · rw [if_pos z] at q; cases q
      · rw [if_neg z] at q ⊢; exact t₂.it _ _ q k, fun a o q k n => n⟩
  · obtain ⟨h, tk, P₁, a, bs, rfl, hP₁, q1, q2, q3, F₁, t₁, I₁, x₁, V₁, M₁⟩ := hq
    refine wpAny_pure (wpAny_pure ?_)
    exact ((k a bs q1 q2 q3).run F₁ P₁ I₁ V₁ M₁ x₁).out hP₁ fun h tk P₂ f hP₂ ⟨F₂, t₂, I₂, x₂, q⟩ => ⟨_, _, P₂, rfl, hP₂, F₂, t₁.trans t₂, I₂, x₂, q⟩
end
end TL
end
section
namespace TL
open PySem PySem.W PyProof.Rows PySem.Calls PyProof.Rows.LCg
noncomputable def frz (S : Addr → Prop) (F P : PH) : PH := fun b => open Classical in if S b then P b else F b
theorem frz_in {S : Addr → Prop} {F P : PH} {b : Addr} (h : S b) : frz S F P b = P b := if_pos h
theorem frz_off {S : Addr → Prop} {F P : PH} {b : Addr} (h : ¬ S b) : frz S F P b = F b := if_neg h
theorem frz_ok {fx : Fx} {S : Addr → Prop} {F P F₁ P₁ : PH} (t : Soft F P F₁ P₁) (I : Ext fx.F₀ fx.P₀ F₁ P₁) (hS : ∀ b, S b → F₁ b = none ∧ fx.P₀ b = none ∧ (∀ o, P₁ b = some o → iterCls o = false)) :
    Sub F₁ (frz S F₁ P₁) ∧ Soft F P (frz S F₁ P₁) P₁ ∧ Ext fx.F₀ fx.P₀ (frz S F₁ P₁) P₁ := by
  have sub : Sub F₁ (frz S F₁ P₁) := fun b o e => by
    by_cases h : S b
    · rw [(hS b h).1] at e; cases e
    · rw [frz_off h]; exact e
  refine ⟨sub, ⟨t.f.trans sub, t.it, fun b o e k n => ?_⟩, ⟨I.f.trans sub, I.p, fun b o e => ?_, fun b e => ?_⟩⟩
  · by_cases h : S b
    · have := (hS b h).2.2 o (t.it _ _ e k)
      rw [k] at this; cases this
    · rw [frz_off h]; exact t.off b o e k n
  · by_cases h : S b
    · rw [frz_in h] at e; exact e
    · rw [frz_off h] at e; exact I.fp _ _ e
  · by_cases h : S b
    · exact .inr (hS b h).2.1
    · rw [frz_off h] at e; exact I.new b e
section
variable {g : G} {A : Around} {fx : Fx} {ρ : List (Str × D)} {X : XS fx}
theorem Sq.retOwn {e : Expr} {pos : Pos} {r : List Stmt} {a : Addr} (ds : List D) (h : Ev g A fx.env ρ X.toXP e (.raw (.ref a))) (hX : ∀ F P, X.p F P → Own fx a ds F P) : Ex g A fx X XS.tt (execs (.Return (some e) pos :: r) fx.env) ρ (.ret (.lst ds)) := Ex.mk fun F P I V M x s hs => by
  refine wpAny_execs_cons (wpAny_Return_some ((h.run F P V x).out hs fun h tk P₁ v hP ⟨F₁, e₁, r⟩ => ?_))
  simp only [Rep] at r
  subst r
  obtain ⟨xs, n, h1, h2, h3, h4, h5⟩ := hX _ _ (X.st _ _ _ _ x e₁)
  obtain ⟨q1, q2, q3⟩ := frz_ok (S := fun b => b = a) (e₁.soft) (I.trans e₁) fun b hb => by subst hb; exact ⟨h3, h4, fun o e => by rw [h1] at e; cases e; rfl⟩
  refine ⟨_, _, P₁, rfl, hP, _, q2, q3, trivial, _, rfl, ?_⟩
  simp only [Rep]
  exact ⟨a, _, xs.toArray, n, rfl, (frz_in rfl).trans h1, ⟨rfl, rfl, rfl⟩, rfl, h2.sub q1⟩
theorem repL_of {F : PH} : ∀ {ds : List D} {vs : List Value}, vs.length = ds.length → (∀ (i : Nat) (d : D) (v : Value), ds[i]? = some d → vs[i]? = some v → Rep F d v) → RepL F ds vs
  | [], [], _, _ => .nil
  | [], _ :: _, h, _ => by simp at h
  | _ :: _, [], h, _ => by simp at h
  | d :: ds, v :: vs, h, k => .cons (k 0 d v rfl rfl) (repL_of (by simpa using h) fun i d' v' e1 e2 => k (i + 1) d' v' (by simpa using e1) (by simpa using e2))
theorem Sq.retMat {e : Expr} {pos : Pos} {r : List Stmt} {a : Addr} (bs : List Addr) (rows : List (List D)) (hl : bs.length = rows.length) (h : Ev g A fx.env ρ X.toXP e (.raw (.ref a))) (hX : ∀ F P, X.p F P → Mat fx a bs rows F P) : Ex g A fx X XS.tt (execs (.Return (some e) pos :: r) fx.env) ρ (.ret (.lst (rows.map .lst))) := Ex.mk fun F P I V M x s hs => by
  refine wpAny_execs_cons (wpAny_Return_some ((h.run F P V x).out hs fun h tk P₁ v hP ⟨F₁, e₁, r⟩ => ?_))
  simp only [Rep] at r
  subst r
  obtain ⟨⟨xs, n, h1, h2, h3, h4, h5⟩, hr⟩ := hX _ _ (X.st _ _ _ _ x e₁)
  have row : ∀ {b}, b ∈ bs → ∃ r, Own fx b r F₁ P₁ := fun {b} hm => by
    obtain ⟨j, hj⟩ := List.getElem?_of_mem hm
    have hj' : j < rows.length := by rw [← hl]; exact (List.getElem?_eq_some_iff.mp hj).1
    exact ⟨_, hr j b _ hj (List.getElem?_eq_getElem hj')⟩
  obtain ⟨q1, q2, q3⟩ := frz_ok (S := fun b => b = a ∨ b ∈ bs) (e₁.soft) (I.trans e₁) fun b hb => by
    rcases hb with rfl | hb
    · exact ⟨h3, h4, fun o e => by rw [h1] at e; cases e; rfl⟩
    · obtain ⟨r, ys, m, k1, k2, k3, k4, k5⟩ := row hb
      exact ⟨k3, k4, fun o e => by rw [k1] at e; cases e; rfl⟩
  refine ⟨_, _, P₁, rfl, hP, _, q2, q3, trivial, _, rfl, ?_⟩
  simp only [Rep]
  refine ⟨a, _, xs.toArray, n, rfl, (frz_in (.inl rfl)).trans h1, ⟨rfl, rfl, rfl⟩, rfl, repL_of (by have := h2.length; simp at this ⊢; omega) fun i d v hd hv => ?_⟩
  rw [List.getElem?_map] at hd
  obtain ⟨r, hr', rfl⟩ := Option.map_eq_some_iff.mp hd
  obtain ⟨d', hd', rv⟩ := h2.get' (i := i) (v := v) (by simpa using hv)
  rw [List.getElem?_map] at hd'
  obtain ⟨b, hb, rfl⟩ := Option.map_eq_some_iff.mp hd'
  simp only [Rep] at rv ⊢
  obtain ⟨ys, m, k1, k2, k3, k4, k5⟩ := hr i b r hb hr'
  exact ⟨b, _, ys.toArray, m, rv, (frz_in (.inr (List.mem_of_getElem? hb))).trans k1, ⟨rfl, rfl, rfl⟩, rfl, k2.sub q1⟩
end
end TL
end
section
namespace TL
open PySem PySem.W PyProof.Rows PySem.Calls PyProof.Rows.LCg
noncomputable def rowsI (m : List (List Int)) : List (List D) := m.map (·.map D.int)
noncomputable def matD (m : List (List Int)) : D := .lst ((rowsI m).map .lst)
noncomputable def at2 (m : List (List Int)) (i j : Nat) : Int := (m.getD i []).getD j 0
noncomputable def set2 (m : List (List Int)) (i j : Nat) (v : Int) : List (List Int) := m.set i ((m.getD i []).set j v)
structure Sq4 (m : List (List Int)) : Prop where
  n : m.length = 4
  r : ∀ r ∈ m, r.length = 4
theorem Sq4.row {m : List (List Int)} (h : Sq4 m) {i : Nat} (hi : i < 4) : m[i]? = some (m.getD i []) ∧ (m.getD i []).length = 4 := by
  have hi' : i < m.length := by rw [h.n]; exact hi
  rw [List.getD_eq_getElem?_getD, List.getElem?_eq_getElem hi']
  exact ⟨rfl, h.r _ (List.getElem_mem hi')⟩
theorem Sq4.set {m : List (List Int)} (h : Sq4 m) {i j : Nat} (hi : i < 4) {v : Int} : Sq4 (set2 m i j v) := by
  refine ⟨by simp [set2, h.n], fun r hr => ?_⟩
  rcases List.mem_or_eq_of_mem_set hr with q | q
  · exact h.r r q
  · rw [q, List.length_set]; exact (h.row hi).2
theorem Sq4.at_set {m : List (List Int)} (h : Sq4 m) {i j : Nat} (hi : i < 4) (hj : j < 4) {v : Int} : at2 (set2 m i j v) i j = v := by
  have h1 := h.row hi
  have hi' : i < m.length := by rw [h.n]; exact hi
  simp [at2, set2, List.getD_eq_getElem?_getD, hi']
  have := h1.2
  rw [List.getD_eq_getElem?_getD, List.getElem?_eq_getElem hi'] at this
  simp at this
  simp [this, hj]
theorem Sq4.get {m : List (List Int)} (h : Sq4 m) {i j : Nat} (hi : i < 4) (hj : j < 4) : (rowsI m)[i]? = some ((m.getD i []).map D.int) ∧ ((m.getD i []).map D.int)[j]? = some (.int (at2 m i j)) := by
  obtain ⟨h1, h2⟩ := h.row hi
  refine ⟨by rw [rowsI, List.getElem?_map, h1]; rfl, ?_⟩
  have : j < (m.getD i []).length := by rw [h2]; exact hj
  rw [List.getElem?_map, List.getElem?_eq_getElem this, at2, List.getD_eq_getElem?_getD (l := m.getD i []), List.getElem?_eq_getElem this]
  rfl
section
variable {g : G} {A : Around} {env : Env} {ρ : List (Str × D)} {X : XP}
theorem Ev.as (d : D) {d' : D} {e : Expr} (h : Ev g A env ρ X e d) (q : d = d') : Ev g A env ρ X e d' := q ▸ h
theorem EvI.at (d : D) {iter target : Expr} {ds : List D} (hi : Ev g A env ρ X iter d) (ht : Itb g A d ds target) : EvI g A env ρ X iter ds target := EvI.of hi ht
theorem Ev.at2 {value si sj : Expr} {p p' : Pos} {m : List (List Int)} {i j : Nat} (h : Sq4 m) (hi : i < 4) (hj : j < 4) (hv : Ev g A env ρ X value (matD m)) (ei : Ev g A env ρ X si (intD i)) (ej : Ev g A env ρ X sj (intD j))
    (hs : ∀ (o : Addr) (i : Int) (t : Tok), subscripted si false (.ref o) (.int i t) = operate [.ref o, .int i t] (getItem (.ref o) (.int i t)) := by intro _ _ _; rfl)
    (hs' : ∀ (o : Addr) (i : Int) (t : Tok), subscripted sj false (.ref o) (.int i t) = operate [.ref o, .int i t] (getItem (.ref o) (.int i t)) := by intro _ _ _; rfl) : Ev g A env ρ X (.Subscript (.Subscript value si p) sj p') (.int (TL.at2 m i j)) := by
  obtain ⟨h1, h2⟩ := h.get hi hj
  exact Ev.subN (Ev.subN (d := .lst ((m.getD i []).map D.int)) hv ei (by rw [List.getElem?_map, h1]; rfl) (by omega) hs) ej h2 (by omega) hs'
theorem Ev.rowO {fx : Fx} {value si : Expr} {p : Pos} {a b : Addr} {bs : List Addr} {rows : List (List D)} {i : Nat} (hX : ∀ F P, X.p F P → Mat fx a bs rows F P) (hb : bs[i]? = some b) (hk : i < 2 ^ 63) (hv : Ev g A env ρ X value (.raw (.ref a))) (ei : Ev g A env ρ X si (intD i))
    (hs : ∀ (o : Addr) (i : Int) (t : Tok), subscripted si false (.ref o) (.int i t) = operate [.ref o, .int i t] (getItem (.ref o) (.int i t)) := by intro _ _ _; rfl) : Ev g A env ρ X (.Subscript value si p) (.raw (.ref b)) :=
  Ev.item _ hv ei (fun F P x => by obtain ⟨xs, n, h1, h2, _⟩ := (hX F P x).1; exact ⟨xs, n, h1, h2⟩) (by rw [List.getElem?_map, hb]; rfl) hk hs
theorem Ev.at2O {fx : Fx} {value si sj : Expr} {p p' : Pos} {a b : Addr} {bs : List Addr} {rows : List (List D)} {i j : Nat} {r : List D} {d : D} (hX : ∀ F P, X.p F P → Mat fx a bs rows F P) (hb : bs[i]? = some b) (hr : rows[i]? = some r) (hd : r[j]? = some d) (hk : i < 2 ^ 63) (hk' : j < 2 ^ 63)
    (hv : Ev g A env ρ X value (.raw (.ref a))) (ei : Ev g A env ρ X si (intD i)) (ej : Ev g A env ρ X sj (intD j))
    (hs : ∀ (o : Addr) (i : Int) (t : Tok), subscripted si false (.ref o) (.int i t) = operate [.ref o, .int i t] (getItem (.ref o) (.int i t)) := by intro _ _ _; rfl)
    (hs' : ∀ (o : Addr) (i : Int) (t : Tok), subscripted sj false (.ref o) (.int i t) = operate [.ref o, .int i t] (getItem (.ref o) (.int i t)) := by intro _ _ _; rfl) : Ev g A env ρ X (.Subscript (.Subscript value si p) sj p') d :=
  Ev.item r (Ev.rowO hX hb hk hv ei hs) ej (fun F P x => by obtain ⟨xs, n, h1, h2, _⟩ := (hX F P x).2 i b r hb hr; exact ⟨xs, n, h1, h2⟩) hd hk' hs'
end
theorem Mat.set {fx : Fx} {a b : Addr} {bs : List Addr} {rows : List (List D)} {i : Nat} {r' : List D} {F P : PH} {ob : Obj} (h : Mat fx a bs rows F P) (hn : bs.Nodup) (ha : a ∉ bs) (hb : bs[i]? = some b) (ow : Own fx b r' F (upd P b ob)) : Mat fx a bs (rows.set i r') F (upd P b ob) := by
  have hm : b ∈ bs := List.mem_of_getElem? hb
  refine ⟨h.1.upd fun q => ha (q ▸ hm), fun k c r hc hr => ?_⟩
  by_cases q : k = i
  · subst q
    rw [hb] at hc; cases hc
    have : r' = r := by
      rw [List.getElem?_set] at hr
      simp at hr
      exact hr.2
    subst this; exact ow
  · rw [List.getElem?_set, if_neg (Ne.symm q)] at hr
    refine (h.2 k c r hc hr).upd fun z => q ?_
    subst z
    obtain ⟨h1, e1⟩ := List.getElem?_eq_some_iff.mp hc
    obtain ⟨h2, e2⟩ := List.getElem?_eq_some_iff.mp hb
    have pw := List.pairwise_iff_getElem.mp hn
    rcases Nat.lt_trichotomy k i with z | z | z
    · exact absurd (e1.trans e2.symm) (pw k i h1 h2 z)
    · exact z
    · exact absurd (e2.trans e1.symm) (pw i k h2 h1 z)
section
variable {g : G} {A : Around} {fx : Fx} {ρ ρ' : List (Str × D)} {X X' : XS fx} {o : Out}
theorem Ex.conv {t : Sem Flow} {d d' : D} (h : Ex g A fx X X' t ρ (.ret d)) (q : d = d') : Ex g A fx X X' t ρ (.ret d') := q ▸ h
theorem Ex.preX {t : Sem Flow} (X₂ : XS fx) (h : ∀ F P, X.p F P → X₂.p F P) (k : Ex g A fx X₂ X' t ρ o) : Ex g A fx X X' t ρ o := Ex.mk fun F P I V M x => k.run F P I V M (h _ _ x)
theorem Sq.set2 {value om oi oj : Expr} {p p' pos : Pos} {r : List Stmt} {a : Addr} {bs : List Addr} {i j : Nat} (m : List (List Int)) (v : Int) (h : Sq4 m) (hl : bs.length = 4) (hn : bs.Nodup) (ha : a ∉ bs) (hi : i < 4) (hj : j < 4)
    (hv : Ev g A fx.env ρ (XS.mat (fx := fx) a bs (rowsI m)).toXP value (.int v)) (hm : Ev g A fx.env ρ (XS.mat (fx := fx) a bs (rowsI m)).toXP om (.raw (.ref a))) (ei : Ev g A fx.env ρ (XS.mat (fx := fx) a bs (rowsI m)).toXP oi (intD i)) (ej : Ev g A fx.env ρ (XS.mat (fx := fx) a bs (rowsI m)).toXP oj (intD j))
    (hs : swapsWith value (some (.Subscript (.Subscript om oi p) oj p')) pos.line fx.env = pure false)
    (hss : ∀ (o : Addr) (i : Int) (t : Tok), subscripted oi false (.ref o) (.int i t) = operate [.ref o, .int i t] (getItem (.ref o) (.int i t)))
    (k : Ex g A fx (XS.mat a bs (rowsI (set2 m i j v))) X' (execs r fx.env) ρ o) : Ex g A fx (XS.mat a bs (rowsI m)) X' (execs (.Assign [.Subscript (.Subscript om oi p) oj p'] value pos :: r) fx.env) ρ o := by
  have hb : bs[i]? = some (bs.getD i 0) := by
    have : i < bs.length := by omega
    rw [List.getD_eq_getElem?_getD, List.getElem?_eq_getElem this]; rfl
  obtain ⟨h1, h2⟩ := h.get hi hj
  have hlen := (h.row hi).2
  refine Sq.set ((m.getD i []).map D.int) (.int v) hv (Ev.rowO (fun F P x => x) hb (by omega) hm ei hss) ej (fun F P x => x.2 i _ _ hb h1) (by rw [List.length_map, hlen]; exact hj) (by omega) hs (fun F P ob x ow => ?_) k
  have e : rowsI (TL.set2 m i j v) = (rowsI m).set i (((m.getD i []).map D.int).set j (.int v)) := by
    simp [rowsI, TL.set2, List.map_set]
  show Mat fx a bs (rowsI (TL.set2 m i j v)) F (upd P _ ob)
  rw [e]
  exact x.set hn ha hb ow
theorem Sq.forX (X : Nat → XS fx) (R : Nat → List (Str × D)) (ds : List D) {iter target : Expr} {body : List Stmt} {pos : Pos} {r : List Stmt} (hR : ∀ x d, (R 0).lookup x = some d → ρ.lookup x = some d) (hi : EvI g A fx.env (R 0) (X 0).toXP iter ds target)
    (turn : ∀ (i : Nat) (di : D), ds[i]? = some di → ∃ ρ', Asg g A fx.env (muts fx.env) target di (R i) ρ' ∧ Ex g A fx (X i) (X (i + 1)) (execs body fx.env) ρ' (.next (R (i + 1))))
    (hs : ∀ x, foldedSetIterable iter fx.env x = pure x) (k : Ex g A fx (X ds.length) X' (execs r fx.env) (R ds.length) o) : Ex g A fx (X 0) X' (execs (.For target iter body [] pos :: r) fx.env) ρ o :=
  Ex.cons (Ex.pre (Ex.forI hi turn hs) hR) k
theorem Sq.nil {o : Out} (h : o = .next ρ') (hq : ∀ x d, ρ'.lookup x = some d → ρ.lookup x = some d) : Ex g A fx X X (execs [] fx.env) ρ o := by subst h; exact Ex.sub Ex.nil hq
end
end TL
end
section
namespace TL
open PySem PySem.W PyProof.Rows PySem.Calls PyProof.Rows.LCg
theorem slicePick_to (items : Array Value) (b : Nat) : slicePick items none (some (b : Int)) none = (items.toList.take b).toArray := by
  by_cases h : b ≤ items.size
  · exact slicePick_upto items b h
  · have e : sliceBounds none (some (b : Int)) none items.size = (((0 : Nat) : Int), (items.size : Int), 1) := by
      simp only [sliceBounds, Option.getD_none]
      have h2 : ¬ ((b : Int) < 0) := by omega
      simp only [h2, if_false, show (1 : Int) > 0 by decide, if_true]
      congr 1
      congr 1; omega
    unfold slicePick
    rw [e]
    simp only [sliceRange_one, pick_run]
    rw [List.take_of_length_le (l := items.toList) (by simp; omega)]
    simp only [List.drop_zero]
    rw [List.take_of_length_le (by simp)]
section
variable {g : G} {A : Around} {env : Env} {ρ : List (Str × D)} {X : XP}
theorem Ev.slice_to {value : Expr} {k : Nat} {kk : Nat} {p₁ p₂ pos : Pos} {ds : List D} (h₁ : Ev g A env ρ X value (.lst ds)) (hl : ds.length ≤ 4096) :
    Ev g A env ρ X (.Subscript value (.Slice Option.none (some (.Constant (.int (k : Int)) kk p₁)) Option.none p₂) pos) (.lst (ds.take k)) := Ev.mk fun F P V x s hs => by
  refine Subscript_ ((h₁.run F P V x).out hs fun h tk P₁ v₁ hP₁ ⟨F₁, e₁, r₁⟩ => ?_)
  rw [arm_eval_Slice]
  refine wpAny_bind (wpAny_pure (wpAny_bind (wpAny_holding ?_)))
  show wpAny _ A (eval (.Constant (.int (k : Int)) kk p₁) env) _ _ _
  refine ((Ev.int (g := g) (A := A) (X := X)).run F₁ P₁ (V.ext e₁) (X.st _ _ _ _ x e₁)).out hP₁ fun h tk P₂ v₂ hP₂ ⟨F₂, e₂, r₂⟩ => ?_
  refine wpAny_bind (wpAny_holding (wpAny_pure (wpAny_newObj_type ?_)))
  simp only [Rep] at r₂
  obtain ⟨t, rfl⟩ := r₂
  have hP₃ := hP₂.push (o := { cls := .type "slice", data := .fields #[.none, .int (k : Int) t, .none] }) rfl
  have e₃ := Ext.own (o := { cls := .type "slice", data := .fields #[.none, .int (k : Int) t, .none] }) e₂.fp hP₂.fresh
  replace r₁ := r₁.sub e₂.f
  simp only [Rep] at r₁
  obtain ⟨a, o, vs, n, rfl, hF, hc, hd, hl₁⟩ := r₁
  have q1 : vs.size = ds.length := by have := hl₁.length; simpa using this
  have hI : Heap.IsList (h.push { cls := .type "slice", data := .fields #[.none, .int (k : Int) t, .none] }) a vs := ⟨o, Heap.get?_push_of_some _ (hP₂ _ _ (e₂.fp _ _ hF)), hc.1, n, hd⟩
  refine tail_any (s := { heap := _, gens := _, drawn := _, toks := _, os := _ }) hI.typeIs slot_list_getitem.lookup (wpAny_getItem_list_slice (s := { heap := _, gens := _, drawn := _, toks := _, os := _ }) hI ⟨_, Heap.get?_push_size _ rfl, rfl, rfl⟩ .none (.int _ _) .none (by simp) ?_ (by rw [q1]; exact Nat.le_trans hl (by decide))) (by rfl)
  rw [slicePick_to vs k]
  refine ⟨_, _, _, rfl, hP₃.push rfl, _, ((e₁.trans e₂).trans e₃).trans (.alloc e₃.fp hP₃.fresh), ?_⟩
  simp only [Rep]
  exact ⟨_, _, _, _, rfl, upd_self .., ⟨rfl, rfl, rfl⟩, rfl, by simpa using (hl₁.take k).sub (.upd_new (none_of e₃.fp hP₃.fresh))⟩
theorem op_pow {a : Int} {n : Nat} (hn : n ≤ 1000000) (ha : a.natAbs < 2 ^ 64) : Op2 g A (binaryOp .Pow) (.int a) (.int (n : Int)) (.int (a ^ n)) := fun F v₁ v₂ s Q E hs r₁ r₂ k => by
  simp only [Rep] at r₁ r₂
  obtain ⟨t, rfl⟩ := r₁
  obtain ⟨u, rfl⟩ := r₂
  exact pow_int_small (by omega) (by omega) ha (k _ _ (by simp only [Rep, Int.toNat_natCast]; exact ⟨_, rfl⟩))
noncomputable def enumD (ds : List D) : List D := ds.mapIdx fun i d => .tup [intD i, d]
noncomputable def enumObj (it : Addr) (i : Int) (old : Value) : Obj := { cls := .type "enumerate", data := .fields #[.none, .bool false, .ref it, rawInt i, .none, old] }
structure EnumSt (F₀ : PH) (e it l : Addr) (n i : Nat) (F P : PH) : Prop where
  le : i ≤ n
  f : Sub F₀ F
  fe : F e = none
  fit : F it = none
  pe : ∃ old, P e = some (enumObj it i old)
  pit : ∃ o, P it = some o ∧ o.cls = .type "list_iterator" ∧ o.data = .fields #[.ref l, .int i 0]
theorem pyIter_enum {F P : PH} (hh : A.handled = Option.none) {e it l : Addr} {elts : List Expr} {kk : Nat} {pos : Pos} {ds : List D} {vs : Array Value} {o : Obj} {F₀ : PH} (hne : e ≠ it) (ho : F₀ l = some o) (hc : o.cls = .type "list") {n : Nat} (hd : o.data = .seq vs n) (hr : RepL F₀ ds vs.toList) :
    Iter g A (.ref e) (fun a => a = e ∨ a = it) (EnumSt F₀ e it l ds.length) (enumD ds) (.Tuple elts kk pos) := by
  refine ⟨fun i F P st a ha => ?_, fun i F P st a ha => ?_, fun i F P F' P' st hf hp hn => ?_, fun i F P d hs st hd' s hP => ?_, fun i F P hs st hd' s hP => ?_, fun i F P hs st s hP => ?_⟩
  · rcases ha with rfl | rfl
    · obtain ⟨old, q⟩ := st.pe
      exact ⟨_, q, rfl⟩
    · obtain ⟨o, q, c, d⟩ := st.pit
      exact ⟨o, q, by unfold iterCls; rw [c, d]; rfl⟩
  · rcases ha with rfl | rfl
    · exact st.fe
    · exact st.fit
  · obtain ⟨old, q⟩ := st.pe
    obtain ⟨o, q', c, d⟩ := st.pit
    exact ⟨st.le, st.f.trans hf, hn _ (.inl rfl), hn _ (.inr rfl), ⟨old, hp _ _ (.inl rfl) q⟩, o, hp _ _ (.inr rfl) q', c, d⟩
  · rw [enumD, List.getElem?_mapIdx] at hd'
    obtain ⟨d₀, hd₀, rfl⟩ := Option.map_eq_some_iff.mp hd'
    obtain ⟨old, q⟩ := st.pe
    obtain ⟨oi, qi, ci, di⟩ := st.pit
    obtain ⟨x, hx, rx⟩ := hr.get hd₀
    have hlt : i < ds.length := (List.getElem?_eq_some_iff.mp hd₀).1
    have hl : s.heap.IsList l vs := ⟨o, hP _ _ (hs _ _ (st.f _ _ ho)), hc, n, hd⟩
    refine wpAny_pyNext_enum_item (hP _ _ q) ⟨oi, hP _ _ qi, ci, di⟩ hl (by simpa using hx) hne fun h' he hit htup hsz hk => ⟨_, rfl, wpAny_letOwnedTupleGo_enum he fun h'' he'' hsb => ?_⟩
    have hfr := hP.fresh
    have ne1 : e ≠ s.heap.objs.size := fun z => by rw [z, hfr] at q; cases q
    have ne2 : it ≠ s.heap.objs.size := fun z => by rw [z, hfr] at qi; cases qi
    obtain ⟨oi', qi', ci', di'⟩ := hit
    have hne' : it ≠ e := Ne.symm hne
    let tup : Obj := { cls := .type "tuple", data := .seq #[.int i s.toks, x] }
    let P' : PH := upd (upd (upd P e (enumObj it ((i : Int) + 1) x)) it oi') s.heap.objs.size tup
    have fnew : F s.heap.objs.size = none := none_of hs hfr
    have at_e : P' e = some (enumObj it ((i : Int) + 1) x) := by
      show upd (upd (upd P e _) it oi') _ tup e = _
      rw [upd_ne ne1, upd_ne hne, upd_self]
    have at_it : P' it = some oi' := by
      show upd (upd (upd P e _) it oi') _ tup it = _
      rw [upd_ne ne2, upd_self]
    have at_n : P' s.heap.objs.size = some tup := upd_self ..
    have other : ∀ b, b ≠ e → b ≠ it → b ≠ s.heap.objs.size → P' b = P b := fun b h1 h2 h3 => by
      show upd (upd (upd P e _) it oi') _ tup b = _
      rw [upd_ne h3, upd_ne h2, upd_ne h1]
    have hP' : Has h'' P' := fun b ob eb => by
      by_cases z1 : b = e
      · subst z1; rw [at_e] at eb; cases eb; exact he''
      · rw [hsb.2 b z1]
        by_cases z2 : b = it
        · subst z2; rw [at_it] at eb; cases eb; exact qi'
        · by_cases z3 : b = s.heap.objs.size
          · subst z3; rw [at_n] at eb; cases eb; exact htup
          · rw [other b z1 z2 z3] at eb; exact hk b ob z1 z2 (hP _ _ eb)
    refine ⟨h'', s.toks + 1, P', rfl, hP', upd F s.heap.objs.size tup, ⟨.upd_new fnew, fun a ob ea hw => ?_, fun a ob ea => ?_, fun a ha => ?_⟩, ⟨hlt, st.f.trans (.upd_new fnew), ?_, ?_, ⟨x, at_e⟩, oi', at_it, ci', di'⟩, ?_⟩
    · rw [other a (fun z => hw (.inl z)) (fun z => hw (.inr z)) (fun z => by rw [z, hfr] at ea; cases ea)]; exact ea
    · by_cases z : a = s.heap.objs.size
      · subst z; rw [upd_self] at ea; cases ea; exact at_n
      · rw [upd_ne z] at ea
        rw [other a (fun y => by rw [y, st.fe] at ea; cases ea) (fun y => by rw [y, st.fit] at ea; cases ea) z]
        exact hs _ _ ea
    · by_cases z : a = s.heap.objs.size
      · subst z; exact .inr ⟨hfr, fun y => y.elim (fun y => ne1 y.symm) fun y => ne2 y.symm⟩
      · rw [upd_ne z] at ha; exact .inl ha
    · rw [upd_ne ne1]; exact st.fe
    · rw [upd_ne ne2]; exact st.fit
    · simp only [Rep]
      exact ⟨_, _, _, _, rfl, upd_self .., ⟨rfl, rfl, rfl⟩, rfl, .cons (by simp only [intD, Rep]; exact ⟨_, rfl⟩) (.cons (rx.sub (st.f.trans (.upd_new fnew))) .nil)⟩
  · rw [enumD, List.getElem?_mapIdx] at hd'
    have hd₀ : ds[i]? = none := Option.map_eq_none_iff.mp hd'
    obtain ⟨old, q⟩ := st.pe
    obtain ⟨oi, qi, ci, di⟩ := st.pit
    have hl : s.heap.IsList l vs := ⟨o, hP _ _ (hs _ _ (st.f _ _ ho)), hc, n, hd⟩
    refine wpAny_pyNext_enum_end hh (hP _ _ q) ⟨oi, hP _ _ qi, ci, di⟩ hl (by
      have : vs.size = ds.length := by have := hr.length; simpa using this
      have h2 := List.getElem?_eq_none_iff.mp hd₀
      simp; omega) fun h' he => ⟨h', s.toks, hid P it, rfl, hP.hid fun b o q e => he b o q e, rfl, .hid hs st.fit (.inr rfl)⟩
  · obtain ⟨old, q⟩ := st.pe
    exact wpAny_pyIter_enum (hP _ _ q) ⟨_, s.toks, P, rfl, hP, rfl, rfl⟩
theorem EvI.enum {n : Nat} (cx : Cx A n) {fn e : Expr} {pos : Pos} {ds : List D} {elts : List Expr} {kk : Nat} {pos' : Pos} (hf : Ev g A env ρ X fn (.raw (.type "enumerate"))) (ha : Ev g A env ρ X e (.lst ds))
    (he : eval (.Call fn [e] [] pos) env = (eval fn env >>= fun f => callWith pos f [] (backTo pos (starEach [e] env)) []) := by rfl)
    (hst : starEach [e] env = (false, eval e env) :: starEach [] env := by rfl) : EvI g A env ρ X (.Call fn [e] [] pos) (enumD ds) (.Tuple elts kk pos') := EvI.mk fun F P V x s hs => by
  rw [he]
  refine wpAny_bind ((hf.run F P V x).out hs fun h₁ tk₁ P₁ v hP₁ ⟨F₁, e₁, r₁⟩ => ?_)
  simp only [Rep] at r₁
  subst r₁
  have V₁ := V.ext e₁
  have key := (EvL.cons (pos := pos) ha EvL.nil hst).run F₁ P₁ V₁ (X.st _ _ _ _ x e₁)
  rw [hst] at key ⊢
  refine callWith_of (P := fun h => True) (by rfl) (fun h _ => ⟨.machine, .inr (.inl rfl), .now⟩) (evalArgs_plain ?_)
  refine key.out hP₁ fun h₂ tk₂ P₂ vs hP₂ ⟨F₂, e₂, r₂⟩ => ⟨trivial, ?_⟩
  obtain ⟨v, rfl, r₃⟩ := RepL.one r₂
  simp only [Rep] at r₃
  obtain ⟨l, o, vs, n, rfl, hF, hc, hd, hr⟩ := r₃
  have hl : Heap.IsList h₂ l vs := ⟨o, hP₂ _ _ (e₂.fp _ _ hF), hc.1, n, hd⟩
  refine call_enumerate_list (s := { heap := h₂, gens := s.gens, drawn := s.drawn, toks := tk₂, os := s.os }) hl fun h₃ hen hit hsz hk => ?_
  have e3 : h₃.get? (h₂.objs.size + 1) = some (enumObj h₂.objs.size 0 .none) := hen
  obtain ⟨oi, qi, ci, di⟩ := hit
  have fr := hP₂.fresh
  have fr1 : P₂ (h₂.objs.size + 1) = Option.none := by
    cases q : P₂ (h₂.objs.size + 1) with
    | none => rfl
    | some o =>
      have hlt : h₂.objs.size + 1 < h₂.objs.size := hP₂.lt (by rw [q]; exact fun z => nomatch z)
      exact absurd hlt (by omega)
  have hne : h₂.objs.size + 1 ≠ h₂.objs.size := by omega
  refine wpAny_pyIter_enum hen ⟨h₃, tk₂, F₂, upd (upd P₂ h₂.objs.size oi) (h₂.objs.size + 1) (enumObj h₂.objs.size 0 .none), _, _, rfl, fun b ob eb => ?_, (e₁.trans e₂).trans ((Ext.own e₂.fp fr).trans (.own (fun a ob ea => Sub.upd_new fr a ob (e₂.fp _ _ ea)) (by rw [upd_ne hne]; exact fr1))), pyIter_enum (F := F₂) (P := P₂) cx.h hne hF hc.1 hd hr, ⟨Nat.zero_le _, .refl _, none_of e₂.fp fr1, none_of e₂.fp fr, ⟨.none, upd_self ..⟩, oi, by rw [upd_ne (Ne.symm hne), upd_self], ci, di⟩, fun a ha => ?_⟩
  · by_cases z : b = h₂.objs.size + 1
    · subst z; rw [upd_self] at eb; cases eb; exact e3
    · rw [upd_ne z] at eb
      by_cases z' : b = h₂.objs.size
      · subst z'; rw [upd_self] at eb; cases eb; exact qi
      · rw [upd_ne z'] at eb; exact hk _ _ (hP₂ _ _ eb)
  · rcases ha with rfl | rfl
    · exact none_of (e₁.p.trans e₂.p) fr1
    · exact none_of (e₁.p.trans e₂.p) fr
end
end TL
end
section
namespace TL
open PySem PySem.W PyProof.Rows PySem.Calls PyProof.Rows.LCg
section
variable {g : G} {A : Around} {fx : Fx} {ρ ρ' : List (Str × D)} {X X' : XS fx} {out : Out}
theorem set_own {F P : PH} {a : Addr} {ds : List D} {d : D} {j : Nat} {t : Tok} {v : Value} {s : Shared} {Q : Unit → Shared → Prop} {E : Value → Shared → Prop} (I : Ext fx.F₀ fx.P₀ F P) (V : Vars g.hb fx.env F P ρ) (hP : Has s.heap P) (ow : Own fx a ds F P) (r : Rep F d v) (hj : j < ds.length) (hk : j < 2 ^ 63)
    (k : ∀ h ob, Has h (upd P a ob) → Own fx a (ds.set j d) F (upd P a ob) → Soft F P F (upd P a ob) → Ext fx.F₀ fx.P₀ F (upd P a ob) → Vars g.hb fx.env F (upd P a ob) ρ → Q () { s with heap := h }) : wpAny (model g.prog g.w) A (setItem (.ref a) (.int (j : Int) t) v) Q E s := by
  obtain ⟨xs, n, h1, h2, h3, h4, h5⟩ := ow
  have hl : xs.length = ds.length := h2.length
  refine ki_setAt (items := xs.toArray) (hP _ _ h1) (by omega) (by omega) (by simp; omega) ?_
  have sS : Step (fun b => b = a) F P F (upd P a (lstN (xs.set j v) n)) := .upd V.fp h3 rfl
  have hget : (s.heap.update a (Obj.mapSeq (·.setIfInBounds ((j : Int)).toNat v))).get? a = some (lstN (xs.set j v) n) := by
    rw [Heap.get?_update_self _ (hP _ _ h1) rfl]
    simp [Obj.mapSeq, lstN]
  refine k _ _ (hP.same (Heap.SameBut.update ..) hget) ⟨_, n, upd_self .., h2.set r, h3, h4, h5⟩ (sS.soft fun b ob w e => ?_) (inv_step I sS fun b hb => ?_) (V.step sS (fun q => h5 (.inl q.symm)) fun y c ob v' hl he hd q => ?_)
  · have w' : b = a := w
    subst w'; rw [h1] at e; cases e; rfl
  · have w' : b = a := hb
    rw [w']; exact h4
  · have q' : c = a := q
    subst q'; rw [h1] at he; cases he; cases hd
theorem Sq.aug {value o i : Expr} {p pos : Pos} {r : List Stmt} {a : Addr} {j : Nat} (ds : List D) (x y : Int) (ho : Ev g A fx.env ρ X.toXP o (.raw (.ref a))) (hi : Ev g A fx.env ρ X.toXP i (intD j)) (hv : Ev g A fx.env ρ X.toXP value (.int y)) (hX : ∀ F P, X.p F P → Own fx a ds F P) (hd : ds[j]? = some (.int x)) (hk : j < 2 ^ 63)
    (hs : ∀ ov iv new, augStore i ov iv new = (do holding [new, ov, iv] (setItem ov iv new); release [new, ov, iv] []; pure .next)) {X₁ : XS fx} (hX₁ : ∀ F P ob, X.p F P → Own fx a (ds.set j (.int (x + y))) F (upd P a ob) → X₁.p F (upd P a ob))
    (k : Ex g A fx X₁ X' (execs r fx.env) ρ out) : Ex g A fx X X' (execs (.AugAssign (.Subscript o i p) .Add value pos :: r) fx.env) ρ out := Ex.mk fun F P I V M xx s hP => by
  refine wpAny_execs_cons (wpAny_AugAssign_SubscriptAny ((ho.run F P V xx).out hP fun h tk P₁ v₁ hP₁ ⟨F₁, e₁, r₁⟩ => ?_) hs)
  have x₁ := X.st _ _ _ _ xx e₁
  refine (hi.run F₁ P₁ (V.ext e₁) x₁).out hP₁ fun h tk P₂ v₂ hP₂ ⟨F₂, e₂, r₂⟩ => ?_
  have x₂ := X.st _ _ _ _ x₁ e₂
  simp only [Rep, intD] at r₁ r₂
  subst r₁
  obtain ⟨t, rfl⟩ := r₂
  obtain ⟨xs, n, h1, h2, _⟩ := hX _ _ x₂
  obtain ⟨w, ew, rw⟩ := h2.get hd
  simp only [Rep] at rw
  obtain ⟨u, rfl⟩ := rw
  refine wpAny_getItem_list (items := xs.toArray) ⟨_, hP₂ _ _ h1, rfl, n, rfl⟩ (by omega) (by omega) (by simpa using ew) ?_
  have e₁₂ := e₁.trans e₂
  refine (hv.run F₂ P₂ (V.ext e₁₂) x₂).out hP₂ fun h tk P₃ v₃ hP₃ ⟨F₃, e₃, r₃⟩ => ?_
  simp only [Rep] at r₃
  obtain ⟨u', rfl⟩ := r₃
  have x₃ := X.st _ _ _ _ x₂ e₃
  refine PySem.P.iadd_int ?_
  refine set_own (d := .int (x + y)) (I.trans (e₁₂.trans e₃)) (V.ext (e₁₂.trans e₃)) hP₃ (hX _ _ x₃) (by simp only [Rep]; exact ⟨_, rfl⟩) (List.getElem?_eq_some_iff.mp hd).1 hk fun h ob hP₄ ow t₄ I₄ V₄ => ?_
  exact (k.run F₃ _ I₄ V₄ V₄.m (hX₁ _ _ _ x₃ ow)).out hP₄ fun h tk P₅ f hP₅ ⟨F₅, t₅, I₅, x₅, q⟩ => ⟨_, _, P₅, rfl, hP₅, F₅, ((e₁₂.trans e₃).soft.trans t₄).trans t₅, I₅, x₅, q⟩
end
end TL
end
section
namespace TL
open PySem PySem.W PyProof.Rows PySem.Calls PyProof.Rows.LCg
section
variable {g : G} {A : Around} {env : Env} {ρ : List (Str × D)} {X : XP}
noncomputable def quo (a b : Int) : UInt64 := Float64.ofFrac (decide (a < 0) != decide (b < 0)) a.natAbs b.natAbs
theorem op_div (hh : A.handled = none) {a b : Int} (ha : a.natAbs < 2 ^ 64) (hb : b ≠ 0) : Op2 g A (binaryOp .Div) (.int a) (.int b) (.flt (quo a b)) := fun F v₁ v₂ s Q E hs r₁ r₂ k => by
  simp only [Rep] at r₁ r₂
  obtain ⟨t, rfl⟩ := r₁
  obtain ⟨u, rfl⟩ := r₂
  exact Flt.div_ii_fits hh (Nat.lt_trans ha (Nat.pow_lt_pow_right (by decide) (by decide))) (fun h => absurd h hb) fun _ _ => k _ _ (by simp only [Rep]; exact ⟨_, rfl⟩)
theorem op_fsub {a b : UInt64} : Op2 g A (binaryOp .Sub) (.flt a) (.flt b) (.flt (Float64.sub a b)) := fun F v₁ v₂ s Q E hs r₁ r₂ k => by
  simp only [Rep] at r₁ r₂
  obtain ⟨t, rfl⟩ := r₁
  obtain ⟨u, rfl⟩ := r₂
  exact sub_float (k _ _ (by simp only [Rep]; exact ⟨_, rfl⟩))
theorem op_fadd {a b : UInt64} : Op2 g A (binaryOp .Add) (.flt a) (.flt b) (.flt (Float64.add a b)) := fun F v₁ v₂ s Q E hs r₁ r₂ k => by
  simp only [Rep] at r₁ r₂
  obtain ⟨t, rfl⟩ := r₁
  obtain ⟨u, rfl⟩ := r₂
  exact add_float (k _ _ (by simp only [Rep]; exact ⟨_, rfl⟩))
theorem op_fdiv (hh : A.handled = none) {a b : UInt64} (hb : Float64.isZero b = false) : Op2 g A (binaryOp .Div) (.flt a) (.flt b) (.flt (Float64.div a b)) := fun F v₁ v₂ s Q E hs r₁ r₂ k => by
  simp only [Rep] at r₁ r₂
  obtain ⟨t, rfl⟩ := r₁
  obtain ⟨u, rfl⟩ := r₂
  exact truediv_float_or hh (fun z => by rw [hb] at z; cases z) fun _ => k _ _ (by simp only [Rep]; exact ⟨_, rfl⟩)
theorem op_fmod (hh : A.handled = none) {a b : UInt64} (hb : Float64.isZero b = false) : Op2 g A (binaryOp .Mod) (.flt a) (.flt b) (.flt (Float64.divmod a b).2) := fun F v₁ v₂ s Q E hs r₁ r₂ k => by
  simp only [Rep] at r₁ r₂
  obtain ⟨t, rfl⟩ := r₁
  obtain ⟨u, rfl⟩ := r₂
  exact Flt.mod_ff hh (fun z => by rw [hb] at z; cases z) fun _ => k _ _ (by simp only [Rep]; exact ⟨_, rfl⟩)
theorem cmp_feq {a b : UInt64} : Op2 g A (compareOp .Eq) (.flt a) (.flt b) (.bool (Float64.cmp a b == some Ordering.eq)) := fun F v₁ v₂ s Q E hs r₁ r₂ k => by
  simp only [Rep] at r₁ r₂
  obtain ⟨t, rfl⟩ := r₁
  obtain ⟨u, rfl⟩ := r₂
  exact AutoFloatOps.eq_0 (k _ _ (by simp only [Rep]))
end
section
variable {g : G} {A : Around} {fx : Fx} {ρ ρ₁ : List (Str × D)} {X X₁ X' : XS fx} {o : Out}
theorem Sq.ifT {t : Expr} {b els : List Stmt} {pos : Pos} {r : List Stmt} (h : EvB g A fx.env ρ X.toXP t true) (hb : Ex g A fx X X₁ (execs b fx.env) ρ (.next ρ₁)) (k : Ex g A fx X₁ X' (execs r fx.env) ρ₁ o) : Ex g A fx X X' (execs (.If t b els pos :: r) fx.env) ρ o :=
  Ex.cons (Ex.if h (fun _ => hb) fun z => nomatch z) k
theorem Sq.ifF {t : Expr} {b els : List Stmt} {pos : Pos} {r : List Stmt} (h : EvB g A fx.env ρ X.toXP t false) (hb : Ex g A fx X X₁ (execs els fx.env) ρ (.next ρ₁)) (k : Ex g A fx X₁ X' (execs r fx.env) ρ₁ o) : Ex g A fx X X' (execs (.If t b els pos :: r) fx.env) ρ o :=
  Ex.cons (Ex.if h (fun z => nomatch z) fun _ => hb) k
theorem Sq.ifR {t : Expr} {b els : List Stmt} {pos : Pos} {r : List Stmt} {d : D} (h : EvB g A fx.env ρ X.toXP t true) (hb : Ex g A fx X X' (execs b fx.env) ρ (.ret d)) : Ex g A fx X X' (execs (.If t b els pos :: r) fx.env) ρ (.ret d) :=
  Ex.last (Ex.if h (fun _ => hb) fun z => nomatch z)
theorem Sq.one {st : Stmt} {o : Out} (h : Ex g A fx X X' (execs (st :: []) fx.env) ρ o) : Ex g A fx X X' (execs [st] fx.env) ρ o := h
theorem Sq.end' : Ex g A fx X X (execs [] fx.env) ρ (.next ρ) := Ex.nil
end
end TL
end
section
namespace TL
open PySem PySem.W PyProof.Rows PySem.Calls PyProof.Rows.LCg
structure FunAt (g : G) (a : Addr) (name qual : Str) (params : Arguments) (body : List Stmt) (scope : Scope) (dV kV : Value) : Prop where
  ex : ∃ o doc pm an cdv ct, g.hb.get? a = some o ∧ o.data = .func (fnX name qual params body scope [] dV kV doc pm an cdv ct) ∧ g.hb.CodeRec cdv qual
noncomputable def CallX (g : G) (f : Value) (pos : List D) (kw : List (Str × D)) (n : Nat) (W : Addr → Prop) (Pre : PH → PH → Prop) (Post : PH → PH → Value → Prop) : Prop :=
  ∀ (A : Around) (F P : PH) (vs kvs : List Value), Cx A n → Sub g.hb.get? F → Sub F P → RepL F pos vs → RepL F (kw.map (·.2)) kvs → Pre F P →
    Tr g.prog g.w A (PySem.call f vs ((kw.map (·.1)).zip kvs)) P (fun P' v => ∃ F', Step W F P F' P' ∧ Post F' P' v)
noncomputable def BindX (g : G) (fd : FuncData) (ns : List Str) (pos : List D) (kw : List (Str × D)) (ds : List D) : Prop :=
  ∀ (A : Around) (F P : PH) (vs kvs : List Value), Sub g.hb.get? F → Sub F P → RepL F pos vs → RepL F (kw.map (·.2)) kvs →
    Tr g.prog g.w A (bindArgs fd ⟨vs, (kw.map (·.1)).zip kvs⟩) P (fun P' b => ∃ F' bs, b = ns.zip bs ∧ Ext F P F' P' ∧ RepL F' ds bs)
noncomputable def less (W : Addr → Prop) (P : PH) : PH := fun a => open Classical in if W a then none else P a
theorem less_in {W : Addr → Prop} {P : PH} {a : Addr} (h : W a) : less W P a = none := if_pos h
theorem less_off {W : Addr → Prop} {P : PH} {a : Addr} (h : ¬ W a) : less W P a = P a := if_neg h
theorem Ext.lessW {W : Addr → Prop} {F P F' P' : PH} (e : Ext F P F' P') : Ext F (less W P) F' P' :=
  ⟨e.f, fun a o q => by
    by_cases h : W a
    · rw [less_in h] at q; cases q
    · rw [less_off h] at q; exact e.p _ _ q, e.fp, fun a q => (e.new a q).imp id fun z => by
    by_cases h : W a
    · exact less_in h
    · rw [less_off h]; exact z⟩
theorem Ext.unless {W : Addr → Prop} {F P F' P' : PH} (e : Ext F (less W P) F' P') (hW : ∀ a, W a → F' a = none) : Step W F P F' P' :=
  ⟨e.f, fun a o q n => e.p a o (by rw [less_off n]; exact q), e.fp, fun a q => by
    have nW : ¬ W a := fun h => q (hW a h)
    rcases e.new a q with z | z
    · exact .inl z
    · rw [less_off nW] at z; exact .inr ⟨z, nW⟩⟩
theorem Step.ofExt {W : Addr → Prop} {F P F' P' : PH} (e : Ext F P F' P') (hW : ∀ a, W a → P a ≠ none) : Step W F P F' P' := e.step hW
noncomputable def CallC (g : G) (f : Value) (pos : List D) (kw : List (Str × D)) (n : Nat) (W : Addr → Prop) (Pre : PH → PH → Prop) (Post : PH → PH → Value → Prop) : Prop :=
  ∀ (A : Around) (F P : PH) (vs kvs : List Value), Cx A n → Sub g.hb.get? F → Sub F P → RepL F pos vs → RepL F (kw.map (·.2)) kvs → Pre F P → ∀ s : Shared, Has s.heap P →
    codeAny (model g.prog g.w) A (.call f ⟨vs, (kw.map (·.1)).zip kvs⟩) (fun r s' => ∃ v h tk P' F', r = .ok (.ret v) ∧ s' = { s with heap := h, toks := tk } ∧ Has h P' ∧ Step W F P F' P' ∧ Post F' P' v) s
theorem CallC.toX {g : G} {f : Value} {pos : List D} {kw : List (Str × D)} {n : Nat} {W : Addr → Prop} {Pre : PH → PH → Prop} {Post : PH → PH → Value → Prop} (c : CallC g f pos kw n W Pre Post) : CallX g f pos kw n W Pre Post := fun A F P vs kvs cx hbs hf hr hkr pre s hP =>
  wpAny_call (codeAny_mono (c A F P vs kvs cx hbs hf hr hkr pre s hP) fun r s' ⟨v, h, tk, P', F', e, hs, hP', st, post⟩ => by
    subst e
    exact ⟨h, tk, P', hs, hP', F', st, post⟩)
noncomputable def OutD : Out → D → Prop
  | .ret d', d => d' = d
  | .next _, d => d = .none
  | .brk _, _ => False
  | .any _, _ => False
theorem CallC.fn {g : G} {a : Addr} {name qual : Str} {params : Arguments} {body : List Stmt} {scope : Scope} {dV kV : Value} {ns : List Str} {pos ds : List D} {kw : List (Str × D)} {n : Nat} {W : Addr → Prop} {Pre : PH → PH → Prop} {Post : PH → PH → Value → Prop} {d : D} {out : Out}
    (ok : GOk g) (fn : FunAt g a name qual params body scope dV kV) (sc : FnSc scope ns) (hl : ds.length = ns.length)
    (hbind : ∀ doc pm an cdv ct, BindX g (fnX name qual params body scope [] dV kV doc pm an cdv ct) ns pos kw ds)
    (hPre : ∀ F P F' P', Pre F P → Ext F P F' P' → Pre F' P') (hW : ∀ F P, Pre F P → ∀ a, W a → P a ≠ none) (hW' : ∀ F P v, Post F P v → ∀ a, W a → F a = none) (hout : OutD out d)
    (h : ∀ (A : Around) (fx : Fx) (L : Addr) (cells : List (Str × Addr)) (cd : Value), Cx A n → fx.env = envX qual scope L a cd cells → (∀ a, W a → fx.P₀ a = none ∧ ¬ muts fx.env a) → (∃ F P, Pre F P ∧ fx.P₀ = less W P) →
      ∃ X X' : XS fx, (∀ F P, Pre F P → X.p F P) ∧ (∀ F P v, X'.p F P → Rep F d v → Post F P v) ∧ Ex g A fx X X' (execs body fx.env) (ns.zip ds) out) : CallC g (.ref a) pos kw (n + 1) W Pre Post := fun A F P vs kvs cx hbs hf hr hkr pre s hP => by
  obtain ⟨o, doc, pm, an, cdv, ct, ho, hd, hc⟩ := fn.ex
  have hk : ∀ b o, g.hb.get? b = some o → s.heap.get? b = some o := fun b o e => hP _ _ (hf _ _ (hbs _ _ e))
  refine codeAny_call_function (by have := cx.d; omega) (hk _ _ ho) hd sc.co sc.gen rfl (hc.keeps hk) ?_
  refine (hbind doc pm an cdv ct A.in1 F P vs kvs hbs hf hr hkr).out hP fun h₀ tk₀ P₀ b hP₀ ⟨F₀, bs, hb, e₀, hr₀⟩ => ?_
  subst hb
  have hbs₀ := hbs.trans e₀.f
  refine enter_ok (hb := g.hb) hbs₀ e₀.fp hP₀ hr₀ hl sc.kind sc.nd sc.nn sc.nf sc.loc fun L h₁ tk₁ P₁ cells hP₁ e₁ hL hnew V => ⟨ok.nolimit.keeps fun b o e => hP₁ _ _ (e₁.fp _ _ (e₁.f _ _ (hbs₀ _ _ e))), codeAny_func ?_⟩
  have e₀₁ := e₀.trans e₁
  have new0 : ∀ b, muts (envX qual scope L a cdv cells) b → P b = none := fun b hb => none_of e₀.p (hnew b hb)
  obtain ⟨X, X', hX, hX', B⟩ := h (A.deeper (envX qual scope L a cdv cells)) ⟨envX qual scope L a cdv cells, F, less W P, fun b hb => by
    by_cases w : W b
    · exact less_in w
    · rw [less_off w]; exact new0 b hb⟩ L cells cdv cx.deeper rfl (fun b w => ⟨less_in w, fun m => hW _ _ pre b w (new0 b m)⟩) ⟨F, P, pre, rfl⟩
  have pre₁ := hPre _ _ _ _ pre e₀₁
  refine (B.run F₀ P₁ e₀₁.lessW V V.m (hX _ _ pre₁)).out hP₁ fun h₂ tk₂ P₂ f hP₂ ⟨F₂, t₂, I₂, x₂, q⟩ => ?_
  have fin : ∃ v, Rep F₂ d v ∧ (f = .ret v ∨ (f = .next ∧ v = Value.none)) := by
    cases out with
    | ret d' =>
      obtain ⟨v, hf', r⟩ := q
      subst hf'
      have z : d' = d := hout
      subst z
      exact ⟨v, r, .inl rfl⟩
    | next ρ =>
      obtain ⟨hf', _⟩ := q
      subst hf'
      have z : d = .none := hout
      subst z
      exact ⟨.none, by simp only [Rep], .inr ⟨rfl, rfl⟩⟩
    | brk ρ => exact hout.elim
    | any Q => exact hout.elim
  obtain ⟨v, r, hv⟩ := fin
  have post := hX' _ _ v x₂ r
  rcases hv with rfl | ⟨rfl, rfl⟩
  · exact ⟨_, _, _, P₂, F₂, rfl, rfl, hP₂, I₂.unless (hW' _ _ _ post), post⟩
  · exact ⟨_, _, _, P₂, F₂, rfl, rfl, hP₂, I₂.unless (hW' _ _ _ post), post⟩
theorem CallX.fn {g : G} {a : Addr} {name qual : Str} {params : Arguments} {body : List Stmt} {scope : Scope} {dV kV : Value} {ns : List Str} {pos ds : List D} {kw : List (Str × D)} {n : Nat} {W : Addr → Prop} {Pre : PH → PH → Prop} {Post : PH → PH → Value → Prop} {d : D}
    (ok : GOk g) (fn : FunAt g a name qual params body scope dV kV) (sc : FnSc scope ns) (hl : ds.length = ns.length)
    (hbind : ∀ doc pm an cdv ct, BindX g (fnX name qual params body scope [] dV kV doc pm an cdv ct) ns pos kw ds)
    (hPre : ∀ F P F' P', Pre F P → Ext F P F' P' → Pre F' P') (hW : ∀ F P, Pre F P → ∀ a, W a → P a ≠ none) (hW' : ∀ F P v, Post F P v → ∀ a, W a → F a = none)
    (h : ∀ (A : Around) (fx : Fx) (L : Addr) (cells : List (Str × Addr)) (cd : Value), Cx A n → fx.env = envX qual scope L a cd cells → (∀ a, W a → fx.P₀ a = none ∧ ¬ muts fx.env a) → (∃ F P, Pre F P ∧ fx.P₀ = less W P) →
      ∃ X X' : XS fx, (∀ F P, Pre F P → X.p F P) ∧ (∀ F P v, X'.p F P → Rep F d v → Post F P v) ∧ Ex g A fx X X' (execs body fx.env) (ns.zip ds) (.ret d)) : CallX g (.ref a) pos kw (n + 1) W Pre Post :=
  (CallC.fn (d := d) (out := .ret d) ok fn sc hl hbind hPre hW hW' rfl h).toX
structure EvX (g : G) (A : Around) (env : Env) (ρ : List (Str × D)) (X : XP) (W : Addr → Prop) (e : Expr) (Post : PH → PH → Value → Prop) : Prop where
  run : ∀ F P, Vars g.hb env F P ρ → X.p F P → Tr g.prog g.w A (eval e env) P (fun P' v => ∃ F', Step W F P F' P' ∧ Post F' P' v)
section
variable {g : G} {A : Around} {fx : Fx} {ρ ρ₁ : List (Str × D)} {X X₁ X' : XS fx} {o : Out}
structure WOk (fx : Fx) (W : Addr → Prop) (P : PH) : Prop where
  st : ∀ a, W a → fx.P₀ a = none ∧ ¬ muts fx.env a
  ob : ∀ a o, W a → P a = some o → iterCls o = false ∧ ∀ v, o.data ≠ .cell v
theorem WOk.go {W : Addr → Prop} {F P F' P' : PH} (w : WOk fx W P) (s : Step W F P F' P') (I : Ext fx.F₀ fx.P₀ F P) (V : Vars g.hb fx.env F P ρ) : Soft F P F' P' ∧ Ext fx.F₀ fx.P₀ F' P' ∧ Vars g.hb fx.env F' P' ρ := by
  refine ⟨s.soft fun a o h e => (w.ob a o h e).1, inv_step I s fun a h => (w.st a h).1, V.step s (fun q => (w.st _ q).2 (.inl rfl)) fun x c o v hl he hd q => ?_⟩
  exact (w.ob c o q he).2 _ hd
theorem Sq.exprX {W : Addr → Prop} {Post : PH → PH → Value → Prop} {e : Expr} {pos : Pos} {r : List Stmt} (h : EvX g A fx.env ρ X.toXP W e Post) (hW : ∀ F P, X.p F P → WOk fx W P) (hX : ∀ F P F' P' v, X.p F P → Step W F P F' P' → Post F' P' v → X₁.p F' P')
    (k : Ex g A fx X₁ X' (execs r fx.env) ρ o) (hi : interactive fx.env = false) (hs : swapsWith e none pos.line fx.env = pure false) : Ex g A fx X X' (execs (.Expr e pos :: r) fx.env) ρ o := Ex.mk fun F P I V M x s hP => by
  refine wpAny_execs_cons (wpAny_Expr_any ((h.run F P V x).out hP fun h tk P₁ v hP₁ ⟨F₁, s₁, post⟩ => ?_) hi hs)
  obtain ⟨t₁, I₁, V₁⟩ := (hW _ _ x).go s₁ I V
  exact (k.run F₁ P₁ I₁ V₁ V₁.m (hX _ _ _ _ _ x s₁ post)).out hP₁ fun h tk P₂ f hP₂ ⟨F₂, t₂, I₂, x₂, q⟩ => ⟨_, _, P₂, rfl, hP₂, F₂, t₁.trans t₂, I₂, x₂, q⟩
theorem Sq.assignX {W : Addr → Prop} {Post : PH → PH → Value → Prop} (d : D) {x : Str} {xp pos : Pos} {e : Expr} {r : List Stmt} (h : EvX g A fx.env ρ X.toXP W e Post) (hW : ∀ F P, X.p F P → WOk fx W P) (hX : ∀ F P F' P' v, X.p F P → Step W F P F' P' → Post F' P' v → X₁.p F' P' ∧ Rep F' d v)
    (hx : AdrOk fx.env (muts fx.env) x) (hs : swapsWith e (some (.Name x xp)) pos.line fx.env = pure false) (k : Ex g A fx X₁ X' (execs r fx.env) ((x, d) :: ρ) o) : Ex g A fx X X' (execs (.Assign [.Name x xp] e pos :: r) fx.env) ρ o := Ex.mk fun F P I V M xx s hP => by
  refine wpAny_execs_cons (wpAny_Assign_Name ((h.run F P V xx).out hP fun h tk P₁ v hP₁ ⟨F₁, s₁, post⟩ => ?_) hs)
  obtain ⟨t₁, I₁, V₁⟩ := (hW _ _ xx).go s₁ I V
  obtain ⟨x₁, rv⟩ := hX _ _ _ _ _ xx s₁ post
  refine (Ex.store (X := X₁) I₁ V₁ V₁.m x₁ rv hx).out hP₁ fun h tk P₂ _ hP₂ ⟨t₂, I₂, x₂, V₂, M₂⟩ => ?_
  exact (k.run F₁ P₂ I₂ V₂ M₂ x₂).out hP₂ fun h tk P₃ f hP₃ ⟨F₃, t₃, I₃, x₃, q⟩ => ⟨_, _, P₃, rfl, hP₃, F₃, (t₁.trans t₂).trans t₃, I₃, x₃, q⟩
theorem Sq.retX {W : Addr → Prop} {Post : PH → PH → Value → Prop} {d : D} {e : Expr} {pos : Pos} {r : List Stmt} (h : EvX g A fx.env ρ X.toXP W e Post) (hW : ∀ F P, X.p F P → WOk fx W P) (hX : ∀ F P F' P' v, X.p F P → Step W F P F' P' → Post F' P' v → X'.p F' P' ∧ Rep F' d v) :
    Ex g A fx X X' (execs (.Return (some e) pos :: r) fx.env) ρ (.ret d) := Ex.mk fun F P I V M xx s hP => by
  refine wpAny_execs_cons (wpAny_Return_some ((h.run F P V xx).out hP fun h tk P₁ v hP₁ ⟨F₁, s₁, post⟩ => ?_))
  obtain ⟨t₁, I₁, V₁⟩ := (hW _ _ xx).go s₁ I V
  obtain ⟨x₁, rv⟩ := hX _ _ _ _ _ xx s₁ post
  exact ⟨_, _, P₁, rfl, hP₁, F₁, t₁, I₁, x₁, v, rfl, rv⟩
end
end TL
end
section
namespace TL
open PySem PySem.W PyProof.Rows PySem.Calls PyProof.Rows.LCg
noncomputable def OwnP (a : Addr) (ds : List D) (F P : PH) : Prop := ∃ xs n, P a = some (lstN xs n) ∧ RepL F ds xs ∧ F a = none
theorem OwnP.ext {a : Addr} {ds : List D} {F P F' P' : PH} (h : OwnP a ds F P) (e : Ext F P F' P') : OwnP a ds F' P' := by
  obtain ⟨xs, n, h1, h2, h3⟩ := h
  exact ⟨xs, n, e.p _ _ h1, h2.sub e.f, e.off h3 (by rw [h1]; exact fun z => nomatch z)⟩
theorem Own.toP {fx : Fx} {a : Addr} {ds : List D} {F P : PH} (h : Own fx a ds F P) : OwnP a ds F P := by
  obtain ⟨xs, n, h1, h2, h3, _⟩ := h
  exact ⟨xs, n, h1, h2, h3⟩
theorem OwnP.own {fx : Fx} {a : Addr} {ds : List D} {F P : PH} (h : OwnP a ds F P) (h4 : fx.P₀ a = none) (h5 : ¬ muts fx.env a) : Own fx a ds F P := by
  obtain ⟨xs, n, h1, h2, h3⟩ := h
  exact ⟨xs, n, h1, h2, h3, h4, h5⟩
theorem OwnP.some {a : Addr} {ds : List D} {F P : PH} (h : OwnP a ds F P) : P a ≠ none := by
  obtain ⟨xs, n, h1, _⟩ := h
  rw [h1]; exact fun z => nomatch z
theorem Own.wok {fx : Fx} {a : Addr} {ds : List D} {F P : PH} (h : Own fx a ds F P) : WOk fx (fun b => b = a) P := by
  obtain ⟨xs, n, h1, h2, h3, h4, h5⟩ := h
  exact ⟨fun b hb => by subst hb; exact ⟨h4, h5⟩, fun b o hb e => by
    subst hb; rw [h1] at e; cases e; exact ⟨rfl, fun v z => nomatch z⟩⟩
noncomputable def GetM (g : G) (X : XP) (dO : D) (name : Str) (f : Value) : Prop :=
  ∀ (A : Around) (pl : Sem Bool) (F P : PH) (ov : Value) (s : Shared) (Q : Value × List Value → Shared → Prop) (E : Value → Shared → Prop), Sub g.hb.get? F → Sub F P → X.p F P → Rep F dO ov → Has s.heap P → (∀ tk, Q (f, [ov]) { s with toks := tk }) → wpAny (model g.prog g.w) A (getMethod ov name pl) Q E s
noncomputable abbrev NoW : Addr → Prop := fun _ => False
theorem CallX.of {g : G} {f : Value} {pos : List D} {d : D} {n : Nat} (h : CallOk g f pos d n) : CallX g f pos [] n NoW (fun _ _ => True) (fun F _ v => Rep F d v) := fun A F P vs kvs cx hb hf hr hk _ s hP => by
  simp only [List.map_nil, RepL] at hk
  subst hk
  exact (h A F P vs cx hb hf hr).out hP fun h tk P' v hP' ⟨F', e, r⟩ => ⟨_, _, P', rfl, hP', F', e.step fun _ z => z.elim, r⟩
theorem Ev.ofX {g : G} {A : Around} {env : Env} {ρ : List (Str × D)} {X : XP} {e : Expr} {d : D} (h : EvX g A env ρ X NoW e (fun F _ v => Rep F d v)) : Ev g A env ρ X e d := Ev.mk fun F P V x =>
  (h.run F P V x).mono fun P' v ⟨F', s, r⟩ => ⟨F', s.ext fun _ z => z.elim, r⟩
theorem append_ok {g : G} {a : Addr} {ds : List D} {d : D} {n : Nat} (hl : ds.length ≤ 4096) : CallX g (.builtin "list.append") [.raw (.ref a), d] [] n (fun b => b = a) (OwnP a ds) (fun F P v => OwnP a (ds ++ [d]) F P ∧ v = .none) := fun A F P vs kvs cx hb hf hr hk pre s hP => by
  simp only [List.map_nil, RepL] at hk
  subst hk
  obtain ⟨v, w, rfl, r1, r2⟩ := RepL.two hr
  simp only [Rep] at r1
  subst r1
  obtain ⟨xs, k, h1, h2, h3⟩ := pre
  have hlen := h2.length
  refine append_at (n := k) (its := xs.toArray) (hsz := ?_) (hP _ _ h1) fun h' hs' hD' => ?_
  rotate_left 1
  · rw [List.size_toArray, hlen]
    exact Nat.le_trans hl (by decide)
  · have hD'' : h'.get? a = some (lstN (xs ++ [w]) (k + 1)) := hD'.trans (congrArg Option.some (by unfold lstN; rw [List.push_toArray]))
    have sB : Step (fun b => b = a) F P F (upd P a (lstN (xs ++ [w]) (k + 1))) := .upd hf h3 rfl
    exact ⟨h', s.toks, _, rfl, hP.same hs' hD'', F, sB, ⟨_, _, upd_self .., h2.snoc r2, h3⟩, rfl⟩
noncomputable def EvKw (g : G) (A : Around) (env : Env) (ρ : List (Str × D)) (X : XP) (pos : Pos) (kws : List Keyword) (kw : List (Str × D)) : Prop :=
  (backToKw pos (keywordEach kws env)).filterMap (·.1) = kw.map (·.1) ∧ (backToKw pos (keywordEach kws env)).all (·.1.isSome) = true ∧
  ∀ F P, Vars g.hb env F P ρ → X.p F P → Tr g.prog g.w A (evalAll ((backToKw pos (keywordEach kws env)).map (·.2))) P (fun P' ks => ∃ F', Ext F P F' P' ∧ RepL F' (kw.map (·.2)) ks)
section
variable {g : G} {A : Around} {env : Env} {ρ : List (Str × D)} {X : XP}
theorem EvX.meth {o : Expr} {name : Str} {apos pos : Pos} {e : Expr} {args : List Expr} {pl : Sem Bool} {dO : D} {f : Value} {ds : List D} {n : Nat} {W : Addr → Prop} {Pre : PH → PH → Prop} {Post : PH → PH → Value → Prop}
    (cx : Cx A n) (hv : Ev g A env ρ X o dO) (gm : GetM g X dO name f) (hk : Keep g f) (ha : EvL g A env ρ X pos (e :: args) ds) (hc : CallX g f (dO :: ds) [] n W Pre Post) (hX : ∀ F P, X.p F P → Pre F P) (hW : ∀ F P, Pre F P → ∀ a, W a → P a ≠ none)
    (he : eval (.Call (.Attribute o name apos) (e :: args) [] pos) env = (do
      let ov ← eval o env
      standAt apos.atName
      let (f, first) ← holding [ov] (getMethod ov name pl)
      callWith pos f first (backTo pos (starEach (e :: args) env)) []))
    (hst : starEach (e :: args) env = (false, eval e env) :: starEach args env := by rfl) (hst' : (backTo pos (starEach args env)).any (·.1) = false := by rfl) : EvX g A env ρ X W (.Call (.Attribute o name apos) (e :: args) [] pos) Post := EvX.mk fun F P V x s hs => by
  refine MethodCall_ (pl := pl) ((hv.run F P V x).out hs fun h₁ tk₁ P₁ ov hP₁ ⟨F₁, e₁, r₁⟩ => ?_) he
  have V₁ := V.ext e₁
  have x₁ := X.st _ _ _ _ x e₁
  refine gm A pl F₁ P₁ ov _ _ _ V₁.base V₁.fp x₁ r₁ hP₁ fun tk₂ => ?_
  have key := ha.run F₁ P₁ V₁ x₁
  rw [hst] at key ⊢
  refine callWith_of (P := fun h => ∀ b o, g.hb.get? b = some o → h.get? b = some o) (by show ((false || (backTo pos (starEach args env)).any (·.1)) || false) = false; rw [hst']; rfl) hk (evalArgs_plain ?_)
  refine key.out (s := { heap := h₁, gens := s.gens, drawn := s.drawn, toks := tk₂, os := s.os }) hP₁ fun h₂ tk₂ P₂ vs hP₂ ⟨F₂, e₂, r₂⟩ => ?_
  have V₂ := V₁.ext e₂
  refine ⟨fun b o e => hP₂ _ _ (V₂.fp _ _ (V₂.base _ _ e)), ?_⟩
  refine (hc A F₂ P₂ (ov :: vs) [] cx V₂.base V₂.fp (.cons (r₁.sub e₂.f) r₂) .nil (hX _ _ (X.st _ _ _ _ x₁ e₂))).out hP₂ fun h₃ tk₃ P₃ v hP₃ ⟨F₃, s₃, post⟩ => ?_
  exact ⟨_, _, P₃, rfl, hP₃, F₃, ((e₁.trans e₂).step (hW _ _ (hX _ _ x))).trans s₃, post⟩
theorem EvX.meth0 {o : Expr} {name : Str} {apos pos : Pos} {pl : Sem Bool} {dO : D} {f : Value} {n : Nat} {W : Addr → Prop} {Pre : PH → PH → Prop} {Post : PH → PH → Value → Prop}
    (cx : Cx A n) (hv : Ev g A env ρ X o dO) (gm : GetM g X dO name f) (hk : Keep g f) (hc : CallX g f [dO] [] n W Pre Post) (hX : ∀ F P, X.p F P → Pre F P) (hW : ∀ F P, Pre F P → ∀ a, W a → P a ≠ none)
    (he : eval (.Call (.Attribute o name apos) [] [] pos) env = (do
      let ov ← eval o env
      standAt apos.atName
      let (f, first) ← holding [ov] (getMethod ov name pl)
      callWith pos f first (backTo pos (starEach [] env)) [])) : EvX g A env ρ X W (.Call (.Attribute o name apos) [] [] pos) Post := EvX.mk fun F P V x s hs => by
  refine MethodCall_ (pl := pl) ((hv.run F P V x).out hs fun h₁ tk₁ P₁ ov hP₁ ⟨F₁, e₁, r₁⟩ => ?_) he
  have V₁ := V.ext e₁
  have x₁ := X.st _ _ _ _ x e₁
  refine gm A pl F₁ P₁ ov _ _ _ V₁.base V₁.fp x₁ r₁ hP₁ fun tk₂ => ?_
  refine callWith_of (P := fun h => ∀ b o, g.hb.get? b = some o → h.get? b = some o) rfl hk (evalArgs_nil3 ?_)
  refine ⟨fun b o e => hP₁ _ _ (V₁.fp _ _ (V₁.base _ _ e)), ?_⟩
  refine (hc A F₁ P₁ [ov] [] cx V₁.base V₁.fp (.cons r₁ .nil) .nil (hX _ _ x₁)).out (s := { heap := h₁, gens := s.gens, drawn := s.drawn, toks := tk₂, os := s.os }) hP₁ fun h₃ tk₃ P₃ v hP₃ ⟨F₃, s₃, post⟩ => ?_
  exact ⟨_, _, P₃, rfl, hP₃, F₃, (e₁.step (hW _ _ (hX _ _ x))).trans s₃, post⟩
theorem EvX.methK {o : Expr} {name : Str} {apos pos : Pos} {e : Expr} {args : List Expr} {kws : List Keyword} {kw : List (Str × D)} {pl : Sem Bool} {dO : D} {f : Value} {ds : List D} {n : Nat} {W : Addr → Prop} {Pre : PH → PH → Prop} {Post : PH → PH → Value → Prop}
    (cx : Cx A n) (hv : Ev g A env ρ X o dO) (gm : GetM g X dO name f) (hk : Keep g f) (ha : EvL g A env ρ X pos (e :: args) ds) (hkw : EvKw g A env ρ X pos kws kw) (hc : CallX g f (dO :: ds) kw n W Pre Post) (hX : ∀ F P, X.p F P → Pre F P) (hW : ∀ F P, Pre F P → ∀ a, W a → P a ≠ none)
    (he : eval (.Call (.Attribute o name apos) (e :: args) kws pos) env = (do
      let ov ← eval o env
      standAt apos.atName
      let (f, first) ← holding [ov] (getMethod ov name pl)
      callWith pos f first (backTo pos (starEach (e :: args) env)) (backToKw pos (keywordEach kws env))))
    (hplain : ((backTo pos (starEach (e :: args) env)).any (·.1) || (backToKw pos (keywordEach kws env)).any (·.1.isNone)) = false := by rfl)
    (hst : starEach (e :: args) env = (false, eval e env) :: starEach args env := by rfl) : EvX g A env ρ X W (.Call (.Attribute o name apos) (e :: args) kws pos) Post := EvX.mk fun F P V x s hs => by
  obtain ⟨k1, k2, k3⟩ := hkw
  refine methodCall_KW (pl := pl) ((hv.run F P V x).out hs fun h₁ tk₁ P₁ ov hP₁ ⟨F₁, e₁, r₁⟩ => ?_) he
  have V₁ := V.ext e₁
  have x₁ := X.st _ _ _ _ x e₁
  refine gm A pl F₁ P₁ ov _ _ _ V₁.base V₁.fp x₁ r₁ hP₁ fun tk₂ => ?_
  refine callWith_of (P := fun h => ∀ b o, g.hb.get? b = some o → h.get? b = some o) hplain hk (evalArgs_kw2 k2 ?_ hst)
  refine (ha.run F₁ P₁ V₁ x₁).out (s := { heap := h₁, gens := s.gens, drawn := s.drawn, toks := tk₂, os := s.os }) hP₁ fun h₂ tk₂ P₂ vs hP₂ ⟨F₂, e₂, r₂⟩ => ?_
  have V₂ := V₁.ext e₂
  have x₂ := X.st _ _ _ _ x₁ e₂
  refine (k3 F₂ P₂ V₂ x₂).out hP₂ fun h₃ tk₃ P₃ ks hP₃ ⟨F₃, e₃, r₃⟩ => ?_
  have V₃ := V₂.ext e₃
  refine ⟨fun b o e => hP₃ _ _ (V₃.fp _ _ (V₃.base _ _ e)), ?_⟩
  rw [k1]
  refine (hc A F₃ P₃ (ov :: vs) ks cx V₃.base V₃.fp (.cons (r₁.sub (e₂.trans e₃).f) (r₂.sub e₃.f)) r₃ (hX _ _ (X.st _ _ _ _ x₂ e₃))).out hP₃ fun h₄ tk₄ P₄ v hP₄ ⟨F₄, s₄, post⟩ => ?_
  exact ⟨_, _, P₄, rfl, hP₄, F₄, (((e₁.trans e₂).trans e₃).step (hW _ _ (hX _ _ x))).trans s₄, post⟩
theorem EvX.call {fn e : Expr} {args : List Expr} {pos : Pos} {f : Value} {ds : List D} {n : Nat} {W : Addr → Prop} {Pre : PH → PH → Prop} {Post : PH → PH → Value → Prop} (cx : Cx A n) (hf : Ev g A env ρ X fn (.raw f)) (hk : Keep g f) (ha : EvL g A env ρ X pos (e :: args) ds) (hc : CallX g f ds [] n W Pre Post) (hX : ∀ F P, X.p F P → Pre F P) (hW : ∀ F P, Pre F P → ∀ a, W a → P a ≠ none)
    (he : eval (.Call fn (e :: args) [] pos) env = (eval fn env >>= fun f => callWith pos f [] (backTo pos (starEach (e :: args) env)) []) := by rfl)
    (hst : starEach (e :: args) env = (false, eval e env) :: starEach args env := by rfl) (hst' : (backTo pos (starEach args env)).any (·.1) = false := by rfl) : EvX g A env ρ X W (.Call fn (e :: args) [] pos) Post := EvX.mk fun F P V x s hs => by
  rw [he]
  refine wpAny_bind ((hf.run F P V x).out hs fun h₁ tk₁ P₁ v hP₁ ⟨F₁, e₁, r₁⟩ => ?_)
  simp only [Rep] at r₁
  subst r₁
  have V₁ := V.ext e₁
  have x₁ := X.st _ _ _ _ x e₁
  have key := ha.run F₁ P₁ V₁ x₁
  rw [hst] at key ⊢
  refine callWith_of (P := fun h => ∀ b o, g.hb.get? b = some o → h.get? b = some o) (by show ((false || (backTo pos (starEach args env)).any (·.1)) || false) = false; rw [hst']; rfl) hk (evalArgs_plain ?_)
  refine key.out hP₁ fun h₂ tk₂ P₂ vs hP₂ ⟨F₂, e₂, r₂⟩ => ?_
  have V₂ := V₁.ext e₂
  refine ⟨fun b o e => hP₂ _ _ (V₂.fp _ _ (V₂.base _ _ e)), (hc A F₂ P₂ vs [] cx V₂.base V₂.fp r₂ .nil (hX _ _ (X.st _ _ _ _ x₁ e₂))).out hP₂ fun h₃ tk₃ P₃ v hP₃ ⟨F₃, s₃, post⟩ => ?_⟩
  exact ⟨_, _, P₃, rfl, hP₃, F₃, ((e₁.trans e₂).step (hW _ _ (hX _ _ x))).trans s₃, post⟩
end
end TL
end
section
namespace TL
open PySem PySem.W PyProof.Rows PySem.Calls PyProof.Rows.LCg
theorem lookIn_ns {o : Obj} {m : Str → Option Value} (h : NsObj o m) (name : Str) : lookIn name o = some (m name) := by
  obtain ⟨es, ep, hd, hk, hm⟩ := h
  unfold lookIn
  rw [hd]
  dsimp only
  have e := hm name
  unfold nsFind findBy at e
  rw [← Array.find?_toList] at e
  have hr : es.toList.any (·.refKey) = false := by
    rw [List.any_eq_false]
    intro en hen
    obtain ⟨n, t, hk'⟩ := hk en (by simpa using hen)
    simp [DictEntry.refKey, hk']
  cases q : es.toList.find? (·.key.isStr name) with
  | none => rw [q] at e; rw [← e]; dsimp only; rw [if_neg (by rw [hr]; decide)]; rfl
  | some en => rw [q] at e; rw [← e]; rfl
noncomputable def Inst (C x : Addr) (m : Str → Option Value) (F : PH) : Prop := ∃ dx oD, F x = some (instObj C dx) ∧ F dx = some oD ∧ NsObj oD m
theorem Inst.sub {C x : Addr} {m : Str → Option Value} {F F' : PH} (h : Inst C x m F) (k : Sub F F') : Inst C x m F' := by
  obtain ⟨dx, oD, h1, h2, h3⟩ := h
  exact ⟨dx, oD, k _ _ h1, k _ _ h2, h3⟩
theorem Inst.at' {C x : Addr} {m : Str → Option Value} {F : PH} {h : Heap} (i : Inst C x m F) (hF : Has h F) : ∃ dx oD, InstAt h x (instObj C dx) C (some oD) ∧ NsObj oD m := by
  obtain ⟨dx, oD, h1, h2, h3⟩ := i
  exact ⟨dx, oD, ⟨hF _ _ h1, rfl, rfl, hF _ _ h2⟩, h3⟩
section
variable {g : G} {A : Around} {env : Env} {ρ : List (Str × D)} {X : XP} {K : Frag}
theorem Ev.attr {value : Expr} {name : Str} {pos : Pos} {C x : Addr} {m : Str → Option Value} {v : Value} {attr : Option Value} (KX : K.In g.hb) (hv : Ev g A env ρ X value (.raw (.ref x))) (hi : ∀ F P, X.p F P → Inst C x m F) (hm : m name = some v)
    (hg : plainGet K C name = true) (hh : hasDictIn K C = true) (ha : findIn K (.ref C) name = some attr) (hn : noGet K attr = true) (hv' : handedIn v = true)
    (he : eval (.Attribute value name pos) env = (do
      let o ← eval value env
      standAt pos.atName
      let r ← holding [o] (getAttr o name true)
      letTemporaryGo value o r
      pure r) := by with_unfolding_all rfl) : Ev g A env ρ X (.Attribute value name pos) (.raw v) := Ev.mk fun F P V xx s hP => by
  refine Attribute_any_ ((hv.run F P V xx).out hP fun h tk P₁ o hP₁ ⟨F₁, e₁, r₁⟩ => ?_) he
  simp only [Rep] at r₁
  subst r₁
  obtain ⟨dx, oD, I, N⟩ := (hi F₁ P₁ (X.st _ _ _ _ xx e₁)).at' (hP₁.sub e₁.fp)
  refine get_value (KX.keeps fun b o e => hP₁ _ _ (e₁.fp _ _ (e₁.f _ _ (V.base _ _ e)))) I (plainGet_of hg).1 (findObj_own hh ha hn ?_) hv' ⟨_, _, P₁, rfl, hP₁, F₁, e₁, by simp only [Rep]⟩
  rw [lookIn_ns N, hm]
theorem gm_meth {C x f : Addr} {m : Str → Option Value} {name : Str} (KX : K.In g.hb) (hi : ∀ F P, X.p F P → Inst C x m F) (hm : m name = Option.none) (hg : plainGet K C name = true) (hf : findIn K (.ref C) name = some (some (.ref f))) (ht : isFn K (.ref f) = true) : GetM g X (.raw (.ref x)) name (.ref f) :=
  fun A pl F P ov s Q E hb hf' xx r hP q => by
  simp only [Rep] at r
  subst r
  obtain ⟨dx, oD, I, N⟩ := (hi F P xx).at' (hP.sub hf')
  refine method_fn (KX.keeps fun b o e => hP _ _ (hf' _ _ (hb _ _ e))) I (plainGet_of hg).1 (plainGet_of hg).2 hf (beq_iff_eq.mp ht) ?_ (q s.toks)
  show (lookIn name oD).map _ = _
  rw [lookIn_ns N, hm]; rfl
theorem gm_str {x : Str} {name : Str} {id : String} (h : ∀ (A : Around) (pl : Sem Bool) (t : Tok) (s : Shared) (Q : Value × List Value → Shared → Prop) (E : Value → Shared → Prop), Q (.builtin id, [.str x t]) s → wpAny (model g.prog g.w) A (getMethod (.str x t) name pl) Q E s) : GetM g X (.str x) name (.builtin id) :=
  fun A pl F P ov s Q E hb hf xx r hP q => by
  simp only [Rep] at r
  obtain ⟨t, rfl⟩ := r
  exact h A pl t s Q E (q s.toks)
theorem gm_list {name : Str} {id : String} {h : Heap} {a : Addr} {xs : List Value} {n : Nat} {pl : Sem Bool} {Q : Value × List Value → Shared → Prop} {E : Value → Shared → Prop} {s : Shared} (slot : Slot "list" name id) (hty : typeOf (.builtin id) = pure (.type "method_descriptor")) (e : s.heap.get? a = some (lstN xs n)) (q : Q (.builtin id, [.ref a]) s) :
    wpAny (model g.prog g.w) A (getMethod (.ref a) name pl) Q E s :=
  getMethod_builtin ⟨_, e, rfl⟩ PySem.F.plainAttrs_list slot hty (fun b hb => by cases hb; exact ⟨_, e, rfl⟩) q
theorem gm_own {name : Str} {id : String} {a : Addr} (slot : Slot "list" name id) (hty : typeOf (.builtin id) = pure (.type "method_descriptor")) (hX : ∀ F P, X.p F P → ∃ xs n, P a = some (lstN xs n)) : GetM g X (.raw (.ref a)) name (.builtin id) :=
  fun A pl F P ov s Q E hb hf xx r hP q => by
  simp only [Rep] at r
  subst r
  obtain ⟨xs, n, h1⟩ := hX F P xx
  exact gm_list (h := s.heap) slot hty (hP _ _ h1) (q s.toks)
theorem gm_lst {name : Str} {id : String} {ds : List D} (slot : Slot "list" name id) (hty : typeOf (.builtin id) = pure (.type "method_descriptor")) : GetM g X (.lst ds) name (.builtin id) :=
  fun A pl F P ov s Q E hb hf xx r hP q => by
  simp only [Rep] at r
  obtain ⟨a, o, vs, n, rfl, hF, hc, hd, hl⟩ := r
  have e : s.heap.get? a = some (lstN vs.toList n) := by rw [hP _ _ (hf _ _ hF), obj_of hc hd]; simp [lstN]
  exact gm_list (h := s.heap) slot hty e (q s.toks)
end
end TL
end
section
namespace TL
open PySem PySem.W PyProof.Rows PySem.Calls PyProof.Rows.LCg PySem.Builtin.Re
theorem slot_search : Slot "re.Pattern" "search" "re.Pattern.search" :=
  Slot.of (owner := "re.Pattern") (n := "search") (by rw [typeLookup_type, builtinLookup_eq_fast]; kernel_rfl) (by decide +kernel) (by decide +kernel) (by decide +kernel)
    (.inr (by decide +kernel)) (by rw [isSubtype_type]; kernel_rfl)
theorem entry_search : entryFor table "re.Pattern.search" = some Builtin.«re.Pattern.search» := entryFor_of_tree (by kernel_rfl)
theorem args_search (a b : Value) : argsOk "re.Pattern.search" ⟨[a, b], []⟩ := by unfold argsOk; kernel_rfl
theorem plain_pattern : PlainAttrs "re.Pattern" where
  ga := ⟨"object.__getattribute__", by rw [typeLookup_type, builtinLookup_eq_fast]; kernel_rfl, by decide +kernel⟩
  noGetattr := by rw [typeLookup_type, builtinLookup_eq_fast]; kernel_rfl
theorem type_search : typeOf (.builtin "re.Pattern.search") = pure (.type "method_descriptor") := by
  show builtinType "re.Pattern.search" = _
  rw [builtinType_eq_fast]; kernel_rfl
noncomputable def drv : Nat → Sre.M → Option Sre.M
  | 0, _ => none
  | k + 1, m => if (m.runFor reTurnSteps).outcome.isSome then some (m.runFor reTurnSteps) else drv k (m.runFor reTurnSteps)
section
variable {M : Model} {A : Around} {E : Value → Shared → Prop} {s : Shared}
theorem drive_ok {Q : Sre.M → Shared → Prop} : ∀ {k n : Nat} {m m' : Sre.M}, drv k m = some m' → k ≤ n → Q m' s → wpAny M A (reDrive n m) Q E s
  | 0, _, _, _, h, _, _ => by cases h
  | k + 1, 0, _, _, _, h, _ => by omega
  | k + 1, n + 1, m, m', h, hn, q => by
    show wpAny M A (if (m.runFor reTurnSteps).outcome.isSome then pure (m.runFor reTurnSteps) else do rule "sre.turn"; reDrive n (m.runFor reTurnSteps)) Q E s
    unfold drv at h
    split at h
    · rename_i c
      cases h
      rw [if_pos c]
      exact wpAny_pure q
    · rename_i c
      rw [if_neg c]
      exact wpAny_bind (wpAny_rule (drive_ok h (by omega) q))
theorem forRules {l : List Nat} {c : Nat → Bool} {tag : Nat → String} {Q : PUnit → Shared → Prop} (q : Q ⟨⟩ s) : wpAny M A (forIn l PUnit.unit fun i _ => if c i = true then do rule (tag i); pure (ForInStep.yield PUnit.unit) else pure (ForInStep.yield PUnit.unit)) Q E s := by
  induction l with
  | nil => exact wpAny_pure q
  | cons a r ih =>
    rw [List.forIn_cons]
    refine wpAny_bind ?_
    split
    · exact wpAny_bind (wpAny_rule (wpAny_pure ih))
    · exact wpAny_pure ih
theorem run_fails {m m' : Sre.M} {k : Nat} {Q : Option Sre.M → Shared → Prop} (h : drv k m = some m') (hk : k ≤ 2 ^ 64) (ho : m'.outcome = some .failed) (q : Q none s) : wpAny M A (reRunToEnd m) Q E s := by
  unfold reRunToEnd
  refine wpAny_bind (drive_ok h hk (wpAny_bind (forRules ?_)))
  rw [ho]
  exact wpAny_pure q
end
noncomputable def patObj (p : Str) (t0 t1 t2 t3 : Tok) (c : Addr) : Obj := { cls := .type "re.Pattern", data := .fields #[.str p t0, .int 32 t1, .int 0 t2, .none, .none, .ref c, .int 0 t3] }
noncomputable def misses (code : List Nat) (x : Str) : Bool := match drv 4096 (Sre.forSearch code.toArray x.cps 0 0 x.cps.size false) with
  | some m => (match m.outcome with | some .failed => true | _ => false)
  | none => false
theorem search_miss {prog : Program} {w : World} {A : Around} {E : Value → Shared → Prop} {s : Shared} {p c : Addr} {pt : Str} {t0 t1 t2 t3 t : Tok} {oc : Obj} {vs : Array Value} {n : Nat} {code : List Nat} {x : Str} {Q : Value → Shared → Prop}
    (hp : s.heap.get? p = some (patObj pt t0 t1 t2 t3 c)) (hc : s.heap.get? c = some oc) (hd : oc.data = .seq vs n) (hv : (vs.map reRawOf).map (·.toNat) = code.toArray) (hx : x.cps.size < 2 ^ 62) (hm : misses code x = true) (q : Q .none s) :
    wpAny (model prog w) A (call (.builtin "re.Pattern.search") [.ref p, .str x t]) Q E s := by
  refine wpAny_call_entry slot_search ⟨_, hp, rfl⟩ entry_search ?_ (args_search _ _)
  unfold Builtin.«re.Pattern.search»
  refine wpAny_bind ?_
  unfold reTarget
  dsimp only
  have e1 : reNamed "re.Pattern.search" "search" ["string", "pos", "endpos"] 1 [Value.str x t] [] = pure [some (Value.str x t), none, none] := by kernel_rfl
  rw [e1]
  refine wpAny_bind (wpAny_pure ?_)
  dsimp only
  refine wpAny_bind (wpAny_pure (wpAny_bind (wpAny_pure (wpAny_bind (wpAny_fieldsOf hp rfl (wpAny_bind ?_))))))
  have e2 : reTextOf (Value.str x t) = pure (x.cps, 0) := rfl
  have e3 : reNoCollectionInside (Value.str x t) 0 = pure () := rfl
  rw [e2]
  refine wpAny_pure ?_
  rw [if_neg (by intro z; cases z), if_neg (by intro z; cases z)]
  dsimp only
  rw [e3]
  refine wpAny_bind (wpAny_pure (wpAny_bind ?_))
  show wpAny _ _ (reRawItems (.ref c)) _ _ _
  unfold reRawItems
  refine wpAny_bind (wpAny_seqItems hc hd (wpAny_pure (wpAny_pure ?_)))
  unfold reAnswer
  refine wpAny_bind ?_
  have l1 : min (Int.toNat 0) x.cps.size = 0 := by simp
  have l2 : min ((2 : Int) ^ 63 - 1).toNat x.cps.size = x.cps.size := by
    have : ((2 : Int) ^ 63 - 1).toNat = 9223372036854775807 := by decide
    omega
  dsimp only
  rw [Option.getD_some, hv, l1, l2, show reRawNat (#[Value.str pt t0, Value.int 32 t1, Value.int 0 t2, Value.none, Value.none, Value.ref c, Value.int 0 t3].getD 2 Value.none) = 0 from rfl]
  unfold misses at hm
  split at hm
  · rename_i m' hm'
    split at hm
    · rename_i ho
      exact run_fails hm' (by decide) ho (wpAny_pure ⟨_, rfl, q⟩)
    · cases hm
  · cases hm
noncomputable def nameCode : List Nat := [14, 10, 4, 1, 1, 22, 0, 31, 16, 127, 0, 13, 7, 22, 0, 31, 16, 127, 0, 1]
noncomputable def valueCode : List Nat := [14, 14, 4, 1, 1, 9, 4294966783, 0, 0, 2147483648, 0, 0, 0, 0, 0, 13, 11, 9, 4294966783, 0, 0, 2147483648, 0, 0, 0, 0, 0, 1]
noncomputable def letters : List Str := ["a", "b", "c", "d", "A", "B", "C", "D"]
theorem name_misses : ∀ x ∈ letters, misses nameCode x = true := by decide +kernel
theorem value_misses : ∀ x ∈ letters, misses valueCode x = true := by decide +kernel
end TL
end
section
namespace TL
open PySem PySem.W PyProof.Rows PySem.Calls PyProof.Rows.LCg PySem.Builtin.Re
noncomputable def clsBody : Stmt → List Stmt | .ClassDef _ _ _ b .. => b | _ => []
noncomputable def methSt (c i : Nat) : Stmt := ((clsBody (topStmt c))[i]?).getD (.Pass default)
noncomputable def MethAt (g : G) (c i : Nat) (qual : Str) (dV : Value) (a : Addr) : Prop := FunAt g a (nameOf (methSt c i)) qual (paramsOf (methSt c i)) (bodyOf (methSt c i)) (scopeOf (methSt c i)) dV .none
section
variable {g : G} {A : Around} {env : Env} {ρ : List (Str × D)} {X : XP}
theorem op_is {v : Value} (hp : plainIs v v = true) : Op2 g A (compareOp .Is) (.raw v) (.raw v) (.bool true) := fun F v₁ v₂ s Q E hs r₁ r₂ k => by
  simp only [Rep] at r₁ r₂
  subst r₁ r₂
  exact wpAny_is_self hp (k _ s.toks (by simp only [Rep]))
theorem op_isnot {v : Value} (hp : plainIs v v = true) : Op2 g A (compareOp .IsNot) (.raw v) (.raw v) (.bool false) := fun F v₁ v₂ s Q E hs r₁ r₂ k => by
  simp only [Rep] at r₁ r₂
  subst r₁ r₂
  exact wpAny_isNot_self hp (k _ s.toks (by simp only [Rep]))
theorem op_isnot_none {d : D} (h : ∀ F v, Rep F d v → v ≠ .none) : Op2 g A (compareOp .IsNot) d .none (.bool true) := fun F v₁ v₂ s Q E hs r₁ r₂ k => by
  simp only [Rep] at r₂
  subst r₂
  exact isnot_none_ne (h F v₁ r₁) (k _ s.toks (by simp only [Rep]))
theorem op_isnot_none' : Op2 g A (compareOp .IsNot) .none .none (.bool false) := fun F v₁ v₂ s Q E hs r₁ r₂ k => by
  simp only [Rep] at r₁ r₂
  subst r₁ r₂
  exact isnot_none_none (k _ s.toks (by simp only [Rep]))
theorem type_str {x : Str} {n : Nat} : CallOk g (.type "type") [.str x] (.raw (.type "str")) n := fun A F P vs cx hb hf hr s hP => by
  obtain ⟨v, rfl, r⟩ := RepL.one hr
  simp only [Rep] at r
  obtain ⟨t, rfl⟩ := r
  exact call_type_of (typeIs_str _ _ _) rfl ⟨_, s.toks, P, rfl, hP, F, .refl hf, by simp only [Rep]⟩
theorem type_own {a : Addr} {ds : List D} {n : Nat} : CallX g (.type "type") [.raw (.ref a)] [] n NoW (OwnP a ds) (fun F P v => Rep F (.raw (.type "list")) v) := fun A F P vs kvs cx hb hf hr hk pre s hP => by
  simp only [List.map_nil, RepL] at hk
  subst hk
  obtain ⟨v, rfl, r⟩ := RepL.one hr
  simp only [Rep] at r
  subst r
  obtain ⟨xs, k, h1, _⟩ := pre
  exact call_type_of ⟨_, hP _ _ h1, rfl⟩ rfl ⟨_, s.toks, P, rfl, hP, F, .refl hf, by simp only [Rep]⟩
theorem EvB.noneV {e : Expr} (h : Ev g A env ρ X e .none) (he : isTrue e env (eval e env) = (do let v ← eval e env; standAt e.pos; holding [v] (truthy v)) := by rfl) : EvB g A env ρ X e false := EvB.mk fun F P V x s hs => by
  refine wpAny_isTrue_value ((h.run F P V x).out hs fun h tk P₁ v₁ hP₁ ⟨F₁, e₁, r₁⟩ => ?_) he
  simp only [Rep] at r₁
  subst r₁
  exact truthy_none ⟨_, tk, P₁, rfl, hP₁, F₁, e₁, rfl⟩
theorem EvKw.one {pos p : Pos} {name : Str} {value : Expr} {d : D} (h : Ev g A env ρ X value d) (h1 : (backToKw pos (keywordEach [⟨some name, value, p⟩] env)).filterMap (·.1) = [name]) (h2 : (backToKw pos (keywordEach [⟨some name, value, p⟩] env)).all (·.1.isSome) = true) : EvKw g A env ρ X pos [⟨some name, value, p⟩] [(name, d)] :=
  ⟨h1, h2, fun F P V x s hs => kwAll_cons ((h.run F P V x).out hs fun h tk P₁ v hP₁ ⟨F₁, e₁, r⟩ => kwAll_nil ⟨_, _, P₁, rfl, hP₁, F₁, e₁, .cons r .nil⟩)⟩
noncomputable def PatAt (g : G) (p : Addr) (code : List Nat) : Prop := ∃ pt t0 t1 t2 t3 c oc vs n, g.hb.get? p = some (patObj pt t0 t1 t2 t3 c) ∧ g.hb.get? c = some oc ∧ oc.data = .seq vs n ∧ (vs.map reRawOf).map (·.toNat) = code.toArray
theorem search_ok {p : Addr} {code : List Nat} {x : Str} {n : Nat} (h : PatAt g p code) (hx : x.cps.size < 2 ^ 62) (hm : misses code x = true) : CallOk g (.builtin "re.Pattern.search") [.raw (.ref p), .str x] .none n := fun A F P vs cx hb hf hr s hP => by
  obtain ⟨v, w, rfl, r1, r2⟩ := RepL.two hr
  simp only [Rep] at r1 r2
  subst r1
  obtain ⟨t, rfl⟩ := r2
  obtain ⟨pt, t0, t1, t2, t3, c, oc, vs, m, h1, h2, h3, h4⟩ := h
  exact search_miss (hP _ _ (hf _ _ (hb _ _ h1))) (hP _ _ (hf _ _ (hb _ _ h2))) h3 h4 hx hm ⟨_, s.toks, P, rfl, hP, F, .refl hf, by simp only [Rep]⟩
theorem gm_search {p : Addr} {code : List Nat} (h : PatAt g p code) : GetM g X (.raw (.ref p)) "search" (.builtin "re.Pattern.search") := fun A pl F P ov s Q E hb hf xx r hP q => by
  simp only [Rep] at r
  subst r
  obtain ⟨pt, t0, t1, t2, t3, c, oc, vs, m, h1, _⟩ := h
  exact getMethod_builtin ⟨_, hP _ _ (hf _ _ (hb _ _ h1)), rfl⟩ plain_pattern slot_search type_search (fun b e => by cases e; exact ⟨_, hP _ _ (hf _ _ (hb _ _ h1)), rfl⟩) (q s.toks)
end
end TL
end
section
namespace TL
open PySem PySem.W PyProof.Rows PySem.Calls PyProof.Rows.LCg
noncomputable def Pairs : List DictEntry → List (Str × Value) → Prop
  | [], [] => True
  | e :: r, p :: q => (∃ t, e.key = .str p.1 t) ∧ e.val = p.2 ∧ Pairs r q
  | _, _ => False
noncomputable def DictIs (o : Obj) (kvs : List (Str × Value)) : Prop := o.cls = .type "dict" ∧ ∃ es n, o.data = .dict es n ∧ Pairs es.toList kvs
theorem Pairs.length : ∀ {es : List DictEntry} {kvs : List (Str × Value)}, Pairs es kvs → es.length = kvs.length
  | [], [], _ => rfl
  | _ :: _, _ :: _, h => by simp [Pairs.length h.2.2]
theorem Pairs.snoc {e : DictEntry} {p : Str × Value} (h1 : ∃ t, e.key = .str p.1 t) (h2 : e.val = p.2) : ∀ {es : List DictEntry} {kvs : List (Str × Value)}, Pairs es kvs → Pairs (es ++ [e]) (kvs ++ [p])
  | [], [], _ => ⟨h1, h2, trivial⟩
  | _ :: _, _ :: _, h => ⟨h.1, h.2.1, Pairs.snoc h1 h2 h.2.2⟩
theorem isStr_key {e : DictEntry} {x name : Str} (h : ∃ t, e.key = .str x t) : e.key.isStr name = (name == x) := by
  obtain ⟨t, h⟩ := h
  rw [h]
  show (x == name) = (name == x)
  rw [Bool.eq_iff_iff]; simp only [beq_iff_eq]; exact ⟨Eq.symm, Eq.symm⟩
theorem Pairs.find (name : Str) : ∀ {es : List DictEntry} {kvs : List (Str × Value)}, Pairs es kvs → (es.find? (·.key.isStr name)).map (·.val) = kvs.lookup name
  | [], [], _ => rfl
  | e :: r, p :: q, h => by
    rw [List.find?_cons, isStr_key h.1, List.lookup_cons]
    cases z : name == p.1 with
    | true => simp [h.2.1]
    | false => exact Pairs.find name h.2.2
theorem Pairs.keys : ∀ {es : List DictEntry} {kvs : List (Str × Value)}, Pairs es kvs → ∀ e ∈ es, ∃ n t, e.key = .str n t
  | [], [], _, _, h => by cases h
  | e :: r, p :: q, h, e', he => by
    rcases List.mem_cons.mp he with rfl | he
    · obtain ⟨t, z⟩ := h.1; exact ⟨_, t, z⟩
    · exact Pairs.keys h.2.2 e' he
theorem DictIs.ns {o : Obj} {kvs : List (Str × Value)} (h : DictIs o kvs) : NsObj o (fun x => kvs.lookup x) := by
  obtain ⟨_, es, n, hd, hp⟩ := h
  refine ⟨es, n, hd, fun e he => hp.keys e (by simpa using he), fun name => ?_⟩
  unfold nsFind findBy
  rw [← Array.find?_toList]
  exact hp.find name
theorem DictIs.soft {o : Obj} {kvs : List (Str × Value)} (h : DictIs o kvs) : iterCls o = false ∧ ∀ v, o.data ≠ .cell v := by
  obtain ⟨_, es, n, hd, _⟩ := h
  exact ⟨by unfold iterCls; rw [hd, Bool.and_false], fun v z => by rw [hd] at z; cases z⟩
theorem DictIs.put {o : Obj} {kvs : List (Str × Value)} {name : Str} {v : Value} {hh : Int} {t : Tok} (h : DictIs o kvs) (hn : kvs.lookup name = none) : DictIs (Obj.putName name hh (.str name t) v o) (kvs ++ [(name, v)]) := by
  obtain ⟨hc, es, n, hd, hp⟩ := h
  obtain ⟨c, d, dt, sl⟩ := o
  dsimp only at hc hd
  subst hc hd
  have hf : es.findIdx? (·.key.isStr name) = none := by
    have := hp.find name
    rw [hn] at this
    have h2 : es.toList.find? (·.key.isStr name) = none := Option.map_eq_none_iff.mp this
    rw [Array.findIdx?_eq_none_iff]
    intro e he
    have := List.find?_eq_none.mp h2 e (by simpa using he)
    simpa using this
  rw [Obj.putName_eq]
  unfold Obj.putNameByArray
  dsimp only
  rw [hf]
  refine ⟨rfl, _, _, rfl, ?_⟩
  rw [Array.toList_push]
  exact hp.snoc ⟨t, rfl⟩ rfl
section
variable {g : G} {A : Around} {K : Frag} {C x dx : Addr} {s : Shared} {E : Value → Shared → Prop}
theorem setattr_new {oD : Obj} {kvs : List (Str × Value)} {name : Str} {v : Value} {Q : Unit → Shared → Prop} (X : K.In s.heap) (hx : s.heap.get? x = some (instObj C dx)) (hdx : s.heap.get? dx = some oD) (hD : DictIs oD kvs) (hn : kvs.lookup name = none) (hlen : kvs.length ≤ 1000)
    (hs : findIn K (.ref C) "__setattr__" = some (some (.builtin "object.__setattr__"))) (hp : plainOver K C = true) (ht : takerIn K C name = some none) (hh : hasDictIn K C = true)
    (q : ∀ h' oD' tk, DictIs oD' (kvs ++ [(name, v)]) → Heap.SameBut dx s.heap h' → h'.get? dx = some oD' → Q () { s with heap := h', toks := tk }) : wpAny (model g.prog g.w) A (setAttr (.ref x) name v) Q E s := by
  have I : InstAt s.heap x (instObj C dx) C (some oD) := ⟨hx, rfl, rfl, hdx⟩
  refine set_plain X I hs (osa_open (s := { s with toks := s.toks + 1 }) X I hp ht fun b => ?_)
  obtain ⟨cd, hc, hd'⟩ := any_some hh
  refine wpAny_bind (wpAny_pure (wpAny_bind (wpAny_bind (wpAny_loadPart hx (wpAny_bind (looks_clsIn X hc _ _ _ _ (fun _ _ e => e) ?_))))))
  rw [hd']
  refine wpAny_pure (a := some dx) (wpAny_bind (wpAny_pure (wpAny_bind ?_)))
  have hpD := hD
  obtain ⟨hc', es, n, hdd, hps⟩ := hpD
  unfold nsSet
  refine wpAny_bind (wpAny_bind (wpAny_askSetting (wpAny_pure (wpAny_bind (wpAny_mkText (wpAny_bind (wpAny_loadPart hdx ?_)))))))
  rw [hdd]
  dsimp only
  have hr : aRefKeyMayBeTheName name es = false := by
    rw [aRefKeyMayBeTheName_at]
    have : es.any (·.refKey) = false := by
      rw [← Array.any_toList, List.any_eq_false]
      intro e he
      obtain ⟨m, t, hk⟩ := hps.keys e he
      simp [DictEntry.refKey, hk]
    rw [this, Bool.and_false]
  rw [hr]
  refine wpAny_updatePart hdx ?_
  have hput : ∀ hh, DictIs (Obj.putName name hh (.str name (s.toks + 1)) v oD) (kvs ++ [(name, v)]) := fun hh => hD.put hn
  have hfr : ∀ {o : Obj} {l : List (Str × Value)}, DictIs o l → o.isFreed = false := fun {o l} ⟨_, es, n, h2, _⟩ => by
    obtain ⟨c, d, dt, sl⟩ := o
    dsimp only at h2
    subst h2; rfl
  have hpast : ∀ {o : Obj} {l : List (Str × Value)}, l.length ≤ 2000 → DictIs o l → o.data.pastItsLine = none := fun {o l} hl ⟨_, es, n, h2, h3⟩ => by
    rw [h2]
    refine pastItsLine_dict ?_
    have := h3.length
    rw [Array.length_toList] at this
    have z : sizeLine = 2 ^ 24 := rfl
    omega
  refine wpAny_bind (wpAny_lookBehind (Heap.get?_update_self _ hdx (hfr (hput _))) (hpast (by simp; omega) (hput _)) ?_)
  exact wpAny_pure (q _ _ _ (hput _) (Heap.SameBut.update ..) (Heap.get?_update_self _ hdx (hfr (hput _))))
end
end TL
end
section
namespace TL
open PySem PySem.W PyProof.Rows PySem.Calls PyProof.Rows.LCg
noncomputable def KvRep (F : PH) (kds : List (Str × D)) (kvs : List (Str × Value)) : Prop := kvs.map (·.1) = kds.map (·.1) ∧ RepL F (kds.map (·.2)) (kvs.map (·.2))
theorem KvRep.sub {F F' : PH} {kds : List (Str × D)} {kvs : List (Str × Value)} (h : KvRep F kds kvs) (k : Sub F F') : KvRep F' kds kvs := ⟨h.1, h.2.sub k⟩
theorem KvRep.look {F : PH} {name : Str} : ∀ {kds : List (Str × D)} {kvs : List (Str × Value)}, KvRep F kds kvs → (∀ d, kds.lookup name = some d → ∃ v, kvs.lookup name = some v ∧ Rep F d v) ∧ (kds.lookup name = none → kvs.lookup name = none)
  | [], [], _ => ⟨fun _ h => (by cases h), fun _ => rfl⟩
  | [], _ :: _, h => by have := h.1; simp at this
  | _ :: _, [], h => by have := h.1; simp at this
  | (n, d) :: r, (n', v) :: q, h => by
    obtain ⟨h1, h2⟩ := h
    simp only [List.map_cons, List.cons.injEq] at h1
    obtain ⟨rfl, h1⟩ := h1
    simp only [List.map_cons, RepL] at h2
    obtain ⟨v', r', e, rv, h2⟩ := h2
    simp only [List.cons.injEq] at e
    obtain ⟨rfl, rfl⟩ := e
    have ih := KvRep.look (name := name) (kds := r) (kvs := q) ⟨h1, h2⟩
    rw [List.lookup_cons, List.lookup_cons]
    cases name == n' with
    | true => exact ⟨fun d' e => (by cases e; exact ⟨_, rfl, rv⟩), fun e => (by cases e)⟩
    | false => exact ih
theorem KvRep.snoc {F : PH} {kds : List (Str × D)} {kvs : List (Str × Value)} {name : Str} {d : D} {v : Value} (h : KvRep F kds kvs) (r : Rep F d v) : KvRep F (kds ++ [(name, d)]) (kvs ++ [(name, v)]) :=
  ⟨by simp [h.1], by simp only [List.map_append, List.map_cons, List.map_nil]; exact h.2.snoc r⟩
noncomputable def InstP (C x : Addr) (kds : List (Str × D)) (F P : PH) : Prop := ∃ dx oD kvs, P x = some (instObj C dx) ∧ P dx = some oD ∧ DictIs oD kvs ∧ KvRep F kds kvs
noncomputable def Dct (fx : Fx) (C x dx : Addr) (kds : List (Str × D)) (F P : PH) : Prop := F x = some (instObj C dx) ∧ (∃ oD kvs, P dx = some oD ∧ DictIs oD kvs ∧ KvRep F kds kvs) ∧ F dx = none ∧ fx.P₀ dx = none ∧ ¬ muts fx.env dx
theorem Dct.inst {fx : Fx} {C x dx : Addr} {kds : List (Str × D)} {F P : PH} (h : Dct fx C x dx kds F P) (hf : Sub F P) : InstP C x kds F P := by
  obtain ⟨h1, ⟨oD, kvs, h2, h3, h4⟩, _⟩ := h
  exact ⟨dx, oD, kvs, hf _ _ h1, h2, h3, h4⟩
theorem Dct.ext {fx : Fx} {C x dx : Addr} {kds : List (Str × D)} {F P F' P' : PH} (h : Dct fx C x dx kds F P) (e : Ext F P F' P') : Dct fx C x dx kds F' P' := by
  obtain ⟨h1, ⟨oD, kvs, h2, h3, h4⟩, h5, h6⟩ := h
  exact ⟨e.f _ _ h1, ⟨oD, kvs, e.p _ _ h2, h3, h4.sub e.f⟩, e.off h5 (by rw [h2]; exact fun z => nomatch z), h6⟩
theorem Dct.step {fx : Fx} {C x dx : Addr} {kds : List (Str × D)} {W : Addr → Prop} {F P F' P' : PH} (h : Dct fx C x dx kds F P) (s : Step W F P F' P') (hW : ∀ b, W b → fx.soft P b) : Dct fx C x dx kds F' P' := by
  obtain ⟨h1, ⟨oD, kvs, h2, h3, h4⟩, h5, h6, h7⟩ := h
  refine ⟨s.f _ _ h1, ⟨oD, kvs, s.p _ _ h2 fun w => ?_, h3, h4.sub s.f⟩, s.off h5 (by rw [h2]; exact fun z => nomatch z), h6, h7⟩
  rcases hW dx w with q | ⟨_, o, q, z⟩
  · exact h7 q
  · rw [h2] at q; cases q; rw [h3.soft.1] at z; cases z
noncomputable def XS.dct {fx : Fx} (C x dx : Addr) (kds : List (Str × D)) : XS fx := ⟨⟨Dct fx C x dx kds, fun _ _ _ _ h e => h.ext e⟩, fun _ _ _ _ _ h s hW => h.step s hW⟩
noncomputable def XS.ex {fx : Fx} {ι : Type} (x : ι → XS fx) : XS fx := ⟨⟨fun F P => ∃ i, (x i).p F P, fun _ _ _ _ ⟨i, h⟩ e => ⟨i, (x i).st _ _ _ _ h e⟩⟩, fun _ _ _ _ _ ⟨i, h⟩ s hW => ⟨i, (x i).stp _ _ _ _ _ h s hW⟩⟩
noncomputable def XS.prop {fx : Fx} (q : Prop) : XS fx := ⟨XP.pure q, fun _ _ _ _ _ h _ _ => h⟩
theorem Own.other {fx : Fx} {a b : Addr} {ds : List D} {F P : PH} {ob : Obj} (h : Own fx a ds F P) (hn : ∀ xs n, P b ≠ some (lstN xs n)) : Own fx a ds F (TL.upd P b ob) := h.upd fun q => by
  obtain ⟨xs, n, h1, _⟩ := h
  exact hn xs n (by rw [← q]; exact h1)
theorem Dct.other {fx : Fx} {C x dx b : Addr} {kds : List (Str × D)} {F P : PH} {ob : Obj} {xs : List Value} {n : Nat} (h : Dct fx C x dx kds F P) (hb : P b = some (lstN xs n)) : Dct fx C x dx kds F (TL.upd P b ob) := by
  obtain ⟨h1, ⟨oD, kvs, h2, h3, h4⟩, h5, h6, h7⟩ := h
  refine ⟨h1, ⟨oD, kvs, ?_, h3, h4⟩, h5, h6, h7⟩
  rw [upd_ne]
  · exact h2
  · rintro rfl
    rw [hb] at h2; cases h2
    have z : Value.type "list" = .type "dict" := h3.1
    simp at z
section
variable {g : G} {A : Around} {env : Env} {ρ : List (Str × D)} {X : XP} {K : Frag}
theorem Ev.attrP {value : Expr} {name : Str} {pos : Pos} {C x : Addr} {kds : List (Str × D)} {d : D} {attr : Option Value} (KX : K.In g.hb) (hv : Ev g A env ρ X value (.raw (.ref x))) (hi : ∀ F P, Sub F P → X.p F P → InstP C x kds F P) (hm : kds.lookup name = some d)
    (hg : plainGet K C name = true) (hh : hasDictIn K C = true) (ha : findIn K (.ref C) name = some attr) (hn : noGet K attr = true) (hv' : ∀ F v, Rep F d v → handedIn v = true)
    (he : eval (.Attribute value name pos) env = (do
      let o ← eval value env
      standAt pos.atName
      let r ← holding [o] (getAttr o name true)
      letTemporaryGo value o r
      pure r) := by with_unfolding_all rfl) : Ev g A env ρ X (.Attribute value name pos) d := Ev.mk fun F P V xx s hP => by
  refine Attribute_any_ ((hv.run F P V xx).out hP fun h tk P₁ o hP₁ ⟨F₁, e₁, r₁⟩ => ?_) he
  simp only [Rep] at r₁
  subst r₁
  obtain ⟨dx, oD, kvs, h1, h2, h3, h4⟩ := hi F₁ P₁ e₁.fp (X.st _ _ _ _ xx e₁)
  obtain ⟨v, hv, rv⟩ := h4.look.1 d hm
  refine get_value (KX.keeps fun b o e => hP₁ _ _ (e₁.fp _ _ (e₁.f _ _ (V.base _ _ e)))) ⟨hP₁ _ _ h1, rfl, rfl, hP₁ _ _ h2⟩ (plainGet_of hg).1 (findObj_own (v := v) hh ha hn ?_) (hv' F₁ v rv) ⟨_, _, P₁, rfl, hP₁, F₁, e₁, rv⟩
  rw [lookIn_ns h3.ns, hv]
theorem gm_methP {C x f : Addr} {kds : List (Str × D)} {name : Str} (KX : K.In g.hb) (hi : ∀ F P, Sub F P → X.p F P → InstP C x kds F P) (hm : kds.lookup name = Option.none) (hg : plainGet K C name = true) (hf : findIn K (.ref C) name = some (some (.ref f))) (ht : isFn K (.ref f) = true) : GetM g X (.raw (.ref x)) name (.ref f) :=
  fun A pl F P ov s Q E hb hf' xx r hP q => by
  simp only [Rep] at r
  subst r
  obtain ⟨dx, oD, kvs, h1, h2, h3, h4⟩ := hi F P hf' xx
  have I : InstAt s.heap x (instObj C dx) C (some oD) := ⟨hP _ _ h1, rfl, rfl, hP _ _ h2⟩
  refine method_fn (KX.keeps fun b o e => hP _ _ (hf' _ _ (hb _ _ e))) I (plainGet_of hg).1 (plainGet_of hg).2 hf (beq_iff_eq.mp ht) ?_ (q s.toks)
  show (lookIn name oD).map _ = _
  rw [lookIn_ns h3.ns, h4.look.2 hm]; rfl
theorem EvN.iteF {t a b : Expr} {pos : Pos} {ds : List D} (ht : EvB g A env ρ X t false) (hb : EvN g A env ρ X b ds) (he : eval (.IfExp t a b pos) env = (do if (← isTrue t env (eval t env)) then eval a env else eval b env) := by rfl) : EvN g A env ρ X (.IfExp t a b pos) ds := EvN.mk fun F P V x s hs => by
  rw [he]
  refine wpAny_bind ((ht.run F P V x).out hs fun h tk P₁ c hP₁ ⟨F₁, e₁, r₁⟩ => ?_)
  subst r₁
  refine (hb.run F₁ P₁ (V.ext e₁) (X.st _ _ _ _ x e₁)).out hP₁ fun h tk P₂ v hP₂ ⟨F₂, b, xs, n, hv, e₂, h1, h2, h3, h4⟩ => ⟨_, _, P₂, rfl, hP₂, F₂, b, xs, n, hv, e₁.trans e₂, none_of e₁.p h1, h2, h3, h4⟩
end
section
variable {g : G} {A : Around} {fx : Fx} {ρ : List (Str × D)} {X X₁ X' : XS fx} {o : Out} {K : Frag}
theorem Sq.setAttr {value ob : Expr} {name : Str} {p pos : Pos} {r : List Stmt} {C x dx : Addr} (kds : List (Str × D)) (d : D) (KX : K.In g.hb) (hv : Ev g A fx.env ρ X.toXP value d) (ho : Ev g A fx.env ρ X.toXP ob (.raw (.ref x))) (hX : ∀ F P, X.p F P → Dct fx C x dx kds F P)
    (hn : kds.lookup name = none) (hlen : kds.length ≤ 1000)
    (hs : findIn K (.ref C) "__setattr__" = some (some (.builtin "object.__setattr__"))) (hp : plainOver K C = true) (ht : takerIn K C name = some none) (hh : hasDictIn K C = true)
    (hsw : swapsWith value (some (.Attribute ob name p)) pos.line fx.env = pure false)
    (hX₁ : ∀ F P oD, X.p F P → (∀ xs n, P dx ≠ some (lstN xs n)) → Dct fx C x dx (kds ++ [(name, d)]) F (upd P dx oD) → X₁.p F (upd P dx oD))
    (k : Ex g A fx X₁ X' (execs r fx.env) ρ o) : Ex g A fx X X' (execs (.Assign [.Attribute ob name p] value pos :: r) fx.env) ρ o := Ex.mk fun F P I V M xx s hP => by
  refine wpAny_execs_cons (plainObj_wpAny_Assign_Attribute ((hv.run F P V xx).out hP fun h tk P₁ v hP₁ ⟨F₁, e₁, r₁⟩ => ?_) hsw)
  have x₁ := X.st _ _ _ _ xx e₁
  refine (ho.run F₁ P₁ (V.ext e₁) x₁).out hP₁ fun h tk P₂ v₂ hP₂ ⟨F₂, e₂, r₂⟩ => ?_
  have x₂ := X.st _ _ _ _ x₁ e₂
  have e₁₂ := e₁.trans e₂
  have V₂ := V.ext e₁₂
  simp only [Rep] at r₂
  subst r₂
  obtain ⟨h1, ⟨oD, kvs, h2, h3, h4⟩, h5, h6, h7⟩ := hX _ _ x₂
  have hl : kvs.length = kds.length := by have := congrArg List.length h4.1; simpa using this
  refine setattr_new (g := g) (KX.keeps fun b o e => hP₂ _ _ (V₂.fp _ _ (V₂.base _ _ e))) (hP₂ _ _ (V₂.fp _ _ h1)) (hP₂ _ _ h2) h3 (h4.look.2 hn) (by omega) hs hp ht hh fun h' oD' tk' hD' hsb hget => ?_
  have sS : Step (fun b => b = dx) F₂ P₂ F₂ (upd P₂ dx oD') := .upd V₂.fp h5 rfl
  have hP₃ := hP₂.same hsb hget
  have D' : Dct fx C x dx (kds ++ [(name, d)]) F₂ (upd P₂ dx oD') := ⟨h1, ⟨oD', _, upd_self .., hD', h4.snoc (r₁.sub e₂.f)⟩, h5, h6, h7⟩
  have V₃ : Vars g.hb fx.env F₂ (upd P₂ dx oD') ρ := V₂.step sS (fun q => h7 (.inl q.symm)) fun y c ob v' hl' he' hd q => by
    have q' : c = dx := q
    subst q'; rw [h2] at he'; cases he'; exact h3.soft.2 _ hd
  have t₃ : Soft F₂ P₂ F₂ (upd P₂ dx oD') := sS.soft fun b ob w e => by
    have w' : b = dx := w
    subst w'; rw [h2] at e; cases e; exact h3.soft.1
  have I₃ := inv_step (I.trans e₁₂) sS fun b hb => by
    have w' : b = dx := hb
    rw [w']; exact h6
  refine (k.run F₂ _ I₃ V₃ V₃.m (hX₁ _ _ _ x₂ (fun xs n z => by rw [h2] at z; cases z; have z : Value.type "list" = .type "dict" := h3.1; simp at z) D')).out hP₃ fun h tk P₅ f hP₅ ⟨F₅, t₅, I₅, x₅, q⟩ => ⟨_, _, P₅, rfl, hP₅, F₅, (e₁₂.soft.trans t₃).trans t₅, I₅, x₅, q⟩
end
end TL
end
section
namespace TL
open PySem PySem.W PyProof.Rows PySem.Calls PyProof.Rows.LCg
section
variable {g : G} {A : Around} {fx : Fx} {ρ : List (Str × D)} {X X₁ X' : XS fx} {o : Out}
theorem Sq.forNil {iter target : Expr} {body : List Stmt} {pos : Pos} {r : List Stmt} {a : Addr} (hh : A.handled = none) (hi : Ev g A fx.env ρ X.toXP iter (.raw (.ref a))) (hX : ∀ F P, X.p F P → OwnP a [] F P)
    (hs : ∀ x, foldedSetIterable iter fx.env x = pure x) (k : Ex g A fx X X' (execs r fx.env) ρ o) : Ex g A fx X X' (execs (.For target iter body [] pos :: r) fx.env) ρ o := Ex.mk fun F P I V M x s hP => by
  refine wpAny_execs_cons (wpAny_For ((hi.run F P V x).out hP fun h₁ tk₁ P₁ v hP₁ ⟨F₁, e₁, r₁⟩ => ?_) hs)
  simp only [Rep] at r₁
  subst r₁
  have x₁ := X.st _ _ _ _ x e₁
  obtain ⟨xs, n, h1, h2, h3⟩ := hX _ _ x₁
  have hxs : xs = [] := List.eq_nil_of_length_eq_zero h2.length
  subst hxs
  have hI : Heap.IsList h₁ a #[] := ⟨_, hP₁ _ _ h1, rfl, n, rfl⟩
  have fr := hP₁.fresh
  have hne : a ≠ h₁.objs.size := fun q => by rw [← q, h1] at fr; cases fr
  refine wpAny_pyIter_list (s := { heap := h₁, gens := s.gens, drawn := s.drawn, toks := tk₁, os := s.os }) hI ?_
  refine codeAny_forLoop_any (fun k s' => k = 1 ∧ s' = { heap := h₁.push { cls := .type "list_iterator", data := .fields #[.ref a, .int 0 0] }, gens := s.gens, drawn := s.drawn, toks := tk₁, os := s.os }) ?_ 1 ⟨rfl, rfl⟩
  rintro k' s' ⟨rfl, rfl⟩
  refine wpAny_pyNext_list_end hh ⟨_, Heap.get?_push_size _ rfl, rfl, rfl⟩ (hI.push _) (by simp) fun h' he' => ?_
  have hP' : Has h' P₁ := fun b ob e => he' b ob (fun q => by rw [q, fr] at e; cases e) (Heap.get?_push_of_some _ (hP₁ _ _ e))
  refine wpAny_execs_nil ?_
  exact (k.run F₁ P₁ (I.trans e₁) (V.ext e₁) (M.ext V e₁) x₁).out (s := { heap := h', gens := s.gens, drawn := s.drawn, toks := tk₁, os := s.os }) hP' fun h tk P₂ f hP₂ ⟨F₂, t₂, I₂, x₂, q⟩ => ⟨_, _, P₂, rfl, hP₂, F₂, e₁.soft.trans t₂, I₂, x₂, q⟩
end
theorem Cx.created {A : Around} {n : Nat} {args : Args} (x : Cx A (n + 1)) : Cx (A.under (.builtin "type.__call__" args)) n := by
  have w : (Code.builtin "type.__call__" args).weight ≤ 1 := by
    unfold Code.weight
    have h1 : (Code.builtin "type.__call__" args).frames = 0 := rfl
    have h2 : (Code.builtin "type.__call__" args).isGuard = false := by show guardIds.contains "type.__call__" = false; decide
    have h3 : (Code.builtin "type.__call__" args).isCaller = false := rfl
    rw [h1, h2, h3]
    split <;> simp
  have u : (Code.builtin "type.__call__" args).cUnits ≤ 8 := by
    have : (Code.builtin "type.__call__" args).cUnits = 1 := rfl
    omega
  refine ⟨x.h, ?_, ?_⟩
  · have := x.d
    show A.depth + (Code.builtin "type.__call__" args).weight + n < _
    omega
  · have := x.u
    show A.units + (Code.builtin "type.__call__" args).cUnits + 8 * n < _
    omega
theorem Ex.post {g : G} {A : Around} {fx : Fx} {ρ : List (Str × D)} {X X₁ X' : XS fx} {o : Out} {t : Sem Flow} (h : Ex g A fx X X₁ t ρ o) (q : ∀ F P, X₁.p F P → X'.p F P) : Ex g A fx X X' t ρ o := Ex.mk fun F P I V M x => (h.run F P I V M x).mono fun P' f ⟨F', t', s, y, z⟩ => ⟨F', t', s, q _ _ y, z⟩
theorem new_inst {g : G} {A : Around} {K : Frag} {C fI : Addr} {args : List Value} {F P : PH} {s : Shared} {Q : Value → Shared → Prop} {E : Value → Shared → Prop} {n : Nat} (KX : K.In g.hb) (cx : Cx A (n + 1)) (hb : Sub g.hb.get? F) (hf : Sub F P) (hP : Has s.heap P) (hm : makesIn K C = true)
    (hi : findIn K (.ref C) "__init__" = some (some (.ref fI))) (ht : typeIn K (.ref fI) = some (.type "function"))
    (h : ∀ A' x dx h' , Cx A' n → Has h' (upd (upd P dx emptyDict) x (instObj C dx)) → P x = none → P dx = none → x ≠ dx →
      codeAny (model g.prog g.w) A' (.call (.ref fI) ⟨.ref x :: args, []⟩) (fun r s' => r = .ok (.ret .none) ∧ Q (.ref x) s') { s with heap := h' }) :
    wpAny (model g.prog g.w) A (PySem.call (.ref C) args []) Q E s := by
  have X : K.In s.heap := KX.keeps fun b o e => hP _ _ (hf _ _ (hb _ _ e))
  obtain ⟨hh, gg, d, t, os⟩ := s
  refine wpAny_call (make_core (makes_of X hm) (looks_findIn X hi) (fun self => bind_fn X self ht) (.inl rfl) ?_)
  have fr := hP.fresh
  dsimp only at hP fr
  have fr1 : P (hh.objs.size + 1) = none := by
    cases q : P (hh.objs.size + 1) with
    | none => rfl
    | some o =>
      have hlt : hh.objs.size + 1 < hh.objs.size := hP.lt (by rw [q]; exact fun z => nomatch z)
      exact absurd hlt (by omega)
  have hne : hh.objs.size + 1 ≠ hh.objs.size := by omega
  have hP1 : Has (hh.push emptyDict) (upd P hh.objs.size emptyDict) := hP.push rfl
  have hP2 : Has ((hh.push emptyDict).push (instObj C hh.objs.size)) (upd (upd P hh.objs.size emptyDict) (hh.objs.size + 1) (instObj C hh.objs.size)) := by
    have := hP1.push (o := instObj C hh.objs.size) rfl
    rwa [Heap.size_push] at this
  refine codeAny_mono (h _ _ _ _ cx.created hP2 fr1 fr hne) fun r s' ⟨e, q⟩ => ?_
  subst e
  exact ⟨rfl, q⟩
end TL
end
section
namespace TL
open PySem PySem.W PyProof.Rows PySem.Calls PyProof.Rows.LCg
section
variable {g : G} {A : Around} {env : Env} {ρ : List (Str × D)} {X : XP}
theorem strs_of {F : PH} : ∀ {ys : List Str} {vs : List Value}, RepL F (ys.map .str) vs → ∃ l : List (Str × Tok), strValues l = vs ∧ l.map (·.1) = ys
  | [], _, h => by simp only [List.map_nil, RepL] at h; subst h; exact ⟨[], rfl, rfl⟩
  | y :: r, _, h => by
    simp only [List.map_cons, RepL, Rep] at h
    obtain ⟨v, q, rfl, ⟨t, rfl⟩, h2⟩ := h
    obtain ⟨l, h3, h4⟩ := strs_of h2
    exact ⟨(y, t) :: l, by rw [← h3]; rfl, by rw [List.map_cons, h4]⟩
theorem join_own {a : Addr} {sep : Str} {ys : List Str} {n : Nat} (hok : JoinOk sep ys = true) : CallX g (.builtin "str.join") [.str sep, .raw (.ref a)] [] n NoW (OwnP a (ys.map .str)) (fun F P v => Rep F (.str (Txt.join sep ys)) v) := fun A F P vs kvs cx hb hf hr hk pre s hP => by
  simp only [List.map_nil, RepL] at hk
  subst hk
  obtain ⟨v, w, rfl, r1, r2⟩ := RepL.two hr
  simp only [Rep] at r1 r2
  obtain ⟨t, rfl⟩ := r1
  subst r2
  obtain ⟨xs, k, h1, h2, _⟩ := pre
  obtain ⟨l, rfl, e⟩ := strs_of h2
  exact SC.join ⟨_, hP _ _ h1, rfl, k, rfl⟩ e hok fun t' tk => ⟨s.heap, tk, P, rfl, hP, F, .refl hf, by simp only [Rep]; exact ⟨_, rfl⟩⟩
theorem join_lst {sep : Str} {ys : List Str} {n : Nat} (hok : JoinOk sep ys = true) : CallOk g (.builtin "str.join") [.str sep, .lst (ys.map .str)] (.str (Txt.join sep ys)) n := fun A F P vs cx hb hf hr s hP => by
  obtain ⟨v, w, rfl, r1, r2⟩ := RepL.two hr
  simp only [Rep] at r1 r2
  obtain ⟨t, rfl⟩ := r1
  obtain ⟨a, o, vs, k, rfl, h1, h2, h3, h4⟩ := r2
  obtain ⟨l, e1, e⟩ := strs_of h4
  have e2 : vs = (strValues l).toArray := by rw [e1]
  subst e2
  exact SC.join ⟨o, hP _ _ (hf _ _ h1), h2.1, k, h3⟩ e hok fun t' tk => ⟨s.heap, tk, P, rfl, hP, F, .refl hf, by simp only [Rep]; exact ⟨_, rfl⟩⟩
theorem emp_at {prog : Program} {w : World} {h : Heap} {a : Addr} (e : h.get? a = some { cls := .type "dict", data := .dict #[] }) : h.DictAt (strKind prog w) a [] 0 :=
  ⟨_, #[], e, ⟨rfl, rfl, rfl⟩, rfl, fun _ h => by simp at h, .nil, List.nodup_nil⟩
theorem items_ok {n : Nat} : CallOk g (.builtin "dict.items") [.emp] .empIt n := fun A F P vs cx hb hf hr s hP => by
  obtain ⟨v, rfl, r⟩ := RepL.one hr
  simp only [Rep] at r
  obtain ⟨a, rfl, hF, hz⟩ := r
  have hD := emp_at (prog := g.prog) (w := g.w) (hP _ _ (hf _ _ hF))
  refine call_meetsIn PySem.F.slot_dict_items ⟨_, hP _ _ (hf _ _ hF), rfl⟩ PySem.F.entry_dict_items (PySem.F.args_dict_items_1 _) (meets_dict_items (strKind g.prog g.w) a hz) ⟨⟨[], hD.dictOf⟩, ⟨_, s.toks, _, rfl, hP.push rfl, _, .alloc hf hP.fresh, ?_⟩⟩
  simp only [Rep]
  exact ⟨_, a, rfl, upd_self .., by rw [upd_ne (fun q => by rw [q] at hF; rw [none_of hf hP.fresh] at hF; cases hF)]; exact hF, hz⟩
theorem gm_items : GetM g X .emp "items" (.builtin "dict.items") := fun A pl F P ov s Q E hb hf xx r hP q => by
  simp only [Rep] at r
  obtain ⟨a, rfl, hF, hz⟩ := r
  have e := hP _ _ (hf _ _ hF)
  exact getMethod_builtin ⟨_, e, rfl⟩ PySem.F.plainAttrs_dict PySem.F.slot_dict_items PySem.F.type_dict_items (fun b hb => by cases hb; exact ⟨_, e, rfl⟩) (q s.toks)
theorem Itb.empIt (hh : A.handled = none) {target : Expr} : Itb g A .empIt [] target := fun F P v hf r s hP => by
  simp only [Rep] at r
  obtain ⟨v, a, rfl, hv, ha, hz⟩ := r
  have hD := emp_at (prog := g.prog) (w := g.w) (hP _ _ (hf _ _ ha))
  refine wpAny_pyIter_items ⟨_, hP _ _ (hf _ _ hv), rfl, rfl⟩ hD ?_
  have fr := hP.fresh
  let io : Obj := { cls := .type "dict_itemiterator", data := .fields #[.none, .bool false, .ref a, .int 0 0, .int (([] : List (Str × Value)).length) 0, .int 0 0, .none, .none] }
  refine ⟨_, s.toks, _, rfl, hP.push (o := io) rfl, fun b => b = s.heap.objs.size, fun i F' P' => P' s.heap.objs.size = some io ∧ F' s.heap.objs.size = none ∧ Sub F F', ?_, .own hf fr, ⟨upd_self .., none_of hf fr, .refl _⟩, fun b hb => by subst hb; exact fr⟩
  refine ⟨fun i F' P' st b hb => by subst hb; exact ⟨_, st.1, rfl⟩, fun i F' P' st b hb => by subst hb; exact st.2.1, fun i F' P' F'' P'' st h1 h2 h3 => ⟨h2 _ _ rfl st.1, h3 _ rfl, st.2.2.trans h1⟩, fun i F' P' d _ _ hd => by simp at hd, fun i F' P' hs st _ s' hP' => ?_, fun i F' P' hs st s' hP' => ?_⟩
  · have hD' := emp_at (prog := g.prog) (w := g.w) (hP' _ _ (hs _ _ (st.2.2 _ _ ha)))
    exact wpAny_pyNext_items_end (i := 0) hh (hP' _ _ st.1) hD' rfl fun h' he => ⟨h', s'.toks, hid P' s.heap.objs.size, rfl, hP'.hid fun b o q e => he b o q e, rfl, .hid hs st.2.1 rfl⟩
  · have hT : Shared.TypeIs s' (.ref s.heap.objs.size) "dict_itemiterator" := ⟨_, hP' _ _ st.1, rfl⟩
    refine wpAny_pyIter_slot hT PySem.F.slot_dict_itemiterator_iter (wpAny_call_entry PySem.F.slot_dict_itemiterator_iter hT kcp_entry ?_ (PySem.F.args_dict_itemiterator_iter_1 _))
    exact wpAny_pure ⟨_, rfl, "dict_itemiterator", _, hT, PySem.F.slot_dict_itemiterator_next.lookup, ⟨_, s'.toks, P', rfl, hP', rfl, rfl⟩⟩
end
end TL
end
section
namespace TL
open PySem PySem.W PyProof.Rows PySem.Calls PyProof.Rows.LCg
section
variable {g : G} {A : Around} {fx : Fx} {ρ : List (Str × D)} {X X' : XS fx} {o : Out}
theorem Ex.freeze {t : Sem Flow} (a : Addr) (ds : List D) (X₁ : XS fx) (hX : ∀ F P, X.p F P → Own fx a ds F P) (hX₁ : ∀ F P F', X.p F P → Sub F F' → (∀ b, F' b ≠ none → F b ≠ none ∨ b = a) → Rep F' (.lst ds) (.ref a) → X₁.p F' P) (k : Ex g A fx X₁ X' t ρ o) : Ex g A fx X X' t ρ o := Ex.mk fun F P I V M x s hs => by
  obtain ⟨xs, n, h1, h2, h3, h4, h5⟩ := hX _ _ x
  obtain ⟨q1, q2, q3⟩ := frz_ok (S := fun b => b = a) (Ext.refl I.fp).soft I fun b hb => by subst hb; exact ⟨h3, h4, fun o e => by rw [h1] at e; cases e; rfl⟩
  have off : ∀ {b}, muts fx.env b → F b = none → frz (fun b => b = a) F P b = none := fun {b} m e => by
    rw [frz_off (by rintro rfl; exact h5 m)]; exact e
  have V' : Vars g.hb fx.env (frz (fun b => b = a) F P) P ρ := by
    refine ⟨V.ok, V.base.trans q1, q3.fp, ?_, fun x d hx hk => ?_, ⟨off (.inl rfl) M.loc, M.ne, M.tot, fun x c hc hk => off (.inr ⟨x, hk, hc⟩) (M.off x c hc hk), M.inj⟩⟩
    · obtain ⟨m, oL, e1, e2, e3⟩ := V.loc
      exact ⟨m, oL, e1, e2, fun x d hx hk => (e3 x d hx hk).imp fun v z => ⟨z.1, z.2.sub q1⟩⟩
    · obtain ⟨c, v, o, e1, e2, e3, e4⟩ := V.cel x d hx hk
      exact ⟨c, v, o, e1, e2, e3, e4.sub q1⟩
  have r : Rep (frz (fun b => b = a) F P) (.lst ds) (.ref a) := by
    simp only [Rep]
    exact ⟨a, _, xs.toArray, n, rfl, (frz_in rfl).trans h1, ⟨rfl, rfl, rfl⟩, rfl, h2.sub q1⟩
  refine (k.run _ P q3 V' V'.m (hX₁ _ _ _ x q1 (fun b hb => ?_) r)).out hs fun h tk P₁ f hP ⟨F₁, t₁, I₁, x₁, q⟩ => ⟨_, _, P₁, rfl, hP, F₁, q2.trans t₁, I₁, x₁, q⟩
  by_cases z : b = a
  · exact .inr z
  · rw [frz_off (S := fun b => b = a) z] at hb; exact .inl hb
end
noncomputable def flat : D → Bool
  | .none | .bool _ | .int _ | .flt _ | .str _ | .raw _ => true
  | _ => false
theorem flat_rep {F F' : PH} {v : Value} : ∀ {d : D}, flat d = true → Rep F d v → Rep F' d v
  | .none, _, r | .bool _, _, r | .int _, _, r | .flt _, _, r | .str _, _, r | .raw _, _, r => by simp only [Rep] at *; exact r
section
variable {g : G} {A : Around} {env : Env} {ρ : List (Str × D)} {X : XP}
theorem CallX.lend {f : Value} {a : Addr} {ds : List D} {d : D} {n : Nat} (h : CallOk g f [.lst ds] d n) (hd : flat d = true) : CallX g f [.raw (.ref a)] [] n NoW (OwnP a ds) (fun F P v => Rep F d v) := fun A F P vs kvs cx hb hf hr hk pre s hP => by
  simp only [List.map_nil, RepL] at hk
  subst hk
  obtain ⟨v, rfl, r⟩ := RepL.one hr
  simp only [Rep] at r
  subst r
  obtain ⟨xs, n, h1, h2, h3⟩ := pre
  have s1 : Sub F (upd F a (lstN xs n)) := .upd_new h3
  have s2 : Sub (upd F a (lstN xs n)) P := fun b o e => by
    by_cases q : b = a
    · subst q; rw [upd_self] at e; cases e; exact h1
    · rw [upd_ne q] at e; exact hf _ _ e
  refine (h A _ P [.ref a] cx (hb.trans s1) s2 (.cons ?_ .nil)).out hP fun h tk P₁ v hP₁ ⟨F₁, e, r⟩ => ⟨_, _, P₁, rfl, hP₁, F, ⟨.refl _, fun b o q _ => e.p _ _ q, (s1.trans e.f).trans e.fp, fun _ q => .inl q⟩, flat_rep hd r⟩
  simp only [Rep]
  exact ⟨a, _, xs.toArray, n, rfl, upd_self .., ⟨rfl, rfl, rfl⟩, rfl, h2.sub s1⟩
theorem cmp_eqs {x y : Str} : Op2 g A (compareOp .Eq) (.str x) (.str y) (.bool (x == y)) := fun F v₁ v₂ s Q E hs r₁ r₂ k => by
  simp only [Rep] at r₁ r₂; obtain ⟨t, rfl⟩ := r₁; obtain ⟨u, rfl⟩ := r₂
  exact PyProof.Rows.eq_str (k _ s.toks (by simp only [Rep]))
theorem strsAre_of {F : PH} : ∀ {ys : List Str} {vs : List Value}, RepL F (ys.map .str) vs → StrsAre vs ys
  | [], _, h => by simp only [List.map_nil, RepL] at h; subst h; exact .nil
  | y :: r, _, h => by
    simp only [List.map_cons, RepL, Rep] at h
    obtain ⟨v, q, rfl, ⟨t, rfl⟩, h2⟩ := h
    exact .cons y t (strsAre_of h2)
theorem countIn_strs (k : Str) : ∀ ys : List Str, PySem.Spec.countIn (.str k) (ys.map PyData.str) = ((ys.count k : Nat) : Int)
  | [] => rfl
  | y :: r => by
    rw [List.map_cons, PySem.Spec.countIn, countIn_strs k r, List.count_cons, PyProof.V.same_str]
    by_cases h : y = k
    · subst h; simp
      omega
    · simp [h]
theorem count_ok {ys : List Str} {k : Str} {n : Nat} : CallOk g (.builtin "list.count") [.lst (ys.map .str), .str k] (intD (ys.count k)) n := fun A F P vs cx hb hf hr s hP => by
  obtain ⟨v, w, rfl, r1, r2⟩ := RepL.two hr
  simp only [Rep] at r1 r2
  obtain ⟨t, rfl⟩ := r2
  obtain ⟨a, o, vs, k, rfl, h1, h2, h3, h4⟩ := r1
  refine count_list_strs (vs := vs.toList) ⟨o, hP _ _ (hf _ _ h1), h2.1, k, h3⟩ (strsAre_of h4) ?_
  rw [countIn_strs]
  exact ⟨_, _, P, rfl, hP, F, .refl hf, by simp only [Rep, intD]; exact ⟨_, rfl⟩⟩
theorem lower_ok {x : Str} {n : Nat} (h : PySem.Builtin.Str.tooLong (Txt.lower x).length = false) : CallOk g (.builtin "str.lower") [.str x] (.str (Txt.lower x)) n := fun A F P vs cx hb hf hr s hP => by
  obtain ⟨v, rfl, r⟩ := RepL.one hr
  simp only [Rep] at r
  obtain ⟨t, rfl⟩ := r
  exact SC.lower h ⟨_, _, P, rfl, hP, F, .refl hf, by simp only [Rep]; exact ⟨_, rfl⟩⟩
theorem upper_ok {x : Str} {n : Nat} (h : PySem.Builtin.Str.tooLong (Txt.upper x).length = false) : CallOk g (.builtin "str.upper") [.str x] (.str (Txt.upper x)) n := fun A F P vs cx hb hf hr s hP => by
  obtain ⟨v, rfl, r⟩ := RepL.one hr
  simp only [Rep] at r
  obtain ⟨t, rfl⟩ := r
  exact SC.upper h ⟨_, _, P, rfl, hP, F, .refl hf, by simp only [Rep]; exact ⟨_, rfl⟩⟩
noncomputable def signs (x : Str) : List D := x.cps.toList.map fun c => .str ⟨#[c]⟩
theorem Itb.str (hh : A.handled = none) {x : Str} (hx : x.cps.all (· < 128) = true) {target : Expr} : Itb g A (.str x) (signs x) target := fun F P v hf r s hP => by
  simp only [Rep] at r
  obtain ⟨t, rfl⟩ := r
  refine wpAny_pyIter_ascii hx ⟨_, _, _, rfl, hP.push rfl, (fun a => a = s.heap.objs.size), _, Iter.ofWalks (F₀ := F) (Walks.strAscii hh s.heap.objs.size x t) (by simp [signs]) (fun i h st => ?_) (fun i v F' d hs hp hd' => ?_), .own hf hP.fresh, ⟨Nat.zero_le _, .refl _, none_of hf hP.fresh, ⟨_, upd_self .., rfl, _, _, rfl, rfl, rfl⟩, fun b hb => ?_, s.heap.push { cls := .type "str_ascii_iterator", data := .fields #[.str x t, .int 0 0] }, ⟨_, Heap.get?_push_size _ rfl, rfl, rfl⟩, fun b hb o' e => ?_⟩, fun a e => by subst e; exact hP.fresh⟩
  · obtain ⟨o', e1, e2, e3⟩ := st
    exact ⟨o', e1, cls_iter e2 e3 (by decide) (by decide)⟩
  · obtain ⟨c, u, h1, rfl⟩ := hp
    rw [signs, List.getElem?_map] at hd'
    obtain ⟨c', h2, rfl⟩ := Option.map_eq_some_iff.mp hd'
    have h1' : x.cps.toList[i]? = some c := by simpa using h1
    rw [h1'] at h2; cases h2
    simp only [Rep]; exact ⟨_, rfl⟩
  · rw [List.mem_singleton.mp hb]; exact .inl rfl
  · rw [List.mem_singleton.mp hb] at e ⊢
    rw [Heap.get?_push_size _ rfl] at e; cases e; exact .inl ⟨rfl, upd_self ..⟩
theorem Itb.rngG (hh : A.handled = none) {a b : Int} (ha : -(2 ^ 62) ≤ a) (ha' : a < 2 ^ 62) (hb : -(2 ^ 62) ≤ b) (hb' : b < 2 ^ 62) {target : Expr} : Itb g A (.rng a b) (rngD a (b - a).toNat) target := Itb.rng hh (small_one ha ha' hb hb') (rangeSize_nat a b)
theorem Itb.rngN (hh : A.handled = none) (n : Nat) (hn : n < 2 ^ 62) {target : Expr} : Itb g A (.rng 0 (n : Int)) ((List.range n).map intD) target := by
  have h := Itb.rngG (g := g) (A := A) hh (a := 0) (b := n) (target := target) (by omega) (by omega) (by omega) (by omega)
  have e : rngD 0 ((n : Int) - 0).toNat = (List.range n).map intD := by
    rw [Int.sub_zero, Int.toNat_natCast, rngD]
    exact List.map_congr_left fun i _ => by rw [intD, Int.zero_add]
  rwa [e] at h
end
end TL
end
section
namespace TL
open PySem PySem.W PyProof.Rows PySem.Calls PyProof.Rows.LCg
section
variable {g : G} {A : Around} {env : Env} {ρ : List (Str × D)} {X : XP}
theorem Ev.clsAttr {K : Frag} {value : Expr} {name : Str} {pos : Pos} {C : Addr} {mc : Value} {x : Str} {t : Tok} (KX : K.In g.hb) (hv : Ev g A env ρ X value (.raw (.ref C))) (hr : readsIn K C mc = true) (e : findCls K (.ref C) mc name = some (.val (.str x t)))
    (he : eval (.Attribute value name pos) env = (do
      let o ← eval value env
      standAt pos.atName
      let r ← holding [o] (getAttr o name true)
      letTemporaryGo value o r
      pure r) := by with_unfolding_all rfl) : Ev g A env ρ X (.Attribute value name pos) (.str x) := Ev.mk fun F P V xx s hP => by
  refine Attribute_any_ ((hv.run F P V xx).out hP fun h tk P₁ o hP₁ ⟨F₁, e₁, r₁⟩ => ?_) he
  simp only [Rep] at r₁
  subst r₁
  exact cls_value (KX.keeps fun b o e => hP₁ _ _ (e₁.fp _ _ (e₁.f _ _ (V.base _ _ e)))) hr e rfl ⟨_, _, P₁, rfl, hP₁, F₁, e₁, by simp only [Rep]; exact ⟨_, rfl⟩⟩
theorem Ev.asLst {e : Expr} {a : Addr} {d : D} (h : Ev g A env ρ X e (.raw (.ref a))) (hX : ∀ F P, X.p F P → Rep F d (.ref a)) : Ev g A env ρ X e d := Ev.mk fun F P V x s hs => (h.run F P V x).out hs fun h tk P₁ v hP₁ ⟨F₁, e₁, r₁⟩ => by
  simp only [Rep] at r₁
  subst r₁
  exact ⟨_, _, P₁, rfl, hP₁, F₁, e₁, hX _ _ (X.st _ _ _ _ x e₁)⟩
theorem cmp_ge {a b : Int} : Op2 g A (compareOp .GtE) (.int a) (.int b) (.bool (decide (b ≤ a))) := fun F v₁ v₂ s Q E hs r₁ r₂ k => by
  simp only [Rep] at r₁ r₂; obtain ⟨t, rfl⟩ := r₁; obtain ⟨u, rfl⟩ := r₂
  exact PyProof.Rows.ge_int (k _ s.toks (by simp only [Rep]))
theorem cmp_le {a b : Int} : Op2 g A (compareOp .LtE) (.int a) (.int b) (.bool (decide (a ≤ b))) := fun F v₁ v₂ s Q E hs r₁ r₂ k => by
  simp only [Rep] at r₁ r₂; obtain ⟨t, rfl⟩ := r₁; obtain ⟨u, rfl⟩ := r₂
  exact PyProof.Rows.le_int (k _ s.toks (by simp only [Rep]))
theorem op_addS {x y : Str} (h : x.length + y.length ≤ sizeLine) : Op2 g A (binaryOp .Add) (.str x) (.str y) (.str (x ++ y)) := fun F v₁ v₂ s Q E hs r₁ r₂ k => by
  simp only [Rep] at r₁ r₂; obtain ⟨t, rfl⟩ := r₁; obtain ⟨u, rfl⟩ := r₂
  exact PyProof.Rows.add_str (fun t' tk => k _ _ (by simp only [Rep]; exact ⟨_, rfl⟩)) h
theorem repL_rep {F : PH} {ds : List D} {vs : List Value} (h : RepL F ds vs) : ∀ k : Nat, RepL F (List.replicate k ds).flatten (List.replicate k vs).flatten
  | 0 => .nil
  | k + 1 => by
    rw [List.replicate_succ, List.replicate_succ, List.flatten_cons, List.flatten_cons]
    exact h.append (repL_rep h k)
theorem mul_core {F : PH} {ds : List D} {k : Int} {v w : Value} {s : Shared} {Q : Value → Shared → Prop} {E : Value → Shared → Prop} (hs : Has s.heap F) (r : Rep F (.lst ds) v) (r' : Rep F (.int k) w) (h0 : -(2 ^ 63) ≤ k) (h1 : k < 2 ^ 63) (hsz : ds.length * k.toNat ≤ 2 ^ 24)
    (q : ∀ xs, RepL F (List.replicate k.toNat ds).flatten xs → Q (.ref s.heap.objs.size) { s with heap := s.heap.push { cls := .type "list", data := .seq xs.toArray } }) : wpAny (model g.prog g.w) A (binaryOp .Mult v w) Q E s := by
  simp only [Rep] at r r'
  obtain ⟨l, o, vs, n, rfl, hF, hc, hd, hl⟩ := r
  obtain ⟨u, rfl⟩ := r'
  have ho := hs _ _ hF
  rw [obj_of hc hd] at ho
  have hlen : vs.size = ds.length := by have := hl.length; simpa using this
  have hne : vs = vs.toList.toArray := by simp
  have hsz' : vs.size * k.toNat ≤ 2 ^ 24 := by rw [hlen]; exact hsz
  refine wpAny_binaryOp_repeat_ref (T := "list") (U := "int") (by decide) ⟨_, ho, rfl⟩ (fun s' => typeIs_int s' k u) noFill_list_mul PySem.F.fills_int_mul PySem.F.slot_int_rmul repeat_list PySem.F.slot_int_index.lookup
    (call_meets PySem.F.slot_int_rmul (typeIs_int s k u) PySem.F.entry_int_rmul (PySem.F.args_int_rmul_2 _ _) (lm_int_rmul_list_any k u l vs n none #[])
      ⟨ho, rfl, ⟨_, ho, rfl⟩, call_meets PySem.F.slot_list_mul ⟨_, ho, rfl⟩ PySem.F.entry_list_mul (PySem.F.args_list_mul_2 _ _)
        (lm_list_mul_any l vs n none #[] k u (by simp [Builtin.List.listFitsIndex]; omega) (by omega) (by simp [Builtin.List.listTooLong, sizeLine]; omega))
        ⟨ho, ?_⟩⟩)
  have := q _ (repL_rep hl k.toNat)
  rw [hne, listMul_foldl_if]
  exact this
theorem Ev.mulL {a b : Expr} {pos : Pos} {ds : List D} {k : Int} (h₁ : Ev g A env ρ X a (.lst ds)) (h₂ : Ev g A env ρ X b (.int k)) (h0 : -(2 ^ 63) ≤ k) (h1 : k < 2 ^ 63) (hsz : ds.length * k.toNat ≤ 2 ^ 24) : Ev g A env ρ X (.BinOp a .Mult b pos) (.lst (List.replicate k.toNat ds).flatten) := Ev.mk fun F P V x s hs => by
  refine wpAny_BinOp ((h₁.run F P V x).out hs fun h tk P₁ v₁ hP₁ ⟨F₁, e₁, r₁⟩ => ?_)
  refine (h₂.run F₁ P₁ (V.ext e₁) (X.st _ _ _ _ x e₁)).out hP₁ fun h tk P₂ v₂ hP₂ ⟨F₂, e₂, r₂⟩ => ?_
  refine mul_core (s := { s with heap := h, toks := tk }) (hP₂.sub e₂.fp) (r₁.sub e₂.f) r₂ h0 h1 hsz fun xs hx => ⟨_, _, _, rfl, hP₂.push rfl, _, (e₁.trans e₂).trans (.alloc e₂.fp hP₂.fresh), ?_⟩
  simp only [Rep]
  exact ⟨_, _, _, _, rfl, upd_self .., ⟨rfl, rfl, rfl⟩, rfl, hx.sub (.upd_new (none_of e₂.fp hP₂.fresh))⟩
theorem EvN.mulL {a b : Expr} {pos : Pos} {ds : List D} {k : Int} (h₁ : Ev g A env ρ X a (.lst ds)) (h₂ : Ev g A env ρ X b (.int k)) (h0 : -(2 ^ 63) ≤ k) (h1 : k < 2 ^ 63) (hsz : ds.length * k.toNat ≤ 2 ^ 24) : EvN g A env ρ X (.BinOp a .Mult b pos) (List.replicate k.toNat ds).flatten := EvN.mk fun F P V x s hs => by
  refine wpAny_BinOp ((h₁.run F P V x).out hs fun h tk P₁ v₁ hP₁ ⟨F₁, e₁, r₁⟩ => ?_)
  refine (h₂.run F₁ P₁ (V.ext e₁) (X.st _ _ _ _ x e₁)).out hP₁ fun h tk P₂ v₂ hP₂ ⟨F₂, e₂, r₂⟩ => ?_
  have e₁₂ := e₁.trans e₂
  refine mul_core (s := { s with heap := h, toks := tk }) (hP₂.sub e₂.fp) (r₁.sub e₂.f) r₂ h0 h1 hsz fun xs hx => ⟨_, _, _, rfl, hP₂.push rfl, F₂, _, xs, _, rfl, e₁₂.trans (.own e₂.fp hP₂.fresh), none_of e₁₂.p hP₂.fresh, none_of e₂.fp hP₂.fresh, upd_self .., hx⟩
theorem EvN.addO {a b : Expr} {pos : Pos} {c : Addr} {ds d₂ : List D} (h₁ : Ev g A env ρ X a (.raw (.ref c))) (hX : ∀ F P, X.p F P → ∃ xs n, P c = some (lstN xs n) ∧ RepL F ds xs) (h₂ : Ev g A env ρ X b (.lst d₂)) (hl : ds.length + d₂.length ≤ 4096) : EvN g A env ρ X (.BinOp a .Add b pos) (ds ++ d₂) := EvN.mk fun F P V x s hs => by
  refine wpAny_BinOp ((h₁.run F P V x).out hs fun h tk P₁ v₁ hP₁ ⟨F₁, e₁, r₁⟩ => ?_)
  refine (h₂.run F₁ P₁ (V.ext e₁) (X.st _ _ _ _ x e₁)).out hP₁ fun h tk P₂ v₂ hP₂ ⟨F₂, e₂, r₂⟩ => ?_
  obtain ⟨xs, n, k1, k2⟩ := hX _ _ (X.st _ _ _ _ (X.st _ _ _ _ x e₁) e₂)
  have e₁₂ := e₁.trans e₂
  simp only [Rep] at r₁ r₂
  subst r₁
  obtain ⟨b, o', ws, m, rfl, hF', hc', hd', hl₂⟩ := r₂
  have q1 : xs.toArray.size = ds.length := by have := k2.length; simpa using this
  have q2 : ws.size = d₂.length := by have := hl₂.length; simpa using this
  refine PySem.P.add_list (n := n) (n2 := m) (hP₂ _ _ k1) ((hP₂ _ _ (e₂.fp _ _ hF')).trans (congrArg some (obj_of hc' hd'))) ⟨_, _, _, rfl, hP₂.push rfl, F₂, _, (xs ++ ws.toList), 0, rfl, e₁₂.trans (.own e₂.fp hP₂.fresh), none_of e₁₂.p hP₂.fresh, none_of e₂.fp hP₂.fresh, ?_, ?_⟩ (by rw [q1, q2]; exact Nat.le_trans hl (by decide))
  · rw [upd_self]; simp [lstN]
  · exact k2.append hl₂
end
section
variable {g : G} {A : Around} {fx : Fx} {ρ ρ' : List (Str × D)} {X X' : XS fx} {o : Out}
theorem Sq.unpack {ts : List Expr} {kk : Nat} {tpos pos : Pos} {value : Expr} {r : List Stmt} {d : D} (h : Ev g A fx.env ρ X.toXP value d) (ha : Asg g A fx.env (muts fx.env) (.Tuple ts kk tpos) d ρ ρ') (hs : swapsWithSole [.Tuple ts kk tpos] value pos.line fx.env = pure false) (hw : swappedStores [.Tuple ts kk tpos] value fx.env = pure none)
    (k : Ex g A fx X X' (execs r fx.env) ρ' o) : Ex g A fx X X' (execs (.Assign [.Tuple ts kk tpos] value pos :: r) fx.env) ρ o := Ex.mk fun F P I V M xx s hP => by
  refine wpAny_execs_cons (Assign_Tuple ((h.run F P V xx).out hP fun h tk P₁ v hP₁ ⟨F₁, e₁, r₁⟩ => ?_) hs hw)
  refine (ha F₁ P₁ v (V.ext e₁) (M.ext V e₁) r₁).out hP₁ fun h tk P₂ _ hP₂ ⟨F₂, s₂, t₂, V₂, M₂⟩ => ?_
  have x₂ := X.stp _ _ _ _ _ (X.st _ _ _ _ xx e₁) s₂ fun a h => .inl h
  exact (k.run F₂ P₂ (inv_step (I.trans e₁) s₂ fx.nm) V₂ M₂ x₂).out hP₂ fun h tk P₃ f hP₃ ⟨F₃, t₃, I₃, x₃, q⟩ => ⟨_, _, P₃, rfl, hP₃, F₃, (e₁.soft.trans t₂).trans t₃, I₃, x₃, q⟩
theorem Sq.swap {ts : List Expr} {kk : Nat} {tpos pos : Pos} {value : Expr} {r : List Stmt} {a b : Str} {d₁ d₂ : D} (hh : A.handled = none) (h : Ev g A fx.env ρ X.toXP value (.tup [d₁, d₂])) (h1 : AdrOk fx.env (muts fx.env) a) (h2 : AdrOk fx.env (muts fx.env) b)
    (hs : swapsWithSole [.Tuple ts kk tpos] value pos.line fx.env = pure false) (hw : swappedStores [.Tuple ts kk tpos] value fx.env = pure (some [a, b]))
    (k : Ex g A fx X X' (execs r fx.env) ((a, d₁) :: (b, d₂) :: ρ) o) : Ex g A fx X X' (execs (.Assign [.Tuple ts kk tpos] value pos :: r) fx.env) ρ o := Ex.mk fun F P I V M xx s hP => by
  refine wpAny_execs_cons (Assign_Tuple_swapped ((h.run F P V xx).out hP fun h tk P₁ v hP₁ ⟨F₁, e₁, r₁⟩ => ?_) hs hw)
  simp only [Rep] at r₁
  obtain ⟨t, o, vs, n, rfl, hF, hc, hd, hl⟩ := r₁
  obtain ⟨v₁, v₂, e, r1, r2⟩ := RepL.two hl
  have V₁ := V.ext e₁
  have x₁ := X.st _ _ _ _ xx e₁
  have h2' : vs.size = 2 := by have := hl.length; simpa using this
  show wpAny _ A (unpackItems (.ref t) 2 Option.none) _ _ _
  rw [← h2']
  refine unpackItems_tuple (s := { s with heap := h, toks := tk }) hh ⟨o, hP₁ _ _ (e₁.fp _ _ hF), hc.1, n, hd⟩ fun h' hx => ?_
  have hP₂ : Has h' P₁ := fun b o' e => hx b o' (Nat.ne_of_lt (hP₁.lt (by rw [e]; exact fun z => nomatch z))) (hP₁ _ _ e)
  rw [e]
  refine assignInOrder_cons (wpAny_bindName ((Ex.store (X := X) (I.trans e₁) V₁ V₁.m x₁ r2 h2).out (s := { s with heap := h', toks := tk }) hP₂ fun h tk P₃ _ hP₃ ⟨t₃, I₃, x₃, V₃, M₃⟩ => ?_))
  refine assignInOrder_cons (wpAny_bindName ((Ex.store (X := X) I₃ V₃ M₃ x₃ r1 h1).out hP₃ fun h tk P₄ _ hP₄ ⟨t₄, I₄, x₄, V₄, M₄⟩ => ?_))
  refine assignInOrder_nil ?_
  exact (k.run F₁ P₄ I₄ V₄ M₄ x₄).out hP₄ fun h tk P₅ f hP₅ ⟨F₅, t₅, I₅, x₅, q⟩ => ⟨_, _, P₅, rfl, hP₅, F₅, ((e₁.soft.trans t₃).trans t₄).trans t₅, I₅, x₅, q⟩
theorem Sq.assign3 {a b c : Str} {pa pb pc pos : Pos} {value : Expr} {r : List Stmt} {d : D} (h : Ev g A fx.env ρ X.toXP value d) (h1 : AdrOk fx.env (muts fx.env) a) (h2 : AdrOk fx.env (muts fx.env) b) (h3 : AdrOk fx.env (muts fx.env) c)
    (k : Ex g A fx X X' (execs r fx.env) ((c, d) :: (b, d) :: (a, d) :: ρ) o) (hw : swappedStores [.Name a pa, .Name b pb, .Name c pc] value fx.env = pure none := by rfl) : Ex g A fx X X' (execs (.Assign [.Name a pa, .Name b pb, .Name c pc] value pos :: r) fx.env) ρ o := Ex.mk fun F P I V M xx s hP => by
  refine wpAny_execs_cons (wpAny_Assign_three ((h.run F P V xx).out hP fun h tk P₁ v hP₁ ⟨F₁, e₁, r₁⟩ => ?_) rfl hw)
  have V₁ := V.ext e₁
  refine wpAny_assign_Name ((Ex.store (X := X) (I.trans e₁) V₁ V₁.m (X.st _ _ _ _ xx e₁) r₁ h1).out hP₁ fun h tk P₃ _ hP₃ ⟨t₃, I₃, x₃, V₃, M₃⟩ => ?_)
  refine wpAny_assign_Name ((Ex.store (X := X) I₃ V₃ M₃ x₃ r₁ h2).out hP₃ fun h tk P₄ _ hP₄ ⟨t₄, I₄, x₄, V₄, M₄⟩ => ?_)
  refine wpAny_assign_Name ((Ex.store (X := X) I₄ V₄ M₄ x₄ r₁ h3).out hP₄ fun h tk P₅ _ hP₅ ⟨t₅, I₅, x₅, V₅, M₅⟩ => ?_)
  exact (k.run F₁ P₅ I₅ V₅ M₅ x₅).out hP₅ fun h tk P₆ f hP₆ ⟨F₆, t₆, I₆, x₆, q⟩ => ⟨_, _, P₆, rfl, hP₆, F₆, (((e₁.soft.trans t₃).trans t₄).trans t₅).trans t₆, I₆, x₆, q⟩
end
end TL
namespace TL
open PySem PySem.W PyProof.Rows PySem.Calls PyProof.Rows.LCg
section
variable {g : G} {A : Around} {fx : Fx} {ρ ρ' : List (Str × D)} {X X' X'' : XS fx} {o : Out}
theorem Sq.nilQ {Q : PH → PH → Flow → Prop} (h : ∀ F P, Vars g.hb fx.env F P ρ → X.p F P → Q F P .next) : Ex g A fx X XS.tt (execs [] fx.env) ρ (.any Q) := Ex.mk fun F P I V M x s hs =>
  wpAny_execs_nil ⟨_, s.toks, P, rfl, hs, F, (Ext.refl V.fp).soft, I, trivial, h F P V x⟩
theorem Sq.brkQ {pos : Pos} {r : List Stmt} {Q : PH → PH → Flow → Prop} (h : ∀ F P, Vars g.hb fx.env F P ρ → X.p F P → Q F P .brk) : Ex g A fx X XS.tt (execs (.Break pos :: r) fx.env) ρ (.any Q) := Ex.mk fun F P I V M x s hs => by
  refine wpAny_execs_cons (wpAny_Break ?_)
  exact ⟨_, s.toks, P, rfl, hs, F, (Ext.refl V.fp).soft, I, trivial, h F P V x⟩
theorem Sq.lastQ {st : Stmt} {Q : PH → PH → Flow → Prop} (h : Ex g A fx X XS.tt (exec st fx.env) ρ (.any Q)) : Ex g A fx X XS.tt (execs [st] fx.env) ρ (.any Q) := Ex.mk fun F P I V M x s hs => by
  refine wpAny_execs_cons ((h.run F P I V M x).out hs fun h tk P₁ f hP ⟨F₁, t₁, I₁, x₁, q⟩ => ?_)
  cases f with
  | next => exact wpAny_execs_nil ⟨_, _, P₁, rfl, hP, F₁, t₁, I₁, x₁, q⟩
  | _ => exact ⟨_, _, P₁, rfl, hP, F₁, t₁, I₁, x₁, q⟩
theorem Sq.seqQ {ι : Type} (R : ι → List (Str × D)) (Y : ι → XS fx) {st : Stmt} {r : List Stmt} (h : Ex g A fx X XS.tt (exec st fx.env) ρ (.any (NextQ g fx R Y))) (k : ∀ j, Ex g A fx (Y j) X'' (execs r fx.env) (R j) o) : Ex g A fx X X'' (execs (st :: r) fx.env) ρ o := Ex.mk fun F P I V M x s hs => by
  refine wpAny_execs_cons ((h.run F P I V M x).out hs fun h tk P₁ f hP ⟨F₁, t₁, I₁, x₁, q⟩ => ?_)
  obtain ⟨rfl, j, V₁, y⟩ := q
  exact ((k j).run F₁ P₁ I₁ V₁ V₁.m y).out hP fun h tk P₂ f hP₂ ⟨F₂, t₂, I₂, x₂, q⟩ => ⟨_, _, P₂, rfl, hP₂, F₂, t₁.trans t₂, I₂, x₂, q⟩
end
end TL
end
section
namespace TL
open PySem PySem.W PyProof.Rows PySem.Calls PyProof.Rows.LCg PySem.SeqAt
noncomputable def CmpOk : Nat → D → Prop
  | _, .int _ => True
  | n + 1, .tup l => ∀ d ∈ l, CmpOk n d
  | _, _ => False
theorem eqAt_same : ∀ (n : Nat) {A : Around} {F : PH} {s : Shared} {d : D} {v w : Value}, CmpOk n d → A.units + n < cLine → Has s.heap F → Rep F d v → Rep F d w → EqAt A s v w true
  | n, A, F, s, .int i, v, w, _, _, _, r1, r2 => by
    simp only [Rep] at r1 r2
    obtain ⟨t, rfl⟩ := r1
    obtain ⟨u, rfl⟩ := r2
    have := EqAt.int_int (A := A) (s := s) i t i u
    simpa using this
  | n + 1, A, F, s, .tup l, v, w, h, hu, hF, r1, r2 => by
    simp only [Rep] at r1 r2
    obtain ⟨a, o, xs, k, rfl, f1, c1, d1, l1⟩ := r1
    obtain ⟨b, o', ys, k', rfl, f2, c2, d2, l2⟩ := r2
    have h' : ∀ d ∈ l, CmpOk n d := by simpa [CmpOk] using h
    by_cases q : a = b
    · subst q
      intro prog w E Q hq
      unfold eqBool
      refine wpAny_holding ?_
      refine wpAny_ite_split (fun _ => ?_) (fun z => absurd (beq_self_eq_true _) z)
      exact wpAny_pure (M := model prog w) (E := E) hq
    · have s1 : xs.size = l.length := by have := l1.length; simpa using this
      have s2 : ys.size = l.length := by have := l2.length; simpa using this
      refine EqAt.of_refs q ?_
      have R := RcAt.tuples (A := A) (s := s) (e := fun _ => true) ⟨o, hF _ _ f1, c1.1, k, d1⟩ ⟨o', hF _ _ f2, c2.1, k', d2⟩ (by omega) fun j h1 h2 => by
        have hj : j < l.length := by omega
        obtain ⟨v', e1, r1⟩ := l1.get (List.getElem?_eq_getElem hj)
        obtain ⟨w', e2, r2⟩ := l2.get (List.getElem?_eq_getElem hj)
        have z1 : xs[j] = v' := by
          rw [List.getElem?_eq_getElem (by simpa using h1)] at e1
          simpa using e1
        have z2 : ys[j] = w' := by
          rw [List.getElem?_eq_getElem (by simpa using h2)] at e2
          simpa using e2
        rw [z1, z2]
        exact eqAt_same n (h' _ (List.getElem_mem hj)) (by rw [show A.in1.units = A.units + 1 from rfl]; omega) hF r1 r2
      have e : ((List.range (min xs.size ys.size)).all (fun _ => true) && xs.size == ys.size) = true := by
        rw [s1, s2]; simp
      rw [e] at R
      exact R
  | 0, _, _, _, .tup _, _, _, h, _, _, _, _ => by simp [CmpOk] at h
  | n, _, _, _, .none, _, _, h, _, _, _, _ | n, _, _, _, .bool _, _, _, h, _, _, _, _ | n, _, _, _, .flt _, _, _, h, _, _, _, _ | n, _, _, _, .str _, _, _, h, _, _, _, _ | n, _, _, _, .lst _, _, _, h, _, _, _, _ | n, _, _, _, .rng _ _, _, _, h, _, _, _, _ | n, _, _, _, .set _, _, _, h, _, _, _, _ | n, _, _, _, .raw _, _, _, h, _, _, _, _ | n, _, _, _, .emp, _, _, h, _, _, _, _ | n, _, _, _, .empIt, _, _, h, _, _, _, _ => by simp [CmpOk] at h
section
variable {g : G} {A : Around} {env : Env} {ρ : List (Str × D)} {X : XP}
theorem ne_same {n : Nat} {l : List D} (cx : Cx A 1) (hn : n ≤ 6) (h : ∀ d ∈ l, CmpOk n d) : Op2 g A (compareOp .NotEq) (.tup l) (.tup l) (.bool false) := fun F v₁ v₂ s Q E hs r1 r2 k => by
  simp only [Rep] at r1 r2
  obtain ⟨a, o, xs, k1, rfl, f1, c1, d1, l1⟩ := r1
  obtain ⟨b, o', ys, k2, rfl, f2, c2, d2, l2⟩ := r2
  have hu := cx.u
  have s1 : xs.size = l.length := by have := l1.length; simpa using this
  have s2 : ys.size = l.length := by have := l2.length; simpa using this
  have R := RcNeAt.tuples (A := A) (s := s) (e := fun _ => true) ⟨o, hs _ _ f1, c1.1, k1, d1⟩ ⟨o', hs _ _ f2, c2.1, k2, d2⟩ (by omega) fun j h1 h2 => by
    have hj : j < l.length := by omega
    obtain ⟨v', e1, r1⟩ := l1.get (List.getElem?_eq_getElem hj)
    obtain ⟨w', e2, r2⟩ := l2.get (List.getElem?_eq_getElem hj)
    have z1 : xs[j] = v' := by
      rw [List.getElem?_eq_getElem (by simpa using h1)] at e1
      simpa using e1
    have z2 : ys[j] = w' := by
      rw [List.getElem?_eq_getElem (by simpa using h2)] at e2
      simpa using e2
    rw [z1, z2]
    exact eqAt_same n (h _ (List.getElem_mem hj)) (by rw [show A.in1.units = A.units + 1 from rfl]; omega) hs r1 r2
  have e : (!((List.range (min xs.size ys.size)).all (fun _ => true) && xs.size == ys.size)) = false := by
    rw [s1, s2]; simp
  rw [e] at R
  show wpAny _ A (richCompare .NotEq _ _) Q E s
  exact R g.prog g.w E Q (k _ s.toks (by simp only [Rep]))
noncomputable def isK (k : Nat) : Value → Bool
  | .int i _ => i == (k : Int)
  | _ => false
theorem nats_any {F : PH} (k : Nat) : ∀ {ns : List Nat} {vs : List Value}, RepL F (ns.map intD) vs → vs.any (isK k) = ns.contains k
  | [], _, h => by simp only [List.map_nil, RepL] at h; subst h; rfl
  | n :: r, _, h => by
    simp only [List.map_cons, RepL, Rep, intD] at h
    obtain ⟨v, q, rfl, ⟨t, rfl⟩, h2⟩ := h
    rw [List.any_cons, nats_any k h2, List.contains_cons, isK]
    congr 1
    rw [Bool.eq_iff_iff]; simp only [beq_iff_eq]; omega
theorem nats_eq {F : PH} {s : Shared} {A : Around} (k : Nat) (t : Tok) : ∀ {ns : List Nat} {vs : List Value}, RepL F (ns.map intD) vs → ∀ y ∈ vs, EqAt A s y (.int (k : Int) t) (isK k y)
  | [], _, h, y, hy => by simp only [List.map_nil, RepL] at h; subst h; cases hy
  | n :: r, _, h, y, hy => by
    simp only [List.map_cons, RepL, Rep, intD] at h
    obtain ⟨v, q, rfl, ⟨u, rfl⟩, h2⟩ := h
    rcases List.mem_cons.mp hy with rfl | hy
    · exact EqAt.int_int _ _ _ _
    · exact nats_eq k t h2 y hy
theorem cmp_in {k : Nat} {ns : List Nat} : Op2 g A (compareOp .In) (intD k) (.tup (ns.map intD)) (.bool (ns.contains k)) := fun F v₁ v₂ s Q E hs r1 r2 kk => by
  simp only [Rep, intD] at r1 r2
  obtain ⟨t, rfl⟩ := r1
  obtain ⟨b, o', ys, k2, rfl, f2, c2, d2, l2⟩ := r2
  refine in_tupleAt (isK k) ⟨o', hs _ _ f2, c2.1, k2, d2⟩ (fun y hy => nats_eq k t l2 y (by simpa using hy)) ?_
  rw [← Array.any_toList, nats_any k l2]
  exact kk _ s.toks (by simp only [Rep])
theorem cmp_notIn {k : Nat} {ns : List Nat} : Op2 g A (compareOp .NotIn) (intD k) (.tup (ns.map intD)) (.bool (!ns.contains k)) := fun F v₁ v₂ s Q E hs r1 r2 kk => by
  simp only [Rep, intD] at r1 r2
  obtain ⟨t, rfl⟩ := r1
  obtain ⟨b, o', ys, k2, rfl, f2, c2, d2, l2⟩ := r2
  refine notIn_tupleAt (isK k) ⟨o', hs _ _ f2, c2.1, k2, d2⟩ (fun y hy => nats_eq k t l2 y (by simpa using hy)) ?_
  rw [← Array.any_toList, nats_any k l2]
  exact kk _ s.toks (by simp only [Rep])
theorem nats_map (l : List Nat) : l.map intD = (l.map fun (n : Nat) => (n : Int)).map D.int := by rw [List.map_map]; rfl
theorem countN {l : List Nat} (k : Nat) : (l.map fun (n : Nat) => (n : Int)).count (k : Int) = l.count k := by
  induction l with
  | nil => rfl
  | cons a r ih =>
    rw [List.map_cons, List.count_cons, List.count_cons, ih]
    congr 1
    by_cases h : a = k
    · subst h; simp
    · rw [if_neg (by simpa using fun z => h (by omega)), if_neg (by simpa using h)]
theorem countN_ok {ns : List Nat} {k : Nat} {n : Nat} : CallOk g (.builtin "list.count") [natsD ns, intD k] (intD (ns.count k)) n := fun A F P vs cx hb hf hr s hP => by
  obtain ⟨v, w, rfl, r1, r2⟩ := RepL.two hr
  simp only [Rep, natsD, intD] at r1 r2
  obtain ⟨t, rfl⟩ := r2
  obtain ⟨a, o, vs, k', rfl, h1, h2, h3, h4⟩ := r1
  have h4' : RepL F ((ns.map fun (n : Nat) => (n : Int)).map D.int) vs.toList := by rw [← nats_map]; exact h4
  refine PyProof.Rows.count_list_ints (vs := vs.toList) (ns := ns.map fun (n : Nat) => (n : Int)) ⟨o, hP _ _ (hf _ _ h1), h2.1, k', h3⟩ (intsAre_of h4') ?_
  rw [countN]
  exact ⟨_, _, P, rfl, hP, F, .refl hf, by simp only [Rep, intD]; exact ⟨_, rfl⟩⟩
theorem mul_sp (n : Nat) : (Txt.mul " " (n : Int)).cps.toList = List.replicate n 32 := by
  unfold Txt.mul
  by_cases h : (n : Int) < 1
  · rw [if_pos h]
    have : n = 0 := by omega
    subst this; rfl
  · rw [if_neg h]
    have l1 : (" " : Str).length = 1 := by decide +kernel
    have c1 : (" " : Str).cps = #[32] := by decide +kernel
    by_cases h1 : n = 1
    · subst h1; rw [if_pos (by simp)]; rw [c1]; rfl
    · have e0 : ((n : Int) == 1) = false := by simpa using (by omega : (n : Int) ≠ 1)
      rw [if_neg (by rw [e0, l1]; decide), c1, Int.toNat_natCast]
      have gen : ∀ (k : Nat) (a : Array Nat), ((List.replicate k #[32]).foldl (· ++ ·) a).toList = a.toList ++ List.replicate k 32 := fun k => by
        induction k with
        | zero => intro a; simp
        | succ k ih => intro a; rw [List.replicate_succ, List.foldl_cons, ih, List.replicate_succ]; simp
      have := gen n #[]
      simpa using this
theorem glue_nil (ys : List Str) : (Txt.join "" ys).cps.toList = (ys.map fun y => y.cps.toList).flatten := by
  have gen : ∀ (l : List Str) (a : Array Nat), (l.foldl (fun acc p => acc ++ ("" : Str).cps ++ p.cps) a).toList = a.toList ++ (l.map fun y => y.cps.toList).flatten := fun l => by
    induction l with
    | nil => intro a; simp
    | cons y r ih =>
      intro a
      have e : ("" : Str).cps = #[] := by decide +kernel
      rw [List.foldl_cons, ih, List.map_cons, List.flatten_cons]
      simp [e]
  cases ys with
  | nil => rfl
  | cons y r =>
    show ((r.foldl (fun acc p => acc ++ ("" : Str).cps ++ p.cps) y.cps)).toList = _
    rw [gen, List.map_cons, List.flatten_cons]
theorem op_mulS {n : Nat} (h : n ≤ 4096) : Op2 g A (binaryOp .Mult) (.str " ") (intD n) (.str (Txt.mul " " (n : Int))) := fun F v₁ v₂ s Q E hs r1 r2 k => by
  simp only [Rep, intD] at r1 r2
  obtain ⟨t, rfl⟩ := r1
  obtain ⟨u, rfl⟩ := r2
  have l1 : (" " : Str).length = 1 := by decide +kernel
  refine SB.mul ⟨by simp; omega, fun h1 _ => ?_, fun h1 _ => ?_⟩ fun t' tk => k _ _ (by simp only [Rep]; exact ⟨_, rfl⟩)
  · rw [l1]
    have : (1 : Int) ≤ (2 ^ 63 - 1) / (n : Int) := by
      rw [Int.le_ediv_iff_mul_le (by omega)]; omega
    omega
  · rw [l1, Int.toNat_natCast, Nat.one_mul]
    unfold PySem.Builtin.Str.tooLong
    have z : sizeLine = 2 ^ 24 := rfl
    simp
    omega
end
end TL
end
section
namespace TL
open PySem PySem.W PyProof.Rows PySem.Calls PyProof.Rows.LCg
local macro_rules | `(tactic| walk_at "lits") => `(tactic| (repeat' (first | exact List.forall_mem_nil _ | refine List.forall_mem_cons.mpr ⟨⟨rfl, rfl⟩, ?_⟩ | refine List.forall_mem_cons.mpr ⟨rfl, ?_⟩)))
local macro_rules | `(tactic| walk_at "ev") => `(tactic| (repeat' (first | with_reducible exact EvL.nil | (with_reducible refine EvL.cons ?_ ?_ ?_) | with_reducible exact Ev.int | with_reducible exact Ev.str | ((with_reducible refine Ev.loc ?_ ?_ ?_) <;> rfl) | ((with_reducible refine Ev.cell ?_ ?_ ?_) <;> rfl) | (with_reducible refine Ev.tuple ?_ ?_) | (with_reducible refine Ev.list ?_ ?_) | (with_reducible refine Ev.subK ?_ ?_ ?_) | (with_reducible refine Nat.le_of_ble_eq_true ?_) | (show _ = _; rfl))))
open PySem.Builtin.Re
theorem letter_small : ∀ x ∈ letters, x.cps.size < 2 ^ 62 := by decide
theorem conv_ok {g : G} (ok : GOk g) {f pN pV : Addr} (fn : MethAt g 19 1 "Headers._convert_string_type" .none f) (hn : PatAt g pN nameCode) (hv : PatAt g pV valueCode) (gN : g.mg "_name_disallowed_re" = some (.ref pN)) (gV : g.mg "_value_disallowed_re" = some (.ref pV))
    (gT : g.mg "type" = none) (gS : g.mg "str" = none) (x : Str) (hx : x ∈ letters) (b : Bool) (dS : D) : CallX g (.ref f) [dS, .str x] [("name", .bool b)] 2 NoW (fun _ _ => True) (fun F _ v => Rep F (.str x) v) := by
  refine CallX.fn (ns := ["self", "value", "name"]) (ds := [dS, .str x, .bool b]) (d := .str x) ok fn (sc_ok (by decide +kernel)) rfl (fun doc pm an cdv ct A F P vs kvs hb hf hr hk s hP => ?_) (fun _ _ _ _ _ _ => trivial) (fun _ _ _ _ h => h.elim) (fun _ _ _ _ _ h => h.elim) fun A fx L cells cd cx he _ _ => ⟨XS.tt, XS.tt, fun _ _ _ => trivial, fun _ _ _ _ r => r, ?_⟩
  · obtain ⟨v, w, rfl, r1, r2⟩ := RepL.two hr
    obtain ⟨u, rfl, r3⟩ := RepL.one hk
    exact wpAny_pure ⟨_, s.toks, P, rfl, hP, F, [v, w, u], rfl, .refl hf, .cons r1 (.cons r2 (.cons r3 .nil))⟩
  · obtain ⟨env, F₀, P₀, nm⟩ := fx
    dsimp only at he
    subst he
    refine Sq.ifR (EvB.cmp (Ev.call cx (Ev.builtin ok gT rfl (by decide) rfl rfl) Keep.type (EvL.cons (Ev.loc rfl rfl rfl) EvL.nil) type_str) (Ev.builtin ok gS rfl (by decide) rfl rfl) (op_is rfl)) ?_
    refine Sq.assign (.raw (.ref (if b then pN else pV))) ?_ ?_ ?_ ?_
    · refine Ev.ite (EvB.val (Ev.loc rfl rfl rfl)) (fun h => ?_) (fun h => ?_)
      · subst h; exact Ev.glob ok gN rfl rfl
      · subst h; exact Ev.glob ok gV rfl rfl
    · exact AdrOk.loc rfl
    · rfl
    have hp : PatAt g (if b then pN else pV) (if b then nameCode else valueCode) := by cases b <;> assumption
    have hm : misses (if b then nameCode else valueCode) x = true := by
      cases b
      · exact value_misses x hx
      · exact name_misses x hx
    refine Sq.iff (EvB.noneV (Ev.ofX (EvX.meth cx (Ev.loc rfl rfl rfl) (gm_search hp) Keep.builtin (EvL.cons (Ev.loc rfl rfl rfl) EvL.nil) (CallX.of (search_ok hp (letter_small x hx) hm)) (fun _ _ _ => trivial) (fun _ _ _ _ h => h.elim) rfl))) ?_
    exact Sq.ret (Ev.loc rfl rfl rfl)
end TL
end
section
namespace TL
open PySem PySem.W PyProof.Rows PySem.Calls PyProof.Rows.LCg
local macro_rules | `(tactic| walk_at "lits") => `(tactic| (repeat' (first | exact List.forall_mem_nil _ | refine List.forall_mem_cons.mpr ⟨⟨rfl, rfl⟩, ?_⟩ | refine List.forall_mem_cons.mpr ⟨rfl, ?_⟩)))
local macro_rules | `(tactic| walk_at "ev") => `(tactic| (repeat' (first | with_reducible exact EvL.nil | (with_reducible refine EvL.cons ?_ ?_ ?_) | with_reducible exact Ev.int | with_reducible exact Ev.str | ((with_reducible refine Ev.loc ?_ ?_ ?_) <;> rfl) | ((with_reducible refine Ev.cell ?_ ?_ ?_) <;> rfl) | (with_reducible refine Ev.tuple ?_ ?_) | (with_reducible refine Ev.list ?_ ?_) | (with_reducible refine Ev.subK ?_ ?_ ?_) | (with_reducible refine Nat.le_of_ble_eq_true ?_) | (show _ = _; rfl))))
structure HK (g : G) (K : Frag) (C fI fC fA fG : Addr) : Prop where
  KX : K.In g.hb
  mkC : makesIn K C = true
  keep : keepIn K (.ref C) = true
  ini : findIn K (.ref C) "__init__" = some (some (.ref fI))
  iniT : typeIn K (.ref fI) = some (.type "function")
  pg : ∀ name, plainGet K C name = true
  hd : hasDictIn K C = true
  at_ : findIn K (.ref C) "_headers" = some none
  cv : findIn K (.ref C) "_convert_string_type" = some (some (.ref fC))
  cvF : isFn K (.ref fC) = true
  ad : findIn K (.ref C) "add_header" = some (some (.ref fA))
  adF : isFn K (.ref fA) = true
  ga : findIn K (.ref C) "get_all" = some (some (.ref fG))
  gaF : isFn K (.ref fG) = true
  sa : findIn K (.ref C) "__setattr__" = some (some (.builtin "object.__setattr__"))
  po : plainOver K C = true
  tk : takerIn K C "_headers" = some none
noncomputable def hdrPre (C x dx : Addr) (T : Addr → Prop) (F P : PH) : Prop := F x = some (instObj C dx) ∧ (∃ oD kvs, P dx = some oD ∧ DictIs oD kvs ∧ KvRep F [] kvs) ∧ F dx = none ∧ ∀ a, T a → P a ≠ none
noncomputable def hdrPost (C x dx : Addr) (T : Addr → Prop) (F P : PH) (v : Value) : Prop := ∃ hl, ¬ T hl ∧ F x = some (instObj C dx) ∧ (∃ oD kvs, P dx = some oD ∧ DictIs oD kvs ∧ KvRep F [("_headers", .raw (.ref hl))] kvs) ∧ F dx = none ∧ OwnP hl [] F P ∧ v = .none
theorem hinit_ok {g : G} (ok : GOk g) {K : Frag} {C fI fC fA fG Td : Addr} {oT : Obj} {nT : Nat} (hk : HK g K C fI fC fA fG) (fn : MethAt g 19 0 "Headers.__init__" (.ref Td) fI) (hT : g.hb.get? Td = some oT) (hTd : oT.data = .seq #[.none] nT)
    (gT : g.mg "type" = none) (gL : g.mg "list" = none) (x dx : Addr) (T : Addr → Prop) : CallC g (.ref fI) [.raw (.ref x)] [] 2 (fun a => a = dx) (hdrPre C x dx T) (hdrPost C x dx T) := by
  refine CallC.fn (ns := ["self", "headers"]) (ds := [.raw (.ref x), .none]) (d := .none) (out := .next []) ok fn (sc_ok (by decide +kernel)) rfl (fun doc pm an cdv ct A F P vs kvs hb hf hr hk s hP => ?_) (fun F P F' P' ⟨h1, ⟨oD, kvs, h2, h3, h4⟩, h5, h6⟩ e => ⟨e.f _ _ h1, ⟨oD, kvs, e.p _ _ h2, h3, h4.sub e.f⟩, e.off h5 (by rw [h2]; exact fun z => nomatch z), fun a t z => h6 a t (none_of e.p z)⟩)
    (fun F P ⟨_, ⟨oD, kvs, h2, _⟩, _⟩ a h => by subst h; rw [h2]; exact fun z => nomatch z) (fun F P v ⟨hl, _, _, _, h5, _⟩ a h => by subst h; exact h5) rfl fun A fx L cells cd cx he hW hfx => ?_
  · obtain ⟨v, rfl, r1⟩ := RepL.one hr
    simp only [List.map_nil, RepL] at hk
    subst hk
    refine wpAny_bind (m := seqItems? (.ref Td)) (wpAny_seqItems (hP _ _ (hf _ _ (hb _ _ hT))) hTd ?_)
    exact wpAny_pure ⟨_, s.toks, P, rfl, hP, F, [v, .none], rfl, .refl hf, .cons r1 (.cons (by simp only [Rep]) .nil)⟩
  · obtain ⟨w1, w2⟩ := hW dx rfl
    obtain ⟨F', P', pre, hP0⟩ := hfx
    refine ⟨XS.dct C x dx [], XS.ex fun hl => (XS.dct C x dx [("_headers", .raw (.ref hl))]).and (XS.own hl []), fun F P ⟨h1, h2, h3, _⟩ => ⟨h1, h2, h3, w1, w2⟩, fun F P v ⟨hl, ⟨h1, h2, h3, _⟩, ow⟩ r => ⟨hl, fun t => ?_, h1, h2, h3, ow.toP, by simpa only [Rep] using r⟩, ?_⟩
    · obtain ⟨xs, n, o1, _, _, o4, _⟩ := ow
      obtain ⟨oD, kvs, d1, d2, _⟩ := h2
      have nW : ¬ (fun a => a = dx) hl := fun q => by
        have q' : hl = dx := q
        subst q'
        rw [d1] at o1; cases o1
        have z : Value.type "list" = .type "dict" := d2.1
        simp at z
      rw [hP0, less_off (W := fun a => a = dx) nW] at o4
      exact pre.2.2.2 hl t o4
    · obtain ⟨env, F₀, P₀, nm⟩ := fx
      dsimp only at he
      subst he
      refine Sq.own [] ?_ ?_ ?_ fun hl _ => ?_
      · refine EvN.iteF (EvB.cmp (Ev.loc rfl rfl rfl) Ev.noneC op_isnot_none') (EvN.list EvL.nil (by decide))
      · exact AdrOk.loc rfl
      · rfl
      refine Sq.iff ?_ ?_
      · exact EvB.cmp (Ev.ofX (EvX.call cx (Ev.builtin ok gT rfl (by decide) rfl rfl) Keep.type (EvL.cons (Ev.loc rfl rfl rfl) EvL.nil) (type_own (ds := [])) (fun F P x => x.2.toP) (fun _ _ _ _ h => h.elim))) (Ev.builtin ok gL rfl (by decide) rfl rfl) (op_isnot rfl)
      refine Sq.setAttr (X₁ := (XS.dct C x dx [("_headers", .raw (.ref hl))]).and (XS.own hl [])) [] (.raw (.ref hl)) hk.KX ?_ ?_ (fun F P x => x.1) rfl (by decide) hk.sa hk.po hk.tk hk.hd rfl (fun F P oD xx hno h => ⟨h, xx.2.other hno⟩) ?_
      · exact Ev.loc rfl rfl rfl
      · exact Ev.loc rfl rfl rfl
      refine Ex.post (X₁ := (XS.dct C x dx [("_headers", .raw (.ref hl))]).and (XS.own hl [])) (Sq.ifT (EvB.val Ev.bool) (Sq.forNil cx.h (Ev.loc rfl rfl rfl) (fun F P x => x.2.toP) (fun _ => rfl) Ex.nil) (Ex.sub Ex.nil (fun _ _ h => by cases h))) fun F P h => ⟨hl, h⟩
end TL
end
section
namespace TL
open PySem PySem.W PyProof.Rows PySem.Calls PyProof.Rows.LCg
local macro_rules | `(tactic| walk_at "lits") => `(tactic| (repeat' (first | exact List.forall_mem_nil _ | refine List.forall_mem_cons.mpr ⟨⟨rfl, rfl⟩, ?_⟩ | refine List.forall_mem_cons.mpr ⟨rfl, ?_⟩)))
local macro_rules | `(tactic| walk_at "ev") => `(tactic| (repeat' (first | with_reducible exact EvL.nil | (with_reducible refine EvL.cons ?_ ?_ ?_) | with_reducible exact Ev.int | with_reducible exact Ev.str | ((with_reducible refine Ev.loc ?_ ?_ ?_) <;> rfl) | ((with_reducible refine Ev.cell ?_ ?_ ?_) <;> rfl) | (with_reducible refine Ev.tuple ?_ ?_) | (with_reducible refine Ev.list ?_ ?_) | (with_reducible refine Ev.subK ?_ ?_ ?_) | (with_reducible refine Nat.le_of_ble_eq_true ?_) | (show _ = _; rfl))))
noncomputable def InstF (C x : Addr) (kds : List (Str × D)) (F : PH) : Prop := ∃ dx oD kvs, F x = some (instObj C dx) ∧ F dx = some oD ∧ DictIs oD kvs ∧ KvRep F kds kvs
theorem InstF.sub {C x : Addr} {kds : List (Str × D)} {F F' : PH} (h : InstF C x kds F) (k : Sub F F') : InstF C x kds F' := by
  obtain ⟨dx, oD, kvs, h1, h2, h3, h4⟩ := h
  exact ⟨dx, oD, kvs, k _ _ h1, k _ _ h2, h3, h4.sub k⟩
theorem InstF.toP {C x : Addr} {kds : List (Str × D)} {F P : PH} (h : InstF C x kds F) (k : Sub F P) : InstP C x kds F P := by
  obtain ⟨dx, oD, kvs, h1, h2, h3, h4⟩ := h
  exact ⟨dx, oD, kvs, k _ _ h1, k _ _ h2, h3, h4⟩
noncomputable def XS.inst {fx : Fx} (C x : Addr) (kds : List (Str × D)) : XS fx := ⟨⟨fun F _ => InstF C x kds F, fun _ _ _ _ h e => h.sub e.f⟩, fun _ _ _ _ _ h s _ => h.sub s.f⟩
noncomputable def hkds (hl : Addr) : List (Str × D) := [("_headers", .raw (.ref hl))]
theorem hdr_new {g : G} (ok : GOk g) {K : Frag} {C fI fC fA fG Td : Addr} {oT : Obj} {nT : Nat} (hk : HK g K C fI fC fA fG) (fn : MethAt g 19 0 "Headers.__init__" (.ref Td) fI) (hT : g.hb.get? Td = some oT) (hTd : oT.data = .seq #[.none] nT)
    (gT : g.mg "type" = none) (gL : g.mg "list" = none) {A : Around} {F P : PH} (cx : Cx A 3) (hb : Sub g.hb.get? F) (hf : Sub F P) :
    Tr g.prog g.w A (PySem.call (.ref C) [] []) P (fun P' v => ∃ F' x hl, v = .ref x ∧ Ext F P F' P' ∧ InstF C x (hkds hl) F' ∧ OwnP hl [] F' P' ∧ P hl = none) := fun s hP => by
  refine new_inst hk.KX cx hb hf hP hk.mkC hk.ini hk.iniT fun A' x dx h' cx' hP' hx hdx hne => ?_
  have Fdx : F dx = none := none_of hf hdx
  have Fx' : F x = none := none_of hf hx
  have hsub : Sub (upd F x (instObj C dx)) (upd (upd P dx emptyDict) x (instObj C dx)) := fun a o e => by
    by_cases q : a = x
    · subst q; rw [upd_self] at e ⊢; exact e
    · rw [upd_ne q] at e ⊢
      rw [upd_ne (fun z => by rw [z, Fdx] at e; cases e)]
      exact hf _ _ e
  have hF : Sub F (upd F x (instObj C dx)) := .upd_new Fx'
  have Pdx : upd (upd P dx emptyDict) x (instObj C dx) dx = some emptyDict := by rw [upd_ne (Ne.symm hne), upd_self]
  refine codeAny_mono (hinit_ok ok hk fn hT hTd gT gL x dx (fun a => P a ≠ none) A' _ _ [.ref x] [] cx' (hb.trans hF) hsub (.cons (by simp only [Rep]) .nil) .nil ⟨upd_self .., ⟨emptyDict, [], Pdx, ⟨rfl, _, _, rfl, trivial⟩, rfl, .nil⟩, by rw [upd_ne (Ne.symm hne)]; exact Fdx, fun a ha => ?_⟩ _ hP') fun r s' ⟨v, h₁, tk, P₁, F₁, e, hs, hP₁, st, post⟩ => ?_
  · by_cases q : a = x
    · subst q; rw [upd_self]; exact fun z => nomatch z
    · rw [upd_ne q]
      by_cases q' : a = dx
      · subst q'; rw [upd_self]; exact fun z => nomatch z
      · rw [upd_ne q']; exact ha
  · obtain ⟨hl, t1, i1, ⟨oD, kvs, d1, d2, d3⟩, d4, ow, hv⟩ := post
    subst e hs hv
    have hld : hl ≠ dx := fun q => by
      obtain ⟨xs, n, o1, _⟩ := ow
      rw [q, d1] at o1; cases o1
      have z : Value.type "list" = .type "dict" := d2.1
      simp at z
    have sub2 : Sub F₁ (upd F₁ dx oD) := .upd_new d4
    refine ⟨rfl, h₁, tk, P₁, rfl, hP₁, upd F₁ dx oD, x, hl, rfl, ⟨(hF.trans st.f).trans sub2, fun a o e => ?_, fun a o e => ?_, fun a e => ?_⟩, ⟨dx, oD, kvs, sub2 _ _ i1, upd_self .., d2, d3.sub sub2⟩, ?_, Classical.byContradiction t1⟩
    · have n1 : a ≠ x := fun q => by rw [q, hx] at e; cases e
      have n2 : a ≠ dx := fun q => by rw [q, hdx] at e; cases e
      exact st.p a o (by rw [upd_ne n1, upd_ne n2]; exact e) n2
    · by_cases q : a = dx
      · subst q; rw [upd_self] at e; cases e; exact d1
      · rw [upd_ne q] at e; exact st.fp _ _ e
    · by_cases q : a = dx
      · subst q; exact .inr hdx
      · rw [upd_ne q] at e
        rcases st.new a e with z | ⟨z, _⟩
        · by_cases q' : a = x
          · subst q'; exact .inr hx
          · rw [upd_ne q'] at z; exact .inl z
        · refine .inr ?_
          by_cases q' : a = x
          · subst q'; rw [upd_self] at z; cases z
          · rw [upd_ne q', upd_ne q] at z; exact z
    · obtain ⟨xs, n, o1, o2, o3⟩ := ow
      exact ⟨xs, n, o1, o2.sub sub2, by rw [upd_ne hld]; exact o3⟩
theorem Sq.newHdr {g : G} (ok : GOk g) {K : Frag} {C fI fC fA fG Td : Addr} {oT : Obj} {nT : Nat} (hk : HK g K C fI fC fA fG) (fn : MethAt g 19 0 "Headers.__init__" (.ref Td) fI) (hT : g.hb.get? Td = some oT) (hTd : oT.data = .seq #[.none] nT)
    (gT : g.mg "type" = none) (gL : g.mg "list" = none) {A : Around} (cx : Cx A 3) {fx : Fx} {ρ : List (Str × D)} {X X' : XS fx} {o : Out} {x : Str} {xp pos p : Pos} {f : Expr} {r : List Stmt} (hf : Ev g A fx.env ρ X.toXP f (.raw (.ref C))) (hx : AdrOk fx.env (muts fx.env) x)
    (hs : swapsWith (.Call f [] [] p) (some (.Name x xp)) pos.line fx.env = pure false) (he : eval (.Call f [] [] p) fx.env = (eval f fx.env >>= fun v => callWith p v [] [] []))
    (k : ∀ a hl, Ex g A fx (X.and ((XS.inst C a (hkds hl)).and (XS.own hl []))) X' (execs r fx.env) ((x, .raw (.ref a)) :: ρ) o) : Ex g A fx X X' (execs (.Assign [.Name x xp] (.Call f [] [] p) pos :: r) fx.env) ρ o := Ex.mk fun F P I V M xx s hP => by
  refine wpAny_execs_cons (wpAny_Assign_Name ?_ hs)
  rw [he]
  refine wpAny_bind ((hf.run F P V xx).out hP fun h tk P₁ v hP₁ ⟨F₁, e₁, r₁⟩ => ?_)
  simp only [Rep] at r₁
  subst r₁
  have V₁ := V.ext e₁
  have x₁ := X.st _ _ _ _ xx e₁
  refine callWith_of (P := fun h => ∀ b o, g.hb.get? b = some o → h.get? b = some o) rfl (fun h q => keeps_K hk.keep h (hk.KX.keeps q)) (evalArgs_nil3 ?_)
  refine ⟨fun b o e => hP₁ _ _ (V₁.fp _ _ (V₁.base _ _ e)), (hdr_new ok hk fn hT hTd gT gL cx V₁.base V₁.fp).out hP₁ fun h tk P₂ v hP₂ ⟨F₂, a, hl, hv, e₂, i, ow, hn⟩ => ?_⟩
  subst hv
  have e₁₂ := e₁.trans e₂
  obtain ⟨xs, n, o1, o2, o3⟩ := ow
  have ow' : Own fx hl [] F₂ P₂ := new_own I V M (none_of e₁.p hn) o3 o1 o2
  refine (Ex.store (X := X.and ((XS.inst C a (hkds hl)).and (XS.own hl []))) (d := .raw (.ref a)) (I.trans e₁₂) (V.ext e₁₂) (M.ext V e₁₂) ⟨X.st _ _ _ _ x₁ e₂, i, ow'⟩ (by simp only [Rep]) hx).out hP₂ fun h tk P₃ _ hP₃ ⟨t₃, I₃, x₃, V₃, M₃⟩ => ?_
  exact ((k a hl).run F₂ P₃ I₃ V₃ M₃ x₃).out hP₃ fun h tk P₄ f hP₄ ⟨F₄, t₄, I₄, x₄, q⟩ => ⟨_, _, P₄, rfl, hP₄, F₄, (e₁₂.soft.trans t₃).trans t₄, I₄, x₄, q⟩
end TL
end
section
namespace TL
open PySem PySem.W PyProof.Rows PySem.Calls PyProof.Rows.LCg
local macro_rules | `(tactic| walk_at "lits") => `(tactic| (repeat' (first | exact List.forall_mem_nil _ | refine List.forall_mem_cons.mpr ⟨⟨rfl, rfl⟩, ?_⟩ | refine List.forall_mem_cons.mpr ⟨rfl, ?_⟩)))
local macro_rules | `(tactic| walk_at "ev") => `(tactic| (repeat' (first | with_reducible exact EvL.nil | (with_reducible refine EvL.cons ?_ ?_ ?_) | with_reducible exact Ev.int | with_reducible exact Ev.str | ((with_reducible refine Ev.loc ?_ ?_ ?_) <;> rfl) | ((with_reducible refine Ev.cell ?_ ?_ ?_) <;> rfl) | (with_reducible refine Ev.tuple ?_ ?_) | (with_reducible refine Ev.list ?_ ?_) | (with_reducible refine Ev.subK ?_ ?_ ?_) | (with_reducible refine Nat.le_of_ble_eq_true ?_) | (show _ = _; rfl))))
theorem letter_join : ∀ x ∈ letters, Txt.join "; " [x] = x ∧ JoinOk "; " [x] = true := by decide +kernel
noncomputable def pairD (p : Str × Str) : D := .tup [.str p.1, .str p.2]
theorem Keep.fun {g : G} {a : Addr} {name qual : Str} {params : Arguments} {body : List Stmt} {scope : Scope} {dV kV : Value} (fn : FunAt g a name qual params body scope dV kV) : Keep g (.ref a) := fun h hk => by
  obtain ⟨o, doc, pm, an, cdv, ct, ho, hd, hc⟩ := fn.ex
  refine ⟨.frame, .inl rfl, (Looks.ld (part := none) (hk _ _ ho)).andThen ?_⟩
  rw [hd]
  exact .now
theorem str_notNone {x : Str} : ∀ F v, Rep F (.str x) v → v ≠ .none := fun F v r => by
  simp only [Rep] at r
  obtain ⟨t, rfl⟩ := r
  exact fun z => nomatch z
theorem Own.fresh {fx : Fx} {a : Addr} {ds : List D} {F P : PH} (h : Own fx a ds F P) : fx.P₀ a = none := by obtain ⟨_, _, _, _, _, q, _⟩ := h; exact q
theorem Own.nmut {fx : Fx} {a : Addr} {ds : List D} {F P : PH} (h : Own fx a ds F P) : ¬ muts fx.env a := by obtain ⟨_, _, _, _, _, _, q⟩ := h; exact q
theorem add_ok {g : G} (ok : GOk g) {K : Frag} {C fI fC fA fG pN pV : Addr} (hk : HK g K C fI fC fA fG) (fn : MethAt g 19 16 "Headers.add_header" .none fA) (fc : MethAt g 19 1 "Headers._convert_string_type" .none fC)
    (hn : PatAt g pN nameCode) (hv : PatAt g pV valueCode) (gN : g.mg "_name_disallowed_re" = some (.ref pN)) (gV : g.mg "_value_disallowed_re" = some (.ref pV)) (gT : g.mg "type" = none) (gS : g.mg "str" = none)
    (hS : ∃ a oS, sysModules < a ∧ g.hb.get? a = some oS) (x hl : Addr) (ds : List D) (hds : ds.length ≤ 4096) (nm vl : Str) (hnm : nm ∈ letters) (hvl : vl ∈ letters) :
    CallX g (.ref fA) [.raw (.ref x), .str nm, .str vl] [] 3 (fun a => a = hl) (fun F P => InstF C x (hkds hl) F ∧ OwnP hl ds F P) (fun F P v => InstF C x (hkds hl) F ∧ OwnP hl (ds ++ [pairD (nm, vl)]) F P ∧ v = .none) := by
  refine CallC.toX (CallC.fn (ns := ["self", "_name", "_value", "_params"]) (ds := [.raw (.ref x), .str nm, .str vl, .emp]) (d := .none) (out := .next []) ok fn (sc_ok (by decide +kernel)) rfl (fun doc pm an cdv ct A F P vs kvs hb hf hr hk s hP => ?_) (fun F P F' P' ⟨h1, h2⟩ e => ⟨h1.sub e.f, h2.ext e⟩)
    (fun F P ⟨_, h2⟩ a h => by subst h; exact h2.some) (fun F P v ⟨_, h5, _⟩ a h => by subst h; obtain ⟨_, _, _, _, q⟩ := h5; exact q) rfl fun A fx L cells cd cx he hW hfx => ?_)
  · obtain ⟨v1, r1, rfl, h1, hr⟩ : ∃ v r, vs = v :: r ∧ Rep F (.raw (.ref x)) v ∧ RepL F [.str nm, .str vl] r := by simpa only [RepL] using hr
    obtain ⟨v2, v3, rfl, h2, h3⟩ := RepL.two hr
    simp only [List.map_nil, RepL] at hk
    subst hk
    show wpAny _ A (alloc { cls := .type "dict", data := .dict #[] } >>= fun d => (pure [(("self" : Str), v1), ("_name", v2), ("_value", v3), ("_params", Value.ref d)] : Sem (List (Str × Value)))) _ _ s
    have e₁ : Ext F P (upd F s.heap.objs.size { cls := .type "dict", data := .dict #[] }) (upd P s.heap.objs.size { cls := .type "dict", data := .dict #[] }) := .alloc hf hP.fresh
    refine wpAny_bind (wpAny_alloc (wpAny_pure ⟨_, s.toks, _, rfl, hP.push rfl, _, [v1, v2, v3, .ref s.heap.objs.size], rfl, e₁, .cons (h1.sub e₁.f) (.cons (h2.sub e₁.f) (.cons (h3.sub e₁.f) (.cons ?_ .nil)))⟩))
    simp only [Rep]
    obtain ⟨aS, oS, hlS, hS⟩ := hS
    refine ⟨_, rfl, upd_self .., beq_false_of_ne fun q => ?_⟩
    exact absurd (Heap.lt_size (hP _ _ (hf _ _ (hb _ _ hS)))) (by rw [q]; exact Nat.lt_asymm hlS)
  · obtain ⟨w1, w2⟩ := hW hl rfl
    refine ⟨(XS.inst C x (hkds hl)).and (XS.own hl ds), (XS.inst C x (hkds hl)).and (XS.own hl (ds ++ [pairD (nm, vl)])), fun F P ⟨h1, h2⟩ => ⟨h1, h2.own w1 w2⟩, fun F P v ⟨h1, h2⟩ r => ⟨h1, h2.toP, by simpa only [Rep] using r⟩, ?_⟩
    obtain ⟨env, F₀, P₀, nm'⟩ := fx
    dsimp only at he
    subst he
    have keepO : ∀ {fx : Fx} {a : Addr} {ds : List D} {F P : PH}, Own fx a ds F P → ∃ xs n, P a = some (lstN xs n) := fun ⟨xs, n, h, _⟩ => ⟨xs, n, h⟩
    refine Sq.own [] ?_ ?_ ?_ fun pl hpl => ?_
    · exact EvN.list EvL.nil (by decide)
    · exact AdrOk.loc rfl
    · rfl
    have npl : pl ≠ hl := hpl hl fun F P x => x.2.toP.some
    refine Sq.ifT (X₁ := ((XS.inst C x (hkds hl)).and (XS.own hl ds)).and (XS.own pl [.str vl])) (ρ₁ := [("_value", .str vl), ("parts", .raw (.ref pl)), ("self", .raw (.ref x)), ("_name", .str nm), ("_value", .str vl), ("_params", .emp)]) ?_ ?_ ?_
    · exact EvB.cmp (Ev.loc rfl rfl rfl) Ev.noneC (op_isnot_none str_notNone)
    · refine Sq.assign (.str vl) ?_ ?_ ?_ ?_
      · exact Ev.ofX (EvX.methK cx (Ev.loc rfl rfl rfl) (gm_methP hk.KX (fun F P k y => y.1.1.toP k) rfl (hk.pg _) hk.cv hk.cvF) (Keep.fun fc) (EvL.cons (Ev.loc rfl rfl rfl) EvL.nil) (EvKw.one Ev.bool rfl rfl) (conv_ok ok fc hn hv gN gV gT gS vl hvl false _) (fun _ _ _ => trivial) (fun _ _ _ _ h => h.elim) rfl)
      · exact AdrOk.loc rfl
      · rfl
      refine Sq.exprX (X₁ := ((XS.inst C x (hkds hl)).and (XS.own hl ds)).and (XS.own pl [.str vl])) (EvX.meth cx (Ev.loc rfl rfl rfl) (gm_own PySem.F.slot_list_append PySem.F.type_list_append fun F P y => keepO y.2) Keep.builtin (EvL.cons (Ev.loc rfl rfl rfl) EvL.nil) (append_ok (ds := []) (by decide)) (fun F P y => y.2.toP) (fun F P y a h => by subst h; exact y.some) rfl) (fun F P y => y.2.wok) (fun F P F' P' v y s po => ⟨⟨y.1.1.sub s.f, y.1.2.stepW s (Ne.symm npl)⟩, po.1.own y.2.fresh y.2.nmut⟩) ?_ rfl rfl
      exact Sq.nil rfl (sub_of (by walk_at "lits"))
    · refine Sq.for (fun _ => [("_value", .str vl), ("parts", .raw (.ref pl)), ("self", .raw (.ref x)), ("_name", .str nm), ("_value", .str vl), ("_params", .emp)]) [] (fun _ _ h => h) ?_ (fun i di hd => by simp at hd) ?_ ?_
      · exact EvI.at .empIt (Ev.ofX (EvX.meth0 cx (Ev.loc rfl rfl rfl) gm_items Keep.builtin (CallX.of items_ok) (fun _ _ _ => trivial) (fun _ _ _ _ h => h.elim) rfl)) (Itb.empIt cx.h)
      · exact fun _ => rfl
      have hj := letter_join vl hvl
      refine Sq.exprX (X₁ := (XS.inst C x (hkds hl)).and (XS.own hl (ds ++ [pairD (nm, vl)]))) (EvX.meth (f := .builtin "list.append") (dO := .raw (.ref hl)) cx ?_ (gm_own PySem.F.slot_list_append PySem.F.type_list_append fun F P y => keepO y.1.2) Keep.builtin (EvL.cons (Ev.tuple (EvL.cons ?_ (EvL.cons ?_ EvL.nil)) (Nat.le_of_ble_eq_true rfl)) EvL.nil) (append_ok hds) (fun F P y => y.1.2.toP) (fun F P y a h => by subst h; exact y.some) rfl) (fun F P y => y.1.2.wok) (fun F P F' P' v y s po => ⟨y.1.1.sub s.f, po.1.own y.1.2.fresh y.1.2.nmut⟩) ?_ rfl rfl
      · exact Ev.attrP hk.KX (Ev.loc rfl rfl rfl) (fun F P k y => y.1.1.toP k) rfl (hk.pg _) hk.hd hk.at_ rfl (fun F v r => by simp only [Rep] at r; subst r; rfl)
      · exact Ev.ofX (EvX.methK cx (Ev.loc rfl rfl rfl) (gm_methP hk.KX (fun F P k y => y.1.1.toP k) rfl (hk.pg _) hk.cv hk.cvF) (Keep.fun fc) (EvL.cons (Ev.loc rfl rfl rfl) EvL.nil) (EvKw.one Ev.bool rfl rfl) (conv_ok ok fc hn hv gN gV gT gS nm hnm true _) (fun _ _ _ => trivial) (fun _ _ _ _ h => h.elim) rfl)
      · refine Ev.conv (Ev.ofX (EvX.meth (n := 2) cx Ev.str (gm_str fun A pl t s Q E h => GM.join h) Keep.builtin (EvL.cons (Ev.loc rfl rfl rfl) EvL.nil) (join_own (ys := [vl]) hj.2) (fun F P y => y.2.toP) (fun _ _ _ _ h => h.elim) rfl)) (by rw [hj.1])
      exact Sq.nil rfl fun _ _ h => nomatch h
end TL
end
section
namespace TL
open PySem PySem.W PyProof.Rows PySem.Calls PyProof.Rows.LCg
local macro_rules | `(tactic| walk_at "lits") => `(tactic| (repeat' (first | exact List.forall_mem_nil _ | refine List.forall_mem_cons.mpr ⟨⟨rfl, rfl⟩, ?_⟩ | refine List.forall_mem_cons.mpr ⟨rfl, ?_⟩)))
local macro_rules | `(tactic| walk_at "ev") => `(tactic| (repeat' (first | with_reducible exact EvL.nil | (with_reducible refine EvL.cons ?_ ?_ ?_) | with_reducible exact Ev.int | with_reducible exact Ev.str | ((with_reducible refine Ev.loc ?_ ?_ ?_) <;> rfl) | ((with_reducible refine Ev.cell ?_ ?_ ?_) <;> rfl) | (with_reducible refine Ev.tuple ?_ ?_) | (with_reducible refine Ev.list ?_ ?_) | (with_reducible refine Ev.subK ?_ ?_ ?_) | (with_reducible refine Nat.le_of_ble_eq_true ?_) | (show _ = _; rfl))))
theorem letter_fit : ∀ x ∈ letters, PySem.Builtin.Str.tooLong (Txt.lower x).length = false ∧ PySem.Builtin.Str.tooLong (Txt.upper x).length = false ∧ Txt.lower x ∈ letters ∧ Txt.upper x ∈ letters := by decide +kernel
noncomputable def getAll (kvs : List (Str × Str)) (nm : Str) : List Str := (kvs.filter fun p => Txt.lower p.1 == nm).map (·.2)
theorem get_ok {g : G} (ok : GOk g) {K : Frag} {C fI fC fA fG pN pV : Addr} (hk : HK g K C fI fC fA fG) (fn : MethAt g 19 7 "Headers.get_all" .none fG) (fc : MethAt g 19 1 "Headers._convert_string_type" .none fC)
    (hn : PatAt g pN nameCode) (hv : PatAt g pV valueCode) (gN : g.mg "_name_disallowed_re" = some (.ref pN)) (gV : g.mg "_value_disallowed_re" = some (.ref pV)) (gT : g.mg "type" = none) (gS : g.mg "str" = none)
    (x : Addr) (kvs : List (Str × Str)) (hkv : ∀ p ∈ kvs, p.1 ∈ letters) (hlen : kvs.length ≤ 4096) (nm : Str) (hnm : nm ∈ letters) :
    CallX g (.ref fG) [.raw (.ref x), .str nm] [] 3 NoW (fun F P => InstF C x [("_headers", .lst (kvs.map pairD))] F) (fun F P v => Rep F (.lst ((getAll kvs (Txt.lower nm)).map .str)) v) := by
  obtain ⟨q1, _, q2, _⟩ := letter_fit nm hnm
  refine CallC.toX (CallC.fn (ns := ["self", "name"]) (ds := [.raw (.ref x), .str nm]) (d := .lst ((getAll kvs (Txt.lower nm)).map .str)) (out := .ret (.lst ((getAll kvs (Txt.lower nm)).map .str))) ok fn (sc_ok (by decide +kernel)) rfl (fun doc pm an cdv ct A F P vs kvs hb hf hr hk s hP => ?_) (fun F P F' P' h1 e => h1.sub e.f)
    (fun F P _ a h => h.elim) (fun F P v _ a h => h.elim) rfl fun A fx L cells cd cx he hW hfx => ?_)
  · obtain ⟨v, w, rfl, r1, r2⟩ := RepL.two hr
    simp only [List.map_nil, RepL] at hk
    subst hk
    exact wpAny_pure ⟨_, s.toks, P, rfl, hP, F, [v, w], rfl, .refl hf, .cons r1 (.cons r2 .nil)⟩
  · refine ⟨XS.inst C x [("_headers", .lst (kvs.map pairD))], XS.inst C x [("_headers", .lst (kvs.map pairD))], fun F P h => h, fun F P v _ r => r, ?_⟩
    obtain ⟨env, F₀, P₀, nm'⟩ := fx
    dsimp only at he
    subst he
    refine Sq.assign (.str (Txt.lower nm)) ?_ ?_ ?_ ?_
    · exact Ev.ofX (EvX.methK cx (Ev.loc rfl rfl rfl) (gm_methP hk.KX (fun F P k y => y.toP k) rfl (hk.pg _) hk.cv hk.cvF) (Keep.fun fc) (EvL.cons (Ev.ofX (EvX.meth0 cx (Ev.cell rfl rfl rfl) (gm_str fun A pl t s Q E h => GM.lower h) Keep.builtin (CallX.of (lower_ok q1)) (fun _ _ _ => trivial) (fun _ _ _ _ h => h.elim) rfl)) EvL.nil) (EvKw.one Ev.bool rfl rfl) (conv_ok ok fc hn hv gN gV gT gS _ q2 true _) (fun _ _ _ => trivial) (fun _ _ _ _ h => h.elim) rfl)
    · exact AdrOk.cell rfl
    · rfl
    refine Sq.ret (Ev.conv (Ev.map2 [("name", .str (Txt.lower nm))] kvs pairD (fun p => Txt.lower p.1 == Txt.lower nm) (fun p => .str p.2) (scOk_of rfl) (Ev.attrP hk.KX (Ev.loc rfl rfl rfl) (fun F P k y => y.toP k) rfl (hk.pg _) hk.hd hk.at_ rfl fun F v r => ?_) (fun _ => rfl) (Itb.lst cx.h) (by walk_at "lits") rfl
      (fun _ _ => .inl ⟨rfl, .inl rfl⟩) (fun C cells p hp => ?_) (fun C cells p hp hq => ?_) hlen) ?_)
    · simp only [Rep] at r
      obtain ⟨a, o, vs, n, rfl, _⟩ := r
      rfl
    · refine EvB.cmp (Ev.ofX (EvX.meth0 (dO := .str p.1) cx ?_ (gm_str fun A pl t s Q E h => GM.lower h) Keep.builtin (CallX.of (lower_ok (letter_fit _ (hkv p hp)).1)) (fun _ _ _ => trivial) (fun _ _ _ _ h => h.elim) rfl)) (Ev.cell rfl rfl rfl) cmp_eqs
      exact Ev.sub (Ev.loc rfl rfl rfl) Ev.int (item_tup (j := 0) (by decide) (by decide) rfl rfl)
    · exact Ev.sub (Ev.loc rfl rfl rfl) Ev.int (item_tup (j := 1) (by decide) (by decide) rfl rfl)
    · simp [getAll]
end TL
end
section
namespace TL
open PySem PySem.W PyProof.Rows PySem.Calls PyProof.Rows.LCg
local macro_rules | `(tactic| walk_at "lits") => `(tactic| (repeat' (first | exact List.forall_mem_nil _ | refine List.forall_mem_cons.mpr ⟨⟨rfl, rfl⟩, ?_⟩ | refine List.forall_mem_cons.mpr ⟨rfl, ?_⟩)))
local macro_rules | `(tactic| walk_at "ev") => `(tactic| (repeat' (first | with_reducible exact EvL.nil | (with_reducible refine EvL.cons ?_ ?_ ?_) | with_reducible exact Ev.int | with_reducible exact Ev.str | ((with_reducible refine Ev.loc ?_ ?_ ?_) <;> rfl) | ((with_reducible refine Ev.cell ?_ ?_ ?_) <;> rfl) | (with_reducible refine Ev.tuple ?_ ?_) | (with_reducible refine Ev.list ?_ ?_) | (with_reducible refine Ev.subK ?_ ?_ ?_) | (with_reducible refine Nat.le_of_ble_eq_true ?_) | (show _ = _; rfl))))
noncomputable def sat (r g b : Nat) : UInt64 := if min r (min g b) = max r (max g b) then 0 else quo ((max r (max g b) - min r (min g b) : Nat) : Int) ((max r (max g b) : Nat) : Int)
noncomputable def hsvArgs (r g b : Nat) : List (Str × D) := [("r", intD r), ("g", intD g), ("b", intD b)]
noncomputable def hsvA (r g b : Nat) : List (Str × D) := [("v", intD (max r (max g b))), ("rangec", intD (max r (max g b) - min r (min g b))), ("minc", intD (min r (min g b))), ("maxc", intD (max r (max g b))), ("r", intD r), ("g", intD g), ("b", intD b)]
noncomputable def part (r g b x : Nat) : UInt64 := quo ((max r (max g b) - x : Nat) : Int) ((max r (max g b) - min r (min g b) : Nat) : Int)
noncomputable def hsvB (r g b : Nat) : List (Str × D) := [("bc", .flt (part r g b b)), ("gc", .flt (part r g b g)), ("rc", .flt (part r g b r)), ("s", .flt (quo ((max r (max g b) - min r (min g b) : Nat) : Int) ((max r (max g b) : Nat) : Int))), ("v", intD (max r (max g b))), ("rangec", intD (max r (max g b) - min r (min g b))), ("minc", intD (min r (min g b))), ("maxc", intD (max r (max g b))), ("r", intD r), ("g", intD g), ("b", intD b)]
noncomputable def hsvOk (gg : G) (a : Addr) (r g b : Nat) (k : Nat) (ρ : List (Str × D)) (d : D) : Prop := ∀ (A : Around) (fx : Fx) (L : Addr) (cells : List (Str × Addr)) (cd : Value), Cx A 1 → fx.env = envX (nameOf (topStmt 13)) (scopeOf (topStmt 13)) L a cd cells →
  Ex gg A fx XS.tt XS.tt (execs ((bodyOf (topStmt 13)).drop k) fx.env) ρ (.ret d)
theorem op_subN {g : G} {A : Around} {a b : Nat} (h : b ≤ a) : Op2 g A (binaryOp .Sub) (intD a) (intD b) (intD (a - b)) := by
  have := op_sub (g := g) (A := A) (a := (a : Int)) (b := (b : Int))
  have e : ((a - b : Nat) : Int) = (a : Int) - (b : Int) := by omega
  rw [intD, intD, intD, e]; exact this
section
variable {gg : G} {a : Addr} {r g b : Nat} {d : D}
theorem cmax (a b : Nat) : ((max a b : Nat) : Int) = max (a : Int) b := by omega
theorem cmin (a b : Nat) : ((min a b : Nat) : Int) = min (a : Int) b := by omega
theorem mx_r : r ≤ max r (max g b) := Nat.le_max_left ..
theorem mx_g : g ≤ max r (max g b) := Nat.le_trans (Nat.le_max_left ..) (Nat.le_max_right ..)
theorem mx_b : b ≤ max r (max g b) := Nat.le_trans (Nat.le_max_right ..) (Nat.le_max_right ..)
theorem mn_mx : min r (min g b) ≤ max r (max g b) := Nat.le_trans (Nat.min_le_left ..) mx_r
theorem abs_sub {x y : Nat} (h : x < 2 ^ 63) : (((x - y : Nat) : Int)).natAbs < 2 ^ 64 := by omega
theorem ne_sub {x y : Nat} (h : y < x) : ((x - y : Nat) : Int) ≠ 0 := by omega
theorem ne_pos {x y : Nat} (h : y < x) : (x : Int) ≠ 0 := by omega
theorem hsv_head (ok : GOk gg) (h1 : gg.mg "max" = none) (h2 : gg.mg "min" = none) (k : hsvOk gg a r g b 4 (hsvA r g b) d) : hsvOk gg a r g b 0 (hsvArgs r g b) d := fun A fx L cells cd cx he => by
  have k' := k A fx L cells cd cx he
  have emax : (max (r : Int) (max (g : Int) (b : Int))) = ((max r (max g b) : Nat) : Int) := by rw [cmax, cmax]
  have emin : (min (r : Int) (min (g : Int) (b : Int))) = ((min r (min g b) : Nat) : Int) := by rw [cmin, cmin]
  obtain ⟨env, F₀, P₀, nm⟩ := fx
  dsimp only at he
  subst he
  refine Sq.assign (intD (max r (max g b))) ?_ ?_ ?_ ?_
  · refine Ev.as _ (Ev.call cx (Ev.builtin ok h1 rfl (by decide) rfl rfl) Keep.builtin (EvL.cons (Ev.loc rfl rfl rfl) (EvL.cons (Ev.loc rfl rfl rfl) (EvL.cons (Ev.loc rfl rfl rfl) EvL.nil))) max3) ?_
    rw [emax]; rfl
  · exact AdrOk.loc rfl
  · rfl
  refine Sq.assign (intD (min r (min g b))) ?_ ?_ ?_ ?_
  · refine Ev.as _ (Ev.call cx (Ev.builtin ok h2 rfl (by decide) rfl rfl) Keep.builtin (EvL.cons (Ev.loc rfl rfl rfl) (EvL.cons (Ev.loc rfl rfl rfl) (EvL.cons (Ev.loc rfl rfl rfl) EvL.nil))) min3) ?_
    rw [emin]; rfl
  · exact AdrOk.loc rfl
  · rfl
  refine Sq.assign (intD (max r (max g b) - min r (min g b))) ?_ ?_ ?_ ?_
  · exact Ev.bin (Ev.loc rfl rfl rfl) (Ev.loc rfl rfl rfl) (op_subN mn_mx)
  · exact AdrOk.loc rfl
  · rfl
  refine Sq.assign (intD (max r (max g b))) ?_ ?_ ?_ ?_
  · exact Ev.loc rfl rfl rfl
  · exact AdrOk.loc rfl
  · rfl
  exact k'
theorem hsv_mid (hlt : min r (min g b) < max r (max g b)) (hb : max r (max g b) < 2 ^ 63) (k : hsvOk gg a r g b 9 (hsvB r g b) d) : hsvOk gg a r g b 4 (hsvA r g b) d := fun A fx L cells cd cx he => by
  have k' := k A fx L cells cd cx he
  obtain ⟨env, F₀, P₀, nm⟩ := fx
  dsimp only at he
  subst he
  refine Sq.iff ?_ ?_
  · refine EvB.conv (EvB.cmp (Ev.loc rfl rfl rfl) (Ev.loc rfl rfl rfl) cmp_eq) ?_
    simp; exact fun z => Nat.ne_of_lt hlt (Int.ofNat_inj.mp z)
  refine Sq.assign _ (Ev.bin (Ev.loc rfl rfl rfl) (Ev.loc rfl rfl rfl) (op_div cx.h ?_ ?_)) ?_ ?_ ?_
  · exact abs_sub hb
  · exact ne_pos hlt
  · exact AdrOk.loc rfl
  · rfl
  refine Sq.assign _ (Ev.bin (Ev.bin (Ev.loc rfl rfl rfl) (Ev.loc rfl rfl rfl) (op_subN (b := r) mx_r)) (Ev.loc rfl rfl rfl) (op_div cx.h ?_ ?_)) ?_ ?_ ?_
  · exact abs_sub hb
  · exact ne_sub hlt
  · exact AdrOk.loc rfl
  · rfl
  refine Sq.assign _ (Ev.bin (Ev.bin (Ev.loc rfl rfl rfl) (Ev.loc rfl rfl rfl) (op_subN (b := g) mx_g)) (Ev.loc rfl rfl rfl) (op_div cx.h ?_ ?_)) ?_ ?_ ?_
  · exact abs_sub hb
  · exact ne_sub hlt
  · exact AdrOk.loc rfl
  · rfl
  refine Sq.assign _ (Ev.bin (Ev.bin (Ev.loc rfl rfl rfl) (Ev.loc rfl rfl rfl) (op_subN (b := b) mx_b)) (Ev.loc rfl rfl rfl) (op_div cx.h ?_ ?_)) ?_ ?_ ?_
  · exact abs_sub hb
  · exact ne_sub hlt
  · exact AdrOk.loc rfl
  · rfl
  exact k'
theorem hsv_end (h : UInt64) (k : ∀ (A : Around) (fx : Fx) (L : Addr) (cells : List (Str × Addr)) (cd : Value), Cx A 1 → fx.env = envX (nameOf (topStmt 13)) (scopeOf (topStmt 13)) L a cd cells → ∃ st, (bodyOf (topStmt 13))[9]? = some st ∧ Ex gg A fx XS.tt XS.tt (exec st fx.env) (hsvB r g b) (.next (("h", .flt h) :: hsvB r g b))) :
    hsvOk gg a r g b 9 (hsvB r g b) (.tup [.flt (Float64.divmod (Float64.div h 0x4018000000000000) 0x3ff0000000000000).2, .flt (quo ((max r (max g b) - min r (min g b) : Nat) : Int) ((max r (max g b) : Nat) : Int)), intD (max r (max g b))]) := fun A fx L cells cd cx he => by
  obtain ⟨st, e, k'⟩ := k A fx L cells cd cx he
  obtain ⟨env, F₀, P₀, nm⟩ := fx
  dsimp only at he
  subst he
  cases e
  refine Ex.cons k' ?_
  refine Sq.assign _ (Ev.bin (Ev.bin (Ev.loc rfl rfl rfl) Ev.flt (op_fdiv cx.h (by decide +kernel))) Ev.flt (op_fmod cx.h (by decide +kernel))) ?_ ?_ ?_
  · exact AdrOk.loc rfl
  · rfl
  exact Sq.ret (Ev.tuple (EvL.cons (Ev.loc rfl rfl rfl) (EvL.cons (Ev.loc rfl rfl rfl) (EvL.cons (Ev.loc rfl rfl rfl) EvL.nil))) (Nat.le_of_ble_eq_true rfl))
end
theorem hsv_ok {gg : G} (ok : GOk gg) {a : Addr} (fn : DefAt gg 13 a) (h1 : gg.mg "max" = none) (h2 : gg.mg "min" = none) (r g b : Nat) (hb : max r (max g b) < 2 ^ 63) : ∃ h, CallOk gg (.ref a) [intD r, intD g, intD b] (.tup [.flt h, .flt (sat r g b), intD (max r (max g b))]) 2 := by
  have frame : ∀ d, hsvOk gg a r g b 0 (hsvArgs r g b) d → CallOk gg (.ref a) [intD r, intD g, intD b] d 2 := fun d h => CallOk.fn (ns := ["r", "g", "b"]) ok fn (sc_ok (by decide +kernel)) rfl (fun pm code doc vs hv => by
    match vs, hv with
    | [v, u, w], _ => rfl) h
  by_cases e : min r (min g b) = max r (max g b)
  · rw [sat, if_pos e]
    refine ⟨0, frame _ (hsv_head ok h1 h2 fun A fx L cells cd cx he => ?_)⟩
    obtain ⟨env, F₀, P₀, nm⟩ := fx
    dsimp only at he
    subst he
    refine Sq.ifR ?_ (Sq.ret (Ev.tuple (EvL.cons Ev.flt (EvL.cons Ev.flt (EvL.cons (Ev.loc rfl rfl rfl) EvL.nil))) (Nat.le_of_ble_eq_true rfl)))
    · refine EvB.conv (EvB.cmp (Ev.loc rfl rfl rfl) (Ev.loc rfl rfl rfl) cmp_eq) ?_
      rw [e]; simp
  · have hlt : min r (min g b) < max r (max g b) := Nat.lt_of_le_of_ne mn_mx e
    rw [sat, if_neg e]
    by_cases c1 : r = max r (max g b)
    · refine ⟨_, frame _ (hsv_head ok h1 h2 (hsv_mid hlt hb (hsv_end (Float64.sub (part r g b b) (part r g b g)) fun A fx L cells cd cx he => ⟨_, rfl, ?_⟩)))⟩
      obtain ⟨env, F₀, P₀, nm⟩ := fx
      dsimp only at he
      subst he
      refine Ex.if (c := true) ?_ (fun _ => ?_) (fun z => nomatch z)
      · refine EvB.conv (EvB.cmp (Ev.loc rfl rfl rfl) (Ev.loc rfl rfl rfl) cmp_eq) ?_
        simp; exact Int.ofNat_inj.mpr c1
      · exact Sq.assign _ (Ev.bin (Ev.loc rfl rfl rfl) (Ev.loc rfl rfl rfl) op_fsub) (AdrOk.loc rfl) rfl Ex.nil
    · by_cases c2 : g = max r (max g b)
      · refine ⟨_, frame _ (hsv_head ok h1 h2 (hsv_mid hlt hb (hsv_end (Float64.sub (Float64.add 0x4000000000000000 (part r g b r)) (part r g b b)) fun A fx L cells cd cx he => ⟨_, rfl, ?_⟩)))⟩
        obtain ⟨env, F₀, P₀, nm⟩ := fx
        dsimp only at he
        subst he
        refine Ex.if (c := false) ?_ (fun z => nomatch z) (fun _ => ?_)
        · refine EvB.conv (EvB.cmp (Ev.loc rfl rfl rfl) (Ev.loc rfl rfl rfl) cmp_eq) ?_
          simp; exact fun z => c1 (Int.ofNat_inj.mp z)
        · refine Ex.cons (Ex.if (c := true) ?_ (fun _ => ?_) (fun z => nomatch z)) Ex.nil
          · refine EvB.conv (EvB.cmp (Ev.loc rfl rfl rfl) (Ev.loc rfl rfl rfl) cmp_eq) ?_
            simp; exact Int.ofNat_inj.mpr c2
          · exact Sq.assign _ (Ev.bin (Ev.bin Ev.flt (Ev.loc rfl rfl rfl) op_fadd) (Ev.loc rfl rfl rfl) op_fsub) (AdrOk.loc rfl) rfl Ex.nil
      · refine ⟨_, frame _ (hsv_head ok h1 h2 (hsv_mid hlt hb (hsv_end (Float64.sub (Float64.add 0x4010000000000000 (part r g b g)) (part r g b r)) fun A fx L cells cd cx he => ⟨_, rfl, ?_⟩)))⟩
        obtain ⟨env, F₀, P₀, nm⟩ := fx
        dsimp only at he
        subst he
        refine Ex.if (c := false) ?_ (fun z => nomatch z) (fun _ => ?_)
        · refine EvB.conv (EvB.cmp (Ev.loc rfl rfl rfl) (Ev.loc rfl rfl rfl) cmp_eq) ?_
          simp; exact fun z => c1 (Int.ofNat_inj.mp z)
        · refine Ex.cons (Ex.if (c := false) ?_ (fun z => nomatch z) (fun _ => ?_)) Ex.nil
          · refine EvB.conv (EvB.cmp (Ev.loc rfl rfl rfl) (Ev.loc rfl rfl rfl) cmp_eq) ?_
            simp; exact fun z => c2 (Int.ofNat_inj.mp z)
          · exact Sq.assign _ (Ev.bin (Ev.bin Ev.flt (Ev.loc rfl rfl rfl) op_fadd) (Ev.loc rfl rfl rfl) op_fsub) (AdrOk.loc rfl) rfl Ex.nil
end TL
end
section
namespace TL
open PySem PySem.W PyProof.Rows PySem.Calls PyProof.Rows.LCg
local macro_rules | `(tactic| walk_at "lits") => `(tactic| (repeat' (first | exact List.forall_mem_nil _ | refine List.forall_mem_cons.mpr ⟨⟨rfl, rfl⟩, ?_⟩ | refine List.forall_mem_cons.mpr ⟨rfl, ?_⟩)))
noncomputable def stepM (m : List Nat) (t : Nat × Nat) : List Nat := m.map fun x => if x = m.getD t.2 0 then m.getD t.1 0 else x
noncomputable def pieces (l : List (Nat × Nat)) : List Nat := l.foldl stepM [0, 1, 2, 3]
theorem pieces_lt : ∀ (ts : List (Nat × Nat)) (m : List Nat), m.length = 4 → (∀ t ∈ ts, t.1 < 4 ∧ t.2 < 4) → (ts.foldl stepM m).length = 4
  | [], m, h, _ => h
  | t :: r, m, h, h4 => pieces_lt r _ (by simp [stepM, h]) fun t ht => h4 t (List.mem_cons_of_mem _ ht)
theorem nats_get {m : List Nat} {i : Nat} (h : i < m.length) : (m.map intD)[((i : Int)).toNat]? = some (intD (m.getD i 0)) := by
  simp [List.getElem?_map, List.getD_eq_getElem?_getD, List.getElem?_eq_getElem h]
theorem pieces_ok {g : G} (ok : GOk g) {a : Addr} (fn : DefAt g 23 a) (ts : List (Nat × Nat)) (h4 : ∀ t ∈ ts, t.1 < 4 ∧ t.2 < 4) : CallOk g (.ref a) [tiesD ts] (natsD (pieces ts)) 2 := by
  refine CallOk.fn (ns := ["ties"]) ok fn (sc_ok (by decide +kernel)) rfl (fun pm code doc vs hv => ?_) fun A fx L cells cd cx he => ?_
  · match vs, hv with
    | [v], _ => rfl
  · obtain ⟨env, F₀, P₀, nm⟩ := fx
    dsimp only at he
    subst he
    refine Ex.cons (Ex.assign (Ev.list (EvL.cons Ev.int (EvL.cons Ev.int (EvL.cons Ev.int (EvL.cons Ev.int EvL.nil)))) (by decide)) (AdrOk.cell rfl) rfl) ?_
    refine Ex.cons (Ex.for (X := fun _ => XS.tt) (ds := ts.map tieD) (R := fun i => [("marks", natsD (pieces (ts.take i))), ("ties", tiesD ts)]) (Ev.loc rfl rfl rfl) (Itb.lst cx.h) fun i di hd => ?_) ?_
    · rw [List.getElem?_map] at hd
      obtain ⟨t, ht, rfl⟩ := Option.map_eq_some_iff.mp hd
      obtain ⟨hi, e⟩ := List.getElem?_eq_some_iff.mp ht
      obtain ⟨hm1, hm2⟩ := h4 t (List.mem_of_getElem? ht)
      refine ⟨_, Asg.tup cx.h (AsgL.cons (Asg.name (AdrOk.cell rfl)) (AsgL.cons (Asg.name (AdrOk.cell rfl)) AsgL.nil)) rfl rfl, ?_⟩
      have hlen : (pieces (ts.take i)).length = 4 := pieces_lt _ _ rfl fun t ht => h4 t (List.mem_of_mem_take ht)
      have e1 : pieces (ts.take (i + 1)) = stepM (pieces (ts.take i)) t := by
        rw [List.take_succ_eq_append_getElem hi, e]
        unfold pieces
        rw [List.foldl_append]; rfl
      show Ex _ _ _ _ _ _ _ (.next [("marks", natsD (pieces (ts.take (i + 1)))), ("ties", tiesD ts)])
      rw [e1]
      generalize pieces (ts.take i) = m at hlen ⊢
      refine Ex.cons (Ex.assign (Ev.comp (ρc := [("v", intD t.2), ("u", intD t.1), ("marks", natsD m)]) (yss := m.map fun x => [intD (if x = m.getD t.2 0 then m.getD t.1 0 else x)]) (scOk_of rfl) (Ev.cell rfl rfl rfl) (fun _ => rfl) (Itb.lst cx.h) (by simp [natsD]) (cap_of (by walk_at "lits")) (fun C cells => Turn.map1 fun x hx => ⟨_, Asg.name (.inl ⟨rfl, .inl rfl⟩), fresh_sub rfl, ?_⟩) (by rw [flatten1, List.length_map, hlen]; decide)) (AdrOk.cell rfl) rfl) (Ex.sub Ex.nil (sub_of (List.forall_mem_cons.mpr ⟨?_, by walk_at "lits"⟩)))
      · refine Ev.ite (c := decide (x = m.getD t.2 0)) (EvB.conv (EvB.cmp (Ev.loc rfl rfl rfl) (Ev.sub (Ev.cell rfl rfl rfl) (Ev.cell rfl rfl rfl) (item_lst (by omega) (by omega) (nats_get (by omega)))) cmp_eq) ?_)
          (fun h => Ev.conv (Ev.sub (Ev.cell rfl rfl rfl) (Ev.cell rfl rfl rfl) (item_lst (by omega) (by omega) (nats_get (by omega)))) (by rw [if_pos (of_decide_eq_true h)])) (fun h => Ev.conv (Ev.loc rfl rfl rfl) (by rw [if_neg (of_decide_eq_false h)]))
        rw [Bool.eq_iff_iff]; simp; omega
      · rw [flatten1]
        simp [stepM, natsD, Function.comp_def]
    · refine Ex.last (Ex.ret (Ev.conv (Ev.cell rfl rfl rfl) ?_))
      rw [List.length_map, List.take_length]
end TL
end
section
namespace TL
open PySem PySem.W PyProof.Rows PySem.Calls PyProof.Rows.LCg
local macro_rules | `(tactic| walk_at "lits") => `(tactic| (repeat' (first | exact List.forall_mem_nil _ | refine List.forall_mem_cons.mpr ⟨⟨rfl, rfl⟩, ?_⟩ | refine List.forall_mem_cons.mpr ⟨rfl, ?_⟩)))
local macro_rules | `(tactic| walk_at "ev") => `(tactic| (repeat' (first | with_reducible exact EvL.nil | (with_reducible refine EvL.cons ?_ ?_ ?_) | with_reducible exact Ev.int | with_reducible exact Ev.str | ((with_reducible refine Ev.loc ?_ ?_ ?_) <;> rfl) | ((with_reducible refine Ev.cell ?_ ?_ ?_) <;> rfl) | (with_reducible refine Ev.tuple ?_ ?_) | (with_reducible refine Ev.list ?_ ?_) | (with_reducible refine Ev.subK ?_ ?_ ?_) | (with_reducible refine Nat.le_of_ble_eq_true ?_) | (show _ = _; rfl))))
noncomputable def pairs : List (Nat × Nat) := [(0, 1), (0, 2), (0, 3), (1, 2), (1, 3), (2, 3)]
noncomputable def tiesOf (c0 c1 c2 c3 c4 : Nat) : List (Nat × Nat) := [(0, 1), (c0 % 2, 2), (c1 % 3, 3)] ++ ([c2, c3, c4].filter fun x => decide (x % 7 < 6)).map fun x => pairs.getD (x % 7) (0, 0)
theorem ties_ok {g : G} (ok : GOk g) {a : Addr} (fn : DefAt g 22 a) (c0 c1 c2 c3 c4 : Nat) : CallOk g (.ref a) [natsD [c0, c1, c2, c3, c4]] (tiesD (tiesOf c0 c1 c2 c3 c4)) 2 := by
  refine CallOk.fn (ns := ["cells"]) ok fn (sc_ok (by decide +kernel)) rfl (fun pm code doc vs hv => ?_) fun A fx L cells cd cx he => ?_
  · match vs, hv with
    | [v], _ => rfl
  · obtain ⟨env, F₀, P₀, nm⟩ := fx
    dsimp only at he
    subst he
    refine Sq.assign (.lst [.tup [.int 0, .int 1], .tup [.int 0, .int 2], .tup [.int 0, .int 3], .tup [.int 1, .int 2], .tup [.int 1, .int 3], .tup [.int 2, .int 3]]) ?_ ?_ ?_ ?_
    · walk_at "ev"
    · exact AdrOk.cell rfl
    · rfl
    refine Sq.assign (.lst [.tup [.int 0, .int 1], .tup [intD (c0 % 2), .int 2], .tup [intD (c1 % 3), .int 3]]) ?_ ?_ ?_ ?_
    · walk_at "ev"
      · exact Ev.bin (Ev.subK (Ev.loc rfl rfl rfl) rfl rfl) Ev.int (op_modN 2 (by decide))
      · exact Ev.bin (Ev.subK (Ev.loc rfl rfl rfl) rfl rfl) Ev.int (op_modN 3 (by decide))
    · exact AdrOk.loc rfl
    · rfl
    refine Sq.ret ?_
    refine Ev.conv (Ev.add_lst (Ev.loc rfl rfl rfl) (Ev.map2 [("pairs", tiesD pairs)] [c2, c3, c4] intD (fun x => decide (x % 7 < 6)) (fun x => tieD (pairs.getD (x % 7) (0, 0))) (scOk_of rfl) (Ev.slice_from (k := 2) (Ev.loc rfl rfl rfl) (by simp) (by simp)) (fun _ => rfl) (Itb.lst cx.h) (by walk_at "lits") rfl
      (fun _ _ => .inl ⟨rfl, .inl rfl⟩) (fun C cells x hx => ?_) (fun C cells x hx hlt => ?_) (by simp)) ?_) ?_
    · refine EvB.conv (EvB.cmp (Ev.bin (Ev.loc rfl rfl rfl) Ev.int (op_modN 7 (by decide))) Ev.int cmp_lt) ?_
      simp only [decide_eq_decide]; omega
    · refine Ev.sub (Ev.cell rfl rfl rfl) (Ev.bin (Ev.loc rfl rfl rfl) Ev.int (op_modN 7 (by decide))) (item_lst (by omega) (by omega) ?_)
      have : x % 7 < 6 := of_decide_eq_true hlt
      have h6 : x % 7 < pairs.length := this
      show (pairs.map tieD)[((x % 7 : Nat) : Int).toNat]? = _
      simp only [Int.toNat_natCast, List.getElem?_map, List.getD_eq_getElem?_getD, List.getElem?_eq_getElem h6]
      rfl
    · refine Nat.le_trans (Nat.add_le_add_left (by rw [List.length_map]; exact List.length_filter_le _ _) _) (Nat.le_of_ble_eq_true rfl)
    · simp [tiesOf, tiesD, Function.comp_def, tieD, intD]
end TL
end
section
namespace TL
open PySem PySem.W PyProof.Rows PySem.Calls PyProof.Rows.LCg
local macro_rules | `(tactic| walk_at "lits") => `(tactic| (repeat' (first | exact List.forall_mem_nil _ | refine List.forall_mem_cons.mpr ⟨⟨rfl, rfl⟩, ?_⟩ | refine List.forall_mem_cons.mpr ⟨rfl, ?_⟩)))
local macro_rules | `(tactic| walk_at "ev") => `(tactic| (repeat' (first | with_reducible exact EvL.nil | (with_reducible refine EvL.cons ?_ ?_ ?_) | with_reducible exact Ev.int | with_reducible exact Ev.str | ((with_reducible refine Ev.loc ?_ ?_ ?_) <;> rfl) | ((with_reducible refine Ev.cell ?_ ?_ ?_) <;> rfl) | (with_reducible refine Ev.tuple ?_ ?_) | (with_reducible refine Ev.list ?_ ?_) | (with_reducible refine Ev.subK ?_ ?_ ?_) | (with_reducible refine Nat.le_of_ble_eq_true ?_) | (show _ = _; rfl))))
noncomputable def cellsAt (ns : List Int) : Nat → List Nat
  | 0 => [1, 2, 1, 3, 6]
  | i + 1 => (cellsAt ns i).set (i % 5) ((cellsAt ns i).getD (i % 5) 0 + ((ns.getD i 0).fmod 1000000).toNat)
noncomputable def cellsOf (ns : List Int) : List Nat := cellsAt ns (ns.take 15).length
theorem cellsAt_len (ns : List Int) : ∀ i, (cellsAt ns i).length = 5
  | 0 => rfl
  | i + 1 => by rw [cellsAt, List.length_set]; exact cellsAt_len ns i
theorem cells_ok {g : G} (ok : GOk g) {a : Addr} (fn : DefAt g 21 a) (hr : g.mg "enumerate" = none) (ns : List Int) (hl : ns.length ≤ 4096) : CallOk g (.ref a) [intsD ns] (natsD (cellsOf ns)) 2 := by
  refine CallOk.fn (ns := ["script"]) ok fn (sc_ok (by decide +kernel)) rfl (fun pm code doc vs hv => ?_) fun A fx L cells cd cx he => ?_
  · match vs, hv with
    | [v], _ => rfl
  · obtain ⟨env, F₀, P₀, nm⟩ := fx
    dsimp only at he
    subst he
    refine Sq.own [.int 1, .int 2, .int 1, .int 3, .int 6] ?_ ?_ ?_ fun c _ => ?_
    · refine EvN.list ?_ ?_
      · walk_at "ev"
      · walk_at "ev"
    · exact AdrOk.loc rfl
    · rfl
    refine Ex.preX (XS.own c ((cellsAt ns 0).map intD)) (fun F P x => x.2) ?_
    refine Sq.forX (fun i => XS.own c ((cellsAt ns i).map intD)) (fun _ => [("cells", .raw (.ref c)), ("script", intsD ns)]) (enumD ((ns.map D.int).take 15)) ?_ ?_ (fun i di hd => ?_) ?_ ?_
    · exact sub_of (by walk_at "lits")
    · exact EvI.enum cx (Ev.builtin ok hr rfl (by decide) rfl rfl) (Ev.slice_to (k := 15) (Ev.loc rfl rfl rfl) (by rw [List.length_map]; exact hl))
    · rw [enumD, List.getElem?_mapIdx] at hd
      obtain ⟨d₀, hd₀, rfl⟩ := Option.map_eq_some_iff.mp hd
      rw [← List.map_take, List.getElem?_map] at hd₀
      obtain ⟨x, hx, rfl⟩ := Option.map_eq_some_iff.mp hd₀
      have hx' : ns.getD i 0 = x := by
        rw [List.getElem?_take] at hx
        split at hx
        · rw [List.getD_eq_getElem?_getD, hx]; rfl
        · cases hx
      have hi : i < 15 := by
        have := (List.getElem?_eq_some_iff.mp hx).1
        rw [List.length_take] at this; omega
      refine ⟨_, Asg.tup cx.h (AsgL.cons (Asg.name (AdrOk.loc rfl)) (AsgL.cons (Asg.name (AdrOk.loc rfl)) AsgL.nil)) rfl rfl, ?_⟩
      have hlen := cellsAt_len ns i
      have h5 : i % 5 < (cellsAt ns i).length := by omega
      refine Sq.aug (j := i % 5) ((cellsAt ns i).map intD) (((cellsAt ns i).getD (i % 5) 0 : Nat) : Int) (x.fmod (10 ^ 6)) ?_ ?_ ?_ (fun F P x => x) ?_ ?_ ?_ (fun F P ob xx ow => ?_) (Sq.nil rfl (sub_of (by walk_at "lits")))
      · exact Ev.loc rfl rfl rfl
      · exact Ev.bin (Ev.loc rfl rfl rfl) Ev.int (op_modN 5 (by decide))
      · exact Ev.bin (Ev.loc rfl rfl rfl) (Ev.bin Ev.int Ev.int (op_pow (n := 6) (by decide) (by decide))) (op_mod (by decide))
      · rw [List.getElem?_map, List.getD_eq_getElem?_getD, List.getElem?_eq_getElem h5]; rfl
      · omega
      · exact fun _ _ _ => rfl
      · have e : (cellsAt ns (i + 1)).map intD = ((cellsAt ns i).map intD).set (i % 5) (.int ((((cellsAt ns i).getD (i % 5) 0 : Nat) : Int) + x.fmod (10 ^ 6))) := by
          have h0 : 0 ≤ x.fmod 1000000 := Int.fmod_nonneg_of_pos _ (by decide)
          rw [cellsAt, hx', List.map_set, intD]
          congr 2
          show ((_ + (x.fmod 1000000).toNat : Nat) : Int) = _ + x.fmod 1000000
          omega
        show Own _ c ((cellsAt ns (i + 1)).map intD) F (upd P c ob)
        rw [e]; exact ow
    · exact fun _ => rfl
    · refine Ex.conv (Sq.retOwn _ (Ev.loc rfl rfl rfl) (fun F P x => x)) ?_
      have e : (enumD ((ns.map D.int).take 15)).length = (ns.take 15).length := by simp [enumD]
      rw [e]; rfl
end TL
end
section
namespace TL
open PySem PySem.W PyProof.Rows PySem.Calls PyProof.Rows.LCg
local macro_rules | `(tactic| walk_at "lits") => `(tactic| (repeat' (first | exact List.forall_mem_nil _ | refine List.forall_mem_cons.mpr ⟨⟨rfl, rfl⟩, ?_⟩ | refine List.forall_mem_cons.mpr ⟨rfl, ?_⟩)))
local macro_rules | `(tactic| walk_at "ev") => `(tactic| (repeat' (first | with_reducible exact EvL.nil | (with_reducible refine EvL.cons ?_ ?_ ?_) | with_reducible exact Ev.int | with_reducible exact Ev.str | ((with_reducible refine Ev.loc ?_ ?_ ?_) <;> rfl) | ((with_reducible refine Ev.cell ?_ ?_ ?_) <;> rfl) | (with_reducible refine Ev.tuple ?_ ?_) | (with_reducible refine Ev.list ?_ ?_) | (with_reducible refine Ev.subK ?_ ?_ ?_) | (with_reducible refine Nat.le_of_ble_eq_true ?_) | (show _ = _; rfl))))
noncomputable def quads : List (Nat × Nat × Nat × Nat) := [(0, 1, 2, 3), (0, 2, 1, 3), (0, 3, 1, 2), (1, 2, 0, 3), (1, 3, 0, 2), (2, 3, 0, 1)]
noncomputable def quadD (t : Nat × Nat × Nat × Nat) : D := .tup [intD t.1, intD t.2.1, intD t.2.2.1, intD t.2.2.2]
noncomputable def minor (sq : List (List Int)) (k l : Nat) : Int := at2 sq k k * at2 sq l l - at2 sq k l * at2 sq l k
noncomputable def farStep (sq m : List (List Int)) (t : Nat × Nat × Nat × Nat) : List (List Int) := set2 (set2 m t.1 t.2.1 (minor sq t.2.2.1 t.2.2.2)) t.2.1 t.1 (minor sq t.2.2.1 t.2.2.2)
noncomputable def zeros : List (List Int) := [[0, 0, 0, 0], [0, 0, 0, 0], [0, 0, 0, 0], [0, 0, 0, 0]]
noncomputable def farOf (sq : List (List Int)) : List (List Int) := quads.foldl (farStep sq) zeros
theorem quads_lt : ∀ t ∈ quads, t.1 < 4 ∧ t.2.1 < 4 ∧ t.2.2.1 < 4 ∧ t.2.2.2 < 4 := by decide
theorem farFold {sq : List (List Int)} : ∀ (ts : List (Nat × Nat × Nat × Nat)) (m : List (List Int)), Sq4 m → (∀ t ∈ ts, t.1 < 4 ∧ t.2.1 < 4 ∧ t.2.2.1 < 4 ∧ t.2.2.2 < 4) → Sq4 (ts.foldl (farStep sq) m)
  | [], m, h, _ => h
  | t :: r, m, h, q => farFold r _ ((h.set (q t List.mem_cons_self).1).set (q t List.mem_cons_self).2.1) fun u hu => q u (List.mem_cons_of_mem _ hu)
theorem zeros4 : Sq4 zeros := ⟨rfl, by decide⟩
theorem far_ok {g : G} (ok : GOk g) {a : Addr} (fn : DefAt g 25 a) (hr : g.mg "range" = none) (sq : List (List Int)) (h4 : Sq4 sq) (hb : ∀ i j, i < 4 → j < 4 → -(2 ^ 64) < at2 sq i j ∧ at2 sq i j < 2 ^ 64) : CallOk g (.ref a) [matD sq] (matD (farOf sq)) 2 := by
  refine CallOk.fn (ns := ["square"]) ok fn (sc_ok (by decide +kernel)) rfl (fun pm code doc vs hv => ?_) fun A fx L cells cd cx he => ?_
  · match vs, hv with
    | [v], _ => rfl
  · obtain ⟨env, F₀, P₀, nm⟩ := fx
    dsimp only at he
    subst he
    refine Sq.mat [] (List.range 4) (fun i => D.int (0 + (i : Int))) (fun _ => [.int 0, .int 0, .int 0, .int 0]) (.rng 0 4) ?_ ?_ ?_ ?_ ?_ rfl ?_ (fun C cells a ha => ?_) ?_ ?_ ?_ fun m bs hl hn hm => ?_
    · exact scOk_of rfl
    · exact Ev.call cx (Ev.builtin ok hr rfl (by decide) rfl rfl) Keep.type (EvL.cons Ev.int EvL.nil) range1
    · exact fun _ => rfl
    · exact Itb.rng cx.h rfl rfl
    · walk_at "lits"
    · exact fun _ _ => .inl ⟨rfl, .inl rfl⟩
    · refine EvN.list ?_ ?_
      · walk_at "ev"
      · walk_at "ev"
    · exact Nat.le_of_ble_eq_true rfl
    · exact AdrOk.loc rfl
    · rfl
    have hl4 : bs.length = 4 := hl
    refine Ex.preX (XS.mat m bs (rowsI zeros)) ?_ ?_
    · exact fun F P x => x.2
    refine Sq.forX (fun i => XS.mat m bs (rowsI ((quads.take i).foldl (farStep sq) zeros))) (fun _ => [("far", .raw (.ref m)), ("square", matD sq)]) (quads.map quadD) ?_ ?_ (fun i di hd => ?_) ?_ ?_
    · exact sub_of (by walk_at "lits")
    · refine EvI.at (.lst (quads.map quadD)) ?_ (Itb.lst cx.h)
      refine Ev.as (.lst [.tup [.int 0, .int 1, .int 2, .int 3], .tup [.int 0, .int 2, .int 1, .int 3], .tup [.int 0, .int 3, .int 1, .int 2], .tup [.int 1, .int 2, .int 0, .int 3], .tup [.int 1, .int 3, .int 0, .int 2], .tup [.int 2, .int 3, .int 0, .int 1]]) ?_ rfl
      walk_at "ev"
    · rw [List.getElem?_map] at hd
      obtain ⟨t, ht, rfl⟩ := Option.map_eq_some_iff.mp hd
      obtain ⟨hi, e⟩ := List.getElem?_eq_some_iff.mp ht
      obtain ⟨l1, l2, l3, l4⟩ := quads_lt t (List.mem_of_getElem? ht)
      refine ⟨_, Asg.tup cx.h (AsgL.cons (Asg.name (AdrOk.loc rfl)) (AsgL.cons (Asg.name (AdrOk.loc rfl)) (AsgL.cons (Asg.name (AdrOk.loc rfl)) (AsgL.cons (Asg.name (AdrOk.loc rfl)) AsgL.nil)))) rfl rfl, ?_⟩
      have e1 : (quads.take (i + 1)).foldl (farStep sq) zeros = farStep sq ((quads.take i).foldl (farStep sq) zeros) t := by
        rw [List.take_succ_eq_append_getElem hi, e, List.foldl_append]; rfl
      show Ex _ _ _ _ (XS.mat m bs (rowsI ((quads.take (i + 1)).foldl (farStep sq) zeros))) _ _ _
      have hS : Sq4 ((quads.take i).foldl (farStep sq) zeros) := farFold _ _ zeros4 fun u hu => quads_lt u (List.mem_of_mem_take hu)
      rw [e1]
      generalize (quads.take i).foldl (farStep sq) zeros = fm at hS ⊢
      refine Sq.set2 fm (minor sq t.2.2.1 t.2.2.2) hS hl4 hn hm l1 l2 ?_ ?_ ?_ ?_ ?_ ?_ ?_
      · exact Ev.bin (Ev.bin (Ev.at2 h4 l3 l3 (Ev.loc rfl rfl rfl) (Ev.loc rfl rfl rfl) (Ev.loc rfl rfl rfl)) (Ev.at2 h4 l4 l4 (Ev.loc rfl rfl rfl) (Ev.loc rfl rfl rfl) (Ev.loc rfl rfl rfl)) (op_mul (hb _ _ l3 l3).1 (hb _ _ l3 l3).2)) (Ev.bin (Ev.at2 h4 l3 l4 (Ev.loc rfl rfl rfl) (Ev.loc rfl rfl rfl) (Ev.loc rfl rfl rfl)) (Ev.at2 h4 l4 l3 (Ev.loc rfl rfl rfl) (Ev.loc rfl rfl rfl) (Ev.loc rfl rfl rfl)) (op_mul (hb _ _ l3 l4).1 (hb _ _ l3 l4).2)) op_sub
      · exact Ev.loc rfl rfl rfl
      · exact Ev.loc rfl rfl rfl
      · exact Ev.loc rfl rfl rfl
      · rfl
      · exact fun _ _ _ => rfl
      have hS' : Sq4 (set2 fm t.1 t.2.1 (minor sq t.2.2.1 t.2.2.2)) := hS.set l1
      have hb1 : bs[t.1]? = some (bs.getD t.1 0) := by
        have : t.1 < bs.length := by omega
        rw [List.getD_eq_getElem?_getD, List.getElem?_eq_getElem this]; rfl
      refine Sq.set2 _ (minor sq t.2.2.1 t.2.2.2) hS' hl4 hn hm l2 l1 ?_ ?_ ?_ ?_ ?_ ?_ ?_
      · refine Ev.conv (Ev.at2O (fun F P x => x) hb1 (hS'.get l1 l2).1 (hS'.get l1 l2).2 (by omega) (by omega) (Ev.loc rfl rfl rfl) (Ev.loc rfl rfl rfl) (Ev.loc rfl rfl rfl)) ?_
        rw [hS.at_set l1 l2]
      · exact Ev.loc rfl rfl rfl
      · exact Ev.loc rfl rfl rfl
      · exact Ev.loc rfl rfl rfl
      · rfl
      · exact fun _ _ _ => rfl
      exact Sq.nil rfl (sub_of (by walk_at "lits"))
    · exact fun _ => rfl
    · refine Sq.retMat bs _ ?_ (Ev.loc rfl rfl rfl) (fun F P x => x)
      rw [rowsI, List.length_map, farOf, (farFold _ _ zeros4 quads_lt).n]
      exact hl4
end TL
end
section
namespace TL
open PySem PySem.W PyProof.Rows PySem.Calls PyProof.Rows.LCg
local macro_rules | `(tactic| walk_at "lits") => `(tactic| (repeat' (first | exact List.forall_mem_nil _ | refine List.forall_mem_cons.mpr ⟨⟨rfl, rfl⟩, ?_⟩ | refine List.forall_mem_cons.mpr ⟨rfl, ?_⟩)))
local macro_rules | `(tactic| walk_at "ev") => `(tactic| (repeat' (first | with_reducible exact EvL.nil | (with_reducible refine EvL.cons ?_ ?_ ?_) | with_reducible exact Ev.int | with_reducible exact Ev.str | ((with_reducible refine Ev.loc ?_ ?_ ?_) <;> rfl) | ((with_reducible refine Ev.cell ?_ ?_ ?_) <;> rfl) | (with_reducible refine Ev.tuple ?_ ?_) | (with_reducible refine Ev.list ?_ ?_) | (with_reducible refine Ev.subK ?_ ?_ ?_) | (with_reducible refine Nat.le_of_ble_eq_true ?_) | (show _ = _; rfl))))
noncomputable def lets : List Str := ["a", "b", "c", "d"]
noncomputable def letOf (i : Nat) : Str := lets.getD i "a"
noncomputable def keyOf (cells : List Nat) (k u : Nat) : Str := if 1 < cells.getD (k % 5) 0 % 4 then Txt.upper (letOf u) else letOf u
noncomputable def kvAt (cells : List Nat) (k : Nat) (t : Nat × Nat) : Str × Str := (keyOf cells k t.1, letOf t.2)
noncomputable def kvsOf (cells : List Nat) (ts : List (Nat × Nat)) : List (Str × Str) := ts.mapIdx (kvAt cells)
noncomputable def cnt (ts : List (Nat × Nat)) (i j : Nat) : Nat := ts.count (i, j)
noncomputable def off (ts : List (Nat × Nat)) (i j : Nat) : Int := -(cnt ts i j : Int) - (cnt ts j i : Int)
noncomputable def offs (ts : List (Nat × Nat)) : List (List Int) := (List.range 4).map fun i => (List.range 4).map (off ts i)
noncomputable def diagStep (m : List (List Int)) (i : Nat) : List (List Int) := set2 m i i (-(m.getD i []).sum)
noncomputable def squareOf (ts : List (Nat × Nat)) : List (List Int) := (List.range 4).foldl diagStep (offs ts)
theorem letOf_mem (i : Nat) : letOf i ∈ letters := by
  unfold letOf
  rw [List.getD_eq_getElem?_getD]
  match i with
  | 0 | 1 | 2 | 3 => decide
  | i + 4 => simp [lets]; decide
theorem low_let : ∀ i, i < 4 → Txt.lower (letOf i) = letOf i ∧ Txt.lower (Txt.upper (letOf i)) = letOf i := by decide +kernel
theorem let_inj : ∀ i, i < 4 → ∀ j, j < 4 → letOf i = letOf j → i = j := by decide +kernel
theorem item_let : ∀ i : Nat, i < 4 → Txt.item "abcd" (i : Int) = letOf i := by decide +kernel
theorem signs_abcd : signs "abcd" = lets.map .str := by rfl
theorem key_mem (cells : List Nat) (k u : Nat) : keyOf cells k u ∈ letters := by
  unfold keyOf
  split
  · exact (letter_fit _ (letOf_mem u)).2.2.2
  · exact letOf_mem u
theorem key_low (cells : List Nat) (k u : Nat) (h : u < 4) : Txt.lower (keyOf cells k u) = letOf u := by
  unfold keyOf
  split
  · exact (low_let u h).2
  · exact (low_let u h).1
theorem getAll_ties (cells : List Nat) {i : Nat} (hi : i < 4) : ∀ (ts : List (Nat × Nat)) (c : Nat), (∀ t ∈ ts, t.1 < 4 ∧ t.2 < 4) → getAll (ts.mapIdx fun k t => kvAt cells (k + c) t) (letOf i) = (ts.filter (·.1 == i)).map fun t => letOf t.2
  | [], _, _ => rfl
  | t :: r, c, h => by
    have ih := getAll_ties cells hi r (c + 1) fun t ht => h t (List.mem_cons_of_mem _ ht)
    have h1 := (h t List.mem_cons_self).1
    unfold getAll at ih ⊢
    rw [List.mapIdx_cons, List.filter_cons, List.filter_cons]
    have e : (fun k t => kvAt cells (k + 1 + c) t) = fun k t => kvAt cells (k + (c + 1)) t := by funext k t; congr 1; omega
    have z : (Txt.lower (kvAt cells (0 + c) t).1 == letOf i) = (t.1 == i) := by
      show (Txt.lower (keyOf cells (0 + c) t.1) == letOf i) = _
      rw [key_low _ _ _ h1, Bool.eq_iff_iff]
      simp only [beq_iff_eq]
      exact ⟨let_inj _ h1 _ hi, fun q => by rw [q]⟩
    rw [e, z]
    split
    · rw [List.map_cons, List.map_cons, ih]; rfl
    · exact ih
theorem count_ties {i j : Nat} (hj : j < 4) : ∀ (ts : List (Nat × Nat)), (∀ t ∈ ts, t.1 < 4 ∧ t.2 < 4) → ((ts.filter (·.1 == i)).map fun t => letOf t.2).count (letOf j) = cnt ts i j
  | [], _ => rfl
  | t :: r, h => by
    have ih := count_ties (i := i) hj r fun t ht => h t (List.mem_cons_of_mem _ ht)
    have h2 := (h t List.mem_cons_self).2
    unfold cnt at ih ⊢
    rw [List.filter_cons, List.count_cons]
    by_cases q : t.1 = i
    · subst q
      rw [if_pos (by simp), List.map_cons, List.count_cons, ih]
      congr 1
      by_cases z : t.2 = j
      · subst z; simp
      · rw [if_neg (by simp; intro w; exact z (let_inj _ h2 _ hj w)), if_neg (by simp only [beq_iff_eq]; intro w; exact z (congrArg Prod.snd w))]
    · rw [if_neg (by simpa using q), ih, if_neg (by simp only [beq_iff_eq]; intro w; exact q (congrArg Prod.fst w))]
      rfl
theorem offs4 (ts : List (Nat × Nat)) : Sq4 (offs ts) := ⟨by simp [offs], fun r hr => by
  obtain ⟨i, _, rfl⟩ := List.mem_map.mp hr
  simp⟩
theorem diag4 : ∀ (l : List Nat) (m : List (List Int)), Sq4 m → (∀ i ∈ l, i < 4) → Sq4 (l.foldl diagStep m)
  | [], m, h, _ => h
  | i :: r, m, h, q => diag4 r _ (h.set (q i List.mem_cons_self)) fun j hj => q j (List.mem_cons_of_mem _ hj)
theorem square_ok {g : G} (ok : GOk g) {K : Frag} {C fI fC fA fG pN pV Td a : Addr} {oT : Obj} {nT : Nat} (hk : HK g K C fI fC fA fG) (fn : DefAt g 24 a) (fi : MethAt g 19 0 "Headers.__init__" (.ref Td) fI) (hT : g.hb.get? Td = some oT) (hTd : oT.data = .seq #[.none] nT)
    (fc : MethAt g 19 1 "Headers._convert_string_type" .none fC) (fa : MethAt g 19 16 "Headers.add_header" .none fA) (fg : MethAt g 19 7 "Headers.get_all" .none fG)
    (hn : PatAt g pN nameCode) (hv : PatAt g pV valueCode) (gN : g.mg "_name_disallowed_re" = some (.ref pN)) (gV : g.mg "_value_disallowed_re" = some (.ref pV)) (gH : g.mg "Headers" = some (.ref C))
    (gT : g.mg "type" = none) (gL : g.mg "list" = none) (gS : g.mg "str" = none) (gE : g.mg "enumerate" = none) (gR : g.mg "range" = none) (gU : g.mg "sum" = none) (hS : ∃ a oS, sysModules < a ∧ g.hb.get? a = some oS)
    (ts : List (Nat × Nat)) (h4 : ∀ t ∈ ts, t.1 < 4 ∧ t.2 < 4) (hl : ts.length ≤ 4096) (cells : List Nat) (h5 : cells.length = 5) : CallOk g (.ref a) [tiesD ts, natsD cells] (matD (squareOf ts)) 4 := by
  refine CallOk.fn (ns := ["ties", "cells"]) ok fn (sc_ok (by decide +kernel)) rfl (fun pm code doc vs hv => ?_) fun A fx L cc cd cx he => ?_
  · match vs, hv with
    | [v, w], _ => rfl
  · obtain ⟨env, F₀, P₀, nm⟩ := fx
    dsimp only at he
    subst he
    refine Sq.newHdr ok hk fi hT hTd gT gL cx ?_ ?_ ?_ ?_ fun x hd => ?_
    · exact Ev.glob ok gH rfl rfl
    · exact AdrOk.cell rfl
    · rfl
    · rfl
    have lenk : ∀ i, (kvsOf cells (ts.take i)).length ≤ 4096 := fun i => by rw [kvsOf, List.length_mapIdx, List.length_take]; omega
    refine Ex.preX ((XS.inst C x (hkds hd)).and (XS.own hd ((kvsOf cells (ts.take 0)).map pairD))) (fun F P y => y.2) ?_
    refine Sq.forX (fun i => (XS.inst C x (hkds hd)).and (XS.own hd ((kvsOf cells (ts.take i)).map pairD))) (fun _ => [("table", .raw (.ref x)), ("ties", tiesD ts), ("cells", natsD cells)]) (enumD (ts.map tieD)) ?_ ?_ (fun i di hdi => ?_) ?_ ?_
    · exact sub_of (by walk_at "lits")
    · exact EvI.enum cx (Ev.builtin ok gE rfl (by decide) rfl rfl) (Ev.loc rfl rfl rfl)
    · rw [enumD, List.getElem?_mapIdx] at hdi
      obtain ⟨d₀, hd₀, rfl⟩ := Option.map_eq_some_iff.mp hdi
      rw [List.getElem?_map] at hd₀
      obtain ⟨t, ht, rfl⟩ := Option.map_eq_some_iff.mp hd₀
      obtain ⟨hi, e⟩ := List.getElem?_eq_some_iff.mp ht
      obtain ⟨l1, l2⟩ := h4 t (List.mem_of_getElem? ht)
      have e1 : kvsOf cells (ts.take (i + 1)) = kvsOf cells (ts.take i) ++ [kvAt cells i t] := by
        rw [List.take_succ_eq_append_getElem hi, e, kvsOf, List.mapIdx_append]
        simp [kvsOf, Nat.min_eq_left (Nat.le_of_lt hi)]
      refine ⟨_, Asg.tup cx.h (AsgL.cons (Asg.name (AdrOk.loc rfl)) (AsgL.cons (Asg.tup cx.h (AsgL.cons (Asg.name (AdrOk.loc rfl)) (AsgL.cons (Asg.name (AdrOk.loc rfl)) AsgL.nil)) rfl rfl) AsgL.nil)) rfl rfl, ?_⟩
      refine Sq.assign (.str (letOf t.1)) ?_ ?_ ?_ ?_
      · exact Ev.conv (Ev.sub Ev.str (Ev.loc rfl rfl rfl) (item_strD (by omega) (by show (t.1 : Int) < ((4 : Nat) : Int); omega) (by omega))) (by rw [item_let _ l1])
      · exact AdrOk.loc rfl
      · rfl
      have hik : i < 4096 := by omega
      refine Sq.exprX (X₁ := (XS.inst C x (hkds hd)).and (XS.own hd ((kvsOf cells (ts.take (i + 1))).map pairD))) (EvX.meth cx (Ev.cell rfl rfl rfl) (gm_methP hk.KX (fun F P k y => y.1.toP k) rfl (hk.pg _) hk.ad hk.adF) (Keep.fun fa) (EvL.cons (d := .str (keyOf cells i t.1)) (Ev.ite (c := decide (1 < cells.getD (i % 5) 0 % 4)) ?_ ?_ ?_) (EvL.cons (d := .str (letOf t.2)) ?_ EvL.nil)) (add_ok ok hk fa fc hn hv gN gV gT gS hS x hd _ (by rw [List.length_map]; exact lenk i) _ _ (key_mem _ _ _) (letOf_mem _)) (fun F P y => ⟨y.1, y.2.toP⟩) (fun F P y a h => by subst h; exact y.2.some) rfl) (fun F P y => y.2.wok) (fun F P F' P' v y s po => ⟨po.1, ?_⟩) ?_ rfl rfl
      · refine EvB.conv (EvB.cmp (Ev.bin (Ev.subN (Ev.loc rfl rfl rfl) (Ev.bin (Ev.loc rfl rfl rfl) Ev.int (op_modN 5 (by decide))) (d := intD (cells.getD (i % 5) 0)) ?_ (by omega)) Ev.int (op_modN 4 (by decide))) Ev.int cmp_gt) ?_
        · have : i % 5 < cells.length := by omega
          rw [List.getElem?_map, List.getD_eq_getElem?_getD, List.getElem?_eq_getElem this]; rfl
        · simp only [decide_eq_decide]; omega
      · intro h
        refine Ev.conv (Ev.ofX (EvX.meth0 cx (Ev.loc rfl rfl rfl) (gm_str fun A pl t s Q E h => GM.upper h) Keep.builtin (CallX.of (upper_ok (letter_fit _ (letOf_mem t.1)).2.1)) (fun _ _ _ => trivial) (fun _ _ _ _ h => h.elim) rfl)) ?_
        rw [keyOf, if_pos (of_decide_eq_true h)]
      · intro h
        refine Ev.conv (Ev.loc rfl rfl rfl) ?_
        rw [keyOf, if_neg (of_decide_eq_false h)]
      · exact Ev.conv (Ev.sub Ev.str (Ev.loc rfl rfl rfl) (item_strD (by omega) (by show (t.2 : Int) < ((4 : Nat) : Int); omega) (by omega))) (by rw [item_let _ l2])
      · have q := po.2.1.own (fx := ⟨_, F₀, P₀, nm⟩) y.2.fresh y.2.nmut
        rw [e1, List.map_append]
        exact q
      · exact Sq.nil rfl (sub_of (by walk_at "lits"))
    · exact fun _ => rfl
    have e0 : (enumD (ts.map tieD)).length = ts.length := by simp [enumD]
    rw [e0, List.take_length]
    refine Ex.freeze hd ((kvsOf cells ts).map pairD) (XS.inst C x [("_headers", .lst ((kvsOf cells ts).map pairD))]) (fun F P y => y.2) (fun F P F' y hF _ r => ?_) ?_
    · obtain ⟨dx, oD, kvs, i1, i2, i3, i4, i5⟩ := y.1
      refine ⟨dx, oD, kvs, hF _ _ i1, hF _ _ i2, i3, i4, ?_⟩
      obtain ⟨v, hv', rv⟩ := RepL.one i5
      rw [hv']
      simp only [Rep] at rv
      subst rv
      exact .cons r .nil
    have hkv : ∀ p ∈ kvsOf cells ts, p.1 ∈ letters := fun p hp => by
      obtain ⟨j, hj, rfl⟩ := List.mem_mapIdx.mp hp
      exact key_mem _ _ _
    have hlk : (kvsOf cells ts).length ≤ 4096 := by rw [kvsOf, List.length_mapIdx]; exact hl
    have near : ∀ i, i < 4 → getAll (kvsOf cells ts) (Txt.lower (letOf i)) = (ts.filter (·.1 == i)).map fun t => letOf t.2 := fun i hi => by
      rw [(low_let i hi).1]
      exact getAll_ties cells hi ts 0 h4
    have hpre : ∀ F P, (XS.inst C x [("_headers", .lst ((kvsOf cells ts).map pairD))] : XS ⟨_, F₀, P₀, nm⟩).p F P → InstF C x [("_headers", .lst ((kvsOf cells ts).map pairD))] F := fun F P y => y
    refine Sq.assign (.lst (lets.map fun c => .lst ((getAll (kvsOf cells ts) (Txt.lower c)).map .str))) ?_ ?_ ?_ ?_
    · refine Ev.map1 [("table", .raw (.ref x))] lets .str (fun c => .lst ((getAll (kvsOf cells ts) (Txt.lower c)).map .str)) (d := .str "abcd") (scOk_of rfl) Ev.str (fun _ => rfl) ?_ (by walk_at "lits") rfl (fun _ _ => .inl ⟨rfl, .inl rfl⟩) (fun _ _ c hc => ?_) (by decide)
      · rw [← signs_abcd]; exact Itb.str cx.h (by decide +kernel)
      · have hm : c ∈ letters := by revert c; decide
        exact Ev.ofX (EvX.meth cx (Ev.cell rfl rfl rfl) (gm_methP hk.KX (fun F P k y => InstF.toP y k) rfl (hk.pg _) hk.ga hk.gaF) (Keep.fun fg) (EvL.cons (Ev.loc rfl rfl rfl) EvL.nil) (get_ok ok hk fg fc hn hv gN gV gT gS x _ hkv hlk c hm) (fun F P y => y) (fun _ _ _ _ h => h.elim) rfl)
    · exact AdrOk.cell rfl
    · rfl
    have getN : ∀ i, i < 4 → (lets.map fun c => D.lst ((getAll (kvsOf cells ts) (Txt.lower c)).map .str))[i]? = some (.lst (((ts.filter (·.1 == i)).map fun t => letOf t.2).map .str)) := fun i hi => by
      rw [← near i hi, List.getElem?_map]
      match i, hi with
      | 0, _ | 1, _ | 2, _ | 3, _ => rfl
    generalize hnr : (lets.map fun c => D.lst ((getAll (kvsOf cells ts) (Txt.lower c)).map .str)) = nearD at getN
    refine Sq.mat [("near", .lst nearD)] (List.range 4) intD (fun i => ((List.range 4).map fun j => D.int (off ts i j))) (.rng 0 4) ?_ ?_ ?_ ?_ ?_ rfl ?_ (fun C' cells' i hi => ?_) ?_ ?_ ?_ fun m bs hbl hbn hbm => ?_
    · exact scOk_of rfl
    · exact Ev.call cx (Ev.builtin ok gR rfl (by decide) rfl rfl) Keep.type (EvL.cons Ev.int EvL.nil) range1
    · exact fun _ => rfl
    · exact Itb.rngN cx.h 4 (by decide)
    · walk_at "lits"
    · exact fun _ _ => .inr ⟨rfl, fun c hc => .inr ⟨"i", rfl, hc⟩⟩
    · have hi4 : i < 4 := List.mem_range.mp hi
      refine EvN.map1 [("i", intD i), ("near", .lst nearD)] (List.range 4) intD (fun j => D.int (off ts i j)) (d := .rng 0 4) (scOk_of rfl) ?_ ?_ ?_ ?_ rfl ?_ (fun C'' cells'' j hj => ?_) ?_
      · exact Ev.call cx (Ev.builtin ok gR rfl (by decide) rfl rfl) Keep.type (EvL.cons Ev.int EvL.nil) range1
      · exact fun _ => rfl
      · exact Itb.rngN cx.h 4 (by decide)
      · walk_at "lits"
      · exact fun _ _ => .inl ⟨rfl, .inl rfl⟩
      · have hj4 : j < 4 := List.mem_range.mp hj
        refine Ev.bin (Ev.neg (i := cnt ts i j) (Ev.conv (Ev.ofX (EvX.meth (dO := .lst (((ts.filter (·.1 == i)).map fun t => letOf t.2).map .str)) cx ?_ (gm_lst PySem.F.slot_list_count PySem.F.type_list_count) Keep.builtin (EvL.cons (d := .str (letOf j)) ?_ EvL.nil) (CallX.of count_ok) (fun _ _ _ => trivial) (fun _ _ _ _ h => h.elim) rfl)) ?_)) (Ev.conv (Ev.ofX (EvX.meth (dO := .lst (((ts.filter (·.1 == j)).map fun t => letOf t.2).map .str)) cx ?_ (gm_lst PySem.F.slot_list_count PySem.F.type_list_count) Keep.builtin (EvL.cons (d := .str (letOf i)) ?_ EvL.nil) (CallX.of count_ok) (fun _ _ _ => trivial) (fun _ _ _ _ h => h.elim) rfl)) ?_) (op_sub (a := -(cnt ts i j : Int)) (b := cnt ts j i))
        · exact Ev.subN (Ev.cell rfl rfl rfl) (Ev.cell rfl rfl rfl) (getN i hi4) (by omega)
        · exact Ev.conv (Ev.sub Ev.str (Ev.loc rfl rfl rfl) (item_strD (by omega) (by show (j : Int) < ((4 : Nat) : Int); omega) (by omega))) (by rw [item_let _ hj4])
        · rw [count_ties hj4 ts h4]; rfl
        · exact Ev.subN (Ev.cell rfl rfl rfl) (Ev.loc rfl rfl rfl) (getN j hj4) (by omega)
        · exact Ev.conv (Ev.sub Ev.str (Ev.cell rfl rfl rfl) (item_strD (by omega) (by show (i : Int) < ((4 : Nat) : Int); omega) (by omega))) (by rw [item_let _ hi4])
        · rw [count_ties hi4 ts h4]; rfl
      · decide
    · decide
    · exact AdrOk.loc rfl
    · rfl
    have hl4 : bs.length = 4 := hbl
    refine Ex.preX (XS.mat m bs (rowsI ((List.range 0).foldl diagStep (offs ts)))) (fun F P y => ?_) ?_
    · have q := y.2
      have e : (List.range 4).map (fun i => ((List.range 4).map fun j => D.int (off ts i j))) = rowsI (offs ts) := by
        simp [rowsI, offs, Function.comp_def]
      rw [e] at q
      exact q
    refine Sq.forX (fun i => XS.mat m bs (rowsI ((List.range i).foldl diagStep (offs ts)))) (fun _ => [("square", .raw (.ref m))]) ((List.range 4).map intD) ?_ ?_ (fun i di hdi => ?_) ?_ ?_
    · exact sub_of (by walk_at "lits")
    · exact EvI.at (.rng 0 4) (Ev.call cx (Ev.builtin ok gR rfl (by decide) rfl rfl) Keep.type (EvL.cons Ev.int EvL.nil) range1) (Itb.rngN cx.h 4 (by decide))
    · rw [List.getElem?_map] at hdi
      obtain ⟨i', hi', rfl⟩ := Option.map_eq_some_iff.mp hdi
      obtain ⟨hi, e⟩ := List.getElem?_eq_some_iff.mp hi'
      rw [List.getElem_range] at e
      subst e
      rw [List.length_range] at hi
      refine ⟨_, Asg.name (AdrOk.loc rfl), ?_⟩
      have hS : Sq4 ((List.range i).foldl diagStep (offs ts)) := diag4 _ _ (offs4 ts) fun j hj => by have := List.mem_range.mp hj; omega
      show Ex _ _ _ _ (XS.mat m bs (rowsI ((List.range (i + 1)).foldl diagStep (offs ts)))) _ _ _
      rw [List.range_succ, List.foldl_append]
      show Ex _ _ _ _ (XS.mat m bs (rowsI (diagStep ((List.range i).foldl diagStep (offs ts)) i))) _ _ _
      generalize (List.range i).foldl diagStep (offs ts) = fm at hS ⊢
      have hb1 : bs[i]? = some (bs.getD i 0) := by
        have : i < bs.length := by omega
        rw [List.getD_eq_getElem?_getD, List.getElem?_eq_getElem this]; rfl
      refine Sq.set2 fm (-(fm.getD i []).sum) hS hl4 hbn hbm hi hi ?_ ?_ ?_ ?_ ?_ ?_ ?_
      · refine Ev.neg (Ev.ofX (EvX.call cx (Ev.builtin ok gU rfl (by decide) rfl rfl) Keep.builtin (EvL.cons (Ev.rowO (fun F P y => y) hb1 (by omega) (Ev.loc rfl rfl rfl) (Ev.loc rfl rfl rfl)) EvL.nil) (CallX.lend (sum_ok (ns := fm.getD i [])) rfl) (fun F P y => ?_) (fun _ _ _ _ h => h.elim)))
        exact (y.2 i _ _ hb1 (by exact (hS.get hi hi).1)).toP
      · exact Ev.loc rfl rfl rfl
      · exact Ev.loc rfl rfl rfl
      · exact Ev.loc rfl rfl rfl
      · rfl
      · exact fun _ _ _ => rfl
      exact Sq.nil rfl (sub_of (by walk_at "lits"))
    · exact fun _ => rfl
    · refine Sq.retMat bs _ ?_ (Ev.loc rfl rfl rfl) (fun F P y => y)
      rw [rowsI, List.length_map]
      show bs.length = (squareOf ts).length
      rw [squareOf, (diag4 (List.range 4) _ (offs4 ts) fun j hj => List.mem_range.mp hj).n]
      exact hl4
end TL
end
section
namespace TL
open PySem PySem.W PyProof.Rows PySem.Calls PyProof.Rows.LCg
local macro_rules | `(tactic| walk_at "lits") => `(tactic| (repeat' (first | exact List.forall_mem_nil _ | refine List.forall_mem_cons.mpr ⟨⟨rfl, rfl⟩, ?_⟩ | refine List.forall_mem_cons.mpr ⟨rfl, ?_⟩)))
local macro_rules | `(tactic| walk_at "ev") => `(tactic| (repeat' (first | with_reducible exact EvL.nil | (with_reducible refine EvL.cons ?_ ?_ ?_) | with_reducible exact Ev.int | with_reducible exact Ev.str | ((with_reducible refine Ev.loc ?_ ?_ ?_) <;> rfl) | ((with_reducible refine Ev.cell ?_ ?_ ?_) <;> rfl) | (with_reducible refine Ev.tuple ?_ ?_) | (with_reducible refine Ev.list ?_ ?_) | (with_reducible refine Ev.subK ?_ ?_ ?_) | (with_reducible refine Nat.le_of_ble_eq_true ?_) | (show _ = _; rfl))))
noncomputable def XS.rep {fx : Fx} (d : D) (v : Value) : XS fx := ⟨⟨fun F _ => Rep F d v, fun _ _ _ _ h e => h.sub e.f⟩, fun _ _ _ _ _ h s _ => h.sub s.f⟩
structure Ws where
  n : Nat
  nt : Nat
  b : Nat
  cnt : List Nat
noncomputable def wsPad (l : List Nat) (b : Nat) : List Nat := if l.length ≤ b then l ++ List.replicate (b + 1 - l.length) 0 else l
noncomputable def wsStep (s : Ws) (c : Nat) : Ws := if c = 32 then ⟨s.n + 1, s.nt, s.b + 1, s.cnt⟩ else ⟨s.n + 1, s.nt + 1, 0, (wsPad s.cnt s.b).set s.b ((wsPad s.cnt s.b).getD s.b 0 + 1)⟩
noncomputable def wsRun (cs : List Nat) : Ws := cs.foldl wsStep ⟨0, 0, 0, []⟩
noncomputable def wsKds (ws : Str) (s : Ws) : List (Str × D) := [("raw", .str ws), ("n", intD s.n), ("nt", intD s.nt), ("norm", .tup [natsT s.cnt, intD s.b]), ("is_simple", .bool (decide (s.cnt.length ≤ 1)))]
where natsT (l : List Nat) : D := .tup (l.map intD)
theorem wsPad_len (l : List Nat) (b : Nat) : b < (wsPad l b).length ∧ (wsPad l b).length ≤ max l.length (b + 1) := by
  unfold wsPad
  split
  · rw [List.length_append, List.length_replicate]; omega
  · omega
theorem wsRun_le : ∀ (cs : List Nat) (s : Ws) (k : Nat), s.n ≤ k → s.nt ≤ k → s.b ≤ k → s.cnt.length ≤ k → (cs.foldl wsStep s).n ≤ k + cs.length ∧ (cs.foldl wsStep s).nt ≤ k + cs.length ∧ (cs.foldl wsStep s).b ≤ k + cs.length ∧ (cs.foldl wsStep s).cnt.length ≤ k + cs.length
  | [], _, _, h1, h2, h3, h4 => ⟨h1, h2, h3, h4⟩
  | c :: r, s, k, h1, h2, h3, h4 => by
    have := wsPad_len s.cnt s.b
    have ih := wsRun_le r (wsStep s c) (k + 1) (by unfold wsStep; split <;> dsimp only <;> omega) (by unfold wsStep; split <;> dsimp only <;> omega) (by unfold wsStep; split <;> dsimp only <;> omega) (by
      unfold wsStep
      split
      · dsimp only; omega
      · dsimp only; rw [List.length_set]; omega)
    rw [List.foldl_cons, List.length_cons]
    omega
structure WK (g : G) (K : Frag) (C fI fL : Addr) : Prop where
  KX : K.In g.hb
  mkC : makesIn K C = true
  keep : keepIn K (.ref C) = true
  ini : findIn K (.ref C) "__init__" = some (some (.ref fI))
  iniT : typeIn K (.ref fI) = some (.type "function")
  pg : ∀ name, plainGet K C name = true
  hd : hasDictIn K C = true
  at_ : ∀ name ∈ (["raw", "n", "nt", "norm", "is_simple"] : List Str), findIn K (.ref C) name = some none ∧ takerIn K C name = some none
  il : findIn K (.ref C) "indent_level" = some (some (.ref fL))
  ilF : isFn K (.ref fL) = true
  sa : findIn K (.ref C) "__setattr__" = some (some (.builtin "object.__setattr__"))
  po : plainOver K C = true
  rd : ∃ mc, readsIn K C mc = true ∧ (∃ t, findCls K (.ref C) mc "S" = some (.val (.str " " t))) ∧ ∃ t, findCls K (.ref C) mc "T" = some (.val (.str "\t" t))
noncomputable def dctPre (C x dx : Addr) (kds : List (Str × D)) (F P : PH) : Prop := F x = some (instObj C dx) ∧ (∃ oD kvs, P dx = some oD ∧ DictIs oD kvs ∧ KvRep F kds kvs) ∧ F dx = none
theorem Dct.pre {fx : Fx} {C x dx : Addr} {kds : List (Str × D)} {F P : PH} (h : Dct fx C x dx kds F P) : dctPre C x dx kds F P := ⟨h.1, h.2.1, h.2.2.1⟩
theorem cs_cases (ws : Str) (cs : List Nat) (e : ws.cps.toList = cs ++ [120]) (i : Nat) (di : D) (h : (signs ws)[i]? = some di) : (∃ h : i < cs.length, di = .str ⟨#[cs[i]]⟩) ∨ (i = cs.length ∧ di = .str ⟨#[120]⟩) := by
  rw [signs, e, List.getElem?_map] at h
  obtain ⟨c, hc, rfl⟩ := Option.map_eq_some_iff.mp h
  rcases Nat.lt_or_ge i cs.length with q | q
  · rw [List.getElem?_append_left q, List.getElem?_eq_getElem q] at hc
    cases hc; exact .inl ⟨q, rfl⟩
  · rw [List.getElem?_append_right q] at hc
    have : i - cs.length < 1 := by
      have := (List.getElem?_eq_some_iff.mp hc).1
      simpa using this
    have z : i = cs.length := by omega
    subst z
    simp at hc; subst hc
    exact .inr ⟨rfl, rfl⟩
noncomputable def wsEnv (x j : Addr) (S : Ws) : List (Str × D) := [("count", .raw (.ref j)), ("b", intD S.b), ("n", intD S.n), ("nt", intD S.nt), ("S", .str " "), ("T", .str "\t"), ("self", .raw (.ref x))]
noncomputable def wsXS {fx : Fx} (C x dx : Addr) (ws : Str) (p : Prop) (j : Addr) (S : Ws) : XS fx := (XS.prop p).and ((XS.dct C x dx [("raw", .str ws)]).and (XS.own j (S.cnt.map intD)))
theorem rep1 (k : Nat) (d : D) : (List.replicate k [d]).flatten = List.replicate k d := by
  induction k with
  | zero => rfl
  | succ k ih => rw [List.replicate_succ, List.flatten_cons, ih, List.replicate_succ]; rfl
theorem wsPad_map (l : List Nat) (b : Nat) (h : l.length ≤ b) : l.map intD ++ (List.replicate ((b : Int) - (l.length : Int) + 1).toNat [D.int 0]).flatten = (wsPad l b).map intD := by
  have e : ((b : Int) - (l.length : Int) + 1).toNat = b + 1 - l.length := by omega
  rw [e, rep1, wsPad, if_pos h, List.map_append, List.map_replicate]
  rfl
theorem lenO {g : G} {A : Around} {X : XP} {ρ : List (Str × D)} {n : Nat} {env : Env} {p1 pos : Pos} {e : Expr} {j : Addr} {ds : List D} (ok : GOk g) (cx : Cx A n) (gN : g.mg "len" = none) (he : Ev g A env ρ X e (.raw (.ref j))) (hX : ∀ F P, X.p F P → OwnP j ds F P) (hl : ds.length ≤ 4096) (hk : env.kindOf "len" = some .globalImplicit)
    (hee : eval (.Call (.Name "len" p1) [e] [] pos) env = (eval (.Name "len" p1) env >>= fun f => callWith pos f [] (backTo pos (starEach [e] env)) []) := by rfl)
    (hst : starEach [e] env = (false, eval e env) :: starEach [] env := by rfl) (hst' : (backTo pos (starEach [] env)).any (·.1) = false := by rfl) : Ev g A env ρ X (.Call (.Name "len" p1) [e] [] pos) (.int ds.length) :=
  Ev.ofX (EvX.call cx (Ev.builtin ok gN rfl (by decide) hk rfl) Keep.builtin (EvL.cons he EvL.nil hst) (CallX.lend (len_lst hl) rfl) hX (fun _ _ _ _ h => h.elim) hee hst hst')
theorem wini_ok {g : G} (ok : GOk g) {K : Frag} {C fI fL : Addr} (hk : WK g K C fI fL) (fn : MethAt g 3 1 "Whitespace.__init__" .none fI) (gW : g.mg "Whitespace" = some (.ref C)) (gN : g.mg "len" = none) (gT : g.mg "tuple" = none)
    (x dx : Addr) (ws : Str) (cs : List Nat) (e : ws.cps.toList = cs ++ [120]) (ha : ws.cps.all (· < 128) = true) (hcs : ∀ c ∈ cs, c = 32 ∨ c = 9) (hl : cs.length ≤ 4000) :
    CallC g (.ref fI) [.raw (.ref x), .str ws] [] 2 (fun a => a = dx) (dctPre C x dx []) (fun F P v => dctPre C x dx (wsKds ws (wsRun cs)) F P ∧ v = .none) := by
  have bnd : ∀ i, (wsRun (cs.take i)).n ≤ 4000 ∧ (wsRun (cs.take i)).nt ≤ 4000 ∧ (wsRun (cs.take i)).b ≤ 4000 ∧ (wsRun (cs.take i)).cnt.length ≤ 4000 := fun i => by
    have := wsRun_le (cs.take i) ⟨0, 0, 0, []⟩ 0 (Nat.le_refl _) (Nat.le_refl _) (Nat.le_refl _) (Nat.le_refl _)
    rw [List.length_take] at this
    unfold wsRun
    omega
  refine CallC.fn (ns := ["self", "ws"]) (ds := [.raw (.ref x), .str ws]) (d := .none) (out := .next []) ok fn (sc_ok (by decide +kernel)) rfl (fun doc pm an cdv ct A F P vs kvs hb hf hr hk s hP => ?_) (fun F P F' P' ⟨h1, ⟨oD, kvs, h2, h3, h4⟩, h5⟩ e => ⟨e.f _ _ h1, ⟨oD, kvs, e.p _ _ h2, h3, h4.sub e.f⟩, e.off h5 (by rw [h2]; exact fun z => nomatch z)⟩)
    (fun F P ⟨_, ⟨oD, kvs, h2, _⟩, _⟩ a h => by subst h; rw [h2]; exact fun z => nomatch z) (fun F P v ⟨⟨_, _, h5⟩, _⟩ a h => by subst h; exact h5) rfl fun A fx L cells cd cx he hW hfx => ?_
  · obtain ⟨v, w, rfl, r1, r2⟩ := RepL.two hr
    simp only [List.map_nil, RepL] at hk
    subst hk
    exact wpAny_pure ⟨_, s.toks, P, rfl, hP, F, [v, w], rfl, .refl hf, .cons r1 (.cons r2 .nil)⟩
  · obtain ⟨w1, w2⟩ := hW dx rfl
    refine ⟨XS.dct C x dx [], XS.dct C x dx (wsKds ws (wsRun cs)), fun F P ⟨h1, h2, h3⟩ => ⟨h1, h2, h3, w1, w2⟩, fun F P v h r => ⟨Dct.pre h, by simpa only [Rep] using r⟩, ?_⟩
    obtain ⟨env, F₀, P₀, nm⟩ := fx
    dsimp only at he
    subst he
    refine Sq.setAttr (X₁ := XS.dct C x dx [("raw", .str ws)]) [] (.str ws) hk.KX (Ev.loc rfl rfl rfl) (Ev.loc rfl rfl rfl) (fun F P y => y) rfl (by decide) hk.sa hk.po (hk.at_ "raw" (by decide)).2 hk.hd rfl (fun F P oD xx hno h => h) ?_
    obtain ⟨mc, rd, ⟨t1, fS⟩, ⟨t2, fT⟩⟩ := hk.rd
    refine Sq.swap (a := "S") (b := "T") (d₁ := .str " ") (d₂ := .str "\t") cx.h (Ev.tuple (EvL.cons (Ev.clsAttr hk.KX (Ev.glob ok gW rfl rfl) rd fS) (EvL.cons (Ev.clsAttr hk.KX (Ev.glob ok gW rfl rfl) rd fT) EvL.nil)) (Nat.le_of_ble_eq_true rfl)) (AdrOk.loc rfl) (AdrOk.loc rfl) rfl rfl ?_
    refine Sq.own [] (EvN.list EvL.nil (by decide)) (AdrOk.loc rfl) rfl fun c₀ hc₀ => ?_
    refine Sq.assign3 (d := intD 0) Ev.int (AdrOk.loc rfl) (AdrOk.loc rfl) (AdrOk.loc rfl) ?_
    refine Ex.preX (wsXS C x dx ws (0 ≤ cs.length) c₀ (wsRun (cs.take 0))) (fun F P y => ⟨Nat.zero_le _, y.1, y.2⟩) ?_
    refine Ex.pre (ρ₁ := wsEnv x c₀ (wsRun (cs.take 0))) ?_ (sub_of (by walk_at "lits"))
    refine Sq.seqQ (fun j => wsEnv x j (wsRun cs)) (fun j => (XS.dct C x dx [("raw", .str ws)]).and (XS.own j ((wsRun cs).cnt.map intD))) (Ex.forQ (R := fun i j => wsEnv x j (wsRun (cs.take i))) (X := fun i j => wsXS C x dx ws (i ≤ cs.length) j (wsRun (cs.take i))) (ds := signs ws) (EvI.at (.str ws) ?_ (Itb.str cx.h ha)) (fun i j di hdi => ?_) (fun F P j _ y => ?_) fun _ => rfl) fun j => ?_
    · exact Ev.attrP (kds := [("raw", .str ws)]) hk.KX (Ev.loc rfl rfl rfl) (fun F P k y => y.2.1.inst k) rfl (hk.pg _) hk.hd (hk.at_ "raw" (by decide)).1 rfl (fun F v r => by simp only [Rep] at r; obtain ⟨t, rfl⟩ := r; rfl)
    · refine ⟨_, Asg.name (AdrOk.loc rfl), ?_⟩
      have bi := bnd i
      rcases cs_cases ws cs e i di hdi with ⟨hi, rfl⟩ | ⟨rfl, rfl⟩
      · have eS : wsRun (cs.take (i + 1)) = wsStep (wsRun (cs.take i)) cs[i] := by
          rw [List.take_succ_eq_append_getElem hi, wsRun, List.foldl_append]; rfl
        rw [eS]
        have hc := hcs cs[i] (List.getElem_mem hi)
        generalize cs[i] = c at hc ⊢
        generalize wsRun (cs.take i) = S at bi ⊢
        rcases hc with rfl | rfl
        · refine Sq.lastQ (Ex.if (c := true) (EvB.conv (EvB.cmp (Ev.loc rfl rfl rfl) (Ev.loc rfl rfl rfl) cmp_eqs) (by decide)) (fun _ => ?_) fun z => nomatch z)
          refine Sq.assign (intD (S.n + 1)) (Ev.bin (Ev.loc rfl rfl rfl) Ev.int op_add) (AdrOk.loc rfl) rfl ?_
          refine Sq.assign (intD (S.b + 1)) (Ev.bin (Ev.loc rfl rfl rfl) Ev.int op_add) (AdrOk.loc rfl) rfl ?_
          exact Sq.nilQ fun F P V y => .inl ⟨rfl, j, V.sub (sub_of (by walk_at "lits")), hi, y.2⟩
        · refine Sq.lastQ (Ex.if (c := false) (EvB.conv (EvB.cmp (Ev.loc rfl rfl rfl) (Ev.loc rfl rfl rfl) cmp_eqs) (by decide)) (fun z => nomatch z) fun _ => ?_)
          refine Sq.lastQ (Ex.if (c := true) (EvB.conv (EvB.cmp (Ev.loc rfl rfl rfl) (Ev.loc rfl rfl rfl) cmp_eqs) (by decide)) (fun _ => ?_) fun z => nomatch z)
          refine Sq.assign (intD (S.n + 1)) (Ev.bin (Ev.loc rfl rfl rfl) Ev.int op_add) (AdrOk.loc rfl) rfl ?_
          refine Sq.assign (intD (S.nt + 1)) (Ev.bin (Ev.loc rfl rfl rfl) Ev.int op_add) (AdrOk.loc rfl) rfl ?_
          obtain ⟨p1, p2⟩ := wsPad_len S.cnt S.b
          refine Sq.seqQ (fun j' => [("count", .raw (.ref j')), ("b", intD S.b), ("n", intD (S.n + 1)), ("nt", intD (S.nt + 1)), ("S", .str " "), ("T", .str "\t"), ("self", .raw (.ref x))]) (fun j' => (XS.dct C x dx [("raw", .str ws)]).and (XS.own j' ((wsPad S.cnt S.b).map intD))) ?_ fun j' => ?_
          · by_cases hb : S.cnt.length ≤ S.b
            · refine Ex.if (c := true) (EvB.conv (EvB.cmp (Ev.loc rfl rfl rfl) (lenO ok cx gN (ds := S.cnt.map intD) (Ev.loc rfl rfl rfl) (fun F P y => y.2.2.toP) (by rw [List.length_map]; omega) rfl) cmp_ge) ?_) (fun _ => ?_) fun z => nomatch z
              · rw [List.length_map]; exact decide_eq_true (by omega)
              refine Sq.own ((wsPad S.cnt S.b).map intD) ?_ (AdrOk.loc rfl) rfl fun j' _ => ?_
              · rw [← wsPad_map _ _ hb]
                refine EvN.addO (Ev.loc rfl rfl rfl) (fun F P y => by obtain ⟨xs, n, q1, q2, _⟩ := y.2.2; exact ⟨xs, n, q1, q2⟩) (Ev.mulL (Ev.list (EvL.cons (Ev.int (i := 0)) EvL.nil) (Nat.le_of_ble_eq_true rfl)) (Ev.bin (Ev.bin (Ev.loc rfl rfl rfl) (Ev.conv (lenO ok cx gN (ds := S.cnt.map intD) (Ev.loc rfl rfl rfl) (fun F P y => y.2.2.toP) (by rw [List.length_map]; omega) rfl) (by rw [List.length_map])) op_sub) Ev.int op_add) (by omega) (by omega) (by show 1 * _ ≤ _; omega)) ?_
                rw [rep1, List.length_map, List.length_replicate]; omega
              · refine Sq.nilQ (X := (wsXS C x dx ws (i ≤ cs.length) j S).and (XS.own j' ((wsPad S.cnt S.b).map intD))) fun F P V y => ⟨rfl, j', V.sub (sub_of (by walk_at "lits")), y.1.2.1, y.2⟩
            · refine Ex.if (c := false) (EvB.conv (EvB.cmp (Ev.loc rfl rfl rfl) (lenO ok cx gN (ds := S.cnt.map intD) (Ev.loc rfl rfl rfl) (fun F P y => y.2.2.toP) (by rw [List.length_map]; omega) rfl) cmp_ge) ?_) (fun z => nomatch z) fun _ => ?_
              · rw [List.length_map]; exact decide_eq_false (by omega)
              · refine Sq.nilQ fun F P V y => ⟨rfl, j, V.sub (sub_of (by walk_at "lits")), y.2.1, ?_⟩
                show Own _ j ((wsPad S.cnt S.b).map intD) F P
                rw [wsPad, if_neg hb]; exact y.2.2
          · generalize hP : wsPad S.cnt S.b = pd at p1 p2 ⊢
            have hg : pd[S.b]? = some (pd.getD S.b 0) := by rw [List.getD_eq_getElem?_getD, List.getElem?_eq_getElem p1]; rfl
            refine Sq.set (X := (XS.dct C x dx [("raw", .str ws)]).and (XS.own j' (pd.map intD))) (a := j') (pd.map intD) (intD (pd.getD S.b 0 + 1)) (j := S.b) (X₁ := (XS.dct C x dx [("raw", .str ws)]).and (XS.own j' ((pd.set S.b (pd.getD S.b 0 + 1)).map intD))) ?_ (Ev.loc rfl rfl rfl) (Ev.loc rfl rfl rfl) (fun F P y => y.2) (by rw [List.length_map]; exact p1) (by omega) rfl (fun F P ob y ow => ?_) ?_
            · exact Ev.bin (Ev.item (pd.map intD) (Ev.loc rfl rfl rfl) (Ev.loc rfl rfl rfl) (fun F P y => by obtain ⟨xs, n, q1, q2, _⟩ := y.2; exact ⟨xs, n, q1, q2⟩) (d := intD (pd.getD S.b 0)) (by rw [List.getElem?_map, hg]; rfl) (by omega)) Ev.int op_add
            · obtain ⟨xs, n, q1, _⟩ := y.2
              refine ⟨y.1.other q1, ?_⟩
              show Own _ j' ((pd.set S.b (pd.getD S.b 0 + 1)).map intD) F _
              rw [List.map_set]; exact ow
            refine Sq.assign (intD 0) Ev.int (AdrOk.loc rfl) rfl ?_
            refine Sq.nilQ fun F P V y => .inl ⟨rfl, j', V.sub (sub_of (by walk_at "lits")), hi, y.1, ?_⟩
            show Own _ j' (((wsPad S.cnt S.b).set S.b ((wsPad S.cnt S.b).getD S.b 0 + 1)).map intD) F P
            rw [hP]; exact y.2
      · refine Sq.lastQ (Ex.if (c := false) (EvB.conv (EvB.cmp (Ev.loc rfl rfl rfl) (Ev.loc rfl rfl rfl) cmp_eqs) (by decide)) (fun z => nomatch z) fun _ => ?_)
        refine Sq.lastQ (Ex.if (c := false) (EvB.conv (EvB.cmp (Ev.loc rfl rfl rfl) (Ev.loc rfl rfl rfl) cmp_eqs) (by decide)) (fun z => nomatch z) fun _ => ?_)
        refine Sq.brkQ fun F P V y => .inr ⟨rfl, j, V.sub ?_, ?_⟩
        · rw [List.take_length]; exact sub_of (by walk_at "lits")
        · have z := y.2
          rw [List.take_length] at z
          exact z
    · have : (signs ws).length = cs.length + 1 := by rw [signs, e]; simp
      have z : (signs ws).length ≤ cs.length := y.1
      omega
    have bn := bnd cs.length
    rw [List.take_length] at bn
    generalize hS : wsRun cs = S at bn ⊢
    refine Ex.freeze j (S.cnt.map intD) ((XS.dct C x dx [("raw", .str ws)]).and (XS.rep (.lst (S.cnt.map intD)) (.ref j))) (fun F P y => y.2) (fun F P F' y hF hn r => ⟨?_, r⟩) ?_
    · obtain ⟨⟨d1, ⟨oD, kvs, d2, d3, d4⟩, d5, d6⟩, ⟨xs, n, o1, _⟩⟩ := y
      refine ⟨hF _ _ d1, ⟨oD, kvs, d2, d3, d4.sub hF⟩, ?_, d6⟩
      cases q : F' dx with
      | none => rfl
      | some o =>
        rcases hn dx (by rw [q]; exact fun z => nomatch z) with z | z
        · exact absurd d5 z
        · rw [z, o1] at d2; cases d2
          have z : Value.type "list" = .type "dict" := d3.1
          simp at z
    refine Sq.setAttr (X₁ := (XS.dct C x dx [("raw", .str ws), ("n", intD S.n)]).and (XS.rep (.lst (S.cnt.map intD)) (.ref j))) [("raw", .str ws)] (intD S.n) hk.KX (Ev.loc rfl rfl rfl) (Ev.loc rfl rfl rfl) (fun F P y => y.1) rfl (Nat.le_of_ble_eq_true rfl) hk.sa hk.po (hk.at_ "n" (by decide)).2 hk.hd rfl (fun F P oD xx hno h => ⟨h, xx.2⟩) ?_
    refine Sq.setAttr (X₁ := (XS.dct C x dx [("raw", .str ws), ("n", intD S.n), ("nt", intD S.nt)]).and (XS.rep (.lst (S.cnt.map intD)) (.ref j))) [("raw", .str ws), ("n", intD S.n)] (intD S.nt) hk.KX (Ev.loc rfl rfl rfl) (Ev.loc rfl rfl rfl) (fun F P y => y.1) rfl (Nat.le_of_ble_eq_true rfl) hk.sa hk.po (hk.at_ "nt" (by decide)).2 hk.hd rfl (fun F P oD xx hno h => ⟨h, xx.2⟩) ?_
    refine Sq.setAttr (X₁ := (XS.dct C x dx [("raw", .str ws), ("n", intD S.n), ("nt", intD S.nt), ("norm", .tup [wsKds.natsT S.cnt, intD S.b])]).and (XS.rep (.lst (S.cnt.map intD)) (.ref j))) [("raw", .str ws), ("n", intD S.n), ("nt", intD S.nt)] (.tup [wsKds.natsT S.cnt, intD S.b]) hk.KX (Ev.tuple (EvL.cons (Ev.call cx (Ev.builtin ok gT rfl (by decide) rfl rfl) Keep.type (EvL.cons (Ev.asLst (Ev.loc rfl rfl rfl) (fun F P y => y.2)) EvL.nil) (tuple_lst (by rw [List.length_map]; omega))) (EvL.cons (Ev.loc rfl rfl rfl) EvL.nil)) (Nat.le_of_ble_eq_true rfl)) (Ev.loc rfl rfl rfl) (fun F P y => y.1) rfl (Nat.le_of_ble_eq_true rfl) hk.sa hk.po (hk.at_ "norm" (by decide)).2 hk.hd rfl (fun F P oD xx hno h => ⟨h, xx.2⟩) ?_
    refine Sq.setAttr (X₁ := XS.dct C x dx (wsKds ws S)) [("raw", .str ws), ("n", intD S.n), ("nt", intD S.nt), ("norm", .tup [wsKds.natsT S.cnt, intD S.b])] (.bool (decide (S.cnt.length ≤ 1))) hk.KX (Ev.conv (Ev.cmp (Ev.call cx (Ev.builtin ok gN rfl (by decide) rfl rfl) Keep.builtin (EvL.cons (Ev.asLst (Ev.loc rfl rfl rfl) (fun F P y => y.2)) EvL.nil) (len_lst (ds := S.cnt.map intD) (by rw [List.length_map]; omega))) Ev.int cmp_le) ?_) (Ev.loc rfl rfl rfl) (fun F P y => y.1) rfl (Nat.le_of_ble_eq_true rfl) hk.sa hk.po (hk.at_ "is_simple" (by decide)).2 hk.hd rfl (fun F P oD xx hno h => h) ?_
    · rw [List.length_map]; congr 1; simp only [decide_eq_decide]; omega
    exact Sq.nil rfl fun _ _ h => nomatch h
end TL
end
section
namespace TL
open PySem PySem.W PyProof.Rows PySem.Calls PyProof.Rows.LCg
local macro_rules | `(tactic| walk_at "lits") => `(tactic| (repeat' (first | exact List.forall_mem_nil _ | refine List.forall_mem_cons.mpr ⟨⟨rfl, rfl⟩, ?_⟩ | refine List.forall_mem_cons.mpr ⟨rfl, ?_⟩)))
local macro_rules | `(tactic| walk_at "ev") => `(tactic| (repeat' (first | with_reducible exact EvL.nil | (with_reducible refine EvL.cons ?_ ?_ ?_) | with_reducible exact Ev.int | with_reducible exact Ev.str | ((with_reducible refine Ev.loc ?_ ?_ ?_) <;> rfl) | ((with_reducible refine Ev.cell ?_ ?_ ?_) <;> rfl) | (with_reducible refine Ev.tuple ?_ ?_) | (with_reducible refine Ev.list ?_ ?_) | (with_reducible refine Ev.subK ?_ ?_ ?_) | (with_reducible refine Nat.le_of_ble_eq_true ?_) | (show _ = _; rfl))))
theorem wsp_new {g : G} (ok : GOk g) {K : Frag} {C fI fL : Addr} (hk : WK g K C fI fL) (fn : MethAt g 3 1 "Whitespace.__init__" .none fI) (gW : g.mg "Whitespace" = some (.ref C)) (gN : g.mg "len" = none) (gT : g.mg "tuple" = none)
    (ws : Str) (cs : List Nat) (e : ws.cps.toList = cs ++ [120]) (ha : ws.cps.all (· < 128) = true) (hcs : ∀ c ∈ cs, c = 32 ∨ c = 9) (hl : cs.length ≤ 4000) :
    CallX g (.ref C) [.str ws] [] 3 NoW (fun _ _ => True) (fun F P v => ∃ x, v = .ref x ∧ InstF C x (wsKds ws (wsRun cs)) F) := fun A F P vs kvs cx hb hf hr hkw _ s hP => by
  simp only [List.map_nil, RepL] at hkw
  subst hkw
  obtain ⟨u, rfl, ru⟩ := RepL.one hr
  refine new_inst hk.KX cx hb hf hP hk.mkC hk.ini hk.iniT fun A' x dx h' cx' hP' hx hdx hne => ?_
  have Fdx : F dx = none := none_of hf hdx
  have Fx' : F x = none := none_of hf hx
  have hsub : Sub (upd F x (instObj C dx)) (upd (upd P dx emptyDict) x (instObj C dx)) := fun a o e => by
    by_cases q : a = x
    · subst q; rw [upd_self] at e ⊢; exact e
    · rw [upd_ne q] at e ⊢
      rw [upd_ne (fun z => by rw [z, Fdx] at e; cases e)]
      exact hf _ _ e
  have hF : Sub F (upd F x (instObj C dx)) := .upd_new Fx'
  have Pdx : upd (upd P dx emptyDict) x (instObj C dx) dx = some emptyDict := by rw [upd_ne (Ne.symm hne), upd_self]
  refine codeAny_mono (wini_ok ok hk fn gW gN gT x dx ws cs e ha hcs hl A' _ _ [.ref x, u] [] cx' (hb.trans hF) hsub (.cons (by simp only [Rep]) (.cons (ru.sub hF) .nil)) .nil ⟨upd_self .., ⟨emptyDict, [], Pdx, ⟨rfl, _, _, rfl, trivial⟩, rfl, .nil⟩, by rw [upd_ne (Ne.symm hne)]; exact Fdx⟩ _ hP') fun r s' ⟨v, h₁, tk, P₁, F₁, er, hs, hP₁, st, post⟩ => ?_
  obtain ⟨⟨i1, ⟨oD, kvs, d1, d2, d3⟩, d4⟩, hv⟩ := post
  subst er hs hv
  have sub2 : Sub F₁ (upd F₁ dx oD) := .upd_new d4
  refine ⟨rfl, h₁, tk, P₁, rfl, hP₁, upd F₁ dx oD, ⟨(hF.trans st.f).trans sub2, fun a o e _ => ?_, fun a o e => ?_, fun a e => ?_⟩, x, rfl, dx, oD, kvs, sub2 _ _ i1, upd_self .., d2, d3.sub sub2⟩
  · have n1 : a ≠ x := fun q => by rw [q, hx] at e; cases e
    have n2 : a ≠ dx := fun q => by rw [q, hdx] at e; cases e
    exact st.p a o (by rw [upd_ne n1, upd_ne n2]; exact e) n2
  · by_cases q : a = dx
    · subst q; rw [upd_self] at e; cases e; exact d1
    · rw [upd_ne q] at e; exact st.fp _ _ e
  · by_cases q : a = dx
    · subst q; exact .inr ⟨hdx, id⟩
    · rw [upd_ne q] at e
      rcases st.new a e with z | ⟨z, _⟩
      · by_cases q' : a = x
        · subst q'; exact .inr ⟨hx, id⟩
        · rw [upd_ne q'] at z; exact .inl z
      · refine .inr ⟨?_, id⟩
        by_cases q' : a = x
        · subst q'; rw [upd_self] at z; cases z
        · rw [upd_ne q', upd_ne q] at z; exact z
theorem WK.keep' {g : G} {K : Frag} {C fI fL : Addr} (hk : WK g K C fI fL) : Keep g (.ref C) := fun h hk' => keeps_K hk.keep h (hk.KX.keeps hk')
section
variable {g : G} {A : Around} {fx : Fx} {ρ ρ' : List (Str × D)} {X X' : XS fx} {o : Out}
theorem Sq.assignE {ι : Type} (val : ι → Value) (Y : ι → XS fx) {x : Str} {xp pos : Pos} {e : Expr} {r : List Stmt} (h : EvX g A fx.env ρ X.toXP NoW e (fun F P u => ∃ i, u = val i ∧ (Y i).p F P))
    (hx : AdrOk fx.env (muts fx.env) x) (hs : swapsWith e (some (.Name x xp)) pos.line fx.env = pure false) (k : ∀ i, Ex g A fx (X.and (Y i)) X' (execs r fx.env) ((x, .raw (val i)) :: ρ) o) : Ex g A fx X X' (execs (.Assign [.Name x xp] e pos :: r) fx.env) ρ o := Ex.mk fun F P I V M xx s hP => by
  refine wpAny_execs_cons (wpAny_Assign_Name ((h.run F P V xx).out hP fun h tk P₁ v hP₁ ⟨F₁, s₁, i, hv, y⟩ => ?_) hs)
  subst hv
  have e₁ : Ext F P F₁ P₁ := s₁.ext fun _ z => z.elim
  refine (Ex.store (X := X.and (Y i)) (d := .raw (val i)) (I.trans e₁) (V.ext e₁) (M.ext V e₁) ⟨X.st _ _ _ _ xx e₁, y⟩ (by simp only [Rep]) hx).out hP₁ fun h tk P₂ _ hP₂ ⟨t₂, I₂, x₂, V₂, M₂⟩ => ?_
  exact ((k i).run F₁ P₂ I₂ V₂ M₂ x₂).out hP₂ fun h tk P₃ f hP₃ ⟨F₃, t₃, I₃, x₃, q⟩ => ⟨_, _, P₃, rfl, hP₃, F₃, (e₁.soft.trans t₂).trans t₃, I₃, x₃, q⟩
end
theorem op_fdivN {g : G} {A : Around} {a b : Nat} (hb : b ≠ 0) (hb' : b < 1073741824) : Op2 g A (binaryOp .FloorDiv) (intD a) (intD b) (intD (a / b)) := fun F v₁ v₂ s Q E hs r₁ r₂ k => by
  simp only [Rep, intD] at r₁ r₂; obtain ⟨t, rfl⟩ := r₁; obtain ⟨u, rfl⟩ := r₂
  refine floordiv_int (by omega) ?_ (Or.inl (PyProof.noPylong_small (by omega)))
  have e : Int.fdiv (a : Int) (b : Int) = ((a / b : Nat) : Int) := by rw [Int.fdiv_eq_ediv_of_nonneg _ (by omega)]; rfl
  rw [e]
  exact k _ _ (by simp only [Rep, intD]; exact ⟨_, rfl⟩)
theorem seqIndex_nat {i n : Nat} (h : i < n) : seqIndex? (i : Int) n = some i := by
  unfold seqIndex?
  have : ¬ ((i : Int) < 0) := by omega
  simp only [if_neg this]
  rw [if_pos (by simp; omega)]
  rfl
noncomputable def lvlAt (l : List Nat) (t : Nat) : Nat → Nat
  | 0 => 0
  | k + 1 => lvlAt l t k + (t + k) / t * l.getD (t + k) 0
noncomputable def lvlOf (S : Ws) (t : Nat) : Nat := S.b + t * (lvlAt S.cnt t (S.cnt.length - t) + S.nt)
theorem lvl_ok {g : G} (ok : GOk g) {K : Frag} {C fI fL : Addr} (hk : WK g K C fI fL) (fn : MethAt g 3 3 "Whitespace.indent_level" .none fL) (gN : g.mg "len" = none) (gR : g.mg "range" = none)
    (x : Addr) (ws : Str) (S : Ws) (hl : S.cnt.length ≤ 4096) (t : Nat) (ht : t ≠ 0) (ht' : t < 1073741824) :
    CallX g (.ref fL) [.raw (.ref x), intD t] [] 2 NoW (fun F P => InstF C x (wsKds ws S) F) (fun F P v => Rep F (intD (lvlOf S t)) v) := by
  refine CallC.toX (CallC.fn (ns := ["self", "tabsize"]) (ds := [.raw (.ref x), intD t]) (d := intD (lvlOf S t)) (out := .ret (intD (lvlOf S t))) ok fn (sc_ok (by decide +kernel)) rfl (fun doc pm an cdv ct A F P vs kvs hb hf hr hk s hP => ?_) (fun F P F' P' h1 e => h1.sub e.f)
    (fun F P _ a h => h.elim) (fun F P v _ a h => h.elim) rfl fun A fx L cells cd cx he hW hfx => ?_)
  · obtain ⟨v, w, rfl, r1, r2⟩ := RepL.two hr
    simp only [List.map_nil, RepL] at hk
    subst hk
    exact wpAny_pure ⟨_, s.toks, P, rfl, hP, F, [v, w], rfl, .refl hf, .cons r1 (.cons r2 .nil)⟩
  · refine ⟨XS.inst C x (wsKds ws S), XS.inst C x (wsKds ws S), fun F P h => h, fun F P v _ r => r, ?_⟩
    obtain ⟨env, F₀, P₀, nm⟩ := fx
    dsimp only at he
    subst he
    refine Sq.unpack (d := .tup [wsKds.natsT S.cnt, intD S.b]) (Ev.attrP (kds := wsKds ws S) hk.KX (Ev.loc rfl rfl rfl) (fun F P k y => InstF.toP y k) rfl (hk.pg _) hk.hd (hk.at_ "norm" (by decide)).1 rfl (fun F v r => by simp only [Rep] at r; obtain ⟨a, _, _, _, rfl, _⟩ := r; rfl)) (Asg.tup cx.h (AsgL.cons (Asg.name (AdrOk.loc rfl)) (AsgL.cons (Asg.name (AdrOk.loc rfl)) AsgL.nil)) rfl rfl) rfl rfl ?_
    refine Sq.assign (intD (lvlAt S.cnt t 0)) Ev.int (AdrOk.loc rfl) rfl ?_
    refine Sq.for (fun i => [("il", intD (lvlAt S.cnt t i)), ("trailing", intD S.b), ("count", wsKds.natsT S.cnt), ("self", .raw (.ref x)), ("tabsize", intD t)]) (rngD t ((S.cnt.length : Int) - t).toNat) ?_ ?_ (fun i di hd => ?_) (fun _ => rfl) ?_
    · exact sub_of (by walk_at "lits")
    · exact EvI.at (.rng t S.cnt.length) (Ev.call cx (Ev.builtin ok gR rfl (by decide) rfl rfl) Keep.type (EvL.cons (Ev.loc rfl rfl rfl) (EvL.cons (Ev.conv (Ev.call cx (Ev.builtin ok gN rfl (by decide) rfl rfl) Keep.builtin (EvL.cons (Ev.loc rfl rfl rfl) EvL.nil) (len_tup (ds := S.cnt.map intD) (by rw [List.length_map]; omega))) (by rw [List.length_map])) EvL.nil)) range2) (Itb.rngG cx.h (by omega) (by omega) (by omega) (by omega))
    · obtain ⟨hi, e⟩ := List.getElem?_eq_some_iff.mp hd
      simp only [rngD, List.getElem_map, List.getElem_range] at e
      simp only [rngD, List.length_map, List.length_range] at hi
      subst e
      refine ⟨_, Asg.name (AdrOk.loc rfl), ?_⟩
      have hi' : t + i < S.cnt.length := by omega
      have ei : D.int ((t : Int) + (i : Int)) = intD (t + i) := by rw [intD]; rfl
      rw [ei]
      refine Sq.assign (intD (lvlAt S.cnt t (i + 1))) ?_ (AdrOk.loc rfl) rfl (Sq.nil rfl (sub_of (by walk_at "lits")))
      have q1 : -(2 ^ 64) < (((t + i) / t : Nat) : Int) := Int.lt_of_lt_of_le (by decide) (Int.natCast_nonneg _)
      have q2 : (((t + i) / t : Nat) : Int) < 2 ^ 64 := Int.lt_of_le_of_lt (Int.ofNat_le.mpr (Nat.le_trans (Nat.div_le_self _ _) (show t + i ≤ 4096 by omega))) (by decide)
      refine Ev.conv (Ev.bin (Ev.loc rfl rfl rfl) (Ev.bin (Ev.bin (Ev.loc rfl rfl rfl) (Ev.loc rfl rfl rfl) (op_fdivN ht ht')) (Ev.sub (d₁ := .tup (S.cnt.map intD)) (d := intD (S.cnt.getD (t + i) 0)) (Ev.loc rfl rfl rfl) (Ev.loc rfl rfl rfl) (item_tup (j := t + i) (by omega) (by omega) (seqIndex_nat (by rw [List.length_map]; exact hi')) ?_)) (op_mul q1 q2)) op_add) ?_
      · rw [List.getElem?_map, List.getD_eq_getElem?_getD, List.getElem?_eq_getElem hi']; rfl
      · rw [lvlAt, intD]; push_cast; rfl
    · have e : (rngD t ((S.cnt.length : Int) - t).toNat).length = S.cnt.length - t := by simp [rngD]
      rw [e]
      refine Ex.conv (Sq.ret (Ev.bin (Ev.loc rfl rfl rfl) (Ev.bin (Ev.loc rfl rfl rfl) (Ev.bin (Ev.loc rfl rfl rfl) (Ev.attrP (kds := wsKds ws S) (d := intD S.nt) hk.KX (Ev.loc rfl rfl rfl) (fun F P k y => InstF.toP y k) rfl (hk.pg _) hk.hd (hk.at_ "nt" (by decide)).1 rfl (fun F v r => by simp only [Rep, intD] at r; obtain ⟨t, rfl⟩ := r; rfl)) op_add) (op_mul (by omega) (by omega))) op_add)) ?_
      rw [lvlOf, intD]; push_cast; rfl
end TL
end
section
namespace TL
open PySem PySem.W PyProof.Rows PySem.Calls PyProof.Rows.LCg
local macro_rules | `(tactic| walk_at "lits") => `(tactic| (repeat' (first | exact List.forall_mem_nil _ | refine List.forall_mem_cons.mpr ⟨⟨rfl, rfl⟩, ?_⟩ | refine List.forall_mem_cons.mpr ⟨rfl, ?_⟩)))
local macro_rules | `(tactic| walk_at "ev") => `(tactic| (repeat' (first | with_reducible exact EvL.nil | (with_reducible refine EvL.cons ?_ ?_ ?_) | with_reducible exact Ev.int | with_reducible exact Ev.str | ((with_reducible refine Ev.loc ?_ ?_ ?_) <;> rfl) | ((with_reducible refine Ev.cell ?_ ?_ ?_) <;> rfl) | (with_reducible refine Ev.tuple ?_ ?_) | (with_reducible refine Ev.list ?_ ?_) | (with_reducible refine Ev.subK ?_ ?_ ?_) | (with_reducible refine Nat.le_of_ble_eq_true ?_) | (show _ = _; rfl))))
noncomputable def natsT (l : List Nat) : D := .tup (l.map intD)
noncomputable def treesD (ts : List (List Nat)) : D := .lst (ts.map natsT)
noncomputable def heldOf (m : Nat) (trees : List (List Nat)) : List Nat := (List.range m).map fun k => (trees.filter fun t => t.contains k).length
noncomputable def frN (far : List (List Int)) (t : Nat × Nat) : Nat := (at2 far t.1 t.2).toNat
noncomputable def runCs (far : List (List Int)) (ts : List (Nat × Nat)) : List Nat := (ts.map fun t => List.replicate (frN far t) 32 ++ [9]).flatten
noncomputable def runStr (far : List (List Int)) (ts : List (Nat × Nat)) : Str := Txt.join "" (ts.map fun t => Txt.mul " " (frN far t : Int) ++ "\t") ++ "x"
theorem app_cps (x y : Str) : (x ++ y).cps.toList = x.cps.toList ++ y.cps.toList := by
  show (x.cps ++ y.cps).toList = _
  simp
theorem runStr_cps (far : List (List Int)) (ts : List (Nat × Nat)) : (runStr far ts).cps.toList = runCs far ts ++ [120] := by
  rw [runStr, app_cps, glue_nil, runCs, List.map_map]
  congr 1
  congr 1
  refine List.map_congr_left fun t _ => ?_
  show (Txt.mul " " (frN far t : Int) ++ "\t").cps.toList = _
  rw [app_cps, mul_sp]
  rfl
theorem runCs_mem {far : List (List Int)} {ts : List (Nat × Nat)} : ∀ c ∈ runCs far ts, c = 32 ∨ c = 9 := fun c hc => by
  obtain ⟨l, hl, hc⟩ := List.mem_flatten.mp hc
  obtain ⟨t, _, rfl⟩ := List.mem_map.mp hl
  rcases List.mem_append.mp hc with h | h
  · exact .inl (List.mem_replicate.mp h).2
  · exact .inr (List.mem_singleton.mp h)
theorem runStr_ascii (far : List (List Int)) (ts : List (Nat × Nat)) : (runStr far ts).cps.all (· < 128) = true := by
  rw [← Array.all_toList, runStr_cps, List.all_append, List.all_eq_true.mpr fun c hc => ?_]
  · rfl
  · rcases runCs_mem c hc with rfl | rfl <;> rfl
structure LeadOk (ts : List (Nat × Nat)) (far : List (List Int)) (trees : List (List Nat)) : Prop where
  few : ts.length ≤ 6
  fewT : trees.length ≤ 4000
  some : trees.length ≠ 0
  fr : ∀ t ∈ ts, t.1 < 4 ∧ t.2 < 4 ∧ at2 far t.1 t.2 = (frN far t : Int) ∧ frN far t ≤ 500
  n : (wsRun (runCs far ts)).n = ts.length + 3 * trees.length
  nt : (wsRun (runCs far ts)).nt = ts.length
  b : (wsRun (runCs far ts)).b = 0
  top : ∃ M, M ∈ heldOf ts.length trees ∧ (∀ a ∈ heldOf ts.length trees, a ≤ M) ∧ (wsRun (runCs far ts)).cnt = (List.range (M + 1)).map fun s => (heldOf ts.length trees).count s
  lvl : lvlOf (wsRun (runCs far ts)) trees.length = trees.length * (ts.length + (heldOf ts.length trees).count trees.length)
theorem runCs_len (far : List (List Int)) : ∀ (ts : List (Nat × Nat)), (∀ t ∈ ts, frN far t ≤ 500) → (runCs far ts).length ≤ 501 * ts.length
  | [], _ => by simp [runCs]
  | t :: r, h => by
    have ih := runCs_len far r fun u hu => h u (List.mem_cons_of_mem _ hu)
    have h1 := h t List.mem_cons_self
    unfold runCs at ih ⊢
    rw [List.map_cons, List.flatten_cons, List.length_append, List.length_append, List.length_replicate, List.length_cons]
    simp only [List.length_cons, List.length_nil]
    omega
theorem lead_ok {g : G} (ok : GOk g) {K : Frag} {C fI fL a : Addr} (hk : WK g K C fI fL) (fn : DefAt g 28 a) (fi : MethAt g 3 1 "Whitespace.__init__" .none fI) (fl : MethAt g 3 3 "Whitespace.indent_level" .none fL) (gW : g.mg "Whitespace" = some (.ref C)) (gN : g.mg "len" = none) (gT : g.mg "tuple" = none) (gR : g.mg "range" = none) (gM : g.mg "max" = none)
    (ts : List (Nat × Nat)) (far : List (List Int)) (h4 : Sq4 far) (trees : List (List Nat)) (ht : ∀ t ∈ trees, t.length = 3) (P : LeadOk ts far trees) : CallOk g (.ref a) [tiesD ts, matD far, treesD trees] (.bool true) 4 := by
  refine CallOk.fn (ns := ["ties", "far", "trees"]) ok fn (sc_ok (by decide +kernel)) rfl (fun pm code doc vs hv => ?_) fun A fx L cells cd cx he => ?_
  · match vs, hv with
    | [v, w, u], _ => rfl
  · obtain ⟨env, F₀, P₀, nm⟩ := fx
    dsimp only at he
    subst he
    have few := P.few
    have fewT := P.fewT
    have cx1 : Cx A 1 := cx.le (by decide)
    have lT : ∀ {ρ : List (Str × D)} {X : XP} {p1 pos : Pos} {e : Expr} {env : Env} {l : List D} (he : Ev g A env ρ X e (.lst l)) (hl : l.length ≤ 4096) (hk : env.kindOf "len" = some .globalImplicit) (hee : eval (.Call (.Name "len" p1) [e] [] pos) env = (eval (.Name "len" p1) env >>= fun f => callWith pos f [] (backTo pos (starEach [e] env)) [])) (hst : starEach [e] env = (false, eval e env) :: starEach [] env) (hst' : (backTo pos (starEach [] env)).any (·.1) = false), Ev g A env ρ X (.Call (.Name "len" p1) [e] [] pos) (intD l.length) := fun he hl hk hee hst hst' =>
      Ev.call cx (Ev.builtin ok gN rfl (by decide) hk rfl) Keep.builtin (EvL.cons he EvL.nil hst) (len_lst hl) hee hst hst'
    refine Sq.assign (intD ts.length) (Ev.conv (lT (Ev.loc rfl rfl rfl) (by rw [List.length_map]; omega) rfl rfl rfl rfl) (by rw [List.length_map])) (AdrOk.loc rfl) rfl ?_
    refine Sq.assign (natsD (heldOf ts.length trees)) ?_ (AdrOk.cell rfl) rfl ?_
    · refine Ev.conv (Ev.map1 [("trees", treesD trees)] (List.range ts.length) intD (fun k => intD (trees.filter fun t => t.contains k).length) (d := .rng 0 ts.length) (scOk_of rfl) (Ev.call cx (Ev.builtin ok gR rfl (by decide) rfl rfl) Keep.type (EvL.cons (Ev.loc rfl rfl rfl) EvL.nil) range1) (fun _ => rfl) (Itb.rngN cx.h _ (by omega)) (by walk_at "lits") rfl (fun _ _ => .inr ⟨rfl, fun c hc => .inr ⟨"k", rfl, hc⟩⟩) (fun C1 c1 k hk => ?_) (by rw [List.length_range]; omega)) ?_
      · have hk' : k < ts.length := List.mem_range.mp hk
        refine Ev.conv (lT (Ev.map2 [("k", intD k)] trees natsT (fun t => t.contains k) natsT (scOk_of rfl) (Ev.cell rfl rfl rfl) (fun _ => rfl) (Itb.lst cx.h) (by walk_at "lits") rfl (fun _ _ => .inl ⟨rfl, .inl rfl⟩) (fun C2 c2 t htt => ?_) (fun C2 c2 t htt hq => ?_) (by omega)) ?_ rfl rfl rfl rfl) ?_
        · exact EvB.cmp (Ev.cell rfl rfl rfl) (Ev.loc rfl rfl rfl) cmp_in
        · exact Ev.loc rfl rfl rfl
        · rw [List.length_map]; exact Nat.le_trans (List.length_filter_le _ _) (by omega)
        · rw [List.length_map]
      · rw [natsD, heldOf, List.map_map]; rfl
    have fr : ∀ t ∈ ts, t.1 < 4 ∧ t.2 < 4 ∧ at2 far t.1 t.2 = (frN far t : Int) ∧ frN far t ≤ 500 := P.fr
    have rl : (runCs far ts).length ≤ 3006 := Nat.le_trans (runCs_len far ts fun t ht => (fr t ht).2.2.2) (by omega)
    refine Sq.assignE (ι := Addr) (fun x => .ref x) (fun x => XS.inst C x (wsKds (runStr far ts) (wsRun (runCs far ts)))) (EvX.call cx (Ev.glob ok gW rfl rfl) hk.keep' (EvL.cons (d := .str (runStr far ts)) ?_ EvL.nil) (wsp_new ok hk fi gW gN gT (runStr far ts) (runCs far ts) (runStr_cps far ts) (runStr_ascii far ts) runCs_mem (by omega)) (fun _ _ _ => trivial) (fun _ _ _ _ h => h.elim)) (AdrOk.loc rfl) rfl fun x => ?_
    · refine Ev.bin (Ev.ofX (EvX.meth (dO := .str "") cx Ev.str (gm_str fun A pl t s Q E h => GM.join h) Keep.builtin (EvL.cons (d := .lst ((ts.map fun t => Txt.mul " " (frN far t : Int) ++ "\t").map .str)) ?_ EvL.nil) (CallX.of (join_lst (joinOk_of_weight ?_ (by decide +kernel)))) (fun _ _ _ => trivial) (fun _ _ _ _ h => h.elim) rfl)) Ev.str (op_addS ?_)
      · refine Ev.conv (Ev.comp (ρc := [("far", matD far)]) (d := tiesD ts) (ds := ts.map tieD) (yss := ts.map fun t => [D.str (Txt.mul " " (frN far t : Int) ++ "\t")]) (scOk_of rfl) (Ev.loc rfl rfl rfl) (fun _ => rfl) (Itb.lst cx.h) (by simp) (cap_of (by walk_at "lits")) (fun C1 c1 => Turn.map1 fun t ht => ⟨_, Asg.tup cx.h (AsgL.cons (Asg.name (.inl ⟨rfl, .inl rfl⟩)) (AsgL.cons (Asg.name (.inl ⟨rfl, .inl rfl⟩)) AsgL.nil)) rfl rfl, sub_of (by walk_at "lits"), ?_⟩) ?_) ?_
        · obtain ⟨l1, l2, l3, l5⟩ := fr t ht
          refine Ev.bin (Ev.bin Ev.str (Ev.conv (Ev.at2 h4 l1 l2 (Ev.cell rfl rfl rfl) (Ev.loc rfl rfl rfl) (Ev.loc rfl rfl rfl)) (d' := intD (frN far t)) (by rw [l3]; rfl)) (op_mulS (by omega))) Ev.str (op_addS ?_)
          have e1 : (Txt.mul " " (frN far t : Int)).length = frN far t := by
            have := congrArg List.length (mul_sp (frN far t))
            rw [List.length_replicate, Array.length_toList] at this
            exact this
          have e2 : ("\t" : Str).length = 1 := by decide +kernel
          have z : sizeLine = 2 ^ 24 := rfl
          rw [e1, e2]; omega
        · rw [flatten1, List.length_map]; omega
        · rw [flatten1, List.map_map]; rfl
      · have gen : ∀ l : List (Nat × Nat), (∀ t ∈ l, frN far t ≤ 500) → (((l.map fun t => Txt.mul " " (frN far t : Int) ++ "\t")).map (·.length)).sum ≤ 501 * l.length := fun l => by
          induction l with
          | nil => intro _; simp
          | cons t r ih =>
            intro h
            have h1 := h t List.mem_cons_self
            have h2 := ih fun u hu => h u (List.mem_cons_of_mem _ hu)
            have e1 : (Txt.mul " " (frN far t : Int) ++ "\t").length = frN far t + 1 := by
              have := congrArg List.length (app_cps (Txt.mul " " (frN far t : Int)) "\t")
              rw [List.length_append, mul_sp, List.length_replicate, Array.length_toList] at this
              exact this
            rw [List.map_cons, List.map_cons, List.sum_cons, e1, List.length_cons]
            omega
        have := gen ts fun t ht => (fr t ht).2.2.2
        rw [List.length_map]; omega
      · have e1 : (Txt.join "" (ts.map fun t => Txt.mul " " (frN far t : Int) ++ "\t")).length = (runCs far ts).length := by
          have := congrArg List.length (runStr_cps far ts)
          rw [runStr, app_cps, List.length_append, List.length_append, Array.length_toList] at this
          have z : (("x" : Str).cps.toList).length = 1 := by decide +kernel
          have z' : ([120] : List Nat).length = 1 := rfl
          have q : (Txt.join "" (ts.map fun t => Txt.mul " " (frN far t : Int) ++ "\t")).length = (Txt.join "" (ts.map fun t => Txt.mul " " (frN far t : Int) ++ "\t")).cps.size := rfl
          omega
        have e2 : ("x" : Str).length = 1 := by decide +kernel
        have z : sizeLine = 2 ^ 24 := rfl
        rw [e1, e2]; omega
    generalize hS : wsRun (runCs far ts) = S
    have hn : S.n = ts.length + 3 * trees.length := hS ▸ P.n
    have hnt : S.nt = ts.length := hS ▸ P.nt
    have hb : S.b = 0 := hS ▸ P.b
    obtain ⟨M, hM, hM', hcnt⟩ := P.top
    rw [hS] at hcnt
    have hlvl := P.lvl
    rw [hS] at hlvl
    generalize hH : heldOf ts.length trees = held at hM hM' hcnt hlvl
    have hMle : M ≤ trees.length := by
      rw [← hH] at hM
      obtain ⟨k, _, rfl⟩ := List.mem_map.mp hM
      exact List.length_filter_le _ _
    have lenT : ∀ {X : XP} {ρ : List (Str × D)}, ρ.lookup ("trees" : Str) = some (treesD trees) → ∀ {p1 p2 pos : Pos}, Ev g A (envX "_law_told_by_lead" (scopeOf (topStmt 28)) L a cd cells) ρ X (.Call (.Name "len" p1) [.Name "trees" p2] [] pos) (intD trees.length) := by
      intro X ρ h p1 p2 pos
      exact Ev.conv (lT (Ev.cell h rfl rfl) (by rw [List.length_map]; omega) rfl rfl rfl rfl) (by rw [List.length_map])
    have att : ∀ {fx : Fx} {ρ : List (Str × D)} {p pos : Pos} {name : Str} {d : D}, ρ.lookup ("thisguy" : Str) = some (.raw (.ref x)) → (wsKds (runStr far ts) S).lookup name = some d → name ∈ (["raw", "n", "nt", "norm", "is_simple"] : List Str) → (∀ F v, Rep F d v → handedIn v = true) → Ev g A (envX "_law_told_by_lead" (scopeOf (topStmt 28)) L a cd cells) ρ ((XS.tt (fx := fx)).and (XS.inst C x (wsKds (runStr far ts) S))).toXP (.Attribute (.Name "thisguy" p) name pos) d := fun h hd hm hh =>
      Ev.attrP hk.KX (Ev.loc h rfl rfl) (fun F P k y => InstF.toP y.2 k) hd (hk.pg _) hk.hd (hk.at_ _ hm).1 rfl hh
    have hI : ∀ (n : Nat) F v, Rep F (intD n) v → handedIn v = true := fun n F v r => by simp only [Rep, intD] at r; obtain ⟨t, rfl⟩ := r; rfl
    have cx2 : Cx A 2 := cx.le (by decide)
    refine Sq.iff (EvB.cmp (d₁ := .tup [intD (ts.length + 3 * trees.length), intD ts.length]) (Ev.tuple (EvL.cons (Ev.conv (att (name := "n") rfl rfl (by decide) (hI _)) (by rw [hn])) (EvL.cons (Ev.conv (att (name := "nt") rfl rfl (by decide) (hI _)) (by rw [hnt])) EvL.nil)) (Nat.le_of_ble_eq_true rfl)) (Ev.tuple (EvL.cons (Ev.conv (Ev.bin (Ev.loc rfl rfl rfl) (Ev.bin Ev.int (lenT rfl) (op_mul (by decide) (by decide))) op_add) ?_) (EvL.cons (Ev.loc rfl rfl rfl) EvL.nil)) (Nat.le_of_ble_eq_true rfl)) (ne_same (n := 0) cx1 (by decide) fun d hd => ?_)) ?_
    · rw [intD]; push_cast; rfl
    · simp only [List.mem_cons, List.not_mem_nil, or_false] at hd
      rcases hd with rfl | rfl <;> trivial
    refine Sq.iff (EvB.cmp (d₁ := .tup [natsT ((List.range (M + 1)).map fun s => held.count s), intD 0]) (Ev.conv (att (name := "norm") (d := .tup [wsKds.natsT S.cnt, intD S.b]) rfl rfl (by decide) (fun F v r => by simp only [Rep] at r; obtain ⟨a, _, _, _, rfl, _⟩ := r; rfl)) (by rw [hcnt, hb]; rfl)) (Ev.tuple (EvL.cons (Ev.call cx (Ev.builtin ok gT rfl (by decide) rfl rfl) Keep.type (EvL.cons ?_ EvL.nil) (tuple_lst (ds := ((List.range (M + 1)).map fun s => held.count s).map intD) (by rw [List.length_map, List.length_map, List.length_range]; omega))) (EvL.cons Ev.int EvL.nil)) (Nat.le_of_ble_eq_true rfl)) (ne_same (n := 1) cx1 (by decide) fun d hd => ?_)) ?_
    · refine Ev.conv (Ev.map1 [("held", natsD held)] (List.range (M + 1)) intD (fun s => intD (held.count s)) (d := .rng 0 ((M + 1 : Nat) : Int)) (scOk_of rfl) ?_ (fun _ => rfl) (Itb.rngN cx.h _ (by omega)) (by walk_at "lits") rfl (fun _ _ => .inl ⟨rfl, .inl rfl⟩) (fun C1 c1 s hs => ?_) (by rw [List.length_range]; omega)) ?_
      · refine Ev.call cx (Ev.builtin ok gR rfl (by decide) rfl rfl) Keep.type (EvL.cons (Ev.bin (Ev.call cx (Ev.builtin ok gM rfl (by decide) rfl rfl) Keep.builtin (EvL.cons (d := intsD (held.map fun (n : Nat) => (n : Int))) (Ev.conv (Ev.cell rfl rfl rfl) (by rw [natsD, nats_map]; rfl)) EvL.nil) (max_lst (M := (M : Int)) (List.mem_map.mpr ⟨M, hM, rfl⟩) fun a ha => ?_)) Ev.int op_add) EvL.nil) range1
        obtain ⟨b, hb', rfl⟩ := List.mem_map.mp ha
        have := hM' b hb'
        omega
      · exact Ev.ofX (EvX.meth cx (Ev.cell rfl rfl rfl) (gm_lst PySem.F.slot_list_count PySem.F.type_list_count) Keep.builtin (EvL.cons (Ev.loc rfl rfl rfl) EvL.nil) (CallX.of countN_ok) (fun _ _ _ => trivial) (fun _ _ _ _ h => h.elim) rfl)
      · rw [List.map_map]; rfl
    · simp only [List.mem_cons, List.not_mem_nil, or_false] at hd
      rcases hd with rfl | rfl
      · show ∀ d ∈ _, CmpOk 0 d
        intro d hd
        obtain ⟨n, _, rfl⟩ := List.mem_map.mp hd
        trivial
      · trivial
    have hcl : S.cnt.length ≤ 4096 := by rw [hcnt, List.length_map, List.length_range]; omega
    refine Ex.conv (d := .bool (((lvlOf S trees.length : Nat) : Int) == (trees.length : Int) * ((ts.length : Int) + (held.count trees.length : Int)))) (Ex.weak (Sq.ret ?_)) ?_
    · refine Ev.cmp (d₁ := intD (lvlOf S trees.length)) (d₂ := .int ((trees.length : Int) * ((ts.length : Int) + (held.count trees.length : Int)))) ?_ ?_ cmp_eq
      · exact Ev.ofX (EvX.meth cx2 (Ev.loc rfl rfl rfl) (gm_methP hk.KX (fun F P k y => InstF.toP y.2 k) rfl (hk.pg _) hk.il hk.ilF) (Keep.fun fl) (EvL.cons (lenT rfl) EvL.nil) (lvl_ok ok hk fl gN gR x (runStr far ts) S hcl trees.length P.some (by omega)) (fun F P y => y.2) (fun _ _ _ _ h => h.elim) rfl)
      · exact Ev.bin (lenT rfl) (Ev.bin (Ev.loc rfl rfl rfl) (Ev.ofX (EvX.meth cx (Ev.cell rfl rfl rfl) (gm_lst PySem.F.slot_list_count PySem.F.type_list_count) Keep.builtin (EvL.cons (lenT rfl) EvL.nil) (CallX.of countN_ok) (fun _ _ _ => trivial) (fun _ _ _ _ h => h.elim) rfl)) op_add) (op_mul (by omega) (by omega))
    · rw [hlvl]
      congr 1
      rw [beq_iff_eq]
      push_cast
      rfl
end TL
end
section
namespace TL
open PySem PySem.W PyProof.Rows PySem.Calls PyProof.Rows.LCg
structure CloF (F : PH) (scope : Scope) (clos : List (Str × Addr)) (φ : List (Str × D)) : Prop where
  free : ∀ x, scope.names.lookup x = some .free → ∃ c v o, clos.lookup x = some c ∧ F c = some o ∧ o.data = .cell (some v) ∧ ∀ d, φ.lookup x = some d → Rep F d v
  kind : ∀ x d, φ.lookup x = some d → scope.names.lookup x = some .free
  inj : ∀ x y c, clos.lookup x = some c → clos.lookup y = some c → x = y
  any : ∀ x c, clos.lookup x = some c → F c ≠ none
theorem CloF.sub {F F' : PH} {scope : Scope} {clos : List (Str × Addr)} {φ : List (Str × D)} (h : CloF F scope clos φ) (k : Sub F F') : CloF F' scope clos φ :=
  ⟨fun x hx => by obtain ⟨c, v, o, h1, h2, h3, h4⟩ := h.free x hx; exact ⟨c, v, o, h1, k _ _ h2, h3, fun d hd => (h4 d hd).sub k⟩, h.kind, h.inj, fun x c hc e => by
    cases q : F c with
    | none => exact h.any x c hc q
    | some o => rw [k _ _ q] at e; cases e⟩
noncomputable def FunN (F : PH) (f : Addr) (name qual : Str) (params : Arguments) (body : List Stmt) (scope : Scope) (clos : List (Str × Addr)) : Prop :=
  ∃ doc pm c' ct oc vs t, F f = some (fnMade name qual params body scope clos doc pm c' ct) ∧ F c' = some oc ∧ oc.data = .fields vs ∧ vs[1]? = some (.str qual t)
theorem FunN.sub {F F' : PH} {f : Addr} {name qual : Str} {params : Arguments} {body : List Stmt} {scope : Scope} {clos : List (Str × Addr)} (h : FunN F f name qual params body scope clos) (k : Sub F F') : FunN F' f name qual params body scope clos := by
  obtain ⟨doc, pm, c', ct, oc, vs, t, h1, h2, h3⟩ := h
  exact ⟨doc, pm, c', ct, oc, vs, t, k _ _ h1, k _ _ h2, h3⟩
theorem look_app {x : Str} : ∀ {ρ φ : List (Str × D)} {d : D}, (ρ ++ φ).lookup x = some d → ρ.lookup x = some d ∨ φ.lookup x = some d
  | [], _, _, h => .inr h
  | (n, e) :: r, φ, d, h => by
    rw [List.cons_append, List.lookup_cons] at h
    rw [List.lookup_cons]
    cases q : x == n with
    | true => rw [q] at h; exact .inl h
    | false => rw [q] at h; exact look_app h
theorem rev_look {k : Str} {v : Value} : ∀ {l : List (Str × Value)}, (l.map (·.1)).Nodup → (k, v) ∈ l → l.reverse.lookup k = some v := fun {l} hn hm => by
  have hn' : (l.reverse.map (·.1)).Nodup := by rw [List.map_reverse]; exact List.pairwise_reverse.mpr (hn.imp fun h q => h q.symm)
  have hm' : (k, v) ∈ l.reverse := List.mem_reverse.mpr hm
  generalize l.reverse = r at hn' hm'
  induction r with
  | nil => cases hm'
  | cons p r ih =>
    rw [List.map_cons, List.nodup_cons] at hn'
    rcases List.mem_cons.mp hm' with rfl | hm'
    · rw [List.lookup_cons, beq_self_eq_true]
    · rw [List.lookup_cons]
      have : (k == p.1) = false := beq_false_of_ne fun q => hn'.1 (List.mem_map.mpr ⟨_, hm', q⟩)
      rw [this]
      exact ih hn'.2 hm'
theorem enter_clo {prog : Program} {w : World} {A : Around} {hb : Heap} {F P : PH} {s : Shared} {Q : Env → Shared → Prop} {E : Value → Shared → Prop} {scope : Scope} {qual : Str} {f : Addr} {cd : Value} {ns : List Str} {ds : List D} {vs : List Value} {clos : List (Str × Addr)} {φ : List (Str × D)}
    (hbs : Sub hb.get? F) (hf : Sub F P) (hP : Has s.heap P) (hr : RepL F ds vs) (hl : ds.length = ns.length) (hk : scope.kind = .function) (hnc : ∀ x ∈ scope.names, x.2 ≠ .cell) (hn : ns.Nodup) (hloc : ∀ x ∈ ns, scope.names.lookup x = some .local) (C : CloF F scope clos φ)
    (k : ∀ L h tk P', Has h P' → Ext F P F P' → P L = none → (∀ a, muts (envX qual scope L f cd clos) a → P a = none) → Vars hb (envX qual scope L f cd clos) F P' (ns.zip ds ++ φ) → Q (envX qual scope L f cd clos) { s with heap := h, toks := tk }) :
    wpAny (model prog w) A (newFunctionEnv scope mainGlobals clos (ns.zip vs) (qual ++ ".<locals>.") (some f) cd none builtinsNs) Q E s := by
  have hvl : vs.length = ns.length := by rw [hr.length, hl]
  have hkeys := zip_keys hvl
  have fr := hP.fresh
  refine wpAny_newFunctionEnv hnc (fun x hx => hloc x.1 (by rw [← hkeys]; exact List.mem_map.mpr ⟨_, hx, rfl⟩)) (fun h' hns hsb => ?_) hk
  obtain ⟨oL, eL, nL⟩ := ns_obj hns
  have hP' : Has h' (upd P s.heap.objs.size oL) := fun b o e => by
    by_cases q : b = s.heap.objs.size
    · subst q; rw [upd_self] at e; cases e; exact eL
    · rw [upd_ne q] at e
      exact (hsb.2 b q).trans (Heap.get?_push_of_some _ (hP _ _ e))
  have ext : Ext F P F (upd P s.heap.objs.size oL) := .own hf fr
  have cellNe : ∀ {x c}, clos.lookup x = some c → c ≠ s.heap.objs.size := fun {x c} hc q => C.any x c hc (by rw [q]; exact none_of hf fr)
  have noCell : ∀ {x}, scope.names.lookup x ≠ some .cell := fun {x} q => hnc _ (mem_lookup q) rfl
  have noM : ∀ a, muts (envX qual scope s.heap.objs.size f cd clos) a → a = s.heap.objs.size := fun a ha => by
    rcases ha with h | ⟨x, hx, _⟩
    · exact h
    · exact absurd hx noCell
  refine k s.heap.objs.size h' _ _ hP' ext fr (fun a ha => by rw [noM a ha]; exact fr) ⟨⟨hk, rfl, rfl⟩, hbs, ext.fp, ⟨_, oL, upd_self .., nL, fun y d hy hky => ?_⟩, fun y d hy hky => ?_, ⟨none_of hf fr, fun y c hc => cellNe hc, fun y hy => ?_, fun y c hc hy => absurd hy noCell, C.inj⟩⟩
  · rcases look_app hy with hy | hy
    · obtain ⟨v, h1, h2⟩ := zip_rep hr hy
      exact ⟨v, rev_look (by rw [hkeys]; exact hn) h1, h2⟩
    · have : scope.names.lookup y = some .local := hky
      rw [C.kind y d hy] at this; cases this
  · rcases look_app hy with hy | hy
    · obtain ⟨v, h1, _⟩ := zip_rep hr hy
      have hl := hloc y (by rw [← hkeys]; exact List.mem_map.mpr ⟨_, h1, rfl⟩)
      rcases hky with q | q
      · exact absurd q noCell
      · rw [show scope.names.lookup y = some .free from q] at hl; cases hl
    · obtain ⟨c, v, o, h1, h2, h3, h4⟩ := C.free y (C.kind y d hy)
      exact ⟨c, v, o, h1, ext.fp _ _ h2, h3, h4 d hy⟩
  · rcases hy with q | q
    · exact absurd q noCell
    · obtain ⟨c, v, o, h1, h2, h3, _⟩ := C.free y q
      exact ⟨c, o, _, h1, ext.fp _ _ h2, h3⟩
structure FnScN (scope : Scope) (ns : List Str) : Prop where
  kind : scope.kind = .function
  nc : ∀ x ∈ scope.names, x.2 ≠ .cell
  nn : ns.Nodup
  loc : ∀ x ∈ ns, scope.names.lookup x = some .local
  co : scope.isCoroutine = false
  gen : scope.isGenerator = false
theorem scN_ok {scope : Scope} {ns : List Str} (h : (decide (scope.kind = .function) && (scope.names.all fun p => p.2 != .cell) && decide ns.Nodup && (ns.all fun x => scope.names.lookup x == some .local) && !scope.isCoroutine && !scope.isGenerator) = true) : FnScN scope ns := by
  simp only [Bool.and_eq_true, decide_eq_true_eq, Bool.not_eq_true'] at h
  obtain ⟨⟨⟨⟨⟨h1, h2⟩, h3⟩, h4⟩, h5⟩, h6⟩ := h
  exact ⟨h1, fun x hx => by simpa using List.all_eq_true.mp h2 _ hx, h3, fun x hx => by simpa using List.all_eq_true.mp h4 _ hx, h5, h6⟩
theorem CallC.clo {g : G} {f : Addr} {name qual : Str} {params : Arguments} {body : List Stmt} {scope : Scope} {clos : List (Str × Addr)} {ns : List Str} {pos ds : List D} {n : Nat} {W : Addr → Prop} {Pre : PH → PH → Prop} {Post : PH → PH → Value → Prop} {d : D} {out : Out} (φ : List (Str × D))
    (ok : GOk g) (sc : FnScN scope ns) (hl : ds.length = ns.length) (hbind : ∀ doc pm cdv ct, BindX g (fnX name qual params body scope clos .none .none doc pm none cdv ct) ns pos [] ds)
    (hF : ∀ F P, Pre F P → FunN F f name qual params body scope clos ∧ CloF F scope clos φ)
    (hPre : ∀ F P F' P', Pre F P → Ext F P F' P' → Pre F' P') (hW : ∀ F P, Pre F P → ∀ a, W a → P a ≠ none) (hW' : ∀ F P v, Post F P v → ∀ a, W a → F a = none) (hout : OutD out d)
    (h : ∀ (A : Around) (fx : Fx) (L : Addr) (cd : Value), Cx A n → fx.env = envX qual scope L f cd clos → (∀ a, W a → fx.P₀ a = none ∧ ¬ muts fx.env a) →
      ∃ X X' : XS fx, (∀ F P, Pre F P → X.p F P) ∧ (∀ F P v, X'.p F P → Rep F d v → Post F P v) ∧ Ex g A fx X X' (execs body fx.env) (ns.zip ds ++ φ) out) : CallC g (.ref f) pos [] (n + 1) W Pre Post := fun A F P vs kvs cx hbs hf hr hkr pre s hP => by
  obtain ⟨⟨doc, pm, c', ct, oc, cvs, t, hfo, hco, hcd, hcv⟩, _⟩ := hF F P pre
  refine codeAny_call_function (by have := cx.d; omega) (hP _ _ (hf _ _ hfo)) rfl sc.co sc.gen rfl ⟨c', oc, cvs, t, rfl, hP _ _ (hf _ _ hco), hcd, hcv⟩ ?_
  refine (hbind doc pm (.ref c') ct A.in1 F P vs kvs hbs hf hr hkr).out hP fun h₀ tk₀ P₀ b hP₀ ⟨F₀, bs, hb, e₀, hr₀⟩ => ?_
  subst hb
  have hbs₀ := hbs.trans e₀.f
  have pre₀ := hPre _ _ _ _ pre e₀
  refine enter_clo (hb := g.hb) hbs₀ e₀.fp hP₀ hr₀ hl sc.kind sc.nc sc.nn sc.loc (hF _ _ pre₀).2 fun L h₁ tk₁ P₁ hP₁ e₁ hL hnew V => ⟨ok.nolimit.keeps fun b o e => hP₁ _ _ (e₁.fp _ _ (e₁.f _ _ (hbs₀ _ _ e))), codeAny_func ?_⟩
  have e₀₁ := e₀.trans e₁
  have new0 : ∀ b, muts (envX qual scope L f (.ref c') clos) b → P b = none := fun b hb => none_of e₀.p (hnew b hb)
  obtain ⟨X, X', hX, hX', B⟩ := h (A.deeper (envX qual scope L f (.ref c') clos)) ⟨envX qual scope L f (.ref c') clos, F, less W P, fun b hb => by
    by_cases w : W b
    · exact less_in w
    · rw [less_off w]; exact new0 b hb⟩ L (.ref c') cx.deeper rfl (fun b w => ⟨less_in w, fun m => hW _ _ pre b w (new0 b m)⟩)
  have pre₁ := hPre _ _ _ _ pre e₀₁
  refine (B.run F₀ P₁ e₀₁.lessW V V.m (hX _ _ pre₁)).out hP₁ fun h₂ tk₂ P₂ fl hP₂ ⟨F₂, t₂, I₂, x₂, q⟩ => ?_
  have fin : ∃ v, Rep F₂ d v ∧ (fl = .ret v ∨ (fl = .next ∧ v = Value.none)) := by
    cases out with
    | ret d' =>
      obtain ⟨v, hf', r⟩ := q
      subst hf'
      have z : d' = d := hout
      subst z
      exact ⟨v, r, .inl rfl⟩
    | next ρ =>
      obtain ⟨hf', _⟩ := q
      subst hf'
      have z : d = .none := hout
      subst z
      exact ⟨.none, by simp only [Rep], .inr ⟨rfl, rfl⟩⟩
    | brk ρ => exact hout.elim
    | any Q => exact hout.elim
  obtain ⟨v, r, hv⟩ := fin
  have post := hX' _ _ v x₂ r
  rcases hv with rfl | ⟨rfl, rfl⟩
  · exact ⟨_, _, _, P₂, F₂, rfl, rfl, hP₂, I₂.unless (hW' _ _ _ post), post⟩
  · exact ⟨_, _, _, P₂, F₂, rfl, rfl, hP₂, I₂.unless (hW' _ _ _ post), post⟩
section
variable {g : G} {A : Around} {env : Env} {ρ : List (Str × D)} {X : XP}
theorem EvX.callN {fn e : Expr} {args : List Expr} {pos : Pos} {f : Addr} {ds : List D} {n : Nat} {W : Addr → Prop} {Pre : PH → PH → Prop} {Post : PH → PH → Value → Prop} (cx : Cx A n) (hf : Ev g A env ρ X fn (.raw (.ref f))) (hk : ∀ F P, X.p F P → ∃ oc od fd sl, F f = some ⟨oc, od, .func fd, sl⟩) (ha : EvL g A env ρ X pos (e :: args) ds) (hc : CallX g (.ref f) ds [] n W Pre Post) (hX : ∀ F P, X.p F P → Pre F P) (hW : ∀ F P, Pre F P → ∀ a, W a → P a ≠ none)
    (he : eval (.Call fn (e :: args) [] pos) env = (eval fn env >>= fun f => callWith pos f [] (backTo pos (starEach (e :: args) env)) []) := by rfl)
    (hst : starEach (e :: args) env = (false, eval e env) :: starEach args env := by rfl) (hst' : (backTo pos (starEach args env)).any (·.1) = false := by rfl) : EvX g A env ρ X W (.Call fn (e :: args) [] pos) Post := EvX.mk fun F P V x s hs => by
  rw [he]
  refine wpAny_bind ((hf.run F P V x).out hs fun h₁ tk₁ P₁ v hP₁ ⟨F₁, e₁, r₁⟩ => ?_)
  simp only [Rep] at r₁
  subst r₁
  have V₁ := V.ext e₁
  have x₁ := X.st _ _ _ _ x e₁
  have key := ha.run F₁ P₁ V₁ x₁
  obtain ⟨oc, od, fd, sl, hfo⟩ := hk _ _ x₁
  refine callWith_F (s := { s with heap := h₁, toks := tk₁ }) ⟨oc, od, fd, sl, hP₁ _ _ (e₁.fp _ _ hfo)⟩ ?_ hst hst'
  refine key.out hP₁ fun h₂ tk₂ P₂ vs hP₂ ⟨F₂, e₂, r₂⟩ => ?_
  have V₂ := V₁.ext e₂
  refine ⟨⟨oc, od, fd, sl, hP₂ _ _ (e₂.fp _ _ (e₂.f _ _ hfo))⟩, (hc A F₂ P₂ vs [] cx V₂.base V₂.fp r₂ .nil (hX _ _ (X.st _ _ _ _ x₁ e₂))).out hP₂ fun h₃ tk₃ P₃ v hP₃ ⟨F₃, s₃, post⟩ => ?_⟩
  exact ⟨_, _, P₃, rfl, hP₃, F₃, ((e₁.trans e₂).step (hW _ _ (hX _ _ x))).trans s₃, post⟩
end
end TL
end
section
namespace TL
open PySem PySem.W PyProof.Rows PySem.Calls PyProof.Rows.LCg
noncomputable def Tab (Pt : Addr) (pos : Pos) (qual : Str) (F P : PH) : Prop := ∃ ps, P Pt = some (tabObj ps) ∧ F Pt = none ∧ TriplesOk ps.toList ∧
  (codeAmong pos ps.toList = none ∨ ∃ c' oc vs t, codeAmong pos ps.toList = some (.ref c') ∧ F c' = some oc ∧ oc.data = .fields vs ∧ vs[1]? = some (.str qual t))
theorem Tab.step {Pt : Addr} {pos : Pos} {qual : Str} {W : Addr → Prop} {F P F' P' : PH} (h : Tab Pt pos qual F P) (s : Step W F P F' P') (hW : ¬ W Pt) : Tab Pt pos qual F' P' := by
  obtain ⟨ps, h1, h2, h3, h4⟩ := h
  refine ⟨ps, s.p _ _ h1 hW, s.off h2 (by rw [h1]; exact fun z => nomatch z), h3, h4.imp id fun ⟨c', oc, vs, t, k1, k2, k3⟩ => ⟨c', oc, vs, t, k1, s.f _ _ k2, k3⟩⟩
theorem Tab.ext {Pt : Addr} {pos : Pos} {qual : Str} {F P F' P' : PH} (h : Tab Pt pos qual F P) (e : Ext F P F' P') : Tab Pt pos qual F' P' := h.step (e.step (W := NoW) fun _ z => z.elim) id
theorem Tab.some {Pt : Addr} {pos : Pos} {qual : Str} {F P : PH} (h : Tab Pt pos qual F P) : P Pt ≠ none := by
  obtain ⟨ps, h1, _⟩ := h
  rw [h1]; exact fun z => nomatch z
theorem Tab.off {Pt : Addr} {pos : Pos} {qual : Str} {F P : PH} (h : Tab Pt pos qual F P) : F Pt = none := by obtain ⟨_, _, q, _⟩ := h; exact q
noncomputable def TabO (fx : Fx) (Pt : Addr) (pos : Pos) (qual : Str) (F P : PH) : Prop := Tab Pt pos qual F P ∧ fx.P₀ Pt = none ∧ ¬ muts fx.env Pt
noncomputable def XS.tab {fx : Fx} (Pt : Addr) (pos : Pos) (qual : Str) : XS fx := ⟨⟨TabO fx Pt pos qual, fun _ _ _ _ h e => ⟨h.1.ext e, h.2⟩⟩, fun W F P F' P' h s hW => by
  obtain ⟨ht, h2, h3⟩ := h
  refine ⟨ht.step s fun w => ?_, h2, h3⟩
  obtain ⟨ps, h1, _⟩ := ht
  rcases hW Pt w with q | ⟨_, o, q, z⟩
  · exact h3 q
  · rw [h1] at q; cases q; cases z⟩
theorem TabO.wok {fx : Fx} {Pt : Addr} {pos : Pos} {qual : Str} {F P : PH} (h : TabO fx Pt pos qual F P) : WOk fx (fun b => b = Pt) P := by
  obtain ⟨⟨ps, h1, _⟩, h2, h3⟩ := h
  exact ⟨fun b hb => by subst hb; exact ⟨h2, h3⟩, fun b o hb e => by
    subst hb; rw [h1] at e; cases e; exact ⟨rfl, fun v z => nomatch z⟩⟩
theorem Tab.ne_own {Pt a : Addr} {pos : Pos} {qual : Str} {ds : List D} {F P : PH} (h : Tab Pt pos qual F P) (o : OwnP a ds F P) : Pt ≠ a := fun q => by
  obtain ⟨ps, h1, _⟩ := h
  obtain ⟨xs, n, o1, _⟩ := o
  rw [q, o1] at h1; cases h1
structure NestK (g : G) (c Pt : Addr) : Prop where
  hd : CodeHd g.hb c Pt
  bm : ∃ bm ob, g.mg "__builtins__" = some (.ref bm) ∧ bm ≠ builtinsNs ∧ bm ≠ mainGlobals ∧ g.hb.get? bm = some ob ∧ ob.cls = .type "module" ∧ ob.dict = some builtinsNs ∧ ob.data = .plain
theorem gl_obj {g : G} (ok : GOk g) : ∃ o, g.hb.get? mainGlobals = some o := by
  obtain ⟨o, es, ep, e, _⟩ := ok.gl
  exact ⟨o, e⟩
section
variable {g : G} {A : Around} {fx : Fx} {ρ : List (Str × D)} {X X' : XS fx} {o : Out}
theorem make_ok (ok : GOk g) {c Pt : Addr} (NK : NestK g c Pt) {env : Env} {F P : PH} (hcd : env.code = .ref c) (hge : env.globals = mainGlobals) {name qual : Str} {params : Arguments} {body : List Stmt} {scope : Scope} {pos : Pos} {clos : List (Str × Addr)} (hcl : closureFor scope env = pure clos)
    (hbs : Sub g.hb.get? F) (hf : Sub F P) (T : Tab Pt pos qual F P) {firstLine : Nat} :
    Tr g.prog g.w A (makeFunction name qual params (.stmts body) scope env [] [] [] pos firstLine) P (fun P' v => ∃ F' f, v = .ref f ∧ Step (fun b => b = Pt) F P F' P' ∧ Tab Pt pos qual F' P' ∧ FunN F' f name qual params body scope clos) := fun s hP => by
  have keep : ∀ b o, g.hb.get? b = some o → s.heap.get? b = some o := fun b o e => hP _ _ (hf _ _ (hbs _ _ e))
  obtain ⟨ps, t1, t2, t3, t4⟩ := T
  obtain ⟨bm, ob, b1, b2, b3, b4, b5, b6, b7⟩ := NK.bm
  have hbP : bm ≠ Pt := fun q => by have := hbs _ _ b4; rw [q, t2] at this; cases this
  have hgP : mainGlobals ≠ Pt := fun q => by
    obtain ⟨o, e⟩ := gl_obj ok
    have := hbs _ _ e
    rw [q, t2] at this; cases this
  have BA : s.heap.BuiltinsAt g.mg Pt := ⟨bm, ob, b1, b2, b3, hbP, keep _ _ b4, b5, b6, b7⟩
  have none_ge : ∀ {a}, s.heap.objs.size ≤ a → P a = none := fun {a} h => by
    cases e : P a with
    | none => rfl
    | some o => exact absurd (hP.lt (by rw [e]; exact fun z => nomatch z)) (Nat.not_lt.mpr h)
  have hPt := hP _ _ t1
  rcases t4 with t4 | ⟨c', oc, cvs, t, k1, k2, k3, k4⟩
  · refine makeFunction_K hcl hge (ok.gl.keeps keep) hcd (NK.hd.keeps keep) hPt t3 t4 hgP BA fun c' ctv doc h' tk hx hge' hlt hrec htb => ?_
    obtain ⟨c₂, oc, cvs, t, e2, hoc, hd, hv⟩ := hrec
    cases e2
    let fo : Obj := fnMade name qual params body scope clos doc ((g.mg "__name__").getD .none) c' ctv
    have n1 : P c' = none := none_ge hge'
    have n2 : P h'.objs.size = none := none_ge (Nat.le_of_lt (Nat.lt_of_le_of_lt hge' hlt))
    have d1 : c' ≠ Pt := fun q => by rw [q, t1] at n1; cases n1
    have d2 : h'.objs.size ≠ Pt := fun q => by rw [q, t1] at n2; cases n2
    have d3 : h'.objs.size ≠ c' := Nat.ne_of_gt hlt
    have f1 : F c' = none := none_of hf n1
    have f2 : F h'.objs.size = none := none_of hf n2
    have f3 : upd F c' oc h'.objs.size = none := by rw [upd_ne d3]; exact f2
    have sF : Sub F (upd (upd F c' oc) h'.objs.size fo) := (Sub.upd_new f1).trans (.upd_new f3)
    have getP : ∀ {b}, b ≠ h'.objs.size → b ≠ c' → b ≠ Pt → upd (upd (upd P Pt (tabObj (ps ++ #[rawInt pos.line, rawInt pos.col, .ref c']))) c' oc) h'.objs.size fo b = P b := fun h1 h2 h3 => by rw [upd_ne h1, upd_ne h2, upd_ne h3]
    have sFP : Sub (upd (upd F c' oc) h'.objs.size fo) (upd (upd (upd P Pt (tabObj (ps ++ #[rawInt pos.line, rawInt pos.col, .ref c']))) c' oc) h'.objs.size fo) := fun b o e => by
      by_cases q1 : b = h'.objs.size
      · subst q1; rw [upd_self] at e ⊢; exact e
      · rw [upd_ne q1] at e ⊢
        by_cases q2 : b = c'
        · subst q2; rw [upd_self] at e ⊢; exact e
        · rw [upd_ne q2] at e ⊢
          rw [upd_ne (fun q3 => by rw [q3, t2] at e; cases e)]
          exact hf _ _ e
    refine ⟨_, tk, upd (upd (upd P Pt (tabObj (ps ++ #[rawInt pos.line, rawInt pos.col, .ref c']))) c' oc) h'.objs.size fo, rfl, fun b o e => ?_, upd (upd F c' oc) h'.objs.size fo, h'.objs.size, rfl, ⟨sF, fun b o e w => ?_, sFP, fun b e => ?_⟩, ⟨ps ++ #[rawInt pos.line, rawInt pos.col, .ref c'], ?_, ?_, ?_, .inr ⟨c', oc, cvs, t, ?_, ?_, hd, hv⟩⟩, doc, _, c', ctv, oc, cvs, t, upd_self .., ?_, hd, hv⟩
    · by_cases q1 : b = h'.objs.size
      · subst q1; rw [upd_self] at e; cases e; exact Heap.get?_push_size _ rfl
      · rw [upd_ne q1] at e
        refine Heap.get?_push_of_some _ ?_
        by_cases q2 : b = c'
        · subst q2; rw [upd_self] at e; cases e; exact hoc
        · rw [upd_ne q2] at e
          by_cases q3 : b = Pt
          · subst q3; rw [upd_self] at e; cases e; exact htb
          · rw [upd_ne q3] at e; exact hx _ _ q3 (hP _ _ e)
    · rw [getP (fun q => by rw [q, n2] at e; cases e) (fun q => by rw [q, n1] at e; cases e) w]; exact e
    · by_cases q1 : b = h'.objs.size
      · subst q1; exact .inr ⟨n2, d2⟩
      · rw [upd_ne q1] at e
        by_cases q2 : b = c'
        · subst q2; exact .inr ⟨n1, d1⟩
        · rw [upd_ne q2] at e; exact .inl e
    · rw [upd_ne (Ne.symm d2), upd_ne (Ne.symm d1), upd_self]
    · rw [upd_ne (Ne.symm d2), upd_ne (Ne.symm d1)]; exact t2
    · rw [Array.toList_append]; exact TriplesOk_snoc _ _ _ _ t3
    · rw [Array.toList_append]; exact codeAmong_snoc _ t3 t4
    · rw [upd_ne (Ne.symm d3), upd_self]
    · rw [upd_ne (Ne.symm d3), upd_self]
  · refine makeFunction_hit hcl hge (ok.gl.keeps keep) hcd (NK.hd.keeps keep) hPt t3 k1 BA fun ctv doc h' tk hk hsz => ?_
    let fo : Obj := fnMade name qual params body scope clos doc ((g.mg "__name__").getD .none) c' ctv
    have n2 : P h'.objs.size = none := none_ge hsz
    have f2 : F h'.objs.size = none := none_of hf n2
    have d2 : h'.objs.size ≠ Pt := fun q => by rw [q, t1] at n2; cases n2
    have e₁ : Ext F P (upd F h'.objs.size fo) (upd P h'.objs.size fo) := .alloc hf n2
    have hP' : Has (h'.push fo) (upd P h'.objs.size fo) := (hP.keeps hk).push rfl
    refine ⟨_, tk, _, rfl, hP', _, h'.objs.size, rfl, e₁.step (fun b hb => by subst hb; rw [t1]; exact fun z => (nomatch z)), ⟨ps, by rw [upd_ne (Ne.symm d2)]; exact t1, by rw [upd_ne (Ne.symm d2)]; exact t2, t3, .inr ⟨c', oc, cvs, t, k1, e₁.f _ _ k2, k3, k4⟩⟩, doc, _, c', ctv, oc, cvs, t, upd_self .., e₁.f _ _ k2, k3, k4⟩
theorem Sq.defNest (ok : GOk g) {c Pt : Addr} (NK : NestK g c Pt) {name qual : Str} {params : Arguments} {body : List Stmt} {scope : Scope} {pos : Pos} {r : List Stmt} (X₁ : Addr → XS fx) (hcd : fx.env.code = .ref c) (hd0 : params.defaults = []) (hk0 : params.kw_defaults = []) (han : annTrees params none fx.env = []) (hq : qualnameIn fx.env name name = qual)
    (S : ∀ n, (n, NameKind.free) ∈ scope.names → fx.env.kindOf n = some .cell ∨ fx.env.kindOf n = some .free) (hX : ∀ F P, X.p F P → TabO fx Pt pos qual F P) (hx : AdrOk fx.env (muts fx.env) name)
    (hX₁ : ∀ F P F' P' f, X.p F P → Step (fun b => b = Pt) F P F' P' → Tab Pt pos qual F' P' → FunN F' f name qual params body scope (freeIn fx.env scope.names []) → (X₁ f).p F' P')
    (k : ∀ f, Ex g A fx (X₁ f) X' (execs r fx.env) ((name, .raw (.ref f)) :: ρ) o) : Ex g A fx X X' (execs (.FunctionDef name params body [] none [] scope none name pos :: r) fx.env) ρ o := Ex.mk fun F P I V M x s hP => by
  refine wpAny_execs_cons (nestDef_K hd0 hk0 han ?_)
  rw [hq]
  have T := hX _ _ x
  refine (make_ok (A := A) ok NK (qual := qual) (params := params) (body := body) (pos := pos) hcd V.ok.g (closureFor_eq fun n hn => by obtain ⟨c, _, _, h, _⟩ := M.tot n (S n hn); rw [h]; rfl) V.base V.fp T.1).out hP fun h tk P₁ v hP₁ ⟨F₁, f, hv, s₁, T₁, fn⟩ => ?_
  subst hv
  obtain ⟨t₁, I₁, V₁⟩ := T.wok.go s₁ I V
  have x₁ := hX₁ _ _ _ _ f x s₁ T₁ fn
  refine (Ex.store (X := X₁ f) (d := .raw (.ref f)) I₁ V₁ V₁.m x₁ (by simp only [Rep]) hx).out hP₁ fun h tk P₂ _ hP₂ ⟨t₂, I₂, x₂, V₂, M₂⟩ => ?_
  exact ((k f).run F₁ P₂ I₂ V₂ M₂ x₂).out hP₂ fun h tk P₃ fl hP₃ ⟨F₃, t₃, I₃, x₃, q⟩ => ⟨_, _, P₃, rfl, hP₃, F₃, (t₁.trans t₂).trans t₃, I₃, x₃, q⟩
end
end TL
end
section
namespace TL
open PySem PySem.W PyProof.Rows PySem.Calls PyProof.Rows.LCg
theorem CallC.fnK {g : G} {a : Addr} {name qual : Str} {params : Arguments} {body : List Stmt} {scope : Scope} {dV kV : Value} {ns : List Str} {pos ds : List D} {kw : List (Str × D)} {n : Nat} {W : Addr → Prop} {Pre : PH → PH → Prop} {Post : PH → PH → Value → Prop} {d : D} {out : Out}
    (ok : GOk g) (fn : FunAt g a name qual params body scope dV kV) {c : Addr} (hcode : ∀ o fd, g.hb.get? a = some o → o.data = .func fd → fd.code = .ref c) (sc : FnSc scope ns) (hl : ds.length = ns.length)
    (hbind : ∀ doc pm an cdv ct, BindX g (fnX name qual params body scope [] dV kV doc pm an cdv ct) ns pos kw ds)
    (hPre : ∀ F P F' P', Pre F P → Ext F P F' P' → Pre F' P') (hW : ∀ F P, Pre F P → ∀ a, W a → P a ≠ none) (hW' : ∀ F P v, Post F P v → ∀ a, W a → F a = none) (hout : OutD out d)
    (h : ∀ (A : Around) (fx : Fx) (L : Addr) (cells : List (Str × Addr)), Cx A n → fx.env = envX qual scope L a (.ref c) cells → (∀ a, W a → fx.P₀ a = none ∧ ¬ muts fx.env a) → (∃ F P, Pre F P ∧ fx.P₀ = less W P) →
      ∃ X X' : XS fx, (∀ F P, Pre F P → X.p F P) ∧ (∀ F P v, X'.p F P → Rep F d v → Post F P v) ∧ Ex g A fx X X' (execs body fx.env) (ns.zip ds) out) : CallC g (.ref a) pos kw (n + 1) W Pre Post := fun A F P vs kvs cx hbs hf hr hkr pre s hP => by
  obtain ⟨o, doc, pm, an, cdv, ct, ho, hd, hc⟩ := fn.ex
  have hcv : cdv = .ref c := hcode o _ ho hd
  subst hcv
  have hk : ∀ b o, g.hb.get? b = some o → s.heap.get? b = some o := fun b o e => hP _ _ (hf _ _ (hbs _ _ e))
  refine codeAny_call_function (by have := cx.d; omega) (hk _ _ ho) hd sc.co sc.gen rfl (hc.keeps hk) ?_
  refine (hbind doc pm an (.ref c) ct A.in1 F P vs kvs hbs hf hr hkr).out hP fun h₀ tk₀ P₀ b hP₀ ⟨F₀, bs, hb, e₀, hr₀⟩ => ?_
  subst hb
  have hbs₀ := hbs.trans e₀.f
  refine enter_ok (hb := g.hb) hbs₀ e₀.fp hP₀ hr₀ hl sc.kind sc.nd sc.nn sc.nf sc.loc fun L h₁ tk₁ P₁ cells hP₁ e₁ hL hnew V => ⟨ok.nolimit.keeps fun b o e => hP₁ _ _ (e₁.fp _ _ (e₁.f _ _ (hbs₀ _ _ e))), codeAny_func ?_⟩
  have e₀₁ := e₀.trans e₁
  have new0 : ∀ b, muts (envX qual scope L a (.ref c) cells) b → P b = none := fun b hb => none_of e₀.p (hnew b hb)
  obtain ⟨X, X', hX, hX', B⟩ := h (A.deeper (envX qual scope L a (.ref c) cells)) ⟨envX qual scope L a (.ref c) cells, F, less W P, fun b hb => by
    by_cases w : W b
    · exact less_in w
    · rw [less_off w]; exact new0 b hb⟩ L cells cx.deeper rfl (fun b w => ⟨less_in w, fun m => hW _ _ pre b w (new0 b m)⟩) ⟨F, P, pre, rfl⟩
  have pre₁ := hPre _ _ _ _ pre e₀₁
  refine (B.run F₀ P₁ e₀₁.lessW V V.m (hX _ _ pre₁)).out hP₁ fun h₂ tk₂ P₂ f hP₂ ⟨F₂, t₂, I₂, x₂, q⟩ => ?_
  have fin : ∃ v, Rep F₂ d v ∧ (f = .ret v ∨ (f = .next ∧ v = Value.none)) := by
    cases out with
    | ret d' =>
      obtain ⟨v, hf', r⟩ := q
      subst hf'
      have z : d' = d := hout
      subst z
      exact ⟨v, r, .inl rfl⟩
    | next ρ =>
      obtain ⟨hf', _⟩ := q
      subst hf'
      have z : d = .none := hout
      subst z
      exact ⟨.none, by simp only [Rep], .inr ⟨rfl, rfl⟩⟩
    | brk ρ => exact hout.elim
    | any Q => exact hout.elim
  obtain ⟨v, r, hv⟩ := fin
  have post := hX' _ _ v x₂ r
  rcases hv with rfl | ⟨rfl, rfl⟩
  · exact ⟨_, _, _, P₂, F₂, rfl, rfl, hP₂, I₂.unless (hW' _ _ _ post), post⟩
  · exact ⟨_, _, _, P₂, F₂, rfl, rfl, hP₂, I₂.unless (hW' _ _ _ post), post⟩
theorem freeIn_look {env : Env} {scope : Scope} {x : Str} {c : Addr} (h : (freeIn env scope.names []).lookup x = some c) : (x, NameKind.free) ∈ scope.names ∧ c = (env.cells.lookup x).getD 0 := by
  rcases freeIn_mem (PySem.mem_of_lookup h) with q | q
  · cases q
  · exact q
theorem freeIn_look' {env : Env} {scope : Scope} {x : Str} {c : Addr} (hx : (x, NameKind.free) ∈ scope.names) (hc : env.cells.lookup x = some c) : (freeIn env scope.names []).lookup x = some c := by
  obtain ⟨c', h⟩ := lookup_some (freeIn_has (env := env) (acc := []) hx)
  obtain ⟨_, e⟩ := freeIn_look h
  rw [h, e, hc]; rfl
section
variable {g : G} {A : Around} {env : Env} {ρ : List (Str × D)} {X : XP}
theorem EvX.callC {fn e : Expr} {args : List Expr} {pos : Pos} {f : Addr} {ds : List D} {n : Nat} {W : Addr → Prop} {Pre : PH → PH → Prop} {Post Post' : PH → PH → Value → Prop} (scope : Scope) (φ : List (Str × D)) (cx : Cx A n) (hf : Ev g A env ρ X fn (.raw (.ref f))) (hk : ∀ F P, X.p F P → ∃ oc od fd sl, F f = some ⟨oc, od, .func fd, sl⟩) (ha : EvL g A env ρ X pos (e :: args) ds)
    (hφ : ∀ x d, φ.lookup x = some d → ρ.lookup x = some d ∧ env.kindOf x = some .cell ∧ scope.names.lookup x = some .free) (hfree : ∀ x, (x, NameKind.free) ∈ scope.names → ∃ d, φ.lookup x = some d)
    (hc : CallX g (.ref f) ds [] n W Pre Post) (hX : ∀ F P F', X.p F P → Sub F F' → (∀ a, F' a ≠ none → F a ≠ none ∨ muts env a) → CloF F' scope (freeIn env scope.names []) φ → Pre F' P)
    (hW : ∀ F P, X.p F P → ∀ a, W a → P a ≠ none) (hPost : ∀ F' F'' P v, Post F' P v → (∀ a, F'' a = F' a ∨ (F'' a = none ∧ muts env a)) → Post' F'' P v)
    (he : eval (.Call fn (e :: args) [] pos) env = (eval fn env >>= fun f => callWith pos f [] (backTo pos (starEach (e :: args) env)) []) := by rfl)
    (hst : starEach (e :: args) env = (false, eval e env) :: starEach args env := by rfl) (hst' : (backTo pos (starEach args env)).any (·.1) = false := by rfl) : EvX g A env ρ X W (.Call fn (e :: args) [] pos) Post' := EvX.mk fun F P V x s hs => by
  rw [he]
  refine wpAny_bind ((hf.run F P V x).out hs fun h₁ tk₁ P₁ v hP₁ ⟨F₁, e₁, r₁⟩ => ?_)
  simp only [Rep] at r₁
  subst r₁
  have V₁ := V.ext e₁
  have x₁ := X.st _ _ _ _ x e₁
  have key := ha.run F₁ P₁ V₁ x₁
  obtain ⟨oc, od, fd, sl, hfo⟩ := hk _ _ x₁
  refine callWith_F (s := { s with heap := h₁, toks := tk₁ }) ⟨oc, od, fd, sl, hP₁ _ _ (e₁.fp _ _ hfo)⟩ ?_ hst hst'
  refine key.out hP₁ fun h₂ tk₂ P₂ vs hP₂ ⟨F₂, e₂, r₂⟩ => ?_
  have V₂ := V₁.ext e₂
  have x₂ := X.st _ _ _ _ x₁ e₂
  refine ⟨⟨oc, od, fd, sl, hP₂ _ _ (e₂.fp _ _ (e₂.f _ _ hfo))⟩, ?_⟩
  let S : Addr → Prop := fun b => ∃ x d, φ.lookup x = some d ∧ env.cells.lookup x = some b
  have Sm : ∀ {b}, S b → F₂ b = none ∧ muts env b := fun {b} ⟨y, d, h1, h2⟩ => ⟨V₂.m.off y b h2 (hφ y d h1).2.1, .inr ⟨y, (hφ y d h1).2.1, h2⟩⟩
  have sub : Sub F₂ (frz S F₂ P₂) := fun b o q => by
    by_cases h : S b
    · rw [(Sm h).1] at q; cases q
    · rw [frz_off h]; exact q
  have sub' : Sub (frz S F₂ P₂) P₂ := fun b o q => by
    by_cases h : S b
    · rw [frz_in h] at q; exact q
    · rw [frz_off h] at q; exact V₂.fp _ _ q
  have at' : ∀ y d, φ.lookup y = some d → ∃ c v o, env.cells.lookup y = some c ∧ frz S F₂ P₂ c = some o ∧ o.data = .cell (some v) ∧ Rep (frz S F₂ P₂) d v := fun y d hy => by
    obtain ⟨c, v, o, h1, h2, h3, h4⟩ := V₂.cel y d (hφ y d hy).1 (.inl (hφ y d hy).2.1)
    exact ⟨c, v, o, h1, (frz_in ⟨y, d, hy, h1⟩).trans h2, h3, h4.sub sub⟩
  have C : CloF (frz S F₂ P₂) scope (freeIn env scope.names []) φ := by
    refine ⟨fun y hy => ?_, fun y d hy => (hφ y d hy).2.2, fun y z c hy hz => ?_, fun y c hy => ?_⟩
    · obtain ⟨d, hd⟩ := hfree y (mem_lookup hy)
      obtain ⟨c, v, o, h1, h2, h3, h4⟩ := at' y d hd
      exact ⟨c, v, o, freeIn_look' (mem_lookup hy) h1, h2, h3, fun d' hd' => by rw [hd] at hd'; cases hd'; exact h4⟩
    · obtain ⟨hy1, hy2⟩ := freeIn_look hy
      obtain ⟨hz1, hz2⟩ := freeIn_look hz
      obtain ⟨d, hd⟩ := hfree y hy1
      obtain ⟨d', hd'⟩ := hfree z hz1
      obtain ⟨c1, _, _, k1, _⟩ := at' y d hd
      obtain ⟨c2, _, _, k2, _⟩ := at' z d' hd'
      rw [k1] at hy2; rw [k2] at hz2
      exact V₂.m.inj y z c (by rw [k1, hy2]; rfl) (by rw [k2, hz2]; rfl)
    · obtain ⟨hy1, hy2⟩ := freeIn_look hy
      obtain ⟨d, hd⟩ := hfree y hy1
      obtain ⟨c1, _, o, k1, k2, _⟩ := at' y d hd
      rw [k1] at hy2
      have hy3 : c = c1 := hy2
      rw [hy3, k2]; exact fun z => nomatch z
  refine (hc A (frz S F₂ P₂) P₂ vs [] cx (V₂.base.trans sub) sub' (r₂.sub sub) .nil (hX F₂ P₂ _ x₂ sub (fun a q => ?_) C)).out hP₂ fun h₃ tk₃ P₃ v hP₃ ⟨F₃, s₃, post⟩ => ?_
  · by_cases h : S a
    · exact .inr (Sm h).2
    · rw [frz_off h] at q; exact .inl q
  · have cl := Classical.propDecidable
    let F₄ : PH := fun b => if S b then none else F₃ b
    have in4 : ∀ {b}, S b → F₄ b = none := fun {b} h => if_pos h
    have off4 : ∀ {b}, ¬ S b → F₄ b = F₃ b := fun {b} h => if_neg h
    have fS : ∀ {b o}, F₂ b = some o → ¬ S b := fun {b o} q h => by rw [(Sm h).1] at q; cases q
    have st : Step W F₂ P₂ F₄ P₃ := by
      refine ⟨fun b o q => ?_, s₃.p, fun b o q => ?_, fun b q => ?_⟩
      · rw [off4 (fS q)]; exact s₃.f _ _ (sub _ _ q)
      · by_cases h : S b
        · rw [in4 h] at q; cases q
        · rw [off4 h] at q; exact s₃.fp _ _ q
      · by_cases h : S b
        · rw [in4 h] at q; exact absurd rfl q
        · rw [off4 h] at q
          rcases s₃.new b q with z | z
          · rw [frz_off h] at z; exact .inl z
          · exact .inr z
    refine ⟨_, _, P₃, rfl, hP₃, F₄, ((e₁.trans e₂).step (hW _ _ x)).trans st, hPost _ _ _ _ post fun a => ?_⟩
    by_cases h : S a
    · exact .inr ⟨in4 h, (Sm h).2⟩
    · exact .inl (off4 h)
end
end TL
end
section
namespace TL
open PySem PySem.W PyProof.Rows PySem.Calls PyProof.Rows.LCg
theorem low_bits (x s : Nat) : x ||| (x / 2 ^ s * 2 ^ s) = x ∧ x &&& (x / 2 ^ s * 2 ^ s) = x / 2 ^ s * 2 ^ s := by
  have t : ∀ i, (x / 2 ^ s * 2 ^ s).testBit i = (decide (s ≤ i) && x.testBit i) := fun i => by
    rw [Nat.testBit_mul_two_pow, Nat.testBit_div_two_pow]
    by_cases h : s ≤ i
    · simp [h, Nat.sub_add_cancel h]
    · simp [h]
  constructor
  · apply Nat.eq_of_testBit_eq
    intro i
    rw [Nat.testBit_or, t]
    cases x.testBit i <;> simp
  · apply Nat.eq_of_testBit_eq
    intro i
    rw [Nat.testBit_and, t]
    cases x.testBit i <;> simp
theorem xor_low (x s : Nat) : PySem.Builtin.bitXor (x : Int) ((x / 2 ^ s * 2 ^ s : Nat) : Int) = ((x % 2 ^ s : Nat) : Int) := by
  obtain ⟨h1, h2⟩ := low_bits x s
  have a1 : ∀ a b : Nat, PySem.Builtin.bitAnd (a : Int) (b : Int) = ((a &&& b : Nat) : Int) := fun a b => by
    unfold PySem.Builtin.bitAnd
    have q1 : decide ((0 : Int) ≤ (a : Int)) = true := decide_eq_true (by omega)
    have q2 : decide ((0 : Int) ≤ (b : Int)) = true := decide_eq_true (by omega)
    rw [q1, q2]
    simp
  have a2 : ∀ a b : Nat, PySem.Builtin.bitOr (a : Int) (b : Int) = ((a ||| b : Nat) : Int) := fun a b => by
    unfold PySem.Builtin.bitOr PySem.Builtin.bitAnd PySem.Builtin.bitNot
    have q1 : decide ((0 : Int) ≤ -(a : Int) - 1) = false := decide_eq_false (by omega)
    have q2 : decide ((0 : Int) ≤ -(b : Int) - 1) = false := decide_eq_false (by omega)
    rw [q1, q2]
    have e1 : (-(-(a : Int) - 1) - 1).toNat = a := by omega
    have e2 : (-(-(b : Int) - 1) - 1).toNat = b := by omega
    dsimp only
    rw [e1, e2]
    omega
  unfold PySem.Builtin.bitXor
  rw [a1, a2, h1, h2]
  have := Nat.div_add_mod x (2 ^ s)
  rw [Nat.mul_comm] at this
  omega
section
variable {g : G} {A : Around} {env : Env} {ρ : List (Str × D)} {X : XP}
theorem op_shlN {a n : Nat} (ha : a < 2 ^ 64) (hn : n ≤ 2 ^ 20) : Op2 g A (binaryOp .LShift) (intD a) (intD n) (intD (a * 2 ^ n)) := fun F v₁ v₂ s Q E hs r1 r2 k => by
  simp only [Rep, intD] at r1 r2
  obtain ⟨t, rfl⟩ := r1
  obtain ⟨u, rfl⟩ := r2
  have hb := intBits_le_64 (k := (a : Int)) (by omega) (by omega)
  refine lshift_int (by omega) (by omega) ?_
  rw [Int.toNat_natCast]
  exact k _ _ (by simp only [Rep, intD]; exact ⟨_, by push_cast; rfl⟩)
theorem op_shrN {a n : Nat} : Op2 g A (binaryOp .RShift) (intD a) (intD n) (intD (a / 2 ^ n)) := fun F v₁ v₂ s Q E hs r1 r2 k => by
  simp only [Rep, intD] at r1 r2
  obtain ⟨t, rfl⟩ := r1
  obtain ⟨u, rfl⟩ := r2
  refine rshift_int (by omega) ?_
  have e : (2 : Int) ^ n = ((2 ^ n : Nat) : Int) := by push_cast; rfl
  rw [Int.toNat_natCast, e, Int.fdiv_eq_ediv_of_nonneg _ (Int.natCast_nonneg _)]
  exact k _ _ (by simp only [Rep, intD]; exact ⟨_, by push_cast; rfl⟩)
theorem op_xorL {x n : Nat} : Op2 g A (binaryOp .BitXor) (intD x) (intD (x / 2 ^ n * 2 ^ n)) (intD (x % 2 ^ n)) := fun F v₁ v₂ s Q E hs r1 r2 k => by
  simp only [Rep, intD] at r1 r2
  obtain ⟨t, rfl⟩ := r1
  obtain ⟨u, rfl⟩ := r2
  refine xor_int ?_
  rw [xor_low]
  exact k _ _ (by simp only [Rep, intD]; exact ⟨_, rfl⟩)
noncomputable def bl (a : Nat) : Nat := if a = 0 then 0 else a.log2 + 1
theorem bl_ok {a n : Nat} : CallOk g (.builtin "int.bit_length") [intD a] (intD (bl a)) n := fun A F P vs cx hb hf hr s hP => by
  obtain ⟨v, rfl, r⟩ := RepL.one hr
  simp only [Rep, intD] at r
  obtain ⟨t, rfl⟩ := r
  refine call_int_bit_length ?_
  have e : PySem.Builtin.Int.intBits (a : Int) = bl a := by
    unfold PySem.Builtin.Int.intBits bl
    by_cases h : a = 0
    · subst h; rfl
    · have : ((a : Int) == 0) = false := by simpa using h
      rw [this, if_neg h]; rfl
  rw [e]
  exact ⟨_, _, P, rfl, hP, F, .refl hf, by simp only [Rep, intD]; exact ⟨_, rfl⟩⟩
theorem gm_int {a : Nat} {name : Str} {id : String} (h : ∀ (A : Around) (pl : Sem Bool) (i : Int) (t : Tok) (s : Shared) (Q : Value × List Value → Shared → Prop) (E : Value → Shared → Prop), Q (.builtin id, [.int i t]) s → wpAny (model g.prog g.w) A (getMethod (.int i t) name pl) Q E s) : GetM g X (intD a) name (.builtin id) :=
  fun A pl F P ov s Q E hb hf xx r hP q => by
  simp only [Rep, intD] at r
  obtain ⟨t, rfl⟩ := r
  exact h A pl _ t s Q E (q s.toks)
theorem bl_lt (a : Nat) : a < 2 ^ bl a := by
  unfold bl
  by_cases h : a = 0
  · subst h; decide
  · rw [if_neg h]; exact Nat.lt_log2_self
theorem bl_le {a k : Nat} (h : a < 2 ^ k) : bl a ≤ k := by
  unfold bl
  by_cases q : a = 0
  · rw [if_pos q]; omega
  · rw [if_neg q]
    exact (Nat.log2_lt q).mpr h
theorem bl_pos {a : Nat} (h : a ≠ 0) : 1 ≤ bl a := by
  unfold bl
  rw [if_neg h]; omega
theorem Itb.rev (hh : A.handled = none) {ds : List D} {target : Expr} {n : Nat} {fn e : Expr} {pos : Pos} (cx : Cx A n) (hf : Ev g A env ρ X fn (.raw (.type "reversed"))) (ha : Ev g A env ρ X e (.lst ds))
    (he : eval (.Call fn [e] [] pos) env = (eval fn env >>= fun f => callWith pos f [] (backTo pos (starEach [e] env)) []) := by rfl)
    (hst : starEach [e] env = (false, eval e env) :: starEach [] env := by rfl) : EvI g A env ρ X (.Call fn [e] [] pos) ds.reverse target := EvI.mk fun F P V x s hs => by
  rw [he]
  refine wpAny_bind ((hf.run F P V x).out hs fun h₁ tk₁ P₁ v hP₁ ⟨F₁, e₁, r₁⟩ => ?_)
  simp only [Rep] at r₁
  subst r₁
  have V₁ := V.ext e₁
  have x₁ := X.st _ _ _ _ x e₁
  have key := (EvL.cons ha EvL.nil hst (pos := pos)).run F₁ P₁ V₁ x₁
  rw [hst] at key ⊢
  refine callWith_of (P := fun h => ∀ b o, g.hb.get? b = some o → h.get? b = some o) rfl Keep.type (evalArgs_plain ?_)
  refine key.out hP₁ fun h₂ tk₂ P₂ vs hP₂ ⟨F₂, e₂, r₂⟩ => ?_
  have V₂ := V₁.ext e₂
  refine ⟨fun b o e => hP₂ _ _ (V₂.fp _ _ (V₂.base _ _ e)), ?_⟩
  obtain ⟨v, rfl, r⟩ := RepL.one r₂
  simp only [Rep] at r
  obtain ⟨a, o, vs, k, rfl, hF, hc, hd, hl⟩ := r
  have hI : Heap.IsList h₂ a vs := ⟨o, hP₂ _ _ (V₂.fp _ _ hF), hc.1, k, hd⟩
  have fr := hP₂.fresh
  have hne : a ≠ h₂.objs.size := Nat.ne_of_lt (Heap.lt_size (hP₂ _ _ (V₂.fp _ _ hF)))
  have hsz : vs.size = ds.length := by have := hl.length; simpa using this
  refine PySem.call_reversed_list (s := { s with heap := h₂, toks := tk₂ }) hI ?_
  have e₃ : Ext F₂ P₂ F₂ (upd P₂ h₂.objs.size (revObj a ((vs.size : Int) - 1))) := .own V₂.fp fr
  have it0 : (h₂.push (revObj a ((vs.size : Int) - 1))).IsRevIter h₂.objs.size a ((vs.size : Int) - 1) := ⟨_, Heap.get?_push_size _ rfl, rfl, rfl⟩
  refine wpAny_pyIter_revIter (s := { s with heap := h₂.push (revObj a ((vs.size : Int) - 1)), toks := tk₂ }) it0 ?_
  refine ⟨_, _, F₂, _, (fun b => b = h₂.objs.size), _, rfl, hP₂.push rfl, (e₁.trans e₂).trans e₃, Iter.ofWalks (F₀ := F₂) (Walks.listRev hh h₂.objs.size a hne vs) (by rw [hsz]; simp) (fun i h st => ?_) (fun i v F' d hs hp hd' => ?_), ⟨Nat.zero_le _, .refl _, none_of V₂.fp fr, ⟨_, upd_self .., rfl, _, _, rfl, rfl, rfl⟩, fun b hb => ?_, h₂.push (revObj a ((vs.size : Int) - 1)), ⟨Nat.zero_le _, by simpa using it0, hI.push _⟩, fun b hb o' e => ?_⟩, fun b hb => by rw [hb]; exact none_of (e₁.trans e₂).p fr⟩
  · obtain ⟨_, ⟨o', e1, e2, e3⟩, _⟩ := st
    exact ⟨o', e1, cls_iter e2 e3 (by decide) (by decide)⟩
  · obtain ⟨hi, hd''⟩ := List.getElem?_eq_some_iff.mp hd'
    rw [List.length_reverse] at hi
    have hr : ds[ds.length - 1 - i]? = some d := by rw [← List.getElem?_reverse hi]; exact hd'
    obtain ⟨d', q, r⟩ := hl.get' (i := vs.size - 1 - i) (v := v) (by simpa using hp)
    rw [hsz, hr] at q; cases q; exact r.sub hs
  · rcases List.mem_cons.mp hb with rfl | hb
    · exact .inl rfl
    · rw [List.mem_singleton.mp hb]; exact .inr ⟨o, hF⟩
  · rcases List.mem_cons.mp hb with rfl | hb
    · rw [Heap.get?_push_size _ rfl] at e; cases e; exact .inl ⟨rfl, upd_self ..⟩
    · rw [List.mem_singleton.mp hb] at e ⊢
      rw [Heap.get?_push_of_some _ (hP₂ _ _ (V₂.fp _ _ hF))] at e; cases e; exact .inr hF
theorem reverse_ok {a : Addr} {ds : List D} {n : Nat} (hl : ds.length ≤ 4096) : CallX g (.builtin "list.reverse") [.raw (.ref a)] [] n (fun b => b = a) (OwnP a ds) (fun F P v => OwnP a ds.reverse F P ∧ v = .none) := fun A F P vs kvs cx hb hf hr hk pre s hP => by
  simp only [List.map_nil, RepL] at hk
  subst hk
  obtain ⟨v, rfl, r1⟩ := RepL.one hr
  simp only [Rep] at r1
  subst r1
  obtain ⟨xs, k, h1, h2, h3⟩ := pre
  have hlen := h2.length
  have ho := hP _ _ h1
  refine call_meets PySem.F.slot_list_reverse ⟨_, ho, rfl⟩ PySem.F.entry_list_reverse (PySem.F.args_list_reverse_1 _) (PySem.AutoListH.list_reverse_list_0 a xs.toArray k (by rw [List.size_toArray, hlen]; exact Nat.le_trans hl (by decide))) ⟨ho, ?_⟩
  have hget : (s.heap.update a (Obj.mapSeq fun x => x.reverse)).get? a = some (lstN xs.reverse k) := by
    rw [Heap.get?_update_self _ ho rfl]
    simp [Obj.mapSeq, lstN]
  refine ⟨_, _, _, rfl, hP.same (Heap.SameBut.update ..) hget, F, .upd hf h3 rfl, ⟨_, _, upd_self .., ?_, h3⟩, rfl⟩
  refine repL_of (by simp [hlen]) fun i d v hd hv => ?_
  obtain ⟨hi, _⟩ := List.getElem?_eq_some_iff.mp hd
  rw [List.length_reverse] at hi
  rw [List.getElem?_reverse hi] at hd
  rw [List.getElem?_reverse (by omega)] at hv
  rw [hlen] at hv
  obtain ⟨v', e, r⟩ := h2.get hd
  rw [e] at hv; cases hv; exact r
end
end TL
end
section
namespace TL
noncomputable def digs (n : Nat) : Nat → Nat → List Nat
  | 0, _ => []
  | k + 1, x => (x % 2 ^ n) :: digs n k (x / 2 ^ n)
noncomputable def valD (n : Nat) : List Nat → Nat
  | [] => 0
  | d :: r => d + 2 ^ n * valD n r
theorem digs_len (n : Nat) : ∀ k x, (digs n k x).length = k
  | 0, _ => rfl
  | k + 1, x => by rw [digs, List.length_cons, digs_len n k]
theorem digs_add (n : Nat) : ∀ a b x, digs n (a + b) x = digs n a x ++ digs n b (x / 2 ^ (n * a))
  | 0, b, x => by simp [digs]
  | a + 1, b, x => by
    have e : a + 1 + b = (a + b) + 1 := by omega
    rw [e, digs, digs, digs_add n a b, List.cons_append, Nat.div_div_eq_div_mul, ← Nat.pow_add]
    congr 4
    rw [Nat.mul_add, Nat.mul_one, Nat.add_comm]
theorem digs_mod (n : Nat) : ∀ a x, digs n a (x % 2 ^ (n * a)) = digs n a x
  | 0, _ => rfl
  | a + 1, x => by
    have e : 2 ^ (n * (a + 1)) = 2 ^ n * 2 ^ (n * a) := by rw [Nat.mul_add, Nat.mul_one, Nat.pow_add, Nat.mul_comm]
    rw [digs, digs, e, Nat.mod_mul_right_mod, Nat.mod_mul_right_div_self, digs_mod n a]
theorem valD_digs (n : Nat) : ∀ k x, x < 2 ^ (n * k) → valD n (digs n k x) = x
  | 0, x, h => by simp at h; subst h; rfl
  | k + 1, x, h => by
    have e : 2 ^ (n * (k + 1)) = 2 ^ n * 2 ^ (n * k) := by rw [Nat.mul_add, Nat.mul_one, Nat.pow_add, Nat.mul_comm]
    have h' : x / 2 ^ n < 2 ^ (n * k) := by
      rw [e] at h
      exact Nat.div_lt_of_lt_mul h
    rw [digs, valD, valD_digs n k _ h', Nat.mod_add_div]
theorem valD_append (n : Nat) : ∀ a b, valD n (a ++ b) = valD n a + 2 ^ (n * a.length) * valD n b
  | [], b => by simp [valD]
  | d :: r, b => by
    rw [List.cons_append, valD, valD, valD_append n r b, List.length_cons, Nat.mul_add, Nat.add_assoc]
    congr 2
    rw [Nat.mul_add n, Nat.mul_one, Nat.pow_add, Nat.mul_comm (2 ^ (n * r.length)) (valD n b), Nat.mul_comm (2 ^ (n * r.length)) (2 ^ n), Nat.mul_assoc, Nat.mul_comm (valD n b)]
theorem valD_take_le (n : Nat) : ∀ (l : List Nat) (k : Nat), valD n (l.take k) ≤ valD n l
  | [], k => by simp
  | d :: r, 0 => by simp [valD]
  | d :: r, k + 1 => by
    rw [List.take_succ_cons, valD, valD]
    exact Nat.add_le_add_left (Nat.mul_le_mul_left _ (valD_take_le n r k)) _
theorem valD_drop_le (n : Nat) : ∀ (l : List Nat) (k : Nat), valD n (l.drop k) ≤ valD n l
  | [], k => by simp
  | d :: r, 0 => by simp
  | d :: r, k + 1 => by
    rw [List.drop_succ_cons, valD]
    refine Nat.le_trans (valD_drop_le n r k) (Nat.le_trans ?_ (Nat.le_add_left _ _))
    exact Nat.le_mul_of_pos_left _ (Nat.pow_pos (by decide))
theorem valD_sub_le (n : Nat) (l : List Nat) (L k : Nat) : valD n ((l.drop L).take k) ≤ valD n l := Nat.le_trans (valD_take_le n _ k) (valD_drop_le n l L)
theorem valD_split (n : Nat) (l : List Nat) {L M R : Nat} (h1 : L ≤ M) (h2 : M ≤ R) (h3 : R ≤ l.length) : valD n ((l.drop L).take (R - L)) = valD n ((l.drop M).take (R - M)) * 2 ^ ((M - L) * n) + valD n ((l.drop L).take (M - L)) := by
  have e : (l.drop L).take (R - L) = (l.drop L).take (M - L) ++ (l.drop M).take (R - M) := by
    have e1 : R - L = (M - L) + (R - M) := by omega
    have e2 : L + (M - L) = M := by omega
    rw [e1, List.take_add, List.drop_drop, e2]
  rw [e, valD_append, Nat.add_comm, Nat.mul_comm]
  congr 2
  rw [List.length_take, List.length_drop, Nat.min_eq_left (by omega), Nat.mul_comm]
noncomputable def ldiv (n b : Nat) : List Nat → List Nat × Nat
  | [] => ([], 0)
  | d :: r => let s := ldiv n b r; ((s.2 * 2 ^ n + d) / b :: s.1, (s.2 * 2 ^ n + d) % b)
theorem ldiv_ok (n b : Nat) (hb : 0 < b) : ∀ l, valD n (ldiv n b l).1 * b + (ldiv n b l).2 = valD n l ∧ (ldiv n b l).2 < b ∧ (ldiv n b l).1.length = l.length
  | [] => ⟨by simp [ldiv, valD], hb, rfl⟩
  | d :: r => by
    obtain ⟨h1, h2, h3⟩ := ldiv_ok n b hb r
    refine ⟨?_, Nat.mod_lt _ hb, by simp [ldiv, h3]⟩
    have e := Nat.div_add_mod ((ldiv n b r).2 * 2 ^ n + d) b
    simp only [ldiv, valD]
    rw [← h1, Nat.add_mul, Nat.mul_add (2 ^ n)]
    have e2 : 2 ^ n * valD n (ldiv n b r).1 * b = 2 ^ n * (valD n (ldiv n b r).1 * b) := Nat.mul_assoc ..
    have e3 : 2 ^ n * (ldiv n b r).2 = (ldiv n b r).2 * 2 ^ n := Nat.mul_comm ..
    have e4 : b * (((ldiv n b r).2 * 2 ^ n + d) / b) = ((ldiv n b r).2 * 2 ^ n + d) / b * b := Nat.mul_comm ..
    omega
theorem ldiv_div (n b a k : Nat) (hb : 0 < b) (h : a < 2 ^ (n * k)) : valD n (ldiv n b (digs n k a)).1 = a / b ∧ (ldiv n b (digs n k a)).2 = a % b := by
  obtain ⟨h1, h2, _⟩ := ldiv_ok n b hb (digs n k a)
  rw [valD_digs n k a h] at h1
  have e : a / b = valD n (ldiv n b (digs n k a)).1 ∧ a % b = (ldiv n b (digs n k a)).2 := by
    constructor
    · conv => lhs; rw [← h1]
      rw [Nat.add_comm, Nat.add_mul_div_right _ _ hb, Nat.div_eq_of_lt h2, Nat.zero_add]
    · conv => lhs; rw [← h1]
      rw [Nat.add_comm, Nat.add_mul_mod_self_right, Nat.mod_eq_of_lt h2]
  exact ⟨e.1.symm, e.2.symm⟩
end TL
end
section
namespace TL
open PySem PySem.W PyProof.Rows PySem.Calls PyProof.Rows.LCg
local macro_rules | `(tactic| walk_at "lits") => `(tactic| (repeat' (first | exact List.forall_mem_nil _ | refine List.forall_mem_cons.mpr ⟨⟨rfl, rfl⟩, ?_⟩ | refine List.forall_mem_cons.mpr ⟨rfl, ?_⟩)))
noncomputable def innerOf (i : Nat) : Stmt := ((bodyOf (topStmt i)).find? fun | .FunctionDef .. => true | _ => false).getD (.Pass default)
noncomputable def XS.clo {fx : Fx} (f : Addr) (name qual : Str) (params : Arguments) (body : List Stmt) (scope : Scope) (clos : List (Str × Addr)) (φ : List (Str × D)) : XS fx :=
  ⟨⟨fun F _ => FunN F f name qual params body scope clos ∧ CloF F scope clos φ, fun _ _ _ _ h e => ⟨h.1.sub e.f, h.2.sub e.f⟩⟩, fun _ _ _ _ _ h s _ => ⟨h.1.sub s.f, h.2.sub s.f⟩⟩
noncomputable def XS.inn {fx : Fx} (i : Nat) (f : Addr) (qual : Str) (clos : List (Str × Addr)) (φ : List (Str × D)) : XS fx := XS.clo f (nameOf (innerOf i)) qual (paramsOf (innerOf i)) (bodyOf (innerOf i)) (scopeOf (innerOf i)) clos φ
theorem FunN.keep {F : PH} {f : Addr} {name qual : Str} {params : Arguments} {body : List Stmt} {scope : Scope} {clos : List (Str × Addr)} (h : FunN F f name qual params body scope clos) : ∃ oc od fd sl, F f = some ⟨oc, od, .func fd, sl⟩ := by
  obtain ⟨doc, pm, c', ct, oc, vs, t, h1, _⟩ := h
  exact ⟨_, _, _, _, h1⟩
noncomputable abbrev qD : Str := "_digits2int.<locals>.inner"
noncomputable def phiD (f : Addr) (ds : List Nat) (n : Nat) : List (Str × D) := [("digits", natsD ds), ("n", intD n), ("inner", .raw (.ref f))]
theorem dinner_ok {g : G} (ok : GOk g) {f : Addr} {clos : List (Str × Addr)} (ds : List Nat) (n : Nat) (hl : ds.length ≤ 4096) (hn : n ≤ 64) (hb : valD n ds < 2 ^ 60) :
    ∀ m, ∀ L R, L < R → R ≤ ds.length → R - L ≤ m → CallC g (.ref f) [intD L, intD R] [] (m + 1) NoW (fun F P => FunN F f (nameOf (innerOf 9)) qD (paramsOf (innerOf 9)) (bodyOf (innerOf 9)) (scopeOf (innerOf 9)) clos ∧ CloF F (scopeOf (innerOf 9)) clos (phiD f ds n)) (fun F P v => Rep F (intD (valD n ((ds.drop L).take (R - L)))) v)
  | 0, L, R, h1, h2, h3 => by omega
  | m + 1, L, R, h1, h2, h3 => by
    refine CallC.clo (ns := ["L", "R"]) (ds := [intD L, intD R]) (d := intD (valD n ((ds.drop L).take (R - L)))) (out := .ret (intD (valD n ((ds.drop L).take (R - L))))) (phiD f ds n) ok (scN_ok (by decide +kernel)) rfl (fun doc pm cdv ct A F P vs kvs hb hf hr hk s hP => ?_) (fun F P h => h) (fun F P F' P' h e => ⟨h.1.sub e.f, h.2.sub e.f⟩) (fun _ _ _ _ h => h.elim) (fun _ _ _ _ _ h => h.elim) rfl fun A fx Lo cd cx he _ => ⟨XS.inn 9 f qD clos (phiD f ds n), XS.inn 9 f qD clos (phiD f ds n), fun F P h => h, fun F P v _ r => r, ?_⟩
    · obtain ⟨v, w, rfl, r1, r2⟩ := RepL.two hr
      simp only [List.map_nil, RepL] at hk
      subst hk
      exact wpAny_pure ⟨_, s.toks, P, rfl, hP, F, [v, w], rfl, .refl hf, .cons r1 (.cons r2 .nil)⟩
    · obtain ⟨env, F₀, P₀, nm⟩ := fx
      dsimp only at he
      subst he
      by_cases hR : R = L + 1
      · subst hR
        refine Sq.ifR (EvB.conv (EvB.cmp (Ev.bin (Ev.loc rfl rfl rfl) Ev.int op_add) (Ev.loc rfl rfl rfl) cmp_eq) (by simp)) (Sq.ret ?_)
        have e : valD n ((ds.drop L).take (L + 1 - L)) = ds.getD L 0 := by
          have e1 : L + 1 - L = 1 := by omega
          rw [e1, List.drop_eq_getElem_cons h2, List.take_succ_cons, List.take_zero, valD, valD, Nat.mul_zero, Nat.add_zero, List.getD_eq_getElem?_getD, List.getElem?_eq_getElem (show L < ds.length from h2)]
          rfl
        rw [e]
        refine Ev.subN (Ev.free rfl rfl rfl rfl) (Ev.loc rfl rfl rfl) ?_ (by omega)
        rw [List.getElem?_map, List.getD_eq_getElem?_getD, List.getElem?_eq_getElem (show L < ds.length from h2)]; rfl
      · refine Sq.iff (EvB.conv (EvB.cmp (Ev.bin (Ev.loc rfl rfl rfl) Ev.int op_add) (Ev.loc rfl rfl rfl) cmp_eq) (by simp; omega)) ?_
        refine Sq.assign (intD ((L + R) / 2 ^ 1)) (Ev.bin (Ev.bin (Ev.loc rfl rfl rfl) (Ev.loc rfl rfl rfl) op_add) (Ev.int (i := 1)) (op_shrN (n := 1))) (AdrOk.loc rfl) rfl ?_
        generalize hM : (L + R) / 2 ^ 1 = M
        have m1 : L < M := by omega
        have m2 : M < R := by omega
        refine Sq.assign (intD ((M - L) * n)) (Ev.conv (Ev.bin (Ev.bin (Ev.loc rfl rfl rfl) (Ev.loc rfl rfl rfl) op_sub) (Ev.free rfl rfl rfl rfl) (op_mul (by omega) (by omega))) ?_) (AdrOk.loc rfl) rfl ?_
        · have : (((M - L : Nat) : Nat) : Int) = (M : Int) - (L : Int) := by omega
          rw [intD]; push_cast; rw [this]
        have lt1 := valD_sub_le n ds M (R - M)
        refine Sq.ret (Ev.conv (Ev.bin (Ev.bin (Ev.ofX (EvX.callN (n := m + 1) cx (Ev.free rfl rfl rfl rfl) (fun F P y => y.1.keep) (EvL.cons (Ev.loc rfl rfl rfl) (EvL.cons (Ev.loc rfl rfl rfl) EvL.nil)) (CallC.toX (dinner_ok ok ds n hl hn hb m M R m2 h2 (by omega))) (fun F P y => y) (fun _ _ _ _ h => h.elim))) (Ev.loc rfl rfl rfl) (op_shlN (by omega) ?_)) (Ev.ofX (EvX.callN (n := m + 1) cx (Ev.free rfl rfl rfl rfl) (fun F P y => y.1.keep) (EvL.cons (Ev.loc rfl rfl rfl) (EvL.cons (Ev.loc rfl rfl rfl) EvL.nil)) (CallC.toX (dinner_ok ok ds n hl hn hb m L M m1 (by omega) (by omega))) (fun F P y => y) (fun _ _ _ _ h => h.elim))) op_add) ?_)
        · have : (M - L) * n ≤ 4096 * 64 := Nat.mul_le_mul (by omega) hn
          omega
        · rw [valD_split n ds (Nat.le_of_lt m1) (Nat.le_of_lt m2) h2, intD]; push_cast; rfl
end TL
end
section
namespace TL
open PySem PySem.W PyProof.Rows PySem.Calls PyProof.Rows.LCg
local macro_rules | `(tactic| walk_at "lits") => `(tactic| (repeat' (first | exact List.forall_mem_nil _ | refine List.forall_mem_cons.mpr ⟨⟨rfl, rfl⟩, ?_⟩ | refine List.forall_mem_cons.mpr ⟨rfl, ?_⟩)))
theorem Own.fresh' {fx : Fx} {a : Addr} {ds : List D} {F P : PH} (h : Own fx a ds F P) : fx.P₀ a = none := by obtain ⟨_, _, _, _, _, q, _⟩ := h; exact q
theorem Own.nmut' {fx : Fx} {a : Addr} {ds : List D} {F P : PH} (h : Own fx a ds F P) : ¬ muts fx.env a := by obtain ⟨_, _, _, _, _, _, q⟩ := h; exact q
section
variable {g : G} {A : Around} {fx : Fx} {ρ : List (Str × D)} {X X' : XS fx} {o : Out}
theorem Sq.retNone {pos : Pos} {r : List Stmt} : Ex g A fx X X (execs (.Return none pos :: r) fx.env) ρ (.ret .none) := Ex.mk fun F P I V M x s hs =>
  wpAny_execs_cons (wpAny_Return_none ⟨_, s.toks, P, rfl, hs, F, (Ext.refl V.fp).soft, I, x, .none, rfl, by simp only [Rep]⟩)
end
noncomputable abbrev qI : Str := "_int2digits.<locals>.inner"
noncomputable def phiI (f la : Addr) (n : Nat) : List (Str × D) := [("a_digits", .raw (.ref la)), ("n", intD n), ("inner", .raw (.ref f))]
noncomputable def fill (n L R x : Nat) (ds : List Nat) : List Nat := ds.take L ++ digs n (R - L) x ++ ds.drop R
theorem fill_len {n L R x : Nat} {ds : List Nat} (h1 : L ≤ R) (h2 : R ≤ ds.length) : (fill n L R x ds).length = ds.length := by
  rw [fill, List.length_append, List.length_append, List.length_take, digs_len, List.length_drop]; omega
theorem fill_one {n L x : Nat} {ds : List Nat} (h : L < ds.length) (hx : x < 2 ^ n) : ds.set L x = fill n L (L + 1) x ds := by
  have e : L + 1 - L = 1 := Nat.add_sub_cancel_left ..
  rw [fill, e, digs, digs, Nat.mod_eq_of_lt hx, List.set_eq_take_append_cons_drop, if_pos h, List.append_assoc]
  rfl
theorem fill_two {n L M R x : Nat} {ds : List Nat} (h1 : L ≤ M) (h2 : M ≤ R) (h3 : R ≤ ds.length) : fill n M R (x / 2 ^ ((M - L) * n)) (fill n L M (x % 2 ^ ((M - L) * n)) ds) = fill n L R x ds := by
  have e : R - L = (M - L) + (R - M) := by omega
  have l1 : (ds.take L ++ digs n (M - L) (x % 2 ^ ((M - L) * n))).length = M := by
    rw [List.length_append, List.length_take, digs_len, Nat.min_eq_left (Nat.le_trans h1 (Nat.le_trans h2 h3)), Nat.add_sub_cancel' h1]
  have t1 : (ds.take L ++ digs n (M - L) (x % 2 ^ ((M - L) * n)) ++ ds.drop M).take M = ds.take L ++ digs n (M - L) (x % 2 ^ ((M - L) * n)) := List.take_left' l1
  have t2 : (ds.take L ++ digs n (M - L) (x % 2 ^ ((M - L) * n)) ++ ds.drop M).drop R = ds.drop R := by
    have : R = M + (R - M) := by omega
    rw [this, ← List.drop_drop, List.drop_left' l1, List.drop_drop]
  unfold fill
  rw [t1, t2, e, digs_add, Nat.mul_comm (M - L) n, digs_mod, List.append_assoc, List.append_assoc, List.append_assoc, List.append_assoc]
theorem halves {L R len m M : Nat} (h1 : L < R) (hR : ¬ R = L + 1) (h2 : R ≤ len) (h3 : R - L ≤ m + 1) (hl : len ≤ 4096) (hM : (L + R) / 2 ^ 1 = M) : L < M ∧ M < R ∧ M ≤ len ∧ M - L ≤ m ∧ R - M ≤ m ∧ M - L ≤ 4096 ∧ M - L + (R - M) = R - L := by
  have a : L < M := by omega
  have b : M < R := by omega
  clear hM hR h1
  exact ⟨a, b, Nat.le_trans (Nat.le_of_lt b) h2, by omega, by omega, Nat.le_trans (Nat.sub_le ..) (Nat.le_trans (Nat.le_of_lt b) (Nat.le_trans h2 hl)), by omega⟩
theorem cast_sub {M L : Nat} (h : L < M) : (((M - L : Nat) : Nat) : Int) = (M : Int) - (L : Int) := by omega
theorem iinner_ok {g : G} (ok : GOk g) {f la : Addr} {clos : List (Str × Addr)} (n : Nat) (hn : n ≤ 64) :
    ∀ m, ∀ (ds : List Nat) (x L R : Nat), ds.length ≤ 4096 → x < 2 ^ 60 → L < R → R ≤ ds.length → R - L ≤ m → x < 2 ^ (n * (R - L)) → CallC g (.ref f) [intD x, intD L, intD R] [] (m + 1) (fun a => a = la)
      (fun F P => (FunN F f (nameOf (innerOf 8)) qI (paramsOf (innerOf 8)) (bodyOf (innerOf 8)) (scopeOf (innerOf 8)) clos ∧ CloF F (scopeOf (innerOf 8)) clos (phiI f la n)) ∧ OwnP la (ds.map intD) F P) (fun F P v => OwnP la ((fill n L R x ds).map intD) F P ∧ v = .none)
  | 0, ds, x, L, R, hl, hx, h1, h2, h3, h4 => absurd (Nat.le_of_sub_eq_zero (Nat.le_zero.mp h3)) (Nat.not_le_of_lt h1)
  | m + 1, ds, x, L, R, hl, hx, h1, h2, h3, h4 => by
    have bnd : ∀ doc pm cdv ct, BindX g (fnX (nameOf (innerOf 8)) qI (paramsOf (innerOf 8)) (bodyOf (innerOf 8)) (scopeOf (innerOf 8)) clos .none .none doc pm none cdv ct) ["x", "L", "R"] [intD x, intD L, intD R] [] [intD x, intD L, intD R] := fun doc pm cdv ct A F P vs kvs hb hf hr hk s hP => by
      obtain ⟨v, w, u, rfl, r1, r2, r3⟩ := RepL.three hr
      simp only [List.map_nil, RepL] at hk
      subst hk
      exact wpAny_pure ⟨_, s.toks, P, rfl, hP, F, [v, w, u], rfl, .refl hf, .cons r1 (.cons r2 (.cons r3 .nil))⟩
    by_cases hR : R = L + 1
    · subst hR
      refine CallC.clo (ns := ["x", "L", "R"]) (ds := [intD x, intD L, intD (L + 1)]) (d := .none) (out := .ret .none) (phiI f la n) ok (scN_ok (by decide +kernel)) rfl bnd (fun F P h => h.1) (fun F P F' P' h e => ⟨⟨h.1.1.sub e.f, h.1.2.sub e.f⟩, h.2.ext e⟩) (fun F P h a ha => by subst ha; exact h.2.some) (fun F P v h a ha => by subst ha; obtain ⟨_, _, _, _, q⟩ := h.1; exact q) rfl fun A fx Lo cd cx he hW => ?_
      obtain ⟨w1, w2⟩ := hW la rfl
      refine ⟨(XS.inn 8 f qI clos (phiI f la n)).and (XS.own la (ds.map intD)), XS.own la ((fill n L (L + 1) x ds).map intD), fun F P h => ⟨h.1, h.2.own w1 w2⟩, fun F P v h r => ⟨h.toP, by simpa only [Rep] using r⟩, ?_⟩
      obtain ⟨env, F₀, P₀, nm⟩ := fx
      dsimp only at he
      subst he
      refine Sq.ifR (EvB.conv (EvB.cmp (Ev.bin (Ev.loc rfl rfl rfl) Ev.int op_add) (Ev.loc rfl rfl rfl) cmp_eq) (by simp)) ?_
      refine Sq.set (X := (XS.inn 8 f qI clos (phiI f la n)).and (XS.own la (ds.map intD))) (a := la) (ds.map intD) (intD x) (j := L) (X₁ := XS.own la ((fill n L (L + 1) x ds).map intD)) (Ev.loc rfl rfl rfl) (Ev.free rfl rfl rfl rfl) (Ev.loc rfl rfl rfl) (fun F P y => y.2) (by rw [List.length_map]; exact h2) (by omega) rfl (fun F P ob y ow => ?_) Sq.retNone
      have e1 : L + 1 - L = 1 := Nat.add_sub_cancel_left ..
      have hx' : x < 2 ^ n := by rw [e1, Nat.mul_one] at h4; exact h4
      show Own _ la ((fill n L (L + 1) x ds).map intD) F _
      rw [← fill_one h2 hx', List.map_set]
      exact ow
    · refine CallC.clo (ns := ["x", "L", "R"]) (ds := [intD x, intD L, intD R]) (d := .none) (out := .next []) (phiI f la n) ok (scN_ok (by decide +kernel)) rfl bnd (fun F P h => h.1) (fun F P F' P' h e => ⟨⟨h.1.1.sub e.f, h.1.2.sub e.f⟩, h.2.ext e⟩) (fun F P h a ha => by subst ha; exact h.2.some) (fun F P v h a ha => by subst ha; obtain ⟨_, _, _, _, q⟩ := h.1; exact q) rfl fun A fx Lo cd cx he hW => ?_
      obtain ⟨w1, w2⟩ := hW la rfl
      refine ⟨(XS.inn 8 f qI clos (phiI f la n)).and (XS.own la (ds.map intD)), (XS.inn 8 f qI clos (phiI f la n)).and (XS.own la ((fill n L R x ds).map intD)), fun F P h => ⟨h.1, h.2.own w1 w2⟩, fun F P v h r => ⟨h.2.toP, by simpa only [Rep] using r⟩, ?_⟩
      obtain ⟨env, F₀, P₀, nm⟩ := fx
      dsimp only at he
      subst he
      refine Sq.iff (EvB.conv (EvB.cmp (Ev.bin (Ev.loc rfl rfl rfl) Ev.int op_add) (Ev.loc rfl rfl rfl) cmp_eq) (by simp; exact fun z => hR (Int.ofNat_inj.mp (show ((L + 1 : Nat) : Int) = (R : Int) from z)).symm)) ?_
      refine Sq.assign (intD ((L + R) / 2 ^ 1)) (Ev.bin (Ev.bin (Ev.loc rfl rfl rfl) (Ev.loc rfl rfl rfl) op_add) (Ev.int (i := 1)) (op_shrN (n := 1))) (AdrOk.loc rfl) rfl ?_
      generalize hM : (L + R) / 2 ^ 1 = M
      obtain ⟨m1, m2, m3, m4, m5, m6, m7⟩ := halves h1 hR h2 h3 hl hM
      refine Sq.assign (intD ((M - L) * n)) (Ev.conv (Ev.bin (Ev.bin (Ev.loc rfl rfl rfl) (Ev.loc rfl rfl rfl) op_sub) (Ev.free rfl rfl rfl rfl) (op_mul (by omega) (by omega))) ?_) (AdrOk.loc rfl) rfl ?_
      · rw [intD]; push_cast; rw [cast_sub m1]
      have q1 : x / 2 ^ ((M - L) * n) ≤ x := Nat.div_le_self _ _
      have q2 : x % 2 ^ ((M - L) * n) ≤ x := Nat.mod_le _ _
      have q3 : x % 2 ^ ((M - L) * n) < 2 ^ (n * (M - L)) := by rw [Nat.mul_comm n]; exact Nat.mod_lt _ (Nat.pow_pos (by decide))
      have q4 : x / 2 ^ ((M - L) * n) < 2 ^ (n * (R - M)) := by
        refine Nat.div_lt_of_lt_mul ?_
        rw [← Nat.pow_add, Nat.mul_comm (M - L), ← Nat.mul_add]
        rw [m7]; exact h4
      have q5 : (M - L) * n ≤ 4096 * 64 := Nat.mul_le_mul m6 hn
      refine Sq.assign (intD (x / 2 ^ ((M - L) * n))) (Ev.bin (Ev.loc rfl rfl rfl) (Ev.loc rfl rfl rfl) op_shrN) (AdrOk.loc rfl) rfl ?_
      refine Sq.assign (intD (x % 2 ^ ((M - L) * n))) (Ev.bin (Ev.loc rfl rfl rfl) (Ev.bin (Ev.loc rfl rfl rfl) (Ev.loc rfl rfl rfl) (op_shlN (by omega) (by omega))) op_xorL) (AdrOk.loc rfl) rfl ?_
      have fl := fill_len (n := n) (x := x % 2 ^ ((M - L) * n)) (Nat.le_of_lt m1) m3
      refine Sq.exprX (X₁ := (XS.inn 8 f qI clos (phiI f la n)).and (XS.own la ((fill n L M (x % 2 ^ ((M - L) * n)) ds).map intD))) (EvX.callN (n := m + 1) cx (Ev.free rfl rfl rfl rfl) (fun F P y => y.1.1.keep) (EvL.cons (Ev.loc rfl rfl rfl) (EvL.cons (Ev.loc rfl rfl rfl) (EvL.cons (Ev.loc rfl rfl rfl) EvL.nil))) (CallC.toX (iinner_ok ok n hn m ds (x % 2 ^ ((M - L) * n)) L M hl (Nat.lt_of_le_of_lt q2 hx) m1 m3 m4 q3)) (fun F P y => ⟨y.1, y.2.toP⟩) (fun F P y a ha => by subst ha; exact y.2.some)) (fun F P y => y.2.wok) (fun F P F' P' v y s po => ⟨⟨y.1.1.sub s.f, y.1.2.sub s.f⟩, po.1.own y.2.fresh' y.2.nmut'⟩) ?_ rfl rfl
      refine Sq.exprX (X₁ := (XS.inn 8 f qI clos (phiI f la n)).and (XS.own la ((fill n L R x ds).map intD))) (EvX.callN (n := m + 1) cx (Ev.free rfl rfl rfl rfl) (fun F P y => y.1.1.keep) (EvL.cons (Ev.loc rfl rfl rfl) (EvL.cons (Ev.loc rfl rfl rfl) (EvL.cons (Ev.loc rfl rfl rfl) EvL.nil))) (CallC.toX (iinner_ok ok n hn m (fill n L M (x % 2 ^ ((M - L) * n)) ds) (x / 2 ^ ((M - L) * n)) M R (Nat.le_trans (Nat.le_of_eq fl) hl) (Nat.lt_of_le_of_lt q1 hx) m2 (Nat.le_trans h2 (Nat.le_of_eq fl.symm)) m5 q4)) (fun F P y => ⟨y.1, y.2.toP⟩) (fun F P y a ha => by subst ha; exact y.2.some)) (fun F P y => y.2.wok) (fun F P F' P' v y s po => ⟨⟨y.1.1.sub s.f, y.1.2.sub s.f⟩, ?_⟩) ?_ rfl rfl
      · have ow := po.1
        rw [fill_two (Nat.le_of_lt m1) (Nat.le_of_lt m2) h2] at ow
        exact ow.own y.2.fresh' y.2.nmut'
      · exact Sq.nil rfl fun _ _ h => nomatch h
end TL
end
section
namespace TL
open PySem PySem.W PyProof.Rows PySem.Calls PyProof.Rows.LCg
local macro_rules | `(tactic| walk_at "lits") => `(tactic| (repeat' (first | exact List.forall_mem_nil _ | refine List.forall_mem_cons.mpr ⟨⟨rfl, rfl⟩, ?_⟩ | refine List.forall_mem_cons.mpr ⟨rfl, ?_⟩)))
theorem DefAt.fun {g : G} {i : Nat} {a : Addr} (h : DefAt g i a) : FunAt g a (nameOf (topStmt i)) (nameOf (topStmt i)) (paramsOf (topStmt i)) (bodyOf (topStmt i)) (scopeOf (topStmt i)) .none .none := by
  obtain ⟨o, pm, code, doc, ho, hd, hc⟩ := h.ex
  exact ⟨o, doc, pm, _, code, _, ho, hd, hc⟩
noncomputable def posOf : Stmt → Pos | .FunctionDef _ _ _ _ _ _ _ _ _ p => p | _ => default
noncomputable abbrev pI : Pos := posOf (innerOf 8)
noncomputable abbrev pD : Pos := posOf (innerOf 9)
section
variable {g : G} {A : Around} {env : Env} {ρ : List (Str × D)} {X : XP}
theorem EvB.intT {e : Expr} {n : Nat} (h : Ev g A env ρ X e (intD n)) (hn : n ≠ 0) (he : isTrue e env (eval e env) = (do let v ← eval e env; standAt e.pos; holding [v] (truthy v)) := by rfl) : EvB g A env ρ X e true := EvB.mk fun F P V x s hs => by
  refine wpAny_isTrue_value ((h.run F P V x).out hs fun h tk P₁ v₁ hP₁ ⟨F₁, e₁, r₁⟩ => ?_) he
  simp only [Rep, intD] at r₁
  obtain ⟨t, rfl⟩ := r₁
  refine PyProof.Rows.truthy_int ⟨_, tk, P₁, rfl, hP₁, F₁, e₁, ?_⟩
  simp; omega
theorem EvB.lstT {e : Expr} {ds : List D} (h : Ev g A env ρ X e (.lst ds)) (hn : ds ≠ []) (hl : ds.length ≤ 4096) (he : isTrue e env (eval e env) = (do let v ← eval e env; standAt e.pos; holding [v] (truthy v)) := by rfl) : EvB g A env ρ X e true := EvB.mk fun F P V x s hs => by
  refine wpAny_isTrue_value ((h.run F P V x).out hs fun h tk P₁ v₁ hP₁ ⟨F₁, e₁, r₁⟩ => ?_) he
  simp only [Rep] at r₁
  obtain ⟨a, o, vs, n, rfl, hF, hc, hd, hl₁⟩ := r₁
  have hs' : vs.size = ds.length := by have := hl₁.length; simpa using this
  refine PySem.wpAny_truthy_list (s := { s with heap := h, toks := tk }) ⟨o, hP₁ _ _ (e₁.fp _ _ hF), hc.1, n, hd⟩ (by omega) ⟨_, _, P₁, rfl, hP₁, F₁, e₁, ?_⟩
  cases ds with
  | nil => exact absurd rfl hn
  | cons d r => simp at hs'; simp [Array.isEmpty, hs']
theorem Ev.globI {x : Str} {pos : Pos} {i : Int} {t : Tok} (ok : GOk g) (hv : g.mg x = some (.int i t)) (hk : env.kindOf x = some .globalImplicit) (hd : (x == ("__debug__" : Str)) = false) : Ev g A env ρ X (.Name x pos) (.int i) := Ev.mk fun F P V x s hs =>
  ((Ev.glob (g := g) (A := A) (env := env) (ρ := ρ) (X := X) (pos := pos) ok hv hk hd).run F P V x).out hs fun h tk P₁ v hP₁ ⟨F₁, e₁, r₁⟩ => by
    simp only [Rep] at r₁
    subst r₁
    exact ⟨_, _, P₁, rfl, hP₁, F₁, e₁, by simp only [Rep]; exact ⟨_, rfl⟩⟩
theorem divmod_ok {a b n : Nat} (hb : b ≠ 0) (hb' : b < 1073741824) : CallOk g (.builtin "divmod") [intD a, intD b] (.tup [intD (a / b), intD (a % b)]) n := fun A F P vs cx hbs hf hr s hP => by
  obtain ⟨v, w, rfl, r1, r2⟩ := RepL.two hr
  simp only [Rep, intD] at r1 r2
  obtain ⟨t, rfl⟩ := r1
  obtain ⟨u, rfl⟩ := r2
  refine PyProof.Rows.divmod_int (by omega) ?_ (Or.inl (PyProof.noPylong_small (by omega)))
  have e1 : Int.fdiv (a : Int) (b : Int) = ((a / b : Nat) : Int) := by rw [Int.fdiv_eq_ediv_of_nonneg _ (by omega)]; rfl
  rw [e1, fmod_nat]
  have e₁ : Ext F P (upd F s.heap.objs.size { cls := .type "tuple", data := .seq #[.int ((a / b : Nat) : Int) s.toks, .int ((a % b : Nat) : Int) (s.toks + 1)] }) (upd P s.heap.objs.size { cls := .type "tuple", data := .seq #[.int ((a / b : Nat) : Int) s.toks, .int ((a % b : Nat) : Int) (s.toks + 1)] }) := .alloc hf hP.fresh
  refine ⟨_, _, _, rfl, hP.push rfl, _, e₁, ?_⟩
  simp only [Rep]
  exact ⟨_, _, _, _, rfl, upd_self .., ⟨rfl, rfl, rfl⟩, rfl, .cons (by simp only [Rep, intD]; exact ⟨_, rfl⟩) (.cons (by simp only [Rep, intD]; exact ⟨_, rfl⟩) .nil)⟩
end
theorem op_fdivI {g : G} {A : Around} {i : Int} (b a : Nat) (hi : i = (a : Int)) (hb : b ≠ 0) (hb' : b < 1073741824) : Op2 g A (binaryOp .FloorDiv) (.int i) (intD b) (intD (a / b)) := by
  subst hi
  exact op_fdivN hb hb'
theorem d2n_ok {g : G} (ok : GOk g) {f : Addr} (fn : DefAt g 6 f) {t : Tok} (gL : g.mg "_DIV_LIMIT" = some (.int 4000 t)) (gd : g.mg "divmod" = none) (a b n : Nat) (ha : a < 2 ^ 3000) (hb : b ≠ 0) (hb' : b < 1073741824) : CallOk g (.ref f) [intD a, intD b, intD n] (.tup [intD (a / b), intD (a % b)]) 2 := by
  refine CallOk.fn (ns := ["a", "b", "n"]) ok fn (sc_ok (by decide +kernel)) rfl (fun pm code doc vs hv => ?_) fun A fx L cells cd cx he => ?_
  · match vs, hv with
    | [v, w, u], _ => rfl
  · obtain ⟨env, F₀, P₀, nm⟩ := fx
    dsimp only at he
    subst he
    have := bl_le ha
    refine Sq.ifR (EvB.conv (EvB.cmp (Ev.bin (Ev.ofX (EvX.meth0 cx (Ev.loc rfl rfl rfl) (gm_int fun A pl i t s Q E h => getMethod_int_bit_length h) Keep.builtin (CallX.of bl_ok) (fun _ _ _ => trivial) (fun _ _ _ _ h => h.elim) rfl)) (Ev.loc rfl rfl rfl) op_sub) (Ev.globI ok gL rfl rfl) cmp_le) (by simp; omega)) (Sq.ret (Ev.call cx (Ev.builtin ok gd rfl (by decide) rfl rfl) Keep.builtin (EvL.cons (Ev.loc rfl rfl rfl) (EvL.cons (Ev.loc rfl rfl rfl) EvL.nil)) (divmod_ok hb hb')))
theorem phi_of {φ : List (Str × D)} {q : Str → D → Prop} (h : ∀ p ∈ φ, q p.1 p.2) : ∀ x d, φ.lookup x = some d → q x d := fun x d hx => h (x, d) (PySem.mem_of_lookup hx)
theorem free_of {names : List (Str × NameKind)} {φ : List (Str × D)} (h : (names.all fun p => p.2 != .free || (φ.map (·.1)).contains p.1) = true) : ∀ x, (x, NameKind.free) ∈ names → ∃ d, φ.lookup x = some d := fun x hx => by
  have := List.all_eq_true.mp h _ hx
  simp only [bne_self_eq_false, Bool.false_or, List.contains_iff_mem] at this
  obtain ⟨p, hp, rfl⟩ := List.mem_map.mp this
  exact lookup_some hp
theorem repL_flat {F F' : PH} : ∀ {ds : List D} {xs : List Value}, (∀ d ∈ ds, flat d = true) → RepL F ds xs → RepL F' ds xs
  | [], _, _, h => by simp only [RepL] at *; exact h
  | d :: r, _, hf, h => by
    simp only [RepL] at h ⊢
    obtain ⟨v, q, rfl, h1, h2⟩ := h
    exact ⟨v, q, rfl, flat_rep (hf d List.mem_cons_self) h1, repL_flat (fun e he => hf e (List.mem_cons_of_mem _ he)) h2⟩
theorem flat_nats (l : List Nat) : ∀ d ∈ l.map intD, flat d = true := fun d hd => by
  obtain ⟨n, _, rfl⟩ := List.mem_map.mp hd
  rfl
noncomputable def nd (a n : Nat) : Nat := (bl a + n - 1) / n
theorem nd_ok {a n : Nat} (hn : 1 ≤ n) : bl a ≤ n * nd a n ∧ nd a n ≤ bl a := by
  unfold nd
  have h1 := Nat.div_add_mod (bl a + n - 1) n
  have h2 := Nat.mod_lt (bl a + n - 1) (show 0 < n by omega)
  refine ⟨by omega, ?_⟩
  rcases Nat.eq_zero_or_pos (bl a) with h | h
  · rw [h, Nat.zero_add, Nat.div_eq_of_lt (by omega)]; exact Nat.le_refl _
  · rw [Nat.div_le_iff_le_mul_add_pred (by omega)]
    have : bl a ≤ n * bl a := Nat.le_mul_of_pos_left _ (by omega)
    omega
theorem i2d_ok {g : G} (ok : GOk g) {f c T8 : Addr} (fn : DefAt g 8 f) (hcode : ∀ o fd, g.hb.get? f = some o → o.data = .func fd → fd.code = .ref c) (NK : NestK g c T8) (gN : g.mg "len" = none) (a n : Nat) (ha : a ≠ 0) (ha' : a < 2 ^ 30) (hn : 1 ≤ n) (hn' : n ≤ 64) :
    CallX g (.ref f) [intD a, intD n] [] 40 (fun b => b = T8) (Tab T8 pI qI) (fun F P v => Tab T8 pI qI F P ∧ Rep F (natsD (digs n (nd a n) a)) v) := by
  have b1 := bl_le ha'
  have b0 := bl_pos ha
  obtain ⟨k1, k2⟩ := nd_ok (a := a) hn
  have k0 : 1 ≤ nd a n := by
    rcases Nat.eq_zero_or_pos (nd a n) with h | h
    · rw [h] at k1; omega
    · exact h
  have hlt : a < 2 ^ (n * nd a n) := Nat.lt_of_lt_of_le (bl_lt a) (Nat.pow_le_pow_right (by decide) k1)
  refine CallC.toX (CallC.fnK (ns := ["a", "n"]) (ds := [intD a, intD n]) (d := natsD (digs n (nd a n) a)) (out := .ret (natsD (digs n (nd a n) a))) ok fn.fun hcode (sc_ok (by decide +kernel)) rfl (fun doc pm an cdv ct A F P vs kvs hb hf hr hk s hP => ?_) (fun F P F' P' h e => h.ext e) (fun F P h a ha => by subst ha; exact h.some) (fun F P v h a ha => by subst ha; exact h.1.off) rfl fun A fx L cells cx he hW _ => ?_)
  · obtain ⟨v, w, rfl, r1, r2⟩ := RepL.two hr
    simp only [List.map_nil, RepL] at hk
    subst hk
    exact wpAny_pure ⟨_, s.toks, P, rfl, hP, F, [v, w], rfl, .refl hf, .cons r1 (.cons r2 .nil)⟩
  · obtain ⟨w1, w2⟩ := hW T8 rfl
    refine ⟨XS.tab T8 pI qI, (XS.tab T8 pI qI), fun F P h => ⟨h, w1, w2⟩, fun F P v h r => ⟨h.1, r⟩, ?_⟩
    obtain ⟨env, F₀, P₀, nm⟩ := fx
    dsimp only at he
    subst he
    refine Sq.own ((List.replicate (nd a n) 0).map intD) ?_ (AdrOk.cell rfl) rfl fun la hla => ?_
    · have e : (List.replicate (nd a n) 0).map intD = (List.replicate ((nd a n : Nat) : Int).toNat [D.int 0]).flatten := by
        rw [rep1, Int.toNat_natCast, List.map_replicate]; rfl
      rw [e]
      refine EvN.mulL (Ev.list (EvL.cons Ev.int EvL.nil) (Nat.le_of_ble_eq_true rfl)) (Ev.conv (Ev.bin (Ev.bin (Ev.bin (Ev.ofX (EvX.meth0 cx (Ev.loc rfl rfl rfl) (gm_int fun A pl i t s Q E h => getMethod_int_bit_length h) Keep.builtin (CallX.of bl_ok) (fun _ _ _ => trivial) (fun _ _ _ _ h => h.elim) rfl)) (Ev.cell rfl rfl rfl) op_add) (Ev.int (i := 1)) op_sub) (Ev.cell rfl rfl rfl) (op_fdivI n (bl a + n - 1) (by omega) (by omega) (by omega))) rfl) (by omega) (by omega) (by show 1 * _ ≤ _; omega)
    have hT : ∀ F P, (XS.tab T8 pI qI : XS ⟨_, F₀, P₀, nm⟩).p F P → P T8 ≠ none := fun F P h => h.1.some
    have nla : la ≠ T8 := hla T8 hT
    refine Sq.defNest ok NK (qual := qI) (fun f' => ((XS.tab T8 pI qI).and (XS.own la ((List.replicate (nd a n) 0).map intD))).and ⟨⟨fun F _ => FunN F f' (nameOf (innerOf 8)) qI (paramsOf (innerOf 8)) (bodyOf (innerOf 8)) (scopeOf (innerOf 8)) (freeIn (envX (nameOf (topStmt 8)) (scopeOf (topStmt 8)) L f (.ref c) cells) (scopeOf (innerOf 8)).names []), fun _ _ _ _ h e => h.sub e.f⟩, fun _ _ _ _ _ h s _ => h.sub s.f⟩) rfl rfl rfl rfl rfl (scOk_of rfl).cap (fun F P y => y.1) (AdrOk.cell rfl) (fun F P F' P' f' y s T h => ⟨⟨⟨T, w1, w2⟩, y.2.stepW s nla⟩, h⟩) fun f' => ?_
    have z0 : (List.replicate (nd a n) 0).length = nd a n := List.length_replicate
    have fz : fill n 0 (nd a n) a (List.replicate (nd a n) 0) = digs n (nd a n) a := by
      rw [fill, Nat.sub_zero, List.take_zero, List.nil_append]
      have : (List.replicate (nd a n) 0).drop (nd a n) = [] := List.drop_eq_nil_of_le (by rw [z0]; exact Nat.le_refl _)
      rw [this, List.append_nil]
    have hlow : a < 2 ^ (n * (nd a n - 0)) := by rw [Nat.sub_zero]; exact hlt
    have HC := CallC.toX (iinner_ok (f := f') (la := la) (clos := freeIn (envX (nameOf (topStmt 8)) (scopeOf (topStmt 8)) L f (.ref c) cells) (scopeOf (innerOf 8)).names []) ok n hn' (nd a n) (List.replicate (nd a n) 0) a 0 (nd a n) (by rw [z0]; omega) (by omega) (by omega) (by rw [z0]; exact Nat.le_refl _) (by omega) hlow)
    rw [fz] at HC
    refine Sq.ifT (X₁ := (XS.tab T8 pI qI).and (XS.own la ((digs n (nd a n) a).map intD))) (EvB.intT (Ev.loc rfl rfl rfl) ha) (Sq.exprX (X₁ := (XS.tab T8 pI qI).and (XS.own la ((digs n (nd a n) a).map intD))) (EvX.callC (ds := [intD a, intD 0, intD (nd a n)]) (n := nd a n + 1) (Post' := fun F P _ => OwnP la ((digs n (nd a n) a).map intD) F P) (scopeOf (innerOf 8)) (phiI f' la n) (cx.le (by omega)) (Ev.cell rfl rfl rfl) (fun F P y => y.2.keep) (EvL.cons (Ev.loc rfl rfl rfl) (EvL.cons (Ev.int (i := 0)) (EvL.cons (Ev.conv (lenO ok cx gN (ds := (List.replicate (nd a n) 0).map intD) (Ev.cell rfl rfl rfl) (fun F P y => y.1.2.toP) (by rw [List.length_map, z0]; omega) rfl) (by rw [List.length_map, z0]; rfl)) EvL.nil))) (phi_of (List.forall_mem_cons.mpr ⟨⟨rfl, rfl, rfl⟩, List.forall_mem_cons.mpr ⟨⟨rfl, rfl, rfl⟩, List.forall_mem_cons.mpr ⟨⟨rfl, rfl, rfl⟩, List.forall_mem_nil _⟩⟩⟩)) (free_of rfl)
      HC (fun F P F' y hs hm hc => ⟨⟨y.2.sub hs, hc⟩, ?_⟩) (fun F P y a ha => by subst ha; exact y.1.2.toP.some) (fun F' F'' P v po hq => ?_)) (fun F P y => y.1.2.wok) (fun F P F' P' v y s po => ⟨⟨y.1.1.1.step s (Ne.symm nla), w1, w2⟩, po.own y.1.2.fresh' y.1.2.nmut'⟩) (Sq.nil rfl fun _ _ h => h) rfl rfl) ?_
    · obtain ⟨xs, k, o1, o2, o3, _, o5⟩ := y.1.2
      refine ⟨xs, k, o1, o2.sub hs, ?_⟩
      cases q : F' la with
      | none => rfl
      | some o =>
        rcases hm la (by rw [q]; exact fun z => nomatch z) with z | z
        · exact absurd o3 z
        · exact absurd z o5
    · obtain ⟨⟨xs, k, o1, o2, o3⟩, _⟩ := po
      refine ⟨xs, k, o1, repL_flat (flat_nats _) o2, ?_⟩
      rcases hq la with z | z
      · rw [z]; exact o3
      · exact z.1
    · refine Ex.freeze la ((digs n (nd a n) a).map intD) ((XS.tab T8 pI qI).and (XS.rep (natsD (digs n (nd a n) a)) (.ref la))) (fun F P y => y.2) (fun F P F' y hF hn r => ⟨⟨?_, w1, w2⟩, r⟩) (Ex.post (Sq.ret (Ev.asLst (Ev.cell rfl rfl rfl) (fun F P y => y.2))) fun F P h => h.1)
      obtain ⟨⟨ps, t1, t2, t3, t4⟩, _⟩ := y.1
      refine ⟨ps, t1, ?_, t3, t4.imp id fun ⟨c', oc, vs, t, k1, k2, k3⟩ => ⟨c', oc, vs, t, k1, hF _ _ k2, k3⟩⟩
      cases q : F' T8 with
      | none => rfl
      | some o =>
        rcases hn T8 (by rw [q]; exact fun z => nomatch z) with z | z
        · exact absurd t2 z
        · exact absurd z (Ne.symm nla)
end TL
end
section
namespace TL
open PySem PySem.W PyProof.Rows PySem.Calls PyProof.Rows.LCg
local macro_rules | `(tactic| walk_at "lits") => `(tactic| (repeat' (first | exact List.forall_mem_nil _ | refine List.forall_mem_cons.mpr ⟨⟨rfl, rfl⟩, ?_⟩ | refine List.forall_mem_cons.mpr ⟨rfl, ?_⟩)))
theorem d2i_ok {g : G} (ok : GOk g) {f c T9 : Addr} (fn : DefAt g 9 f) (hcode : ∀ o fd, g.hb.get? f = some o → o.data = .func fd → fd.code = .ref c) (NK : NestK g c T9) (gN : g.mg "len" = none) (ds : List Nat) (n : Nat) (h0 : ds ≠ []) (hl : ds.length ≤ 30) (hn : n ≤ 64) (hb : valD n ds < 2 ^ 60) :
    CallX g (.ref f) [natsD ds, intD n] [] 40 (fun b => b = T9) (Tab T9 pD qD) (fun F P v => Tab T9 pD qD F P ∧ Rep F (intD (valD n ds)) v) := by
  have hlen : 0 < ds.length := List.length_pos_iff.mpr h0
  refine CallC.toX (CallC.fnK (ns := ["digits", "n"]) (ds := [natsD ds, intD n]) (d := intD (valD n ds)) (out := .ret (intD (valD n ds))) ok fn.fun hcode (sc_ok (by decide +kernel)) rfl (fun doc pm an cdv ct A F P vs kvs hb hf hr hk s hP => ?_) (fun F P F' P' h e => h.ext e) (fun F P h a ha => by subst ha; exact h.some) (fun F P v h a ha => by subst ha; exact h.1.off) rfl fun A fx L cells cx he hW _ => ?_)
  · obtain ⟨v, w, rfl, r1, r2⟩ := RepL.two hr
    simp only [List.map_nil, RepL] at hk
    subst hk
    exact wpAny_pure ⟨_, s.toks, P, rfl, hP, F, [v, w], rfl, .refl hf, .cons r1 (.cons r2 .nil)⟩
  · obtain ⟨w1, w2⟩ := hW T9 rfl
    refine ⟨XS.tab T9 pD qD, (XS.tab T9 pD qD), fun F P h => ⟨h, w1, w2⟩, fun F P v h r => ⟨h.1, r⟩, ?_⟩
    obtain ⟨env, F₀, P₀, nm⟩ := fx
    dsimp only at he
    subst he
    refine Sq.defNest ok NK (qual := qD) (fun f' => (XS.tab T9 pD qD).and ⟨⟨fun F _ => FunN F f' (nameOf (innerOf 9)) qD (paramsOf (innerOf 9)) (bodyOf (innerOf 9)) (scopeOf (innerOf 9)) (freeIn (envX (nameOf (topStmt 9)) (scopeOf (topStmt 9)) L f (.ref c) cells) (scopeOf (innerOf 9)).names []), fun _ _ _ _ h e => h.sub e.f⟩, fun _ _ _ _ _ h s _ => h.sub s.f⟩) rfl rfl rfl rfl rfl (scOk_of rfl).cap (fun F P y => y) (AdrOk.cell rfl) (fun F P F' P' f' y s T h => ⟨⟨T, w1, w2⟩, h⟩) fun f' => ?_
    have HC := CallC.toX (dinner_ok (f := f') (clos := freeIn (envX (nameOf (topStmt 9)) (scopeOf (topStmt 9)) L f (.ref c) cells) (scopeOf (innerOf 9)).names []) ok ds n (by omega) hn hb ds.length 0 ds.length hlen (Nat.le_refl _) (by omega))
    have e1 : (ds.drop 0).take (ds.length - 0) = ds := by rw [List.drop_zero, Nat.sub_zero, List.take_length]
    rw [e1] at HC
    have hne : ds.map intD ≠ [] := fun q => h0 (List.map_eq_nil_iff.mp q)
    refine Ex.post (Sq.ret (Ev.ite (c := true) (EvB.lstT (Ev.cell rfl rfl rfl) hne (by rw [List.length_map]; omega)) (fun _ => Ev.ofX (EvX.callC (ds := [intD 0, intD ds.length]) (n := ds.length + 1) (Post' := fun F _ v => Rep F (intD (valD n ds)) v) (scopeOf (innerOf 9)) (phiD f' ds n) (cx.le (by omega)) (Ev.cell rfl rfl rfl) (fun F P y => y.2.keep) (EvL.cons (Ev.int (i := 0)) (EvL.cons (Ev.conv (Ev.call cx (Ev.builtin ok gN rfl (by decide) rfl rfl) Keep.builtin (EvL.cons (Ev.cell rfl rfl rfl) EvL.nil) (len_lst (ds := ds.map intD) (by rw [List.length_map]; omega))) (by rw [List.length_map]; rfl)) EvL.nil)) (phi_of (List.forall_mem_cons.mpr ⟨⟨rfl, rfl, rfl⟩, List.forall_mem_cons.mpr ⟨⟨rfl, rfl, rfl⟩, List.forall_mem_cons.mpr ⟨⟨rfl, rfl, rfl⟩, List.forall_mem_nil _⟩⟩⟩)) (free_of rfl)
      HC (fun F P F' y hs hm hc => ⟨y.2.sub hs, hc⟩) (fun _ _ _ _ h => h.elim) (fun F' F'' P v po hq => flat_rep rfl po))) fun z => nomatch z)) fun F P h => h.1
section
variable {g : G} {A : Around} {fx : Fx} {ρ : List (Str × D)} {X X' : XS fx}
theorem Sq.ifE {t : Expr} {b els : List Stmt} {pos : Pos} {r : List Stmt} {d : D} (h : EvB g A fx.env ρ X.toXP t false) (hb : Ex g A fx X X' (execs els fx.env) ρ (.ret d)) : Ex g A fx X X' (execs (.If t b els pos :: r) fx.env) ρ (.ret d) := Ex.last (Ex.if h (fun z => nomatch z) fun _ => hb)
end
noncomputable def tabs2 (T8 T9 : Addr) (F P : PH) : Prop := Tab T8 pI qI F P ∧ Tab T9 pD qD F P
theorem tabs2.ext {T8 T9 : Addr} {F P F' P' : PH} (h : tabs2 T8 T9 F P) (e : Ext F P F' P') : tabs2 T8 T9 F' P' := ⟨h.1.ext e, h.2.ext e⟩
theorem tabs2.some {T8 T9 : Addr} {F P : PH} (h : tabs2 T8 T9 F P) : ∀ a, (a = T8 ∨ a = T9) → P a ≠ none := fun a ha => by
  rcases ha with rfl | rfl
  · exact h.1.some
  · exact h.2.some
theorem tabs2.off {T8 T9 : Addr} {F P : PH} (h : tabs2 T8 T9 F P) : ∀ a, (a = T8 ∨ a = T9) → F a = none := fun a ha => by
  rcases ha with rfl | rfl
  · exact h.1.off
  · exact h.2.off
noncomputable def XS.tabs {fx : Fx} (T8 T9 : Addr) : XS fx := (XS.tab T8 pI qI).and (XS.tab T9 pD qD)
theorem tabs_wok {fx : Fx} {T8 T9 : Addr} {F P : PH} (h : (XS.tabs (fx := fx) T8 T9).p F P) : WOk fx (fun a => a = T8 ∨ a = T9) P := by
  have a := TabO.wok h.1
  have b := TabO.wok h.2
  refine ⟨fun x hx => ?_, fun x o hx e => ?_⟩
  · rcases hx with rfl | rfl
    · exact a.st _ rfl
    · exact b.st _ rfl
  · rcases hx with rfl | rfl
    · exact a.ob _ o rfl e
    · exact b.ob _ o rfl e
theorem Tab.freeze {Pt lq : Addr} {pos : Pos} {qual : Str} {F F' P : PH} (h : Tab Pt pos qual F P) (hF : Sub F F') (hn : ∀ b, F' b ≠ none → F b ≠ none ∨ b = lq) (hne : Pt ≠ lq) : Tab Pt pos qual F' P := by
  obtain ⟨ps, t1, t2, t3, t4⟩ := h
  refine ⟨ps, t1, ?_, t3, t4.imp id fun ⟨c', oc, vs, t, k1, k2, k3⟩ => ⟨c', oc, vs, t, k1, hF _ _ k2, k3⟩⟩
  cases q : F' Pt with
  | none => rfl
  | some o =>
    rcases hn Pt (by rw [q]; exact fun z => nomatch z) with z | z
    · exact absurd t2 z
    · exact absurd z hne
theorem digs_lt (n : Nat) : ∀ k x, ∀ d ∈ digs n k x, d < 2 ^ n
  | 0, _, _, h => by cases h
  | k + 1, x, d, h => by
    rcases List.mem_cons.mp h with rfl | h
    · exact Nat.mod_lt _ (Nat.pow_pos (by decide))
    · exact digs_lt n k _ d h
theorem dpos_ok {g : G} (ok : GOk g) {f f6 f8 f9 c8 c9 T8 T9 : Addr} (fn : DefAt g 10 f) (fn6 : DefAt g 6 f6) (fn8 : DefAt g 8 f8) (fn9 : DefAt g 9 f9) (g6 : g.mg "_div2n1n" = some (.ref f6)) (g8 : g.mg "_int2digits" = some (.ref f8)) (g9 : g.mg "_digits2int" = some (.ref f9))
    (hc8 : ∀ o fd, g.hb.get? f8 = some o → o.data = .func fd → fd.code = .ref c8) (hc9 : ∀ o fd, g.hb.get? f9 = some o → o.data = .func fd → fd.code = .ref c9) (N8 : NestK g c8 T8) (N9 : NestK g c9 T9) (hT : T8 ≠ T9) {t : Tok} (gL : g.mg "_DIV_LIMIT" = some (.int 4000 t)) (gd : g.mg "divmod" = none) (gN : g.mg "len" = none) (gR : g.mg "reversed" = none)
    (a b : Nat) (ha : a ≠ 0) (ha' : a < 2 ^ 30) (hb : b ≠ 0) (hb' : b < 1073741824) : CallX g (.ref f) [intD a, intD b] [] 41 (fun x => x = T8 ∨ x = T9) (tabs2 T8 T9) (fun F P v => tabs2 T8 T9 F P ∧ Rep F (.tup [intD (a / b), intD (a % b)]) v) := by
  have n1 := bl_pos hb
  have n2 : bl b ≤ 30 := bl_le (k := 30) hb'
  have k2 := (nd_ok (a := a) n1).2
  have k3 := bl_le ha'
  have k0 : 1 ≤ nd a (bl b) := by
    rcases Nat.eq_zero_or_pos (nd a (bl b)) with h | h
    · have := (nd_ok (a := a) n1).1; have := bl_pos ha; rw [h] at *; omega
    · exact h
  have hlt : a < 2 ^ (bl b * nd a (bl b)) := Nat.lt_of_lt_of_le (bl_lt a) (Nat.pow_le_pow_right (by decide) (nd_ok n1).1)
  obtain ⟨dv1, dv2⟩ := ldiv_div (bl b) b a (nd a (bl b)) (Nat.pos_of_ne_zero hb) hlt
  have lok := ldiv_ok (bl b) b (Nat.pos_of_ne_zero hb)
  have dlt := digs_lt (bl b) (nd a (bl b)) a
  have dlen := digs_len (bl b) (nd a (bl b)) a
  refine CallC.toX (CallC.fn (ns := ["a", "b"]) (ds := [intD a, intD b]) (d := .tup [intD (a / b), intD (a % b)]) (out := .ret (.tup [intD (a / b), intD (a % b)])) ok fn.fun (sc_ok (by decide +kernel)) rfl (fun doc pm an cdv ct A F P vs kvs hb hf hr hk s hP => ?_) (fun F P F' P' h e => h.ext e) (fun F P h => h.some) (fun F P v h => h.1.off) rfl fun A fx L cells cd cx he hW _ => ?_)
  · obtain ⟨v, w, rfl, r1, r2⟩ := RepL.two hr
    simp only [List.map_nil, RepL] at hk
    subst hk
    exact wpAny_pure ⟨_, s.toks, P, rfl, hP, F, [v, w], rfl, .refl hf, .cons r1 (.cons r2 .nil)⟩
  · obtain ⟨w1, w2⟩ := hW T8 (.inl rfl)
    obtain ⟨w3, w4⟩ := hW T9 (.inr rfl)
    refine ⟨XS.tabs T8 T9, XS.tabs T8 T9, fun F P h => ⟨⟨h.1, w1, w2⟩, h.2, w3, w4⟩, fun F P v h r => ⟨⟨h.1.1, h.2.1⟩, r⟩, ?_⟩
    obtain ⟨env, F₀, P₀, nm⟩ := fx
    dsimp only at he
    subst he
    refine Sq.assign (intD (bl b)) (Ev.ofX (EvX.meth0 cx (Ev.loc rfl rfl rfl) (gm_int fun A pl i t s Q E h => getMethod_int_bit_length h) Keep.builtin (CallX.of bl_ok) (fun _ _ _ => trivial) (fun _ _ _ _ h => h.elim) rfl)) (AdrOk.loc rfl) rfl ?_
    generalize hn : bl b = n at *
    generalize hk : nd a n = k at *
    generalize hD : digs n k a = ds at *
    refine Sq.assignX (X₁ := XS.tabs T8 T9) (natsD ds) (EvX.call cx (Ev.glob ok g8 rfl rfl) (Keep.fn fn8) (EvL.cons (Ev.loc rfl rfl rfl) (EvL.cons (Ev.loc rfl rfl rfl) EvL.nil)) (i2d_ok ok fn8 hc8 N8 gN a n ha ha' n1 (by omega)) (fun F P y => y.1.1) (fun F P h a ha => by subst ha; exact h.some)) (fun F P y => TabO.wok y.1) (fun F P F' P' v y s po => ⟨⟨⟨po.1, w1, w2⟩, y.2.1.step s (Ne.symm hT), w3, w4⟩, by rw [hk, hD] at po; exact po.2⟩) (AdrOk.loc rfl) rfl ?_
    refine Sq.assign (intD 0) Ev.int (AdrOk.loc rfl) rfl ?_
    refine Sq.own [] (EvN.list EvL.nil (by decide)) (AdrOk.loc rfl) rfl fun lq hlq => ?_
    have nq8 : lq ≠ T8 := hlq T8 fun F P y => y.1.1.some
    have nq9 : lq ≠ T9 := hlq T9 fun F P y => y.2.1.some
    let Q : Nat → List Nat := fun i => (ldiv n b (ds.drop (k - i))).1
    let Rm : Nat → Nat := fun i => (ldiv n b (ds.drop (k - i))).2
    have Q0 : ds.drop (k - 0) = [] := List.drop_eq_nil_of_le (by omega)
    refine Ex.preX ((XS.tabs T8 T9).and (XS.own lq ((Q 0).reverse.map intD))) (fun F P y => ⟨y.1, ?_⟩) ?_
    · show Own _ lq (((ldiv n b (ds.drop (k - 0))).1).reverse.map intD) F P
      rw [Q0]; exact y.2
    refine Ex.pre (ρ₁ := [("r", intD (Rm 0)), ("q_digits", .raw (.ref lq)), ("n", intD n), ("b", intD b), ("a_digits", natsD ds)]) ?_ (sub_of (List.forall_mem_cons.mpr ⟨?_, by walk_at "lits"⟩))
    rotate_left
    · show _ = some (intD (ldiv n b (ds.drop (k - 0))).2)
      rw [Q0]; rfl
    refine Sq.forX (fun i => (XS.tabs T8 T9).and (XS.own lq ((Q i).reverse.map intD))) (fun i => [("r", intD (Rm i)), ("q_digits", .raw (.ref lq)), ("n", intD n), ("b", intD b), ("a_digits", natsD ds)]) (ds.map intD).reverse (fun _ _ h => h) ?_ (fun i di hdi => ?_) (fun _ => rfl) ?_
    · exact Itb.rev cx.h cx (Ev.builtin ok gR rfl (by decide) rfl rfl) (Ev.loc rfl rfl rfl)
    · have hi : i < k := by
        have := (List.getElem?_eq_some_iff.mp hdi).1
        rw [List.length_reverse, List.length_map] at this; omega
      rw [List.getElem?_reverse (by rw [List.length_map]; omega), List.length_map, List.getElem?_map, dlen] at hdi
      obtain ⟨d, hd, rfl⟩ := Option.map_eq_some_iff.mp hdi
      obtain ⟨hj, ed⟩ := List.getElem?_eq_some_iff.mp hd
      have dD : ds.drop (k - (i + 1)) = d :: ds.drop (k - i) := by
        have e1 : k - (i + 1) = k - 1 - i := by omega
        have e2 : k - 1 - i + 1 = k - i := by omega
        rw [e1, List.drop_eq_getElem_cons hj, ed, e2]
      have qq : Q (i + 1) = (Rm i * 2 ^ n + d) / b :: Q i := by
        show (ldiv n b (ds.drop (k - (i + 1)))).1 = _
        rw [dD]; rfl
      have rr : Rm (i + 1) = (Rm i * 2 ^ n + d) % b := by
        show (ldiv n b (ds.drop (k - (i + 1)))).2 = _
        rw [dD]; rfl
      have rb : Rm i < b := (lok _).2.1
      have ql : (Q i).length ≤ k := by
        show (ldiv n b (ds.drop (k - i))).1.length ≤ k
        rw [(lok _).2.2, List.length_drop]; omega
      have db : d < 2 ^ n := dlt d (List.mem_of_getElem? hd)
      have p30 : 2 ^ n ≤ 2 ^ 30 := Nat.pow_le_pow_right (by decide) (by omega)
      have mm : Rm i * 2 ^ n ≤ 2 ^ 30 * 2 ^ 30 := Nat.mul_le_mul (by omega) p30
      have big : Rm i * 2 ^ n + d < 2 ^ 3000 := by
        have h1 : Rm i * 2 ^ n + d < 2 ^ 61 := by omega
        exact Nat.lt_of_lt_of_le h1 (Nat.pow_le_pow_right (by decide) (by decide))
      refine ⟨_, Asg.name (AdrOk.loc rfl), ?_⟩
      show Ex _ _ _ ((XS.tabs T8 T9).and (XS.own lq ((Q i).reverse.map intD))) ((XS.tabs T8 T9).and (XS.own lq ((Q (i + 1)).reverse.map intD))) _ (_ :: [("r", intD (Rm i)), ("q_digits", .raw (.ref lq)), ("n", intD n), ("b", intD b), ("a_digits", natsD ds)]) (.next [("r", intD (Rm (i + 1))), ("q_digits", .raw (.ref lq)), ("n", intD n), ("b", intD b), ("a_digits", natsD ds)])
      rw [qq, rr]
      generalize Rm i = rm at rb big mm ⊢
      generalize Q i = qi at ql ⊢
      refine Sq.unpack (d := .tup [intD ((rm * 2 ^ n + d) / b), intD ((rm * 2 ^ n + d) % b)]) (Ev.call (cx.le (show 2 ≤ 40 by decide)) (Ev.glob ok g6 rfl rfl) (Keep.fn fn6) (EvL.cons (Ev.conv (Ev.bin (Ev.bin (Ev.loc rfl rfl rfl) (Ev.loc rfl rfl rfl) (op_shlN (by omega) (by omega))) (Ev.loc rfl rfl rfl) op_add) (by rw [intD]; push_cast; rfl)) (EvL.cons (Ev.loc rfl rfl rfl) (EvL.cons (Ev.loc rfl rfl rfl) EvL.nil))) (d2n_ok ok fn6 gL gd (rm * 2 ^ n + d) b n big hb hb')) (Asg.tup cx.h (AsgL.cons (Asg.name (AdrOk.loc rfl)) (AsgL.cons (Asg.name (AdrOk.loc rfl)) AsgL.nil)) rfl rfl) rfl rfl ?_
      refine Sq.exprX (X₁ := (XS.tabs T8 T9).and (XS.own lq (((rm * 2 ^ n + d) / b :: qi).reverse.map intD))) (EvX.meth cx (Ev.loc rfl rfl rfl) (gm_own PySem.F.slot_list_append PySem.F.type_list_append fun F P y => by obtain ⟨xs, m, q1, _⟩ := y.2; exact ⟨xs, m, q1⟩) Keep.builtin (EvL.cons (Ev.loc rfl rfl rfl) EvL.nil) (append_ok (ds := qi.reverse.map intD) (by rw [List.length_map, List.length_reverse]; omega)) (fun F P y => y.2.toP) (fun F P y a h => by subst h; exact y.some) rfl) (fun F P y => y.2.wok) (fun F P F' P' v y s po => ⟨⟨⟨y.1.1.1.step s (Ne.symm nq8), w1, w2⟩, y.1.2.1.step s (Ne.symm nq9), w3, w4⟩, ?_⟩) (Sq.nil rfl (sub_of (by walk_at "lits"))) rfl rfl
      rw [List.reverse_cons, List.map_append]
      exact po.1.own y.2.fresh' y.2.nmut'
    · have e0 : ((ds.map intD).reverse).length = k := by rw [List.length_reverse, List.length_map, dlen]
      rw [e0]
      have eQ : Q k = (ldiv n b ds).1 := by show (ldiv n b (ds.drop (k - k))).1 = _; rw [Nat.sub_self, List.drop_zero]
      have eR : Rm k = (ldiv n b ds).2 := by show (ldiv n b (ds.drop (k - k))).2 = _; rw [Nat.sub_self, List.drop_zero]
      rw [eQ, eR, dv2]
      have qlen := (lok ds).2.2
      generalize (ldiv n b ds).1 = qs at dv1 qlen ⊢
      refine Sq.exprX (X₁ := (XS.tabs T8 T9).and (XS.own lq (qs.map intD))) (EvX.meth0 cx (Ev.loc rfl rfl rfl) (gm_own PySem.F.slot_list_reverse PySem.F.type_list_reverse fun F P y => by obtain ⟨xs, m, q1, _⟩ := y.2; exact ⟨xs, m, q1⟩) Keep.builtin (reverse_ok (ds := qs.reverse.map intD) (by rw [List.length_map, List.length_reverse]; omega)) (fun F P y => y.2.toP) (fun F P y a h => by subst h; exact y.some) rfl) (fun F P y => y.2.wok) (fun F P F' P' v y s po => ⟨⟨⟨y.1.1.1.step s (Ne.symm nq8), w1, w2⟩, y.1.2.1.step s (Ne.symm nq9), w3, w4⟩, ?_⟩) ?_ rfl rfl
      · have ow := po.1
        rw [← List.map_reverse, List.reverse_reverse] at ow
        exact ow.own y.2.fresh' y.2.nmut'
      refine Ex.freeze lq (qs.map intD) ((XS.tabs T8 T9).and (XS.rep (natsD qs) (.ref lq))) (fun F P y => y.2) (fun F P F' y hF hn r => ⟨⟨⟨y.1.1.1.freeze hF hn (Ne.symm nq8), w1, w2⟩, y.1.2.1.freeze hF hn (Ne.symm nq9), w3, w4⟩, r⟩) ?_
      refine Sq.assignX (X₁ := XS.tabs T8 T9) (intD (a / b)) (EvX.call cx (Ev.glob ok g9 rfl rfl) (Keep.fn fn9) (EvL.cons (Ev.asLst (Ev.loc rfl rfl rfl) (fun F P y => y.2)) (EvL.cons (Ev.loc rfl rfl rfl) EvL.nil)) (d2i_ok ok fn9 hc9 N9 gN qs n (fun q => by rw [q] at qlen; simp at qlen; omega) (by omega) (by omega) (by rw [dv1]; exact Nat.lt_of_le_of_lt (Nat.div_le_self _ _) (by omega))) (fun F P y => y.1.2.1) (fun F P h a ha => by subst ha; exact h.some)) (fun F P y => TabO.wok y.1.2) (fun F P F' P' v y s po => ⟨⟨⟨y.1.1.1.step s hT, w1, w2⟩, po.1, w3, w4⟩, by rw [← dv1]; exact po.2⟩) (AdrOk.loc rfl) rfl ?_
      exact Sq.ret (Ev.tuple (EvL.cons (Ev.loc rfl rfl rfl) (EvL.cons (Ev.loc rfl rfl rfl) EvL.nil)) (Nat.le_of_ble_eq_true rfl))
theorem idiv_ok {g : G} (ok : GOk g) {f f6 f8 f9 f10 c8 c9 T8 T9 : Addr} (fn : DefAt g 11 f) (fn10 : DefAt g 10 f10) (fn6 : DefAt g 6 f6) (fn8 : DefAt g 8 f8) (fn9 : DefAt g 9 f9) (g10 : g.mg "_divmod_pos" = some (.ref f10)) (g6 : g.mg "_div2n1n" = some (.ref f6)) (g8 : g.mg "_int2digits" = some (.ref f8)) (g9 : g.mg "_digits2int" = some (.ref f9))
    (hc8 : ∀ o fd, g.hb.get? f8 = some o → o.data = .func fd → fd.code = .ref c8) (hc9 : ∀ o fd, g.hb.get? f9 = some o → o.data = .func fd → fd.code = .ref c9) (N8 : NestK g c8 T8) (N9 : NestK g c9 T9) (hT : T8 ≠ T9) {t : Tok} (gL : g.mg "_DIV_LIMIT" = some (.int 4000 t)) (gd : g.mg "divmod" = none) (gN : g.mg "len" = none) (gR : g.mg "reversed" = none)
    (a b : Nat) (ha : a ≠ 0) (ha' : a < 2 ^ 30) (hb : b ≠ 0) (hb' : b < 1073741824) : CallX g (.ref f) [intD a, intD b] [] 42 (fun x => x = T8 ∨ x = T9) (tabs2 T8 T9) (fun F P v => tabs2 T8 T9 F P ∧ Rep F (.tup [intD (a / b), intD (a % b)]) v) := by
  refine CallC.toX (CallC.fn (ns := ["a", "b"]) (ds := [intD a, intD b]) (d := .tup [intD (a / b), intD (a % b)]) (out := .ret (.tup [intD (a / b), intD (a % b)])) ok fn.fun (sc_ok (by decide +kernel)) rfl (fun doc pm an cdv ct A F P vs kvs hb hf hr hk s hP => ?_) (fun F P F' P' h e => h.ext e) (fun F P h => h.some) (fun F P v h => h.1.off) rfl fun A fx L cells cd cx he hW _ => ?_)
  · obtain ⟨v, w, rfl, r1, r2⟩ := RepL.two hr
    simp only [List.map_nil, RepL] at hk
    subst hk
    exact wpAny_pure ⟨_, s.toks, P, rfl, hP, F, [v, w], rfl, .refl hf, .cons r1 (.cons r2 .nil)⟩
  · obtain ⟨w1, w2⟩ := hW T8 (.inl rfl)
    obtain ⟨w3, w4⟩ := hW T9 (.inr rfl)
    refine ⟨XS.tabs T8 T9, XS.tabs T8 T9, fun F P h => ⟨⟨h.1, w1, w2⟩, h.2, w3, w4⟩, fun F P v h r => ⟨⟨h.1.1, h.2.1⟩, r⟩, ?_⟩
    obtain ⟨env, F₀, P₀, nm⟩ := fx
    dsimp only at he
    subst he
    refine Sq.ifE (EvB.conv (EvB.cmp (Ev.loc rfl rfl rfl) Ev.int cmp_eq) (by simp; omega)) ?_
    refine Sq.ifE (EvB.conv (EvB.cmp (Ev.loc rfl rfl rfl) Ev.int cmp_lt) (by simp)) ?_
    refine Sq.ifE (EvB.conv (EvB.cmp (Ev.loc rfl rfl rfl) Ev.int cmp_lt) (by simp)) ?_
    exact Sq.retX (EvX.call cx (Ev.glob ok g10 rfl rfl) (Keep.fn fn10) (EvL.cons (Ev.loc rfl rfl rfl) (EvL.cons (Ev.loc rfl rfl rfl) EvL.nil)) (dpos_ok ok fn10 fn6 fn8 fn9 g6 g8 g9 hc8 hc9 N8 N9 hT gL gd gN gR a b ha ha' hb hb') (fun F P y => ⟨y.1.1, y.2.1⟩) (fun F P h => h.some)) (fun F P y => tabs_wok y) (fun F P F' P' v y s po => ⟨⟨⟨po.1.1, w1, w2⟩, po.1.2, w3, w4⟩, po.2⟩)
end TL
end
section
namespace TL
open PySem PySem.W PyProof.Rows PySem.Calls PyProof.Rows.LCg
local macro_rules | `(tactic| walk_at "lits") => `(tactic| (repeat' (first | exact List.forall_mem_nil _ | refine List.forall_mem_cons.mpr ⟨⟨rfl, rfl⟩, ?_⟩ | refine List.forall_mem_cons.mpr ⟨rfl, ?_⟩)))
local macro_rules | `(tactic| walk_at "ev") => `(tactic| (repeat' (first | with_reducible exact EvL.nil | (with_reducible refine EvL.cons ?_ ?_ ?_) | with_reducible exact Ev.int | with_reducible exact Ev.str | ((with_reducible refine Ev.loc ?_ ?_ ?_) <;> rfl) | ((with_reducible refine Ev.cell ?_ ?_ ?_) <;> rfl) | (with_reducible refine Ev.tuple ?_ ?_) | (with_reducible refine Ev.list ?_ ?_) | (with_reducible refine Ev.subK ?_ ?_ ?_) | (with_reducible refine Nat.le_of_ble_eq_true ?_) | (show _ = _; rfl))))
section
variable {g : G} {A : Around} {fx : Fx} {ρ : List (Str × D)} {X X₁ X' : XS fx} {o : Out}
theorem Sq.iffX {W : Addr → Prop} {Post : PH → PH → Value → Prop} {op : CmpOp} {a b : Expr} {cpos pos : Pos} {body r : List Stmt} (d₁ : D) {d₂ : D} (h : EvX g A fx.env ρ X.toXP W a Post) (hW : ∀ F P, X.p F P → WOk fx W P) (hX : ∀ F P F' P' v, X.p F P → Step W F P F' P' → Post F' P' v → X₁.p F' P' ∧ Rep F' d₁ v) (h₂ : Ev g A fx.env ρ X₁.toXP b d₂) (ho : Op2 g A (compareOp op) d₁ d₂ (.bool false))
    (k : Ex g A fx X₁ X' (execs r fx.env) ρ o) (hm : behindInMarks op b = false := by with_unfolding_all rfl) : Ex g A fx X X' (execs (.If (.Compare a [op] [b] cpos) body [] pos :: r) fx.env) ρ o := Ex.mk fun F P I V M x s hs => by
  refine wpAny_execs_cons (wpAny_If (wpAny_isTrue_Compare1 ((h.run F P V x).out hs fun h tk P₁ v₁ hP₁ ⟨F₁, s₁, post⟩ => ?_) hm))
  obtain ⟨t₁, I₁, V₁⟩ := (hW _ _ x).go s₁ I V
  obtain ⟨x₁, r₁⟩ := hX _ _ _ _ _ x s₁ post
  refine (h₂.run F₁ P₁ V₁ x₁).out hP₁ fun h tk P₂ v₂ hP₂ ⟨F₂, e₂, r₂⟩ => ?_
  refine ho F₂ v₁ v₂ _ _ _ (hP₂.sub e₂.fp) (r₁.sub e₂.f) r₂ fun v tk r => ?_
  simp only [Rep] at r
  subst r
  refine wpAny_truthy_bool ?_
  refine wpAny_execs_nil ?_
  exact (k.run F₂ P₂ (I₁.trans e₂) (V₁.ext e₂) (V₁.ext e₂).m (X₁.st _ _ _ _ x₁ e₂)).out hP₂ fun h tk P₃ f hP₃ ⟨F₃, t₃, I₃, x₃, q⟩ => ⟨_, _, P₃, rfl, hP₃, F₃, (t₁.trans e₂.soft).trans t₃, I₃, x₃, q⟩
end
noncomputable def forestsD (fs : List (List Nat)) : D := .lst (fs.map natsD)
noncomputable def parts (fs : List (List Nat)) (i j : Nat) : Nat := (fs.filter fun m => m.getD i 0 != m.getD j 0).length
noncomputable def quads2 : List (Nat × Nat × Nat × Nat) := [(0, 1, 2, 3), (1, 0, 2, 3), (2, 0, 1, 3), (3, 0, 1, 2)]
noncomputable def crossOf (sq : List (List Int)) (i j k : Nat) : Int := at2 sq i i * at2 sq j k - at2 sq i j * at2 sq i k
noncomputable def toldOf (sq far : List (List Int)) (i j k : Nat) : Int := (at2 far 0 i + at2 far 0 k - at2 far i k) * at2 sq k j
structure SquareOk (sq far : List (List Int)) (T : Nat) (fs : List (List Nat)) : Prop where
  sq4 : Sq4 sq
  far4 : Sq4 far
  fs4 : ∀ m ∈ fs, m.length = 4
  few : fs.length ≤ 4096
  bs : ∀ i j, i < 4 → j < 4 → -1000 ≤ at2 sq i j ∧ at2 sq i j ≤ 1000
  bf : ∀ i j, i < 4 → j < 4 → -1000 ≤ at2 far i j ∧ at2 far i j ≤ 1000
  apart : ∀ i j, i < 4 → j < i → at2 far i j = (parts fs i j : Int)
  div : ∀ t ∈ quads2, ∃ a b : Nat, at2 far t.1 t.2.2.1 * at2 far t.1 t.2.2.2 - crossOf sq t.2.1 t.2.2.1 t.2.2.2 * crossOf sq t.2.1 t.2.2.1 t.2.2.2 = (a : Int) ∧ at2 sq t.2.1 t.2.1 = (b : Int) ∧ a ≠ 0 ∧ a < 2 ^ 30 ∧ b ≠ 0 ∧ b < 1073741824 ∧ a / b = T ∧ a % b = 0
  turn : ∀ i j, (i = 1 ∨ i = 2 ∨ i = 3) → (j = 1 ∨ j = 2 ∨ j = 3) → ([1, 2, 3].map (toldOf sq far i j)).sum = if i = j then 2 * (T : Int) else 0
theorem quads2_lt : ∀ t ∈ quads2, t.1 < 4 ∧ t.2.1 < 4 ∧ t.2.2.1 < 4 ∧ t.2.2.2 < 4 := by decide
theorem lo1000 {x : Int} (h : -1000 ≤ x) : -(2 ^ 64) < x := Int.lt_of_lt_of_le (by decide) h
theorem hi1000 {x : Int} (h : x ≤ 1000) : x < 2 ^ 64 := Int.lt_of_le_of_lt h (by decide)
theorem mul1000 {x y : Int} (h1 : -1000 ≤ x ∧ x ≤ 1000) (h2 : -1000 ≤ y ∧ y ≤ 1000) : -1000000 ≤ x * y ∧ x * y ≤ 1000000 := by
  have a1 : (x * y).natAbs = x.natAbs * y.natAbs := Int.natAbs_mul x y
  have a2 : x.natAbs * y.natAbs ≤ 1000 * 1000 := Nat.mul_le_mul (by omega) (by omega)
  omega
theorem sub1000 {x y : Int} (h1 : -1000000 ≤ x ∧ x ≤ 1000000) (h2 : -1000000 ≤ y ∧ y ≤ 1000000) : -(2 ^ 64) < x - y ∧ x - y < 2 ^ 64 := by omega
theorem add1000 {x y z : Int} (h1 : -1000 ≤ x ∧ x ≤ 1000) (h2 : -1000 ≤ y ∧ y ≤ 1000) (h3 : -1000 ≤ z ∧ z ≤ 1000) : -(2 ^ 64) < x + y - z ∧ x + y - z < 2 ^ 64 := by omega
theorem lt4_123 {i : Nat} (h : i = 1 ∨ i = 2 ∨ i = 3) : i < 4 := by omega
theorem small4' {k : Nat} (h : k < 4) : k < 2 ^ 63 := Nat.lt_trans h (by decide)
theorem bsq_ok {g : G} (ok : GOk g) {f f6 f8 f9 f10 f11 c8 c9 T8 T9 : Addr} (fn : DefAt g 26 f) (fn11 : DefAt g 11 f11) (fn10 : DefAt g 10 f10) (fn6 : DefAt g 6 f6) (fn8 : DefAt g 8 f8) (fn9 : DefAt g 9 f9) (g11 : g.mg "int_divmod" = some (.ref f11)) (g10 : g.mg "_divmod_pos" = some (.ref f10)) (g6 : g.mg "_div2n1n" = some (.ref f6)) (g8 : g.mg "_int2digits" = some (.ref f8)) (g9 : g.mg "_digits2int" = some (.ref f9))
    (hc8 : ∀ o fd, g.hb.get? f8 = some o → o.data = .func fd → fd.code = .ref c8) (hc9 : ∀ o fd, g.hb.get? f9 = some o → o.data = .func fd → fd.code = .ref c9) (N8 : NestK g c8 T8) (N9 : NestK g c9 T9) (hT : T8 ≠ T9) {t : Tok} (gL : g.mg "_DIV_LIMIT" = some (.int 4000 t)) (gd : g.mg "divmod" = none) (gN : g.mg "len" = none) (gR : g.mg "reversed" = none) (gr : g.mg "range" = none) (gs : g.mg "sum" = none)
    (sq far : List (List Int)) (T : Nat) (fs : List (List Nat)) (S : SquareOk sq far T fs) : CallX g (.ref f) [matD sq, matD far, intD T, forestsD fs] [] 43 (fun x => x = T8 ∨ x = T9) (tabs2 T8 T9) (fun F P v => tabs2 T8 T9 F P ∧ Rep F (.bool true) v) := by
  refine CallC.toX (CallC.fn (ns := ["square", "far", "trees", "forests"]) (ds := [matD sq, matD far, intD T, forestsD fs]) (d := .bool true) (out := .ret (.bool true)) ok fn.fun (sc_ok (by decide +kernel)) rfl (fun doc pm an cdv ct A F P vs kvs hb hf hr hk s hP => ?_) (fun F P F' P' h e => h.ext e) (fun F P h => h.some) (fun F P v h => h.1.off) rfl fun A fx L cells cd cx he hW _ => ?_)
  · simp only [RepL] at hr
    obtain ⟨v1, _, rfl, r1, v2, _, rfl, r2, v3, _, rfl, r3, v4, _, rfl, r4, rfl⟩ := hr
    simp only [List.map_nil, RepL] at hk
    subst hk
    exact wpAny_pure ⟨_, s.toks, P, rfl, hP, F, [v1, v2, v3, v4], rfl, .refl hf, .cons r1 (.cons r2 (.cons r3 (.cons r4 .nil)))⟩
  · obtain ⟨w1, w2⟩ := hW T8 (.inl rfl)
    obtain ⟨w3, w4⟩ := hW T9 (.inr rfl)
    refine ⟨XS.tabs T8 T9, XS.tabs T8 T9, fun F P h => ⟨⟨h.1, w1, w2⟩, h.2, w3, w4⟩, fun F P v h r => ⟨⟨h.1.1, h.2.1⟩, r⟩, ?_⟩
    obtain ⟨env, F₀, P₀, nm⟩ := fx
    dsimp only at he
    subst he
    refine Sq.for (fun _ => [("square", matD sq), ("far", matD far), ("trees", intD T), ("forests", forestsD fs)]) ((List.range 4).map intD) (fun _ _ h => h) ?_ (fun i di hd => ?_) (fun _ => rfl) ?_
    · exact EvI.at (.rng 0 4) (Ev.call cx (Ev.builtin ok gr rfl (by decide) rfl rfl) Keep.type (EvL.cons Ev.int EvL.nil) range1) (Itb.rngN cx.h 4 (by decide))
    · rw [List.getElem?_map] at hd
      obtain ⟨i', hi', rfl⟩ := Option.map_eq_some_iff.mp hd
      obtain ⟨hi, e⟩ := List.getElem?_eq_some_iff.mp hi'
      rw [List.getElem_range] at e
      subst e
      rw [List.length_range] at hi
      refine ⟨_, Asg.name (AdrOk.cell rfl), ?_⟩
      refine Sq.for (fun _ => [("i", intD i), ("square", matD sq), ("far", matD far), ("trees", intD T), ("forests", forestsD fs)]) ((List.range i).map intD) (fun _ _ h => h) ?_ (fun j dj hd => ?_) (fun _ => rfl) (Sq.nil rfl (sub_of (by walk_at "lits")))
      · exact EvI.at (.rng 0 i) (Ev.call cx (Ev.builtin ok gr rfl (by decide) rfl rfl) Keep.type (EvL.cons (Ev.cell rfl rfl rfl) EvL.nil) range1) (Itb.rngN cx.h i (Nat.lt_trans hi (by decide)))
      · rw [List.getElem?_map] at hd
        obtain ⟨j', hj', rfl⟩ := Option.map_eq_some_iff.mp hd
        obtain ⟨hj, e⟩ := List.getElem?_eq_some_iff.mp hj'
        rw [List.getElem_range] at e
        subst e
        rw [List.length_range] at hj
        refine ⟨_, Asg.name (AdrOk.cell rfl), ?_⟩
        have hj4 : j < 4 := Nat.lt_trans hj hi
        refine Sq.iff (EvB.conv (EvB.cmp (Ev.at2 S.far4 hi hj4 (Ev.cell rfl rfl rfl) (Ev.cell rfl rfl rfl) (Ev.cell rfl rfl rfl)) (Ev.call cx (Ev.builtin ok gN rfl (by decide) rfl rfl) Keep.builtin (EvL.cons (Ev.map2 [("i", intD i), ("j", intD j)] fs natsD (fun m => m.getD i 0 != m.getD j 0) natsD (scOk_of rfl) (Ev.loc rfl rfl rfl) (fun _ => rfl) (Itb.lst cx.h) (by walk_at "lits") rfl (fun _ _ => .inl ⟨rfl, .inl rfl⟩) (fun C1 c1 m hm => ?_) (fun C1 c1 m hm hq => Ev.loc rfl rfl rfl) S.few) EvL.nil) (len_lst ?_)) cmp_ne) ?_) (Sq.nil rfl (sub_of (by walk_at "lits")))
        · have hm4 := S.fs4 m hm
          have g1 : ∀ k, k < 4 → (m.map intD)[k]? = some (intD (m.getD k 0)) := fun k hk => by
            rw [List.getElem?_map, List.getD_eq_getElem?_getD, List.getElem?_eq_getElem (by rw [hm4]; exact hk)]; rfl
          refine EvB.conv (EvB.cmp (Ev.subN (Ev.loc rfl rfl rfl) (Ev.cell rfl rfl rfl) (g1 i hi) (small4' hi)) (Ev.subN (Ev.loc rfl rfl rfl) (Ev.cell rfl rfl rfl) (g1 j hj4) (small4' hj4)) cmp_ne) ?_
          rw [Bool.eq_iff_iff]; simp only [bne_iff_ne, ne_eq]; exact not_congr Int.ofNat_inj
        · rw [List.length_map]; exact Nat.le_trans (List.length_filter_le _ _) S.few
        · rw [List.length_map, S.apart i j hi hj]
          simp [parts]
    refine Sq.for (fun _ => [("square", matD sq), ("far", matD far), ("trees", intD T), ("forests", forestsD fs)]) (quads2.map quadD) (fun _ _ h => h) ?_ (fun q di hd => ?_) (fun _ => rfl) ?_
    · refine EvI.at (.lst (quads2.map quadD)) ?_ (Itb.lst cx.h)
      refine Ev.as (.lst [.tup [.int 0, .int 1, .int 2, .int 3], .tup [.int 1, .int 0, .int 2, .int 3], .tup [.int 2, .int 0, .int 1, .int 3], .tup [.int 3, .int 0, .int 1, .int 2]]) ?_ rfl
      walk_at "ev"
    · rw [List.getElem?_map] at hd
      obtain ⟨t, ht, rfl⟩ := Option.map_eq_some_iff.mp hd
      have hm := List.mem_of_getElem? ht
      obtain ⟨l1, l2, l3, l4⟩ := quads2_lt t hm
      obtain ⟨a, b, d1, d2, d3, d4, d5, d6, d7, d8⟩ := S.div t hm
      refine ⟨_, Asg.tup cx.h (AsgL.cons (Asg.name (AdrOk.loc rfl)) (AsgL.cons (Asg.name (AdrOk.cell rfl)) (AsgL.cons (Asg.name (AdrOk.cell rfl)) (AsgL.cons (Asg.name (AdrOk.loc rfl)) AsgL.nil)))) rfl rfl, ?_⟩
      have bii := S.bs _ _ l2 l2
      have bij := S.bs _ _ l2 l3
      have bik := S.bs _ _ l2 l4
      have bjk := S.bs _ _ l3 l4
      have fvj := S.bf _ _ l1 l3
      have cb : -(2 ^ 64) < crossOf sq t.2.1 t.2.2.1 t.2.2.2 ∧ crossOf sq t.2.1 t.2.2.1 t.2.2.2 < 2 ^ 64 := by
        exact sub1000 (mul1000 bii bjk) (mul1000 bij bik)
      refine Sq.assign (.int (crossOf sq t.2.1 t.2.2.1 t.2.2.2)) (Ev.bin (Ev.bin (Ev.at2 S.sq4 l2 l2 (Ev.cell rfl rfl rfl) (Ev.cell rfl rfl rfl) (Ev.cell rfl rfl rfl)) (Ev.at2 S.sq4 l3 l4 (Ev.cell rfl rfl rfl) (Ev.cell rfl rfl rfl) (Ev.loc rfl rfl rfl)) (op_mul (lo1000 bii.1) (hi1000 bii.2))) (Ev.bin (Ev.at2 S.sq4 l2 l3 (Ev.cell rfl rfl rfl) (Ev.cell rfl rfl rfl) (Ev.cell rfl rfl rfl)) (Ev.at2 S.sq4 l2 l4 (Ev.cell rfl rfl rfl) (Ev.cell rfl rfl rfl) (Ev.loc rfl rfl rfl)) (op_mul (lo1000 bij.1) (hi1000 bij.2))) op_sub) (AdrOk.loc rfl) rfl ?_
      refine Sq.iffX (X₁ := XS.tabs T8 T9) (W := fun x => x = T8 ∨ x = T9) (.tup [intD T, intD 0]) (EvX.call cx (Ev.glob ok g11 rfl rfl) (Keep.fn fn11) (EvL.cons (d := intD a) (Ev.conv (Ev.bin (Ev.bin (Ev.at2 S.far4 l1 l3 (Ev.cell rfl rfl rfl) (Ev.loc rfl rfl rfl) (Ev.cell rfl rfl rfl)) (Ev.at2 S.far4 l1 l4 (Ev.cell rfl rfl rfl) (Ev.loc rfl rfl rfl) (Ev.loc rfl rfl rfl)) (op_mul (lo1000 fvj.1) (hi1000 fvj.2))) (Ev.bin (Ev.loc rfl rfl rfl) (Ev.loc rfl rfl rfl) (op_mul cb.1 cb.2)) op_sub) (by rw [d1]; rfl)) (EvL.cons (d := intD b) (Ev.conv (Ev.at2 S.sq4 l2 l2 (Ev.cell rfl rfl rfl) (Ev.cell rfl rfl rfl) (Ev.cell rfl rfl rfl)) (by rw [d2]; rfl)) EvL.nil)) (idiv_ok ok fn11 fn10 fn6 fn8 fn9 g10 g6 g8 g9 hc8 hc9 N8 N9 hT gL gd gN gR a b d3 d4 d5 d6) (fun F P y => ⟨y.1.1, y.2.1⟩) (fun F P h => h.some)) (fun F P y => tabs_wok y) (fun F P F' P' v y s po => ⟨⟨⟨po.1.1, w1, w2⟩, po.1.2, w3, w4⟩, ?_⟩) (Ev.tuple (EvL.cons (Ev.loc rfl rfl rfl) (EvL.cons Ev.int EvL.nil)) (Nat.le_of_ble_eq_true rfl)) (ne_same (n := 0) (cx.le (by decide)) (by decide) fun d hd => ?_) (Sq.nil rfl (sub_of (by walk_at "lits")))
      · have := po.2
        rw [d7, d8] at this
        exact this
      · simp only [List.mem_cons, List.not_mem_nil, or_false] at hd
        rcases hd with rfl | rfl <;> trivial
    have three : ∀ (k : Nat) (d : D), ([intD 1, intD 2, intD 3] : List D)[k]? = some d → ∃ i, (i = 1 ∨ i = 2 ∨ i = 3) ∧ d = intD i := fun k d h => by
      match k, h with
      | 0, h => cases h; exact ⟨1, .inl rfl, rfl⟩
      | 1, h => cases h; exact ⟨2, .inr (.inl rfl), rfl⟩
      | 2, h => cases h; exact ⟨3, .inr (.inr rfl), rfl⟩
      | k + 3, h => simp at h
    refine Sq.for (fun _ => [("square", matD sq), ("far", matD far), ("trees", intD T), ("forests", forestsD fs)]) [intD 1, intD 2, intD 3] (fun _ _ h => h) ?_ (fun q di hd => ?_) (fun _ => rfl) (Sq.ret Ev.bool)
    · exact EvI.at (.tup [intD 1, intD 2, intD 3]) (Ev.tuple (EvL.cons Ev.int (EvL.cons Ev.int (EvL.cons Ev.int EvL.nil))) (by decide)) (Itb.tup cx.h)
    · obtain ⟨i, hi, rfl⟩ := three q di hd
      have hi4 : i < 4 := lt4_123 hi
      refine ⟨_, Asg.name (AdrOk.cell rfl), ?_⟩
      refine Sq.for (fun _ => [("i", intD i), ("square", matD sq), ("far", matD far), ("trees", intD T), ("forests", forestsD fs)]) [intD 1, intD 2, intD 3] (fun _ _ h => h) ?_ (fun q dj hd => ?_) (fun _ => rfl) (Sq.nil rfl (sub_of (by walk_at "lits")))
      · exact EvI.at (.tup [intD 1, intD 2, intD 3]) (Ev.tuple (EvL.cons Ev.int (EvL.cons Ev.int (EvL.cons Ev.int EvL.nil))) (by decide)) (Itb.tup cx.h)
      · obtain ⟨j, hj, rfl⟩ := three q dj hd
        have hj4 : j < 4 := lt4_123 hj
        refine ⟨_, Asg.name (AdrOk.cell rfl), ?_⟩
        refine Sq.assign (.int ([1, 2, 3].map (toldOf sq far i j)).sum) ?_ (AdrOk.loc rfl) rfl ?_
        · refine Ev.call cx (Ev.builtin ok gs rfl (by decide) rfl rfl) Keep.builtin (EvL.cons (Ev.conv (Ev.map1 [("far", matD far), ("i", intD i), ("square", matD sq), ("j", intD j)] [1, 2, 3] intD (fun k => .int (toldOf sq far i j k)) (d := .tup [intD 1, intD 2, intD 3]) (scOk_of rfl) (Ev.tuple (EvL.cons Ev.int (EvL.cons Ev.int (EvL.cons Ev.int EvL.nil))) (by decide)) (fun _ => rfl) (Itb.tup cx.h) (by walk_at "lits") rfl (fun _ _ => .inl ⟨rfl, .inl rfl⟩) (fun C1 c1 k hk => ?_) (by decide)) ?_) EvL.nil) sum_ok
          · have hk4 : k < 4 := by
              simp only [List.mem_cons, List.not_mem_nil, or_false] at hk
              exact lt4_123 hk
            have f0 : 0 < 4 := by decide
            have b1 := S.bf 0 i f0 hi4
            have b2 := S.bf 0 k f0 hk4
            have b3 := S.bf i k hi4 hk4
            exact Ev.bin (Ev.bin (Ev.bin (Ev.at2 S.far4 f0 hi4 (Ev.cell rfl rfl rfl) (Ev.int (i := 0)) (Ev.cell rfl rfl rfl)) (Ev.at2 S.far4 f0 hk4 (Ev.cell rfl rfl rfl) (Ev.int (i := 0)) (Ev.loc rfl rfl rfl)) op_add) (Ev.at2 S.far4 hi4 hk4 (Ev.cell rfl rfl rfl) (Ev.cell rfl rfl rfl) (Ev.loc rfl rfl rfl)) op_sub) (Ev.at2 S.sq4 hk4 hj4 (Ev.cell rfl rfl rfl) (Ev.loc rfl rfl rfl) (Ev.cell rfl rfl rfl)) (op_mul (add1000 b1 b2 b3).1 (add1000 b1 b2 b3).2)
          · rw [intsD, List.map_map]; rfl
        refine Sq.iff (EvB.conv (EvB.cmp (Ev.loc rfl rfl rfl) (Ev.ite (c := decide (i = j)) (d := .int (if i = j then 2 * (T : Int) else 0)) (EvB.conv (EvB.cmp (Ev.cell rfl rfl rfl) (Ev.cell rfl rfl rfl) cmp_eq) ?_) (fun h => Ev.conv (Ev.bin Ev.int (Ev.loc rfl rfl rfl) (op_mul (by decide) (by decide))) ?_) (fun h => Ev.conv Ev.int ?_)) cmp_ne) ?_) (Sq.nil rfl (sub_of (by walk_at "lits")))
        · rw [Bool.eq_iff_iff]; simp only [beq_iff_eq, decide_eq_true_eq]; exact Int.ofNat_inj
        · rw [if_pos (of_decide_eq_true h)]
        · rw [if_neg (of_decide_eq_false h)]
        · rw [S.turn i j hi hj]; simp
end TL
end
section
namespace TL
open PySem PySem.W PyProof.Rows PySem.Calls PyProof.Rows.LCg PySem.SeqAt
local macro_rules | `(tactic| walk_at "lits") => `(tactic| (repeat' (first | exact List.forall_mem_nil _ | refine List.forall_mem_cons.mpr ⟨⟨rfl, rfl⟩, ?_⟩ | refine List.forall_mem_cons.mpr ⟨rfl, ?_⟩)))
local macro_rules | `(tactic| walk_at "ev") => `(tactic| (repeat' (first | with_reducible exact EvL.nil | (with_reducible refine EvL.cons ?_ ?_ ?_) | with_reducible exact Ev.int | with_reducible exact Ev.str | ((with_reducible refine Ev.loc ?_ ?_ ?_) <;> rfl) | ((with_reducible refine Ev.cell ?_ ?_ ?_) <;> rfl) | (with_reducible refine Ev.tuple ?_ ?_) | (with_reducible refine Ev.list ?_ ?_) | (with_reducible refine Ev.subK ?_ ?_ ?_) | (with_reducible refine Nat.le_of_ble_eq_true ?_) | (show _ = _; rfl))))
section
variable {g : G} {A : Around} {env : Env} {ρ : List (Str × D)} {X : XP}
theorem EvB.and2 {a b : Expr} {pos : Pos} {p q : Bool} (h₁ : EvB g A env ρ X a p) (h₂ : EvB g A env ρ X b q) : EvB g A env ρ X (.BoolOp .And [a, b] pos) (p && q) := EvB.mk fun F P V x s hs => by
  refine PyProof.Rows.isTrue_and ((h₁.run F P V x).out hs fun h tk P₁ c hP₁ ⟨F₁, e₁, r₁⟩ => ?_)
  subst r₁
  cases c with
  | false => exact ⟨_, tk, P₁, rfl, hP₁, F₁, e₁, rfl⟩
  | true =>
    refine PyProof.Rows.isTrue_and ((h₂.run F₁ P₁ (V.ext e₁) (X.st _ _ _ _ x e₁)).out hP₁ fun h tk P₂ c hP₂ ⟨F₂, e₂, r₂⟩ => ?_)
    subst r₂
    cases c with
    | false => exact ⟨_, tk, P₂, rfl, hP₂, F₂, e₁.trans e₂, rfl⟩
    | true => exact PyProof.Rows.isTrue_and_nil ⟨_, tk, P₂, rfl, hP₂, F₂, e₁.trans e₂, rfl⟩
theorem cmp_neB {a b : Bool} : Op2 g A (compareOp .NotEq) (.bool a) (.bool b) (.bool (a != b)) := fun F v₁ v₂ s Q E hs r₁ r₂ k => by
  simp only [Rep] at r₁ r₂
  subst r₁ r₂
  exact PyProof.Rows.ne_bool (k _ s.toks (by simp only [Rep]))
theorem ne_nil {ds : List D} (cx : Cx A 1) (hl : ds.length ≤ 4096) : Op2 g A (compareOp .NotEq) (.lst ds) (.lst []) (.bool (!ds.isEmpty)) := fun F v₁ v₂ s Q E hs r1 r2 k => by
  simp only [Rep] at r1 r2
  obtain ⟨a, o, xs, k1, rfl, f1, c1, d1, l1⟩ := r1
  obtain ⟨b, o', ys, k2, rfl, f2, c2, d2, l2⟩ := r2
  have hu := cx.u
  have s1 : xs.size = ds.length := by have := l1.length; simpa using this
  have s2 : ys.size = 0 := by have := l2.length; simpa using this
  show wpAny _ A (richCompare .NotEq _ _) Q E s
  cases ds with
  | nil =>
    have R := RcNeAt.lists (A := A) (s := s) (e := fun _ => true) ⟨o, hs _ _ f1, c1.1, k1, d1⟩ ⟨o', hs _ _ f2, c2.1, k2, d2⟩ (by rw [s1, s2]; rfl) (by omega) fun j h1 h2 => by omega
    have e : (!(List.range xs.size).all (fun _ => true)) = false := by rw [s1]; rfl
    rw [e] at R
    exact R g.prog g.w E Q (k _ s.toks (by simp only [Rep]; rfl))
  | cons d r =>
    have R := RcNeAt.lists_lengths (A := A) (s := s) ⟨o, hs _ _ f1, c1.1, k1, d1⟩ ⟨o', hs _ _ f2, c2.1, k2, d2⟩ (by rw [s1, s2]; simp) (by omega)
    exact R g.prog g.w E Q (k _ s.toks (by simp only [Rep]; rfl))
end
section
variable {g : G} {A : Around} {fx : Fx} {ρ : List (Str × D)} {X X' : XS fx} {o : Out}
theorem Sq.mapC {α : Type} (ρc : List (Str × D)) (l : List α) (f h : α → D) {y : Str} {yp spos : Pos} {elt target iter : Expr} {scope : Scope} {pos : Pos} {d : D} {r : List Stmt} (S : ScOk fx.env scope) (hi : Ev g A fx.env ρ X.toXP iter d) (hs : ∀ x, foldedSetIterable iter fx.env x = pure x) (ht : Itb g A d (l.map f) target) (hρ : ∀ p ∈ ρc, ρ.lookup p.1 = some p.2 ∧ scope.names.contains (p.1, NameKind.free) = true)
    (T : ∀ C cells a, a ∈ l → ∃ ρ', Asg g A (ccEnv fx.env scope C cells) (cown scope (ccEnv fx.env scope C cells)) target (f a) ρc ρ' ∧ (∀ x d, ρc.lookup x = some d → ρ'.lookup x = some d) ∧ Ev g A (ccEnv fx.env scope C cells) ρ' X.toXP elt (h a)) (hlen : l.length ≤ 4096)
    (hx : AdrOk fx.env (muts fx.env) y) (hsw : swapsWith (.ListComp elt [⟨target, iter, [], 0⟩] scope pos) (some (.Name y yp)) spos.line fx.env = pure true)
    (k : Ex g A fx X X' (execs r fx.env) ((y, .lst (l.map h)) :: ρ) o) : Ex g A fx X X' (execs (.Assign [.Name y yp] (.ListComp elt [⟨target, iter, [], 0⟩] scope pos) spos :: r) fx.env) ρ o :=
  Sq.assignC ρc (l.map f) (l.map fun a => [h a]) S hi hs ht (by simp) (cap_of hρ) (fun C cells => Turn.map1 (T C cells)) (by rw [flatten1, List.length_map]; exact hlen) hx hsw (flatten1 ..) k
theorem Sq.filC {α : Type} (ρc : List (Str × D)) (l : List α) (f : α → D) (q : α → Bool) (h : α → D) {y : Str} {yp spos : Pos} {elt target iter t : Expr} {scope : Scope} {pos : Pos} {d : D} {r : List Stmt} (S : ScOk fx.env scope) (hi : Ev g A fx.env ρ X.toXP iter d) (hs : ∀ x, foldedSetIterable iter fx.env x = pure x) (ht : Itb g A d (l.map f) target) (hρ : ∀ p ∈ ρc, ρ.lookup p.1 = some p.2 ∧ scope.names.contains (p.1, NameKind.free) = true)
    (T : ∀ C cells a, a ∈ l → ∃ ρ', Asg g A (ccEnv fx.env scope C cells) (cown scope (ccEnv fx.env scope C cells)) target (f a) ρc ρ' ∧ (∀ x d, ρc.lookup x = some d → ρ'.lookup x = some d) ∧ EvB g A (ccEnv fx.env scope C cells) ρ' X.toXP t (q a) ∧ (q a = true → Ev g A (ccEnv fx.env scope C cells) ρ' X.toXP elt (h a))) (hlen : l.length ≤ 4096)
    (hx : AdrOk fx.env (muts fx.env) y) (hsw : swapsWith (.ListComp elt [⟨target, iter, [t], 0⟩] scope pos) (some (.Name y yp)) spos.line fx.env = pure true)
    (k : Ex g A fx X X' (execs r fx.env) ((y, .lst ((l.filter q).map h)) :: ρ) o) : Ex g A fx X X' (execs (.Assign [.Name y yp] (.ListComp elt [⟨target, iter, [t], 0⟩] scope pos) spos :: r) fx.env) ρ o :=
  Sq.assignC ρc (l.map f) (l.map fun a => if q a then [h a] else []) S hi hs ht (by simp) (cap_of hρ) (fun C cells => Turn.map2 (T C cells)) (by rw [flatten_if, List.length_map]; exact Nat.le_trans (List.length_filter_le _ _) hlen) hx hsw (flatten_if ..) k
end
noncomputable abbrev Trip := Nat × Nat × Nat
noncomputable def tripD (t : Trip) : D := .tup [intD t.1, intD t.2.1, intD t.2.2]
noncomputable def threes : List Trip := [(0, 1, 2), (0, 1, 3), (0, 2, 3), (1, 2, 3)]
noncomputable def rot (t : Trip) : List Trip := [(t.1, t.2.2, t.2.1), (t.2.1, t.1, t.2.2), (t.2.2, t.2.1, t.1)]
noncomputable def waysOf (ts : List (Nat × Nat)) : List (List Nat) := (List.range 4).map fun v => pieces (ts.filter fun t => ![t.1, t.2].contains v)
noncomputable def aloneN (fs : List (List Nat)) (t : Trip) : Nat := (fs.filter fun m => (m.getD t.1 0 != m.getD t.2.1 0) && (m.getD t.2.1 0 == m.getD t.2.2 0)).length
noncomputable def cutBy (ws : List (List Nat)) (t : Trip) : Bool := (ws.getD t.1 []).getD t.2.1 0 != (ws.getD t.1 []).getD t.2.2 0
noncomputable def frT (far : List (List Int)) (t : Trip) : Nat := (at2 far t.2.1 t.2.2).toNat
noncomputable def sum3 (l : List Nat) : Nat := l.sum
structure LightOk (ts : List (Nat × Nat)) (far : List (List Int)) (fs : List (List Nat)) : Prop where
  few : ts.length ≤ 4096
  t4 : ∀ t ∈ ts, t.1 < 4 ∧ t.2 < 4
  far4 : Sq4 far
  fs4 : ∀ m ∈ fs, m.length = 4
  fewF : fs.length ≤ 4096
  fr : ∀ i j, i < 4 → j < 4 → ∃ n : Nat, at2 far i j = (n : Int) ∧ n ≤ 4096
  pure1 : ∀ t ∈ threes, ∀ a b c : Nat, (rot t).map (frT far) = [a, b, c] → ∀ x y z : Nat, (rot t).map (aloneN fs) = [x, y, z] → ((a + (b + (c + 0)) : Nat) : Int) - 2 * ((max a (max b c) : Nat) : Int) = 2 * ((min x (min y z) : Nat) : Int)
  pure2 : ∀ t ∈ threes, ∀ x y z : Nat, (rot t).map (aloneN fs) = [x, y, z] → (Float64.cmp (sat x y z) 4607182418800017408 == some Ordering.eq) = !((rot t).filter (cutBy (waysOf ts))).isEmpty
theorem rot_lt : ∀ t ∈ threes, ∀ r ∈ rot t, r.1 < 4 ∧ r.2.1 < 4 ∧ r.2.2 < 4 := by decide
theorem max_lt3 {a b c : Nat} (h1 : a ≤ 4096) (h2 : b ≤ 4096) (h3 : c ≤ 4096) : max a (max b c) < 2 ^ 63 := Nat.lt_of_le_of_lt (Nat.max_le.mpr ⟨h1, Nat.max_le.mpr ⟨h2, h3⟩⟩) (by decide)
theorem min3_mem (x y z : Nat) : ((min x (min y z) : Nat) : Int) = x ∨ ((min x (min y z) : Nat) : Int) = y ∨ ((min x (min y z) : Nat) : Int) = z := by omega
theorem min3_le {x y z : Nat} {w : Int} (h : w = x ∨ w = y ∨ w = z) : ((min x (min y z) : Nat) : Int) ≤ w := by omega
theorem small4 {k : Nat} (h : k < 4) : k < 2 ^ 63 := Nat.lt_trans h (by decide)
theorem light_ok {g : G} (ok : GOk g) {f f13 f23 : Addr} (fn : DefAt g 27 f) (fn13 : DefAt g 13 f13) (fn23 : DefAt g 23 f23) (g13 : g.mg "rgb_to_hsv" = some (.ref f13)) (g23 : g.mg "_law_pieces" = some (.ref f23))
    (gN : g.mg "len" = none) (gr : g.mg "range" = none) (gs : g.mg "sum" = none) (gM : g.mg "max" = none) (gm : g.mg "min" = none)
    (ts : List (Nat × Nat)) (far : List (List Int)) (fs : List (List Nat)) (H : LightOk ts far fs) : CallOk g (.ref f) [tiesD ts, matD far, .lst (fs.map natsD)] (.bool true) 3 := by
  refine CallOk.fn (ns := ["ties", "far", "forests"]) ok fn (sc_ok (by decide +kernel)) rfl (fun pm code doc vs hv => ?_) fun A fx L cells cd cx he => ?_
  · match vs, hv with
    | [v, w, u], _ => rfl
  · obtain ⟨env, F₀, P₀, nm⟩ := fx
    dsimp only at he
    subst he
    have cx1 : Cx A 1 := cx.le (by decide)
    have pl : ∀ ts' : List (Nat × Nat), (∀ t ∈ ts', t.1 < 4 ∧ t.2 < 4) → (pieces ts').length = 4 := fun ts' h => pieces_lt ts' _ rfl h
    have w4 : (waysOf ts).length = 4 := by simp [waysOf]
    have wr : ∀ i, i < 4 → ((waysOf ts).map natsD)[i]? = some (natsD ((waysOf ts).getD i [])) ∧ ((waysOf ts).getD i []).length = 4 := fun i hi => by
      have hi' : i < (waysOf ts).length := by rw [w4]; exact hi
      rw [List.getElem?_map, List.getD_eq_getElem?_getD, List.getElem?_eq_getElem hi']
      refine ⟨rfl, ?_⟩
      have hm := List.getElem_mem hi'
      obtain ⟨v, _, e⟩ := List.mem_map.mp hm
      show ((waysOf ts)[i]).length = 4
      rw [← e]
      exact pl _ fun t ht => H.t4 t ((List.mem_filter.mp ht).1)
    refine Sq.assign (.lst ((waysOf ts).map natsD)) ?_ (AdrOk.cell rfl) rfl ?_
    · refine Ev.conv (Ev.map1 [("ties", tiesD ts)] (List.range 4) intD (fun v => natsD (pieces (ts.filter fun t => ![t.1, t.2].contains v))) (d := .rng 0 4) (scOk_of rfl) (Ev.call cx (Ev.builtin ok gr rfl (by decide) rfl rfl) Keep.type (EvL.cons Ev.int EvL.nil) range1) (fun _ => rfl) (Itb.rngN cx.h 4 (by decide)) (by walk_at "lits") rfl (fun _ _ => .inr ⟨rfl, fun c hc => .inr ⟨"v", rfl, hc⟩⟩) (fun C1 c1 v hv => ?_) (by decide)) ?_
      · refine Ev.call cx (Ev.glob ok g23 rfl rfl) (Keep.fn fn23) (EvL.cons (Ev.map2 [("v", intD v)] ts tieD (fun t => ![t.1, t.2].contains v) tieD (scOk_of rfl) (Ev.cell rfl rfl rfl) (fun _ => rfl) (Itb.lst cx.h) (by walk_at "lits") rfl (fun _ _ => .inl ⟨rfl, .inl rfl⟩) (fun C2 c2 t ht => ?_) (fun C2 c2 t ht hq => Ev.loc rfl rfl rfl) H.few) EvL.nil) (pieces_ok ok fn23 _ fun t ht => H.t4 t ((List.mem_filter.mp ht).1))
        exact EvB.cmp (Ev.cell rfl rfl rfl) (Ev.loc rfl rfl rfl) (cmp_notIn (ns := [t.1, t.2]))
      · rw [waysOf, List.map_map]; rfl
    refine Sq.for (fun _ => [("ways", .lst ((waysOf ts).map natsD)), ("ties", tiesD ts), ("far", matD far), ("forests", .lst (fs.map natsD))]) (threes.map tripD) (fun _ _ h => h) ?_ (fun q di hd => ?_) (fun _ => rfl) (Sq.ret Ev.bool)
    · refine EvI.at (.lst (threes.map tripD)) ?_ (Itb.lst cx.h)
      refine Ev.as (.lst [.tup [.int 0, .int 1, .int 2], .tup [.int 0, .int 1, .int 3], .tup [.int 0, .int 2, .int 3], .tup [.int 1, .int 2, .int 3]]) ?_ rfl
      walk_at "ev"
    · rw [List.getElem?_map] at hd
      obtain ⟨t, ht, rfl⟩ := Option.map_eq_some_iff.mp hd
      have hm := List.mem_of_getElem? ht
      have rl := rot_lt t hm
      refine ⟨_, Asg.name (AdrOk.cell rfl), ?_⟩
      refine Sq.mapC [("three", tripD t)] (List.range 3) intD (fun k => tripD ((rot t).getD k (0, 0, 0))) (d := .rng 0 3) (scOk_of rfl) (Ev.call cx (Ev.builtin ok gr rfl (by decide) rfl rfl) Keep.type (EvL.cons Ev.int EvL.nil) range1) (fun _ => rfl) (Itb.rngN cx.h 3 (by decide)) (by walk_at "lits") (fun C1 c1 k hk => ⟨_, Asg.name (.inl ⟨rfl, .inl rfl⟩), fresh_sub rfl, ?_⟩) (by decide) (AdrOk.loc rfl) rfl ?_
      · have hk3 := List.mem_range.mp hk
        match k, hk3 with
        | 0, _ => exact Ev.tuple (EvL.cons (Ev.sub (Ev.cell rfl rfl rfl) (Ev.loc rfl rfl rfl) (item_tup (j := 0) (by decide) (by decide) rfl rfl)) (EvL.cons (Ev.sub (Ev.cell rfl rfl rfl) (Ev.bin (Ev.loc rfl rfl rfl) Ev.int op_sub) (item_tup (j := 2) (by decide) (by decide) rfl rfl)) (EvL.cons (Ev.sub (Ev.cell rfl rfl rfl) (Ev.bin (Ev.loc rfl rfl rfl) Ev.int op_sub) (item_tup (j := 1) (by decide) (by decide) rfl rfl)) EvL.nil))) (Nat.le_of_ble_eq_true rfl)
        | 1, _ => exact Ev.tuple (EvL.cons (Ev.sub (Ev.cell rfl rfl rfl) (Ev.loc rfl rfl rfl) (item_tup (j := 1) (by decide) (by decide) rfl rfl)) (EvL.cons (Ev.sub (Ev.cell rfl rfl rfl) (Ev.bin (Ev.loc rfl rfl rfl) Ev.int op_sub) (item_tup (j := 0) (by decide) (by decide) rfl rfl)) (EvL.cons (Ev.sub (Ev.cell rfl rfl rfl) (Ev.bin (Ev.loc rfl rfl rfl) Ev.int op_sub) (item_tup (j := 2) (by decide) (by decide) rfl rfl)) EvL.nil))) (Nat.le_of_ble_eq_true rfl)
        | 2, _ => exact Ev.tuple (EvL.cons (Ev.sub (Ev.cell rfl rfl rfl) (Ev.loc rfl rfl rfl) (item_tup (j := 2) (by decide) (by decide) rfl rfl)) (EvL.cons (Ev.sub (Ev.cell rfl rfl rfl) (Ev.bin (Ev.loc rfl rfl rfl) Ev.int op_sub) (item_tup (j := 1) (by decide) (by decide) rfl rfl)) (EvL.cons (Ev.sub (Ev.cell rfl rfl rfl) (Ev.bin (Ev.loc rfl rfl rfl) Ev.int op_sub) (item_tup (j := 0) (by decide) (by decide) rfl rfl)) EvL.nil))) (Nat.le_of_ble_eq_true rfl)
      have e0 : (List.range 3).map (fun k => tripD ((rot t).getD k (0, 0, 0))) = (rot t).map tripD := rfl
      rw [e0]
      refine Sq.mapC [("far", matD far)] (rot t) tripD (fun r => intD (frT far r)) (scOk_of rfl) (Ev.loc rfl rfl rfl) (fun _ => rfl) (Itb.lst cx.h) (by walk_at "lits") (fun C1 c1 r hr => ⟨_, Asg.tup cx.h (AsgL.cons (Asg.name (.inl ⟨rfl, .inl rfl⟩)) (AsgL.cons (Asg.name (.inl ⟨rfl, .inl rfl⟩)) (AsgL.cons (Asg.name (.inl ⟨rfl, .inl rfl⟩)) AsgL.nil))) rfl rfl, sub_of (by walk_at "lits"), ?_⟩) (Nat.le_of_ble_eq_true rfl) (AdrOk.loc rfl) rfl ?_
      · obtain ⟨r1, r2, r3⟩ := rl r hr
        obtain ⟨n, e1, e2⟩ := H.fr _ _ r2 r3
        refine Ev.conv (Ev.at2 H.far4 r2 r3 (Ev.cell rfl rfl rfl) (Ev.loc rfl rfl rfl) (Ev.loc rfl rfl rfl)) ?_
        rw [frT, e1]; rfl
      refine Sq.mapC [("forests", .lst (fs.map natsD))] (rot t) tripD (fun r => intD (aloneN fs r)) (scOk_of rfl) (Ev.loc rfl rfl rfl) (fun _ => rfl) (Itb.lst cx.h) (by walk_at "lits") (fun C1 c1 r hr => ⟨_, Asg.tup cx.h (AsgL.cons (Asg.name (.inr ⟨rfl, fun c hc => .inr ⟨"p", rfl, hc⟩⟩)) (AsgL.cons (Asg.name (.inr ⟨rfl, fun c hc => .inr ⟨"q", rfl, hc⟩⟩)) (AsgL.cons (Asg.name (.inr ⟨rfl, fun c hc => .inr ⟨"r", rfl, hc⟩⟩)) AsgL.nil))) rfl rfl, sub_of (by walk_at "lits"), ?_⟩) (Nat.le_of_ble_eq_true rfl) (AdrOk.loc rfl) rfl ?_
      · obtain ⟨r1, r2, r3⟩ := rl r hr
        refine Ev.conv (Ev.call cx (Ev.builtin ok gN rfl (by decide) rfl rfl) Keep.builtin (EvL.cons (Ev.map2 [("p", intD r.1), ("q", intD r.2.1), ("r", intD r.2.2)] fs natsD (fun m => (m.getD r.1 0 != m.getD r.2.1 0) && (m.getD r.2.1 0 == m.getD r.2.2 0)) natsD (scOk_of rfl) (Ev.cell rfl rfl rfl) (fun _ => rfl) (Itb.lst cx.h) (by walk_at "lits") rfl (fun _ _ => .inl ⟨rfl, .inl rfl⟩) (fun C2 c2 m hm => ?_) (fun C2 c2 m hm hq => Ev.loc rfl rfl rfl) H.fewF) EvL.nil) (len_lst ?_)) ?_
        · have hm4 := H.fs4 m hm
          have g1 : ∀ k, k < 4 → (m.map intD)[k]? = some (intD (m.getD k 0)) := fun k hk => by
            rw [List.getElem?_map, List.getD_eq_getElem?_getD, List.getElem?_eq_getElem (by rw [hm4]; exact hk)]; rfl
          refine EvB.and2 (EvB.conv (EvB.cmp (Ev.subN (Ev.loc rfl rfl rfl) (Ev.cell rfl rfl rfl) (g1 _ r1) (small4 r1)) (Ev.subN (Ev.loc rfl rfl rfl) (Ev.cell rfl rfl rfl) (g1 _ r2) (small4 r2)) cmp_ne) ?_) (EvB.conv (EvB.cmp (Ev.subN (Ev.loc rfl rfl rfl) (Ev.cell rfl rfl rfl) (g1 _ r2) (small4 r2)) (Ev.subN (Ev.loc rfl rfl rfl) (Ev.cell rfl rfl rfl) (g1 _ r3) (small4 r3)) cmp_eq) ?_)
          · rw [Bool.eq_iff_iff]; simp only [bne_iff_ne, ne_eq]; exact not_congr Int.ofNat_inj
          · rw [Bool.eq_iff_iff]; simp only [beq_iff_eq]; exact Int.ofNat_inj
        · rw [List.length_map]; exact Nat.le_trans (List.length_filter_le _ _) H.fewF
        · rw [List.length_map]; rfl
      refine Sq.filC [("ways", .lst ((waysOf ts).map natsD))] (rot t) tripD (cutBy (waysOf ts)) (fun r => intD r.1) (scOk_of rfl) (Ev.loc rfl rfl rfl) (fun _ => rfl) (Itb.lst cx.h) (by walk_at "lits") (fun C1 c1 r hr => ⟨_, Asg.tup cx.h (AsgL.cons (Asg.name (.inl ⟨rfl, .inl rfl⟩)) (AsgL.cons (Asg.name (.inl ⟨rfl, .inl rfl⟩)) (AsgL.cons (Asg.name (.inl ⟨rfl, .inl rfl⟩)) AsgL.nil))) rfl rfl, sub_of (by walk_at "lits"), ?_, fun _ => Ev.loc rfl rfl rfl⟩) (Nat.le_of_ble_eq_true rfl) (AdrOk.loc rfl) rfl ?_
      · obtain ⟨r1, r2, r3⟩ := rl r hr
        obtain ⟨q1, q2⟩ := wr _ r1
        have g1 : ∀ k, k < 4 → (((waysOf ts).getD r.1 []).map intD)[k]? = some (intD (((waysOf ts).getD r.1 []).getD k 0)) := fun k hk => by
          rw [List.getElem?_map, List.getD_eq_getElem?_getD (l := (waysOf ts).getD r.1 []), List.getElem?_eq_getElem (by rw [q2]; exact hk)]; rfl
        refine EvB.conv (EvB.cmp (Ev.subN (Ev.subN (Ev.cell rfl rfl rfl) (Ev.loc rfl rfl rfl) q1 (small4 r1)) (Ev.loc rfl rfl rfl) (g1 _ r2) (small4 r2)) (Ev.subN (Ev.subN (Ev.cell rfl rfl rfl) (Ev.loc rfl rfl rfl) q1 (small4 r1)) (Ev.loc rfl rfl rfl) (g1 _ r3) (small4 r3)) cmp_ne) ?_
        rw [cutBy, Bool.eq_iff_iff]; simp only [bne_iff_ne, ne_eq]; exact not_congr Int.ofNat_inj
      have P1 := H.pure1 t hm _ _ _ rfl _ _ _ rfl
      have P2 := H.pure2 t hm _ _ _ rfl
      have fb : ∀ r ∈ rot t, frT far r ≤ 4096 := fun r hr => by
        obtain ⟨r1, r2, r3⟩ := rl r hr
        obtain ⟨n, e1, e2⟩ := H.fr _ _ r2 r3
        rw [frT, e1]; exact e2
      have ab : ∀ r : Trip, aloneN fs r ≤ 4096 := fun r => Nat.le_trans (List.length_filter_le _ _) H.fewF
      have f1 := fb _ (List.mem_cons_self)
      have f2 := fb _ (List.mem_cons_of_mem _ List.mem_cons_self)
      have f3 := fb _ (List.mem_cons_of_mem _ (List.mem_cons_of_mem _ List.mem_cons_self))
      have a1 := ab (t.1, t.2.2, t.2.1)
      have a2 := ab (t.2.1, t.1, t.2.2)
      have a3 := ab (t.2.2, t.2.1, t.1)
      show Ex _ _ _ _ _ _ (("between", .lst (((rot t).filter (cutBy (waysOf ts))).map fun r => intD r.1)) :: ("apart", .lst [intD (aloneN fs (t.1, t.2.2, t.2.1)), intD (aloneN fs (t.2.1, t.1, t.2.2)), intD (aloneN fs (t.2.2, t.2.1, t.1))]) :: ("wide", .lst [intD (frT far (t.1, t.2.2, t.2.1)), intD (frT far (t.2.1, t.1, t.2.2)), intD (frT far (t.2.2, t.2.1, t.1))]) :: _) _
      generalize aloneN fs (t.1, t.2.2, t.2.1) = x at *
      generalize aloneN fs (t.2.1, t.1, t.2.2) = y at *
      generalize aloneN fs (t.2.2, t.2.1, t.1) = z at *
      generalize frT far (t.1, t.2.2, t.2.1) = a at *
      generalize frT far (t.2.1, t.1, t.2.2) = b at *
      generalize frT far (t.2.2, t.2.1, t.1) = c at *
      obtain ⟨h1, C1⟩ := hsv_ok ok fn13 gM gm a b c (max_lt3 f1 f2 f3)
      obtain ⟨h2, C2⟩ := hsv_ok ok fn13 gM gm x y z (max_lt3 a1 a2 a3)
      have cx2 : Cx A 2 := cx.le (by decide)
      refine Sq.iff (EvB.conv (EvB.cmp (Ev.bin (Ev.call cx (Ev.builtin ok gs rfl (by decide) rfl rfl) Keep.builtin (EvL.cons (d := intsD [(a : Int), b, c]) (Ev.loc rfl rfl rfl) EvL.nil) sum_ok) (Ev.bin Ev.int (Ev.sub (d := intD (max a (max b c))) (Ev.call cx2 (Ev.glob ok g13 rfl rfl) (Keep.fn fn13) (EvL.cons (Ev.subK (Ev.loc rfl rfl rfl) rfl rfl) (EvL.cons (Ev.subK (Ev.loc rfl rfl rfl) rfl rfl) (EvL.cons (Ev.subK (Ev.loc rfl rfl rfl) rfl rfl) EvL.nil))) C1) (Ev.int (i := 2)) (item_tup (j := 2) (by decide) (by decide) rfl rfl)) (op_mul (by decide) (by decide))) op_sub) (Ev.bin Ev.int (Ev.call cx (Ev.builtin ok gm rfl (by decide) rfl rfl) Keep.builtin (EvL.cons (d := intsD [(x : Int), y, z]) (Ev.loc rfl rfl rfl) EvL.nil) (min_lst (M := ((min x (min y z) : Nat) : Int)) ?_ ?_)) (op_mul (by decide) (by decide))) cmp_ne) ?_) ?_
      · simp only [List.mem_cons, List.not_mem_nil, or_false]; exact min3_mem x y z
      · intro w hw
        simp only [List.mem_cons, List.not_mem_nil, or_false] at hw
        exact min3_le hw
      · have : ([(a : Int), b, c] : List Int).sum = ((a + (b + (c + 0)) : Nat) : Int) := by simp
        rw [this, P1]; simp
      refine Sq.iff (EvB.conv (EvB.cmp (Ev.cmp (Ev.sub (d := .flt (sat x y z)) (Ev.call cx2 (Ev.glob ok g13 rfl rfl) (Keep.fn fn13) (EvL.cons (Ev.subK (Ev.loc rfl rfl rfl) rfl rfl) (EvL.cons (Ev.subK (Ev.loc rfl rfl rfl) rfl rfl) (EvL.cons (Ev.subK (Ev.loc rfl rfl rfl) rfl rfl) EvL.nil))) C2) (Ev.int (i := 1)) (item_tup (j := 1) (by decide) (by decide) rfl rfl)) Ev.flt cmp_feq) (Ev.cmp (Ev.loc rfl rfl rfl) (Ev.list EvL.nil (by decide)) (ne_nil cx1 ?_)) cmp_neB) ?_) (Sq.nil rfl (sub_of (by walk_at "lits")))
      · rw [List.length_map]; exact Nat.le_trans (List.length_filter_le _ _) (Nat.le_of_ble_eq_true rfl)
      · rw [P2, List.isEmpty_map]; simp
end TL
end
section
namespace TL
open PySem PySem.W PyProof.Rows PySem.Calls PyProof.Rows.LCg
local macro_rules | `(tactic| walk_at "lits") => `(tactic| (repeat' (first | exact List.forall_mem_nil _ | refine List.forall_mem_cons.mpr ⟨⟨rfl, rfl⟩, ?_⟩ | refine List.forall_mem_cons.mpr ⟨rfl, ?_⟩)))
set_option genInjectivity false in
structure LG (g : G) where
  ok : GOk g
  K : Frag
  C : Addr
  fI : Addr
  fC : Addr
  fA : Addr
  fG : Addr
  Td : Addr
  pN : Addr
  pV : Addr
  oT : Obj
  nT : Nat
  hk : HK g K C fI fC fA fG
  fi : MethAt g 19 0 "Headers.__init__" (.ref Td) fI
  hT : g.hb.get? Td = some oT
  hTd : oT.data = .seq #[.none] nT
  fc : MethAt g 19 1 "Headers._convert_string_type" .none fC
  fa : MethAt g 19 16 "Headers.add_header" .none fA
  fg : MethAt g 19 7 "Headers.get_all" .none fG
  pn : PatAt g pN nameCode
  pv : PatAt g pV valueCode
  gN : g.mg "_name_disallowed_re" = some (.ref pN)
  gV : g.mg "_value_disallowed_re" = some (.ref pV)
  gH : g.mg "Headers" = some (.ref C)
  D : Addr
  wI : Addr
  wL : Addr
  wk : WK g K D wI wL
  wi : MethAt g 3 1 "Whitespace.__init__" .none wI
  wl : MethAt g 3 3 "Whitespace.indent_level" .none wL
  gW : g.mg "Whitespace" = some (.ref D)
  f6 : Addr
  f8 : Addr
  f9 : Addr
  f10 : Addr
  f11 : Addr
  f13 : Addr
  f21 : Addr
  f22 : Addr
  f23 : Addr
  f24 : Addr
  f25 : Addr
  f26 : Addr
  f27 : Addr
  f28 : Addr
  d6 : DefAt g 6 f6
  d8 : DefAt g 8 f8
  d9 : DefAt g 9 f9
  d10 : DefAt g 10 f10
  d11 : DefAt g 11 f11
  d13 : DefAt g 13 f13
  d21 : DefAt g 21 f21
  d22 : DefAt g 22 f22
  d23 : DefAt g 23 f23
  d24 : DefAt g 24 f24
  d25 : DefAt g 25 f25
  d26 : DefAt g 26 f26
  d27 : DefAt g 27 f27
  d28 : DefAt g 28 f28
  g6 : g.mg "_div2n1n" = some (.ref f6)
  g8 : g.mg "_int2digits" = some (.ref f8)
  g9 : g.mg "_digits2int" = some (.ref f9)
  g10 : g.mg "_divmod_pos" = some (.ref f10)
  g11 : g.mg "int_divmod" = some (.ref f11)
  g13 : g.mg "rgb_to_hsv" = some (.ref f13)
  g21 : g.mg "_law_cells" = some (.ref f21)
  g22 : g.mg "_law_ties" = some (.ref f22)
  g23 : g.mg "_law_pieces" = some (.ref f23)
  g24 : g.mg "_law_square" = some (.ref f24)
  g25 : g.mg "_law_far" = some (.ref f25)
  g26 : g.mg "_law_told_by_square" = some (.ref f26)
  g27 : g.mg "_law_told_by_light" = some (.ref f27)
  g28 : g.mg "_law_told_by_lead" = some (.ref f28)
  c8 : Addr
  c9 : Addr
  T8 : Addr
  T9 : Addr
  hc8 : ∀ o fd, g.hb.get? f8 = some o → o.data = .func fd → fd.code = .ref c8
  hc9 : ∀ o fd, g.hb.get? f9 = some o → o.data = .func fd → fd.code = .ref c9
  N8 : NestK g c8 T8
  N9 : NestK g c9 T9
  hTT : T8 ≠ T9
  t : Tok
  gL : g.mg "_DIV_LIMIT" = some (.int 4000 t)
  no : ∀ x ∈ (["type", "list", "str", "enumerate", "range", "sum", "len", "tuple", "max", "min", "reversed", "divmod", "set"] : List Str), g.mg x = none
  hS : ∃ a oS, sysModules < a ∧ g.hb.get? a = some oS
noncomputable def tieAt (ts : List (Nat × Nat)) (i : Nat) : Nat × Nat := ts.getD i (0, 0)
noncomputable def kindsN (l : List Nat) : Nat := kinds (l.map fun (n : Nat) => (n : Int))
noncomputable def isTree (ts : List (Nat × Nat)) (i j k : Nat) : Bool := kindsN (pieces [tieAt ts i, tieAt ts j, tieAt ts k]) == 1
noncomputable def treesOf (ts : List (Nat × Nat)) : List (List Nat) := ((List.range ts.length).map fun i => ((List.range i).map fun j => ((List.range j).map fun k => if isTree ts i j k then [[i, j, k]] else []).flatten).flatten).flatten
noncomputable def twosOf (ts : List (Nat × Nat)) : List (List Nat) := ((List.range ts.length).map fun i => ((List.range i).map fun j => [pieces [tieAt ts i, tieAt ts j]]).flatten).flatten
noncomputable def forestsOf (ts : List (Nat × Nat)) : List (List Nat) := (twosOf ts).filter fun m => kindsN m == 2
structure LawOk (ts : List (Nat × Nat)) : Prop where
  four : ∀ t ∈ ts, t.1 < 4 ∧ t.2 < 4
  twos : (twosOf ts).length ≤ 4096
  twos4 : ∀ m ∈ twosOf ts, m.length = 4
  square : SquareOk (squareOf ts) (farOf (squareOf ts)) (treesOf ts).length (forestsOf ts)
  light : LightOk ts (farOf (squareOf ts)) (forestsOf ts)
  lead : LeadOk ts (farOf (squareOf ts)) (treesOf ts)
section
variable {g : G} {A : Around} {env : Env} {ρ : List (Str × D)} {X : XP}
theorem Ev.and2 {e₁ e₂ : Expr} {pos : Pos} {d : D} (h₁ : Ev g A env ρ X e₁ (.bool true)) (h₂ : Ev g A env ρ X e₂ d) : Ev g A env ρ X (.BoolOp .And [e₁, e₂] pos) d := Ev.mk fun F P V x s hs => by
  refine PyProof.Rows.BoolOp_and ((h₁.run F P V x).out hs fun h tk P₁ v hP₁ ⟨F₁, e₁, r₁⟩ => ?_)
  simp only [Rep] at r₁
  subst r₁
  refine wpAny_truthy_bool (PyProof.Rows.BoolOp_one ((h₂.run F₁ P₁ (V.ext e₁) (X.st _ _ _ _ x e₁)).out hP₁ fun h tk P₂ v hP₂ ⟨F₂, e₂, r₂⟩ => ⟨_, _, P₂, rfl, hP₂, F₂, e₁.trans e₂, r₂⟩))
end
section
variable {g : G} {A : Around} {fx : Fx} {ρ : List (Str × D)} {X X₁ X' : XS fx} {o : Out}
theorem Sq.iffNot {W : Addr → Prop} {Post : PH → PH → Value → Prop} {a : Expr} {upos pos : Pos} {body r : List Stmt} (h : EvX g A fx.env ρ X.toXP W a Post) (hW : ∀ F P, X.p F P → WOk fx W P) (hX : ∀ F P F' P' v, X.p F P → Step W F P F' P' → Post F' P' v → X₁.p F' P' ∧ Rep F' (.bool true) v)
    (k : Ex g A fx X₁ X' (execs r fx.env) ρ o) (he : isTrue a fx.env (eval a fx.env) = (do let v ← eval a fx.env; standAt a.pos; holding [v] (truthy v)) := by rfl) : Ex g A fx X X' (execs (.If (.UnaryOp .Not a upos) body [] pos :: r) fx.env) ρ o := Ex.mk fun F P I V M x s hs => by
  refine wpAny_execs_cons (wpAny_If (PyProof.Rows.isTrue_not (wpAny_isTrue_value ((h.run F P V x).out hs fun h tk P₁ v₁ hP₁ ⟨F₁, s₁, post⟩ => ?_) he)))
  obtain ⟨t₁, I₁, V₁⟩ := (hW _ _ x).go s₁ I V
  obtain ⟨x₁, r₁⟩ := hX _ _ _ _ _ x s₁ post
  simp only [Rep] at r₁
  subst r₁
  refine wpAny_truthy_bool (wpAny_execs_nil ?_)
  exact (k.run F₁ P₁ I₁ V₁ V₁.m x₁).out hP₁ fun h tk P₃ f hP₃ ⟨F₃, t₃, I₃, x₃, q⟩ => ⟨_, _, P₃, rfl, hP₃, F₃, t₁.trans t₃, I₃, x₃, q⟩
end
theorem map_fl {α β γ : Type} (l : List α) (f : α → List β) (g : β → γ) : ((l.map f).flatten).map g = (l.map fun a => (f a).map g).flatten := by
  rw [List.map_flatten, List.map_map]; rfl
theorem treesD_eq (ts : List (Nat × Nat)) : ((List.range ts.length).map fun i => ((List.range i).map fun j => ((List.range j).map fun k => if isTree ts i j k then [natsT [i, j, k]] else []).flatten).flatten).flatten = (treesOf ts).map natsT := by
  rw [treesOf, map_fl]
  congr 1
  refine List.map_congr_left fun i _ => ?_
  rw [map_fl]
  congr 1
  refine List.map_congr_left fun j _ => ?_
  rw [map_fl]
  congr 1
  refine List.map_congr_left fun k _ => ?_
  split <;> rfl
theorem twosD_eq (ts : List (Nat × Nat)) : ((List.range ts.length).map fun i => ((List.range i).map fun j => [natsD (pieces [tieAt ts i, tieAt ts j])]).flatten).flatten = (twosOf ts).map natsD := by
  rw [twosOf, map_fl]
  congr 1
  refine List.map_congr_left fun i _ => ?_
  rw [map_fl]
  rfl
theorem law_ok {g : G} (G : LG g) {f : Addr} (fn : DefAt g 29 f) (script : List Int) (hsl : script.length ≤ 4096) (c0 c1 c2 c3 c4 : Nat) (hc : cellsOf script = [c0, c1, c2, c3, c4]) (H : LawOk (tiesOf c0 c1 c2 c3 c4)) :
    CallC g (.ref f) [intsD script] [] 44 (fun x => x = G.T8 ∨ x = G.T9) (tabs2 G.T8 G.T9) (fun F P v => tabs2 G.T8 G.T9 F P ∧ Rep F (.bool true) v) := by
  obtain ⟨h4, tw, tw4, HS, HL, HD⟩ := H
  have no := G.no
  refine CallC.fn (ns := ["script"]) (ds := [intsD script]) (d := .bool true) (out := .ret (.bool true)) G.ok fn.fun (sc_ok (by decide +kernel)) rfl (fun doc pm an cdv ct A F P vs kvs hb hf hr hk s hP => ?_) (fun F P F' P' h e => h.ext e) (fun F P h => h.some) (fun F P v h => h.1.off) rfl fun A fx L cells cd cx he hW _ => ?_
  · obtain ⟨v, rfl, r1⟩ := RepL.one hr
    simp only [List.map_nil, RepL] at hk
    subst hk
    exact wpAny_pure ⟨_, s.toks, P, rfl, hP, F, [v], rfl, .refl hf, .cons r1 .nil⟩
  · obtain ⟨w1, w2⟩ := hW G.T8 (.inl rfl)
    obtain ⟨w3, w4⟩ := hW G.T9 (.inr rfl)
    refine ⟨XS.tabs G.T8 G.T9, XS.tabs G.T8 G.T9, fun F P h => ⟨⟨h.1, w1, w2⟩, h.2, w3, w4⟩, fun F P v h r => ⟨⟨h.1.1, h.2.1⟩, r⟩, ?_⟩
    obtain ⟨env, F₀, P₀, nm⟩ := fx
    dsimp only at he
    subst he
    have ok := G.ok
    refine Sq.assign (natsD [c0, c1, c2, c3, c4]) (Ev.conv (Ev.call (cx.le (show 2 ≤ 43 by decide)) (Ev.glob ok G.g21 rfl rfl) (Keep.fn G.d21) (EvL.cons (Ev.loc rfl rfl rfl) EvL.nil) (cells_ok ok G.d21 (no "enumerate" (by decide)) script hsl)) (by rw [hc])) (AdrOk.loc rfl) rfl ?_
    refine Sq.assign (tiesD (tiesOf c0 c1 c2 c3 c4)) (Ev.call (cx.le (show 2 ≤ 43 by decide)) (Ev.glob ok G.g22 rfl rfl) (Keep.fn G.d22) (EvL.cons (Ev.loc rfl rfl rfl) EvL.nil) (ties_ok ok G.d22 c0 c1 c2 c3 c4)) (AdrOk.cell rfl) rfl ?_
    generalize tiesOf c0 c1 c2 c3 c4 = ts at *
    have few := HD.few
    refine Sq.assign (matD (squareOf ts)) (Ev.call (cx.le (show 4 ≤ 43 by decide)) (Ev.glob ok G.g24 rfl rfl) (Keep.fn G.d24) (EvL.cons (Ev.cell rfl rfl rfl) (EvL.cons (Ev.loc rfl rfl rfl) EvL.nil)) (square_ok ok G.hk G.d24 G.fi G.hT G.hTd G.fc G.fa G.fg G.pn G.pv G.gN G.gV G.gH (no "type" (by decide)) (no "list" (by decide)) (no "str" (by decide)) (no "enumerate" (by decide)) (no "range" (by decide)) (no "sum" (by decide)) G.hS ts h4 (by omega) [c0, c1, c2, c3, c4] rfl)) (AdrOk.loc rfl) rfl ?_
    refine Sq.assign (matD (farOf (squareOf ts))) (Ev.call (cx.le (show 2 ≤ 43 by decide)) (Ev.glob ok G.g25 rfl rfl) (Keep.fn G.d25) (EvL.cons (Ev.loc rfl rfl rfl) EvL.nil) (far_ok ok G.d25 (no "range" (by decide)) (squareOf ts) HS.sq4 fun i j hi hj => by have := HS.bs i j hi hj; omega)) (AdrOk.loc rfl) rfl ?_
    refine Sq.assign (intD ts.length) (Ev.conv (Ev.call cx (Ev.builtin ok (no "len" (by decide)) rfl (by decide) rfl rfl) Keep.builtin (EvL.cons (Ev.cell rfl rfl rfl) EvL.nil) (len_lst (ds := ts.map tieD) (by rw [List.length_map]; omega))) (by rw [List.length_map]; rfl)) (AdrOk.loc rfl) rfl ?_
    have at' : ∀ i, i < ts.length → (ts.map tieD)[i]? = some (tieD (tieAt ts i)) := fun i hi => by
      rw [List.getElem?_map, tieAt, List.getD_eq_getElem?_getD, List.getElem?_eq_getElem hi]; rfl
    have tl : ∀ i, i < ts.length → (tieAt ts i).1 < 4 ∧ (tieAt ts i).2 < 4 := fun i hi => by
      rw [tieAt, List.getD_eq_getElem?_getD, List.getElem?_eq_getElem hi]
      exact h4 _ (List.getElem_mem hi)
    have hlenD := congrArg List.length (treesD_eq ts)
    rw [List.length_map] at hlenD
    have fewT := HD.fewT
    have pc : ∀ l : List (Nat × Nat), (∀ t ∈ l, t.1 < 4 ∧ t.2 < 4) → (pieces l).length = 4 := fun l h => pieces_lt l _ rfl h
    have cx2 : Cx A 2 := cx.le (by decide)
    refine Sq.assignC [("ties", tiesD ts)] ((List.range ts.length).map intD) ((List.range ts.length).map fun i => ((List.range i).map fun j => ((List.range j).map fun k => if isTree ts i j k then [natsT [i, j, k]] else []).flatten).flatten) (d := .rng 0 ts.length) (scOk_of rfl) (Ev.call cx (Ev.builtin ok (no "range" (by decide)) rfl (by decide) rfl rfl) Keep.type (EvL.cons (Ev.loc rfl rfl rfl) EvL.nil) range1) (fun _ => rfl) (Itb.rngN cx.h _ (by omega)) (by simp) (cap_of (by walk_at "lits")) (fun C1 c1 => Turn.map fun i hi => ⟨_, true, Asg.name (.inl ⟨rfl, .inl rfl⟩), fresh_sub rfl, rfl, fun _ => ?_, fun z => nomatch z⟩) (by rw [hlenD]; omega) (AdrOk.loc rfl) rfl (treesD_eq ts) ?_
    · have hi' := List.mem_range.mp hi
      refine ⟨rfl, fun _ => rfl, .rng 0 i, (List.range i).map intD, (List.range i).map fun j => ((List.range j).map fun k => if isTree ts i j k then [natsT [i, j, k]] else []).flatten, Ev.call cx (Ev.builtin ok (no "range" (by decide)) rfl (by decide) rfl rfl) Keep.type (EvL.cons (Ev.loc rfl rfl rfl) EvL.nil) range1, Itb.rngN cx.h _ (by omega), by simp, rfl, Turn.map fun j hj => ⟨_, true, Asg.name (.inl ⟨rfl, .inl rfl⟩), fresh_sub rfl, rfl, fun _ => ?_, fun z => nomatch z⟩⟩
      have hj' := List.mem_range.mp hj
      refine ⟨rfl, fun _ => rfl, .rng 0 j, (List.range j).map intD, (List.range j).map fun k => if isTree ts i j k then [natsT [i, j, k]] else [], Ev.call cx (Ev.builtin ok (no "range" (by decide)) rfl (by decide) rfl rfl) Keep.type (EvL.cons (Ev.loc rfl rfl rfl) EvL.nil) range1, Itb.rngN cx.h _ (by omega), by simp, rfl, Turn.map2 fun k hk => ⟨_, Asg.name (.inl ⟨rfl, .inl rfl⟩), fresh_sub rfl, ?_, fun _ => Ev.tuple (EvL.cons (Ev.loc rfl rfl rfl) (EvL.cons (Ev.loc rfl rfl rfl) (EvL.cons (Ev.loc rfl rfl rfl) EvL.nil))) (Nat.le_of_ble_eq_true rfl)⟩⟩
      have hk' := List.mem_range.mp hk
      have p4 := pc [tieAt ts i, tieAt ts j, tieAt ts k] fun t ht => by
        simp only [List.mem_cons, List.not_mem_nil, or_false] at ht
        rcases ht with rfl | rfl | rfl
        · exact tl _ (by omega)
        · exact tl _ (by omega)
        · exact tl _ (by omega)
      refine EvB.conv (EvB.cmp (Ev.call cx (Ev.builtin ok (no "len" (by decide)) rfl (by decide) rfl rfl) Keep.builtin (EvL.cons (Ev.call cx (Ev.builtin ok (no "set" (by decide)) rfl (by decide) rfl rfl) Keep.type (EvL.cons (d := intsD ((pieces [tieAt ts i, tieAt ts j, tieAt ts k]).map fun (n : Nat) => (n : Int))) (Ev.conv (Ev.call cx2 (Ev.glob ok G.g23 rfl rfl) (Keep.fn G.d23) (EvL.cons (d := tiesD [tieAt ts i, tieAt ts j, tieAt ts k]) (Ev.list (EvL.cons (Ev.subN (Ev.cell rfl rfl rfl) (Ev.loc rfl rfl rfl) (at' i hi') (by omega)) (EvL.cons (Ev.subN (Ev.cell rfl rfl rfl) (Ev.loc rfl rfl rfl) (at' j (by omega)) (by omega)) (EvL.cons (Ev.subN (Ev.cell rfl rfl rfl) (Ev.loc rfl rfl rfl) (at' k (by omega)) (by omega)) EvL.nil))) (Nat.le_of_ble_eq_true rfl)) EvL.nil) (pieces_ok ok G.d23 _ fun t ht => ?_)) (by rw [natsD, nats_map]; rfl)) EvL.nil) (set_ok (by rw [List.length_map, p4]; decide))) EvL.nil) (len_set ?_)) Ev.int cmp_eq) ?_
      · simp only [List.mem_cons, List.not_mem_nil, or_false] at ht
        rcases ht with rfl | rfl | rfl
        · exact tl _ (by omega)
        · exact tl _ (by omega)
        · exact tl _ (by omega)
      · have := kinds_le ((pieces [tieAt ts i, tieAt ts j, tieAt ts k]).map fun (n : Nat) => (n : Int))
        rw [List.length_map, p4] at this
        omega
      · rw [isTree, kindsN, Bool.eq_iff_iff]; simp only [beq_iff_eq]; omega
    have hlen2 := congrArg List.length (twosD_eq ts)
    rw [List.length_map] at hlen2
    refine Sq.assignC [("ties", tiesD ts)] ((List.range ts.length).map intD) ((List.range ts.length).map fun i => ((List.range i).map fun j => [natsD (pieces [tieAt ts i, tieAt ts j])]).flatten) (d := .rng 0 ts.length) (scOk_of rfl) (Ev.call cx (Ev.builtin ok (no "range" (by decide)) rfl (by decide) rfl rfl) Keep.type (EvL.cons (Ev.loc rfl rfl rfl) EvL.nil) range1) (fun _ => rfl) (Itb.rngN cx.h _ (by omega)) (by simp) (cap_of (by walk_at "lits")) (fun C1 c1 => Turn.map fun i hi => ⟨_, true, Asg.name (.inl ⟨rfl, .inl rfl⟩), fresh_sub rfl, rfl, fun _ => ?_, fun z => nomatch z⟩) (by rw [hlen2]; exact tw) (AdrOk.loc rfl) rfl (twosD_eq ts) ?_
    · have hi' := List.mem_range.mp hi
      refine ⟨rfl, fun _ => rfl, .rng 0 i, (List.range i).map intD, (List.range i).map fun j => [natsD (pieces [tieAt ts i, tieAt ts j])], Ev.call cx (Ev.builtin ok (no "range" (by decide)) rfl (by decide) rfl rfl) Keep.type (EvL.cons (Ev.loc rfl rfl rfl) EvL.nil) range1, Itb.rngN cx.h _ (by omega), by simp, rfl, Turn.map1 fun j hj => ⟨_, Asg.name (.inl ⟨rfl, .inl rfl⟩), fresh_sub rfl, ?_⟩⟩
      have hj' := List.mem_range.mp hj
      refine Ev.call cx2 (Ev.glob ok G.g23 rfl rfl) (Keep.fn G.d23) (EvL.cons (d := tiesD [tieAt ts i, tieAt ts j]) (Ev.list (EvL.cons (Ev.subN (Ev.cell rfl rfl rfl) (Ev.loc rfl rfl rfl) (at' i hi') (by omega)) (EvL.cons (Ev.subN (Ev.cell rfl rfl rfl) (Ev.loc rfl rfl rfl) (at' j (by omega)) (by omega)) EvL.nil)) (Nat.le_of_ble_eq_true rfl)) EvL.nil) (pieces_ok ok G.d23 _ fun t ht => ?_)
      simp only [List.mem_cons, List.not_mem_nil, or_false] at ht
      rcases ht with rfl | rfl
      · exact tl _ (by omega)
      · exact tl _ (by omega)
    refine Sq.filC [] (twosOf ts) natsD (fun m => kindsN m == 2) natsD (scOk_of rfl) (Ev.loc rfl rfl rfl) (fun _ => rfl) (Itb.lst cx.h) (List.forall_mem_nil _) (fun C1 c1 m hm => ⟨_, Asg.name (.inl ⟨rfl, .inl rfl⟩), fresh_sub rfl, ?_, fun _ => Ev.loc rfl rfl rfl⟩) tw (AdrOk.loc rfl) rfl ?_
    · have p4 := tw4 m hm
      refine EvB.conv (EvB.cmp (Ev.call cx (Ev.builtin ok (no "len" (by decide)) rfl (by decide) rfl rfl) Keep.builtin (EvL.cons (Ev.call cx (Ev.builtin ok (no "set" (by decide)) rfl (by decide) rfl rfl) Keep.type (EvL.cons (d := intsD (m.map fun (n : Nat) => (n : Int))) (Ev.conv (Ev.loc rfl rfl rfl) (by rw [natsD, nats_map]; rfl)) EvL.nil) (set_ok (by rw [List.length_map, p4]; decide))) EvL.nil) (len_set ?_)) Ev.int cmp_eq) ?_
      · have := kinds_le (m.map fun (n : Nat) => (n : Int))
        rw [List.length_map, p4] at this
        omega
      · rw [kindsN, Bool.eq_iff_iff]; simp only [beq_iff_eq]; omega
    refine Sq.iffNot (X₁ := XS.tabs G.T8 G.T9) (EvX.call cx (Ev.glob ok G.g26 rfl rfl) (Keep.fn G.d26) (EvL.cons (Ev.loc rfl rfl rfl) (EvL.cons (Ev.loc rfl rfl rfl) (EvL.cons (d := intD (treesOf ts).length) (Ev.conv (Ev.call cx (Ev.builtin ok (no "len" (by decide)) rfl (by decide) rfl rfl) Keep.builtin (EvL.cons (Ev.loc rfl rfl rfl) EvL.nil) (len_lst (ds := (treesOf ts).map natsT) (by rw [List.length_map]; omega))) (by rw [List.length_map]; rfl)) (EvL.cons (d := forestsD (forestsOf ts)) (Ev.loc rfl rfl rfl) EvL.nil)))) (bsq_ok ok G.d26 G.d11 G.d10 G.d6 G.d8 G.d9 G.g11 G.g10 G.g6 G.g8 G.g9 G.hc8 G.hc9 G.N8 G.N9 G.hTT G.gL (no "divmod" (by decide)) (no "len" (by decide)) (no "reversed" (by decide)) (no "range" (by decide)) (no "sum" (by decide)) (squareOf ts) (farOf (squareOf ts)) (treesOf ts).length (forestsOf ts) HS) (fun F P y => ⟨y.1.1, y.2.1⟩) (fun F P h => h.some)) (fun F P y => tabs_wok y) (fun F P F' P' v y s po => ⟨⟨⟨po.1.1, w1, w2⟩, po.1.2, w3, w4⟩, po.2⟩) ?_
    refine Sq.ret (Ev.and2 (Ev.call (cx.le (show 3 ≤ 43 by decide)) (Ev.glob ok G.g27 rfl rfl) (Keep.fn G.d27) (EvL.cons (Ev.cell rfl rfl rfl) (EvL.cons (Ev.loc rfl rfl rfl) (EvL.cons (Ev.loc rfl rfl rfl) EvL.nil))) (light_ok ok G.d27 G.d13 G.d23 G.g13 G.g23 (no "len" (by decide)) (no "range" (by decide)) (no "sum" (by decide)) (no "max" (by decide)) (no "min" (by decide)) ts (farOf (squareOf ts)) (forestsOf ts) HL)) (Ev.call (cx.le (show 4 ≤ 43 by decide)) (Ev.glob ok G.g28 rfl rfl) (Keep.fn G.d28) (EvL.cons (Ev.cell rfl rfl rfl) (EvL.cons (Ev.loc rfl rfl rfl) (EvL.cons (Ev.loc rfl rfl rfl) EvL.nil))) (lead_ok ok G.wk G.d28 G.wi G.wl G.gW (no "len" (by decide)) (no "tuple" (by decide)) (no "range" (by decide)) (no "max" (by decide)) ts (farOf (squareOf ts)) HS.far4 (treesOf ts) ?_ HD)))
    intro t ht
    simp only [treesOf, List.mem_flatten, List.mem_map] at ht
    obtain ⟨l, ⟨i, _, rfl⟩, ht⟩ := ht
    simp only [List.mem_flatten, List.mem_map] at ht
    obtain ⟨l, ⟨j, _, rfl⟩, ht⟩ := ht
    simp only [List.mem_flatten, List.mem_map] at ht
    obtain ⟨l, ⟨k, _, rfl⟩, ht⟩ := ht
    split at ht
    · rw [List.mem_singleton.mp ht]; rfl
    · cases ht
end TL
end
section
namespace TL
noncomputable def pr (a : Nat) : Nat × Nat := pairs.getD a (0, 0)
noncomputable def maskT : Nat := 182948628213237945695937854255151790406959914402551874452630784
noncomputable def masksP : List Nat := [0, 32930704640, 27612254260, 27561559658, 32930704640, 0, 7633845556, 7518202730, 27612254260, 7633845556, 0, 119379550, 27561559658, 7518202730, 119379550, 0]
noncomputable def masksA : List Nat := [0, 0, 0, 0, 0, 32930704640, 26454556672, 26487030784, 0, 26454556672, 27612254260, 27527217184, 0, 26487030784, 27527217184, 27561559658, 32930704640, 0, 6476147968, 6443673856, 0, 0, 0, 0, 6476147968, 0, 7633845556, 7516334368, 6443673856, 0, 7516334368, 7518202730, 27612254260, 1157697588, 0, 85037076, 1157697588, 7633845556, 0, 117511188, 0, 0, 0, 0, 85037076, 117511188, 0, 119379550, 27561559658, 1074528874, 34342474, 0, 1074528874, 7518202730, 1868362, 0, 34342474, 1868362, 119379550, 0, 0, 0, 0, 0]
noncomputable def mP (i j : Nat) : Nat := masksP.getD (i * 4 + j) 0
noncomputable def mA (t : Trip) : Nat := masksA.getD (t.1 * 16 + t.2.1 * 4 + t.2.2) 0
noncomputable def all6 (q : Nat → Bool) : Bool := (List.range 6).all q
theorem all6_of {q : Nat → Bool} (h : all6 q = true) {x : Nat} (hx : x < 6) : q x = true := List.all_eq_true.mp h x (List.mem_range.mpr hx)
theorem tree_tab {x y z : Nat} (hx : x < 6) (hy : y < 6) (hz : z < 6) : (kindsN (pieces [pr x, pr y, pr z]) == 1) = maskT.testBit (x * 36 + y * 6 + z) := by
  have h : (all6 fun x => all6 fun y => all6 fun z => (kindsN (pieces [pr x, pr y, pr z]) == 1) == maskT.testBit (x * 36 + y * 6 + z)) = true := by decide +kernel
  exact beq_iff_eq.mp (all6_of (all6_of (all6_of h hx) hy) hz)
theorem part_tab {i j x y : Nat} (hi : i < 4) (hj : j < 4) (hx : x < 6) (hy : y < 6) : (kindsN (pieces [pr x, pr y]) == 2 && ((pieces [pr x, pr y]).getD i 0 != (pieces [pr x, pr y]).getD j 0)) = (mP i j).testBit (x * 6 + y) := by
  have h : ((List.range 4).all fun i => (List.range 4).all fun j => all6 fun x => all6 fun y => (kindsN (pieces [pr x, pr y]) == 2 && ((pieces [pr x, pr y]).getD i 0 != (pieces [pr x, pr y]).getD j 0)) == (mP i j).testBit (x * 6 + y)) = true := by decide +kernel
  exact beq_iff_eq.mp (all6_of (all6_of (List.all_eq_true.mp (List.all_eq_true.mp h i (List.mem_range.mpr hi)) j (List.mem_range.mpr hj)) hx) hy)
noncomputable def trips : List Trip := threes.flatMap rot
theorem alone_tab {t : Trip} {x y : Nat} (ht : t ∈ trips) (hx : x < 6) (hy : y < 6) : (kindsN (pieces [pr x, pr y]) == 2 && (((pieces [pr x, pr y]).getD t.1 0 != (pieces [pr x, pr y]).getD t.2.1 0) && ((pieces [pr x, pr y]).getD t.2.1 0 == (pieces [pr x, pr y]).getD t.2.2 0))) = (mA t).testBit (x * 6 + y) := by
  have h : (trips.all fun t => all6 fun x => all6 fun y => (kindsN (pieces [pr x, pr y]) == 2 && (((pieces [pr x, pr y]).getD t.1 0 != (pieces [pr x, pr y]).getD t.2.1 0) && ((pieces [pr x, pr y]).getD t.2.1 0 == (pieces [pr x, pr y]).getD t.2.2 0))) == (mA t).testBit (x * 6 + y)) = true := by decide +kernel
  have h1 := List.all_eq_true.mp h t ht
  have h2 := all6_of h1 hx
  have h3 := all6_of h2 hy
  exact eq_of_beq h3
theorem pr_inj {x y : Nat} (hx : x < 6) (hy : y < 6) : (pr x == pr y) = (x == y) := by
  have h : (all6 fun x => all6 fun y => (pr x == pr y) == (x == y)) = true := by decide +kernel
  have h1 := all6_of h hx
  have h2 := all6_of h1 hy
  exact eq_of_beq h2
theorem pr_lt {x : Nat} (hx : x < 6) : (pr x).1 < 4 ∧ (pr x).2 < 4 ∧ (pr x).1 < (pr x).2 := by
  have h : (all6 fun x => decide ((pr x).1 < 4 ∧ (pr x).2 < 4 ∧ (pr x).1 < (pr x).2)) = true := by decide +kernel
  have h1 := all6_of h hx
  exact of_decide_eq_true h1
noncomputable def cnt2 (es : List Nat) (q : Nat → Nat → Bool) : Nat := ((List.range es.length).map fun i => ((List.range i).map fun j => cond (q (es.getD i 0) (es.getD j 0)) 1 0).sum).sum
noncomputable def treesE (es : List Nat) : List (List Nat) := ((List.range es.length).map fun i => ((List.range i).map fun j => ((List.range j).map fun k => if maskT.testBit (es.getD i 0 * 36 + es.getD j 0 * 6 + es.getD k 0) then [[i, j, k]] else []).flatten).flatten).flatten
section
variable {es : List Nat} (h6 : ∀ x ∈ es, x < 6)
include h6
theorem es_lt {i : Nat} (hi : i < es.length) : es.getD i 0 < 6 := by
  rw [List.getD_eq_getElem?_getD, List.getElem?_eq_getElem hi]
  exact h6 _ (List.getElem_mem hi)
omit h6 in
theorem tieAt_pr {i : Nat} (hi : i < es.length) : tieAt (es.map pr) i = pr (es.getD i 0) := by
  rw [tieAt, List.getD_eq_getElem?_getD, List.getD_eq_getElem?_getD, List.getElem?_map, List.getElem?_eq_getElem hi]; rfl
theorem treesOf_es : treesOf (es.map pr) = treesE es := by
  unfold treesOf treesE
  rw [List.length_map]
  refine congrArg List.flatten (List.map_congr_left fun i hi => ?_)
  refine congrArg List.flatten (List.map_congr_left fun j hj => ?_)
  refine congrArg List.flatten (List.map_congr_left fun k hk => ?_)
  have hi := List.mem_range.mp hi
  have hj := List.mem_range.mp hj
  have hk := List.mem_range.mp hk
  rw [isTree, tieAt_pr hi, tieAt_pr (by omega), tieAt_pr (by omega), tree_tab (es_lt h6 hi) (es_lt h6 (by omega)) (es_lt h6 (by omega))]
omit h6 in
theorem two_count (Q : List Nat → Bool) : ((twosOf (es.map pr)).filter Q).length = cnt2 es fun x y => Q (pieces [pr x, pr y]) := by
  unfold twosOf cnt2
  rw [List.length_map, List.filter_flatten, List.length_flatten, List.map_map, List.map_map]
  refine congrArg List.sum (List.map_congr_left fun i hi => ?_)
  show ((((List.range i).map fun j => [pieces [tieAt (es.map pr) i, tieAt (es.map pr) j]]).flatten).filter Q).length = _
  rw [List.filter_flatten, List.length_flatten, List.map_map, List.map_map]
  refine congrArg List.sum (List.map_congr_left fun j hj => ?_)
  have hi := List.mem_range.mp hi
  have hj := List.mem_range.mp hj
  show (List.filter Q [pieces [tieAt (es.map pr) i, tieAt (es.map pr) j]]).length = _
  rw [tieAt_pr hi, tieAt_pr (by omega)]
  show _ = cond (Q (pieces [pr (es.getD i 0), pr (es.getD j 0)])) 1 0
  cases h : Q (pieces [pr (es.getD i 0), pr (es.getD j 0)]) with
  | true => rw [List.filter_cons_of_pos h]; rfl
  | false => rw [List.filter_cons_of_neg (by rw [h]; exact Bool.false_ne_true)]; rfl
theorem cnt2_congr {q r : Nat → Nat → Bool} (h : ∀ x y, x < 6 → y < 6 → q x y = r x y) : cnt2 es q = cnt2 es r := by
  unfold cnt2
  refine congrArg List.sum (List.map_congr_left fun i hi => ?_)
  refine congrArg List.sum (List.map_congr_left fun j hj => ?_)
  have hi := List.mem_range.mp hi
  have hj := List.mem_range.mp hj
  rw [h _ _ (es_lt h6 hi) (es_lt h6 (by omega))]
theorem parts_es {i j : Nat} (hi : i < 4) (hj : j < 4) : parts (forestsOf (es.map pr)) i j = cnt2 es fun x y => (mP i j).testBit (x * 6 + y) := by
  rw [parts, forestsOf, List.filter_filter, two_count]
  refine cnt2_congr h6 fun x y hx hy => ?_
  rw [← part_tab hi hj hx hy, Bool.and_comm]
theorem alone_es {t : Trip} (ht : t ∈ trips) : aloneN (forestsOf (es.map pr)) t = cnt2 es fun x y => (mA t).testBit (x * 6 + y) := by
  rw [aloneN, forestsOf, List.filter_filter, two_count]
  refine cnt2_congr h6 fun x y hx hy => ?_
  rw [← alone_tab ht hx hy, Bool.and_comm]
theorem cnt_pr {a : Nat} (ha : a < 6) : cnt (es.map pr) (pr a).1 (pr a).2 = es.count a := by
  unfold cnt
  induction es with
  | nil => rfl
  | cons x r ih =>
    have hx := h6 x List.mem_cons_self
    rw [List.map_cons, List.count_cons, List.count_cons, ih fun y hy => h6 y (List.mem_cons_of_mem _ hy)]
    have := pr_inj hx ha
    rw [show ((pr a).1, (pr a).2) = pr a from rfl, this]
theorem cnt_no {i j : Nat} (h : j ≤ i) : cnt (es.map pr) i j = 0 := by
  unfold cnt
  rw [List.count_eq_zero]
  intro hm
  obtain ⟨x, hx, e⟩ := List.mem_map.mp hm
  have := (pr_lt (h6 x hx)).2.2
  rw [e] at this
  simp at this
  omega
end
end TL
end
section
namespace TL
noncomputable def lapl (a b c d e f : Nat) : List (List Int) := [[((a + b + c : Nat) : Int), -(a : Int), -(b : Int), -(c : Int)], [-(a : Int), ((a + d + e : Nat) : Int), -(d : Int), -(e : Int)], [-(b : Int), -(d : Int), ((b + d + f : Nat) : Int), -(f : Int)], [-(c : Int), -(e : Int), -(f : Int), ((c + e + f : Nat) : Int)]]
noncomputable def mn (p q x : Nat) : Nat := p * q - x * x
noncomputable def farM (a b c d e f : Nat) : List (List Int) :=
  [[0, (mn (b + d + f) (c + e + f) f : Int), (mn (a + d + e) (c + e + f) e : Int), (mn (a + d + e) (b + d + f) d : Int)],
   [(mn (b + d + f) (c + e + f) f : Int), 0, (mn (a + b + c) (c + e + f) c : Int), (mn (a + b + c) (b + d + f) b : Int)],
   [(mn (a + d + e) (c + e + f) e : Int), (mn (a + b + c) (c + e + f) c : Int), 0, (mn (a + b + c) (a + d + e) a : Int)],
   [(mn (a + d + e) (b + d + f) d : Int), (mn (a + b + c) (b + d + f) b : Int), (mn (a + b + c) (a + d + e) a : Int), 0]]
theorem mn_int {p q x : Nat} (h1 : x ≤ p) (h2 : x ≤ q) : (p : Int) * (q : Int) - (-(x : Int)) * (-(x : Int)) = (mn p q x : Int) := by
  have h := Nat.mul_le_mul h1 h2
  rw [mn, Int.neg_mul_neg, Int.ofNat_sub h]
  push_cast
  rfl
theorem far_lapl (a b c d e f : Nat) : farOf (lapl a b c d e f) = farM a b c d e f := by
  have e1 := mn_int (p := b + d + f) (q := c + e + f) (x := f) (by omega) (by omega)
  have e2 := mn_int (p := a + d + e) (q := c + e + f) (x := e) (by omega) (by omega)
  have e3 := mn_int (p := a + d + e) (q := b + d + f) (x := d) (by omega) (by omega)
  have e4 := mn_int (p := a + b + c) (q := c + e + f) (x := c) (by omega) (by omega)
  have e5 := mn_int (p := a + b + c) (q := b + d + f) (x := b) (by omega) (by omega)
  have e6 := mn_int (p := a + b + c) (q := a + d + e) (x := a) (by omega) (by omega)
  unfold farM
  rw [← e1, ← e2, ← e3, ← e4, ← e5, ← e6]
  rfl
theorem square_es {es : List Nat} (h6 : ∀ x ∈ es, x < 6) : squareOf (es.map pr) = lapl (es.count 0) (es.count 1) (es.count 2) (es.count 3) (es.count 4) (es.count 5) := by
  have c0 : cnt (es.map pr) 0 1 = es.count 0 := cnt_pr h6 (a := 0) (by decide)
  have c1 : cnt (es.map pr) 0 2 = es.count 1 := cnt_pr h6 (a := 1) (by decide)
  have c2 : cnt (es.map pr) 0 3 = es.count 2 := cnt_pr h6 (a := 2) (by decide)
  have c3 : cnt (es.map pr) 1 2 = es.count 3 := cnt_pr h6 (a := 3) (by decide)
  have c4 : cnt (es.map pr) 1 3 = es.count 4 := cnt_pr h6 (a := 4) (by decide)
  have c5 : cnt (es.map pr) 2 3 = es.count 5 := cnt_pr h6 (a := 5) (by decide)
  have z : ∀ i j, j ≤ i → cnt (es.map pr) i j = 0 := fun i j h => cnt_no h6 h
  have o : offs (es.map pr) = [[0, -(es.count 0 : Int), -(es.count 1 : Int), -(es.count 2 : Int)], [-(es.count 0 : Int), 0, -(es.count 3 : Int), -(es.count 4 : Int)], [-(es.count 1 : Int), -(es.count 3 : Int), 0, -(es.count 5 : Int)], [-(es.count 2 : Int), -(es.count 4 : Int), -(es.count 5 : Int), 0]] := by
    show [[off (es.map pr) 0 0, off (es.map pr) 0 1, off (es.map pr) 0 2, off (es.map pr) 0 3], [off (es.map pr) 1 0, off (es.map pr) 1 1, off (es.map pr) 1 2, off (es.map pr) 1 3], [off (es.map pr) 2 0, off (es.map pr) 2 1, off (es.map pr) 2 2, off (es.map pr) 2 3], [off (es.map pr) 3 0, off (es.map pr) 3 1, off (es.map pr) 3 2, off (es.map pr) 3 3]] = _
    simp only [off, c0, c1, c2, c3, c4, c5, z 0 0 (by decide), z 1 0 (by decide), z 1 1 (by decide), z 2 0 (by decide), z 2 1 (by decide), z 2 2 (by decide), z 3 0 (by decide), z 3 1 (by decide), z 3 2 (by decide), z 3 3 (by decide)]
    simp
  rw [squareOf, o]
  generalize es.count 0 = a
  generalize es.count 1 = b
  generalize es.count 2 = c
  generalize es.count 3 = d
  generalize es.count 4 = e
  generalize es.count 5 = f
  show [[-([(0 : Int), -(a : Int), -(b : Int), -(c : Int)].sum), -(a : Int), -(b : Int), -(c : Int)], [-(a : Int), -([-(a : Int), 0, -(d : Int), -(e : Int)].sum), -(d : Int), -(e : Int)], [-(b : Int), -(d : Int), -([-(b : Int), -(d : Int), 0, -(f : Int)].sum), -(f : Int)], [-(c : Int), -(e : Int), -(f : Int), -([-(c : Int), -(e : Int), -(f : Int), 0].sum)]] = lapl a b c d e f
  have s1 : -([(0 : Int), -(a : Int), -(b : Int), -(c : Int)].sum) = ((a + b + c : Nat) : Int) := by simp; omega
  have s2 : -([-(a : Int), 0, -(d : Int), -(e : Int)].sum) = ((a + d + e : Nat) : Int) := by simp; omega
  have s3 : -([-(b : Int), -(d : Int), 0, -(f : Int)].sum) = ((b + d + f : Nat) : Int) := by simp; omega
  have s4 : -([-(c : Int), -(e : Int), -(f : Int), 0].sum) = ((c + e + f : Nat) : Int) := by simp; omega
  rw [s1, s2, s3, s4]
  rfl
end TL
end
section
namespace TL
open PySem PySem.W PyProof.Rows
noncomputable def hstep (c : List Nat) (l : Nat) : List Nat := (wsPad c l).set l ((wsPad c l).getD l 0 + 1)
theorem ws_rep : ∀ (l : Nat) (s : Ws), (List.replicate l 32).foldl wsStep s = ⟨s.n + l, s.nt, s.b + l, s.cnt⟩
  | 0, s => rfl
  | l + 1, s => by
    rw [List.replicate_succ, List.foldl_cons, ws_rep l]
    show Ws.mk (s.n + 1 + l) s.nt (s.b + 1 + l) s.cnt = _
    congr 1 <;> omega
theorem ws_runs : ∀ (L : List Nat) (s : Ws), s.b = 0 → ((L.map fun l => List.replicate l 32 ++ [9]).flatten).foldl wsStep s = ⟨s.n + L.sum + L.length, s.nt + L.length, 0, L.foldl hstep s.cnt⟩
  | [], s, h => by
    obtain ⟨n, nt, b, cnt⟩ := s
    simp only at h
    subst h
    rfl
  | l :: r, s, h => by
    rw [List.map_cons, List.flatten_cons, List.foldl_append, List.foldl_append, ws_rep, h, Nat.zero_add]
    show ((r.map fun l => List.replicate l 32 ++ [9]).flatten).foldl wsStep ⟨s.n + l + 1, s.nt + 1, 0, hstep s.cnt l⟩ = _
    rw [ws_runs r _ rfl, List.sum_cons, List.length_cons, List.foldl_cons]
    show Ws.mk (s.n + l + 1 + r.sum + r.length) (s.nt + 1 + r.length) 0 (r.foldl hstep (hstep s.cnt l)) = _
    congr 1 <;> omega
theorem ws_ties (far : List (List Int)) (ts : List (Nat × Nat)) : wsRun (runCs far ts) = ⟨(ts.map (frN far)).sum + ts.length, ts.length, 0, (ts.map (frN far)).foldl hstep []⟩ := by
  have e : runCs far ts = ((ts.map (frN far)).map fun l => List.replicate l 32 ++ [9]).flatten := by
    rw [runCs, List.map_map]; rfl
  rw [wsRun, e, ws_runs _ _ rfl, List.length_map]
  show Ws.mk (0 + _ + _) (0 + _) 0 _ = _
  rw [Nat.zero_add, Nat.zero_add]
theorem sat_tab {m M : Nat} (h : m < M) (hM : M ≤ 40) : (Float64.cmp (quo ((M - m : Nat) : Int) (M : Int)) 4607182418800017408 == some Ordering.eq) = Nat.beq m 0 := by
  have t : ((List.range 41).all fun M => (List.range M).all fun m => (Float64.cmp (quo ((M - m : Nat) : Int) (M : Int)) 4607182418800017408 == some Ordering.eq) == Nat.beq m 0) = true := by decide +kernel
  have h1 := List.all_eq_true.mp t M (List.mem_range.mpr (Nat.lt_succ_of_le hM))
  have h2 := List.all_eq_true.mp h1 m (List.mem_range.mpr h)
  exact eq_of_beq h2
theorem sat_one {x y z : Nat} (hx : x ≤ 40) (hy : y ≤ 40) (hz : z ≤ 40) : (Float64.cmp (sat x y z) 4607182418800017408 == some Ordering.eq) = (Nat.beq (min x (min y z)) 0 && Nat.ble 1 (max x (max y z))) := by
  unfold sat
  by_cases h : min x (min y z) = max x (max y z)
  · rw [if_pos h, h]
    have e : (Float64.cmp 0 4607182418800017408 == some Ordering.eq) = false := by decide +kernel
    rw [e]
    cases q : max x (max y z) with
    | zero => rfl
    | succ n => rfl
  · have hlt := Nat.lt_of_le_of_ne (mn_mx (r := x) (g := y) (b := z)) h
    rw [if_neg h, sat_tab hlt (Nat.max_le.mpr ⟨hx, Nat.max_le.mpr ⟨hy, hz⟩⟩)]
    have : Nat.ble 1 (max x (max y z)) = true := Nat.ble_eq.mpr (Nat.lt_of_le_of_lt (Nat.zero_le _) hlt)
    rw [this, Bool.and_true]
theorem all_at2 {m : List (List Int)} {q : Int → Bool} (h : (m.all fun r => r.all q) = true) (h0 : q 0 = true) (i j : Nat) : q (at2 m i j) = true := by
  unfold at2
  have hr : ((m.getD i []).all q) = true := by
    rw [List.getD_eq_getElem?_getD]
    cases e : m[i]? with
    | none => rfl
    | some r => exact List.all_eq_true.mp h r (List.mem_of_getElem? e)
  rw [List.getD_eq_getElem?_getD (l := m.getD i [])]
  cases e : (m.getD i [])[j]? with
  | none => exact h0
  | some x => exact List.all_eq_true.mp hr x (List.mem_of_getElem? e)
noncomputable def inK (x : Int) : Bool := decide (-1000 ≤ x) && decide (x ≤ 1000)
noncomputable def posK (x : Int) : Bool := decide (0 ≤ x) && decide (x ≤ 500)
noncomputable def AE (es : List Nat) (t : Trip) : Nat := cnt2 es fun x y => (mA t).testBit (x * 6 + y)
noncomputable def PE (es : List Nat) (i j : Nat) : Nat := cnt2 es fun x y => (mP i j).testBit (x * 6 + y)
noncomputable def lt4 : List (Nat × Nat) := [(1, 0), (2, 0), (2, 1), (3, 0), (3, 1), (3, 2)]
noncomputable def chkSq (es : List Nat) (sq far : List (List Int)) (T : Nat) : Bool :=
  (sq.all fun r => r.all inK) && ((far.all fun r => r.all posK) && (Nat.ble 1 T && (Nat.ble T 1000 &&
  ((lt4.all fun p => decide (at2 far p.1 p.2 = (PE es p.1 p.2 : Int))) &&
  ((quads2.all fun t => decide (at2 far t.1 t.2.2.1 * at2 far t.1 t.2.2.2 - crossOf sq t.2.1 t.2.2.1 t.2.2.2 * crossOf sq t.2.1 t.2.2.1 t.2.2.2 = (T : Int) * at2 sq t.2.1 t.2.1) && decide (0 < at2 sq t.2.1 t.2.1)) &&
  ([1, 2, 3].all fun i => [1, 2, 3].all fun j => decide (([1, 2, 3].map (toldOf sq far i j)).sum = if i = j then 2 * (T : Int) else 0)))))))
noncomputable def chkTrip (ts : List (Nat × Nat)) (far : List (List Int)) (t : Trip) (w0 w1 w2 x y z : Nat) : Bool :=
  Nat.beq (w0 + (w1 + (w2 + 0))) (2 * max w0 (max w1 w2) + 2 * min x (min y z)) && (Nat.ble x 40 && (Nat.ble y 40 && (Nat.ble z 40 &&
  ((Nat.beq (min x (min y z)) 0 && Nat.ble 1 (max x (max y z))) == !((rot t).filter (cutBy (waysOf ts))).isEmpty))))
noncomputable def chkLight (es : List Nat) (far : List (List Int)) : Bool :=
  threes.all fun t => chkTrip (es.map pr) far t (frT far (t.1, t.2.2, t.2.1)) (frT far (t.2.1, t.1, t.2.2)) (frT far (t.2.2, t.2.1, t.1)) (AE es (t.1, t.2.2, t.2.1)) (AE es (t.2.1, t.1, t.2.2)) (AE es (t.2.2, t.2.1, t.1))
noncomputable def chkLead (n T : Nat) (L held : List Nat) : Bool :=
  decide (L = held) && (Nat.ble n 6 && (Nat.beq L.sum (3 * T) && (held.contains (held.foldl max 0) && (decide (L.foldl hstep [] = (List.range (held.foldl max 0 + 1)).map fun s => held.count s) && Nat.beq (lvlOf ⟨0, n, 0, L.foldl hstep []⟩ T) (T * (n + held.count T))))))
noncomputable def goodW (es : List Nat) (sq far : List (List Int)) (T : Nat) : Bool := chkSq es sq far T && (chkLight es far && (Nat.ble (cnt2 es fun _ _ => true) 4096 && chkLead es.length T (es.map fun x => frN far (pr x)) (heldOf es.length (treesE es))))
noncomputable def good (es : List Nat) : Bool := goodW es (lapl (es.count 0) (es.count 1) (es.count 2) (es.count 3) (es.count 4) (es.count 5)) (farM (es.count 0) (es.count 1) (es.count 2) (es.count 3) (es.count 4) (es.count 5)) (treesE es).length
end TL
end
section
namespace TL
open PySem PySem.W PyProof.Rows
noncomputable def S1 : Nat → (Nat → Nat) → Nat
  | 0, _ => 0
  | n + 1, g => S1 n g + g n
noncomputable def S2 (n : Nat) (g : Nat → Nat → Nat) : Nat := S1 n fun i => S1 i (g i)
noncomputable def S3 (n : Nat) (f : Nat → Nat → Nat → Nat) : Nat := S1 n fun i => S2 i (f i)
theorem S1_range (g : Nat → Nat) : ∀ n, ((List.range n).map g).sum = S1 n g
  | 0 => rfl
  | n + 1 => by rw [List.range_succ, List.map_append, List.sum_append, S1_range g n]; simp [S1]
theorem S1_congr {g h : Nat → Nat} : ∀ n, (∀ i, i < n → g i = h i) → S1 n g = S1 n h
  | 0, _ => rfl
  | n + 1, q => by rw [S1, S1, S1_congr n fun i hi => q i (by omega), q n (by omega)]
theorem S1_zero {g : Nat → Nat} : ∀ n, (∀ i, i < n → g i = 0) → S1 n g = 0
  | 0, _ => rfl
  | n + 1, q => by rw [S1, S1_zero n fun i hi => q i (by omega), q n (by omega)]
theorem S1_pick {g : Nat → Nat} {m : Nat} : ∀ n, m < n → S1 n (fun k => if k = m then g k else 0) = g m
  | n + 1, h => by
    rw [S1]
    by_cases q : n = m
    · subst q
      rw [if_pos rfl, S1_zero n fun i hi => if_neg (by omega), Nat.zero_add]
    · rw [if_neg q, S1_pick n (by omega), Nat.add_zero]
theorem S2_hit {g : Nat → Nat → Nat} {m : Nat} (hs : ∀ j k, g j k = g k j) (h0 : g m m = 0) : ∀ n, S2 n (fun j k => if j = m ∨ k = m then g j k else 0) = if m < n then S1 n (g m) else 0
  | 0 => rfl
  | n + 1 => by
    have ih := S2_hit hs h0 n
    unfold S2 at ih ⊢
    rw [S1, ih]
    rcases Nat.lt_trichotomy n m with h | h | h
    · rw [if_neg (by omega), if_neg (by omega), S1_zero n fun k hk => if_neg (by omega)]
    · subst h
      rw [if_neg (by omega), if_pos (by omega), S1, h0, Nat.zero_add, Nat.add_zero]
      exact S1_congr _ fun k hk => if_pos (.inl rfl)
    · rw [if_pos h, if_pos (by omega), S1]
      congr 1
      rw [S1_congr (h := fun k => if k = m then g n k else 0) n fun k hk => ?_, S1_pick n h, hs]
      show (if n = m ∨ k = m then g n k else 0) = if k = m then g n k else 0
      by_cases q : k = m
      · rw [if_pos (Or.inr q), if_pos q]
      · rw [if_neg (by omega), if_neg q]
theorem S3_hit {t : Nat → Nat → Nat → Nat} {m : Nat} (h1 : ∀ i j k, t i j k = t j i k) (h2 : ∀ i j k, t i j k = t i k j) (h0 : ∀ k, t m m k = 0) : ∀ n, S3 n (fun i j k => if i = m ∨ (j = m ∨ k = m) then t i j k else 0) = if m < n then S2 n (t m) else 0
  | 0 => rfl
  | n + 1 => by
    have ih := S3_hit h1 h2 h0 n
    unfold S3 at ih ⊢
    rw [S1, ih]
    rcases Nat.lt_trichotomy n m with h | h | h
    · rw [if_neg (by omega), if_neg (by omega), Nat.zero_add]
      exact S1_zero n fun j hj => S1_zero j fun k hk => if_neg (by omega)
    · subst h
      rw [if_neg (by omega), if_pos (by omega), Nat.zero_add]
      show S1 n (fun j => S1 j fun k => if n = n ∨ (j = n ∨ k = n) then t n j k else 0) = S1 n (fun j => S1 j (t n j)) + S1 n (t n n)
      rw [S1_zero n fun k _ => h0 k, Nat.add_zero]
      exact S1_congr n fun j hj => S1_congr j fun k hk => if_pos (.inl rfl)
    · rw [if_pos h, if_pos (by omega)]
      show S2 n (t m) + S2 n (fun j k => if n = m ∨ (j = m ∨ k = m) then t n j k else 0) = S2 n (t m) + S1 n (t m n)
      congr 1
      have e : S2 n (fun j k => if n = m ∨ (j = m ∨ k = m) then t n j k else 0) = S2 n (fun j k => if j = m ∨ k = m then t n j k else 0) := by
        refine S1_congr n fun j hj => S1_congr j fun k hk => ?_
        show (if n = m ∨ (j = m ∨ k = m) then t n j k else 0) = if j = m ∨ k = m then t n j k else 0
        by_cases q : j = m ∨ k = m
        · rw [if_pos (Or.inr q), if_pos q]
        · rw [if_neg (by omega), if_neg q]
      rw [e, S2_hit (fun j k => h2 n j k) (by rw [h1, h2]; exact h0 n) n, if_pos h]
      exact S1_congr n fun p hp => h1 n m p
end TL
end
section
namespace TL
open PySem PySem.W PyProof.Rows
noncomputable def P1 (q : Nat → Nat) (a b c d e f : Nat) : Nat := q 0 * a + q 1 * b + q 2 * c + q 3 * d + q 4 * e + q 5 * f
noncomputable def P2 (Q : Nat → Nat → Nat) (a b c d e f : Nat) : Nat := Q 0 1 * (a * b) + Q 0 2 * (a * c) + Q 0 3 * (a * d) + Q 0 4 * (a * e) + Q 0 5 * (a * f) + Q 1 2 * (b * c) + Q 1 3 * (b * d) + Q 1 4 * (b * e) + Q 1 5 * (b * f) + Q 2 3 * (c * d) + Q 2 4 * (c * e) + Q 2 5 * (c * f) + Q 3 4 * (d * e) + Q 3 5 * (d * f) + Q 4 5 * (e * f)
noncomputable def P3 (W : Nat → Nat → Nat → Nat) (a b c d e f : Nat) : Nat := W 0 1 2 * (a * (b * c)) + W 0 1 3 * (a * (b * d)) + W 0 1 4 * (a * (b * e)) + W 0 1 5 * (a * (b * f)) + W 0 2 3 * (a * (c * d)) + W 0 2 4 * (a * (c * e)) + W 0 2 5 * (a * (c * f)) + W 0 3 4 * (a * (d * e)) + W 0 3 5 * (a * (d * f)) + W 0 4 5 * (a * (e * f)) + W 1 2 3 * (b * (c * d)) + W 1 2 4 * (b * (c * e)) + W 1 2 5 * (b * (c * f)) + W 1 3 4 * (b * (d * e)) + W 1 3 5 * (b * (d * f)) + W 1 4 5 * (b * (e * f)) + W 2 3 4 * (c * (d * e)) + W 2 3 5 * (c * (d * f)) + W 2 4 5 * (c * (e * f)) + W 3 4 5 * (d * (e * f))
theorem P2_step0 {Q : Nat → Nat → Nat} (hs : ∀ x y, x < 6 → y < 6 → Q x y = Q y x) (h0 : ∀ x, x < 6 → Q x x = 0) (a b c d e f : Nat) : P2 Q (a + 1) b c d e f = P2 Q a b c d e f + P1 (Q 0) a b c d e f := by
  unfold P2 P1
  simp only [h0 0 (by decide), Nat.add_mul, Nat.mul_add, Nat.one_mul, Nat.mul_one]
  ac_rfl
theorem P2_step1 {Q : Nat → Nat → Nat} (hs : ∀ x y, x < 6 → y < 6 → Q x y = Q y x) (h0 : ∀ x, x < 6 → Q x x = 0) (a b c d e f : Nat) : P2 Q a (b + 1) c d e f = P2 Q a b c d e f + P1 (Q 1) a b c d e f := by
  unfold P2 P1
  simp only [h0 1 (by decide), hs 1 0 (by decide) (by decide), Nat.add_mul, Nat.mul_add, Nat.one_mul, Nat.mul_one]
  ac_rfl
theorem P2_step2 {Q : Nat → Nat → Nat} (hs : ∀ x y, x < 6 → y < 6 → Q x y = Q y x) (h0 : ∀ x, x < 6 → Q x x = 0) (a b c d e f : Nat) : P2 Q a b (c + 1) d e f = P2 Q a b c d e f + P1 (Q 2) a b c d e f := by
  unfold P2 P1
  simp only [h0 2 (by decide), hs 2 0 (by decide) (by decide), hs 2 1 (by decide) (by decide), Nat.add_mul, Nat.mul_add, Nat.one_mul, Nat.mul_one]
  ac_rfl
theorem P2_step3 {Q : Nat → Nat → Nat} (hs : ∀ x y, x < 6 → y < 6 → Q x y = Q y x) (h0 : ∀ x, x < 6 → Q x x = 0) (a b c d e f : Nat) : P2 Q a b c (d + 1) e f = P2 Q a b c d e f + P1 (Q 3) a b c d e f := by
  unfold P2 P1
  simp only [h0 3 (by decide), hs 3 0 (by decide) (by decide), hs 3 1 (by decide) (by decide), hs 3 2 (by decide) (by decide), Nat.add_mul, Nat.mul_add, Nat.one_mul, Nat.mul_one]
  ac_rfl
theorem P2_step4 {Q : Nat → Nat → Nat} (hs : ∀ x y, x < 6 → y < 6 → Q x y = Q y x) (h0 : ∀ x, x < 6 → Q x x = 0) (a b c d e f : Nat) : P2 Q a b c d (e + 1) f = P2 Q a b c d e f + P1 (Q 4) a b c d e f := by
  unfold P2 P1
  simp only [h0 4 (by decide), hs 4 0 (by decide) (by decide), hs 4 1 (by decide) (by decide), hs 4 2 (by decide) (by decide), hs 4 3 (by decide) (by decide), Nat.add_mul, Nat.mul_add, Nat.one_mul, Nat.mul_one]
  ac_rfl
theorem P2_step5 {Q : Nat → Nat → Nat} (hs : ∀ x y, x < 6 → y < 6 → Q x y = Q y x) (h0 : ∀ x, x < 6 → Q x x = 0) (a b c d e f : Nat) : P2 Q a b c d e (f + 1) = P2 Q a b c d e f + P1 (Q 5) a b c d e f := by
  unfold P2 P1
  simp only [h0 5 (by decide), hs 5 0 (by decide) (by decide), hs 5 1 (by decide) (by decide), hs 5 2 (by decide) (by decide), hs 5 3 (by decide) (by decide), hs 5 4 (by decide) (by decide), Nat.add_mul, Nat.mul_add, Nat.one_mul, Nat.mul_one]
  ac_rfl
theorem P3_step0 {W : Nat → Nat → Nat → Nat} (h1 : ∀ x y z, x < 6 → y < 6 → z < 6 → W x y z = W y x z) (h2 : ∀ x y z, x < 6 → y < 6 → z < 6 → W x y z = W x z y) (h0 : ∀ x y z, x < 6 → y < 6 → z < 6 → (x = y ∨ x = z) → W x y z = 0) (a b c d e f : Nat) : P3 W (a + 1) b c d e f = P3 W a b c d e f + P2 (W 0) a b c d e f := by
  have w01 : W 0 0 1 = 0 := h0 0 0 1 (by decide) (by decide) (by decide) (by decide)
  have w02 : W 0 0 2 = 0 := h0 0 0 2 (by decide) (by decide) (by decide) (by decide)
  have w03 : W 0 0 3 = 0 := h0 0 0 3 (by decide) (by decide) (by decide) (by decide)
  have w04 : W 0 0 4 = 0 := h0 0 0 4 (by decide) (by decide) (by decide) (by decide)
  have w05 : W 0 0 5 = 0 := h0 0 0 5 (by decide) (by decide) (by decide) (by decide)
  unfold P3 P2
  simp only [w01, w02, w03, w04, w05, Nat.add_mul, Nat.mul_add, Nat.one_mul, Nat.mul_one, Nat.zero_mul]
  ac_rfl
theorem P3_step1 {W : Nat → Nat → Nat → Nat} (h1 : ∀ x y z, x < 6 → y < 6 → z < 6 → W x y z = W y x z) (h2 : ∀ x y z, x < 6 → y < 6 → z < 6 → W x y z = W x z y) (h0 : ∀ x y z, x < 6 → y < 6 → z < 6 → (x = y ∨ x = z) → W x y z = 0) (a b c d e f : Nat) : P3 W a (b + 1) c d e f = P3 W a b c d e f + P2 (W 1) a b c d e f := by
  have w01 : W 1 0 1 = 0 := h0 1 0 1 (by decide) (by decide) (by decide) (by decide)
  have w02 : W 1 0 2 = W 0 1 2 := h1 _ _ _ (by decide) (by decide) (by decide)
  have w03 : W 1 0 3 = W 0 1 3 := h1 _ _ _ (by decide) (by decide) (by decide)
  have w04 : W 1 0 4 = W 0 1 4 := h1 _ _ _ (by decide) (by decide) (by decide)
  have w05 : W 1 0 5 = W 0 1 5 := h1 _ _ _ (by decide) (by decide) (by decide)
  have w12 : W 1 1 2 = 0 := h0 1 1 2 (by decide) (by decide) (by decide) (by decide)
  have w13 : W 1 1 3 = 0 := h0 1 1 3 (by decide) (by decide) (by decide) (by decide)
  have w14 : W 1 1 4 = 0 := h0 1 1 4 (by decide) (by decide) (by decide) (by decide)
  have w15 : W 1 1 5 = 0 := h0 1 1 5 (by decide) (by decide) (by decide) (by decide)
  unfold P3 P2
  simp only [w01, w02, w03, w04, w05, w12, w13, w14, w15, Nat.add_mul, Nat.mul_add, Nat.one_mul, Nat.mul_one, Nat.zero_mul]
  ac_rfl
theorem P3_step2 {W : Nat → Nat → Nat → Nat} (h1 : ∀ x y z, x < 6 → y < 6 → z < 6 → W x y z = W y x z) (h2 : ∀ x y z, x < 6 → y < 6 → z < 6 → W x y z = W x z y) (h0 : ∀ x y z, x < 6 → y < 6 → z < 6 → (x = y ∨ x = z) → W x y z = 0) (a b c d e f : Nat) : P3 W a b (c + 1) d e f = P3 W a b c d e f + P2 (W 2) a b c d e f := by
  have w01 : W 2 0 1 = W 0 1 2 := (h1 _ _ _ (by decide) (by decide) (by decide)).trans (h2 _ _ _ (by decide) (by decide) (by decide))
  have w02 : W 2 0 2 = 0 := h0 2 0 2 (by decide) (by decide) (by decide) (by decide)
  have w03 : W 2 0 3 = W 0 2 3 := h1 _ _ _ (by decide) (by decide) (by decide)
  have w04 : W 2 0 4 = W 0 2 4 := h1 _ _ _ (by decide) (by decide) (by decide)
  have w05 : W 2 0 5 = W 0 2 5 := h1 _ _ _ (by decide) (by decide) (by decide)
  have w12 : W 2 1 2 = 0 := h0 2 1 2 (by decide) (by decide) (by decide) (by decide)
  have w13 : W 2 1 3 = W 1 2 3 := h1 _ _ _ (by decide) (by decide) (by decide)
  have w14 : W 2 1 4 = W 1 2 4 := h1 _ _ _ (by decide) (by decide) (by decide)
  have w15 : W 2 1 5 = W 1 2 5 := h1 _ _ _ (by decide) (by decide) (by decide)
  have w23 : W 2 2 3 = 0 := h0 2 2 3 (by decide) (by decide) (by decide) (by decide)
  have w24 : W 2 2 4 = 0 := h0 2 2 4 (by decide) (by decide) (by decide) (by decide)
  have w25 : W 2 2 5 = 0 := h0 2 2 5 (by decide) (by decide) (by decide) (by decide)
  unfold P3 P2
  simp only [w01, w02, w03, w04, w05, w12, w13, w14, w15, w23, w24, w25, Nat.add_mul, Nat.mul_add, Nat.one_mul, Nat.mul_one, Nat.zero_mul]
  ac_rfl
theorem P3_step3 {W : Nat → Nat → Nat → Nat} (h1 : ∀ x y z, x < 6 → y < 6 → z < 6 → W x y z = W y x z) (h2 : ∀ x y z, x < 6 → y < 6 → z < 6 → W x y z = W x z y) (h0 : ∀ x y z, x < 6 → y < 6 → z < 6 → (x = y ∨ x = z) → W x y z = 0) (a b c d e f : Nat) : P3 W a b c (d + 1) e f = P3 W a b c d e f + P2 (W 3) a b c d e f := by
  have w01 : W 3 0 1 = W 0 1 3 := (h1 _ _ _ (by decide) (by decide) (by decide)).trans (h2 _ _ _ (by decide) (by decide) (by decide))
  have w02 : W 3 0 2 = W 0 2 3 := (h1 _ _ _ (by decide) (by decide) (by decide)).trans (h2 _ _ _ (by decide) (by decide) (by decide))
  have w03 : W 3 0 3 = 0 := h0 3 0 3 (by decide) (by decide) (by decide) (by decide)
  have w04 : W 3 0 4 = W 0 3 4 := h1 _ _ _ (by decide) (by decide) (by decide)
  have w05 : W 3 0 5 = W 0 3 5 := h1 _ _ _ (by decide) (by decide) (by decide)
  have w12 : W 3 1 2 = W 1 2 3 := (h1 _ _ _ (by decide) (by decide) (by decide)).trans (h2 _ _ _ (by decide) (by decide) (by decide))
  have w13 : W 3 1 3 = 0 := h0 3 1 3 (by decide) (by decide) (by decide) (by decide)
  have w14 : W 3 1 4 = W 1 3 4 := h1 _ _ _ (by decide) (by decide) (by decide)
  have w15 : W 3 1 5 = W 1 3 5 := h1 _ _ _ (by decide) (by decide) (by decide)
  have w23 : W 3 2 3 = 0 := h0 3 2 3 (by decide) (by decide) (by decide) (by decide)
  have w24 : W 3 2 4 = W 2 3 4 := h1 _ _ _ (by decide) (by decide) (by decide)
  have w25 : W 3 2 5 = W 2 3 5 := h1 _ _ _ (by decide) (by decide) (by decide)
  have w34 : W 3 3 4 = 0 := h0 3 3 4 (by decide) (by decide) (by decide) (by decide)
  have w35 : W 3 3 5 = 0 := h0 3 3 5 (by decide) (by decide) (by decide) (by decide)
  unfold P3 P2
  simp only [w01, w02, w03, w04, w05, w12, w13, w14, w15, w23, w24, w25, w34, w35, Nat.add_mul, Nat.mul_add, Nat.one_mul, Nat.mul_one, Nat.zero_mul]
  ac_rfl
theorem P3_step4 {W : Nat → Nat → Nat → Nat} (h1 : ∀ x y z, x < 6 → y < 6 → z < 6 → W x y z = W y x z) (h2 : ∀ x y z, x < 6 → y < 6 → z < 6 → W x y z = W x z y) (h0 : ∀ x y z, x < 6 → y < 6 → z < 6 → (x = y ∨ x = z) → W x y z = 0) (a b c d e f : Nat) : P3 W a b c d (e + 1) f = P3 W a b c d e f + P2 (W 4) a b c d e f := by
  have w01 : W 4 0 1 = W 0 1 4 := (h1 _ _ _ (by decide) (by decide) (by decide)).trans (h2 _ _ _ (by decide) (by decide) (by decide))
  have w02 : W 4 0 2 = W 0 2 4 := (h1 _ _ _ (by decide) (by decide) (by decide)).trans (h2 _ _ _ (by decide) (by decide) (by decide))
  have w03 : W 4 0 3 = W 0 3 4 := (h1 _ _ _ (by decide) (by decide) (by decide)).trans (h2 _ _ _ (by decide) (by decide) (by decide))
  have w04 : W 4 0 4 = 0 := h0 4 0 4 (by decide) (by decide) (by decide) (by decide)
  have w05 : W 4 0 5 = W 0 4 5 := h1 _ _ _ (by decide) (by decide) (by decide)
  have w12 : W 4 1 2 = W 1 2 4 := (h1 _ _ _ (by decide) (by decide) (by decide)).trans (h2 _ _ _ (by decide) (by decide) (by decide))
  have w13 : W 4 1 3 = W 1 3 4 := (h1 _ _ _ (by decide) (by decide) (by decide)).trans (h2 _ _ _ (by decide) (by decide) (by decide))
  have w14 : W 4 1 4 = 0 := h0 4 1 4 (by decide) (by decide) (by decide) (by decide)
  have w15 : W 4 1 5 = W 1 4 5 := h1 _ _ _ (by decide) (by decide) (by decide)
  have w23 : W 4 2 3 = W 2 3 4 := (h1 _ _ _ (by decide) (by decide) (by decide)).trans (h2 _ _ _ (by decide) (by decide) (by decide))
  have w24 : W 4 2 4 = 0 := h0 4 2 4 (by decide) (by decide) (by decide) (by decide)
  have w25 : W 4 2 5 = W 2 4 5 := h1 _ _ _ (by decide) (by decide) (by decide)
  have w34 : W 4 3 4 = 0 := h0 4 3 4 (by decide) (by decide) (by decide) (by decide)
  have w35 : W 4 3 5 = W 3 4 5 := h1 _ _ _ (by decide) (by decide) (by decide)
  have w45 : W 4 4 5 = 0 := h0 4 4 5 (by decide) (by decide) (by decide) (by decide)
  unfold P3 P2
  simp only [w01, w02, w03, w04, w05, w12, w13, w14, w15, w23, w24, w25, w34, w35, w45, Nat.add_mul, Nat.mul_add, Nat.one_mul, Nat.mul_one, Nat.zero_mul]
  ac_rfl
theorem P3_step5 {W : Nat → Nat → Nat → Nat} (h1 : ∀ x y z, x < 6 → y < 6 → z < 6 → W x y z = W y x z) (h2 : ∀ x y z, x < 6 → y < 6 → z < 6 → W x y z = W x z y) (h0 : ∀ x y z, x < 6 → y < 6 → z < 6 → (x = y ∨ x = z) → W x y z = 0) (a b c d e f : Nat) : P3 W a b c d e (f + 1) = P3 W a b c d e f + P2 (W 5) a b c d e f := by
  have w01 : W 5 0 1 = W 0 1 5 := (h1 _ _ _ (by decide) (by decide) (by decide)).trans (h2 _ _ _ (by decide) (by decide) (by decide))
  have w02 : W 5 0 2 = W 0 2 5 := (h1 _ _ _ (by decide) (by decide) (by decide)).trans (h2 _ _ _ (by decide) (by decide) (by decide))
  have w03 : W 5 0 3 = W 0 3 5 := (h1 _ _ _ (by decide) (by decide) (by decide)).trans (h2 _ _ _ (by decide) (by decide) (by decide))
  have w04 : W 5 0 4 = W 0 4 5 := (h1 _ _ _ (by decide) (by decide) (by decide)).trans (h2 _ _ _ (by decide) (by decide) (by decide))
  have w05 : W 5 0 5 = 0 := h0 5 0 5 (by decide) (by decide) (by decide) (by decide)
  have w12 : W 5 1 2 = W 1 2 5 := (h1 _ _ _ (by decide) (by decide) (by decide)).trans (h2 _ _ _ (by decide) (by decide) (by decide))
  have w13 : W 5 1 3 = W 1 3 5 := (h1 _ _ _ (by decide) (by decide) (by decide)).trans (h2 _ _ _ (by decide) (by decide) (by decide))
  have w14 : W 5 1 4 = W 1 4 5 := (h1 _ _ _ (by decide) (by decide) (by decide)).trans (h2 _ _ _ (by decide) (by decide) (by decide))
  have w15 : W 5 1 5 = 0 := h0 5 1 5 (by decide) (by decide) (by decide) (by decide)
  have w23 : W 5 2 3 = W 2 3 5 := (h1 _ _ _ (by decide) (by decide) (by decide)).trans (h2 _ _ _ (by decide) (by decide) (by decide))
  have w24 : W 5 2 4 = W 2 4 5 := (h1 _ _ _ (by decide) (by decide) (by decide)).trans (h2 _ _ _ (by decide) (by decide) (by decide))
  have w25 : W 5 2 5 = 0 := h0 5 2 5 (by decide) (by decide) (by decide) (by decide)
  have w34 : W 5 3 4 = W 3 4 5 := (h1 _ _ _ (by decide) (by decide) (by decide)).trans (h2 _ _ _ (by decide) (by decide) (by decide))
  have w35 : W 5 3 5 = 0 := h0 5 3 5 (by decide) (by decide) (by decide) (by decide)
  have w45 : W 5 4 5 = 0 := h0 5 4 5 (by decide) (by decide) (by decide) (by decide)
  unfold P3 P2
  simp only [w01, w02, w03, w04, w05, w12, w13, w14, w15, w23, w24, w25, w34, w35, w45, Nat.add_mul, Nat.mul_add, Nat.one_mul, Nat.mul_one, Nat.zero_mul]
  ac_rfl
end TL
end
section
namespace TL
open PySem PySem.W PyProof.Rows
noncomputable def pc (es : List Nat) (n y : Nat) : Nat := S1 n fun j => if es.getD j 0 = y then 1 else 0
theorem pc_zero (es : List Nat) (y : Nat) : pc es 0 y = 0 := rfl
theorem pc_succ (es : List Nat) (n y : Nat) : pc es (n + 1) y = pc es n y + if es.getD n 0 = y then 1 else 0 := rfl
theorem six {v : Nat} (h : v < 6) : v = 0 ∨ v = 1 ∨ v = 2 ∨ v = 3 ∨ v = 4 ∨ v = 5 := (show ∀ v, v < 6 → v = 0 ∨ v = 1 ∨ v = 2 ∨ v = 3 ∨ v = 4 ∨ v = 5 by decide) v h
theorem range_getDN (f : Nat → Nat) (es : List Nat) : (List.range es.length).map (fun j => f (es.getD j 0)) = es.map f := by
  apply List.ext_getElem
  · simp
  · intro i h1 h2
    have h3 : i < es.length := by simpa using h2
    simp [List.getD_eq_getElem?_getD, List.getElem?_eq_getElem h3]
theorem pc_count (es : List Nat) (y : Nat) : pc es es.length y = es.count y := by
  have h : ∀ l : List Nat, (l.map fun x => if x = y then 1 else 0).sum = l.count y := fun l => by
    induction l with
    | nil => rfl
    | cons x r ih =>
      rw [List.map_cons, List.sum_cons, ih, List.count_cons]
      by_cases q : x = y
      · subst q; simp; omega
      · rw [if_neg q, if_neg (by simpa using q)]; omega
  unfold pc
  rw [← S1_range, range_getDN (fun x => if x = y then 1 else 0), h]
section
variable {es : List Nat} (h6 : ∀ x ∈ es, x < 6)
include h6
theorem e_lt (i : Nat) : es.getD i 0 < 6 := by
  rcases Nat.lt_or_ge i es.length with h | h
  · exact es_lt h6 h
  · rw [List.getD_eq_getElem?_getD, List.getElem?_eq_none h]; decide
theorem S1_P1 (q : Nat → Nat) : ∀ n, S1 n (fun j => q (es.getD j 0)) = P1 q (pc es n 0) (pc es n 1) (pc es n 2) (pc es n 3) (pc es n 4) (pc es n 5)
  | 0 => by simp [S1, P1, pc_zero]
  | n + 1 => by
    rw [S1, S1_P1 q n]
    simp only [pc_succ]
    rcases six (e_lt h6 n) with h | h | h | h | h | h <;> rw [h] <;> simp [P1, Nat.mul_add] <;> ac_rfl
theorem S2_P2 {Q : Nat → Nat → Nat} (hs : ∀ x y, x < 6 → y < 6 → Q x y = Q y x) (h0 : ∀ x, x < 6 → Q x x = 0) : ∀ n, S2 n (fun i j => Q (es.getD i 0) (es.getD j 0)) = P2 Q (pc es n 0) (pc es n 1) (pc es n 2) (pc es n 3) (pc es n 4) (pc es n 5)
  | 0 => by simp [S2, S1, P2, pc_zero]
  | n + 1 => by
    have ih := S2_P2 hs h0 n
    show S2 n (fun i j => Q (es.getD i 0) (es.getD j 0)) + S1 n (fun j => Q (es.getD n 0) (es.getD j 0)) = _
    rw [ih, S1_P1 h6]
    simp only [pc_succ]
    rcases six (e_lt h6 n) with h | h | h | h | h | h <;> rw [h] <;> simp
    · exact (P2_step0 hs h0 ..).symm
    · exact (P2_step1 hs h0 ..).symm
    · exact (P2_step2 hs h0 ..).symm
    · exact (P2_step3 hs h0 ..).symm
    · exact (P2_step4 hs h0 ..).symm
    · exact (P2_step5 hs h0 ..).symm
theorem S3_P3 {W : Nat → Nat → Nat → Nat} (h1 : ∀ x y z, x < 6 → y < 6 → z < 6 → W x y z = W y x z) (h2 : ∀ x y z, x < 6 → y < 6 → z < 6 → W x y z = W x z y) (h0 : ∀ x y z, x < 6 → y < 6 → z < 6 → (x = y ∨ x = z) → W x y z = 0) :
    ∀ n, S3 n (fun i j k => W (es.getD i 0) (es.getD j 0) (es.getD k 0)) = P3 W (pc es n 0) (pc es n 1) (pc es n 2) (pc es n 3) (pc es n 4) (pc es n 5)
  | 0 => by simp [S3, S1, P3, pc_zero]
  | n + 1 => by
    have ih := S3_P3 h1 h2 h0 n
    have en := e_lt h6 n
    show S3 n (fun i j k => W (es.getD i 0) (es.getD j 0) (es.getD k 0)) + S2 n (fun j k => W (es.getD n 0) (es.getD j 0) (es.getD k 0)) = _
    rw [ih, S2_P2 h6 (Q := W (es.getD n 0)) (fun x y hx hy => h2 _ _ _ en hx hy) (fun x hx => by rw [h1 _ _ _ en hx hx, h2 _ _ _ hx en hx]; exact h0 _ _ _ hx hx en (.inl rfl))]
    simp only [pc_succ]
    rcases six en with h | h | h | h | h | h <;> rw [h] <;> simp
    · exact (P3_step0 h1 h2 h0 ..).symm
    · exact (P3_step1 h1 h2 h0 ..).symm
    · exact (P3_step2 h1 h2 h0 ..).symm
    · exact (P3_step3 h1 h2 h0 ..).symm
    · exact (P3_step4 h1 h2 h0 ..).symm
    · exact (P3_step5 h1 h2 h0 ..).symm
end
noncomputable def QB (m : Nat) (x y : Nat) : Nat := cond (m.testBit (x * 6 + y)) 1 0
noncomputable def WT (x y z : Nat) : Nat := cond (maskT.testBit (x * 36 + y * 6 + z)) 1 0
theorem WT_sym {x y z : Nat} (hx : x < 6) (hy : y < 6) (hz : z < 6) : WT x y z = WT y x z ∧ WT x y z = WT x z y ∧ ((x = y ∨ x = z) → WT x y z = 0) := by
  have h : (all6 fun x => all6 fun y => all6 fun z => decide (WT x y z = WT y x z ∧ WT x y z = WT x z y ∧ ((x = y ∨ x = z) → WT x y z = 0))) = true := by decide +kernel
  have h1 := all6_of h hx
  have h2 := all6_of h1 hy
  have h3 := all6_of h2 hz
  exact of_decide_eq_true h3
theorem QP_sym {i j x y : Nat} (hi : i < 4) (hj : j < 4) (hx : x < 6) (hy : y < 6) : QB (mP i j) x y = QB (mP i j) y x ∧ QB (mP i j) x x = 0 := by
  have h : ((List.range 4).all fun i => (List.range 4).all fun j => all6 fun x => all6 fun y => decide (QB (mP i j) x y = QB (mP i j) y x ∧ QB (mP i j) x x = 0)) = true := by decide +kernel
  have h1 := List.all_eq_true.mp h i (List.mem_range.mpr hi)
  have h2 := List.all_eq_true.mp h1 j (List.mem_range.mpr hj)
  have h3 := all6_of h2 hx
  have h4 := all6_of h3 hy
  exact of_decide_eq_true h4
theorem QA_sym {t : Trip} {x y : Nat} (ht : t ∈ trips) (hx : x < 6) (hy : y < 6) : QB (mA t) x y = QB (mA t) y x ∧ QB (mA t) x x = 0 := by
  have h : (trips.all fun t => all6 fun x => all6 fun y => decide (QB (mA t) x y = QB (mA t) y x ∧ QB (mA t) x x = 0)) = true := by decide +kernel
  have h1 := List.all_eq_true.mp h t ht
  have h3 := all6_of h1 hx
  have h4 := all6_of h3 hy
  exact of_decide_eq_true h4
theorem has3 (i j k m : Nat) : [i, j, k].contains m = decide (i = m ∨ (j = m ∨ k = m)) := by
  rw [Bool.eq_iff_iff, List.contains_iff_mem, decide_eq_true_iff, List.mem_cons, List.mem_cons, List.mem_singleton]
  exact ⟨fun h => by rcases h with h | h | h <;> simp [h], fun h => by rcases h with h | h | h <;> simp [h]⟩
theorem cnt2_S2 (es : List Nat) (q : Nat → Nat → Bool) : cnt2 es q = S2 es.length fun i j => cond (q (es.getD i 0) (es.getD j 0)) 1 0 := by
  unfold cnt2 S2
  rw [S1_range]
  exact S1_congr _ fun i _ => S1_range _ _
section
variable {es : List Nat} (h6 : ∀ x ∈ es, x < 6)
include h6
theorem PE_poly {i j : Nat} (hi : i < 4) (hj : j < 4) : PE es i j = P2 (QB (mP i j)) (es.count 0) (es.count 1) (es.count 2) (es.count 3) (es.count 4) (es.count 5) := by
  rw [PE, cnt2_S2]
  have := S2_P2 h6 (Q := QB (mP i j)) (fun x y hx hy => (QP_sym hi hj hx hy).1) (fun x hx => (QP_sym hi hj hx hx).2) es.length
  rw [pc_count, pc_count, pc_count, pc_count, pc_count, pc_count] at this
  exact this
theorem AE_poly {t : Trip} (ht : t ∈ trips) : AE es t = P2 (QB (mA t)) (es.count 0) (es.count 1) (es.count 2) (es.count 3) (es.count 4) (es.count 5) := by
  rw [AE, cnt2_S2]
  have := S2_P2 h6 (Q := QB (mA t)) (fun x y hx hy => (QA_sym ht hx hy).1) (fun x hx => (QA_sym ht hx hx).2) es.length
  rw [pc_count, pc_count, pc_count, pc_count, pc_count, pc_count] at this
  exact this
omit h6 in
theorem trees_S3 (p : List Nat → Bool) : ((treesE es).filter p).length = S3 es.length fun i j k => cond (maskT.testBit (es.getD i 0 * 36 + es.getD j 0 * 6 + es.getD k 0) && p [i, j, k]) 1 0 := by
  unfold treesE S3 S2
  rw [List.filter_flatten, List.length_flatten, List.map_map, List.map_map, ← S1_range]
  refine congrArg List.sum (List.map_congr_left fun i _ => ?_)
  show ((((List.range i).map fun j => ((List.range j).map fun k => if maskT.testBit (es.getD i 0 * 36 + es.getD j 0 * 6 + es.getD k 0) then [[i, j, k]] else []).flatten).flatten).filter p).length = _
  rw [List.filter_flatten, List.length_flatten, List.map_map, List.map_map, ← S1_range]
  refine congrArg List.sum (List.map_congr_left fun j _ => ?_)
  show ((((List.range j).map fun k => if maskT.testBit (es.getD i 0 * 36 + es.getD j 0 * 6 + es.getD k 0) then [[i, j, k]] else []).flatten).filter p).length = _
  rw [List.filter_flatten, List.length_flatten, List.map_map, List.map_map, ← S1_range]
  refine congrArg List.sum (List.map_congr_left fun k _ => ?_)
  show ((if maskT.testBit (es.getD i 0 * 36 + es.getD j 0 * 6 + es.getD k 0) = true then [[i, j, k]] else []).filter p).length = cond (maskT.testBit (es.getD i 0 * 36 + es.getD j 0 * 6 + es.getD k 0) && p [i, j, k]) 1 0
  cases maskT.testBit (es.getD i 0 * 36 + es.getD j 0 * 6 + es.getD k 0) with
  | false => rfl
  | true =>
    rw [if_pos rfl, Bool.true_and]
    cases h : p [i, j, k] with
    | true => rw [List.filter_cons_of_pos h]; rfl
    | false => rw [List.filter_cons_of_neg (by rw [h]; exact Bool.false_ne_true)]; rfl
theorem T_poly : (treesE es).length = P3 WT (es.count 0) (es.count 1) (es.count 2) (es.count 3) (es.count 4) (es.count 5) := by
  have e : (treesE es).length = ((treesE es).filter fun _ => true).length := by rw [List.filter_eq_self.mpr fun _ _ => rfl]
  rw [e, trees_S3]
  have := S3_P3 h6 (W := WT) (fun x y z hx hy hz => (WT_sym hx hy hz).1) (fun x y z hx hy hz => (WT_sym hx hy hz).2.1) (fun x y z hx hy hz h => (WT_sym hx hy hz).2.2 h) es.length
  rw [pc_count, pc_count, pc_count, pc_count, pc_count, pc_count] at this
  rw [← this]
  simp only [Bool.and_true]
  rfl
theorem held_poly : heldOf es.length (treesE es) = es.map fun x => P2 (WT x) (es.count 0) (es.count 1) (es.count 2) (es.count 3) (es.count 4) (es.count 5) := by
  rw [← range_getDN (fun x => P2 (WT x) (es.count 0) (es.count 1) (es.count 2) (es.count 3) (es.count 4) (es.count 5)), heldOf]
  refine List.map_congr_left fun m hm => ?_
  have hm := List.mem_range.mp hm
  have em := e_lt h6 m
  rw [trees_S3]
  have e := S3_hit (t := fun i j k => WT (es.getD i 0) (es.getD j 0) (es.getD k 0)) (m := m) (fun i j k => (WT_sym (e_lt h6 i) (e_lt h6 j) (e_lt h6 k)).1) (fun i j k => (WT_sym (e_lt h6 i) (e_lt h6 j) (e_lt h6 k)).2.1) (fun k => (WT_sym em em (e_lt h6 k)).2.2 (.inl rfl)) es.length
  rw [if_pos hm] at e
  have p := S2_P2 h6 (Q := WT (es.getD m 0)) (fun x y hx hy => (WT_sym em hx hy).2.1) (fun x hx => by rw [(WT_sym em hx hx).1, (WT_sym hx em hx).2.1]; exact (WT_sym hx hx em).2.2 (.inl rfl)) es.length
  rw [pc_count, pc_count, pc_count, pc_count, pc_count, pc_count] at p
  rw [← p, ← e]
  refine S1_congr _ fun i _ => S1_congr i fun j _ => S1_congr j fun k _ => ?_
  show cond (maskT.testBit (es.getD i 0 * 36 + es.getD j 0 * 6 + es.getD k 0) && [i, j, k].contains m) 1 0 = if i = m ∨ (j = m ∨ k = m) then cond (maskT.testBit (es.getD i 0 * 36 + es.getD j 0 * 6 + es.getD k 0)) 1 0 else 0
  rw [has3]
  by_cases q : i = m ∨ (j = m ∨ k = m)
  · rw [if_pos q, decide_eq_true q, Bool.and_true]
  · rw [if_neg q, decide_eq_false q, Bool.and_false]; rfl
end
end TL
end
section
namespace TL
open PySem PySem.W PyProof.Rows
theorem pad_getD (c : List Nat) (b s : Nat) : (wsPad c b).getD s 0 = c.getD s 0 := by
  unfold wsPad
  split
  · rename_i h
    rw [List.getD_eq_getElem?_getD, List.getD_eq_getElem?_getD]
    rcases Nat.lt_or_ge s c.length with q | q
    · rw [List.getElem?_append_left q]
    · rw [List.getElem?_append_right q, List.getElem?_eq_none q]
      rcases Nat.lt_or_ge (s - c.length) (b + 1 - c.length) with r | r
      · rw [List.getElem?_replicate, if_pos r]; rfl
      · rw [List.getElem?_replicate, if_neg (by omega)]
  · rfl
theorem pad_len (c : List Nat) (b : Nat) : (wsPad c b).length = max c.length (b + 1) := by
  unfold wsPad
  split
  · rw [List.length_append, List.length_replicate]; omega
  · omega
theorem hstep_getD (c : List Nat) (l s : Nat) : (hstep c l).getD s 0 = c.getD s 0 + if s = l then 1 else 0 := by
  have hl : l < (wsPad c l).length := by rw [pad_len]; omega
  unfold hstep
  by_cases q : s = l
  · subst q
    rw [if_pos rfl, List.getD_eq_getElem?_getD, List.getElem?_set_self hl]
    show (wsPad c s).getD s 0 + 1 = _
    rw [pad_getD]
  · rw [if_neg q, List.getD_eq_getElem?_getD, List.getElem?_set_ne (Ne.symm q), ← List.getD_eq_getElem?_getD, pad_getD, Nat.add_zero]
theorem hist_getD : ∀ (L c : List Nat) (s : Nat), (L.foldl hstep c).getD s 0 = c.getD s 0 + L.count s
  | [], c, s => by simp
  | l :: r, c, s => by
    rw [List.foldl_cons, hist_getD r, hstep_getD, List.count_cons]
    by_cases q : s = l
    · subst q; simp; omega
    · rw [if_neg q, if_neg (by simpa using fun z => q z.symm)]; omega
theorem hist_len {M : Nat} : ∀ (L c : List Nat), (∀ l ∈ L, l ≤ M) → (M ∈ L ∨ c.length = M + 1) → c.length ≤ M + 1 → (L.foldl hstep c).length = M + 1
  | [], c, _, h, _ => by
    rcases h with h | h
    · cases h
    · exact h
  | l :: r, c, hl, h, hc => by
    have e : (hstep c l).length = max c.length (l + 1) := by rw [hstep, List.length_set, pad_len]
    have hl0 := hl l List.mem_cons_self
    rw [List.foldl_cons]
    refine hist_len r _ (fun x hx => hl x (List.mem_cons_of_mem _ hx)) ?_ (by omega)
    rcases h with h | h
    · rcases List.mem_cons.mp h with h | h
      · right; omega
      · exact .inl h
    · right; omega
theorem hist_eq {L : List Nat} {M : Nat} (hM : M ∈ L) (hle : ∀ l ∈ L, l ≤ M) : L.foldl hstep [] = (List.range (M + 1)).map fun s => L.count s := by
  have hlen : (L.foldl hstep []).length = M + 1 := hist_len L [] hle (.inl hM) (Nat.zero_le _)
  apply List.ext_getElem
  · rw [hlen, List.length_map, List.length_range]
  · intro s h1 h2
    have := hist_getD L [] s
    rw [List.getD_eq_getElem?_getD, List.getElem?_eq_getElem h1] at this
    simp at this ⊢
    exact this
theorem lvl_eq {L : List Nat} {M T n0 : Nat} (hM : M ∈ L) (hle : ∀ l ∈ L, l ≤ M) (hT : T ≠ 0) (hMT : M ≤ T) : lvlOf ⟨n0, L.length, 0, L.foldl hstep []⟩ T = T * (L.length + L.count T) := by
  have hlen : (L.foldl hstep []).length = M + 1 := hist_len L [] hle (.inl hM) (Nat.zero_le _)
  unfold lvlOf
  show 0 + T * (lvlAt (L.foldl hstep []) T ((L.foldl hstep []).length - T) + L.length) = _
  rw [hlen, Nat.zero_add]
  by_cases q : M = T
  · subst q
    have e : M + 1 - M = 1 := by omega
    have d : (M + 0) / M = 1 := Nat.div_self (by omega)
    have hg := hist_getD L [] M
    rw [e]
    show M * (0 + (M + 0) / M * (L.foldl hstep []).getD (M + 0) 0 + L.length) = _
    rw [d, Nat.add_zero, hg]
    congr 1
    simp
    omega
  · have e : M + 1 - T = 0 := by omega
    have z : L.count T = 0 := List.count_eq_zero.mpr fun h => by have := hle T h; omega
    rw [e, z]
    show T * (0 + L.length) = _
    rw [Nat.zero_add, Nat.add_zero]
noncomputable def idOf (i j : Nat) : Nat := [0, 0, 1, 2, 0, 0, 3, 4, 1, 3, 0, 5, 2, 4, 5, 0].getD (i * 4 + j) 0
noncomputable def cutC (t : Trip) (g : Nat → Bool) : Bool := !(g (idOf t.2.1 t.2.2) || (g (idOf t.2.1 (6 - t.1 - t.2.1 - t.2.2)) && g (idOf t.2.2 (6 - t.1 - t.2.1 - t.2.2))))
noncomputable abbrev CutS := List Nat × List Bool
noncomputable def idsOf (p : Nat) : List Nat := [0, 1, 2, 3, 4, 5].filter fun x => ![(pr x).1, (pr x).2].contains p
noncomputable def stp (p : Nat) (s : CutS) (x : Nat) : CutS := if ![(pr x).1, (pr x).2].contains p then (stepM s.1 (pr x), s.2.set x true) else s
noncomputable def ini : CutS := ([0, 1, 2, 3], [false, false, false, false, false, false])
noncomputable def grow (p : Nat) (l : List CutS) : List CutS := (l ++ l.flatMap fun s => (idsOf p).map (stp p s)).eraseDups
noncomputable def reach (p : Nat) : List CutS := grow p (grow p (grow p (grow p [ini])))
theorem reach_ok : ((List.range 4).all fun p => (reach p).contains ini && (reach p).all fun s => (decide (s.2.length = 6)) && (all6 fun x => (reach p).contains (stp p s x)) && (trips.all fun t => !(Nat.beq t.1 p) || ((s.1.getD t.2.1 0 != s.1.getD t.2.2 0) == cutC t fun x => s.2.getD x false))) = true := by decide +kernel
end TL
end
section
namespace TL
open PySem PySem.W PyProof.Rows
theorem stp_marks (p : Nat) : ∀ (es : List Nat) (s : CutS), (es.foldl (stp p) s).1 = ((es.map pr).filter fun t => ![t.1, t.2].contains p).foldl stepM s.1
  | [], s => rfl
  | x :: r, s => by
    rw [List.foldl_cons, stp_marks p r, List.map_cons]
    cases h : ![(pr x).1, (pr x).2].contains p with
    | true =>
      rw [List.filter_cons_of_pos (p := fun t : Nat × Nat => ![t.1, t.2].contains p) (a := pr x) h, List.foldl_cons, stp, if_pos h]
    | false =>
      rw [List.filter_cons_of_neg (p := fun t : Nat × Nat => ![t.1, t.2].contains p) (a := pr x) (by rw [h]; exact Bool.false_ne_true), stp, if_neg (by rw [h]; exact Bool.false_ne_true)]
theorem stp_flags (p : Nat) {x : Nat} (hx : x < 6) : ∀ (es : List Nat) (s : CutS), s.2.length = 6 → (es.foldl (stp p) s).2.getD x false = (s.2.getD x false || (es.contains x && ![(pr x).1, (pr x).2].contains p))
  | [], s, _ => by simp
  | y :: r, s, hs => by
    have hl : (stp p s y).2.length = 6 := by
      unfold stp
      split
      · rw [List.length_set]; exact hs
      · exact hs
    rw [List.foldl_cons, stp_flags p hx r _ hl]
    have e : (stp p s y).2.getD x false = (s.2.getD x false || ((x == y) && ![(pr x).1, (pr x).2].contains p)) := by
      unfold stp
      by_cases q : x = y
      · subst q
        cases h : ![(pr x).1, (pr x).2].contains p with
        | true => rw [if_pos rfl, List.getD_eq_getElem?_getD, List.getElem?_set_self (by omega)]; simp
        | false => rw [if_neg Bool.false_ne_true]; simp
      · have q' : (x == y) = false := by simpa using q
        rw [q']
        split
        · rw [List.getD_eq_getElem?_getD, List.getElem?_set_ne (Ne.symm q), ← List.getD_eq_getElem?_getD]; simp
        · simp
    have e2 : (y :: r).contains x = ((x == y) || r.contains x) := List.contains_cons
    rw [e, e2]
    generalize (![(pr x).1, (pr x).2].contains p) = o
    generalize r.contains x = c
    cases s.2.getD x false <;> cases (x == y) <;> cases c <;> cases o <;> rfl
theorem reach_at {p : Nat} (hp : p < 4) : (reach p).contains ini = true ∧ ∀ s, s ∈ reach p → s.2.length = 6 ∧ (∀ x, x < 6 → (reach p).contains (stp p s x) = true) ∧ ∀ t ∈ trips, t.1 = p → (s.1.getD t.2.1 0 != s.1.getD t.2.2 0) = cutC t fun x => s.2.getD x false := by
  have h := List.all_eq_true.mp reach_ok p (List.mem_range.mpr hp)
  rw [Bool.and_eq_true] at h
  refine ⟨h.1, fun s hs => ?_⟩
  have h2 := List.all_eq_true.mp h.2 s hs
  rw [Bool.and_eq_true, Bool.and_eq_true] at h2
  obtain ⟨⟨a, b⟩, c⟩ := h2
  refine ⟨of_decide_eq_true a, fun x hx => all6_of b hx, fun t ht e => ?_⟩
  have d := List.all_eq_true.mp c t ht
  rw [e, Nat.beq_refl] at d
  simp only [Bool.not_true, Bool.false_or] at d
  exact eq_of_beq d
theorem run_reach {p : Nat} (hp : p < 4) : ∀ (es : List Nat) (s : CutS), (∀ x ∈ es, x < 6) → s ∈ reach p → es.foldl (stp p) s ∈ reach p
  | [], s, _, hs => hs
  | x :: r, s, h, hs => by
    rw [List.foldl_cons]
    exact run_reach hp r _ (fun y hy => h y (List.mem_cons_of_mem _ hy)) (List.contains_iff_mem.mp (((reach_at hp).2 s hs).2.1 x (h x List.mem_cons_self)))
theorem trip_ids : ∀ t ∈ trips, t.1 < 4 ∧ (idOf t.2.1 t.2.2 < 6 ∧ (![(pr (idOf t.2.1 t.2.2)).1, (pr (idOf t.2.1 t.2.2)).2].contains t.1) = true) ∧ (idOf t.2.1 (6 - t.1 - t.2.1 - t.2.2) < 6 ∧ (![(pr (idOf t.2.1 (6 - t.1 - t.2.1 - t.2.2))).1, (pr (idOf t.2.1 (6 - t.1 - t.2.1 - t.2.2))).2].contains t.1) = true) ∧ (idOf t.2.2 (6 - t.1 - t.2.1 - t.2.2) < 6 ∧ (![(pr (idOf t.2.2 (6 - t.1 - t.2.1 - t.2.2))).1, (pr (idOf t.2.2 (6 - t.1 - t.2.1 - t.2.2))).2].contains t.1) = true) := by decide +kernel
theorem cut_es {es : List Nat} (h6 : ∀ x ∈ es, x < 6) {t : Trip} (ht : t ∈ trips) : cutBy (waysOf (es.map pr)) t = cutC t fun x => es.contains x := by
  obtain ⟨hp, ⟨a1, a2⟩, ⟨b1, b2⟩, ⟨c1, c2⟩⟩ := trip_ids t ht
  have hw : (waysOf (es.map pr)).getD t.1 [] = (es.foldl (stp t.1) ini).1 := by
    rw [stp_marks, waysOf, List.getD_eq_getElem?_getD, List.getElem?_map, List.getElem?_range hp]
    rfl
  have hr := run_reach hp es ini h6 (List.contains_iff_mem.mp (reach_at hp).1)
  have h := ((reach_at hp).2 _ hr).2.2 t ht rfl
  rw [cutBy, hw, h]
  have fl : ∀ x, x < 6 → (![(pr x).1, (pr x).2].contains t.1) = true → (es.foldl (stp t.1) ini).2.getD x false = es.contains x := fun x hx hc => by
    rw [stp_flags t.1 hx es ini rfl, hc, Bool.and_true]
    have : ini.2.getD x false = false := by
      rcases six hx with h | h | h | h | h | h <;> rw [h] <;> rfl
    rw [this, Bool.false_or]
  unfold cutC
  dsimp only
  rw [fl _ a1 a2, fl _ b1 b2, fl _ c1 c2]
noncomputable def chkSqG (P : Nat → Nat → Nat) (sq far : List (List Int)) (T : Nat) : Bool :=
  (sq.all fun r => r.all inK) && ((far.all fun r => r.all posK) && (Nat.ble 1 T && (Nat.ble T 1000 &&
  ((lt4.all fun p => decide (at2 far p.1 p.2 = (P p.1 p.2 : Int))) &&
  ((quads2.all fun t => decide (at2 far t.1 t.2.2.1 * at2 far t.1 t.2.2.2 - crossOf sq t.2.1 t.2.2.1 t.2.2.2 * crossOf sq t.2.1 t.2.2.1 t.2.2.2 = (T : Int) * at2 sq t.2.1 t.2.1) && decide (0 < at2 sq t.2.1 t.2.1)) &&
  ([1, 2, 3].all fun i => [1, 2, 3].all fun j => decide (([1, 2, 3].map (toldOf sq far i j)).sum = if i = j then 2 * (T : Int) else 0)))))))
noncomputable def chkTripG (g : Nat → Bool) (t : Trip) (w0 w1 w2 x y z : Nat) : Bool :=
  Nat.beq (w0 + (w1 + (w2 + 0))) (2 * max w0 (max w1 w2) + 2 * min x (min y z)) && (Nat.ble x 40 && (Nat.ble y 40 && (Nat.ble z 40 &&
  ((Nat.beq (min x (min y z)) 0 && Nat.ble 1 (max x (max y z))) == !((rot t).filter fun r => cutC r g).isEmpty))))
noncomputable def chkLightG (Al : Trip → Nat) (g : Nat → Bool) (far : List (List Int)) : Bool :=
  threes.all fun t => chkTripG g t (frT far (t.1, t.2.2, t.2.1)) (frT far (t.2.1, t.1, t.2.2)) (frT far (t.2.2, t.2.1, t.1)) (Al (t.1, t.2.2, t.2.1)) (Al (t.2.1, t.1, t.2.2)) (Al (t.2.2, t.2.1, t.1))
noncomputable def goodC (a b c d e f : Nat) : Bool :=
  chkSqG (fun i j => P2 (QB (mP i j)) a b c d e f) (lapl a b c d e f) (farM a b c d e f) (P3 WT a b c d e f) &&
  (chkLightG (fun t => P2 (QB (mA t)) a b c d e f) (fun x => Nat.blt 0 ([a, b, c, d, e, f].getD x 0)) (farM a b c d e f) &&
  ((all6 fun x => Nat.beq (frN (farM a b c d e f) (pr x)) (P2 (WT x) a b c d e f)) &&
  Nat.beq (P1 (fun x => P2 (WT x) a b c d e f) a b c d e f) (3 * P3 WT a b c d e f)))
end TL
end
section
namespace TL
open PySem PySem.W PyProof.Rows
theorem twos4 {ts : List (Nat × Nat)} (h : ∀ t ∈ ts, t.1 < 4 ∧ t.2 < 4) : ∀ m ∈ twosOf ts, m.length = 4 := fun m hm => by
  simp only [twosOf, List.mem_flatten, List.mem_map] at hm
  obtain ⟨l, ⟨i, hi, rfl⟩, hm⟩ := hm
  simp only [List.mem_flatten, List.mem_map] at hm
  obtain ⟨l, ⟨j, hj, rfl⟩, hm⟩ := hm
  rw [List.mem_singleton.mp hm]
  have hi := List.mem_range.mp hi
  have hj := List.mem_range.mp hj
  have at' : ∀ k, k < ts.length → tieAt ts k ∈ ts := fun k hk => by
    rw [tieAt, List.getD_eq_getElem?_getD, List.getElem?_eq_getElem hk]; exact List.getElem_mem hk
  refine pieces_lt _ _ rfl fun t ht => ?_
  simp only [List.mem_cons, List.not_mem_nil, or_false] at ht
  rcases ht with rfl | rfl
  · exact h _ (at' i hi)
  · exact h _ (at' j (Nat.lt_trans hj hi))
theorem sum_counts (F : Nat → Nat) : ∀ (es : List Nat), (∀ x ∈ es, x < 6) → (es.map F).sum = P1 F (es.count 0) (es.count 1) (es.count 2) (es.count 3) (es.count 4) (es.count 5)
  | [], _ => by simp [P1]
  | x :: r, h => by
    rw [List.map_cons, List.sum_cons, sum_counts F r fun y hy => h y (List.mem_cons_of_mem _ hy)]
    rcases six (h x List.mem_cons_self) with q | q | q | q | q | q <;> subst q <;> simp [P1, List.count_cons, Nat.mul_add] <;> ac_rfl
theorem cnt2_le (es : List Nat) (q : Nat → Nat → Bool) (h : es.length ≤ 6) : cnt2 es q ≤ 36 := by
  rw [cnt2_S2]
  have row : ∀ (g : Nat → Bool) n, S1 n (fun j => cond (g j) 1 0) ≤ n := fun g n => by
    induction n with
    | zero => exact Nat.le_refl _
    | succ n ih =>
      rw [S1]
      exact Nat.add_le_add ih (by cases g n <;> decide)
  have col : ∀ n, n ≤ 6 → S2 n (fun i j => cond (q (es.getD i 0) (es.getD j 0)) 1 0) ≤ 6 * n := fun n => by
    induction n with
    | zero => intro _; exact Nat.le_refl _
    | succ n ih =>
      intro hn
      exact Nat.add_le_add (ih (Nat.le_of_succ_le hn)) (Nat.le_trans (row (fun j => q (es.getD n 0) (es.getD j 0)) n) (Nat.le_of_succ_le hn))
  exact Nat.le_trans (col _ h) (Nat.mul_le_mul_left 6 h)
theorem max_ex : ∀ L : List Nat, L ≠ [] → ∃ M, M ∈ L ∧ ∀ l ∈ L, l ≤ M
  | [], h => absurd rfl h
  | [x], _ => ⟨x, List.mem_cons_self, fun l hl => by rw [List.mem_singleton.mp hl]; exact Nat.le_refl _⟩
  | x :: y :: r, _ => by
    obtain ⟨M, h1, h2⟩ := max_ex (y :: r) (fun z => nomatch z)
    rcases Nat.le_total x M with q | q
    · exact ⟨M, List.mem_cons_of_mem _ h1, fun l hl => by
        rcases List.mem_cons.mp hl with rfl | hl
        · exact q
        · exact h2 l hl⟩
    · exact ⟨x, List.mem_cons_self, fun l hl => by
        rcases List.mem_cons.mp hl with rfl | hl
        · exact Nat.le_refl _
        · exact Nat.le_trans (h2 l hl) q⟩
theorem rot_trips : ∀ t ∈ threes, ∀ r ∈ rot t, r ∈ trips := by decide
theorem inK_at {m : List (List Int)} (h : (m.all fun r => r.all inK) = true) (i j : Nat) : -1000 ≤ at2 m i j ∧ at2 m i j ≤ 1000 := by
  have := all_at2 h (by decide) i j
  simpa [inK] using this
theorem posK_at {m : List (List Int)} (h : (m.all fun r => r.all posK) = true) (i j : Nat) : 0 ≤ at2 m i j ∧ at2 m i j ≤ 500 := by
  have := all_at2 h (by decide) i j
  simpa [posK] using this
theorem lt4_mem : ∀ i, i < 4 → ∀ j, j < i → (i, j) ∈ lt4 := by decide
theorem div_of {x b : Int} {T : Nat} (q1 : x = (T : Int) * b) (q2 : 0 < b) (q3 : b ≤ 1000) (h1 : 1 ≤ T) (h2 : T ≤ 1000) :
    ∃ a c : Nat, x = (a : Int) ∧ b = (c : Int) ∧ a ≠ 0 ∧ a < 2 ^ 30 ∧ c ≠ 0 ∧ c < 1073741824 ∧ a / c = T ∧ a % c = 0 := by
  obtain ⟨c, e⟩ := Int.eq_ofNat_of_zero_le (Int.le_of_lt q2)
  subst e
  have c0 : 0 < c := Int.ofNat_lt.mp q2
  have c1 : c ≤ 1000 := Int.ofNat_le.mp q3
  exact ⟨T * c, c, q1, rfl, Nat.mul_ne_zero (Nat.ne_of_gt h1) (Nat.ne_of_gt c0), Nat.lt_of_le_of_lt (Nat.mul_le_mul h2 c1) (by decide), Nat.ne_of_gt c0, Nat.lt_of_le_of_lt c1 (by decide), Nat.mul_div_cancel _ c0, Nat.mul_mod_left _ _⟩
theorem of123 {q : Nat → Bool} (h : ([1, 2, 3].all q) = true) {i : Nat} (hi : i = 1 ∨ i = 2 ∨ i = 3) : q i = true := List.all_eq_true.mp h i (by rcases hi with h | h | h <;> rw [h] <;> decide)
theorem sq_of {P : Nat → Nat → Nat} {sq far : List (List Int)} {T : Nat} {fs : List (List Nat)} (h : chkSqG P sq far T = true) (l4 : Sq4 sq) (f4 : Sq4 far) (fs4 : ∀ m ∈ fs, m.length = 4) (few : fs.length ≤ 36) (eP : ∀ i j, i < 4 → j < 4 → parts fs i j = P i j) : SquareOk sq far T fs := by
  unfold chkSqG at h
  simp only [Bool.and_eq_true] at h
  obtain ⟨s1, s2, s3, s4, s5, s6, s7⟩ := h
  refine ⟨l4, f4, fs4, Nat.le_trans few (by decide), fun i j _ _ => inK_at s1 i j, fun i j _ _ => ⟨Int.le_trans (by decide) (posK_at s2 i j).1, Int.le_trans (posK_at s2 i j).2 (by decide)⟩, fun i j hi hj => ?_, fun t ht => ?_, fun i j hi hj => ?_⟩
  · rw [eP i j hi (Nat.lt_trans hj hi)]
    exact of_decide_eq_true (List.all_eq_true.mp s5 (i, j) (lt4_mem i hi j hj))
  · have q := List.all_eq_true.mp s6 t ht
    rw [Bool.and_eq_true] at q
    exact div_of (of_decide_eq_true q.1) (of_decide_eq_true q.2) (inK_at s1 _ _).2 (Nat.ble_eq.mp s3) (Nat.ble_eq.mp s4)
  · exact of_decide_eq_true (of123 (of123 s7 hi) hj)
theorem cast3 {w m n : Nat} (h : w = 2 * m + 2 * n) : (w : Int) - 2 * (m : Int) = 2 * (n : Int) := by omega
theorem trip_at {Al : Trip → Nat} {g : Nat → Bool} {ts : List (Nat × Nat)} {far : List (List Int)} {fs : List (List Nat)} (h : chkLightG Al g far = true) (eA : ∀ t ∈ trips, aloneN fs t = Al t) {t : Trip} (ht : t ∈ threes) :
    chkTripG g t (frT far (t.1, t.2.2, t.2.1)) (frT far (t.2.1, t.1, t.2.2)) (frT far (t.2.2, t.2.1, t.1)) (aloneN fs (t.1, t.2.2, t.2.1)) (aloneN fs (t.2.1, t.1, t.2.2)) (aloneN fs (t.2.2, t.2.1, t.1)) = true := by
  have q := List.all_eq_true.mp h t ht
  have e1 := eA _ (rot_trips t ht _ List.mem_cons_self)
  have e2 := eA _ (rot_trips t ht _ (List.mem_cons_of_mem _ List.mem_cons_self))
  have e3 := eA _ (rot_trips t ht _ (List.mem_cons_of_mem _ (List.mem_cons_of_mem _ List.mem_cons_self)))
  rw [← e1, ← e2, ← e3] at q
  exact q
theorem of3 {α : Type} {a b c x y z : α} (h : [a, b, c] = [x, y, z]) : a = x ∧ b = y ∧ c = z := ⟨(List.cons.inj h).1, (List.cons.inj (List.cons.inj h).2).1, (List.cons.inj (List.cons.inj (List.cons.inj h).2).2).1⟩
theorem light_of {Al : Trip → Nat} {g : Nat → Bool} {ts : List (Nat × Nat)} {far : List (List Int)} {fs : List (List Nat)} (h : chkLightG Al g far = true) (few : ts.length ≤ 6) (t4 : ∀ t ∈ ts, t.1 < 4 ∧ t.2 < 4) (f4 : Sq4 far) (fs4 : ∀ m ∈ fs, m.length = 4) (fewF : fs.length ≤ 36)
    (bf : ∀ i j, 0 ≤ at2 far i j ∧ at2 far i j ≤ 500) (eA : ∀ t ∈ trips, aloneN fs t = Al t) (eC : ∀ t ∈ trips, cutBy (waysOf ts) t = cutC t g) : LightOk ts far fs := by
  refine ⟨Nat.le_trans few (by decide), t4, f4, fs4, Nat.le_trans fewF (by decide), fun i j _ _ => ⟨(at2 far i j).toNat, (Int.toNat_of_nonneg (bf i j).1).symm, Int.toNat_le.mpr (Int.le_trans (bf i j).2 (by decide))⟩, fun t ht w0 w1 w2 hw x y z hx => ?_, fun t ht x y z hx => ?_⟩
  · have q := trip_at (ts := ts) h eA ht
    obtain ⟨e1, e2, e3⟩ := of3 hw
    obtain ⟨e4, e5, e6⟩ := of3 hx
    rw [e1, e2, e3, e4, e5, e6] at q
    exact cast3 (Nat.eq_of_beq_eq_true (Bool.and_eq_true_iff.mp q).1)
  · have q := trip_at (ts := ts) h eA ht
    obtain ⟨e4, e5, e6⟩ := of3 hx
    rw [e4, e5, e6] at q
    unfold chkTripG at q
    rw [Bool.and_eq_true, Bool.and_eq_true, Bool.and_eq_true, Bool.and_eq_true] at q
    rw [sat_one (Nat.ble_eq.mp q.2.1) (Nat.ble_eq.mp q.2.2.1) (Nat.ble_eq.mp q.2.2.2.1), eq_of_beq q.2.2.2.2]
    congr 2
    exact List.filter_congr fun r hr => (eC r (rot_trips t ht r hr)).symm
theorem lead_of {ts : List (Nat × Nat)} {far : List (List Int)} {trees : List (List Nat)} (few : ts.length ≤ 6) (h1 : 1 ≤ trees.length) (h2 : trees.length ≤ 1000) (t4 : ∀ t ∈ ts, t.1 < 4 ∧ t.2 < 4) (bf : ∀ i j, 0 ≤ at2 far i j ∧ at2 far i j ≤ 500)
    (hL : heldOf ts.length trees = ts.map (frN far)) (sum : (ts.map (frN far)).sum = 3 * trees.length) (hne : ts.map (frN far) ≠ []) : LeadOk ts far trees := by
  have ws := ws_ties far ts
  obtain ⟨M, hM, hle⟩ := max_ex _ hne
  have hMT : M ≤ trees.length := by
    have hM := hM
    rw [← hL] at hM
    obtain ⟨k, _, e⟩ := List.mem_map.mp hM
    rw [← e]
    exact List.length_filter_le _ _
  have hv := lvl_eq (n0 := (ts.map (frN far)).sum + ts.length) hM hle (Nat.ne_of_gt h1) hMT
  rw [List.length_map] at hv
  refine ⟨few, Nat.le_trans h2 (by decide), Nat.ne_of_gt h1, fun t ht => ⟨(t4 t ht).1, (t4 t ht).2, (Int.toNat_of_nonneg (bf _ _).1).symm, Int.toNat_le.mpr (bf _ _).2⟩, ?_, ?_, ?_, ⟨M, ?_, ?_, ?_⟩, ?_⟩
  · rw [ws, sum, Nat.add_comm]
  · rw [ws]
  · rw [ws]
  · rw [hL]; exact hM
  · rw [hL]; exact hle
  · rw [hL, ws]; exact hist_eq hM hle
  · rw [hL, ws]; exact hv
theorem cut_at {es : List Nat} (h6 : ∀ x ∈ es, x < 6) : ∀ t ∈ trips, cutBy (waysOf (es.map pr)) t = cutC t fun x => Nat.blt 0 ([es.count 0, es.count 1, es.count 2, es.count 3, es.count 4, es.count 5].getD x 0) := fun t ht => by
  rw [cut_es h6 ht]
  obtain ⟨_, ⟨a1, _⟩, ⟨b1, _⟩, ⟨c1, _⟩⟩ := trip_ids t ht
  have q : ∀ x, x < 6 → es.contains x = Nat.blt 0 ([es.count 0, es.count 1, es.count 2, es.count 3, es.count 4, es.count 5].getD x 0) := fun x hx => by
    have e : [es.count 0, es.count 1, es.count 2, es.count 3, es.count 4, es.count 5].getD x 0 = es.count x := by
      rcases six hx with h | h | h | h | h | h <;> rw [h] <;> rfl
    rw [e, Bool.eq_iff_iff, List.contains_iff_mem, Nat.blt_eq]
    exact List.count_pos_iff.symm
  unfold cutC
  dsimp only
  rw [q _ a1, q _ b1, q _ c1]
theorem law_of' {es : List Nat} {a b c d e f : Nat} (h6 : ∀ x ∈ es, x < 6) (hl : es.length ≤ 6) (h : goodC a b c d e f = true)
    (eT : (treesOf (es.map pr)).length = P3 WT a b c d e f) (eS : squareOf (es.map pr) = lapl a b c d e f) (eF : farOf (squareOf (es.map pr)) = farM a b c d e f)
    (eP : ∀ i j, i < 4 → j < 4 → parts (forestsOf (es.map pr)) i j = P2 (QB (mP i j)) a b c d e f) (eA : ∀ t ∈ trips, aloneN (forestsOf (es.map pr)) t = P2 (QB (mA t)) a b c d e f)
    (eC : ∀ t ∈ trips, cutBy (waysOf (es.map pr)) t = cutC t fun x => Nat.blt 0 ([a, b, c, d, e, f].getD x 0)) (eH : heldOf es.length (treesE es) = es.map fun x => P2 (WT x) a b c d e f)
    (sums : (es.map fun x => P2 (WT x) a b c d e f).sum = P1 (fun x => P2 (WT x) a b c d e f) a b c d e f) : LawOk (es.map pr) := by
  unfold goodC at h
  simp only [Bool.and_eq_true] at h
  obtain ⟨hS, hL, hF, hX⟩ := h
  have hS' := hS
  unfold chkSqG at hS'
  simp only [Bool.and_eq_true] at hS'
  have bf := posK_at hS'.2.1
  have hT1 := Nat.ble_eq.mp hS'.2.2.1
  have four : ∀ t ∈ es.map pr, t.1 < 4 ∧ t.2 < 4 := fun t ht => (List.mem_map.mp ht).elim fun x z => by
    rw [← z.2]; exact ⟨(pr_lt (h6 x z.1)).1, (pr_lt (h6 x z.1)).2.1⟩
  have tw : (twosOf (es.map pr)).length ≤ 36 := by
    have e : (twosOf (es.map pr)).length = ((twosOf (es.map pr)).filter fun _ => true).length := by rw [List.filter_eq_self.mpr fun _ _ => rfl]
    rw [e, two_count]
    exact cnt2_le _ _ hl
  have tw4 := twos4 four
  have fs4 : ∀ m ∈ forestsOf (es.map pr), m.length = 4 := fun m hm => tw4 m (List.mem_filter.mp hm).1
  have fsl : (forestsOf (es.map pr)).length ≤ 36 := Nat.le_trans (List.length_filter_le _ _) tw
  have l4 : Sq4 (lapl a b c d e f) := ⟨rfl, fun r hr => by simp only [lapl, List.mem_cons, List.not_mem_nil, or_false] at hr; rcases hr with h | h | h | h <;> rw [h] <;> rfl⟩
  have f4 : Sq4 (farM a b c d e f) := ⟨rfl, fun r hr => by simp only [farM, List.mem_cons, List.not_mem_nil, or_false] at hr; rcases hr with h | h | h | h <;> rw [h] <;> rfl⟩
  have ell : (es.map pr).length ≤ 6 := by rw [List.length_map]; exact hl
  have hM : (es.map pr).map (frN (farM a b c d e f)) = es.map fun x => P2 (WT x) a b c d e f := by
    rw [List.map_map]
    exact List.map_congr_left fun x hx => Nat.eq_of_beq_eq_true (all6_of hF (h6 x hx))
  refine ⟨four, Nat.le_trans tw (by decide), tw4, ?_, ?_, ?_⟩
  · rw [eF, eS, eT]
    exact sq_of hS l4 f4 fs4 fsl eP
  · rw [eF]
    exact light_of hL ell four f4 fs4 fsl bf eA eC
  · rw [eF]
    rw [← eT] at hT1
    refine lead_of ell hT1 (by rw [eT]; exact Nat.ble_eq.mp hS'.2.2.2.1) four bf ?_ ?_ ?_
    · rw [List.length_map, treesOf_es h6, hM]; exact eH
    · rw [hM, sums, eT]; exact Nat.eq_of_beq_eq_true hX
    · intro q
      rw [List.map_eq_nil_iff.mp (List.map_eq_nil_iff.mp q)] at hT1
      exact absurd hT1 (by decide)
theorem law_of {es : List Nat} (h6 : ∀ x ∈ es, x < 6) (hl : es.length ≤ 6) (h : goodC (es.count 0) (es.count 1) (es.count 2) (es.count 3) (es.count 4) (es.count 5) = true) : LawOk (es.map pr) :=
  have eS := square_es h6
  law_of' h6 hl h (by rw [treesOf_es h6, T_poly h6]) eS (by rw [eS, far_lapl]) (fun i j hi hj => by rw [parts_es h6 hi hj]; exact PE_poly h6 hi hj) (fun t ht => by rw [alone_es h6 ht]; exact AE_poly h6 ht) (cut_at h6) (held_poly h6) (sum_counts _ es h6)
end TL
end
section
namespace TL
open PySem PySem.W PyProof.Rows
noncomputable def box (q : Nat → Nat → Nat → Nat → Nat → Nat → Bool) : Bool := (List.range 4).all fun a => (List.range (4 - a)).all fun b => (List.range (4 - a - b)).all fun c => (List.range (4 - a - b - c)).all fun d => (List.range (4 - a - b - c - d)).all fun e => (List.range (4 - a - b - c - d - e)).all fun f => q a b c d e f
theorem box_at {q : Nat → Nat → Nat → Nat → Nat → Nat → Bool} (h : box q = true) {a b c d e f : Nat} (hs : a + b + c + d + e + f ≤ 3) : q a b c d e f = true := by
  have h1 := List.all_eq_true.mp h a (List.mem_range.mpr (by omega))
  have h2 := List.all_eq_true.mp h1 b (List.mem_range.mpr (by omega))
  have h3 := List.all_eq_true.mp h2 c (List.mem_range.mpr (by omega))
  have h4 := List.all_eq_true.mp h3 d (List.mem_range.mpr (by omega))
  have h5 := List.all_eq_true.mp h4 e (List.mem_range.mpr (by omega))
  exact List.all_eq_true.mp h5 f (List.mem_range.mpr (by omega))
theorem box00 : box (fun a b c d e f => goodC (1 + a) (1 + b) (1 + c) (0 + d) (0 + e) (0 + f)) = true := by decide +kernel
theorem box01 : box (fun a b c d e f => goodC (1 + a) (1 + b) (0 + c) (0 + d) (1 + e) (0 + f)) = true := by decide +kernel
theorem box02 : box (fun a b c d e f => goodC (1 + a) (1 + b) (0 + c) (0 + d) (0 + e) (1 + f)) = true := by decide +kernel
theorem box10 : box (fun a b c d e f => goodC (1 + a) (0 + b) (1 + c) (1 + d) (0 + e) (0 + f)) = true := by decide +kernel
theorem box11 : box (fun a b c d e f => goodC (1 + a) (0 + b) (0 + c) (1 + d) (1 + e) (0 + f)) = true := by decide +kernel
theorem box12 : box (fun a b c d e f => goodC (1 + a) (0 + b) (0 + c) (1 + d) (0 + e) (1 + f)) = true := by decide +kernel
theorem law_ext {base ext : List Nat} (hb : ∀ x ∈ base, x < 6) (hx : ∀ x ∈ ext, x < 6) (hl : base.length = 3) (hl' : ext.length ≤ 3) (h : ∀ a b c d e f, a + b + c + d + e + f ≤ 3 → goodC (base.count 0 + a) (base.count 1 + b) (base.count 2 + c) (base.count 3 + d) (base.count 4 + e) (base.count 5 + f) = true) : LawOk ((base ++ ext).map pr) := by
  refine law_of (fun x hm => (List.mem_append.mp hm).elim (hb x) (hx x)) (by rw [List.length_append]; omega) ?_
  have s := sum_counts (fun _ => 1) ext hx
  have e : (ext.map fun _ => 1).sum = ext.length := by
    clear s hl' hx
    induction ext with
    | nil => rfl
    | cons x r ih => rw [List.map_cons, List.sum_cons, ih, List.length_cons, Nat.add_comm]
  rw [e, P1] at s
  simp only [List.count_append]
  exact h _ _ _ _ _ _ (by omega)
theorem plain6 {ex : List Nat} (hx : ∀ x ∈ ex, x < 6) (hl : ex.length ≤ 3) : ∀ r0 r1 : Nat, r0 < 2 → r1 < 3 → LawOk (([0, 1 + 2 * r0, [2, 4, 5].getD r1 0] ++ ex).map pr)
  | 0, 0, _, _ => law_ext (base := [0, 1, 2]) (by decide) hx rfl hl fun _ _ _ _ _ _ h => box_at box00 h
  | 0, 1, _, _ => law_ext (base := [0, 1, 4]) (by decide) hx rfl hl fun _ _ _ _ _ _ h => box_at box01 h
  | 0, 2, _, _ => law_ext (base := [0, 1, 5]) (by decide) hx rfl hl fun _ _ _ _ _ _ h => box_at box02 h
  | 1, 0, _, _ => law_ext (base := [0, 3, 2]) (by decide) hx rfl hl fun _ _ _ _ _ _ h => box_at box10 h
  | 1, 1, _, _ => law_ext (base := [0, 3, 4]) (by decide) hx rfl hl fun _ _ _ _ _ _ h => box_at box11 h
  | 1, 2, _, _ => law_ext (base := [0, 3, 5]) (by decide) hx rfl hl fun _ _ _ _ _ _ h => box_at box12 h
theorem first3 : ∀ r0, r0 < 2 → ∀ r1, r1 < 3 → ([0, 1 + 2 * r0, [2, 4, 5].getD r1 0] : List Nat).map pr = [(0, 1), (r0, 2), (r1, 3)] := by decide
theorem plain (c0 c1 c2 c3 c4 : Nat) : LawOk (tiesOf c0 c1 c2 c3 c4) := by
  have ext : ∀ x ∈ ([c2, c3, c4].filter fun x => decide (x % 7 < 6)).map (· % 7), x < 6 := fun x hx => (List.mem_map.mp hx).elim fun y z => by
    rw [← z.2]
    exact of_decide_eq_true (List.mem_filter.mp z.1).2
  have len : (([c2, c3, c4].filter fun x => decide (x % 7 < 6)).map (· % 7)).length ≤ 3 := by
    rw [List.length_map]; exact List.length_filter_le _ _
  have h0 := Nat.mod_lt c0 (show 0 < 2 by decide)
  have h1 := Nat.mod_lt c1 (show 0 < 3 by decide)
  have t : tiesOf c0 c1 c2 c3 c4 = (([0, 1 + 2 * (c0 % 2), [2, 4, 5].getD (c1 % 3) 0] : List Nat) ++ ([c2, c3, c4].filter fun x => decide (x % 7 < 6)).map (· % 7)).map pr := by
    rw [List.map_append, first3 _ h0 _ h1, List.map_map]
    rfl
  rw [t]
  exact plain6 ext len _ _ h0 h1
end TL
end
section
namespace TL
open PySem PySem.W PyProof.Rows PySem.Calls
noncomputable def topRunT (tb : String → Option Builtin) (p : Program) (w : World) (n₀ : Nat) (ann : Option Value) : Nat → SharedT → Thread → Option SharedT
  | 0, _, _ => none
  | n + 1, s, t => match through t with
    | true => some s
    | false => match PySem.W.Fast.tw6613529449190102663 n₀ ann t with
      | false => none
      | true => match PySem.W.Fast.tw10156331382660048174 (PySem.W.Fast.tw11892475500146522536 tb) p w s t with
        | some (s', t') => topRunT tb p w n₀ ann n s' t'
        | none => none
theorem topRun_of {tb : String → Option Builtin} {p : Program} {w : World} {n₀ : Nat} {ann : Option Value} : ∀ {n : Nat} {s s' : SharedT} {t : Thread}, topRunT tb p w n₀ ann n s t = some s' → topRun tb p w n₀ ann n s.abs t = some s'.abs
  | 0, _, _, _, h => by cases h
  | n + 1, s, s', t, h => by
    unfold topRunT at h
    rw [← PySem.W.Fast.te6613529449190102663, ← PySem.W.Fast.te10156331382660048174, ← PySem.W.Fast.te11892475500146522536] at h
    unfold topRun
    cases he : through t with
    | true => rw [he] at h; cases h; rfl
    | false =>
      rw [he] at h
      cases hk : stepOk n₀ ann t with
      | false => rw [hk] at h; cases h
      | true =>
        rw [hk] at h
        cases hs : stepT (denote tb) p w s t with
        | none => rw [hs] at h; cases h
        | some r => obtain ⟨s₂, t₂⟩ := r; rw [hs] at h; rw [stepT_spec hs]; exact topRun_of h
noncomputable def growT : List Obj → BT → Nat → Option (BT × Nat)
  | [], T, n => some (T, n)
  | o :: r, T, n => match ((T.ins n o).get n).isSome with
    | true => growT r (T.ins n o) (n + 1)
    | false => none
theorem growT_of (life : Life) : ∀ {l : List Obj} {T : BT} {n : Nat} {T' : BT} {n' : Nat}, growT l T n = some (T', n') → absHeap T' n' life = ⟨(absHeap T n life).objs ++ l.toArray, life⟩
  | [], T, n, _, _, h => by cases h; show _ = Heap.mk _ _; simp; rfl
  | o :: r, T, n, T', n', h => by
    unfold growT at h
    cases e : ((T.ins n o).get n).isSome with
    | false => rw [e] at h; cases h
    | true =>
      rw [e] at h
      rw [growT_of life h, absHeap_ins e]
      show Heap.mk _ _ = Heap.mk _ _
      refine congrArg (Heap.mk · life) ?_
      show (absHeap T n life).objs.push o ++ r.toArray = _
      simp
noncomputable def treeS (s : Shared) : Option SharedT := (growT s.heap.objs.toList .nil 0).map fun q => ⟨q.1, q.2, s.heap.life, s.gens, s.drawn, s.toks, s.os⟩
theorem treeS_of {s : Shared} {t : SharedT} (h : treeS s = some t) : t.abs = s := by
  obtain ⟨⟨objs, life⟩, gens, drawn, toks, os⟩ := s
  obtain ⟨⟨T, n⟩, e, rfl⟩ := Option.map_eq_some_iff.mp h
  have := growT_of life e
  show (⟨absHeap T n life, gens, drawn, toks, os⟩ : Shared) = _
  rw [this]
  congr 2
  show (BT.list .nil 0).toArray ++ objs.toList.toArray = objs
  show (#[] : Array Obj) ++ objs.toList.toArray = objs
  simp
noncomputable def topFromT (tb : String → Option Builtin) (p : Program) (w : World) (N : Nat) (s₀ : Shared) : Option SharedT :=
  match s₀.heap.isNs mainGlobals && s₀.gens.size == 0 with
  | true => (treeS s₀).bind fun t₀ => (topRunT tb p w s₀.heap.objs.size (s₀.heap.nsMap mainGlobals "__annotations__") N t₀ (topStub p)).bind fun t₁ => match staticsOk (importedModules p.main.body) s₀.heap t₁.abs.heap && namesBound p t₁.abs.heap && gensDone t₁.abs && laidKept s₀.heap t₁.abs.heap with
      | true => some t₁
      | false => none
  | false => none
theorem topFrom_of {tb : String → Option Builtin} {p : Program} {w : World} {N : Nat} {s₀ : Shared} {t : SharedT} (h : topFromT tb p w N s₀ = some t) : topFrom tb p w N s₀ = some t.abs := by
  unfold topFromT at h
  unfold topFrom
  cases e : (s₀.heap.isNs mainGlobals && s₀.gens.size == 0) with
  | false => rw [e] at h; cases h
  | true =>
    rw [e] at h
    obtain ⟨t₀, a, h⟩ := Option.bind_eq_some_iff.mp h
    obtain ⟨t₁, b, h⟩ := Option.bind_eq_some_iff.mp h
    have b := topRun_of b
    rw [treeS_of a] at b
    rw [b]
    cases c : (staticsOk (importedModules p.main.body) s₀.heap t₁.abs.heap && namesBound p t₁.abs.heap && gensDone t₁.abs && laidKept s₀.heap t₁.abs.heap) with
    | false => rw [c] at h; cases h
    | true =>
      rw [c] at h
      cases h
      show (match _ with | true => some t.abs | false => none) = _
      rw [c]
noncomputable def fencedT (tb : String → Option Builtin) (p : Program) (w : World) (N : Nat) : Option Shared :=
  (PySem.W.Fast.tw10274390034422433532 tb (opening p) w N (PySem.W.Fast.tw1435165496053646825 (opening p)).1 (PySem.W.Fast.tw1435165496053646825 (opening p)).2).bind (PySem.W.Fast.tw14289696077712309145 p)
theorem fencedT_eq (tb : String → Option Builtin) (p : Program) (w : World) (N : Nat) : fencedT tb p w N = fencedOpening tb p w N := by
  unfold fencedT fencedOpening
  rw [PySem.W.Fast.te10274390034422433532, PySem.W.Fast.te1435165496053646825, PySem.W.Fast.te14289696077712309145]
theorem left_of {p q : Program} {loose : List Str} {Xt : Shared → Bool} {α : Type} {Yf : Shared → α} {Ya : World → α} {N : Nat} {g0 : Bool}
    (h : ∀ w, ((fencedT treeTable p w N).bind (topFromT treeTable p w N)).map (fun s => (openSeen q loose (importedModules p.main.body) Xt g0 s.abs, Yf s.abs)) = some (openGood q loose, Ya w)) : LeftO p q loose Xt Yf Ya N g0 := fun w => by
  obtain ⟨t, a, b⟩ := Option.map_eq_some_iff.mp (h w)
  obtain ⟨s₀, c, d⟩ := Option.bind_eq_some_iff.mp a
  rw [fencedT_eq] at c
  unfold openEnds
  rw [c]
  show (topFrom treeTable p w N s₀).map _ = _
  rw [topFrom_of d]
  exact congrArg some b
end TL
end
section
namespace TL
open PySem PySem.W PyProof.Rows PySem.Calls PyProof.Rows.LCg
noncomputable def getFn (K : Frag) (a : Addr) : Option FuncData := match K.lookup a with
  | some ⟨_, _, .func fd, _⟩ => some fd
  | _ => none
noncomputable def codeQ (K : Frag) (fd : FuncData) : Option Str := match fd.code with
  | .ref c => (match K.lookup c with
    | some ⟨_, _, .fields vs, _⟩ => (match (vs[1]? : Option Value) with
      | some (.str q _) => some q
      | _ => none)
    | _ => none)
  | _ => none
theorem lookup_in {K : Frag} {h : Heap} (X : K.In h) {a : Addr} {o : Obj} (e : K.lookup a = some o) : h.get? a = some o := X a o e
noncomputable abbrev FnT := Str × Str × Arguments × FuncBody × Scope × Addr × List (Str × Addr) × Value × Value × Addr
noncomputable def fnT (K : Frag) (a : Addr) : Option FnT := (getFn K a).map fun fd => (fd.name, fd.qualname, fd.params, fd.body, fd.scope, fd.globals, fd.closure, fd.defaults, fd.kwdefaults, fd.builtins)
noncomputable def wantT (st : Stmt) (qual : Str) (dV : Value) : FnT := (nameOf st, qual, paramsOf st, .stmts (bodyOf st), scopeOf st, mainGlobals, [], dV, .none, builtinsNs)
noncomputable def codeT (K : Frag) (a : Addr) : Option Str := (getFn K a).bind (codeQ K)
theorem fun_of {K : Frag} {g : G} (X : K.In g.hb) {a : Addr} {st : Stmt} {qual : Str} {dV : Value} (e : fnT K a = some (wantT st qual dV)) (ec : codeT K a = some qual) : FunAt g a (nameOf st) qual (paramsOf st) (bodyOf st) (scopeOf st) dV .none := by
  unfold fnT wantT at e
  unfold codeT at ec
  unfold getFn at e ec
  split at e
  · rename_i c d fd sl hl
    simp only [Option.map_some, Option.some.injEq, Prod.mk.injEq] at e
    obtain ⟨e1, e2, e3, e4, e5, e6, e7, e8, e9, e10⟩ := e
    simp only [hl, Option.bind_some] at ec
    unfold codeQ at ec
    split at ec
    · rename_i cc hc
      split at ec
      · rename_i c2 d2 vs sl2 hl2
        split at ec
        · rename_i q t hq
          cases ec
          obtain ⟨n, qn, ps, bd, sc, gl, cl, df, kd, dc, pm, an, cd, ct, bu⟩ := fd
          dsimp only at e1 e2 e3 e4 e5 e6 e7 e8 e9 e10 hc
          subst e1 e2 e3 e4 e5 e6 e7 e8 e9 e10
          exact ⟨_, dc, pm, an, cd, ct, X _ _ hl, rfl, cc, _, vs, t, hc, X _ _ hl2, rfl, hq⟩
        · cases ec
      · cases ec
    · cases ec
  · cases e
theorem meth_of {K : Frag} {g : G} (X : K.In g.hb) {c i : Nat} {a : Addr} {qual : Str} {dV : Value} (e : fnT K a = some (wantT (methSt c i) qual dV)) (ec : codeT K a = some qual) : MethAt g c i qual dV a := fun_of X e ec
theorem pat_of {K : Frag} {g : G} (X : K.In g.hb) {a c : Addr} {code : List Nat} (e : ∃ pt t0 t1 t2 t3, K.lookup a = some (patObj pt t0 t1 t2 t3 c)) (e2 : ∃ oc vs n, K.lookup c = some oc ∧ oc.data = .seq vs n ∧ (vs.map PySem.Builtin.Re.reRawOf).map (·.toNat) = code.toArray) : PatAt g a code := by
  obtain ⟨pt, t0, t1, t2, t3, e⟩ := e
  obtain ⟨oc, vs, n, e2, e3, e4⟩ := e2
  exact ⟨pt, t0, t1, t2, t3, c, oc, vs, n, X _ _ e, X _ _ e2, e3, e4⟩
theorem mg_no {K : Frag} {h : Heap} {mg : Str → Option Value} {n : Str} (X : K.In h) (G : h.Ns mainGlobals mg) (e : nsIn K mainGlobals n = some none) : mg n = none := by
  obtain ⟨o, es, ep, ho, hd, _, hf⟩ := G
  unfold nsIn at e
  split at e
  · rename_i c d es' n' sl q
    have := X _ _ q
    rw [ho] at this
    cases this
    dsimp only at hd
    cases hd
    split at e
    · cases e
    · rename_i he
      have := hf n
      unfold nsFind findBy at this
      rw [← Array.find?_toList, he] at this
      exact this.symm
  · cases e
theorem def_at {p : Program} {loose : List Str} {mean : ExcName → Option Value} {mg mb : Str → Option Value} {h : Heap} {g : G} (T : Top p loose mean mg mb h) (em : g.mg = mg) (keep : ∀ a o, h.get? a = some o → o ≠ tabObj #[] → g.hb.get? a = some o) {i : Nat} (n : Str) (en : nameOf (topStmt i) = n)
    (he : ((recsOf p).find? (fun e => e.name == nameOf (topStmt i))).map (fun d => (d.params, d.body, d.scope)) = some (paramsOf (topStmt i), bodyOf (topStmt i), scopeOf (topStmt i))) : ∃ a, DefAt g i a ∧ g.mg n = some (.ref a) := by
  obtain ⟨d, hd, hp⟩ := Option.map_eq_some_iff.mp he
  have hn : d.name = nameOf (topStmt i) := beq_iff_eq.mp (List.find?_some (p := fun e : DefRec => e.name == nameOf (topStmt i)) hd)
  obtain ⟨a, o, pm, code, doc, h1, h2, h3, h4⟩ := T.fn d (List.mem_of_find?_eq_some hd)
  simp only [Prod.mk.injEq] at hp
  obtain ⟨p1, p2, p3⟩ := hp
  rw [hn, p1, p2, p3] at h3
  rw [hn] at h1 h4
  have k1 : g.hb.get? a = some o := keep _ _ h2 fun q => by rw [q] at h3; exact (nomatch h3)
  obtain ⟨c, oc, vs, t, c1, c2, c3, c4⟩ := h4
  have k2 : g.hb.get? c = some oc := keep _ _ c2 fun q => by
    rw [q] at c3
    cases c3
    exact (nomatch c4)
  exact ⟨a, ⟨o, pm, code, doc, k1, h3, c, oc, vs, t, c1, k2, c3, c4⟩, by rw [em, ← en]; exact h1⟩
noncomputable def frags : List Addr := [2, 3, 32, 34, 35, 37, 38, 49, 51, 52, 54, 55, 56, 58, 59, 61, 62, 63, 65, 66, 68, 69, 70, 72, 73, 75, 76, 77, 79, 80, 82, 83, 84, 86, 87, 89, 90, 91, 93, 94, 96, 97, 98, 99, 100, 101, 102, 105, 107, 108, 110, 111, 112, 114, 115, 117, 118, 119, 121, 122, 124, 125, 126, 128, 129, 131, 132, 133, 135, 136, 138, 139, 140, 142, 143, 145, 146, 147, 149, 150, 152, 153, 157, 158, 162, 163, 167, 168, 169, 170, 172, 173, 175, 176, 184, 185, 187, 188, 190, 191, 192, 194, 195, 197, 198, 199, 201, 202, 204, 205, 206, 208, 209, 211, 212, 213, 216, 217, 218, 220, 221, 223, 224, 225, 227, 228, 230, 231, 232, 235, 236, 237, 238, 240, 241, 243, 244, 245, 248, 249, 250, 253, 254, 255, 257, 258, 260, 261, 262, 264, 265, 267, 268, 269, 272, 273, 274, 276, 277, 279, 280, 281, 283, 284, 286, 287, 288, 290, 291, 293, 294, 295, 296, 297, 298, 299, 302, 304, 305, 307, 308, 309, 312, 313, 314, 317, 318, 319, 322, 323, 324, 327, 328, 329, 332, 333, 334, 337, 338, 339, 342, 343, 344, 347, 348]
noncomputable def kf (h : Heap) : Frag := frags.filterMap fun a => (h.get? a).map fun o => (a, o)
theorem kf_in (h : Heap) : (kf h).In h := fun a o e => by
  obtain ⟨b, _, hb⟩ := List.mem_filterMap.mp (mem_of_lookupK e)
  obtain ⟨o', h1, h2⟩ := Option.map_eq_some_iff.mp hb
  cases h2
  exact h1
noncomputable def seqCode (K : Frag) (a : Addr) : Option (List Nat) := match K.lookup a with
  | some ⟨_, _, .seq vs _, _⟩ => some ((vs.map PySem.Builtin.Re.reRawOf).map (·.toNat)).toList
  | _ => none
noncomputable def seqVals (K : Frag) (a : Addr) : Option (Array Value) := match K.lookup a with
  | some ⟨_, _, .seq vs _, _⟩ => some vs
  | _ => none
theorem seqCode_spec {K : Frag} {a : Addr} {l : List Nat} (h : seqCode K a = some l) : ∃ oc vs n, K.lookup a = some oc ∧ oc.data = .seq vs n ∧ (vs.map PySem.Builtin.Re.reRawOf).map (·.toNat) = l.toArray := by
  unfold seqCode at h
  split at h
  · rename_i c d vs n sl e
    cases h
    exact ⟨_, vs, n, e, rfl, (Array.toArray_toList).symm⟩
  · cases h
theorem seqVals_spec {K : Frag} {a : Addr} {vs : Array Value} (h : seqVals K a = some vs) : ∃ oT n, K.lookup a = some oT ∧ oT.data = .seq vs n := by
  unfold seqVals at h
  split at h
  · rename_i c d vs n sl e
    cases h
    exact ⟨_, n, e, rfl⟩
  · cases h
noncomputable def obsB (K : Frag) : List Bool := [makesIn K 297, keepIn K (.ref 297), plainGet K 297 "", hasDictIn K 297, isFn K (.ref 198), isFn K (.ref 294), isFn K (.ref 236), plainOver K 297, makesIn K 100, keepIn K (.ref 100), plainGet K 100 "", hasDictIn K 100, isFn K (.ref 69), plainOver K 100, readsIn K 100 (.type "type"), noTabs K, codeHdIn K 131 127, codeHdIn K 124 120]
noncomputable def valB : List Bool := [true, true, true, true, true, true, true, true, true, true, true, true, true, true, true, true, true, true]
noncomputable def obsV (K : Frag) : List (Option (Option Value)) := [findIn K (.ref 297) "__init__", findIn K (.ref 297) "_headers", findIn K (.ref 297) "_convert_string_type", findIn K (.ref 297) "add_header", findIn K (.ref 297) "get_all", findIn K (.ref 297) "__setattr__", takerIn K 297 "_headers", findIn K (.ref 100) "__init__", findIn K (.ref 100) "raw", takerIn K 100 "raw", findIn K (.ref 100) "n", takerIn K 100 "n", findIn K (.ref 100) "nt", takerIn K 100 "nt", findIn K (.ref 100) "norm", takerIn K 100 "norm", findIn K (.ref 100) "is_simple", takerIn K 100 "is_simple", findIn K (.ref 100) "indent_level", findIn K (.ref 100) "__setattr__", nsIn K mainGlobals "_name_disallowed_re", nsIn K mainGlobals "_value_disallowed_re", nsIn K mainGlobals "Headers", nsIn K mainGlobals "Whitespace", nsIn K mainGlobals "_DIV_LIMIT"]
noncomputable def valV : List (Option (Option Value)) := [some (some (.ref 191)), some none, some (some (.ref 198)), some (some (.ref 294)), some (some (.ref 236)), some (some (.builtin "object.__setattr__")), some none, some (some (.ref 55)), some none, some none, some none, some none, some none, some none, some none, some none, some none, some none, some (some (.ref 69)), some (some (.builtin "object.__setattr__")), some (some (.ref 163)), some (some (.ref 168)), some (some (.ref 297)), some (some (.ref 100)), some (some (.int 4000 389))]
noncomputable def noNames : List Str := ["type", "list", "str", "enumerate", "range", "sum", "len", "tuple", "max", "min", "reversed", "divmod", "set"]
noncomputable def obsW (K : Frag) : List (Option (Option Value)) := noNames.map (nsIn K mainGlobals)
noncomputable def valW : List (Option (Option Value)) := noNames.map fun _ => some none
noncomputable def obsT (K : Frag) : List (Option Value) := [typeIn K (.ref 191), typeIn K (.ref 55)]
noncomputable def valT : List (Option Value) := [some (.type "function"), some (.type "function")]
noncomputable def obsX (K : Frag) : List (Option (Addr × Addr)) := [tabIn K "_int2digits", tabIn K "_digits2int"]
noncomputable def valX : List (Option (Addr × Addr)) := [some (124, 120), some (131, 127)]
noncomputable def obsC (K : Frag) : List (Option CFound) := [findCls K (.ref 100) (.type "type") "S", findCls K (.ref 100) (.type "type") "T"]
noncomputable def valC : List (Option CFound) := [some (.val (.str " " 304)), some (.val (.str "\t" 305))]
noncomputable def obsO (K : Frag) : List (Option Obj) := [K.lookup 163, K.lookup 168]
noncomputable def valO : List (Option Obj) := [some (patObj "[\\x00-\\x1F\\x7F]" 526 549 0 0 162), some (patObj "[\\x00-\\x08\\x0A-\\x1F\\x7F]" 552 583 0 0 167)]
noncomputable def obsS (K : Frag) : List (Option (List Nat)) := [seqCode K 162, seqCode K 167]
noncomputable def valS : List (Option (List Nat)) := [some nameCode, some valueCode]
noncomputable def obsF (K : Frag) : List (Option FnT × Option Str) := [(fnT K 191, codeT K 191), (fnT K 198, codeT K 198), (fnT K 236, codeT K 236), (fnT K 294, codeT K 294), (fnT K 55, codeT K 55), (fnT K 69, codeT K 69)]
noncomputable def valF : List (Option FnT × Option Str) := [(some (wantT (methSt 19 0) "Headers.__init__" (.ref 184)), some "Headers.__init__"), (some (wantT (methSt 19 1) "Headers._convert_string_type" (.none)), some "Headers._convert_string_type"), (some (wantT (methSt 19 7) "Headers.get_all" (.none)), some "Headers.get_all"), (some (wantT (methSt 19 16) "Headers.add_header" (.none)), some "Headers.add_header"), (some (wantT (methSt 3 1) "Whitespace.__init__" (.none)), some "Whitespace.__init__"), (some (wantT (methSt 3 3) "Whitespace.indent_level" (.none)), some "Whitespace.indent_level")]
noncomputable abbrev ObsK : Type := List Bool × List (Option (Option Value)) × List (Option (Option Value)) × List (Option Value) × List (Option (Addr × Addr)) × List (Option CFound) × List (Option Obj) × List (Option (List Nat)) × Option (Array Value) × List (Option FnT × Option Str)
noncomputable def obsK (K : Frag) : ObsK := (obsB K, obsV K, obsW K, obsT K, obsX K, obsC K, obsO K, obsS K, seqVals K 184, obsF K)
noncomputable def valK : ObsK := (valB, valV, valW, valT, valX, valC, valO, valS, some #[.none], valF)
structure KF (K : Frag) : Prop where
  b : obsB K = valB
  v : obsV K = valV
  w : obsW K = valW
  t : obsT K = valT
  x : obsX K = valX
  c : obsC K = valC
  o : obsO K = valO
  s : obsS K = valS
  a : seqVals K 184 = some #[.none]
  f : obsF K = valF
theorem KF.of {K : Frag} (h : obsK K = valK) : KF K := by
  simp only [obsK, valK, Prod.mk.injEq] at h
  obtain ⟨h1, h2, h3, h4, h5, h6, h7, h8, h9, h10⟩ := h
  exact ⟨h1, h2, h3, h4, h5, h6, h7, h8, h9, h10⟩
noncomputable def tabAs : List Addr := [127, 120]
noncomputable def myHook : Hook where
  α := ObsK × List (Option Obj)
  obs := fun s => (obsK (kf s.heap), tabAs.map s.heap.get?)
  val := fun _ => (valK, tabAs.map fun _ => some (tabObj #[]))
  says := fun _ h => ∃ K : Frag, K.In h ∧ KF K ∧ ∀ P ∈ tabAs, h.get? P = some (tabObj #[])
  of := fun _ s x => ⟨_, kf_in s.heap, .of (Prod.mk.inj x).1, List.map_inj_left.mp (Prod.mk.inj x).2⟩
  keeps := fun _ _ _ ⟨K, a, b, c⟩ k => ⟨K, a.keeps k, b, fun P hP => k _ _ (c P hP)⟩
noncomputable def nthB : List Bool → Nat → Bool
  | [], _ => true
  | a :: _, 0 => a
  | _ :: l, i + 1 => nthB l i
noncomputable def nthV : List (Option (Option Value)) → Nat → Option (Option Value)
  | [], _ => none
  | a :: _, 0 => a
  | _ :: l, i + 1 => nthV l i
section
variable {K : Frag} (h : KF K)
include h
theorem KF.b1 : makesIn K 297 = true := congrArg (nthB · 0) h.b
theorem KF.b2 : keepIn K (.ref 297) = true := congrArg (nthB · 1) h.b
theorem KF.b3 : plainGet K 297 "" = true := congrArg (nthB · 2) h.b
theorem KF.b4 : hasDictIn K 297 = true := congrArg (nthB · 3) h.b
theorem KF.b5 : isFn K (.ref 198) = true := congrArg (nthB · 4) h.b
theorem KF.b6 : isFn K (.ref 294) = true := congrArg (nthB · 5) h.b
theorem KF.b7 : isFn K (.ref 236) = true := congrArg (nthB · 6) h.b
theorem KF.b8 : plainOver K 297 = true := congrArg (nthB · 7) h.b
theorem KF.b9 : makesIn K 100 = true := congrArg (nthB · 8) h.b
theorem KF.b10 : keepIn K (.ref 100) = true := congrArg (nthB · 9) h.b
theorem KF.b11 : plainGet K 100 "" = true := congrArg (nthB · 10) h.b
theorem KF.b12 : hasDictIn K 100 = true := congrArg (nthB · 11) h.b
theorem KF.b13 : isFn K (.ref 69) = true := congrArg (nthB · 12) h.b
theorem KF.b14 : plainOver K 100 = true := congrArg (nthB · 13) h.b
theorem KF.b15 : readsIn K 100 (.type "type") = true := congrArg (nthB · 14) h.b
theorem KF.b16 : noTabs K = true := congrArg (nthB · 15) h.b
theorem KF.b17 : codeHdIn K 131 127 = true := congrArg (nthB · 16) h.b
theorem KF.b18 : codeHdIn K 124 120 = true := congrArg (nthB · 17) h.b
theorem KF.v1 : findIn K (.ref 297) "__init__" = some (some (.ref 191)) := congrArg (nthV · 0) h.v
theorem KF.v2 : findIn K (.ref 297) "_headers" = some none := congrArg (nthV · 1) h.v
theorem KF.v3 : findIn K (.ref 297) "_convert_string_type" = some (some (.ref 198)) := congrArg (nthV · 2) h.v
theorem KF.v4 : findIn K (.ref 297) "add_header" = some (some (.ref 294)) := congrArg (nthV · 3) h.v
theorem KF.v5 : findIn K (.ref 297) "get_all" = some (some (.ref 236)) := congrArg (nthV · 4) h.v
theorem KF.v6 : findIn K (.ref 297) "__setattr__" = some (some (.builtin "object.__setattr__")) := congrArg (nthV · 5) h.v
theorem KF.v7 : takerIn K 297 "_headers" = some none := congrArg (nthV · 6) h.v
theorem KF.v8 : findIn K (.ref 100) "__init__" = some (some (.ref 55)) := congrArg (nthV · 7) h.v
theorem KF.v9 : findIn K (.ref 100) "raw" = some none := congrArg (nthV · 8) h.v
theorem KF.v10 : takerIn K 100 "raw" = some none := congrArg (nthV · 9) h.v
theorem KF.v11 : findIn K (.ref 100) "n" = some none := congrArg (nthV · 10) h.v
theorem KF.v12 : takerIn K 100 "n" = some none := congrArg (nthV · 11) h.v
theorem KF.v13 : findIn K (.ref 100) "nt" = some none := congrArg (nthV · 12) h.v
theorem KF.v14 : takerIn K 100 "nt" = some none := congrArg (nthV · 13) h.v
theorem KF.v15 : findIn K (.ref 100) "norm" = some none := congrArg (nthV · 14) h.v
theorem KF.v16 : takerIn K 100 "norm" = some none := congrArg (nthV · 15) h.v
theorem KF.v17 : findIn K (.ref 100) "is_simple" = some none := congrArg (nthV · 16) h.v
theorem KF.v18 : takerIn K 100 "is_simple" = some none := congrArg (nthV · 17) h.v
theorem KF.v19 : findIn K (.ref 100) "indent_level" = some (some (.ref 69)) := congrArg (nthV · 18) h.v
theorem KF.v20 : findIn K (.ref 100) "__setattr__" = some (some (.builtin "object.__setattr__")) := congrArg (nthV · 19) h.v
theorem KF.v21 : nsIn K mainGlobals "_name_disallowed_re" = some (some (.ref 163)) := congrArg (nthV · 20) h.v
theorem KF.v22 : nsIn K mainGlobals "_value_disallowed_re" = some (some (.ref 168)) := congrArg (nthV · 21) h.v
theorem KF.v23 : nsIn K mainGlobals "Headers" = some (some (.ref 297)) := congrArg (nthV · 22) h.v
theorem KF.v24 : nsIn K mainGlobals "Whitespace" = some (some (.ref 100)) := congrArg (nthV · 23) h.v
theorem KF.v25 : nsIn K mainGlobals "_DIV_LIMIT" = some (some (.int 4000 389)) := congrArg (nthV · 24) h.v
theorem KF.t1 : typeIn K (.ref 191) = some (.type "function") := (List.cons.inj h.t).1
theorem KF.t2 : typeIn K (.ref 55) = some (.type "function") := (List.cons.inj (List.cons.inj h.t).2).1
end
theorem hk_at {g : G} {K : Frag} (X : K.In g.hb) (h : KF K) : HK g K 297 191 198 294 236 :=
  ⟨X, h.b1, h.b2, h.v1, h.t1, fun _ => h.b3, h.b4, h.v2, h.v3, h.b5, h.v4, h.b6, h.v5, h.b7, h.v6, h.b8, h.v7⟩
theorem wk_at {g : G} {K : Frag} (X : K.In g.hb) (h : KF K) : WK g K 100 55 69 :=
  ⟨X, h.b9, h.b10, h.v8, h.t2, fun _ => h.b11, h.b12, List.forall_mem_cons.mpr ⟨⟨h.v9, h.v10⟩, List.forall_mem_cons.mpr ⟨⟨h.v11, h.v12⟩, List.forall_mem_cons.mpr ⟨⟨h.v13, h.v14⟩, List.forall_mem_cons.mpr ⟨⟨h.v15, h.v16⟩, List.forall_mem_cons.mpr ⟨⟨h.v17, h.v18⟩, List.forall_mem_nil _⟩⟩⟩⟩⟩, h.v19, h.b13, h.v20, h.b14, .type "type", h.b15, ⟨_, (List.cons.inj h.c).1⟩, _, (List.cons.inj (List.cons.inj h.c).2).1⟩
end TL
end
section
namespace TL
open PySem PySem.W PyProof.Rows PySem.Calls
noncomputable section
noncomputable def vw : Program := view PySem.Challenge.pw_tl0065_01 [0,1,3,5,6,7,8,9,10,11,13,15,16,17,19,21,22,23,24,25,26,27,28,29]
noncomputable def theLoose : List Str := ["Whitespace", "tspecials", "_name_disallowed_re", "_value_disallowed_re", "_formatparam"]
noncomputable abbrev TT : String → Option Builtin := PySem.W.Fast.tw14364793385576792824
noncomputable def xtOk (s : Shared) : Bool := xlAt vw [] s && recOk [] s
noncomputable def endsAt {β : Type} (tb : String → Option Builtin) (seen : Shared → β) (w : World) : Option β :=
  ((fencedT tb PySem.Challenge.pw_tl0065_01 w 4212).bind (topFromT tb PySem.Challenge.pw_tl0065_01 w 4212)).map (fun s => seen s.abs)
end
end TL
end
section
namespace TL
open PySem PySem.W PyProof.Rows PySem.Calls
theorem run_false (w : World) : endsAt TT (fun s => (PySem.W.Fast.tw4187177175401517315 vw theLoose (importedModules PySem.Challenge.pw_tl0065_01.main.body) xtOk true s, myHook.obs s)) (w.withFollow "special-get-raises" false) = some (openGood vw theLoose, myHook.val w) := by
  kernel_rfl
theorem run_true (w : World) : endsAt TT (fun s => (PySem.W.Fast.tw4187177175401517315 vw theLoose (importedModules PySem.Challenge.pw_tl0065_01.main.body) xtOk true s, myHook.obs s)) (w.withFollow "special-get-raises" true) = some (openGood vw theLoose, myHook.val w) := by
  kernel_rfl
theorem left_ok : LeftO PySem.Challenge.pw_tl0065_01 vw theLoose xtOk myHook.obs myHook.val 4212 := left_of fun w => by
  have h := byRow2 "special-get-raises" (P := fun w => endsAt TT (fun s => (PySem.W.Fast.tw4187177175401517315 vw theLoose (importedModules PySem.Challenge.pw_tl0065_01.main.body) xtOk true s, myHook.obs s)) w = some (openGood vw theLoose, myHook.val w)) run_false run_true w
  unfold endsAt TT at h
  rw [← PySem.W.Fast.te14364793385576792824, ← PySem.W.Fast.te4187177175401517315] at h
  exact h
end TL
end
section
namespace TL
open PySem PySem.W PyProof.Rows PySem.Calls PyProof.Rows.LCg
noncomputable abbrev theTabs : List (Addr × Addr) := [(131, 127), (124, 120)]
noncomputable def lawDefs : List Nat := [6, 8, 9, 10, 11, 13, 21, 22, 23, 24, 25, 26, 27, 28, 29]
theorem defs_all : lawDefs.map (fun i => ((recsOf vw).find? (fun e => e.name == nameOf (topStmt i))).map (fun d => (d.params, d.body, d.scope))) = lawDefs.map (fun i => some (paramsOf (topStmt i), bodyOf (topStmt i), scopeOf (topStmt i))) := by kernel_rfl
theorem defs_at {i : Nat} (h : i ∈ lawDefs) : ((recsOf vw).find? (fun e => e.name == nameOf (topStmt i))).map (fun d => (d.params, d.body, d.scope)) = some (paramsOf (topStmt i), bodyOf (topStmt i), scopeOf (topStmt i)) := List.map_inj_left.mp defs_all i h
set_option maxHeartbeats 8000000 in
theorem ground_at {prog : Program} {w : World} {loose : List Str} {mean : ExcName → Option Value} {mg mb : Str → Option Value} {h : Heap} {K : Frag} (KX : K.In h) (hK : KF K) (hT : TabsAt theTabs h) (T : Top vw loose mean mg mb h) :
    ∃ G : LG ⟨prog, w, ghostOf h theTabs, mg, mb⟩, G.T8 = 120 ∧ G.T9 = 127 ∧ ∃ f, DefAt ⟨prog, w, ghostOf h theTabs, mg, mb⟩ 29 f ∧ mg "law" = some (.ref f) := by
  have hx := hK.x
  have ho := hK.o
  have hs := hK.s
  have hf := hK.f
  simp only [obsX, valX, List.cons.injEq, and_true] at hx
  simp only [obsO, valO, List.cons.injEq, and_true] at ho
  simp only [obsS, valS, List.cons.injEq, and_true] at hs
  simp only [obsF, valF, List.cons.injEq, and_true, Prod.mk.injEq] at hf
  obtain ⟨⟨m191, c191⟩, ⟨m198, c198⟩, ⟨m236, c236⟩, ⟨m294, c294⟩, ⟨m55, c55⟩, m69, c69⟩ := hf
  have KG : K.In (ghostOf h theTabs) := ghost_K hT KX hK.b16
  have GG : (ghostOf h theTabs).Ns mainGlobals mg := ghost_ns hT T.g
  let g : G := ⟨prog, w, ghostOf h theTabs, mg, mb⟩
  have keep : ∀ a o, h.get? a = some o → o ≠ tabObj #[] → g.hb.get? a = some o := fun a o e hn => ghost_get hT e hn
  obtain ⟨f6, d6, g6⟩ := def_at (g := g) T rfl keep (i := 6) "_div2n1n" (by kernel_rfl) (defs_at (by decide))
  obtain ⟨f8, d8, g8⟩ := def_at (g := g) T rfl keep (i := 8) "_int2digits" (by kernel_rfl) (defs_at (by decide))
  obtain ⟨f9, d9, g9⟩ := def_at (g := g) T rfl keep (i := 9) "_digits2int" (by kernel_rfl) (defs_at (by decide))
  obtain ⟨f10, d10, g10⟩ := def_at (g := g) T rfl keep (i := 10) "_divmod_pos" (by kernel_rfl) (defs_at (by decide))
  obtain ⟨f11, d11, g11⟩ := def_at (g := g) T rfl keep (i := 11) "int_divmod" (by kernel_rfl) (defs_at (by decide))
  obtain ⟨f13, d13, g13⟩ := def_at (g := g) T rfl keep (i := 13) "rgb_to_hsv" (by kernel_rfl) (defs_at (by decide))
  obtain ⟨f21, d21, g21⟩ := def_at (g := g) T rfl keep (i := 21) "_law_cells" (by kernel_rfl) (defs_at (by decide))
  obtain ⟨f22, d22, g22⟩ := def_at (g := g) T rfl keep (i := 22) "_law_ties" (by kernel_rfl) (defs_at (by decide))
  obtain ⟨f23, d23, g23⟩ := def_at (g := g) T rfl keep (i := 23) "_law_pieces" (by kernel_rfl) (defs_at (by decide))
  obtain ⟨f24, d24, g24⟩ := def_at (g := g) T rfl keep (i := 24) "_law_square" (by kernel_rfl) (defs_at (by decide))
  obtain ⟨f25, d25, g25⟩ := def_at (g := g) T rfl keep (i := 25) "_law_far" (by kernel_rfl) (defs_at (by decide))
  obtain ⟨f26, d26, g26⟩ := def_at (g := g) T rfl keep (i := 26) "_law_told_by_square" (by kernel_rfl) (defs_at (by decide))
  obtain ⟨f27, d27, g27⟩ := def_at (g := g) T rfl keep (i := 27) "_law_told_by_light" (by kernel_rfl) (defs_at (by decide))
  obtain ⟨f28, d28, g28⟩ := def_at (g := g) T rfl keep (i := 28) "_law_told_by_lead" (by kernel_rfl) (defs_at (by decide))
  obtain ⟨f29, d29, g29⟩ := def_at (g := g) T rfl keep (i := 29) "law" (by kernel_rfl) (defs_at (by decide))
  obtain ⟨oT, nT, eT, eT2⟩ := seqVals_spec hK.a
  have CA := ghost_code hT
  obtain ⟨bm, ob, b1, b2, b3, b4, b5, b6⟩ := T.bmain
  have kb : g.hb.get? bm = some ob := keep _ _ b3 fun q => by rw [q] at b4; cases b4
  have bg : bm ≠ mainGlobals := fun q => by
    obtain ⟨o, es, ep, e, hd, _⟩ := GG
    rw [q, e] at kb; cases kb; rw [hd] at b6; cases b6
  have BM : ∃ bm ob, g.mg "__builtins__" = some (.ref bm) ∧ bm ≠ builtinsNs ∧ bm ≠ mainGlobals ∧ g.hb.get? bm = some ob ∧ ob.cls = .type "module" ∧ ob.dict = some builtinsNs ∧ ob.data = .plain := ⟨bm, ob, b1, b2, bg, kb, b4, b5, b6⟩
  have hS : ∃ a oS, sysModules < a ∧ g.hb.get? a = some oS := by
    obtain ⟨o, es, ep, e, _⟩ := GG
    exact ⟨mainGlobals, o, by decide, e⟩
  have ok : GOk g := ⟨GG, ghost_ns hT T.b, T.builtins, let ⟨mc, a, r⟩ := T.nolimit; ⟨mc, ghost_ns hT a, r⟩⟩
  have yfi : fnT K 191 = some (wantT (methSt 19 0) "Headers.__init__" (.ref 184)) := m191
  have zfi : codeT K 191 = some "Headers.__init__" := c191
  have xfi : MethAt (⟨prog, w, ghostOf h theTabs, mg, mb⟩ : G) 19 0 "Headers.__init__" (.ref 184) 191 := meth_of (g := (⟨prog, w, ghostOf h theTabs, mg, mb⟩ : G)) KG yfi zfi
  have yfc : fnT K 198 = some (wantT (methSt 19 1) "Headers._convert_string_type" .none) := m198
  have zfc : codeT K 198 = some "Headers._convert_string_type" := c198
  have xfc : MethAt (⟨prog, w, ghostOf h theTabs, mg, mb⟩ : G) 19 1 "Headers._convert_string_type" .none 198 := meth_of (g := (⟨prog, w, ghostOf h theTabs, mg, mb⟩ : G)) KG yfc zfc
  have yfg : fnT K 236 = some (wantT (methSt 19 7) "Headers.get_all" .none) := m236
  have zfg : codeT K 236 = some "Headers.get_all" := c236
  have xfg : MethAt (⟨prog, w, ghostOf h theTabs, mg, mb⟩ : G) 19 7 "Headers.get_all" .none 236 := meth_of (g := (⟨prog, w, ghostOf h theTabs, mg, mb⟩ : G)) KG yfg zfg
  have yfa : fnT K 294 = some (wantT (methSt 19 16) "Headers.add_header" .none) := m294
  have zfa : codeT K 294 = some "Headers.add_header" := c294
  have xfa : MethAt (⟨prog, w, ghostOf h theTabs, mg, mb⟩ : G) 19 16 "Headers.add_header" .none 294 := meth_of (g := (⟨prog, w, ghostOf h theTabs, mg, mb⟩ : G)) KG yfa zfa
  have ywi : fnT K 55 = some (wantT (methSt 3 1) "Whitespace.__init__" .none) := m55
  have zwi : codeT K 55 = some "Whitespace.__init__" := c55
  have xwi : MethAt (⟨prog, w, ghostOf h theTabs, mg, mb⟩ : G) 3 1 "Whitespace.__init__" .none 55 := meth_of (g := (⟨prog, w, ghostOf h theTabs, mg, mb⟩ : G)) KG ywi zwi
  have ywl : fnT K 69 = some (wantT (methSt 3 3) "Whitespace.indent_level" .none) := m69
  have zwl : codeT K 69 = some "Whitespace.indent_level" := c69
  have xwl : MethAt (⟨prog, w, ghostOf h theTabs, mg, mb⟩ : G) 3 3 "Whitespace.indent_level" .none 69 := meth_of (g := (⟨prog, w, ghostOf h theTabs, mg, mb⟩ : G)) KG ywl zwl
  refine ⟨{ ok := ok, K := K, C := 297, fI := 191, fC := 198, fA := 294, fG := 236, Td := 184, pN := 163, pV := 168, oT := oT, nT := nT, hk := hk_at KG hK, fi := xfi, hT := KG _ _ eT, hTd := eT2, fc := xfc, fa := xfa, fg := xfg, pn := pat_of KG ⟨_, _, _, _, _, ho.1⟩ (seqCode_spec hs.1), pv := pat_of KG ⟨_, _, _, _, _, ho.2⟩ (seqCode_spec hs.2), gN := mg_of KG GG hK.v21, gV := mg_of KG GG hK.v22, gH := mg_of KG GG hK.v23, D := 100, wI := 55, wL := 69, wk := wk_at KG hK, wi := xwi, wl := xwl, gW := mg_of KG GG hK.v24, f6 := f6, f8 := f8, f9 := f9, f10 := f10, f11 := f11, f13 := f13, f21 := f21, f22 := f22, f23 := f23, f24 := f24, f25 := f25, f26 := f26, f27 := f27, f28 := f28, d6 := d6, d8 := d8, d9 := d9, d10 := d10, d11 := d11, d13 := d13, d21 := d21, d22 := d22, d23 := d23, d24 := d24, d25 := d25, d26 := d26, d27 := d27, d28 := d28, g6 := g6, g8 := g8, g9 := g9, g10 := g10, g11 := g11, g13 := g13, g21 := g21, g22 := g22, g23 := g23, g24 := g24, g25 := g25, g26 := g26, g27 := g27, g28 := g28, c8 := 124, c9 := 131, T8 := 120, T9 := 127, hc8 := fun o fd ho hd => law_code KG GG hx.1 g8 ho hd, hc9 := fun o fd ho hd => law_code KG GG hx.2 g9 ho hd, N8 := ⟨CA.2.1, BM⟩, N9 := ⟨CA.1, BM⟩, hTT := by decide, t := 389, gL := mg_of KG GG hK.v25, no := fun x hx => mg_no KG GG (List.map_inj_left.mp hK.w x hx), hS := hS }, rfl, rfl, f29, d29, g29⟩
end TL
end
section
namespace TL
open PySem PySem.W PyProof.Rows PySem.Calls PyProof.Rows.LCg
theorem tabs_at {K : Frag} {h : Heap} (X : K.In h) (hK : KF K) (t : ∀ P ∈ tabAs, h.get? P = some (tabObj #[])) : TabsAt theTabs h := by
  exact List.forall_mem_cons.mpr ⟨⟨codeHd_of_K (c := 131) (P := 127) X hK.b17, t 127 (by decide)⟩, List.forall_mem_cons.mpr ⟨⟨codeHd_of_K (c := 124) (P := 120) X hK.b18, t 120 (by decide)⟩, List.forall_mem_nil _⟩⟩
theorem repL_ints {F : PH} : ∀ {vs : List Value} {ns : List Int}, IntsAre vs ns → RepL F (ns.map .int) vs
  | _, _, .nil => .nil
  | _, _, .cons n t h => .cons (by simp only [Rep]; exact ⟨t, rfl⟩) (repL_ints h)
theorem cx_top : Cx callerA 44 := ⟨rfl, by decide +kernel, by decide +kernel⟩
theorem finish {prog : Program} {w : World} {loose : List Str} {mean : ExcName → Option Value} {mg mb : Str → Option Value} {s₁ : Shared} {K : Frag} (KX : K.In s₁.heap) (hK : KF K) (hT : TabsAt theTabs s₁.heap) (T : Top vw loose mean mg mb s₁.heap)
    {fa a : Addr} {vs : List Value} {script : List Int} (hmg : mg "law" = some (.ref fa)) {d : WData} (wl : Well w.params s₁.heap (.ref a) d) (hL : s₁.heap.IsList a vs.toArray) (hI : IntsAre vs script) (hl : script.length ≤ 4096) (hg : s₁.gens = #[])
    {cw : ClaimW} {cl : Str → Option Addr} {mean' : ExcName → Option Value} {args : List WData} (hr : ∀ cls, cw.raises args cls = false) (hp : cw.post args (.bool true) args = true) :
    codeAny (model prog w) callerA (.call (.ref fa) ⟨[.ref a], []⟩) (fun r s' => GoodW cw cl mean' args { s₁ with heap := ghostOf s₁.heap theTabs } r s' ∧ GrownAll theTabs s'.heap) s₁ := by
  obtain ⟨G, e8, e9, f, df, gf⟩ := ground_at (prog := prog) KX hK hT T
  rw [hmg] at gf
  cases gf
  have ho : s₁.heap.get? a = some { cls := .type "list", data := .seq vs.toArray } := by
    obtain ⟨⟨cls, dd, data, sl⟩, h1, h2, n, h3⟩ := hL
    simp only at h2 h3
    subst h2 h3
    cases wl <;> rename_i h <;> first
      | (have e := Option.some.inj (h1.symm.trans h); simp at e; done)
      | skip
    injection Option.some.inj (h1.symm.trans h) with _ e1 e2 e3
    injection e2 with e4 e5
    subst e1 e3 e5
    exact h1
  have hF : Sub (ghostOf s₁.heap theTabs).get? s₁.heap.get? := fun b o e => of_hideAll _ e
  obtain ⟨c0, c1, c2, c3, c4, hc⟩ : ∃ c0 c1 c2 c3 c4, cellsOf script = [c0, c1, c2, c3, c4] := by
    have h := cellsAt_len script (script.take 15).length
    unfold cellsOf
    match cellsAt script (script.take 15).length, h with
    | [c0, c1, c2, c3, c4], _ => exact ⟨c0, c1, c2, c3, c4, rfl⟩
  have t8 : Tab 120 pI qI (ghostOf s₁.heap theTabs).get? s₁.heap.get? := ⟨#[], (hT (124, 120) (by decide)).2, hideAll_none _ (by decide), trivial, .inl rfl⟩
  have t9 : Tab 127 pD qD (ghostOf s₁.heap theTabs).get? s₁.heap.get? := ⟨#[], (hT (131, 127) (by decide)).2, hideAll_none _ (by decide), trivial, .inl rfl⟩
  have ha : (ghostOf s₁.heap theTabs).get? a = some { cls := .type "list", data := .seq vs.toArray } := ghost_get hT ho (fun q => nomatch q)
  have L := law_ok G df script hl c0 c1 c2 c3 c4 hc (plain c0 c1 c2 c3 c4)
  rw [e8, e9] at L
  refine codeAny_mono (L callerA (ghostOf s₁.heap theTabs).get? s₁.heap.get? [.ref a] [] cx_top (.refl _) hF (.cons ?_ .nil) .nil ⟨t8, t9⟩ s₁ fun _ _ e => e) fun r s' ⟨v, h, tk, P', F', er, hs, hP', st, ⟨t8', t9'⟩, rv⟩ => ?_
  · simp only [intsD, Rep]
    exact ⟨a, _, vs.toArray, _, rfl, ha, ⟨rfl, rfl, rfl⟩, rfl, repL_ints hI⟩
  · subst er hs
    simp only [Rep] at rv
    subst rv
    obtain ⟨p8, k8, _⟩ := t8'
    obtain ⟨p9, k9, _⟩ := t9'
    exact ⟨⟨.inl ⟨.bool true, .bool true, [], rfl, hr, .bool true, hp, fun _ => ⟨List.nodup_nil, fun _ h => (nomatch h)⟩⟩, fun b o e => hP' _ _ (st.fp _ _ (st.f _ _ e)), rfl, hg⟩, ⟨p9, hP' _ _ k9⟩, ⟨p8, hP' _ _ k8⟩, trivial⟩
end TL
end
section
set_option maxHeartbeats 8000000
namespace TL
open PySem PySem.W PyProof.Rows PySem.Calls
theorem law_said : OpenLaw.wellSaid PySem.Challenge.rw_tl0065_01 = true :=
  (congrFun PySem.W.Fast.te9446332074065402090 _).trans (by kernel_rfl)
end TL
end
open PySem PySem.W PyProof.Rows
set_option maxHeartbeats 8000000
theorem PySem.Challenge.cw_tl0065_01_holds : PySem.Challenge.rw_tl0065_01.Holds := by
  w_on
  refine holds_law TL.law_said fun said => ?_
  refine holds_open (q := TL.vw) (loose := TL.theLoose) (Xt := TL.xtOk) (XP := XL TL.vw []) (Yf := TL.myHook.obs) (Ya := TL.myHook.val) (YP := TL.myHook.says) (N := 4212) TL.left_ok TL.myHook.of TL.myHook.keeps (fun s e => xl_of s (Bool.and_eq_true_iff.mp e).1) XL.keeps (by rfl) (by rfl) (by rfl) (fun s e => recFacts_of (Bool.and_eq_true_iff.mp e).2) (by rfl) said (by decide +kernel) ⟨rfl, rfl, rfl, rfl, rfl, by decide +kernel⟩ ?hw ?hc
  case hw => w_witness2
  intro w s₀ s₁ mg mb G Y fa o pm cd doc dV kV ho hd hcd hD hmg hg args vals as hpre hlay hrd hwl hlo
  obtain ⟨K, KX, hK, hT⟩ := Y
  have X := (Ground.X G).1
  have V := (Ground.X G).2
  refine Ground.open G ?_
  intro T B D TE TW
  try (refine guard_noD D (by decide +kernel) ?_; clear D)
  have hT9 := TL.tabs_at KX hK hT
  wrow_args hpre hlay hrd hwl hlo
  all_goals (
    first | refine callC_kw (enter_call ?_) | refine enter_call ?_
    w_top on
    kn_posts)
  exact TL.finish KX hK hT9 T hmg (by assumption) (by assumption) (by assumption) (by omega) hg (fun _ => rfl) (by kc_post)
