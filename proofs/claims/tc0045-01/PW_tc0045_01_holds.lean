import PyProof.Rows.All
import Wide.All
import OpenK.AllK
import Wide.FinOn
import PySem.Challenge.RW_tc0045_01
open PySem PySem.Calls PyProof.Rows PySem.W
set_option Elab.async false
set_option maxRecDepth 100000
set_option linter.unusedVariables false
set_option genSizeOf false
set_option genInjectivity false
namespace Mine
section
abbrev Vis := Addr → Option Obj
abbrev Glb := Str → Option Value

/-- deep data -/
inductive D : Type where
  | none
  | bool (b : Bool)
  | int (i : Int)
  | str (s : Str)
  | gl (x : Str)
  | list (xs : List D)
  | tuple (xs : List D)
  | inst (fs : List (Str × D))
  | mapS (F : List (Str × D))
  | mapI (F : List (Int × D))

noncomputable def lob (vs : List Value) (n : Nat) : Obj := { cls := .type "list", data := .seq vs.toArray n }
noncomputable def tob (vs : List Value) (n : Nat) : Obj := { cls := .type "tuple", data := .seq vs.toArray n }

/-- the world of the walk -/
structure Wd where
  prog : Program
  w : World
  mg : Glb
  mb : Glb
  hT : Heap
  hg : hT.Ns mainGlobals mg
  hb : hT.Ns builtinsNs mb
  hbb : ∀ x : Str, x ≠ "__name__" → mb x = bootBuiltins x
  lim : hT.NoLimit

section
variable (W : Wd)

inductive RD (g : Vis) : Value → D → Prop where
  | none : RD g .none .none
  | bool (b : Bool) : RD g (.bool b) (.bool b)
  | int (i : Int) (t : Tok) : RD g (.int i t) (.int i)
  | str (x : Str) (t : Tok) : RD g (.str x t) (.str x)
  | gl (x : Str) (v : Value) : W.mg x = some v → RD g v (.gl x)
  | list (a : Addr) (n : Nat) (vs : List Value) (xs : List D) : g a = some (lob vs n) → vs.length = xs.length → (∀ (i : Nat) v x, vs[i]? = some v → xs[i]? = some x → RD g v x) → RD g (.ref a) (.list xs)
  | tuple (a : Addr) (n : Nat) (vs : List Value) (xs : List D) : g a = some (tob vs n) → vs.length = xs.length → (∀ (i : Nat) v x, vs[i]? = some v → xs[i]? = some x → RD g v x) → RD g (.ref a) (.tuple xs)
  | inst (a C dx : Addr) (o od : Obj) (es : Array DictEntry) (ep : Nat) (vf : Str → Value) (fs : List (Str × D)) : W.mg "Whitespace" = some (.ref C) → g a = some o → o.cls = .ref C → (∀ c, o.data ≠ .cls c) → o.dict = some dx → dx ≠ a → g dx = some od → od.data = .dict es ep → StrKeys es → UniqKeys es →
      (∀ x d, fs.lookup x = some d → nsFind es x = some (vf x)) → (∀ x, fs.lookup x = Option.none → nsFind es x = Option.none) → (∀ x d, fs.lookup x = some d → RD g (vf x) d) → RD g (.ref a) (.inst fs)
  | mapS (a : Addr) (o : Obj) (es : Array DictEntry) (ep : Nat) (f : Str → Option Value) (vf : Str → Value) (F : List (Str × D)) : g a = some o → o.ExactDict → o.data = .dict es ep → KeysOf (strKind W.prog W.w) es → (∀ k, findBy (strKind W.prog W.w).is es k = f k) → (a == sysModules) = false →
      (∀ k d, F.lookup k = some d → f k = some (vf k)) → (∀ k, F.lookup k = Option.none → f k = Option.none) → (∀ k d, F.lookup k = some d → RD g (vf k) d) → RD g (.ref a) (.mapS F)
  | mapI (a : Addr) (o : Obj) (es : Array DictEntry) (ep : Nat) (f : Int → Option Value) (vf : Int → Value) (F : List (Int × D)) : g a = some o → o.ExactDict → o.data = .dict es ep → KeysOf (intKind W.prog W.w) es → (∀ k, findBy (intKind W.prog W.w).is es k = f k) → (a == sysModules) = false →
      (∀ k d, F.lookup k = some d → f k = some (vf k)) → (∀ k, F.lookup k = Option.none → f k = Option.none) → (∀ k d, F.lookup k = some d → RD g (vf k) d) → RD g (.ref a) (.mapI F)

noncomputable def RDs (g : Vis) (vs : List Value) (xs : List D) : Prop := vs.length = xs.length ∧ ∀ (i : Nat) v x, vs[i]? = some v → xs[i]? = some x → RD W g v x
end

section
variable {W : Wd} {g g' : Vis}

theorem RD.mono (hm : ∀ b o, g b = some o → g' b = some o) {v : Value} {d : D} (h : RD W g v d) : RD W g' v d := by
  induction h with
  | none => exact .none
  | bool b => exact .bool b
  | int i t => exact .int i t
  | str x t => exact .str x t
  | gl x v hv => exact .gl x v hv
  | list a n vs xs h1 h2 h3 ih => exact .list a n vs xs (hm _ _ h1) h2 ih
  | tuple a n vs xs h1 h2 h3 ih => exact .tuple a n vs xs (hm _ _ h1) h2 ih
  | inst a C dx o od es ep vf fs h0 h1 h2 h3 h4 h5 h6 h7 h8 h9 h10 h11 h12 ih => exact .inst a C dx o od es ep vf fs h0 (hm _ _ h1) h2 h3 h4 h5 (hm _ _ h6) h7 h8 h9 h10 h11 ih
  | mapS a o es ep f vf F h1 h2 h3 h4 h5 h6 h7 h8 h9 ih => exact .mapS a o es ep f vf F (hm _ _ h1) h2 h3 h4 h5 h6 h7 h8 ih
  | mapI a o es ep f vf F h1 h2 h3 h4 h5 h6 h7 h8 h9 ih => exact .mapI a o es ep f vf F (hm _ _ h1) h2 h3 h4 h5 h6 h7 h8 ih
theorem RDs.mono (hm : ∀ b o, g b = some o → g' b = some o) {vs : List Value} {xs : List D} (h : RDs W g vs xs) : RDs W g' vs xs := ⟨h.1, fun i v x a b => (h.2 i v x a b).mono hm⟩
theorem RDs.nil : RDs W g [] [] := ⟨rfl, fun i v x a => by simp at a⟩
theorem RDs.cons {v : Value} {x : D} {vs : List Value} {xs : List D} (h : RD W g v x) (t : RDs W g vs xs) : RDs W g (v :: vs) (x :: xs) := by
  refine ⟨by simp [t.1], fun i u y a b => ?_⟩
  cases i with
  | zero => simp at a b; subst a; subst b; exact h
  | succ i => simp at a b; exact t.2 i u y a b
theorem RDs.head {v : Value} {x : D} {vs : List Value} {xs : List D} (h : RDs W g (v :: vs) (x :: xs)) : RD W g v x := h.2 0 v x rfl rfl
theorem RDs.tail {v : Value} {x : D} {vs : List Value} {xs : List D} (h : RDs W g (v :: vs) (x :: xs)) : RDs W g vs xs := ⟨by simpa using h.1, fun i u y a b => h.2 (i + 1) u y (by simpa using a) (by simpa using b)⟩
theorem RDs.snoc {v : Value} {x : D} {vs : List Value} {xs : List D} (t : RDs W g vs xs) (h : RD W g v x) : RDs W g (vs ++ [v]) (xs ++ [x]) := by
  refine ⟨by simp [t.1], fun i u y a b => ?_⟩
  by_cases hi : i < vs.length
  · rw [List.getElem?_append_left hi] at a
    rw [List.getElem?_append_left (t.1 ▸ hi)] at b
    exact t.2 i u y a b
  · rw [List.getElem?_append_right (Nat.le_of_not_lt hi)] at a
    rw [List.getElem?_append_right (t.1 ▸ Nat.le_of_not_lt hi), ← t.1] at b
    have : i - vs.length = 0 := by
      cases q : i - vs.length with
      | zero => rfl
      | succ k => rw [q] at a; simp at a
    rw [this] at a b
    simp at a b; subst a; subst b; exact h
theorem RDs.append {us vs : List Value} {xs ys : List D} (t : RDs W g us xs) (h : RDs W g vs ys) : RDs W g (us ++ vs) (xs ++ ys) := by
  refine ⟨by simp [t.1, h.1], fun i u y a b => ?_⟩
  by_cases hi : i < us.length
  · rw [List.getElem?_append_left hi] at a
    rw [List.getElem?_append_left (t.1 ▸ hi)] at b
    exact t.2 i u y a b
  · rw [List.getElem?_append_right (Nat.le_of_not_lt hi)] at a
    rw [List.getElem?_append_right (t.1 ▸ Nat.le_of_not_lt hi), ← t.1] at b
    exact h.2 _ u y a b
theorem RDs.get {vs : List Value} {xs : List D} (t : RDs W g vs xs) {i : Nat} {x : D} (h : xs[i]? = some x) : ∃ v, vs[i]? = some v ∧ RD W g v x := by
  have hi : i < vs.length := by rw [t.1]; exact (List.getElem?_eq_some_iff.mp h).1
  exact ⟨vs[i], by simp [hi], t.2 i _ x (by simp [hi]) h⟩
theorem RDs.nil_of {vs : List Value} (t : RDs W g vs []) : vs = [] := List.eq_nil_of_length_eq_zero t.1
theorem RDs.cons_of {vs : List Value} {x : D} {xs : List D} (t : RDs W g vs (x :: xs)) : ∃ v r, vs = v :: r ∧ RD W g v x ∧ RDs W g r xs := by
  cases vs with
  | nil => have := t.1; simp at this
  | cons v r => exact ⟨v, r, rfl, t.head, t.tail⟩
end

/-- the frames' dicts of the stack -/
noncomputable def fz (A : Around) (b : Addr) : Prop := ∃ outer, A.frames = some outer ∧ ∃ e ∈ outer, e.frame = some b
/-- kept; the stack's frames up to their slots -/
noncomputable def KeptA (A : Around) (h : Heap) (b : Addr) (o : Obj) : Prop := h.get? b = some o ∨ (fz A b ∧ ∃ sl, h.get? b = some { o with slots := sl })
theorem KeptA.some {A : Around} {h : Heap} {b : Addr} {o : Obj} (x : KeptA A h b o) : ∃ sl, h.get? b = Option.some { o with slots := sl } := by
  rcases x with x | ⟨_, x⟩
  · exact ⟨o.slots, x⟩
  · exact x
theorem KeptA.exact {A : Around} {h : Heap} {b : Addr} {o : Obj} (x : KeptA A h b o) (hn : ¬ fz A b) : h.get? b = Option.some o := by
  rcases x with x | ⟨y, _⟩
  · exact x
  · exact absurd y hn
theorem KeptA.trans {A : Around} {h h' : Heap} {b : Addr} {o : Obj} (x : KeptA A h b o) (k : ∀ b o, h.get? b = Option.some o → KeptA A h' b o) : KeptA A h' b o := by
  rcases x with x | ⟨y, sl, x⟩
  · exact k b o x
  · exact .inr ⟨y, (k b _ x).some⟩
theorem KeptA.but {A : Around} {h h' : Heap} {b c : Addr} {o : Obj} (x : KeptA A h b o) (hs : Heap.SameBut c h h') (hn : b ≠ c) : KeptA A h' b o := by
  rcases x with k | ⟨f, sl, k⟩
  · exact .inl ((hs.2 b hn).trans k)
  · exact .inr ⟨f, sl, (hs.2 b hn).trans k⟩
theorem KeptA.ne {A : Around} {h : Heap} {b : Addr} {o : Obj} (x : KeptA A h b o) (e : h.get? b = none) : False := by
  obtain ⟨sl, y⟩ := x.some
  rw [e] at y; cases y
theorem ns_kept {A : Around} {h h' : Heap} {L : Addr} {m : Str → Option Value} (k : ∀ b o, h.get? b = some o → KeptA A h' b o) (n : h.Ns L m) : h'.Ns L m := by
  obtain ⟨o, es, ep, ho, hd, r⟩ := n
  obtain ⟨sl, e⟩ := (k _ _ ho).some
  exact ⟨_, es, ep, e, hd, r⟩
theorem cell_kept {A : Around} {h h' : Heap} {c : Addr} {v : Option Value} (k : ∀ b o, h.get? b = some o → KeptA A h' b o) (n : h.IsCell c v) : h'.IsCell c v := by
  obtain ⟨o, ho, hd⟩ := n
  obtain ⟨sl, e⟩ := (k _ _ ho).some
  exact ⟨_, e, hd⟩
/-- growth: only new objects -/
structure Gr (A : Around) (s : Shared) (g : Vis) (s' : Shared) (g' : Vis) : Prop where
  same : ∃ h' tk, s' = { s with heap := h', toks := tk }
  keep : ∀ b o, s.heap.get? b = some o → KeptA A s'.heap b o
  old : ∀ b o, s.heap.get? b = some o → g' b = g b
  sub : ∀ b o, g' b = some o → s'.heap.get? b = some o

section
variable {A : Around} {s s' s'' : Shared} {g g' g'' : Vis}
theorem Gr.of (same : ∃ h' tk, s' = { s with heap := h', toks := tk }) (keep : ∀ b o, s.heap.get? b = some o → s'.heap.get? b = some o) (old : ∀ b o, s.heap.get? b = some o → g' b = g b) (sub : ∀ b o, g' b = some o → s'.heap.get? b = some o) : Gr A s g s' g' := ⟨same, fun b o e => .inl (keep b o e), old, sub⟩
theorem Gr.none0 (x : Gr A s g s' g') {b : Addr} (h : s'.heap.get? b = none) : s.heap.get? b = none := by
  cases q : s.heap.get? b with
  | none => rfl
  | some o => exact ((x.keep b o q).ne h).elim
theorem Gr.refl (sub : ∀ b o, g b = some o → s.heap.get? b = some o) : Gr A s g s g := Gr.of ⟨_, _, rfl⟩ (fun _ _ e => e) (fun _ _ _ => rfl) sub
theorem Gr.trans (x : Gr A s g s' g') (y : Gr A s' g' s'' g'') : Gr A s g s'' g'' := by
  obtain ⟨h1, t1, e1⟩ := x.same
  obtain ⟨h2, t2, e2⟩ := y.same
  refine ⟨⟨h2, t2, by rw [e2, e1]⟩, fun b o e => (x.keep b o e).trans y.keep, fun b o e => ?_, y.sub⟩
  obtain ⟨sl, e'⟩ := (x.keep b o e).some
  exact (y.old b _ e').trans (x.old b o e)
theorem Gr.tok (x : Gr A s g s' g') (t : Nat) : Gr A s g { s' with toks := t } g' := by
  obtain ⟨h1, t1, e1⟩ := x.same
  exact ⟨⟨h1, t, by rw [e1]⟩, x.keep, x.old, x.sub⟩
theorem Gr.tok0 (sub : ∀ b o, g b = some o → s.heap.get? b = some o) (t : Nat) : Gr A s g { s with toks := t } g := (Gr.refl sub).tok t
theorem Gr.vis (x : Gr A s g s' g') (sub : ∀ b o, g b = some o → s.heap.get? b = some o) : ∀ b o, g b = some o → g' b = some o := fun b o e => (x.old b o (sub b o e)).trans e
/-- an allocation, seen or hidden -/
noncomputable def seen (g : Vis) (a : Addr) (o : Obj) : Vis := fun b => if b = a then some o else g b
theorem seen_self (g : Vis) (a : Addr) (o : Obj) : seen g a o a = some o := by simp [seen]
theorem seen_ne {g : Vis} {a b : Addr} {o : Obj} (h : b ≠ a) : seen g a o b = g b := by simp [seen, h]
theorem Gr.alloc (sub : ∀ b o, g b = some o → s.heap.get? b = some o) (o : Obj) (hf : o.isFreed = false) : Gr A s g { s with heap := s.heap.push o } (seen g s.heap.objs.size o) := by
  refine Gr.of ⟨_, _, rfl⟩ (fun b x e => Heap.get?_push_of_some _ e) (fun b x e => seen_ne (Nat.ne_of_lt (Heap.lt_size e))) (fun b x e => ?_)
  by_cases hb : b = s.heap.objs.size
  · subst hb
    rw [seen_self] at e
    cases e
    exact Heap.get?_push_size _ hf
  · rw [seen_ne hb] at e
    exact Heap.get?_push_of_some _ (sub b x e)
theorem get?_size (h : Heap) : h.get? h.objs.size = none := Heap.get?_none_of_le (Nat.le_refl _)
theorem Gr.allocHid (sub : ∀ b o, g b = some o → s.heap.get? b = some o) (o : Obj) : Gr A s g { s with heap := s.heap.push o } g :=
  Gr.of ⟨_, _, rfl⟩ (fun b x e => Heap.get?_push_of_some _ e) (fun b x e => rfl) (fun b x e => Heap.get?_push_of_some _ (sub b x e))
end

/-- room around -/
structure AOk (n : Nat) (A : Around) : Prop where
  hd : A.handled = none
  depth : A.depth + n < recursionLimit
  units : A.units + 8 * n + 100 < cLine
theorem AOk.less {n k : Nat} {A : Around} (x : AOk n A) (hk : k ≤ n) : AOk k A := ⟨x.hd, by have := x.depth; omega, by have := x.units; omega⟩

noncomputable def NonF (o : Obj) : Prop := ∀ vs, o.data ≠ .fields vs
/-- the frames below stand in h₀, or are the one whose dict is L -/
noncomputable def FrOk (hT : Heap) (A : Around) (h₀ : Heap) (L : Option Addr) : Prop :=
  ∃ outer, A.frames = some outer ∧ ∀ e ∈ outer, e.scope.kind ≠ .module ∧ ∃ L', e.frame = some L' ∧ hT.get? L' = none ∧ (L = some L' ∨ ∃ o, h₀.get? L' = some o ∧ NonF o)

inductive Slot : Type where
  | val (d : D)
  | own (xs : List D)
  | itr (I : Addr) (ds : List D)
  | obj (a C dx : Addr) (fs : List (Str × D))
abbrev Vars := List (Str × Slot)
/-- the hidden object that a slot owns -/
noncomputable def hidA : Value → Slot → Option Addr
  | .ref b, .own _ => some b
  | _, .itr I _ => some I
  | _, .obj _ _ dx _ => some dx
  | _, _ => none
noncomputable def IterOb (o : Obj) (l : Addr) (k : Nat) : Prop := o.cls = .type "list_iterator" ∧ o.data = .fields #[.ref l, .int k 0]

noncomputable def rdv (env : Env) (m cm : Str → Option Value) (x : Str) : Option Value := match env.kindOf x with
  | some .local => m x
  | some .cell => (match env.cells.lookup x with | some _ => cm x | none => none)
  | _ => none

section
variable (W : Wd)
/-- what is mutable here and hidden -/
structure Hid (env : Env) (R : List (Addr × Obj)) (g : Vis) (h₀ : Heap) (a : Addr) : Prop where
  gv : g a = none
  nL : a ≠ env.locals
  nC : ∀ n c, env.cells.lookup n = some c → a ≠ c
  nR : ∀ p ∈ R, p.1 ≠ a
  n0 : h₀.get? a = none
noncomputable def KVal (g : Vis) (v : Value) : Slot → Prop
  | .val d => RD W g v d
  | .own _ => ∃ b, v = .ref b
  | .itr I _ => v = .ref I
  | .obj a C dx _ => v = .ref a ∧ W.mg "Whitespace" = some (.ref C) ∧ dx ≠ a ∧ ∃ o : Obj, g a = some o ∧ o.cls = .ref C ∧ (∀ c, o.data ≠ .cls c) ∧ o.dict = some dx
noncomputable def KObj (g : Vis) (o : Obj) : Slot → Prop
  | .val _ => True
  | .own xs => ∃ vs n, o = lob vs n ∧ RDs W g vs xs
  | .itr _ ds => ∃ l k vs n, IterOb o l k ∧ g l = some (lob vs n) ∧ k ≤ vs.length ∧ RDs W g (vs.drop k) ds
  | .obj _ _ _ fs => ∃ es ep, ∃ vf : Str → Value, o.data = .dict es ep ∧ StrKeys es ∧ UniqKeys es ∧ (∀ x d, fs.lookup x = some d → nsFind es x = some (vf x)) ∧ (∀ x d, fs.lookup x = some d → RD W g (vf x) d) ∧ (∀ x, fs.lookup x = Option.none → nsFind es x = Option.none)
noncomputable def SlotOk (env : Env) (R : List (Addr × Obj)) (g : Vis) (h h₀ : Heap) (v : Value) (sl : Slot) : Prop :=
  KVal W g v sl ∧ ∀ b, hidA v sl = some b → ∃ o, h.get? b = some o ∧ KObj W g o sl ∧ Hid env R g h₀ b
structure Frame (R : List (Addr × Obj)) (env : Env) (V : Vars) (g : Vis) (h h₀ : Heap) (m cm : Str → Option Value) : Prop where
  ns : h.Ns env.locals m
  gL : g env.locals = none
  L0 : h₀.get? env.locals = none
  cell : ∀ n c, env.cells.lookup n = some c → h.IsCell c (cm n)
  gC : ∀ n c, env.cells.lookup n = some c → g c = none
  nLC : ∀ n c, env.cells.lookup n = some c → c ≠ env.locals
  apart : ∀ n n' c, env.cells.lookup n = some c → env.cells.lookup n' = some c → n = n'
  C0 : env.frame = some env.locals → ∀ n c, env.cells.lookup n = some c → h₀.get? c = none
  fL : ∃ L, env.frame = some L ∧ (L = env.locals ∨ ∃ o, h₀.get? L = some o)
  vars : ∀ x sl, V.lookup x = some sl → ∃ v, rdv env m cm x = some v ∧ SlotOk W env R g h h₀ v sl
  sep : ∀ x y sl sl' v v' b, x ≠ y → V.lookup x = some sl → V.lookup y = some sl' → rdv env m cm x = some v → rdv env m cm y = some v' → hidA v sl = some b → hidA v' sl' ≠ some b
structure St (n : Nat) (A : Around) (s₀ : Shared) (g₀ : Vis) (R : List (Addr × Obj)) (env : Env) (V : Vars) (g : Vis) (s : Shared) : Prop where
  aok : AOk n A
  frs : FrOk W.hT A s₀.heap (some env.locals)
  hdF : env.frame = some env.locals → ∃ outer, A.frames = some (env :: outer)
  same : ∃ h' tk, s = { s₀ with heap := h', toks := tk }
  keep : ∀ b o, s₀.heap.get? b = some o → KeptA A s.heap b o
  old : ∀ b o, s₀.heap.get? b = some o → g b = g₀ b
  base : ∀ b o, W.hT.get? b = some o → s₀.heap.get? b = some o
  sub : ∀ b o, g b = some o → s.heap.get? b = some o
  top : ∀ b o, W.hT.get? b = some o → g b = some o
  frv : ∀ b, fz A b → g b = none
  rest : ∀ p ∈ R, s.heap.get? p.1 = some p.2 ∧ g p.1 = none ∧ s₀.heap.get? p.1 = none ∧ p.1 ≠ env.locals ∧ (∀ n c, env.cells.lookup n = some c → p.1 ≠ c)
  rnd : (R.map (·.1)).Nodup
  fr : ∃ m cm, Frame W R env V g s.heap s₀.heap m cm
end
section
variable {W : Wd} {n : Nat} {A : Around} {s₀ s s' : Shared} {g₀ g g' : Vis} {R : List (Addr × Obj)} {env : Env} {V : Vars}

theorem St.topKeep (x : St W n A s₀ g₀ R env V g s) : ∀ b o, W.hT.get? b = some o → s.heap.get? b = some o := fun b o e => x.sub b o (x.top b o e)
theorem St.none0 (x : St W n A s₀ g₀ R env V g s) {b : Addr} (h : s.heap.get? b = none) : s₀.heap.get? b = none := by
  cases q : s₀.heap.get? b with
  | none => rfl
  | some o => exact ((x.keep b o q).ne h).elim
theorem FrOk.hz {hT : Heap} {h₀ : Heap} {L : Option Addr} (x : FrOk hT A h₀ L) {b : Addr} (h : fz A b) : L = some b ∨ ∃ o, h₀.get? b = some o := by
  obtain ⟨outer, h1, h2⟩ := x
  obtain ⟨outer', h3, e, he, hf⟩ := h
  rw [h1] at h3; cases h3
  obtain ⟨_, L', hL, _, h4⟩ := h2 e he
  rw [hf] at hL; cases hL
  rcases h4 with h4 | ⟨o, h4, _⟩
  · exact .inl h4
  · exact .inr ⟨o, h4⟩
/-- what is new here and not the frame is no frame of the stack -/
theorem St.nfz (x : St W n A s₀ g₀ R env V g s) {b : Addr} (h1 : b ≠ env.locals) (h2 : s₀.heap.get? b = none) : ¬ fz A b := fun h => by
  rcases x.frs.hz h with h | ⟨o, h⟩
  · cases h; exact h1 rfl
  · rw [h2] at h; cases h
theorem St.below (x : St W n A s₀ g₀ R env V g s) : ∃ outer, Below A W.hT outer s.heap := by
  obtain ⟨outer, hA, h⟩ := x.frs
  obtain ⟨m, cm, F⟩ := x.fr
  refine ⟨outer, hA, x.topKeep, ?_⟩
  have go : ∀ l : List Env, (∀ e ∈ l, e.scope.kind ≠ .module ∧ ∃ L', e.frame = some L' ∧ W.hT.get? L' = none ∧ (some env.locals = some L' ∨ ∃ o, s₀.heap.get? L' = some o ∧ NonF o)) → s.heap.FunFrames W.hT l := by
    intro l
    induction l with
    | nil => exact fun _ => trivial
    | cons e r ih =>
      intro hl
      obtain ⟨hk, L', hf, hn, hc⟩ := hl e (.head _)
      refine ⟨hk, ?_, ih fun e' he' => hl e' (.tail _ he')⟩
      rcases hc with hc | ⟨o, ho, hd⟩
      · cases hc
        obtain ⟨o, es, ep, ho, hd, _⟩ := F.ns
        exact ⟨_, o, hf, hn, ho, fun vs => by rw [hd]; exact fun z => by cases z⟩
      · obtain ⟨sl, e'⟩ := (x.keep _ _ ho).some
        exact ⟨L', _, hf, hn, e', hd⟩
  exact go outer h

theorem KVal.mono {g g' : Vis} (hm : ∀ b o, g b = some o → g' b = some o) {v : Value} : ∀ {sl : Slot}, KVal W g v sl → KVal W g' v sl
  | .val _, h => RD.mono hm h
  | .own _, h => h
  | .itr _ _, h => h
  | .obj _ _ _ _, ⟨h1, h2, h3, o, h4, h5⟩ => ⟨h1, h2, h3, o, hm _ _ h4, h5⟩
theorem KObj.mono {g g' : Vis} (hm : ∀ b o, g b = some o → g' b = some o) {o : Obj} : ∀ {sl : Slot}, KObj W g o sl → KObj W g' o sl
  | .val _, h => trivial
  | .own _, ⟨vs, n, e, r⟩ => ⟨vs, n, e, r.mono hm⟩
  | .itr _ _, ⟨l, k, vs, n, e, el, hk, r⟩ => ⟨l, k, vs, n, e, hm _ _ el, hk, r.mono hm⟩
  | .obj _ _ _ _, ⟨es, n, vf, e, k1, k2, h1, h2, h3⟩ => ⟨es, n, vf, e, k1, k2, h1, fun x d q => (h2 x d q).mono hm, h3⟩
theorem SlotOk.mono {R' : List (Addr × Obj)} {h h' h₀ : Heap} {v : Value} {sl : Slot} (ok : SlotOk W env R g h h₀ v sl) (hm : ∀ b o, g b = some o → g' b = some o)
    (k : ∀ b o, hidA v sl = some b → h.get? b = some o → Hid env R g h₀ b → h'.get? b = some o ∧ Hid env R' g' h₀ b) : SlotOk W env R' g' h' h₀ v sl := by
  refine ⟨ok.1.mono hm, fun b hb => ?_⟩
  obtain ⟨o, ho, hk, hh⟩ := ok.2 b hb
  exact ⟨o, (k b o hb ho hh).1, hk.mono hm, (k b o hb ho hh).2⟩
theorem St.fzThere (x : St W n A s₀ g₀ R env V g s) {b : Addr} (h : fz A b) : ∃ o, s.heap.get? b = some o := by
  rcases x.frs.hz h with h | ⟨o, h⟩
  · cases h
    obtain ⟨m, cm, F⟩ := x.fr
    obtain ⟨o, es, ep, ho, _⟩ := F.ns
    exact ⟨o, ho⟩
  · obtain ⟨sl, e⟩ := (x.keep _ _ h).some
    exact ⟨_, e⟩
theorem Frame.gr {h₀ : Heap} {m cm : Str → Option Value} (F : Frame W R env V g s.heap h₀ m cm) (hz : ∀ b, b ≠ env.locals → h₀.get? b = none → ¬ fz A b) (sub : ∀ b o, g b = some o → s.heap.get? b = some o) (y : Gr A s g s' g') : Frame W R env V g' s'.heap h₀ m cm := by
  have gm := y.vis sub
  have gn : ∀ b o, s.heap.get? b = some o → g b = none → g' b = none := fun b o e h => (y.old b o e).trans h
  obtain ⟨oL, es, ep, hL, _⟩ := id F.ns
  refine ⟨ns_kept y.keep F.ns, gn _ _ hL F.gL, F.L0, fun k c e => cell_kept y.keep (F.cell k c e), fun k c e => ?_, F.nLC, F.apart, F.C0, F.fL, fun z sl e => ?_, F.sep⟩
  · obtain ⟨o, ho, _⟩ := F.cell k c e
    exact gn c o ho (F.gC k c e)
  · obtain ⟨v, hv, ok⟩ := F.vars z sl e
    exact ⟨v, hv, ok.mono gm fun b o hb ho hh => ⟨(y.keep _ _ ho).exact (hz _ hh.nL hh.n0), gn _ _ ho hh.gv, hh.nL, hh.nC, hh.nR, hh.n0⟩⟩
theorem St.gr (x : St W n A s₀ g₀ R env V g s) (y : Gr A s g s' g') : St W n A s₀ g₀ R env V g' s' := by
  obtain ⟨h1, t1, e1⟩ := x.same
  obtain ⟨h2, t2, e2⟩ := y.same
  have gm := y.vis x.sub
  have gn : ∀ b o, s.heap.get? b = some o → g b = none → g' b = none := fun b o e h => (y.old b o e).trans h
  refine ⟨x.aok, x.frs, x.hdF, ⟨h2, t2, by rw [e2, e1]⟩, fun b o e => (x.keep b o e).trans y.keep, fun b o e => ?_, x.base, y.sub, fun b o e => gm b o (x.top b o e), fun b hb => (by obtain ⟨o, ho⟩ := x.fzThere hb; exact gn b o ho (x.frv b hb)),
    fun p hp => ⟨(y.keep _ _ (x.rest p hp).1).exact (x.nfz (x.rest p hp).2.2.2.1 (x.rest p hp).2.2.1), gn _ _ (x.rest p hp).1 (x.rest p hp).2.1, (x.rest p hp).2.2⟩, x.rnd, ?_⟩
  · obtain ⟨sl, e'⟩ := (x.keep b o e).some
    exact (y.old b _ e').trans (x.old b o e)
  obtain ⟨m, cm, F⟩ := x.fr
  exact ⟨m, cm, F.gr (fun b h1 h2 => x.nfz h1 h2) x.sub y⟩
end
end
section
noncomputable def setV : Vars → Str → Slot → Vars
  | [], x, sl => [(x, sl)]
  | (y, t) :: r, x, sl => if y = x then (x, sl) :: r else (y, t) :: setV r x sl
theorem setV_lookup (x : Str) (sl : Slot) (z : Str) : ∀ V : Vars, (setV V x sl).lookup z = if z = x then some sl else V.lookup z
  | [] => by
    unfold setV
    by_cases h : z = x <;> simp [List.lookup, h]
    have : (z == x) = false := by simp [h]
    rw [this]
  | (y, t) :: r => by
    have ih := setV_lookup x sl z r
    unfold setV
    by_cases hy : y = x
    · subst hy
      rw [if_pos rfl]
      by_cases h : z = y
      · subst h; simp [List.lookup]
      · have : (z == y) = false := by simp [h]
        simp [List.lookup, h, this]
    · rw [if_neg hy]
      by_cases h : z = y
      · subst h
        have : ¬ z = x := hy
        simp [List.lookup, this]
      · have e : (z == y) = false := by simp [h]
        simp only [List.lookup, e]
        exact ih

section
variable {W : Wd} {n : Nat} {A : Around} {s₀ s s' : Shared} {g₀ g g' : Vis} {R : List (Addr × Obj)} {env : Env} {V : Vars}

/-- objects that are hidden here and were not there before are turned -/
theorem St.turn {h' : Heap} {tk : Nat} (P : Addr → Prop) (x : St W n A s₀ g₀ R env V g s) (hs : ∀ b o, ¬ P b → s.heap.get? b = some o → h'.get? b = some o) (pa : ∀ a, P a → g a = none ∧ s₀.heap.get? a = none)
    {R' : List (Addr × Obj)} {V' : Vars} (rest : ∀ p ∈ R', h'.get? p.1 = some p.2 ∧ g p.1 = none ∧ s₀.heap.get? p.1 = none ∧ p.1 ≠ env.locals ∧ (∀ n c, env.cells.lookup n = some c → p.1 ≠ c)) (rnd : (R'.map (·.1)).Nodup)
    (fr : ∃ m cm, Frame W R' env V' g h' s₀.heap m cm) : St W n A s₀ g₀ R' env V' g { s with heap := h', toks := tk } := by
  obtain ⟨h1, t1, e1⟩ := x.same
  refine ⟨x.aok, x.frs, x.hdF, ⟨h', tk, by rw [e1]⟩, fun b q e => ?_, x.old, x.base, fun b q e => ?_, x.top, x.frv, rest, rnd, fr⟩
  · have hb : ¬ P b := fun z => by rw [(pa b z).2] at e; cases e
    rcases x.keep b q e with k | ⟨f, sl, k⟩
    · exact .inl (hs b q hb k)
    · exact .inr ⟨f, sl, hs b _ hb k⟩
  · exact hs b q (fun z => by rw [(pa b z).1] at e; cases e) (x.sub b q e)

theorem rdv_local {m cm : Str → Option Value} {y : Str} (hk : env.kindOf y = some .local) : rdv env m cm y = m y := by unfold rdv; rw [hk]
theorem rdv_cell {m cm : Str → Option Value} {y : Str} {c : Addr} (hk : env.kindOf y = some .cell) (hc : env.cells.lookup y = some c) : rdv env m cm y = cm y := by unfold rdv; rw [hk, hc]

theorem rdv_setL {m cm : Str → Option Value} {y z : Str} {v : Value} (hk : env.kindOf y = some .local) : rdv env (fun z => if z = y then some v else m z) cm z = if z = y then some v else rdv env m cm z := by
  by_cases h : z = y
  · subst h; rw [if_pos rfl, rdv_local hk]; simp
  · rw [if_neg h]
    unfold rdv
    cases env.kindOf z with
    | none => rfl
    | some k => cases k <;> simp [h]

theorem rdv_setC {m cm : Str → Option Value} {y z : Str} {c : Addr} {v : Value} (hk : env.kindOf y = some .cell) (hc : env.cells.lookup y = some c) : rdv env m (fun z => if z = y then some v else cm z) z = if z = y then some v else rdv env m cm z := by
  by_cases h : z = y
  · subst h; rw [if_pos rfl, rdv_cell hk hc]; simp
  · rw [if_neg h]
    unfold rdv
    cases env.kindOf z with
    | none => rfl
    | some k => cases k <;> simp [h]

/-- what the new slot needs -/
noncomputable def NewSlot (W : Wd) (R : List (Addr × Obj)) (env : Env) (V : Vars) (g : Vis) (h h₀ : Heap) (y : Str) (v : Value) (sl : Slot) : Prop :=
  SlotOk W env R g h h₀ v sl ∧ (∀ b, hidA v sl = some b → ∀ z sl' m cm v', z ≠ y → V.lookup z = some sl' → Frame W R env V g h h₀ m cm → rdv env m cm z = some v' → hidA v' sl' ≠ some b)

theorem vars_set {h h' h₀ : Heap} {m cm m' cm' : Str → Option Value} {y : Str} {v : Value} {sl : Slot} (F : Frame W R env V g h h₀ m cm) (ns : NewSlot W R env V g h h₀ y v sl)
    (hr : ∀ z, rdv env m' cm' z = if z = y then some v else rdv env m cm z) (hk : ∀ a o, h.get? a = some o → g a = none → a ≠ env.locals → (∀ n c, env.cells.lookup n = some c → a ≠ c) → h'.get? a = some o) :
    (∀ x sl', (setV V y sl).lookup x = some sl' → ∃ v, rdv env m' cm' x = some v ∧ SlotOk W env R g h' h₀ v sl') ∧
    (∀ x z sl1 sl2 v1 v2 b, x ≠ z → (setV V y sl).lookup x = some sl1 → (setV V y sl).lookup z = some sl2 → rdv env m' cm' x = some v1 → rdv env m' cm' z = some v2 → hidA v1 sl1 = some b → hidA v2 sl2 ≠ some b) := by
  have mv : ∀ {u : Value} {t : Slot}, SlotOk W env R g h h₀ u t → SlotOk W env R g h' h₀ u t := fun {u t} ok => ok.mono (fun _ _ e => e) fun b o hb ho hh => ⟨hk b _ ho hh.gv hh.nL hh.nC, hh⟩
  refine ⟨fun x sl' e => ?_, fun x z sl1 sl2 v1 v2 b hxz e1 e2 r1 r2 b1 b2 => ?_⟩
  · rw [setV_lookup] at e
    rw [hr]
    split at e
    · rename_i hx; cases e; rw [if_pos hx]; exact ⟨v, rfl, mv ns.1⟩
    · rename_i hx; rw [if_neg hx]
      obtain ⟨u, hu, ok⟩ := F.vars x sl' e
      exact ⟨u, hu, mv ok⟩
  · rw [setV_lookup] at e1 e2
    rw [hr] at r1 r2
    by_cases h1 : x = y
    · have h2 : z ≠ y := fun q => hxz (h1.trans q.symm)
      rw [if_pos h1] at e1 r1
      rw [if_neg h2] at e2 r2
      cases e1; cases r1
      exact ns.2 b b1 z sl2 m cm v2 h2 e2 F r2 b2
    · rw [if_neg h1] at e1 r1
      by_cases h2 : z = y
      · rw [if_pos h2] at e2 r2
        cases e2; cases r2
        exact ns.2 b b2 x sl1 m cm v1 h1 e1 F r1 b1
      · rw [if_neg h2] at e2 r2
        exact F.sep x z sl1 sl2 v1 v2 b hxz e1 e2 r1 r2 b1 b2
theorem NewSlot.val {h h₀ : Heap} {y : Str} {v : Value} {d : D} (r : RD W g v d) : NewSlot W R env V g h h₀ y v (.val d) := by
  have : hidA v (.val d) = none := by cases v <;> rfl
  exact ⟨⟨r, fun b hb => by rw [this] at hb; cases hb⟩, fun b hb => by rw [this] at hb; cases hb⟩

theorem St.setLocal {y : Str} {v : Value} {sl : Slot} {h' : Heap} {tk : Nat} (x : St W n A s₀ g₀ R env V g s) (hk : env.kindOf y = some .local) (ns : NewSlot W R env V g s.heap s₀.heap y v sl)
    {m : Str → Option Value} (hm : s.heap.Ns env.locals m) (hn : h'.Ns env.locals (fun z => if z = y then some v else m z)) (hs : Heap.SameBut env.locals s.heap h') : St W n A s₀ g₀ R env (setV V y sl) g { s with heap := h', toks := tk } := by
  obtain ⟨m₀, cm, F⟩ := x.fr
  have hmm : m = m₀ := by
    obtain ⟨o, es, ep, ho, hd, _, hf⟩ := hm
    obtain ⟨o', es', ep', ho', hd', _, hf'⟩ := F.ns
    rw [ho] at ho'; cases ho'
    rw [hd] at hd'; cases hd'
    funext z
    rw [← hf z, ← hf' z]
  subst hmm
  refine x.turn (· = env.locals) (fun b q hb e => (hs.2 b hb).trans e) (fun a e => by subst e; exact ⟨F.gL, F.L0⟩) (fun p hp => ⟨(hs.2 _ (x.rest p hp).2.2.2.1).trans (x.rest p hp).1, (x.rest p hp).2⟩) x.rnd ?_
  have V' := vars_set (m' := fun z => if z = y then some v else m z) (cm' := cm) (h' := h') F ns (fun z => rdv_setL hk) (fun a o e _ hL _ => (hs.2 a hL).trans e)
  exact ⟨_, cm, hn, F.gL, F.L0, fun k c e => (F.cell k c e).sameBut hs (F.nLC k c e), F.gC, F.nLC, F.apart, F.C0, F.fL, V'.1, V'.2⟩

theorem St.setCell {y : Str} {c : Addr} {v : Value} {sl : Slot} {h' : Heap} {tk : Nat} (x : St W n A s₀ g₀ R env V g s) (hk : env.kindOf y = some .cell) (hc : env.cells.lookup y = some c) (hfr : env.frame = some env.locals)
    (ns : NewSlot W R env V g s.heap s₀.heap y v sl) (hn : h'.IsCell c (some v)) (hs : Heap.SameBut c s.heap h') : St W n A s₀ g₀ R env (setV V y sl) g { s with heap := h', toks := tk } := by
  obtain ⟨m, cm, F⟩ := x.fr
  refine x.turn (· = c) (fun b q hb e => (hs.2 b hb).trans e) (fun a e => by subst e; exact ⟨F.gC y _ hc, F.C0 hfr y _ hc⟩) (fun p hp => ⟨(hs.2 _ ((x.rest p hp).2.2.2.2 y c hc)).trans (x.rest p hp).1, (x.rest p hp).2⟩) x.rnd ?_
  have V' := vars_set (m' := m) (cm' := fun z => if z = y then some v else cm z) (h' := h') F ns (fun z => rdv_setC hk hc) (fun a o e _ _ hC => (hs.2 a (hC y c hc)).trans e)
  refine ⟨m, _, F.ns.sameBut hs (Ne.symm (F.nLC y c hc)), F.gL, F.L0, fun k c' e => ?_, F.gC, F.nLC, F.apart, F.C0, F.fL, V'.1, V'.2⟩
  by_cases hky : k = y
  · subst hky
    rw [hc] at e; cases e
    simpa using hn
  · simp only [if_neg hky]
    exact (F.cell k c' e).sameBut hs fun q => hky (F.apart k y c' e (q ▸ hc))
end
end
section
section
variable {W : Wd} {n : Nat} {A : Around} {s₀ s s' : Shared} {g₀ g g' : Vis} {R : List (Addr × Obj)} {env : Env} {V V' : Vars}

structure HidAt (W : Wd) (R : List (Addr × Obj)) (env : Env) (V : Vars) (g : Vis) (s s₀ : Shared) (y : Str) (v : Value) (sl : Slot) (b : Addr) (o : Obj) : Prop where
  fr : ∃ m cm, Frame W R env V g s.heap s₀.heap m cm ∧ rdv env m cm y = some v
  lk : V.lookup y = some sl
  kv : KVal W g v sl
  ha : hidA v sl = some b
  ho : s.heap.get? b = some o
  ko : KObj W g o sl
  hh : Hid env R g s₀.heap b

theorem St.hidAt (x : St W n A s₀ g₀ R env V g s) {y : Str} {sl : Slot} (hy : V.lookup y = some sl) (hs : ∀ v, KVal W g v sl → ∃ b, hidA v sl = some b) : ∃ v b o, HidAt W R env V g s s₀ y v sl b o := by
  obtain ⟨m, cm, F⟩ := x.fr
  obtain ⟨v, hv, ok⟩ := F.vars y _ hy
  obtain ⟨b, hb⟩ := hs v ok.1
  obtain ⟨o, ho, hk, hh⟩ := ok.2 b hb
  exact ⟨v, b, o, ⟨m, cm, F, hv⟩, hy, ok.1, hb, ho, hk, hh⟩
theorem hs_own {g : Vis} {xs : List D} : ∀ v, KVal W g v (.own xs) → ∃ b, hidA v (.own xs) = some b := fun v ⟨b, e⟩ => ⟨b, by rw [e]; rfl⟩
theorem hs_itr {g : Vis} {I : Addr} {xs : List D} : ∀ v, KVal W g v (.itr I xs) → ∃ b, hidA v (.itr I xs) = some b := fun v _ => ⟨I, by cases v <;> rfl⟩
theorem hs_obj {g : Vis} {a C dx : Addr} {fs : List (Str × D)} : ∀ v, KVal W g v (.obj a C dx fs) → ∃ b, hidA v (.obj a C dx fs) = some b := fun v _ => ⟨dx, by cases v <;> rfl⟩
theorem HidAt.gr {y : Str} {v : Value} {sl : Slot} {b : Addr} {q : Obj} (o : HidAt W R env V g s s₀ y v sl b q) (sub : ∀ b o, g b = some o → s.heap.get? b = some o) (z : Gr A s g s' g') (hz : ∀ b, b ≠ env.locals → s₀.heap.get? b = none → ¬ fz A b) : HidAt W R env V g' s' s₀ y v sl b q := by
  obtain ⟨⟨m, cm, F, h1⟩, h2, h3, h4, h5, h6, h7⟩ := o
  exact ⟨⟨m, cm, F.gr hz sub z, h1⟩, h2, h3.mono (z.vis sub), h4, (z.keep _ _ h5).exact (hz _ h7.nL h7.n0), h6.mono (z.vis sub), (z.old _ _ h5).trans h7.gv, h7.nL, h7.nC, h7.nR, h7.n0⟩
theorem HidAt.turn {y : Str} {v : Value} {sl sl' : Slot} {a : Addr} {q q' : Obj} {h' : Heap} {tk : Nat} (o : HidAt W R env V g s s₀ y v sl a q) (x : St W n A s₀ g₀ R env V g s)
    (ho : h'.get? a = some q') (hv : KVal W g v sl') (ha : hidA v sl' = some a) (hk : KObj W g q' sl') (hs : Heap.SameBut a s.heap h') : St W n A s₀ g₀ R env (setV V y sl') g { s with heap := h', toks := tk } := by
  obtain ⟨⟨m, cm, F, h1⟩, h2, h3, h4, h5, h6, h7⟩ := o
  have lk : ∀ {z sl1}, (setV V y sl').lookup z = some sl1 → (z = y ∧ sl1 = sl') ∨ (z ≠ y ∧ V.lookup z = some sl1) := fun {z sl1} e => by
    rw [setV_lookup] at e
    split at e
    · rename_i hz; cases e; exact .inl ⟨hz, rfl⟩
    · rename_i hz; exact .inr ⟨hz, e⟩
  refine x.turn (· = a) (fun b q hb e => (hs.2 b hb).trans e) (fun b e => by subst e; exact ⟨h7.gv, h7.n0⟩) (fun p hp => ⟨(hs.2 _ (h7.nR p hp)).trans (x.rest p hp).1, (x.rest p hp).2⟩) x.rnd ?_
  refine ⟨m, cm, F.ns.sameBut hs (Ne.symm h7.nL), F.gL, F.L0, fun i c e => (F.cell i c e).sameBut hs (Ne.symm (h7.nC i c e)), F.gC, F.nLC, F.apart, F.C0, F.fL, fun z sl1 e => ?_, fun z u sl1 sl2 v1 v2 b hzu e1 e2 r1 r2 b1 b2 => ?_⟩
  · rcases lk e with ⟨rfl, rfl⟩ | ⟨hz, e⟩
    · exact ⟨_, h1, hv, fun b hb => by rw [ha] at hb; cases hb; exact ⟨q', ho, hk, h7⟩⟩
    · obtain ⟨u, hu, ok⟩ := F.vars z sl1 e
      refine ⟨u, hu, ok.mono (fun _ _ e => e) fun b o hb hbo hh => ⟨(hs.2 b fun w => ?_).trans hbo, hh⟩⟩
      subst w
      exact F.sep z y sl1 sl u v b hz e h2 hu h1 hb h4
  · rcases lk e1 with ⟨q1, q2⟩ | ⟨hz, f1⟩
    · rcases lk e2 with ⟨p1, p2⟩ | ⟨hu, f2⟩
      · exact hzu (q1.trans p1.symm)
      · rw [q1, h1] at r1; cases r1
        rw [q2, ha] at b1; cases b1
        exact F.sep u y sl2 sl v2 v a hu f2 h2 r2 h1 b2 h4
    · rcases lk e2 with ⟨p1, p2⟩ | ⟨hu, f2⟩
      · rw [p1, h1] at r2; cases r2
        rw [p2, ha] at b2; cases b2
        exact F.sep z y sl1 sl v1 v a hz f1 h2 r1 h1 b1 h4
      · exact F.sep z u sl1 sl2 v1 v2 b hzu f1 f2 r1 r2 b1 b2

theorem St.freeze' (x : St W n A s₀ g₀ R env V g s) {y : Str} {xs : List D} (hy : V.lookup y = some (.own xs)) : ∃ a vs k, s.heap.get? a = some (lob vs k) ∧ g a = none ∧ St W n A s₀ g₀ R env (setV V y (.val (.list xs))) (seen g a (lob vs k)) s := by
  obtain ⟨v, a, o, ⟨⟨m, cm, F, hv⟩, -, ⟨a', rfl⟩, ha, ho, ⟨vs, k, rfl, hr⟩, hh⟩⟩ := x.hidAt hy hs_own
  cases ha
  have gm : ∀ b o, g b = some o → seen g a (lob vs k) b = some o := fun b o e => by
    have : b ≠ a := fun z => by rw [z, hh.gv] at e; cases e
    rw [seen_ne this]; exact e
  have gn : ∀ b, b ≠ a → g b = none → seen g a (lob vs k) b = none := fun b hb e => by rw [seen_ne hb]; exact e
  have old0 : ∀ b o, s₀.heap.get? b = some o → b ≠ a := fun b o e z => by rw [z, hh.n0] at e; cases e
  have lk : ∀ {z sl1}, (setV V y (.val (.list xs))).lookup z = some sl1 → (z = y ∧ sl1 = .val (.list xs)) ∨ (z ≠ y ∧ V.lookup z = some sl1) := fun {z sl1} e => by
    rw [setV_lookup] at e
    split at e
    · rename_i hz; cases e; exact .inl ⟨hz, rfl⟩
    · rename_i hz; exact .inr ⟨hz, e⟩
  have hN : ∀ v d, hidA v (.val d) = none := fun v d => by cases v <;> rfl
  refine ⟨a, vs, k, ho, hh.gv, x.aok, x.frs, x.hdF, x.same, x.keep, fun b o e => (seen_ne (old0 b o e)).trans (x.old b o e), x.base, fun b o e => ?_, fun b o e => gm b o (x.top b o e), fun b hb => (seen_ne (fun (z : b = a) => x.nfz hh.nL hh.n0 (by rw [← z]; exact hb))).trans (x.frv b hb),
    fun p hp => ⟨(x.rest p hp).1, gn _ (hh.nR p hp) (x.rest p hp).2.1, (x.rest p hp).2.2⟩, x.rnd, m, cm, F.ns, gn _ (Ne.symm hh.nL) F.gL, F.L0, F.cell, fun i c e => gn _ (Ne.symm (hh.nC i c e)) (F.gC i c e), F.nLC, F.apart, F.C0, F.fL, fun z sl e => ?_, fun z u sl1 sl2 v1 v2 b hzu e1 e2 r1 r2 b1 b2 => ?_⟩
  · by_cases hb : b = a
    · subst hb; rw [seen_self] at e; cases e; exact ho
    · rw [seen_ne hb] at e; exact x.sub b o e
  · rcases lk e with ⟨rfl, rfl⟩ | ⟨hz, e⟩
    · exact ⟨_, hv, .list a k vs xs (seen_self _ _ _) hr.1 fun i v d e1 e2 => (hr.2 i v d e1 e2).mono gm, fun b hb => by rw [hN] at hb; cases hb⟩
    · obtain ⟨u, hu, ok⟩ := F.vars z sl e
      refine ⟨u, hu, ok.mono gm fun b o hb hbo hh' => ⟨hbo, gn _ (fun w => ?_) hh'.gv, hh'.nL, hh'.nC, hh'.nR, hh'.n0⟩⟩
      subst w
      exact F.sep z y sl _ u _ b hz e hy hu hv hb rfl
  · rcases lk e1 with ⟨q1, q2⟩ | ⟨hz, f1⟩
    · rw [q2, hN] at b1; cases b1
    · rcases lk e2 with ⟨p1, p2⟩ | ⟨hu, f2⟩
      · rw [p2, hN] at b2; cases b2
      · exact F.sep z u sl1 sl2 v1 v2 b hzu f1 f2 r1 r2 b1 b2
theorem St.freeze (x : St W n A s₀ g₀ R env V g s) {y : Str} {xs : List D} (hy : V.lookup y = some (.own xs)) : ∃ g', (∀ b o, g b = some o → g' b = some o) ∧ St W n A s₀ g₀ R env (setV V y (.val (.list xs))) g' s := by
  obtain ⟨a, vs, k, ho, hg, X⟩ := x.freeze' hy
  exact ⟨_, fun b o e => by rw [seen_ne fun z => by rw [z, hg] at e; cases e]; exact e, X⟩

theorem St.subV (x : St W n A s₀ g₀ R env V g s) (h : ∀ y sl, V'.lookup y = some sl → V.lookup y = some sl) : St W n A s₀ g₀ R env V' g s := by
  obtain ⟨m, cm, F⟩ := x.fr
  exact ⟨x.aok, x.frs, x.hdF, x.same, x.keep, x.old, x.base, x.sub, x.top, x.frv, x.rest, x.rnd, m, cm, F.ns, F.gL, F.L0, F.cell, F.gC, F.nLC, F.apart, F.C0, F.fL, fun z sl e => F.vars z sl (h z sl e), fun z u sl1 sl2 v1 v2 b hzu e1 e2 => F.sep z u sl1 sl2 v1 v2 b hzu (h _ _ e1) (h _ _ e2)⟩

/-- a new object, hidden, is put aside -/
theorem St.pushR (x : St W n A s₀ g₀ R env V g s) (y : Gr A s g s' g') {a : Addr} {o : Obj} (ha : s.heap.get? a = none) (ho : s'.heap.get? a = some o) (hg : g' a = none) : St W n A s₀ g₀ ((a, o) :: R) env V g' s' := by
  have z := x.gr y
  obtain ⟨m, cm, F⟩ := x.fr
  have F' := F.gr (fun b h1 h2 => x.nfz h1 h2) x.sub y
  have ne : ∀ b q, s.heap.get? b = some q → b ≠ a := fun b q e h => by rw [h, ha] at e; cases e
  obtain ⟨oL, es, ep, hL, _⟩ := id F.ns
  have a0 : s₀.heap.get? a = none := x.none0 ha
  refine ⟨z.aok, z.frs, z.hdF, z.same, z.keep, z.old, z.base, z.sub, z.top, z.frv, fun p hp => ?_, ?_, m, cm, F'.ns, F'.gL, F'.L0, F'.cell, F'.gC, F'.nLC, F'.apart, F'.C0, F'.fL, fun v sl e => ?_, F'.sep⟩
  · rcases List.mem_cons.mp hp with rfl | hp
    · exact ⟨ho, hg, a0, Ne.symm (ne _ _ hL), fun i c e => by obtain ⟨oc, hc, _⟩ := F.cell i c e; exact Ne.symm (ne _ _ hc)⟩
    · exact z.rest p hp
  · rw [List.map_cons]
    refine List.nodup_cons.mpr ⟨fun hm => ?_, x.rnd⟩
    obtain ⟨p, hp, hpa⟩ := List.mem_map.mp hm
    exact ne _ _ (x.rest p hp).1 hpa
  · obtain ⟨u, hu, ok⟩ := F'.vars v sl e
    obtain ⟨u', hu', ok'⟩ := F.vars v _ e
    refine ⟨u, hu, ok.mono (fun _ _ e => e) fun b ob hb hbo hh => ⟨hbo, hh.gv, hh.nL, hh.nC, fun p hp => ?_, hh.n0⟩⟩
    rw [hu] at hu'; cases hu'
    obtain ⟨o', ho', -, hh'⟩ := ok'.2 b hb
    rcases List.mem_cons.mp hp with rfl | hp
    · exact Ne.symm (ne _ _ ho')
    · exact hh'.nR p hp
theorem St.pushRs (x : St W n A s₀ g₀ R env V g s) (y : Gr A s g s' g') : ∀ R₁ : List (Addr × Obj), (∀ p ∈ R₁, s.heap.get? p.1 = none ∧ s'.heap.get? p.1 = some p.2 ∧ g' p.1 = none) → (R₁.map (·.1)).Nodup → St W n A s₀ g₀ (R₁ ++ R) env V g' s'
  | [], _, _ => x.gr y
  | p :: r, h, hn => by
    have z := x.pushRs y r (fun q hq => h q (.tail _ hq)) (List.nodup_cons.mp hn).2
    have w := x.pushR y (h p (.head _)).1 (h p (.head _)).2.1 (h p (.head _)).2.2
    obtain ⟨m, cm, F⟩ := z.fr
    obtain ⟨m', cm', F'⟩ := w.fr
    refine ⟨z.aok, z.frs, z.hdF, z.same, z.keep, z.old, z.base, z.sub, z.top, z.frv, fun q hq => ?_, ?_, m, cm, F.ns, F.gL, F.L0, F.cell, F.gC, F.nLC, F.apart, F.C0, F.fL, fun v sl e => ?_, F.sep⟩
    · rcases List.mem_cons.mp hq with rfl | hq
      · exact w.rest _ (.head _)
      · exact z.rest q hq
    · show (p.1 :: (r ++ R).map (·.1)).Nodup
      refine List.nodup_cons.mpr ⟨fun hm => ?_, z.rnd⟩
      rw [List.map_append] at hm
      rcases List.mem_append.mp hm with hm | hm
      · exact (List.nodup_cons.mp hn).1 hm
      · exact (List.nodup_cons.mp w.rnd).1 hm
    · obtain ⟨u, hu, ok⟩ := F.vars v sl e
      refine ⟨u, hu, ok.mono (fun _ _ e => e) fun b ob hb hbo hh => ⟨hbo, hh.gv, hh.nL, hh.nC, fun q hq => ?_, hh.n0⟩⟩
      rcases List.mem_cons.mp hq with rfl | hq
      · rintro rfl
        obtain ⟨m₁, cm₁, F₁⟩ := x.fr
        obtain ⟨u₁, hu₁, ok₁⟩ := F₁.vars v sl e
        have same : ∀ u u', KVal W g' u sl → KVal W g u' sl → hidA u sl = some q.1 → rdv env m cm v = some u → rdv env m₁ cm₁ v = some u' → u = u' := fun u u' _ _ _ h1 h2 => by
          have e1 : m = m₁ := by
            obtain ⟨o, es, ep, ho, hd, _, hf⟩ := F.ns
            obtain ⟨o', es', ep', ho', hd', _, hf'⟩ := F₁.ns
            obtain ⟨slx, e'⟩ := (y.keep _ _ ho').some
            rw [ho] at e'; cases e'
            have hd2 : o'.data = .dict es ep := hd
            rw [hd'] at hd2; cases hd2
            funext z
            rw [← hf z, ← hf' z]
          have e2 : ∀ k c, env.cells.lookup k = some c → cm k = cm₁ k := fun k c e => by
            obtain ⟨o, ho, hd⟩ := F.cell k c e
            obtain ⟨o', ho', hd'⟩ := F₁.cell k c e
            obtain ⟨slx, e'⟩ := (y.keep _ _ ho').some
            rw [ho] at e'; cases e'
            have hd2 : o'.data = .cell (cm k) := hd
            rw [hd2] at hd'
            injection hd'
          rw [e1] at h1
          unfold rdv at h1 h2
          cases hk : env.kindOf v with
          | none => rw [hk] at h1; cases h1
          | some k =>
            rw [hk] at h1 h2
            cases k with
            | «local» => rw [h1] at h2; cases h2; rfl
            | cell =>
              dsimp only at h1 h2
              cases hc : env.cells.lookup v with
              | none => rw [hc] at h1; cases h1
              | some c =>
                rw [hc] at h1 h2
                dsimp only at h1 h2
                rw [e2 v c hc, h2] at h1
                cases h1; rfl
            | _ => cases h1
        have := same u u₁ ok.1 ok₁.1 hb hu hu₁
        subst this
        obtain ⟨o', ho', -, -⟩ := ok₁.2 _ hb
        rw [(h q (.head _)).1] at ho'; cases ho'
      · exact hh.nR q hq
theorem St.popR {p : Addr × Obj} (x : St W n A s₀ g₀ (p :: R) env V g s) : St W n A s₀ g₀ R env V g s := by
  obtain ⟨m, cm, F⟩ := x.fr
  refine ⟨x.aok, x.frs, x.hdF, x.same, x.keep, x.old, x.base, x.sub, x.top, x.frv, fun q hq => x.rest q (.tail _ hq), (List.nodup_cons.mp x.rnd).2, m, cm, F.ns, F.gL, F.L0, F.cell, F.gC, F.nLC, F.apart, F.C0, F.fL, fun z sl e => ?_, F.sep⟩
  obtain ⟨u, hu, ok⟩ := F.vars z sl e
  exact ⟨u, hu, ok.mono (fun _ _ e => e) fun b ob hb hbo hh => ⟨hbo, hh.gv, hh.nL, hh.nC, fun q hq => hh.nR q (.tail _ hq), hh.n0⟩⟩
/-- the objects that are put aside are turned, new ones stay hidden or are seen: g' -/
theorem St.turnR {R₁ R₂ : List (Addr × Obj)} {h' : Heap} {tk : Nat} (x : St W n A s₀ g₀ (R₁ ++ R) env V g s) (hk : ∀ b o, b ∉ R₁.map (·.1) → s.heap.get? b = some o → h'.get? b = some o)
    (ha : ∀ p ∈ R₂, p.1 ∈ R₁.map (·.1)) (hnd : (R₂.map (·.1)).Nodup) (hR : ∀ p ∈ R₂, h'.get? p.1 = some p.2) (old : ∀ b o, s.heap.get? b = some o → g' b = g b) (sub : ∀ b o, g' b = some o → h'.get? b = some o) : St W n A s₀ g₀ (R₂ ++ R) env V g' { s with heap := h', toks := tk } := by
  have hin : ∀ b, b ∈ R₁.map (·.1) → ∃ o, (b, o) ∈ R₁ ++ R := fun b hb => by
    obtain ⟨p, hp, rfl⟩ := List.mem_map.mp hb
    exact ⟨p.2, List.mem_append_left _ hp⟩
  have nd : ((R₂ ++ R).map (·.1)).Nodup := by
    have := x.rnd
    rw [List.map_append, List.nodup_append] at this ⊢
    refine ⟨hnd, this.2.1, fun a h1 b h2 => ?_⟩
    obtain ⟨p, hp, rfl⟩ := List.mem_map.mp h1
    exact this.2.2 _ (ha p hp) b h2
  have gm : ∀ b o, g b = some o → g' b = some o := fun b o e => (old b o (x.sub b o e)).trans e
  have gn : ∀ b o, s.heap.get? b = some o → g b = none → g' b = none := fun b o e h => (old b o e).trans h
  obtain ⟨h1, t1, e1⟩ := x.same
  obtain ⟨m, cm, F⟩ := x.fr
  have nL : env.locals ∉ R₁.map (·.1) := fun hm => by obtain ⟨o, ho⟩ := hin _ hm; exact (x.rest _ ho).2.2.2.1 rfl
  have nC : ∀ i c, env.cells.lookup i = some c → c ∉ R₁.map (·.1) := fun i c e hm => by obtain ⟨o, ho⟩ := hin _ hm; exact (x.rest _ ho).2.2.2.2 i c e rfl
  obtain ⟨oL, es, ep, hL, _⟩ := id F.ns
  refine ⟨x.aok, x.frs, x.hdF, ⟨h', tk, by rw [e1]⟩, fun b q e => ?_, fun b o e => ?_, x.base, sub, fun b o e => gm b o (x.top b o e), fun b hb => (by obtain ⟨o, ho⟩ := x.fzThere hb; exact gn b o ho (x.frv b hb)), fun p hp => ?_, nd, ?_⟩
  · have hb : b ∉ R₁.map (·.1) := fun hm => by
      obtain ⟨o, ho⟩ := hin _ hm
      have := (x.rest _ ho).2.2.1
      rw [this] at e; cases e
    rcases x.keep b q e with k | ⟨f, sl, k⟩
    · exact .inl (hk b q hb k)
    · exact .inr ⟨f, sl, hk b _ hb k⟩
  · obtain ⟨sl, e'⟩ := (x.keep b o e).some
    exact (old b _ e').trans (x.old b o e)
  · rcases List.mem_append.mp hp with hp | hp
    · have : p.1 ∈ R₁.map (·.1) := ha p hp
      obtain ⟨o, ho⟩ := hin _ this
      exact ⟨hR p hp, gn _ _ (x.rest _ ho).1 (x.rest _ ho).2.1, (x.rest _ ho).2.2⟩
    · have hp' := x.rest p (List.mem_append_right _ hp)
      refine ⟨hk _ _ (fun hm => ?_) hp'.1, gn _ _ hp'.1 hp'.2.1, hp'.2.2⟩
      have := x.rnd
      rw [List.map_append, List.nodup_append] at this
      exact this.2.2 _ hm _ (List.mem_map_of_mem hp) rfl
  · refine ⟨m, cm, F.ns.at' (fun o e => hk _ o nL e), gn _ _ hL F.gL, F.L0, fun i c e => ?_, fun i c e => ?_, F.nLC, F.apart, F.C0, F.fL, fun z sl e => ?_, F.sep⟩
    · obtain ⟨o, ho, hd⟩ := F.cell i c e
      exact ⟨o, hk _ _ (nC i c e) ho, hd⟩
    · obtain ⟨o, ho, hd⟩ := F.cell i c e
      exact gn _ _ ho (F.gC i c e)
    · obtain ⟨u, hu, ok⟩ := F.vars z sl e
      refine ⟨u, hu, ok.mono gm fun b ob hb hbo hh => ⟨hk _ _ (fun hm => ?_) hbo, gn _ _ hbo hh.gv, hh.nL, hh.nC, fun q hq => ?_, hh.n0⟩⟩
      · obtain ⟨o, ho⟩ := hin _ hm; exact hh.nR _ ho rfl
      · rcases List.mem_append.mp hq with hq | hq
        · intro e
          have : q.1 ∈ R₁.map (·.1) := ha q hq
          obtain ⟨o, ho⟩ := hin _ this
          exact hh.nR _ ho e
        · exact hh.nR q (List.mem_append_right _ hq)
end
end
section
/-- what a callee or a built-in sees of the state -/
structure Sv (W : Wd) (n : Nat) (A : Around) (g : Vis) (s : Shared) : Prop where
  aok : AOk n A
  sub : ∀ b o, g b = some o → s.heap.get? b = some o
  top : ∀ b o, W.hT.get? b = some o → g b = some o
  below : ∃ outer, Below A W.hT outer s.heap
  frv : ∀ b, fz A b → g b = none
structure EnvOk (sc : Scope) (env : Env) : Prop where
  scope : env.scope = sc
  kind : sc.kind = .function
  glob : env.globals = mainGlobals
  blt : env.builtins = builtinsNs
  cls : ∀ x, sc.names.lookup x = some .cell → ∃ c, env.cells.lookup x = some c

section
variable {W : Wd} {n : Nat} {A : Around} {s₀ s s' : Shared} {g₀ g g' : Vis} {R : List (Addr × Obj)} {env : Env} {V V' : Vars}
theorem St.sv (x : St W n A s₀ g₀ R env V g s) : Sv W n A g s := ⟨x.aok, x.sub, x.top, x.below, x.frv⟩
theorem Sv.keepTop (x : Sv W n A g s) : ∀ b o, W.hT.get? b = some o → s.heap.get? b = some o := fun b o e => x.sub b o (x.top b o e)
theorem Sv.less {k : Nat} (x : Sv W n A g s) (hk : k ≤ n) : Sv W k A g s := ⟨x.aok.less hk, x.sub, x.top, x.below, x.frv⟩
end

section
variable (W : Wd)

noncomputable def EvE (n : Nat) (sc : Scope) (V : Vars) (e : Expr) (d : D) : Prop :=
  ∀ (A : Around) (s₀ : Shared) (g₀ : Vis) (R : List (Addr × Obj)) (env : Env) (g : Vis) (s : Shared) (Q : Value → Shared → Prop) (E : Value → Shared → Prop), EnvOk sc env → St W n A s₀ g₀ R env V g s →
    (∀ v s' g', Gr A s g s' g' → RD W g' v d → Q v s') → wpAny (model W.prog W.w) A (eval e env) Q E s
noncomputable def EvB (n : Nat) (sc : Scope) (V : Vars) (e : Expr) (b : Bool) : Prop :=
  ∀ (A : Around) (s₀ : Shared) (g₀ : Vis) (R : List (Addr × Obj)) (env : Env) (g : Vis) (s : Shared) (Q : Bool → Shared → Prop) (E : Value → Shared → Prop), EnvOk sc env → St W n A s₀ g₀ R env V g s →
    (∀ s' g', Gr A s g s' g' → Q b s') → wpAny (model W.prog W.w) A (isTrue e env (eval e env)) Q E s
noncomputable def EvL (n : Nat) (sc : Scope) (V : Vars) (es : List Expr) (ds : List D) : Prop :=
  ∀ (A : Around) (s₀ : Shared) (g₀ : Vis) (R : List (Addr × Obj)) (env : Env) (g : Vis) (s : Shared) (pos : Pos) (Q : List Value → Shared → Prop) (E : Value → Shared → Prop), EnvOk sc env → St W n A s₀ g₀ R env V g s →
    (∀ vs s' g', Gr A s g s' g' → RDs W g' vs ds → Q vs s') → wpAny (model W.prog W.w) A (spliced (backTo pos (starEach es env))) Q E s

/-- a step on values alone -/
noncomputable def VR (n : Nat) (t : Sem Value) (A : Around) (g : Vis) (s : Shared) (d : D) : Prop :=
  ∀ (Q : Value → Shared → Prop) (E : Value → Shared → Prop), (∀ v s' g', Gr A s g s' g' → RD W g' v d → Q v s') → wpAny (model W.prog W.w) A t Q E s
noncomputable def BinR (n : Nat) (op : Operator) (a b d : D) : Prop := ∀ A g s va vb, Sv W n A g s → RD W g va a → RD W g vb b → VR W n (binaryOp op va vb) A g s d
noncomputable def InpR (n : Nat) (op : Operator) (a b d : D) : Prop := ∀ A g s va vb, Sv W n A g s → RD W g va a → RD W g vb b → VR W n (inplaceOp op va vb) A g s d
noncomputable def CmpR (n : Nat) (op : CmpOp) (a b : D) (r : Bool) : Prop := ∀ A g s va vb, Sv W n A g s → RD W g va a → RD W g vb b → VR W n (compareOp op va vb) A g s (.bool r)
noncomputable def CallR (n : Nat) (f : Value) (ds : List D) (d : D) : Prop := ∀ A g s vs, Sv W n A g s → RDs W g vs ds → VR W n (call f vs) A g s d
noncomputable def UnR (n : Nat) (op : UnaryOp) (a d : D) : Prop := ∀ A g s va, Sv W n A g s → RD W g va a → VR W n (unaryOp op va) A g s d
end

section
variable {W : Wd} {n : Nat} {sc : Scope} {V : Vars}
theorem RD.of_int {g : Vis} {v : Value} {i : Int} (h : RD W g v (.int i)) : ∃ t, v = .int i t := by cases h; exact ⟨_, rfl⟩
theorem RD.of_str {g : Vis} {v : Value} {x : Str} (h : RD W g v (.str x)) : ∃ t, v = .str x t := by cases h; exact ⟨_, rfl⟩
theorem RD.of_bool {g : Vis} {v : Value} {b : Bool} (h : RD W g v (.bool b)) : v = .bool b := by cases h; rfl
theorem RD.of_none {g : Vis} {v : Value} (h : RD W g v .none) : v = .none := by cases h; rfl
theorem RD.of_list {g : Vis} {v : Value} {xs : List D} (h : RD W g v (.list xs)) : ∃ a k vs, v = .ref a ∧ g a = some (lob vs k) ∧ RDs W g vs xs := by
  cases h with
  | list a k vs xs h1 h2 h3 => exact ⟨a, k, vs, rfl, h1, h2, h3⟩
theorem RD.of_tuple {g : Vis} {v : Value} {xs : List D} (h : RD W g v (.tuple xs)) : ∃ a k vs, v = .ref a ∧ g a = some (tob vs k) ∧ RDs W g vs xs := by
  cases h with
  | tuple a k vs xs h1 h2 h3 => exact ⟨a, k, vs, rfl, h1, h2, h3⟩
theorem RD.of_gl {g : Vis} {v : Value} {x : Str} (h : RD W g v (.gl x)) : W.mg x = some v := by cases h; assumption

theorem EvE.int {i : Int} {k : Nat} {pos : Pos} : EvE W n sc V (.Constant (.int i) k pos) (.int i) := fun A s₀ g₀ R env g s Q E he x h =>
  wpAny_Constant_int (h _ _ g (Gr.tok0 x.sub _) (.int i _))
theorem EvE.str {i : Str} {k : Nat} {pos : Pos} : EvE W n sc V (.Constant (.str i) k pos) (.str i) := fun A s₀ g₀ R env g s Q E he x h =>
  wpAny_Constant_str (h _ _ g (Gr.tok0 x.sub _) (.str i _))
theorem EvE.bool {b : Bool} {k : Nat} {pos : Pos} : EvE W n sc V (.Constant (.bool b) k pos) (.bool b) := fun A s₀ g₀ R env g s Q E he x h =>
  wpAny_Constant_bool (h _ _ g (Gr.refl x.sub) (.bool b))

theorem EnvOk.kf {env : Env} (he : EnvOk sc env) : env.scope.kind = .function := by rw [he.scope]; exact he.kind
theorem EnvOk.kindOf {env : Env} (he : EnvOk sc env) (x : Str) : env.kindOf x = sc.names.lookup x := by unfold Env.kindOf; rw [he.scope]

/-- a name of the frame's -/
theorem load_var {A : Around} {s₀ s : Shared} {g₀ g : Vis} {R : List (Addr × Obj)} {env : Env} {x : Str} {sl : Slot} {Q E : Value → Shared → Prop} (he : EnvOk sc env) (X : St W n A s₀ g₀ R env V g s) (hv : V.lookup x = some sl)
    (h : ∀ v m cm, Frame W R env V g s.heap s₀.heap m cm → rdv env m cm x = some v → SlotOk W env R g s.heap s₀.heap v sl → Q v s) : wpAny (model W.prog W.w) A (loadName env x) Q E s := by
  obtain ⟨m, cm, F⟩ := X.fr
  obtain ⟨v, e, ok⟩ := F.vars x sl hv
  have hq := h v m cm F e ok
  unfold rdv at e
  cases hk : env.kindOf x with
  | none => rw [hk] at e; cases e
  | some k =>
    rw [hk] at e
    cases k with
    | «local» => exact wpAny_loadName_local he.kf hk F.ns e hq
    | cell =>
      dsimp only at e
      cases hc : env.cells.lookup x with
      | none => rw [hc] at e; cases e
      | some c =>
        rw [hc] at e
        dsimp only at e
        have hcell := F.cell x c hc
        rw [e] at hcell
        exact wpAny_loadName_cell he.kf hk hc hcell hq
    | _ => cases e
theorem EvE.name {x : Str} {pos : Pos} {d : D} (hv : V.lookup x = some (.val d)) (hd : (x == ("__debug__" : Str)) = false := by decide) : EvE W n sc V (.Name x pos) d := fun A s₀ g₀ R env g s Q E he X h =>
  wpAny_Name (load_var he X hv fun v m cm F e ok => h v s g (Gr.refl X.sub) ok.1) hd
theorem glob_ns {A : Around} {s₀ s : Shared} {g₀ g : Vis} {R : List (Addr × Obj)} {env : Env} (he : EnvOk sc env) (X : St W n A s₀ g₀ R env V g s) : s.heap.Ns env.globals W.mg := by rw [he.glob]; exact W.hg.keeps X.topKeep
theorem blt_ns {A : Around} {s₀ s : Shared} {g₀ g : Vis} {R : List (Addr × Obj)} {env : Env} (he : EnvOk sc env) (X : St W n A s₀ g₀ R env V g s) : s.heap.Ns env.builtins W.mb := by rw [he.blt]; exact W.hb.keeps X.topKeep
theorem EvE.glob {x : Str} {pos : Pos} {v : Value} {d : D} (hk : sc.names.lookup x = some .globalImplicit) (hv : W.mg x = some v) (hr : RD W W.hT.get? v d) (hd : (x == ("__debug__" : Str)) = false := by decide) : EvE W n sc V (.Name x pos) d := fun A s₀ g₀ R env g s Q E he X h =>
  Name_function_global he.kf (by rw [he.kindOf]; exact hk) (loadGlobal_global (glob_ns he X) hv (h v s g (Gr.refl X.sub) (hr.mono X.top))) hd
theorem EvE.gl {x : Str} {pos : Pos} {v : Value} (hk : sc.names.lookup x = some .globalImplicit) (hv : W.mg x = some v) (hd : (x == ("__debug__" : Str)) = false := by decide) : EvE W n sc V (.Name x pos) (.gl x) :=
  EvE.glob hk hv (.gl x v hv) hd

theorem EvE.bin {l r : Expr} {op : Operator} {pos : Pos} {a b d : D} (hl : EvE W n sc V l a) (hr : EvE W n sc V r b) (ho : BinR W n op a b d) : EvE W n sc V (.BinOp l op r pos) d := fun A s₀ g₀ R env g s Q E he X h =>
  wpAny_BinOp (hl A s₀ g₀ R env g s _ E he X fun va s1 g1 G1 r1 => hr A s₀ g₀ R env g1 s1 _ E he (X.gr G1) fun vb s2 g2 G2 r2 =>
    ho A g2 s2 va vb ((X.gr G1).gr G2).sv (r1.mono (G2.vis (X.gr G1).sub)) r2 Q E fun v s3 g3 G3 r3 => h v s3 g3 ((G1.trans G2).trans G3) r3)
theorem EvE.cmp {l r : Expr} {op : CmpOp} {pos : Pos} {a b : D} {q : Bool} (hl : EvE W n sc V l a) (hr : EvE W n sc V r b) (ho : CmpR W n op a b q) (hm : behindInMarks op r = false := by with_unfolding_all rfl) : EvE W n sc V (.Compare l [op] [r] pos) (.bool q) := fun A s₀ g₀ R env g s Q E he X h =>
  wpAny_Compare1 (hl A s₀ g₀ R env g s _ E he X fun va s1 g1 G1 r1 => hr A s₀ g₀ R env g1 s1 _ E he (X.gr G1) fun vb s2 g2 G2 r2 =>
    ho A g2 s2 va vb ((X.gr G1).gr G2).sv (r1.mono (G2.vis (X.gr G1).sub)) r2 Q E fun v s3 g3 G3 r3 => h v s3 g3 ((G1.trans G2).trans G3) r3) hm
theorem EvE.un {l : Expr} {op : UnaryOp} {pos : Pos} {a d : D} (hl : EvE W n sc V l a) (ho : UnR W n op a d) : EvE W n sc V (.UnaryOp op l pos) d := fun A s₀ g₀ R env g s Q E he X h =>
  wpAny_UnaryOp (hl A s₀ g₀ R env g s _ E he X fun va s1 g1 G1 r1 => ho A g1 s1 va (X.gr G1).sv r1 Q E fun v s3 g3 G3 r3 => h v s3 g3 (G1.trans G3) r3)
theorem EvB.cmp {l r : Expr} {op : CmpOp} {pos : Pos} {a b : D} {q : Bool} (hl : EvE W n sc V l a) (hr : EvE W n sc V r b) (ho : CmpR W n op a b q) (hm : behindInMarks op r = false := by with_unfolding_all rfl) : EvB W n sc V (.Compare l [op] [r] pos) q := fun A s₀ g₀ R env g s Q E he X h =>
  wpAny_isTrue_Compare1 (hl A s₀ g₀ R env g s _ E he X fun va s1 g1 G1 r1 => hr A s₀ g₀ R env g1 s1 _ E he (X.gr G1) fun vb s2 g2 G2 r2 =>
    ho A g2 s2 va vb ((X.gr G1).gr G2).sv (r1.mono (G2.vis (X.gr G1).sub)) r2 _ E fun v s3 g3 G3 r3 => by
      rw [r3.of_bool]; exact wpAny_truthy_bool (h s3 g3 ((G1.trans G2).trans G3))) hm
theorem EvB.not {l : Expr} {pos : Pos} {q : Bool} (hl : EvB W n sc V l q) : EvB W n sc V (.UnaryOp .Not l pos) (!q) := fun A s₀ g₀ R env g s Q E he X h =>
  wpAny_isTrue_Not (hl A s₀ g₀ R env g s _ E he X fun s1 g1 G1 => h s1 g1 G1)
/-- a test by its value's truth -/
theorem EvB.val {e : Expr} {d : D} {q : Bool} (hl : EvE W n sc V e d) (ht : ∀ A g s v, Sv W n A g s → RD W g v d → ∀ (Q : Bool → Shared → Prop) (E : Value → Shared → Prop), (∀ s' g', Gr A s g s' g' → Q q s') → wpAny (model W.prog W.w) A (truthy v) Q E s)
    (he : ∀ env, isTrue e env (eval e env) = (do let v ← eval e env; standAt e.pos; holding [v] (truthy v)) := by intro _; rfl) : EvB W n sc V e q := fun A s₀ g₀ R env g s Q E hv X h =>
  wpAny_isTrue_value (hl A s₀ g₀ R env g s _ E hv X fun va s1 g1 G1 r1 => ht A g1 s1 va (X.gr G1).sv r1 Q E fun s2 g2 G2 => h s2 g2 (G1.trans G2)) (he env)
theorem EvE.ifexp {t a b : Expr} {pos : Pos} {q : Bool} {d : D} (ht : EvB W n sc V t q) (ha : q = true → EvE W n sc V a d) (hb : q = false → EvE W n sc V b d) : EvE W n sc V (.IfExp t a b pos) d := fun A s₀ g₀ R env g s Q E he X h =>
  wpAny_IfExp (ht A s₀ g₀ R env g s _ E he X fun s1 g1 G1 => by
    cases q with
    | true => exact ha rfl A s₀ g₀ R env g1 s1 Q E he (X.gr G1) fun v s2 g2 G2 r2 => h v s2 g2 (G1.trans G2) r2
    | false => exact hb rfl A s₀ g₀ R env g1 s1 Q E he (X.gr G1) fun v s2 g2 G2 r2 => h v s2 g2 (G1.trans G2) r2)
theorem EvB.and2 {a b : Expr} {pos : Pos} {p q r : Bool} (ha : EvB W n sc V a p) (hb : p = true → EvB W n sc V b q) (hr : r = (p && q)) : EvB W n sc V (.BoolOp .And [a, b] pos) r := fun A s₀ g₀ R env g s Q E he X h =>
  wpAny_isTrue_BoolOp (wpAny_allTrue_And_cons (ha A s₀ g₀ R env g s _ E he X fun s1 g1 G1 => by
    cases p with
    | false => subst hr; exact h s1 g1 G1
    | true =>
      have hr' : r = q := by simpa using hr
      subst hr'
      exact wpAny_allTrue_And_cons (hb rfl A s₀ g₀ R env g1 s1 _ E he (X.gr G1) fun s2 g2 G2 => by
        cases r with
        | false => exact h s2 g2 (G1.trans G2)
        | true => exact wpAny_allTrue_And_nil (h s2 g2 (G1.trans G2)))))

theorem EvL.nil : EvL W n sc V [] [] := fun A s₀ g₀ R env g s pos Q E he X h => wpAny_items_nil (h [] s g (Gr.refl X.sub) RDs.nil)
theorem EvL.cons {e : Expr} {es : List Expr} {d : D} {ds : List D} (h1 : EvE W n sc V e d) (h2 : EvL W n sc V es ds) (hs : ∀ env, starEach (e :: es) env = (false, eval e env) :: starEach es env := by intro _; rfl) : EvL W n sc V (e :: es) (d :: ds) := fun A s₀ g₀ R env g s pos Q E he X h =>
  wpAny_items_cons (h1 A s₀ g₀ R env g s _ E he X fun v s1 g1 G1 r1 => h2 A s₀ g₀ R env g1 s1 pos _ E he (X.gr G1) fun vs s2 g2 G2 r2 => h (v :: vs) s2 g2 (G1.trans G2) (RDs.cons (r1.mono (G2.vis (X.gr G1).sub)) r2)) (hs env)
theorem alloc_list {A : Around} {g : Vis} {s : Shared} {vs : List Value} {ds : List D} (sub : ∀ b o, g b = some o → s.heap.get? b = some o) (h : RDs W g vs ds) :
    Gr A s g { s with heap := s.heap.push (lob vs 0) } (seen g s.heap.objs.size (lob vs 0)) ∧ RD W (seen g s.heap.objs.size (lob vs 0)) (.ref s.heap.objs.size) (.list ds) := by
  have G := Gr.alloc (A := A) sub (lob vs 0) rfl
  exact ⟨G, .list _ 0 vs ds (seen_self _ _ _) h.1 fun i v x a b => (h.2 i v x a b).mono (G.vis sub)⟩
theorem alloc_tuple {A : Around} {g : Vis} {s : Shared} {vs : List Value} {ds : List D} (sub : ∀ b o, g b = some o → s.heap.get? b = some o) (h : RDs W g vs ds) :
    Gr A s g { s with heap := s.heap.push (tob vs 0) } (seen g s.heap.objs.size (tob vs 0)) ∧ RD W (seen g s.heap.objs.size (tob vs 0)) (.ref s.heap.objs.size) (.tuple ds) := by
  have G := Gr.alloc (A := A) sub (tob vs 0) rfl
  exact ⟨G, .tuple _ 0 vs ds (seen_self _ _ _) h.1 fun i v x a b => (h.2 i v x a b).mono (G.vis sub)⟩
theorem EvE.list {es : List Expr} {ds : List D} {pos : Pos} (h : EvL W n sc V es ds) (hz : ds.length ≤ sizeLine := by size_fits) : EvE W n sc V (.List es pos) (.list ds) := fun A s₀ g₀ R env g s Q E he X hq =>
  wpAny_List (h A s₀ g₀ R env g s pos _ E he X fun vs s1 g1 G1 r1 => ⟨by rw [r1.1]; exact hz, by
    have z := alloc_list (A := A) (X.gr G1).sub r1
    exact hq _ _ _ (G1.trans z.1) z.2⟩)
theorem EvE.tuple {es : List Expr} {ds : List D} {k : Nat} {pos : Pos} (h : EvL W n sc V es ds) (hz : ds.length ≤ sizeLine := by size_fits) : EvE W n sc V (.Tuple es k pos) (.tuple ds) := fun A s₀ g₀ R env g s Q E he X hq =>
  wpAny_Tuple (h A s₀ g₀ R env g s pos _ E he X fun vs s1 g1 G1 r1 => ⟨by rw [r1.1]; exact hz, by
    have z := alloc_tuple (A := A) (X.gr G1).sub r1
    exact hq _ _ _ (G1.trans z.1) z.2⟩)
end
end
section
/-- an iterator and its states: items still to come, objects put aside -/
structure Itr (W : Wd) (n : Nat) (it : Value) (tgt : Expr) (S : Vis → List D → List (Addr × Obj) → Prop) : Prop where
  mono : ∀ g g' ds R, (∀ b o, g b = some o → g' b = some o) → S g ds R → S g' ds R
  nxt : ∀ (A : Around) (g : Vis) (s : Shared) (d : D) (ds : List D) (R₁ : List (Addr × Obj)) (Q : Value → Shared → Prop) (E : Value → Shared → Prop), AOk n A → (∀ b o, g b = some o → s.heap.get? b = some o) → S g (d :: ds) R₁ →
    (∀ p ∈ R₁, s.heap.get? p.1 = some p.2 ∧ g p.1 = none) → (R₁.map (·.1)).Nodup →
    (∀ v h' tk R₂ g', (∀ p ∈ R₂, p.1 ∈ R₁.map (·.1)) → (R₂.map (·.1)).Nodup → (∀ p ∈ R₂, h'.get? p.1 = some p.2) → (∀ b o, b ∉ R₁.map (·.1) → s.heap.get? b = some o → h'.get? b = some o) →
      (∀ b o, s.heap.get? b = some o → g' b = g b) → (∀ b o, g' b = some o → h'.get? b = some o) → RD W g' v d → S g' ds R₂ → Q v { s with heap := h', toks := tk }) →
    wpAny (model W.prog W.w) A (pyNext it) (fun r s₁ => ∃ v, r = some v ∧ wpAny (model W.prog W.w) A (letOwnedTupleGo tgt it v) (fun _ s₂ => Q v s₂) E s₁) E s
  fin : ∀ (A : Around) (g : Vis) (s : Shared) (R₁ : List (Addr × Obj)) (Q : Option Value → Shared → Prop) (E : Value → Shared → Prop), AOk n A → (∀ b o, g b = some o → s.heap.get? b = some o) → S g [] R₁ →
    (∀ p ∈ R₁, s.heap.get? p.1 = some p.2) → (R₁.map (·.1)).Nodup →
    (∀ h' tk, (∀ b o, b ∉ R₁.map (·.1) → s.heap.get? b = some o → h'.get? b = some o) → Q none { s with heap := h', toks := tk }) → wpAny (model W.prog W.w) A (pyNext it) Q E s
  self : ∀ (A : Around) (g : Vis) (s : Shared) (ds : List D) (R₁ : List (Addr × Obj)) (Q : Value → Shared → Prop) (E : Value → Shared → Prop), S g ds R₁ → (∀ p ∈ R₁, s.heap.get? p.1 = some p.2) → Q it s → wpAny (model W.prog W.w) A (pyIter it) Q E s

section
variable (W : Wd)
/-- a thing to walk over -/
noncomputable def EvI (n : Nat) (sc : Scope) (V : Vars) (e tgt : Expr) (ds : List D) : Prop :=
  ∀ (A : Around) (s₀ : Shared) (g₀ : Vis) (R : List (Addr × Obj)) (env : Env) (g : Vis) (s : Shared) (Q : Value → Shared → Prop) (E : Value → Shared → Prop), EnvOk sc env → St W n A s₀ g₀ R env V g s →
    (∀ it s' g' R₁ S, Gr A s g s' g' → Itr W n it tgt S → S g' ds R₁ → (∀ p ∈ R₁, s.heap.get? p.1 = none ∧ s'.heap.get? p.1 = some p.2 ∧ g' p.1 = none) → (R₁.map (·.1)).Nodup → Q it s') →
    wpAny (model W.prog W.w) A (eval e env) (fun x s₁ => wpAny (model W.prog W.w) A (pyIter x) Q E s₁) E s

structure EnvK (fb : Bool) (sc : Scope) (env : Env) : Prop extends EnvOk sc env where
  fr : fb = true → env.frame = some env.locals
noncomputable def AsR (fb : Bool) (n : Nat) (sc : Scope) (tgt : Expr) (d : D) (V V' : Vars) : Prop :=
  ∀ (A : Around) (s₀ : Shared) (g₀ : Vis) (R : List (Addr × Obj)) (env : Env) (g : Vis) (s : Shared) (v : Value) (Q : Unit → Shared → Prop) (E : Value → Shared → Prop), EnvK fb sc env → St W n A s₀ g₀ R env V g s → RD W g v d →
    (∀ g' s', (∀ b o, g b = some o → g' b = some o) → St W n A s₀ g₀ R env V' g' s' → Q () s') → wpAny (model W.prog W.w) A (assign tgt env v) Q E s
structure AsRs (fb : Bool) (n : Nat) (sc : Scope) (ts : List Expr) (ds : List D) (V V' : Vars) : Prop where
  len : ∀ env, (assignEach ts env).length = ds.length
  star : ∀ env, (assignEach ts env).findIdx? (·.1) = none
  go : ∀ (A : Around) (s₀ : Shared) (g₀ : Vis) (R : List (Addr × Obj)) (env : Env) (g : Vis) (s : Shared) (vs : List Value) (Q : Unit → Shared → Prop) (E : Value → Shared → Prop), EnvK fb sc env → St W n A s₀ g₀ R env V g s → RDs W g vs ds →
    (∀ g' s', (∀ b o, g b = some o → g' b = some o) → St W n A s₀ g₀ R env V' g' s' → Q () s') → wpAny (model W.prog W.w) A (assignInOrder ((assignEach ts env).map (·.2)) vs) Q E s
end
section
variable {W : Wd} {n : Nat} {sc : Scope} {fb : Bool} {V V' V'' : Vars}
theorem EnvOk.hp {env : Env} (he : EnvOk sc env) : (env.scope.kind == .class || (env.scope.kind == .module && env.locals != env.globals)) = false := by rw [he.kf]; rfl
/-- a value is laid under a name -/
theorem store_local {A : Around} {s₀ s : Shared} {g₀ g : Vis} {R : List (Addr × Obj)} {env : Env} {y : Str} {v : Value} {sl : Slot} {Q : Unit → Shared → Prop} {E : Value → Shared → Prop} (he : EnvOk sc env) (hk : sc.names.lookup y = some .local) (X : St W n A s₀ g₀ R env V g s)
    (ns : NewSlot W R env V g s.heap s₀.heap y v sl) (h : ∀ s', St W n A s₀ g₀ R env (setV V y sl) g s' → Q () s') : wpAny (model W.prog W.w) A (storeName env y v) Q E s := by
  obtain ⟨m, cm, F⟩ := X.fr
  have hk' : env.kindOf y = some .local := by rw [he.kindOf]; exact hk
  exact wpAny_storeName_local hk' F.ns (fun h' hn hs => h _ (X.setLocal hk' ns F.ns hn hs)) he.hp
theorem store_cell {A : Around} {s₀ s : Shared} {g₀ g : Vis} {R : List (Addr × Obj)} {env : Env} {y : Str} {v : Value} {sl : Slot} {Q : Unit → Shared → Prop} {E : Value → Shared → Prop} (he : EnvK true sc env) (hk : sc.names.lookup y = some .cell) (X : St W n A s₀ g₀ R env V g s)
    (ns : NewSlot W R env V g s.heap s₀.heap y v sl) (h : ∀ s', St W n A s₀ g₀ R env (setV V y sl) g s' → Q () s') : wpAny (model W.prog W.w) A (storeName env y v) Q E s := by
  obtain ⟨m, cm, F⟩ := X.fr
  have hk' : env.kindOf y = some .cell := by rw [he.kindOf]; exact hk
  obtain ⟨c, hc⟩ := he.cls y hk
  exact wpAny_storeName_cell he.kf hk' hc (F.cell y c hc) (fun h' hn hs => h _ (X.setCell (tk := s.toks) hk' hc (he.fr rfl) ns hn hs))
theorem AsR.loc {x : Str} {pos : Pos} {d : D} (hk : sc.names.lookup x = some .local) : AsR W fb n sc (.Name x pos) d V (setV V x (.val d)) := fun A s₀ g₀ R env g s v Q E he X r h =>
  wpAny_assign_Name (store_local he.toEnvOk hk X (NewSlot.val r) fun s' X' => h g s' (fun _ _ e => e) X')
theorem AsR.cell {x : Str} {pos : Pos} {d : D} (hk : sc.names.lookup x = some .cell) : AsR W true n sc (.Name x pos) d V (setV V x (.val d)) := fun A s₀ g₀ R env g s v Q E he X r h =>
  wpAny_assign_Name (store_cell he hk X (NewSlot.val r) fun s' X' => h g s' (fun _ _ e => e) X')
theorem AsRs.nil : AsRs W fb n sc [] [] V V := ⟨fun _ => rfl, fun _ => rfl, fun A s₀ g₀ R env g s vs Q E he X r h => by
  rw [r.nil_of]; exact wpAny_assignInOrder_none (h g s (fun _ _ e => e) X)⟩
theorem AsRs.cons {t : Expr} {ts : List Expr} {d : D} {ds : List D} (h1 : AsR W fb n sc t d V V') (h2 : AsRs W fb n sc ts ds V' V'') (ht : ∀ env, assignEach (t :: ts) env = (false, assign t env) :: assignEach ts env := by intro _; rfl) : AsRs W fb n sc (t :: ts) (d :: ds) V V'' :=
  ⟨fun env => by rw [ht, List.length_cons, List.length_cons, h2.len], fun env => by rw [ht, List.findIdx?_cons]; simp [h2.star env], fun A s₀ g₀ R env g s vs Q E he X r h => by
    obtain ⟨v, r', rfl, rv, rr⟩ := r.cons_of
    rw [ht, List.map_cons]
    refine wpAny_assignInOrder_more (h1 A s₀ g₀ R env g s v _ E he X rv fun g1 s1 m1 X1 => h2.go A s₀ g₀ R env g1 s1 r' Q E he X1 (rr.mono m1) fun g2 s2 m2 X2 => h g2 s2 (fun b o e => m2 b o (m1 b o e)) X2)⟩
theorem AsR.tuple {ts : List Expr} {k : Nat} {pos : Pos} {ds : List D} (h : AsRs W fb n sc ts ds V V') : AsR W fb n sc (.Tuple ts k pos) (.tuple ds) V V' := fun A s₀ g₀ R env g s v Q E he X r hq => by
  obtain ⟨t, j, vs, rfl, ht, rs⟩ := r.of_tuple
  refine wpAny_assign_Tuple (items := vs.toArray) X.aok.hd ⟨_, X.sub _ _ ht, rfl, j, rfl⟩ (by rw [h.len, ← rs.1]; simp) (h.star env) fun h' hx => ?_
  have G : Gr A s g { s with heap := h' } g := ⟨⟨h', s.toks, rfl⟩, fun b o e => .inl ((fun b o e => hx b o (Nat.ne_of_lt (Heap.lt_size e)) e) b o e), fun _ _ _ => rfl, fun b o e => hx b o (Nat.ne_of_lt (Heap.lt_size (X.sub b o e))) (X.sub b o e)⟩
  exact h.go A s₀ g₀ R env g _ vs Q E he (X.gr G) rs fun g1 s1 m1 X1 => hq g1 s1 m1 X1
end

section
variable {prog : Program} {w : World} {A : Around} {s : Shared} {R : Result → Shared → Prop}
theorem codeAny_compLoop_every {elt target iter : Expr} {ifs : List Expr} {scope : Scope} {pos : Pos} {it acc : Value} {env : Env} (I : Nat → Shared → Prop)
    (turn : ∀ n s, I n s → wpAny (model prog w) A (pyNext it) (fun r s₁ => match r with
      | none => R (.ok .next) s₁
      | some v => wpAny (model prog w) A (letOwnedTupleGo target it v) (fun _ s₁' => wpAny (model prog w) A (assign target env v) (fun _ s₂ =>
          wpAny (model prog w) A (forIn ifs true fun c r => if r = true then do let ok ← isTrue c env (eval c env); pure (ForInStep.yield ok) else pure (ForInStep.yield r)) (fun ok s₃ =>
            if ok = true then wpAny (model prog w) A (eval elt env) (fun x s₄ =>
              wpAny (model prog w) A (call (.builtin "list.append") [acc, x]) (fun _ s₅ => ∃ m, m < n ∧ I m s₅) (notedBy (model prog w) A env fun e s' => R (.error e) s') s₄) (notedBy (model prog w) A env fun e s' => R (.error e) s') s₃
            else ∃ m, m < n ∧ I m s₃) (notedBy (model prog w) A env fun e s' => R (.error e) s') s₂) (notedBy (model prog w) A env fun e s' => R (.error e) s') s₁') (notedBy (model prog w) A env fun e s' => R (.error e) s') s₁) (notedBy (model prog w) A env fun e s' => R (.error e) s') s)
    (n : Nat) (h : I n s) :
    codeAny (model prog w) A (.compLoop (.ListComp elt [⟨target, iter, ifs, 0⟩] scope pos) 0 it acc env) R s := by
  refine codeAny_loop rfl I (fun n s hI => ?_) n h
  show wpAny _ A ((compTurn (.ListComp elt [⟨target, iter, ifs, 0⟩] scope pos) 0 it acc env).onRaise (fun x => do noteFrame x env; theTreesLotGoes x)) _ _ s
  refine wpAny_noted ?_
  rw [compTurn_list]
  refine wpAny_bind (wpAny_standAt (wpAny_bind (wpAny_mono (turn n s hI) (fun r s₁ h₁ => ?_) fun _ _ h' => h')))
  cases r with
  | none => exact wpAny_pure h₁
  | some v =>
    refine wpAny_bind (wpAny_mono h₁ (fun _ s₁' h₁' => ?_) fun _ _ h' => h')
    refine wpAny_bind (wpAny_mono h₁' (fun _ s₂ h₂ => wpAny_bind (wpAny_mono h₂ (fun ok s₃ h₃ => ?_) fun _ _ h' => h')) fun _ _ h' => h')
    cases ok with
    | false => exact wpAny_pure ⟨rfl, h₃⟩
    | true =>
      exact wpAny_bind (wpAny_bind (wpAny_mono h₃ (fun x s₄ h₄ => wpAny_bind (wpAny_mono h₄ (fun _ s₅ h₅ => wpAny_pure (wpAny_pure ⟨rfl, h₅⟩)) fun _ _ h' => h')) fun _ _ h' => h'))
end
end
section
section
variable {W : Wd} {n : Nat} {A : Around} {s₀ s s' : Shared} {g₀ g g' : Vis} {R R' : List (Addr × Obj)} {env : Env} {V V' : Vars}
theorem St.permR (x : St W n A s₀ g₀ R env V g s) (p : R.Perm R') : St W n A s₀ g₀ R' env V g s := by
  obtain ⟨m, cm, F⟩ := x.fr
  refine ⟨x.aok, x.frs, x.hdF, x.same, x.keep, x.old, x.base, x.sub, x.top, x.frv, fun q hq => x.rest q (p.mem_iff.mpr hq), (p.map _).nodup_iff.mp x.rnd, m, cm, F.ns, F.gL, F.L0, F.cell, F.gC, F.nLC, F.apart, F.C0, F.fL, fun z sl e => ?_, F.sep⟩
  obtain ⟨u, hu, ok⟩ := F.vars z sl e
  exact ⟨u, hu, ok.mono (fun _ _ e => e) fun b ob hb hbo hh => ⟨hbo, hh.gv, hh.nL, hh.nC, fun q hq => hh.nR q (p.mem_iff.mpr hq), hh.n0⟩⟩
end

inductive TestsR (W : Wd) (n : Nat) (sc : Scope) (V : Vars) : List Expr → Bool → Prop
  | nil : TestsR W n sc V [] true
  | one {c : Expr} {b : Bool} : EvB W n sc V c b → TestsR W n sc V [c] b
inductive CompR (W : Wd) (n : Nat) (sc : Scope) (tgt : Expr) (ifs : List Expr) (elt : Expr) (V₀ : Vars) : List D → List D → Prop
  | nil : CompR W n sc tgt ifs elt V₀ [] []
  | skip {d : D} {ds xs : List D} {V₁ : Vars} : AsR W false n sc tgt d V₀ V₁ → (∀ y sl, V₀.lookup y = some sl → V₁.lookup y = some sl) → TestsR W n sc V₁ ifs false → CompR W n sc tgt ifs elt V₀ ds xs → CompR W n sc tgt ifs elt V₀ (d :: ds) xs
  | take {d x : D} {ds xs : List D} {V₁ : Vars} : AsR W false n sc tgt d V₀ V₁ → (∀ y sl, V₀.lookup y = some sl → V₁.lookup y = some sl) → TestsR W n sc V₁ ifs true → EvE W n sc V₁ elt x → CompR W n sc tgt ifs elt V₀ ds xs → CompR W n sc tgt ifs elt V₀ (d :: ds) (x :: xs)

section
variable {W : Wd} {n : Nat} {sc : Scope}
theorem TestsR.go {A : Around} {s₀ s : Shared} {g₀ g : Vis} {R : List (Addr × Obj)} {env : Env} {V : Vars} {ifs : List Expr} {b : Bool} {Q : Bool → Shared → Prop} {E : Value → Shared → Prop} (t : TestsR W n sc V ifs b) (he : EnvOk sc env) (X : St W n A s₀ g₀ R env V g s)
    (h : ∀ s' g', Gr A s g s' g' → Q b s') : wpAny (model W.prog W.w) A (forIn ifs true fun c r => if r = true then do let ok ← isTrue c env (eval c env); pure (ForInStep.yield ok) else pure (ForInStep.yield r)) Q E s := by
  cases t with
  | nil => exact wpAny_tests_nil (h s g (Gr.refl X.sub))
  | one hc => exact wpAny_tests_one (hc A s₀ g₀ R env g s Q E he X h)

theorem comp_loop {A : Around} {s₀ s : Shared} {g₀ g : Vis} {R R₁ : List (Addr × Obj)} {cenv : Env} {V₀ : Vars} {tgt elt iter : Expr} {ifs : List Expr} {scope : Scope} {pos : Pos} {it : Value} {S : Vis → List D → List (Addr × Obj) → Prop} {ds out : List D} {Da : Addr} {k : Nat} {acc : List Value} {xs : List D} {RR : Result → Shared → Prop}
    (he : EnvOk sc cenv) (hfr : cenv.frame ≠ some cenv.locals) (I : Itr W n it tgt S) (hc : CompR W n sc tgt ifs elt V₀ ds out) (hsz : xs.length + out.length ≤ sizeLine) (X : St W n A s₀ g₀ (R₁ ++ ((Da, lob acc k) :: R)) cenv V₀ g s) (hS : S g ds R₁) (ha : RDs W g acc xs)
    (hR : ∀ g' s' acc' k', (∀ b o, g b = some o → g' b = some o) → St W n A s₀ g₀ ((Da, lob acc' k') :: R) cenv V₀ g' s' → RDs W g' acc' (xs ++ out) → RR (.ok .next) s') :
    codeAny (model W.prog W.w) A (.compLoop (.ListComp elt [⟨tgt, iter, ifs, 0⟩] scope pos) 0 it (.ref Da) cenv) RR s := by
  refine codeAny_compLoop_every (fun j s' => ∃ g' R₂ acc' k' ds' out' xs', j = ds'.length ∧ CompR W n sc tgt ifs elt V₀ ds' out' ∧ xs' ++ out' = xs ++ out ∧ (∀ b o, g b = some o → g' b = some o) ∧ St W n A s₀ g₀ (R₂ ++ ((Da, lob acc' k') :: R)) cenv V₀ g' s' ∧ S g' ds' R₂ ∧ RDs W g' acc' xs') ?_ ds.length
    ⟨g, R₁, acc, k, ds, out, xs, rfl, hc, rfl, fun _ _ e => e, X, hS, ha⟩
  rintro j s1 ⟨g1, R₂, acc1, k1, ds1, out1, xs1, rfl, hc1, hxs, m1, X1, hS1, ha1⟩
  have pres : ∀ p ∈ R₂, s1.heap.get? p.1 = some p.2 := fun p hp => (X1.rest p (List.mem_append_left _ hp)).1
  have nd : (R₂.map (·.1)).Nodup := by have := X1.rnd; rw [List.map_append, List.nodup_append] at this; exact this.1
  have turn : ∀ {d : D} {ds2 : List D} {b : Bool} {V₁ : Vars} {Q : Prop} (hS1 : S g1 (d :: ds2) R₂) (ht : AsR W false n sc tgt d V₀ V₁) (hV : ∀ y sl, V₀.lookup y = some sl → V₁.lookup y = some sl) (hb : TestsR W n sc V₁ ifs b)
      {E : Value → Shared → Prop} {K : Bool → Shared → Prop} (hK : ∀ s4 g4 R₃, (∀ b o, g1 b = some o → g4 b = some o) → St W n A s₀ g₀ (R₃ ++ ((Da, lob acc1 k1) :: R)) cenv V₁ g4 s4 → S g4 ds2 R₃ → K b s4),
      wpAny (model W.prog W.w) A (pyNext it) (fun r s₁ => match r with
        | none => RR (.ok .next) s₁
        | some v => wpAny (model W.prog W.w) A (letOwnedTupleGo tgt it v) (fun _ s₁' => wpAny (model W.prog W.w) A (assign tgt cenv v) (fun _ s₂ =>
          wpAny (model W.prog W.w) A (forIn ifs true fun c r => if r = true then do let ok ← isTrue c cenv (eval c cenv); pure (ForInStep.yield ok) else pure (ForInStep.yield r)) K E s₂) E s₁') E s₁) E s1 := by
    intro d ds2 b V₁ _ hS1 ht hV hb E K hK
    refine wpAny_mono (I.nxt A g1 s1 d ds2 R₂ (fun v s₂ => wpAny (model W.prog W.w) A (assign tgt cenv v) (fun _ s₂ =>
          wpAny (model W.prog W.w) A (forIn ifs true fun c r => if r = true then do let ok ← isTrue c cenv (eval c cenv); pure (ForInStep.yield ok) else pure (ForInStep.yield r)) K E s₂) E s₂) E X1.aok X1.sub hS1 (fun p hp => ⟨pres p hp, (X1.rest p (List.mem_append_left _ hp)).2.1⟩) nd fun v h' tk R₃ g2 ha3 nd3 pr3 hk old sub rv hS3 => ?_) (fun r s2 hr => ?_) fun _ _ e => e
    · have X2 := X1.turnR (g' := g2) hk ha3 nd3 pr3 old sub (tk := tk)
      have m2 : ∀ b o, g1 b = some o → g2 b = some o := fun b o e => (old b o (X1.sub b o e)).trans e
      refine ht A s₀ g₀ _ cenv g2 _ v _ E ⟨he, fun z => by cases z⟩ X2 rv fun g3 s3 m3 X3 => ?_
      exact hb.go he X3 fun s4 g4 G4 => hK s4 g4 R₃ (fun b o e => G4.vis X3.sub b o (m3 b o (m2 b o e))) (X3.gr G4) (I.mono _ _ _ _ (fun b o e => G4.vis X3.sub b o (m3 b o e)) hS3)
    · obtain ⟨v, rfl, hv⟩ := hr
      exact hv
  cases hc1 with
  | nil =>
    refine I.fin A g1 s1 R₂ _ _ X1.aok X1.sub hS1 pres nd fun h' tk hk => ?_
    have hD : Da ∉ R₂.map (·.1) := fun hm => by
      have := X1.rnd
      rw [List.map_append, List.nodup_append] at this
      exact this.2.2 _ hm Da (by simp) rfl
    have X2 := X1.turnR (R₂ := []) (g' := g1) (tk := tk) hk (fun p hp => by cases hp) List.nodup_nil (fun p hp => by cases hp) (fun _ _ _ => rfl) fun b o e => hk b o (fun hm => by
      obtain ⟨p, hp, rfl⟩ := List.mem_map.mp hm
      have := (X1.rest p (List.mem_append_left _ hp)).2.1
      rw [this] at e; cases e) (X1.sub b o e)
    exact hR g1 _ acc1 k1 m1 X2 (by rw [← hxs, List.append_nil]; exact ha1)
  | skip ht hV hb hrest =>
    refine turn (Q := True) hS1 ht hV hb fun s4 g4 R₃ m4 X4 hS4 => ?_
    rw [if_neg (by decide)]
    exact ⟨_, by simp, g4, R₃, acc1, k1, _, _, xs1, rfl, hrest, hxs, fun b o e => m4 b o (m1 b o e), X4.subV hV, hS4, ha1.mono m4⟩
  | take ht hV hb hx hrest =>
    refine turn (Q := True) hS1 ht hV hb fun s4 g4 R₃ m4 X4 hS4 => ?_
    rw [if_pos rfl]
    refine hx A s₀ g₀ _ cenv g4 s4 _ _ he X4 fun v s5 g5 G5 r5 => ?_
    have X5 := X4.gr G5
    have X6 := X5.permR (R' := [(Da, lob acc1 k1)] ++ (R₃ ++ R)) (by simpa using List.perm_middle)
    have hD := X6.rest (Da, lob acc1 k1) (by simp)
    have l1 : acc1.length = xs1.length := ha1.1
    have l2 := congrArg List.length hxs
    refine wpAny_list_append_plain (items := acc1.toArray) ⟨k1, hD.1⟩ (fun h' hl hs => ?_) (by simp only [List.size_toArray, l1]; simp only [List.length_append, List.length_cons] at l2; omega)
    obtain ⟨k2, hl⟩ := hl
    have X7 := X6.turnR (R₂ := [(Da, lob (acc1 ++ [v]) k2)]) (g' := g5) (tk := s5.toks) (h' := h') (fun b o hb e => (hs.2 b (by simpa using hb)).trans e) (by simp) (by simp) (by
      intro p hp
      rw [List.mem_singleton] at hp
      subst hp
      rw [hl]
      simp [lob]) (fun _ _ _ => rfl) fun b o e => (hs.2 b (fun z => by rw [z, hD.2.1] at e; cases e)).trans (X5.sub b o e)
    have X8 := X7.permR (R' := R₃ ++ ((Da, lob (acc1 ++ [v]) k2) :: R)) (by simpa using List.perm_middle.symm)
    exact ⟨_, by simp, g5, R₃, acc1 ++ [v], k2, _, _, xs1 ++ [_], rfl, hrest, by rw [List.append_assoc]; exact hxs, fun b o e => G5.vis X4.sub b o (m4 b o (m1 b o e)), X8.subV hV, I.mono _ _ _ _ (G5.vis X4.sub) hS4, RDs.snoc (ha1.mono fun b o e => G5.vis X4.sub b o (m4 b o e)) r5⟩
end
end
section
theorem closure_go (env : Env) (f : Str × NameKind → List (Str × Addr) → Sem (ForInStep (List (Str × Addr)))) (hf : ∀ x r, f x r = if x.2 == .free then (cellOf env x.1 >>= fun c => pure (.yield ((x.1, c) :: r))) else pure (.yield r)) :
    ∀ (names : List (Str × NameKind)) (acc : List (Str × Addr)), (∀ x ∈ names, x.2 = .free → ∃ c, env.cells.lookup x.1 = some c) → (∀ k c, acc.lookup k = some c → env.cells.lookup k = some c) →
      ∃ cl, forIn names acc f = pure cl ∧ (∀ k c, cl.lookup k = some c → env.cells.lookup k = some c) ∧ (∀ k c, acc.lookup k = some c → cl.lookup k = some c) ∧ (∀ x ∈ names, x.2 = .free → cl.lookup x.1 = env.cells.lookup x.1)
  | [], acc, _, ha => ⟨acc, rfl, ha, fun _ _ e => e, fun x hx => by cases hx⟩
  | x :: r, acc, h, ha => by
    by_cases hk : x.2 = .free
    · obtain ⟨c, hc⟩ := h x (.head _) hk
      have ha' : ∀ k c', ((x.1, c) :: acc).lookup k = some c' → env.cells.lookup k = some c' := fun k c' e => by
        rw [List.lookup_cons] at e
        cases hq : k == x.1 with
        | true => rw [hq] at e; cases e; rw [eq_of_beq hq]; exact hc
        | false => rw [hq] at e; exact ha k c' e
      obtain ⟨cl, e, h1, h2, h3⟩ := closure_go env f hf r ((x.1, c) :: acc) (fun y hy => h y (.tail _ hy)) ha'
      have hx : cl.lookup x.1 = env.cells.lookup x.1 := by rw [hc]; exact h2 _ _ (by simp [List.lookup_cons])
      refine ⟨cl, ?_, h1, fun k c' e' => ?_, fun y hy hf' => ?_⟩
      · have : f x acc = pure (.yield ((x.1, c) :: acc)) := by
          rw [hf, hk]
          unfold cellOf
          rw [hc]
          rfl
        rw [List.forIn_cons, this]
        exact e
      · by_cases hkx : k = x.1
        · subst hkx; rw [hx]; exact ha _ _ e'
        · refine h2 k c' ?_
          rw [List.lookup_cons]
          have : (k == x.1) = false := by simp [hkx]
          rw [this]; exact e'
      · rcases List.mem_cons.mp hy with rfl | hy
        · exact hx
        · exact h3 y hy hf'
    · obtain ⟨cl, e, h1, h2, h3⟩ := closure_go env f hf r acc (fun y hy => h y (.tail _ hy)) ha
      refine ⟨cl, ?_, h1, h2, fun y hy hf' => ?_⟩
      · have : f x acc = pure (.yield acc) := by
          rw [hf, if_neg (by simpa using hk)]
        rw [List.forIn_cons, this]
        exact e
      · rcases List.mem_cons.mp hy with rfl | hy
        · exact absurd hf' hk
        · exact h3 y hy hf'
theorem closureFor_ok (env : Env) (scope : Scope) (h : ∀ x ∈ scope.names, x.2 = .free → ∃ c, env.cells.lookup x.1 = some c) :
    ∃ cl, closureFor scope env = pure cl ∧ (∀ k c, cl.lookup k = some c → env.cells.lookup k = some c) ∧ (∀ x ∈ scope.names, x.2 = .free → cl.lookup x.1 = env.cells.lookup x.1) := by
  unfold closureFor
  obtain ⟨cl, e, h1, -, h3⟩ := closure_go env _ (fun x r => rfl) scope.names [] h (fun k c e => by cases e)
  refine ⟨cl, ?_, h1, h3⟩
  show (forIn scope.names [] _ >>= fun r => pure r) = _
  rw [e]
  rfl

noncomputable def relabelS (scope sc : Scope) : Scope :=
  { scope with names := scope.names.map fun (n, k) => if (k == .free && sc.kind == .function && sc.names.lookup n == some .cell) then (n, .cell) else (n, k) }
theorem relabelS_eq {scope sc : Scope} {env : Env} (he : env.scope = sc) : relabel scope env = relabelS scope sc := by subst he; rfl

/-- what a comprehension's scope must be like -/
structure CompSc (scope sc : Scope) (V V₀ : Vars) : Prop where
  kind : scope.kind = .function
  cell : ∀ y ∈ scope.names, y.2 ≠ .cell
  names : ∀ y ∈ scope.names, y.2 = .local → scope.names.lookup y.1 = some .local
  free : ∀ y ∈ scope.names, y.2 = .free → sc.names.lookup y.1 = some .cell
  cls : ∀ x, (relabelS scope sc).names.lookup x = some .cell → (x, NameKind.free) ∈ scope.names
  vars : ∀ y sl, V₀.lookup y = some sl → (∃ d, sl = .val d ∧ V.lookup y = some (.val d)) ∧ (relabelS scope sc).names.lookup y = some .cell

section
variable {W : Wd} {n : Nat} {sc : Scope}
theorem rdv_cell' {env : Env} {m cm : Str → Option Value} {y : Str} {v : Value} (hk : env.kindOf y = some .cell) (h : rdv env m cm y = some v) : ∃ c, env.cells.lookup y = some c ∧ cm y = some v := by
  unfold rdv at h
  rw [hk] at h
  dsimp only at h
  cases hc : env.cells.lookup y with
  | none => rw [hc] at h; cases h
  | some c => rw [hc] at h; exact ⟨c, rfl, h⟩

theorem comp_block {A : Around} {s₀ s : Shared} {g₀ g : Vis} {R : List (Addr × Obj)} {env : Env} {V V₀ : Vars} {tgt elt iter : Expr} {ifs : List Expr} {scope : Scope} {pos : Pos} {ds out : List D} {RR : Value → Addr → Result → Shared → Prop} {E : Value → Shared → Prop} {cl : List (Str × Addr)}
    (he : EnvOk sc env) (X : St W n A s₀ g₀ R env V g s) (hs : CompSc scope sc V V₀) (hcl1 : ∀ k c, cl.lookup k = some c → env.cells.lookup k = some c) (hcl2 : ∀ x ∈ scope.names, x.2 = .free → cl.lookup x.1 = env.cells.lookup x.1)
    (hi : EvI W n sc V iter tgt ds) (hc : CompR W n (relabelS scope sc) tgt ifs elt V₀ ds out) (hsz : out.length ≤ sizeLine)
    (hR : ∀ Da C g' s' acc k, Gr A s g s' g' → s.heap.get? Da = none → s'.heap.get? Da = some (lob acc k) → g' Da = none → RDs W g' acc out → C ≠ Da → s.heap.get? C = none → g' C = none → (∃ m, s'.heap.Ns C m) → RR (.ref Da) C (.ok .next) s') :
    wpAny (model W.prog W.w) A (eval iter env) (fun x s₁ => wpAny (model W.prog W.w) A (pyIter x) (fun it s₂ => wpAny (model W.prog W.w) A (newList []) (fun acc s₃ => wpAny (model W.prog W.w) A (newFunctionEnv scope env.globals cl [] env.qual none .none (some env)) (fun cenv s₄ =>
      codeAny (model W.prog W.w) A (.compStart (.ListComp elt [⟨tgt, iter, ifs, 0⟩] scope pos) 0 it acc { cenv with scope := relabel scope env }) (RR acc cenv.locals) s₄) E s₃) E s₂) E s₁) E s := by
  refine hi A s₀ g₀ R env g s _ E he X fun it s2 g2 R₁ S G2 I hS hR₁ nd₁ => ?_
  have X2 := X.gr G2
  refine wpAny_newObj_type (wpAny_newFunctionEnv hs.cell (by intro y hy; simp at hy) (fun h₁ hns₁ hsb₁ => ?_) hs.kind)
  dsimp only at hns₁ hsb₁ ⊢
  generalize hH2 : s2.heap.push { cls := .type "list", dict := none, data := .seq ([] : List Value).toArray } = H2 at hns₁ hsb₁ ⊢
  have hC : H2.objs.size = s2.heap.objs.size + 1 := by rw [← hH2, Heap.size_push]
  generalize hDa : s2.heap.objs.size = Da at hC ⊢
  generalize hCa : H2.objs.size = C at hns₁ hsb₁ hC ⊢
  have nD : s2.heap.get? Da = none := Heap.get?_none_of_le (Nat.le_of_eq hDa)
  have nC : s2.heap.get? C = none := Heap.get?_none_of_le (by rw [hC, hDa]; exact Nat.le_succ _)
  have hDC : Da ≠ C := by rw [hC]; exact Nat.ne_of_lt (Nat.lt_succ_self _)
  have below : ∀ b o, s2.heap.get? b = some o → b ≠ C ∧ b ≠ Da := fun b o e => ⟨fun z => (by rw [z, nC] at e; cases e), fun z => (by rw [z, nD] at e; cases e)⟩
  have old : ∀ b o, s2.heap.get? b = some o → h₁.get? b = some o := fun b o e => hsb₁.extBut b o (below b o e).1 (Heap.get?_push_of_some _ (hH2 ▸ Heap.get?_push_of_some _ e))
  have hacc : h₁.get? Da = some (lob [] 0) := hsb₁.extBut _ _ hDC (Heap.get?_push_of_some _ (hH2 ▸ hDa ▸ Heap.get?_push_size _ rfl))
  have s0n : ∀ b, s2.heap.get? b = none → s.heap.get? b = none := fun b e => by
    cases q : s.heap.get? b with
    | none => rfl
    | some o => exact ((G2.keep _ _ q).ne (by assumption)).elim
  obtain ⟨m, cm, F⟩ := X.fr
  obtain ⟨m2, cm2, F2⟩ := X2.fr
  obtain ⟨oL, esL, epL, hL, hLd, _⟩ := id F.ns
  let cenv : Env := compEnvC scope cl C env
  have hcs : cenv.scope = relabelS scope sc := relabelS_eq he.scope
  have hck : ∀ x, cenv.kindOf x = (relabelS scope sc).names.lookup x := fun x => by unfold Env.kindOf; rw [hcs]
  have eok : EnvOk (relabelS scope sc) cenv := ⟨hcs, hs.kind, he.glob, he.blt, fun x hx => by
    have hm := hs.cls x hx
    obtain ⟨c, hc⟩ := he.cls x (hs.free _ hm rfl)
    exact ⟨c, (hcl2 _ hm rfl).trans hc⟩⟩
  obtain ⟨h2, t2, e2⟩ := G2.same
  have gn2 : ∀ b, s2.heap.get? b = none → g2 b = none := fun b e => by
    cases q : g2 b with
    | none => rfl
    | some o => have := G2.sub b o q; rw [e] at this; cases this
  obtain ⟨LF, hLF, hLF'⟩ := F.fL
  have hLC : some LF ≠ some C := by
    intro e; cases e
    rcases hLF' with e | ⟨o, e⟩
    · rw [e] at nC; obtain ⟨sl, q⟩ := (G2.keep _ _ hL).some; exact (below _ _ q).1 e.symm
    · obtain ⟨sl, q⟩ := ((X.keep _ _ e).trans G2.keep).some; exact (below _ _ q).1 rfl
  have X3 : St W n A s g (R₁ ++ ((Da, lob [] 0) :: [])) cenv V₀ g2 { s2 with heap := h₁, toks := s2.toks + ([] : List (Str × Value)).length } := by
    refine ⟨X.aok, ?_, fun z => absurd (hLF.symm.trans z) hLC, ⟨h₁, s2.toks + 0, by rw [e2]; rfl⟩, fun b o e => (G2.keep b o e).trans fun b o e => .inl (old b o e), G2.old, X.topKeep, fun b o e => old b o (G2.sub b o e), X2.top, X2.frv, fun p hp => ?_, ?_, fun x => ([] : List (Str × Value)).reverse.lookup x, cm, ?_⟩
    · obtain ⟨outer, h1, h3⟩ := X.frs
      refine ⟨outer, h1, fun e hm => ?_⟩
      obtain ⟨hk, L', hf, hn, hc⟩ := h3 e hm
      refine ⟨hk, L', hf, hn, .inr ?_⟩
      rcases hc with hc | ⟨o, ho, hd⟩
      · cases hc; exact ⟨oL, hL, fun vs => by rw [hLd]; exact fun z => by cases z⟩
      · obtain ⟨sl, q⟩ := (X.keep _ _ ho).some; exact ⟨_, q, hd⟩
    · rcases List.mem_append.mp hp with hp | hp
      · obtain ⟨a1, a2, a3⟩ := hR₁ p hp
        refine ⟨old _ _ a2, a3, a1, (below _ _ a2).1, fun k c e => ?_⟩
        obtain ⟨o, ho, _⟩ := F.cell k c (hcl1 k c e)
        intro z; rw [z, ho] at a1; cases a1
      · rw [List.mem_singleton] at hp
        subst hp
        refine ⟨hacc, gn2 _ nD, s0n _ nD, hDC, fun k c e => ?_⟩
        obtain ⟨o, ho, _⟩ := F2.cell k c (hcl1 k c e)
        exact Ne.symm (below _ _ ho).2
    · rw [List.map_append, List.nodup_append]
      refine ⟨nd₁, by simp, fun a ha b hb => ?_⟩
      obtain ⟨p, hp, rfl⟩ := List.mem_map.mp ha
      simp only [List.map_cons, List.map_nil, List.mem_singleton] at hb
      rw [hb]
      exact (below _ _ (hR₁ p hp).2.1).2
    · refine ⟨hns₁, gn2 _ nC, s0n _ nC, fun k c e => cell_kept (A := A) (fun b o e => (G2.keep b o e).trans fun b o e => .inl (old b o e)) (F.cell k c (hcl1 k c e)), fun k c e => F2.gC k c (hcl1 k c e), fun k c e => ?_, fun k k' c e e' => F.apart k k' c (hcl1 _ _ e) (hcl1 _ _ e'), fun z => ?_, ⟨LF, hLF, .inr ?_⟩, fun y sl e => ?_, fun x y sl sl' v v' b hxy e1 e2 r1 r2 b1 => ?_⟩
      · obtain ⟨o, ho, _⟩ := F2.cell k c (hcl1 k c e)
        exact (below _ _ ho).1
      · exact absurd (hLF.symm.trans z) hLC
      · rcases hLF' with e | ⟨o, e⟩
        · exact ⟨oL, e ▸ hL⟩
        · obtain ⟨sl, q⟩ := (X.keep _ _ e).some; exact ⟨_, q⟩
      · obtain ⟨⟨d, rfl, hd⟩, hy⟩ := hs.vars y sl e
        obtain ⟨v, hv, ok⟩ := F.vars y _ hd
        have hm := hs.cls y hy
        obtain ⟨c, hc, hcm⟩ := rdv_cell' (by rw [he.kindOf]; exact hs.free _ hm rfl) hv
        refine ⟨v, ?_, NewSlot.val (y := y) (env := cenv) (V := V₀) (R := R₁) (h := h₁) (h₀ := s.heap) (ok.1.mono (G2.vis X.sub)) |>.1.1, fun b hb => ?_⟩
        · rw [rdv_cell (by rw [hck]; exact hy) ((hcl2 _ hm rfl).trans hc)]; exact hcm
        · have : hidA v (.val d) = none := by cases v <;> rfl
          rw [this] at hb; cases hb
      · obtain ⟨⟨d, rfl, hd⟩, hy⟩ := hs.vars x sl e1
        have : hidA v (.val d) = none := by cases v <;> rfl
        rw [this] at b1; cases b1
  have loop : codeAny (model W.prog W.w) A (.compLoop (.ListComp elt [⟨tgt, iter, ifs, 0⟩] scope pos) 0 it (.ref Da) cenv) (RR (.ref Da) C) { s2 with heap := h₁, toks := s2.toks + ([] : List (Str × Value)).length } := by
    refine comp_loop (xs := []) eok (fun z => hLC (hLF.symm.trans z)) I hc (by simpa using hsz) X3 hS RDs.nil fun g' s' acc' k' m' X4 ra => ?_
    obtain ⟨m4, cm4, F4⟩ := X4.fr
    have hD4 := X4.rest _ (.head _)
    exact hR Da C g' s' acc' k' ⟨X4.same, X4.keep, X4.old, X4.sub⟩ (s0n _ nD) hD4.1 hD4.2.1 ra (Ne.symm hDC) (s0n _ nC) F4.gL ⟨m4, F4.ns⟩
  refine codeAny_compStart_list loop ?_
  exact I.self A g2 _ ds R₁ _ _ hS (fun p hp => (X3.rest p (List.mem_append_left _ hp)).1) loop

theorem EvE.comp {V V₀ : Vars} {tgt elt iter : Expr} {ifs : List Expr} {scope : Scope} {pos : Pos} {ds out : List D} (hs : CompSc scope sc V V₀) (hi : EvI W n sc V iter tgt ds) (hc : CompR W n (relabelS scope sc) tgt ifs elt V₀ ds out) (hsz : out.length ≤ sizeLine)
    (hf : ∀ env x, foldedSetIterable iter env x = pure x := by intro _ _; rfl) : EvE W n sc V (.ListComp elt [⟨tgt, iter, ifs, 0⟩] scope pos) (.list out) := fun A s₀ g₀ R env g s Q E he X hq => by
  obtain ⟨cl, e, h1, h2⟩ := closureFor_ok env scope fun x hx hf => he.cls _ (hs.free x hx hf)
  rw [eval_ListComp]
  refine wpAny_comprehension_free (use := Option.none) rfl (hf env) e hs.kind hs.names ?_
  refine comp_block (RR := fun acc C => compPost (model W.prog W.w) A E Option.none Q acc C) he X hs h1 h2 hi hc hsz fun Da C g' s' acc k G nD hD gD ra hCD nC gC hn => ?_
  obtain ⟨m, hm⟩ := hn
  refine ⟨m, hm, fun h' hsb => ?_⟩
  obtain ⟨h2, t2, e2⟩ := G.same
  have gm : ∀ b o, g' b = some o → seen g' Da (lob acc k) b = some o := fun b o e => by rw [seen_ne fun z => by rw [z, gD] at e; cases e]; exact e
  refine hq _ _ (seen g' Da (lob acc k)) ⟨⟨h', s'.toks, by rw [e2]⟩, fun b o e => (G.keep b o e).but hsb (fun z => by rw [z, nC] at e; cases e), fun b o e => (seen_ne fun z => by rw [z, nD] at e; cases e).trans (G.old b o e), fun b o e => ?_⟩
    (.list Da k acc out (seen_self _ _ _) ra.1 fun i v x a b => (ra.2 i v x a b).mono gm)
  by_cases hb : b = Da
  · subst hb; rw [seen_self] at e; cases e; exact (hsb.2 _ (Ne.symm hCD)).trans hD
  · rw [seen_ne hb] at e; exact (hsb.2 b fun z => by rw [z, gC] at e; cases e).trans (G.sub b o e)
end
end
section
inductive Out : Type where
  | next (V : Vars)
  | cont (V : Vars)
  | brk (V : Vars)
  | ret (d : D)
structure Names (env : Env) (s s' : Shared) : Prop where
  ns : ∀ m, s.heap.Ns env.locals m → s'.heap.Ns env.locals m
  cell : ∀ k c v, env.cells.lookup k = some c → s.heap.IsCell c v → s'.heap.IsCell c v

section
variable (W : Wd)
noncomputable def OutOk (n : Nat) (A : Around) (s₀ : Shared) (g₀ : Vis) (R : List (Addr × Obj)) (env : Env) (g : Vis) (s : Shared) : Flow → Out → Prop
  | .next, .next V => St W n A s₀ g₀ R env V g s
  | .cont, .cont V => St W n A s₀ g₀ R env V g s
  | .brk, .brk V => St W n A s₀ g₀ R env V g s
  | .ret v, .ret d => RD W g v d ∧ ∃ V, St W n A s₀ g₀ R env V g s
  | _, _ => False
noncomputable def ExS (n : Nat) (sc : Scope) (V : Vars) (st : Stmt) (o : Out) : Prop :=
  ∀ (A : Around) (s₀ : Shared) (g₀ : Vis) (R : List (Addr × Obj)) (env : Env) (g : Vis) (s : Shared) (Q : Flow → Shared → Prop) (E : Value → Shared → Prop), EnvK true sc env → St W n A s₀ g₀ R env V g s →
    (∀ f g' s', (∀ b o, g b = some o → g' b = some o) → OutOk W n A s₀ g₀ R env g' s' f o → Q f s') → wpAny (model W.prog W.w) A (exec st env) Q E s
noncomputable def ExSs (n : Nat) (sc : Scope) (V : Vars) (l : List Stmt) (o : Out) : Prop :=
  ∀ (A : Around) (s₀ : Shared) (g₀ : Vis) (R : List (Addr × Obj)) (env : Env) (g : Vis) (s : Shared) (Q : Flow → Shared → Prop) (E : Value → Shared → Prop), EnvK true sc env → St W n A s₀ g₀ R env V g s →
    (∀ f g' s', (∀ b o, g b = some o → g' b = some o) → OutOk W n A s₀ g₀ R env g' s' f o → Q f s') → wpAny (model W.prog W.w) A (execs l env) Q E s
/-- an expression that turns a hidden thing -/
noncomputable def EvX (n : Nat) (sc : Scope) (V : Vars) (e : Expr) (d : D) (V' : Vars) : Prop :=
  ∀ (A : Around) (s₀ : Shared) (g₀ : Vis) (R : List (Addr × Obj)) (env : Env) (g : Vis) (s : Shared) (Q : Value → Shared → Prop) (E : Value → Shared → Prop), EnvOk sc env → St W n A s₀ g₀ R env V g s →
    (∀ v g' s', (∀ b o, g b = some o → g' b = some o) → St W n A s₀ g₀ R env V' g' s' → Names env s s' → RD W g' v d → Q v s') → wpAny (model W.prog W.w) A (eval e env) Q E s
/-- a fresh list -/
noncomputable def EvN (n : Nat) (sc : Scope) (V : Vars) (e : Expr) (ds : List D) : Prop :=
  ∀ (A : Around) (s₀ : Shared) (g₀ : Vis) (R : List (Addr × Obj)) (env : Env) (g : Vis) (s : Shared) (Q : Value → Shared → Prop) (E : Value → Shared → Prop), EnvOk sc env → St W n A s₀ g₀ R env V g s →
    (∀ a s' g' vs k, Gr A s g s' g' → s.heap.get? a = none → s'.heap.get? a = some (lob vs k) → g' a = none → RDs W g' vs ds → Q (.ref a) s') → wpAny (model W.prog W.w) A (eval e env) Q E s
end

section
variable {W : Wd} {n : Nat} {sc : Scope} {V V' V₁ V₂ : Vars} {o : Out}
theorem Names.trans {env : Env} {s s' s'' : Shared} (x : Names env s s') (y : Names env s' s'') : Names env s s'' := ⟨fun m h => y.ns m (x.ns m h), fun k c v e h => y.cell k c v e (x.cell k c v e h)⟩
theorem Gr.names {A : Around} {env : Env} {s s' : Shared} {g g' : Vis} (x : Gr A s g s' g') : Names env s s' := ⟨fun m h => ns_kept x.keep h, fun k c v e h => cell_kept x.keep h⟩
theorem Frame.rdv_eq {env : Env} {R R' : List (Addr × Obj)} {V V' : Vars} {g g' : Vis} {h h' h₀ h₀' : Heap} {m cm m' cm' : Str → Option Value} (F : Frame W R env V g h h₀ m cm) (F' : Frame W R' env V' g' h' h₀' m' cm') (hn : h'.Ns env.locals m) (hc : ∀ k c, env.cells.lookup k = some c → h'.IsCell c (cm k)) (x : Str) : rdv env m' cm' x = rdv env m cm x := by
  have e1 : m' = m := by
    obtain ⟨o, es, ep, ho, hd, _, hf⟩ := F'.ns
    obtain ⟨o', es', ep', ho', hd', _, hf'⟩ := hn
    rw [ho] at ho'; cases ho'
    rw [hd] at hd'; cases hd'
    funext z
    rw [← hf z, ← hf' z]
  subst e1
  unfold rdv
  cases hk : env.kindOf x with
  | none => rfl
  | some k =>
    cases k with
    | cell =>
      dsimp only
      cases hq : env.cells.lookup x with
      | none => rfl
      | some c =>
        dsimp only
        obtain ⟨o, ho, hd⟩ := F'.cell x c hq
        obtain ⟨o', ho', hd'⟩ := hc x c hq
        rw [ho] at ho'; cases ho'
        rw [hd] at hd'
        injection hd'
    | _ => rfl
theorem HidAt.names {A : Around} {s₀ s s' : Shared} {g₀ g g' : Vis} {R : List (Addr × Obj)} {env : Env} {y : Str} {v : Value} {sl : Slot} {b : Addr} {q : Obj} (h : HidAt W R env V g s s₀ y v sl b q) (N : Names env s s') (X : St W n A s₀ g₀ R env V' g' s') (hl : V'.lookup y = some sl) : ∃ q', HidAt W R env V' g' s' s₀ y v sl b q' := by
  obtain ⟨⟨m, cm, F, h1⟩, h2, h3, h4, h5, h6, h7⟩ := h
  obtain ⟨m', cm', F'⟩ := X.fr
  obtain ⟨u, hu, ok⟩ := F'.vars y sl hl
  have e := F.rdv_eq F' (N.ns _ F.ns) (fun k c e => N.cell k c _ e (F.cell k c e)) y
  have hu0 := hu
  rw [e, h1] at hu
  cases hu
  obtain ⟨o', ho', hk', hh'⟩ := ok.2 b h4
  exact ⟨o', ⟨m', cm', F', hu0⟩, hl, ok.1, h4, ho', hk', hh'⟩

theorem EvX.of {e : Expr} {d : D} (h : EvE W n sc V e d) : EvX W n sc V e d V := fun A s₀ g₀ R env g s Q E he X hq => h A s₀ g₀ R env g s Q E he X fun v s' g' G r => hq v g' s' (G.vis X.sub) (X.gr G) G.names r

theorem ExSs.nil : ExSs W n sc V [] (.next V) := fun A s₀ g₀ R env g s Q E he X h => wpAny_execs_nil (h .next g s (fun _ _ e => e) X)
theorem ExSs.cons {st : Stmt} {rest : List Stmt} (h1 : ExS W n sc V st (.next V₁)) (h2 : ExSs W n sc V₁ rest o) : ExSs W n sc V (st :: rest) o := fun A s₀ g₀ R env g s Q E he X h =>
  wpAny_execs_cons (h1 A s₀ g₀ R env g s _ E he X fun f g1 s1 m1 X1 => by
    cases f with
    | next => exact h2 A s₀ g₀ R env g1 s1 Q E he X1 fun f g2 s2 m2 X2 => h f g2 s2 (fun b o e => m2 b o (m1 b o e)) X2
    | _ => exact X1.elim)
theorem ExSs.stop {st : Stmt} {rest : List Stmt} (h1 : ExS W n sc V st o) (ho : ∀ V', o ≠ .next V') : ExSs W n sc V (st :: rest) o := fun A s₀ g₀ R env g s Q E he X h =>
  wpAny_execs_cons (h1 A s₀ g₀ R env g s _ E he X fun f g1 s1 m1 X1 => by
    cases f with
    | next => cases o with
      | next V' => exact absurd rfl (ho V')
      | _ => exact X1.elim
    | _ => exact h _ g1 s1 m1 X1)
theorem ExSs.ret {st : Stmt} {rest : List Stmt} {d : D} (h1 : ExS W n sc V st (.ret d)) : ExSs W n sc V (st :: rest) (.ret d) := ExSs.stop h1 fun _ h => by cases h
theorem ExSs.sub {l : List Stmt} (h : ExSs W n sc V' l o) (hs : ∀ y sl, V'.lookup y = some sl → V.lookup y = some sl) : ExSs W n sc V l o := fun A s₀ g₀ R env g s Q E he X hq => h A s₀ g₀ R env g s Q E he (X.subV hs) hq
theorem ExSs.freeze {l : List Stmt} {y : Str} {xs : List D} (hy : V.lookup y = some (.own xs)) (h : ExSs W n sc (setV V y (.val (.list xs))) l o) : ExSs W n sc V l o := fun A s₀ g₀ R env g s Q E he X hq => by
  obtain ⟨g', m, X'⟩ := X.freeze hy
  exact h A s₀ g₀ R env g' s Q E he X' fun f g2 s2 m2 X2 => hq f g2 s2 (fun b o e => m2 b o (m b o e)) X2
noncomputable def Flat : D → Bool
  | .none | .bool _ | .int _ | .str _ | .gl _ => true
  | _ => false
theorem RD.flat {g g' : Vis} {v : Value} {d : D} (h : RD W g v d) (hf : Flat d = true) : RD W g' v d := by
  cases h with
  | none => exact .none
  | bool b => exact .bool b
  | int i t => exact .int i t
  | str x t => exact .str x t
  | gl x v hv => exact .gl x v hv
  | _ => cases hf
/-- reading one's own list: the answer holds no part of it -/
theorem unfreeze {A : Around} {s₀ s : Shared} {g₀ g : Vis} {R : List (Addr × Obj)} {env : Env} {y : Str} {xs : List D} (X : St W n A s₀ g₀ R env V g s) (hy : V.lookup y = some (.own xs)) :
    ∃ gp, St W n A s₀ g₀ R env (setV V y (.val (.list xs))) gp s ∧ ∀ s' g', Gr A s gp s' g' → ∃ g'', Gr A s g s' g'' := by
  obtain ⟨a, vs, k, ho, hg, X'⟩ := X.freeze' hy
  refine ⟨_, X', fun s' g' G => ⟨fun b => if b = a then none else g' b, G.same, G.keep, fun b o e => ?_, fun b o e => ?_⟩⟩
  · by_cases hb : b = a
    · simp [hb, hg]
    · simp only [if_neg hb]; rw [G.old b o e, seen_ne hb]
  · by_cases hb : b = a
    · simp [hb] at e
    · simp only [if_neg hb] at e; exact G.sub b o e
theorem EvE.unfreeze {e : Expr} {d : D} {y : Str} {xs : List D} (hy : V.lookup y = some (.own xs)) (h : EvE W n sc (setV V y (.val (.list xs))) e d) (hf : Flat d = true) : EvE W n sc V e d := fun A s₀ g₀ R env g s Q E he X hq => by
  obtain ⟨gp, X', back⟩ := Mine.unfreeze X hy
  exact h A s₀ g₀ R env gp s Q E he X' fun v s' g' G r => by
    obtain ⟨g'', G'⟩ := back s' g' G
    exact hq v s' g'' G' (r.flat hf)
theorem EvB.unfreeze {e : Expr} {d : Bool} {y : Str} {xs : List D} (hy : V.lookup y = some (.own xs)) (h : EvB W n sc (setV V y (.val (.list xs))) e d) : EvB W n sc V e d := fun A s₀ g₀ R env g s Q E he X hq => by
  obtain ⟨gp, X', back⟩ := Mine.unfreeze X hy
  exact h A s₀ g₀ R env gp s Q E he X' fun s' g' G => by
    obtain ⟨g'', G'⟩ := back s' g' G
    exact hq s' g'' G'

theorem EvN.list {es : List Expr} {ds : List D} {pos : Pos} (h : EvL W n sc V es ds) (hz : ds.length ≤ sizeLine := by size_fits) : EvN W n sc V (.List es pos) ds := fun A s₀ g₀ R env g s Q E he X hq =>
  wpAny_List (h A s₀ g₀ R env g s pos _ E he X fun vs s1 g1 G1 r1 => ⟨by rw [r1.1]; exact hz, by
    have X1 := X.gr G1
    have nn : s1.heap.get? s1.heap.objs.size = none := get?_size _
    have n0 : s.heap.get? s1.heap.objs.size = none := by
      cases q : s.heap.get? s1.heap.objs.size with
      | none => rfl
      | some o => exact ((G1.keep _ _ q).ne (by assumption)).elim
    refine hq _ _ g1 vs 0 (G1.trans (Gr.allocHid X1.sub (lob vs 0))) n0 (Heap.get?_push_size _ rfl) ?_ r1
    cases q : g1 s1.heap.objs.size with
    | none => rfl
    | some o => have := X1.sub _ _ q; rw [nn] at this; cases this⟩)
theorem EvN.add {l r : Expr} {pos : Pos} {as bs : List D} (hl : EvE W n sc V l (.list as)) (hr : EvE W n sc V r (.list bs)) (hz : as.length + bs.length ≤ sizeLine := by size_fits) : EvN W n sc V (.BinOp l .Add r pos) (as ++ bs) := fun A s₀ g₀ R env g s Q E he X hq =>
  wpAny_BinOp (hl A s₀ g₀ R env g s _ E he X fun va s1 g1 G1 r1 => hr A s₀ g₀ R env g1 s1 _ E he (X.gr G1) fun vb s2 g2 G2 r2 => by
    have X2 := (X.gr G1).gr G2
    obtain ⟨a, k, vs, rfl, ha, ra⟩ := (r1.mono (G2.vis (X.gr G1).sub)).of_list
    obtain ⟨b, k', us, rfl, hb, rb⟩ := r2.of_list
    refine P.add_list (X2.sub _ _ ha) (X2.sub _ _ hb) ?_ (by simp [ra.1, rb.1]; exact hz)
    have G := G1.trans G2
    have nn : s2.heap.get? s2.heap.objs.size = none := get?_size _
    have n0 : s.heap.get? s2.heap.objs.size = none := by
      cases q : s.heap.get? s2.heap.objs.size with
      | none => rfl
      | some o => exact ((G.keep _ _ q).ne (by assumption)).elim
    rw [show ({ cls := .type "list", data := .seq (vs.toArray ++ us.toArray) } : Obj) = lob (vs ++ us) 0 by simp [lob]]
    refine hq _ _ g2 (vs ++ us) 0 (G.trans (Gr.allocHid X2.sub (lob (vs ++ us) 0))) n0 (Heap.get?_push_size _ rfl) ?_ (RDs.append ra rb)
    cases q : g2 s2.heap.objs.size with
    | none => rfl
    | some o => have := X2.sub _ _ q; rw [nn] at this; cases this)
end
end
section
section
variable {W : Wd} {n : Nat} {sc : Scope} {V V' V₁ V₂ : Vars} {o : Out}

theorem ExS.assign {tgt e : Expr} {pos : Pos} {d : D} (h1 : EvX W n sc V e d V₁) (h2 : AsR W true n sc tgt d V₁ V₂) (ht : ∀ env, (assignEach [tgt] env).map (·.2) = [assign tgt env] := by intro _; rfl)
    (hs : ∀ env, swapsWithSole [tgt] e pos.line env = pure false := by intro _; rfl) (hw : ∀ env, swappedStores [tgt] e env = pure Option.none := by intro _; rfl) : ExS W n sc V (.Assign [tgt] e pos) (.next V₂) := fun A s₀ g₀ R env g s Q E he X h =>
  wpAny_Assign_stores (h1 A s₀ g₀ R env g s _ E he.toEnvOk X fun v g1 s1 m1 X1 N r => by
    rw [ht]
    exact h2 A s₀ g₀ R env g1 s1 v _ E he X1 r fun g2 s2 m2 X2 => h .next g2 s2 (fun b o e => m2 b o (m1 b o e)) X2) (hs env) (hw env)
theorem ExS.let {x : Str} {xp : Pos} {e : Expr} {pos : Pos} {d : D} (h1 : EvE W n sc V e d) (hk : sc.names.lookup x = some .local)
    (hs : ∀ env, swapsWith e (some (.Name x xp)) pos.line env = pure false := by intro _; rfl) : ExS W n sc V (.Assign [.Name x xp] e pos) (.next (setV V x (.val d))) := fun A s₀ g₀ R env g s Q E he X h =>
  wpAny_Assign_Name (h1 A s₀ g₀ R env g s _ E he.toEnvOk X fun v s1 g1 G1 r => store_local he.toEnvOk hk (X.gr G1) (NewSlot.val r) fun s2 X2 => h .next g1 s2 (G1.vis X.sub) X2) (hs env)
theorem ExS.letCell {x : Str} {xp : Pos} {e : Expr} {pos : Pos} {d : D} (h1 : EvE W n sc V e d) (hk : sc.names.lookup x = some .cell)
    (hs : ∀ env, swapsWith e (some (.Name x xp)) pos.line env = pure false := by intro _; rfl) : ExS W n sc V (.Assign [.Name x xp] e pos) (.next (setV V x (.val d))) := fun A s₀ g₀ R env g s Q E he X h =>
  wpAny_Assign_Name (h1 A s₀ g₀ R env g s _ E he.toEnvOk X fun v s1 g1 G1 r => store_cell he hk (X.gr G1) (NewSlot.val r) fun s2 X2 => h .next g1 s2 (G1.vis X.sub) X2) (hs env)
theorem NewSlot.own {A : Around} {s₀ s s' : Shared} {g₀ g g' : Vis} {R : List (Addr × Obj)} {env : Env} {x : Str} {a : Addr} {vs : List Value} {k : Nat} {ds : List D} (X : St W n A s₀ g₀ R env V g s) (G : Gr A s g s' g') (h0 : s.heap.get? a = none) (h1 : s'.heap.get? a = some (lob vs k)) (hg : g' a = none) (hr : RDs W g' vs ds) :
    NewSlot W R env V g' s'.heap s₀.heap x (.ref a) (.own ds) := by
  obtain ⟨m, cm, F⟩ := X.fr
  have ne : ∀ b q, s.heap.get? b = some q → a ≠ b := fun b q e h => by rw [← h, h0] at e; cases e
  obtain ⟨oL, es, ep, hL, _⟩ := id F.ns
  have a0 : s₀.heap.get? a = none := X.none0 h0
  refine ⟨⟨⟨a, rfl⟩, fun b hb => ?_⟩, fun b hb z sl' m' cm' v' hz hl F' hv hb' => ?_⟩
  · cases hb
    exact ⟨_, h1, ⟨vs, k, rfl, hr⟩, hg, ne _ _ hL, fun i c e => by obtain ⟨oc, hc, _⟩ := F.cell i c e; exact ne _ _ hc, fun p hp => Ne.symm (ne _ _ (X.rest p hp).1), a0⟩
  · cases hb
    obtain ⟨v, hv0, ok⟩ := F.vars z sl' hl
    have e := F.rdv_eq F' (ns_kept G.keep F.ns) (fun k c e => cell_kept G.keep (F.cell k c e)) z
    rw [e, hv0] at hv
    cases hv
    obtain ⟨o', ho', -, -⟩ := ok.2 _ hb'
    exact ne _ _ ho' rfl
theorem ExS.own {x : Str} {xp : Pos} {e : Expr} {pos : Pos} {ds : List D} (h1 : EvN W n sc V e ds) (hk : sc.names.lookup x = some .local)
    (hs : ∀ env, swapsWith e (some (.Name x xp)) pos.line env = pure false := by intro _; rfl) : ExS W n sc V (.Assign [.Name x xp] e pos) (.next (setV V x (.own ds))) := fun A s₀ g₀ R env g s Q E he X h =>
  wpAny_Assign_Name (h1 A s₀ g₀ R env g s _ E he.toEnvOk X fun a s1 g1 vs k G1 h0 h2 hg r => store_local he.toEnvOk hk (X.gr G1) (NewSlot.own X G1 h0 h2 hg r) fun s2 X2 => h .next g1 s2 (G1.vis X.sub) X2) (hs env)

theorem ExS.ret {e : Expr} {pos : Pos} {d : D} (h1 : EvE W n sc V e d) : ExS W n sc V (.Return (some e) pos) (.ret d) := fun A s₀ g₀ R env g s Q E he X h =>
  wpAny_Return_some (h1 A s₀ g₀ R env g s _ E he.toEnvOk X fun v s1 g1 G1 r => h (.ret v) g1 s1 (G1.vis X.sub) ⟨r, V, X.gr G1⟩)
theorem ExS.brk {pos : Pos} : ExS W n sc V (.Break pos) (.brk V) := fun A s₀ g₀ R env g s Q E he X h => wpAny_Break (h .brk g s (fun _ _ e => e) X)
theorem ExS.ite {t : Expr} {b e : List Stmt} {pos : Pos} {q : Bool} (ht : EvB W n sc V t q) (hb : q = true → ExSs W n sc V b o) (he : q = false → ExSs W n sc V e o) : ExS W n sc V (.If t b e pos) o := fun A s₀ g₀ R env g s Q E hv X h =>
  wpAny_If (ht A s₀ g₀ R env g s _ E hv.toEnvOk X fun s1 g1 G1 => by
    cases q with
    | true => exact hb rfl A s₀ g₀ R env g1 s1 Q E hv (X.gr G1) fun f g2 s2 m2 X2 => h f g2 s2 (fun b o e => m2 b o (G1.vis X.sub b o e)) X2
    | false => exact he rfl A s₀ g₀ R env g1 s1 Q E hv (X.gr G1) fun f g2 s2 m2 X2 => h f g2 s2 (fun b o e => m2 b o (G1.vis X.sub b o e)) X2)
theorem ExS.expr {e : Expr} {pos : Pos} {d : D} (h1 : EvX W n sc V e d V₁) (hi : ∀ env, EnvK true sc env → interactive env = false) (hs : ∀ env, swapsWith e Option.none pos.line env = pure false := by intro _; rfl) : ExS W n sc V (.Expr e pos) (.next V₁) := fun A s₀ g₀ R env g s Q E he X h =>
  wpAny_Expr_any (h1 A s₀ g₀ R env g s _ E he.toEnvOk X fun v g1 s1 m1 X1 N r => h .next g1 s1 m1 X1) (hi env he) (hs env)

/-- x op= e, and the answer is a value -/
theorem ExS.aug {x : Str} {xp : Pos} {op : Operator} {e : Expr} {pos : Pos} {a b d : D} (hx : V.lookup x = some (.val a)) (h1 : EvE W n sc V e b) (ho : InpR W n op a b d) (hk : sc.names.lookup x = some .local) : ExS W n sc V (.AugAssign (.Name x xp) op e pos) (.next (setV V x (.val d))) := fun A s₀ g₀ R env g s Q E he X h =>
  wpAny_AugAssign_Name (load_var he.toEnvOk X hx fun va m cm F _ ok => h1 A s₀ g₀ R env g s _ E he.toEnvOk X fun vb s1 g1 G1 r1 => ho A g1 s1 va vb (X.gr G1).sv (RD.mono (G1.vis X.sub) ok.1) r1 _ E fun v s2 g2 G2 r2 =>
    store_local he.toEnvOk hk ((X.gr G1).gr G2) (NewSlot.val r2) fun s3 X3 => h .next g2 s3 ((G1.trans G2).vis X.sub) X3)

theorem load_hid {A : Around} {s₀ s : Shared} {g₀ g : Vis} {R : List (Addr × Obj)} {env : Env} {y : Str} {sl : Slot} {Q E : Value → Shared → Prop} (he : EnvOk sc env) (X : St W n A s₀ g₀ R env V g s) (hv : V.lookup y = some sl) (hs : ∀ v, KVal W g v sl → ∃ b, hidA v sl = some b)
    (h : ∀ v b q, HidAt W R env V g s s₀ y v sl b q → Q v s) : wpAny (model W.prog W.w) A (loadName env y) Q E s := by
  refine load_var he X hv fun v m cm F e ok => ?_
  obtain ⟨b, hb⟩ := hs v ok.1
  obtain ⟨q, ho, hk, hh⟩ := ok.2 b hb
  exact h v b q ⟨⟨m, cm, F, e⟩, hv, ok.1, hb, ho, hk, hh⟩

theorem tinstList {s : Shared} {a : Addr} {vs : List Value} {k : Nat} (h : s.heap.get? a = some (lob vs k)) : s.TypeIs (.ref a) "list" := ⟨_, h, rfl⟩

/-- a method of one's own list -/
theorem EvX.method {y : Str} {yp ap pos : Pos} {name : Str} {id : String} {args : List Expr} {xs : List D} {d : D} (hy : V.lookup y = some (.own xs)) (slot : PySem.Slot "list" name id) (hty : typeOf (.builtin id) = pure (.type "method_descriptor"))
    (hfew : ∀ env, ((backTo pos (starEach args env)).all (fun x => !x.1) && (backToKw pos (keywordEach [] env)).all (fun x => x.1.isSome) && decide (args.length + ([] : List Keyword).length + (if ([] : List Keyword).isEmpty then 0 else 1) < 30)) = true) (hline : (ap.endLine == pos.line) = true) (hd : (y == ("__debug__" : Str)) = false)
    (h : ∀ (A : Around) (s₀ : Shared) (g₀ : Vis) (R : List (Addr × Obj)) (env : Env) (g : Vis) (s : Shared) (Q : Value → Shared → Prop) (E : Value → Shared → Prop) (a : Addr) (q : Obj), EnvOk sc env → St W n A s₀ g₀ R env V g s → HidAt W R env V g s s₀ y (.ref a) (.own xs) a q →
      (∀ v g' s', (∀ b o, g b = some o → g' b = some o) → St W n A s₀ g₀ R env V' g' s' → Names env s s' → RD W g' v d → Q v s') → wpAny (model W.prog W.w) A (callWith pos (.builtin id) [.ref a] (backTo pos (starEach args env)) []) Q E s) :
    EvX W n sc V (.Call (.Attribute (.Name y yp) name ap) args [] pos) d V' := fun A s₀ g₀ R env g s Q E he X hq =>
  wpAny_Call_method rfl (hfew env) hline F.plainAttrs_list slot hty (wpAny_Name (load_hid he X hy hs_own fun v b q H => by
    obtain ⟨a, rfl⟩ := H.kv
    have hb := H.ha
    cases hb
    obtain ⟨vs, k, rfl, hr⟩ := H.ko
    exact ⟨tinstList H.ho, fun a' e => by cases e; exact ⟨_, H.ho, rfl⟩, h A s₀ g₀ R env g s Q E _ _ he X H hq⟩) hd)

theorem HidAt.turnN {A : Around} {s₀ s : Shared} {g₀ g : Vis} {R : List (Addr × Obj)} {env : Env} {y : Str} {xs xs' : List D} {a : Addr} {q : Obj} (H : HidAt W R env V g s s₀ y (.ref a) (.own xs) a q) (X : St W n A s₀ g₀ R env V g s) {h' : Heap} {tk : Nat} {vs' : List Value} {k' : Nat}
    (ho : h'.get? a = some (lob vs' k')) (hr : RDs W g vs' xs') (hs : Heap.SameBut a s.heap h') : St W n A s₀ g₀ R env (setV V y (.own xs')) g { s with heap := h', toks := tk } ∧ Names env s { s with heap := h', toks := tk } :=
  ⟨H.turn X ho ⟨a, rfl⟩ rfl ⟨vs', k', rfl, hr⟩ hs, fun m hn => hn.sameBut hs (Ne.symm H.hh.nL), fun k c v e hc => hc.sameBut hs (Ne.symm (H.hh.nC k c e))⟩

theorem EvX.append {y : Str} {yp ap pos : Pos} {e : Expr} {xs : List D} {d : D} (hy : V.lookup y = some (.own xs)) (he1 : EvX W n sc V e d V₁) (hy1 : V₁.lookup y = some (.own xs)) (hz : xs.length ≤ sizeLine := by size_fits)
    (htr : ∀ env, backTo pos (starEach [e] env) = [(false, eval e env)] := by intro _; rfl) (hline : (ap.endLine == pos.line) = true := by rfl) (hd : (y == ("__debug__" : Str)) = false := by decide) :
    EvX W n sc V (.Call (.Attribute (.Name y yp) "append" ap) [e] [] pos) .none (setV V₁ y (.own (xs ++ [d]))) :=
  EvX.method hy F.slot_list_append F.type_list_append (fun env => by rw [htr]; rfl) hline hd fun A s₀ g₀ R env g s Q E a q he X H hq => by
    rw [htr]
    refine P.append_list (he1 A s₀ g₀ R env g s _ E he X fun v g1 s1 m1 X1 N1 r => ?_)
    obtain ⟨q', H1⟩ := H.names N1 X1 hy1
    obtain ⟨vs, k, rfl, hr⟩ := H1.ko
    refine ⟨vs.toArray, k, by simp [hr.1]; exact hz, H1.ho, ?_⟩
    have Z := H1.turnN X1 (h' := s1.heap.update a (Obj.mapSeq fun xs => xs.push v)) (tk := s1.toks) (vs' := vs ++ [v]) (k' := if (vs.toArray.push v).size == vs.toArray.size then k else k + 1) (by rw [IsL.update (items := vs.toArray) (n := k) H1.ho (fun xs => xs.push v)]; simp [lob]) (RDs.snoc hr r) (Heap.SameBut.update ..)
    exact hq .none g1 _ m1 Z.1 (N1.trans Z.2) .none
theorem EvX.extend {y : Str} {yp ap pos : Pos} {e : Expr} {xs ds : List D} (hy : V.lookup y = some (.own xs)) (he1 : EvE W n sc V e (.list ds)) (hz : xs.length + ds.length ≤ 1000)
    (htr : ∀ env, backTo pos (starEach [e] env) = [(false, eval e env)] := by intro _; rfl) (hline : (ap.endLine == pos.line) = true := by rfl) (hd : (y == ("__debug__" : Str)) = false := by decide) :
    EvX W n sc V (.Call (.Attribute (.Name y yp) "extend" ap) [e] [] pos) .none (setV V y (.own (xs ++ ds))) :=
  EvX.method hy F.slot_list_extend F.type_list_extend (fun env => by rw [htr]; rfl) hline hd fun A s₀ g₀ R env g s Q E a q he X H hq => by
    rw [htr]
    refine P.extend_list (he1 A s₀ g₀ R env g s _ E he X fun v s1 g1 G1 r => ?_)
    have X1 := X.gr G1
    obtain ⟨q', H1⟩ := H.names G1.names X1 hy
    obtain ⟨vs, k, rfl, hr⟩ := H1.ko
    obtain ⟨b, k2, us, rfl, hb, rb⟩ := r.of_list
    have hl : vs.length + us.length ≤ 1000 := by rw [hr.1, rb.1]; exact hz
    refine ⟨b, vs.toArray, us.toArray, k, k2, by simp; size_fits, by simp; size_fits, ?_, rfl, H1.ho, X1.sub _ _ hb, ?_⟩
    · have : Builtin.List.listTooLong (vs.toArray.size + us.toArray.size) = false := by
        unfold Builtin.List.listTooLong
        simp
        size_fits
      rw [this]; simp
    have Z := H1.turnN X1 (h' := s1.heap.update a (Obj.mapSeq fun xs => xs ++ us.toArray)) (tk := s1.toks) (vs' := vs ++ us) (k' := if (vs.toArray ++ us.toArray).size == vs.toArray.size then k else k + 1) (by rw [IsL.update (items := vs.toArray) (n := k) H1.ho (fun xs => xs ++ us.toArray)]; simp [lob]) (RDs.append hr rb) (Heap.SameBut.update ..)
    exact hq .none g1 _ (G1.vis X.sub) Z.1 (G1.names.trans Z.2) .none
theorem RDs.snoc_of {g : Vis} {vs : List Value} {xs : List D} {d : D} (h : RDs W g vs (xs ++ [d])) : ∃ us v, vs = us ++ [v] ∧ RDs W g us xs ∧ RD W g v d := by
  have hl : vs.length = xs.length + 1 := by rw [h.1]; simp
  have hne : vs ≠ [] := fun e => by rw [e] at hl; simp at hl
  refine ⟨vs.dropLast, vs.getLast hne, (List.dropLast_concat_getLast hne).symm, ⟨by simp [hl], fun i v x a b => ?_⟩, ?_⟩
  · have hi : i < vs.length - 1 := by
      have := (List.getElem?_eq_some_iff.mp a).1
      simpa using this
    refine h.2 i v x ?_ ?_
    · rw [List.getElem?_dropLast, if_pos hi] at a; exact a
    · rw [List.getElem?_append_left (by omega)]; exact b
  · refine h.2 (vs.length - 1) _ _ ?_ ?_
    · rw [← List.getLast?_eq_getElem?]; exact List.getLast?_eq_some_getLast hne
    · rw [hl]; simp
theorem EvX.pop {y : Str} {yp ap pos : Pos} {xs : List D} {d : D} (hy : V.lookup y = some (.own (xs ++ [d]))) (hz : xs.length ≤ 1000)
    (hline : (ap.endLine == pos.line) = true := by rfl) (hd : (y == ("__debug__" : Str)) = false := by decide) :
    EvX W n sc V (.Call (.Attribute (.Name y yp) "pop" ap) [] [] pos) d (setV V y (.own xs)) :=
  EvX.method hy F.slot_list_pop F.type_list_pop (fun env => rfl) hline hd fun A s₀ g₀ R env g s Q E a q he X H hq => by
    show wpAny _ A (callWith pos (.builtin "list.pop") [.ref a] [] []) Q E s
    obtain ⟨vs, k, rfl, hr⟩ := H.ko
    obtain ⟨us, v, rfl, ru, rv⟩ := RDs.snoc_of hr
    have hl : us.length ≤ 1000 := by rw [ru.1]; exact hz
    refine P.pop_list (y := v) H.ho (by simp) ?_ (by simp; size_fits)
    have Z := H.turnN X (h' := s.heap.update a (Obj.mapSeq fun xs => xs.eraseIdxIfInBounds ((us ++ [v]).toArray.size - 1))) (tk := s.toks) (vs' := us) (k' := if ((us ++ [v]).toArray.eraseIdxIfInBounds ((us ++ [v]).toArray.size - 1)).size == (us ++ [v]).toArray.size then k else k + 1) (by
      rw [IsL.update (items := (us ++ [v]).toArray) (n := k) H.ho (fun xs => xs.eraseIdxIfInBounds ((us ++ [v]).toArray.size - 1))]
      simp [lob, Array.eraseIdxIfInBounds, List.eraseIdx_append_of_length_le]) ru (Heap.SameBut.update ..)
    exact hq v g _ (fun _ _ e => e) Z.1 Z.2 rv
end
end
section
inductive ForR (W : Wd) (n : Nat) (sc : Scope) (tgt : Expr) (body : List Stmt) : Vars → List D → Out → Prop
  | nil {V : Vars} : ForR W n sc tgt body V [] (.next V)
  | more {V V₁ V₂ : Vars} {d : D} {ds : List D} {out : Out} : AsR W true n sc tgt d V V₁ → ExSs W n sc V₁ body (.next V₂) → ForR W n sc tgt body V₂ ds out → ForR W n sc tgt body V (d :: ds) out
  | cont {V V₁ V₂ : Vars} {d : D} {ds : List D} {out : Out} : AsR W true n sc tgt d V V₁ → ExSs W n sc V₁ body (.cont V₂) → ForR W n sc tgt body V₂ ds out → ForR W n sc tgt body V (d :: ds) out
  | brk {V V₁ V₂ : Vars} {d : D} {ds : List D} : AsR W true n sc tgt d V V₁ → ExSs W n sc V₁ body (.brk V₂) → ForR W n sc tgt body V (d :: ds) (.next V₂)
  | ret {V V₁ : Vars} {d r : D} {ds : List D} : AsR W true n sc tgt d V V₁ → ExSs W n sc V₁ body (.ret r) → ForR W n sc tgt body V (d :: ds) (.ret r)
  | sub {V V' : Vars} {ds : List D} {out : Out} : (∀ y sl, V'.lookup y = some sl → V.lookup y = some sl) → ForR W n sc tgt body V' ds out → ForR W n sc tgt body V ds out
inductive WhileR (W : Wd) (n : Nat) (sc : Scope) (test : Expr) (body : List Stmt) : Nat → Vars → Out → Prop
  | done {k : Nat} {V : Vars} : EvB W n sc V test false → WhileR W n sc test body k V (.next V)
  | more {k : Nat} {V V₂ : Vars} {out : Out} : EvB W n sc V test true → ExSs W n sc V body (.next V₂) → WhileR W n sc test body k V₂ out → WhileR W n sc test body (k + 1) V out
  | brk {k : Nat} {V V₂ : Vars} : EvB W n sc V test true → ExSs W n sc V body (.brk V₂) → WhileR W n sc test body k V (.next V₂)
  | sub {k : Nat} {V V' : Vars} {out : Out} : (∀ y sl, V'.lookup y = some sl → V.lookup y = some sl) → WhileR W n sc test body k V' out → WhileR W n sc test body k V out

section
variable {W : Wd} {n : Nat} {sc : Scope} {V V' V₁ V₂ : Vars} {o : Out}
theorem St.dropR {A : Around} {s₀ s : Shared} {g₀ g : Vis} {R : List (Addr × Obj)} {env : Env} : ∀ {R₁ : List (Addr × Obj)}, St W n A s₀ g₀ (R₁ ++ R) env V g s → St W n A s₀ g₀ R env V g s
  | [], x => x
  | p :: r, x => St.dropR (R₁ := r) (St.popR x)
theorem OutOk.dropR {A : Around} {s₀ s : Shared} {g₀ g : Vis} {R R₁ : List (Addr × Obj)} {env : Env} {f : Flow} (x : OutOk W n A s₀ g₀ (R₁ ++ R) env g s f o) : OutOk W n A s₀ g₀ R env g s f o := by
  cases f <;> cases o <;> first
    | exact St.dropR x
    | exact ⟨x.1, x.2.choose, St.dropR x.2.choose_spec⟩
    | exact x.elim
theorem ExSs.outNext {l : List Stmt} (h : ExSs W n sc V l (.next V₁)) (hs : ∀ y sl, V₂.lookup y = some sl → V₁.lookup y = some sl) : ExSs W n sc V l (.next V₂) := fun A s₀ g₀ R env g s Q E he X hq => h A s₀ g₀ R env g s Q E he X fun f g' s' m X' => hq f g' s' m (by
  cases f <;> first
    | exact St.subV X' hs
    | exact X'.elim)
theorem ExSs.outCont {l : List Stmt} (h : ExSs W n sc V l (.cont V₁)) (hs : ∀ y sl, V₂.lookup y = some sl → V₁.lookup y = some sl) : ExSs W n sc V l (.cont V₂) := fun A s₀ g₀ R env g s Q E he X hq => h A s₀ g₀ R env g s Q E he X fun f g' s' m X' => hq f g' s' m (by
  cases f <;> first
    | exact St.subV X' hs
    | exact X'.elim)
theorem ExS.outNext {l : Stmt} (h : ExS W n sc V l (.next V₁)) (hs : ∀ y sl, V₂.lookup y = some sl → V₁.lookup y = some sl) : ExS W n sc V l (.next V₂) := fun A s₀ g₀ R env g s Q E he X hq => h A s₀ g₀ R env g s Q E he X fun f g' s' m X' => hq f g' s' m (by
  cases f <;> first
    | exact St.subV X' hs
    | exact X'.elim)

theorem for_go {A : Around} {s₀ s : Shared} {g₀ g : Vis} {R R₁ : List (Addr × Obj)} {env : Env} {tgt : Expr} {body : List Stmt} {it : Value} {S : Vis → List D → List (Addr × Obj) → Prop} {ds : List D} {RR : Result → Shared → Prop}
    (he : EnvK true sc env) (I : Itr W n it tgt S) (hf : ForR W n sc tgt body V ds o) (X : St W n A s₀ g₀ (R₁ ++ R) env V g s) (hS : S g ds R₁)
    (hR : ∀ f g' s', (∀ b o, g b = some o → g' b = some o) → OutOk W n A s₀ g₀ R env g' s' f o → RR (.ok f) s') : codeAny (model W.prog W.w) A (.forLoop tgt it body [] env) RR s := by
  refine codeAny_forLoop_any (fun j s' => ∃ g' R₂ V' ds', j = ds'.length ∧ ForR W n sc tgt body V' ds' o ∧ (∀ b o, g b = some o → g' b = some o) ∧ St W n A s₀ g₀ (R₂ ++ R) env V' g' s' ∧ S g' ds' R₂) ?_ ds.length ⟨g, R₁, V, ds, rfl, hf, fun _ _ e => e, X, hS⟩
  rintro j s1 ⟨g1, R₂, V1, ds1, rfl, hf1, m1, X1, hS1⟩
  clear hf
  induction hf1 with
  | sub hs _ ih => exact ih hR (X1.subV hs) hS1
  | @nil V1 =>
    have pres : ∀ p ∈ R₂, s1.heap.get? p.1 = some p.2 := fun p hp => (X1.rest p (List.mem_append_left _ hp)).1
    have nd : (R₂.map (·.1)).Nodup := by have := X1.rnd; rw [List.map_append, List.nodup_append] at this; exact this.1
    refine I.fin A g1 s1 R₂ _ _ X1.aok X1.sub hS1 pres nd fun h' tk hk => wpAny_execs_nil ?_
    have X2 := X1.turnR (R₂ := []) (g' := g1) (tk := tk) hk (fun p hp => by cases hp) List.nodup_nil (fun p hp => by cases hp) (fun _ _ _ => rfl) fun b o e => hk b o (fun hm => by
      obtain ⟨p, hp, rfl⟩ := List.mem_map.mp hm
      have := (X1.rest p (List.mem_append_left _ hp)).2.1
      rw [this] at e; cases e) (X1.sub b o e)
    exact hR .next g1 _ m1 X2
  | @more V1 V₁ V₂ d ds2 out ht hb hrest =>
    have pres : ∀ p ∈ R₂, s1.heap.get? p.1 = some p.2 := fun p hp => (X1.rest p (List.mem_append_left _ hp)).1
    have nd : (R₂.map (·.1)).Nodup := by have := X1.rnd; rw [List.map_append, List.nodup_append] at this; exact this.1
    refine wpAny_mono (I.nxt A g1 s1 d ds2 R₂ (fun v s₂ => wpAny (model W.prog W.w) A (assign tgt env v) _ _ s₂) _ X1.aok X1.sub hS1 (fun p hp => ⟨pres p hp, (X1.rest p (List.mem_append_left _ hp)).2.1⟩) nd fun v h' tk R₃ g2 ha3 nd3 pr3 hk old sub rv hS3 => ?_) (fun r s2 hr => by
      obtain ⟨v, rfl, hv⟩ := hr
      exact hv) fun _ _ e => e
    have X2 := X1.turnR (g' := g2) hk ha3 nd3 pr3 old sub (tk := tk)
    have m2 : ∀ b o, g1 b = some o → g2 b = some o := fun b o e => (old b o (X1.sub b o e)).trans e
    refine ht A s₀ g₀ _ env g2 _ v _ _ he X2 rv fun g3 s3 m3 X3 => hb A s₀ g₀ _ env g3 s3 _ _ he X3 fun f g4 s4 m4 X4 => ?_
    have mm : ∀ b o, g2 b = some o → g4 b = some o := fun b o e => m4 b o (m3 b o e)
    cases f with
    | next => exact ⟨_, by simp, g4, R₃, V₂, ds2, rfl, hrest, fun b o e => mm b o (m2 b o (m1 b o e)), X4, I.mono _ _ _ _ mm hS3⟩
    | _ => exact X4.elim
  | @cont V1 V₁ V₂ d ds2 out ht hb hrest =>
    have pres : ∀ p ∈ R₂, s1.heap.get? p.1 = some p.2 := fun p hp => (X1.rest p (List.mem_append_left _ hp)).1
    have nd : (R₂.map (·.1)).Nodup := by have := X1.rnd; rw [List.map_append, List.nodup_append] at this; exact this.1
    refine wpAny_mono (I.nxt A g1 s1 d ds2 R₂ (fun v s₂ => wpAny (model W.prog W.w) A (assign tgt env v) _ _ s₂) _ X1.aok X1.sub hS1 (fun p hp => ⟨pres p hp, (X1.rest p (List.mem_append_left _ hp)).2.1⟩) nd fun v h' tk R₃ g2 ha3 nd3 pr3 hk old sub rv hS3 => ?_) (fun r s2 hr => by
      obtain ⟨v, rfl, hv⟩ := hr
      exact hv) fun _ _ e => e
    have X2 := X1.turnR (g' := g2) hk ha3 nd3 pr3 old sub (tk := tk)
    have m2 : ∀ b o, g1 b = some o → g2 b = some o := fun b o e => (old b o (X1.sub b o e)).trans e
    refine ht A s₀ g₀ _ env g2 _ v _ _ he X2 rv fun g3 s3 m3 X3 => hb A s₀ g₀ _ env g3 s3 _ _ he X3 fun f g4 s4 m4 X4 => ?_
    have mm : ∀ b o, g2 b = some o → g4 b = some o := fun b o e => m4 b o (m3 b o e)
    cases f with
    | cont => exact ⟨_, by simp, g4, R₃, V₂, ds2, rfl, hrest, fun b o e => mm b o (m2 b o (m1 b o e)), X4, I.mono _ _ _ _ mm hS3⟩
    | _ => exact X4.elim
  | @brk V1 V₁ V₂ d ds2 ht hb =>
    have pres : ∀ p ∈ R₂, s1.heap.get? p.1 = some p.2 := fun p hp => (X1.rest p (List.mem_append_left _ hp)).1
    have nd : (R₂.map (·.1)).Nodup := by have := X1.rnd; rw [List.map_append, List.nodup_append] at this; exact this.1
    refine wpAny_mono (I.nxt A g1 s1 d ds2 R₂ (fun v s₂ => wpAny (model W.prog W.w) A (assign tgt env v) _ _ s₂) _ X1.aok X1.sub hS1 (fun p hp => ⟨pres p hp, (X1.rest p (List.mem_append_left _ hp)).2.1⟩) nd fun v h' tk R₃ g2 ha3 nd3 pr3 hk old sub rv hS3 => ?_) (fun r s2 hr => by
      obtain ⟨v, rfl, hv⟩ := hr
      exact hv) fun _ _ e => e
    have X2 := X1.turnR (g' := g2) hk ha3 nd3 pr3 old sub (tk := tk)
    have m2 : ∀ b o, g1 b = some o → g2 b = some o := fun b o e => (old b o (X1.sub b o e)).trans e
    refine ht A s₀ g₀ _ env g2 _ v _ _ he X2 rv fun g3 s3 m3 X3 => hb A s₀ g₀ _ env g3 s3 _ _ he X3 fun f g4 s4 m4 X4 => ?_
    have mm : ∀ b o, g2 b = some o → g4 b = some o := fun b o e => m4 b o (m3 b o e)
    cases f with
    | brk => exact hR .next g4 s4 (fun b o e => mm b o (m2 b o (m1 b o e))) (St.dropR X4)
    | _ => exact X4.elim
  | @ret V1 V₁ d r ds2 ht hb =>
    have pres : ∀ p ∈ R₂, s1.heap.get? p.1 = some p.2 := fun p hp => (X1.rest p (List.mem_append_left _ hp)).1
    have nd : (R₂.map (·.1)).Nodup := by have := X1.rnd; rw [List.map_append, List.nodup_append] at this; exact this.1
    refine wpAny_mono (I.nxt A g1 s1 d ds2 R₂ (fun v s₂ => wpAny (model W.prog W.w) A (assign tgt env v) _ _ s₂) _ X1.aok X1.sub hS1 (fun p hp => ⟨pres p hp, (X1.rest p (List.mem_append_left _ hp)).2.1⟩) nd fun v h' tk R₃ g2 ha3 nd3 pr3 hk old sub rv hS3 => ?_) (fun r s2 hr => by
      obtain ⟨v, rfl, hv⟩ := hr
      exact hv) fun _ _ e => e
    have X2 := X1.turnR (g' := g2) hk ha3 nd3 pr3 old sub (tk := tk)
    have m2 : ∀ b o, g1 b = some o → g2 b = some o := fun b o e => (old b o (X1.sub b o e)).trans e
    refine ht A s₀ g₀ _ env g2 _ v _ _ he X2 rv fun g3 s3 m3 X3 => hb A s₀ g₀ _ env g3 s3 _ _ he X3 fun f g4 s4 m4 X4 => ?_
    have mm : ∀ b o, g2 b = some o → g4 b = some o := fun b o e => m4 b o (m3 b o e)
    cases f with
    | ret v => exact hR (.ret v) g4 s4 (fun b o e => mm b o (m2 b o (m1 b o e))) (OutOk.dropR (o := .ret r) (f := .ret v) X4)
    | _ => exact X4.elim
theorem ExS.for {tgt iter : Expr} {body : List Stmt} {pos : Pos} {ds : List D} (hi : EvI W n sc V iter tgt ds) (hf : ForR W n sc tgt body V ds o) (hs : ∀ env x, foldedSetIterable iter env x = pure x := by intro _ _; rfl) : ExS W n sc V (.For tgt iter body [] pos) o := fun A s₀ g₀ R env g s Q E he X h =>
  wpAny_For (hi A s₀ g₀ R env g s _ E he.toEnvOk X fun it s1 g1 R₁ S G1 I hS hR nd => for_go he I hf (X.pushRs G1 R₁ hR nd) hS fun f g' s' m ok => h f g' s' (fun b o e => m b o (G1.vis X.sub b o e)) ok) (hs env)

theorem ExS.while {test : Expr} {body : List Stmt} {pos : Pos} {k : Nat} (hf : WhileR W n sc test body k V o) : ExS W n sc V (.While test body [] pos) o := fun A s₀ g₀ R env g s Q E he X h => by
  refine wpAny_While (codeAny_whileLoop (fun j s' => ∃ g' V', WhileR W n sc test body j V' o ∧ (∀ b o, g b = some o → g' b = some o) ∧ St W n A s₀ g₀ R env V' g' s') ?_ k ⟨g, V, hf, fun _ _ e => e, X⟩)
  rintro j s1 ⟨g1, V1, hf1, m1, X1⟩
  clear hf
  induction hf1 with
  | sub hs _ ih => exact ih h (X1.subV hs)
  | done ht =>
    refine ht A s₀ g₀ R env g1 s1 _ _ he.toEnvOk X1 fun s2 g2 G2 => ?_
    exact wpAny_execs_nil (h .next g2 s2 (fun b o e => G2.vis X1.sub b o (m1 b o e)) (X1.gr G2))
  | @more j V1 V₂ out ht hb hrest =>
    refine ht A s₀ g₀ R env g1 s1 _ _ he.toEnvOk X1 fun s2 g2 G2 => ?_
    rw [if_pos rfl]
    refine hb A s₀ g₀ R env g2 s2 _ _ he (X1.gr G2) fun f g3 s3 m3 X3 => ?_
    cases f with
    | next => exact ⟨j, Nat.lt_succ_self _, g3, V₂, hrest, fun b o e => m3 b o (G2.vis X1.sub b o (m1 b o e)), X3⟩
    | _ => exact X3.elim
  | @brk j V1 V₂ ht hb =>
    refine ht A s₀ g₀ R env g1 s1 _ _ he.toEnvOk X1 fun s2 g2 G2 => ?_
    rw [if_pos rfl]
    refine hb A s₀ g₀ R env g2 s2 _ _ he (X1.gr G2) fun f g3 s3 m3 X3 => ?_
    cases f with
    | brk => exact h .next g3 s3 (fun b o e => m3 b o (G2.vis X1.sub b o (m1 b o e))) X3
    | _ => exact X3.elim
end
end
section
theorem bindL_none {kindOf : Str → Option NameKind} {x : Str} : ∀ (binds : List (Str × Value)) (m : Str → Option Value), binds.lookup x = none → bindL kindOf binds m x = m x
  | [], m, _ => rfl
  | (k, v) :: r, m, h => by
    rw [List.lookup_cons] at h
    cases hq : x == k with
    | true => rw [hq] at h; cases h
    | false =>
      rw [hq] at h
      have hne : x ≠ k := by simpa using hq
      unfold bindL
      rw [bindL_none r _ h]
      split
      · simp [hne]
      · rfl
theorem bindC_none {kindOf : Str → Option NameKind} {x : Str} : ∀ (binds : List (Str × Value)) (m : Str → Option Value), binds.lookup x = none → bindC kindOf binds m x = m x
  | [], m, _ => rfl
  | (k, v) :: r, m, h => by
    rw [List.lookup_cons] at h
    cases hq : x == k with
    | true => rw [hq] at h; cases h
    | false =>
      rw [hq] at h
      have hne : x ≠ k := by simpa using hq
      unfold bindC
      rw [bindC_none r _ h]
      split
      · rfl
      · simp [hne]
theorem zip_lookup_none {α : Type} {x : Str} : ∀ (names : List Str) (vs : List α), x ∉ names → (names.zip vs).lookup x = none
  | [], _, _ => rfl
  | k :: r, [], _ => rfl
  | k :: r, v :: vs, h => by
    have hne : (x == k) = false := by
      rw [beq_eq_false_iff_ne]
      rintro rfl
      exact h List.mem_cons_self
    rw [List.zip_cons_cons, List.lookup_cons, hne]
    exact zip_lookup_none r vs fun hm => h (List.mem_cons_of_mem _ hm)
theorem bindL_zip {kindOf : Str → Option NameKind} {x : Str} {v : Value} (hk : kindOf x = some .local) : ∀ (names : List Str) (vs : List Value) (m : Str → Option Value), names.Nodup → (names.zip vs).lookup x = some v → bindL kindOf (names.zip vs) m x = some v
  | [], _, _, _, h => by simp at h
  | k :: r, [], _, _, h => by simp at h
  | k :: r, u :: vs, m, hn, h => by
    obtain ⟨h1, h2⟩ := List.nodup_cons.mp hn
    rw [List.zip_cons_cons, List.lookup_cons] at h
    rw [List.zip_cons_cons]
    unfold bindL
    cases hq : x == k with
    | true =>
      rw [hq] at h; cases h
      have e : x = k := by simpa using hq
      subst e
      rw [bindL_none _ _ (zip_lookup_none r vs h1), if_pos hk]
      simp
    | false => rw [hq] at h; exact bindL_zip hk r vs _ h2 h
theorem bindC_zip {kindOf : Str → Option NameKind} {x : Str} {v : Value} (hk : kindOf x ≠ some .local) : ∀ (names : List Str) (vs : List Value) (m : Str → Option Value), names.Nodup → (names.zip vs).lookup x = some v → bindC kindOf (names.zip vs) m x = some v
  | [], _, _, _, h => by simp at h
  | k :: r, [], _, _, h => by simp at h
  | k :: r, u :: vs, m, hn, h => by
    obtain ⟨h1, h2⟩ := List.nodup_cons.mp hn
    rw [List.zip_cons_cons, List.lookup_cons] at h
    rw [List.zip_cons_cons]
    unfold bindC
    cases hq : x == k with
    | true =>
      rw [hq] at h; cases h
      have e : x = k := by simpa using hq
      subst e
      rw [bindC_none _ _ (zip_lookup_none r vs h1), if_neg hk]
      simp
    | false => rw [hq] at h; exact bindC_zip hk r vs _ h2 h
theorem cellsFrom_acc {x : Str} : ∀ (names : List (Str × NameKind)) (k : Nat) (acc : List (Str × Addr)), (∃ c, (x, c) ∈ acc) → ∃ c, (x, c) ∈ cellsFrom k names acc
  | [], _, _, h => h
  | (y, kd) :: r, k, acc, ⟨c, h⟩ => by
    unfold cellsFrom
    split
    · exact cellsFrom_acc r _ _ ⟨c, .tail _ h⟩
    · exact cellsFrom_acc r _ _ ⟨c, h⟩
theorem cellsFrom_mem {x : Str} : ∀ (names : List (Str × NameKind)) (k : Nat) (acc : List (Str × Addr)), (x, NameKind.cell) ∈ names → ∃ c, (x, c) ∈ cellsFrom k names acc
  | (y, kd) :: r, k, acc, h => by
    unfold cellsFrom
    rcases List.mem_cons.mp h with e | h
    · cases e
      exact cellsFrom_acc r _ _ ⟨k, .head _⟩
    · split
      · exact cellsFrom_mem r _ _ h
      · exact cellsFrom_mem r _ _ h
theorem lookup_of_mem {α : Type} {x : Str} : ∀ {l : List (Str × α)}, (∃ c, (x, c) ∈ l) → ∃ c, l.lookup x = some c
  | (k, v) :: r, ⟨c, h⟩ => by
    rw [List.lookup_cons]
    cases hq : x == k with
    | true => exact ⟨v, rfl⟩
    | false =>
      rcases List.mem_cons.mp h with e | h
      · cases e; simp at hq
      · exact lookup_of_mem ⟨c, h⟩
theorem cellsFrom_some {x : Str} {names : List (Str × NameKind)} {k : Nat} (h : names.lookup x = some .cell) : ∃ c, (cellsFrom k names []).lookup x = some c := lookup_of_mem (cellsFrom_mem names k [] (mem_of_lookup h))

noncomputable def Out.val : Out → D
  | .ret d => d
  | _ => .none
noncomputable def Out.fin : Out → Bool
  | .ret _ | .next _ => true
  | _ => false

section
variable {W : Wd} {n : Nat} {sc : Scope}
theorem zip_vars {g : Vis} {x : Str} {sl : Slot} : ∀ {names : List Str} {vs : List Value} {ds : List D}, RDs W g vs ds → (names.zip (ds.map Slot.val)).lookup x = some sl → ∃ v d, sl = .val d ∧ (names.zip vs).lookup x = some v ∧ RD W g v d
  | [], _, _, _, h => by simp at h
  | k :: r, vs, [], _, h => by simp at h
  | k :: r, vs, d :: ds, hr, h => by
    obtain ⟨v, us, rfl, hv, hu⟩ := hr.cons_of
    rw [List.map_cons, List.zip_cons_cons, List.lookup_cons] at h
    rw [List.zip_cons_cons, List.lookup_cons]
    cases hq : x == k with
    | true => rw [hq] at h; cases h; exact ⟨v, d, rfl, rfl, hv⟩
    | false => rw [hq] at h; exact zip_vars hu h

/-- into a function of the program's -/
theorem call_enter {A : Around} {g : Vis} {s : Shared} {vs : List Value} {R : Result → Shared → Prop} {a : Addr} {oF : Obj} {name : Str} {params : Arguments} {body : List Stmt} {scope : Scope} {pm cd doc : Value} {names : List Str} {ds : List D}
    (hF : W.hT.get? a = some oF) (hdata : oF.data = .func (docDef name params body scope pm cd doc)) (hcd : W.hT.CodeRec cd name)
    (hbind : ∀ vs : List Value, vs.length = names.length → bindArgs (docDef name params body scope pm cd doc) ⟨vs, []⟩ = pure (names.zip vs)) (hnd : names.Nodup) (hlen : ds.length = names.length)
    (hkind : ∀ x ∈ names, scope.names.lookup x = some .local ∨ scope.names.lookup x = some .cell) (hk : scope.kind = .function) (hco : scope.isCoroutine = false) (hgen : scope.isGenerator = false)
    (sv : Sv W (n + 1) A g s) (r : RDs W g vs ds)
    (h : ∀ env s₁ outer, EnvK true scope env → St W n (A.deeper env) s g [] env (names.zip (ds.map Slot.val)) g s₁ → A.frames = some outer → env.frame = some env.locals → s.heap.get? env.locals = none → (∀ {h : Heap} (b : Addr) (o : Obj), s.heap.get? b = some o → KeptA (A.deeper env) h b o → KeptA A h b o) →
      wpAny (model W.prog W.w) (A.deeper env) (execs body env) (fun f s' => R (.ok (.ret (match f with | .ret v => v | _ => .none))) s') (fun e s' => wpAny (model W.prog W.w) (A.deeper env) (leaving env e) (fun _ s'' => R (.error e) s'') (fun e' s'' => R (.error e') s'') s') s₁) :
    codeAny (model W.prog W.w) A (.call (.ref a) ⟨vs, []⟩) R s := by
  obtain ⟨outer, B⟩ := sv.below
  refine codeAny_call_cells (fd := docDef name params body scope pm cd doc) (body := body) (binds := names.zip vs) (by have := sv.aok.depth; omega) (sv.keepTop _ _ hF) hdata (W.lim.keeps sv.keepTop) (hcd.keeps sv.keepTop) rfl (hbind vs (r.1.trans hlen)) rfl (fun x hx => ?_) (fun s₁ x => ?_) hco hgen hk
  · rcases hkind x.1 (List.of_mem_zip hx).1 with h | h
    · exact .inl h
    · refine .inr ⟨h, ?_⟩
      obtain ⟨c, hc⟩ := cellsFrom_some (k := s.heap.objs.size + 1) h
      show ((cellsFrom (s.heap.objs.size + 1) scope.names []).lookup x.1).isSome = true
      rw [hc]; rfl
  · generalize henv : callEnvC (docDef name params body scope pm cd doc) s.heap.objs.size a = env at x ⊢
    have e1 : env.scope = scope := by rw [← henv]; rfl
    have e2 : env.frame = some env.locals := by rw [← henv]; rfl
    have e3 : env.globals = mainGlobals := by rw [← henv]; rfl
    have e4 : env.builtins = builtinsNs := by rw [← henv]; rfl
    have e5 : env.cells = cellsFrom (s.heap.objs.size + 1) scope.names [] := by rw [← henv]; rfl
    have he : EnvK true scope env := ⟨⟨e1, hk, e3, e4, fun x hx => by rw [e5]; exact cellsFrom_some hx⟩, fun _ => e2⟩
    have hnone : ∀ b, s.heap.objs.size ≤ b → s.heap.get? b = none := fun b hb => Heap.get?_none_of_le hb
    have gnone : ∀ b, s.heap.objs.size ≤ b → g b = none := fun b hb => by
      cases q : g b with
      | none => rfl
      | some o => have := sv.sub b o q; rw [hnone b hb] at this; cases this
    have hL := x.toInCall.fresh
    have hC : ∀ k c, env.cells.lookup k = some c → env.locals < c := fun k c e => x.above k c (mem_of_lookup e)
    have kA : ∀ {h : Heap} (b : Addr) (o : Obj), s.heap.get? b = some o → KeptA (A.deeper env) h b o → KeptA A h b o := fun {h} b o e k => by
      rcases k with k | ⟨f, sl, k⟩
      · exact .inl k
      · refine .inr ⟨?_, sl, k⟩
        obtain ⟨out, h1, e', he', hf⟩ := f
        rw [Around.frames_deeper B.stack] at h1
        cases h1
        rcases List.mem_cons.mp he' with rfl | hm
        · rw [e2] at hf; cases hf; rw [hnone _ hL] at e; cases e
        · exact ⟨outer, B.stack, e', hm, hf⟩
    have X : St W n (A.deeper env) s g [] env (names.zip (ds.map Slot.val)) g s₁ := by
      refine ⟨⟨sv.aok.hd, ?_, ?_⟩, ?_, fun _ => ⟨outer, Around.frames_deeper B.stack⟩, x.toInCall.same, fun b o e => .inl (x.toInCall.keep b o e), fun _ _ _ => rfl, sv.keepTop, fun b o e => x.toInCall.keep b o (sv.sub b o e), sv.top, (fun b hb => by
        obtain ⟨out, h1, e', he', hf⟩ := hb
        rw [Around.frames_deeper B.stack] at h1
        cases h1
        rcases List.mem_cons.mp he' with rfl | hm
        · rw [e2] at hf; cases hf; exact gnone _ hL
        · exact sv.frv b ⟨outer, B.stack, e', hm, hf⟩), (by intro p hp; cases hp), List.nodup_nil, _, _,
        ⟨x.toInCall.ns, gnone _ hL, hnone _ hL, x.cell, fun k c e => gnone c (Nat.le_of_lt (Nat.lt_of_le_of_lt hL (hC k c e))), fun k c e => Nat.ne_of_gt (hC k c e), fun k k' c e e' => name_of_addr x.apart (mem_of_lookup e) (mem_of_lookup e'),
         fun _ k c e => hnone c (Nat.le_of_lt (Nat.lt_of_le_of_lt hL (hC k c e))), ⟨_, e2, .inl rfl⟩, fun y sl e => ?_, fun y z sl sl' v v' b hyz h1 h2 h3 h4 h5 => ?_⟩⟩
      · have := sv.aok.depth; show A.depth + 1 + n < recursionLimit; omega
      · have := sv.aok.units; rw [Around.deeper_units]; omega
      · refine ⟨env :: outer, by show A.frames.map _ = _; rw [B.stack]; rfl, fun e he' => ?_⟩
        rcases List.mem_cons.mp he' with rfl | hm
        · refine ⟨by rw [e1, hk]; decide, e.locals, e2, ?_, .inl rfl⟩
          cases q : W.hT.get? e.locals with
          | none => rfl
          | some o => have := sv.keepTop _ _ q; rw [hnone _ hL] at this; cases this
        · have go : ∀ l : List Env, s.heap.FunFrames W.hT l → ∀ e ∈ l, e.scope.kind ≠ .module ∧ ∃ L', e.frame = some L' ∧ W.hT.get? L' = none ∧ (some env.locals = some L' ∨ ∃ o, s.heap.get? L' = some o ∧ NonF o) := by
            intro l
            induction l with
            | nil => exact fun _ e he => by cases he
            | cons f r ih =>
              intro hl e he
              obtain ⟨hk', ⟨L', o, hf, hn, ho, hd⟩, hr⟩ := hl
              rcases List.mem_cons.mp he with rfl | he
              · exact ⟨hk', L', hf, hn, .inr ⟨o, ho, hd⟩⟩
              · exact ih hr e he
          exact go outer B.frames e hm
      · obtain ⟨v, d, rfl, hv, hr⟩ := zip_vars r e
        have hmem : y ∈ names := (List.of_mem_zip (mem_of_lookup hv)).1
        have hN : hidA v (.val d) = none := by cases v <;> rfl
        refine ⟨v, ?_, hr, fun b hb => by rw [hN] at hb; cases hb⟩
        rcases hkind y hmem with hl | hc
        · have hl' : env.kindOf y = some .local := by unfold Env.kindOf; rw [e1]; exact hl
          rw [rdv_local hl']
          exact bindL_zip hl' names vs _ hnd hv
        · have hc' : env.kindOf y = some .cell := by unfold Env.kindOf; rw [e1]; exact hc
          obtain ⟨c, hcc⟩ := he.cls y hc
          rw [rdv_cell hc' hcc]
          exact bindC_zip (by rw [hc']; decide) names vs _ hnd hv
      · obtain ⟨_, d, rfl, _, _⟩ := zip_vars r h1
        have hN : hidA v (.val d) = none := by cases v <;> rfl
        rw [hN] at h5; cases h5
    exact h env s₁ outer he X B.stack e2 (hnone _ hL) kA
/-- a call of a function whose body is walked -/
theorem call_body {a : Addr} {oF : Obj} {name : Str} {params : Arguments} {body : List Stmt} {scope : Scope} {pm cd doc : Value} {names : List Str} {ds : List D} {out : Out}
    (hF : W.hT.get? a = some oF) (hdata : oF.data = .func (docDef name params body scope pm cd doc)) (hcd : W.hT.CodeRec cd name)
    (hbind : ∀ vs : List Value, vs.length = names.length → bindArgs (docDef name params body scope pm cd doc) ⟨vs, []⟩ = pure (names.zip vs)) (hnd : names.Nodup) (hlen : ds.length = names.length)
    (hkind : ∀ x ∈ names, scope.names.lookup x = some .local ∨ scope.names.lookup x = some .cell) (hk : scope.kind = .function) (hco : scope.isCoroutine = false) (hgen : scope.isGenerator = false)
    (hb : ExSs W n scope (names.zip (ds.map Slot.val)) body out) (hfin : out.fin = true) : CallR W (n + 1) (.ref a) ds out.val := fun A g s vs sv r Q E hq => by
  refine wpAny_call (call_enter hF hdata hcd hbind hnd hlen hkind hk hco hgen sv r fun env s₁ outer he X hfr e2 hLn kA => ?_)
  refine hb (A.deeper env) s g [] env g s₁ _ _ he X fun f g' s' m ok => ?_
  have ret : ∀ {d : D} {v : Value} {V'}, St W n (A.deeper env) s g [] env V' g' s' → RD W g' v d → (∀ v s' g', Gr A s g s' g' → RD W g' v d → Q v s') → Q v s' := fun {d v V'} X' rv h => h v s' g' ⟨X'.same, fun b o e => kA b o e (X'.keep b o e), X'.old, X'.sub⟩ rv
  cases f <;> cases out <;> first
    | exact ok.elim
    | (cases hfin; done)
    | exact ret ok.2.choose_spec ok.1 hq
    | exact ret ok RD.none hq
end
end
section
structure Fn (W : Wd) (n : Nat) (f : Str) (ds : List D) (d : D) : Prop where
  ex : ∃ a o fd, W.mg f = some (.ref a) ∧ W.hT.get? a = some o ∧ o.data = .func fd ∧ CallR W n (.ref a) ds d

section
variable {W : Wd} {n k : Nat} {sc : Scope} {V V' V₁ V₂ : Vars} {o : Out}
theorem CallR.up {f : Value} {ds : List D} {d : D} (h : CallR W n f ds d) (hk : n ≤ k) : CallR W k f ds d := fun A g s vs sv r => h A g s vs (sv.less hk) r
theorem Fn.up {f : Str} {ds : List D} {d : D} (h : Fn W n f ds d) (hk : n ≤ k) : Fn W k f ds d := by
  obtain ⟨a, o, fd, h1, h2, h3, h4⟩ := h.ex
  exact ⟨a, o, fd, h1, h2, h3, h4.up hk⟩
theorem args_go {A : Around} {s₀ s : Shared} {g₀ g : Vis} {R : List (Addr × Obj)} {env : Env} {f : Value} {e : Expr} {es : List Expr} {ds : List D} {pos : Pos} {Q : Args → Shared → Prop} {E : Value → Shared → Prop} (he : EnvOk sc env) (X : St W n A s₀ g₀ R env V g s) (ha : EvL W n sc V (e :: es) ds)
    (hs : ∀ env, starEach (e :: es) env = (false, eval e env) :: starEach es env) (h : ∀ vs s' g', Gr A s g s' g' → RDs W g' vs ds → Q ⟨vs, []⟩ s') : wpAny (model W.prog W.w) A (evalArgs f true (backTo pos (starEach (e :: es) env)) []) Q E s := by
  have h1 := ha A s₀ g₀ R env g s pos (fun vs s' => Q ⟨vs, []⟩ s') E he X h
  rw [hs] at h1 ⊢
  exact evalArgs_plain h1

/-- a call of a function of the program's -/
theorem EvE.call {f : Str} {fp pos : Pos} {e : Expr} {es : List Expr} {ds : List D} {d : D} (hk : sc.names.lookup f = some .globalImplicit) (hf : Fn W n f ds d) (ha : EvL W n sc V (e :: es) ds)
    (hs : ∀ env, starEach (e :: es) env = (false, eval e env) :: starEach es env := by intro _; rfl) (hd : (f == ("__debug__" : Str)) = false := by decide) : EvE W n sc V (.Call (.Name f fp) (e :: es) [] pos) d := fun A s₀ g₀ R env g s Q E he X hq => by
  obtain ⟨a, o, fd, h1, h2, h3, h4⟩ := hf.ex
  refine wpAny_Call_NameR (Name_function_global he.kf (by rw [he.kindOf]; exact hk) (loadGlobal_global (glob_ns he X) h1 (callWith_function (o := o) (fd := fd) (args_go he X ha hs fun vs s1 g1 G1 r1 => ⟨⟨(X.gr G1).topKeep _ _ h2, h3⟩, ?_⟩))) hd)
  exact h4 A g1 s1 vs (X.gr G1).sv r1 Q E fun v s2 g2 G2 r2 => hq v s2 g2 (G1.trans G2) r2

theorem builtin_go {A : Around} {s₀ s : Shared} {g₀ g : Vis} {R : List (Addr × Obj)} {env : Env} {f : Str} {id : String} {fp pos : Pos} {e : Expr} {es : List Expr} {ds : List D} {Q : Value → Shared → Prop} {E : Value → Shared → Prop} (he : EnvOk sc env) (X : St W n A s₀ g₀ R env V g s)
    (hk : sc.names.lookup f = some .globalImplicit) (hf : W.mg f = none) (hb : bootBuiltins f = some (.builtin id)) (hn : f ≠ "__name__") (hd : (f == ("__debug__" : Str)) = false) (hs : ∀ env, starEach (e :: es) env = (false, eval e env) :: starEach es env) (hp : ∀ env, (backTo pos (starEach (e :: es) env)).any (·.1) = false) (ha : EvL W n sc V (e :: es) ds)
    (h : ∀ vs s' g', Gr A s g s' g' → RDs W g' vs ds → wpAny (model W.prog W.w) A (call (.builtin id) vs) Q E s') : wpAny (model W.prog W.w) A (eval (.Call (.Name f fp) (e :: es) [] pos) env) Q E s := by
  refine wpAny_Call_NameR (Name_function_global he.kf (by rw [he.kindOf]; exact hk) (loadGlobal_builtin (glob_ns he X) hf (blt_ns he X) (by rw [W.hbb f hn]; exact hb) (callWith_builtin (hp env) (args_go he X ha hs fun vs s1 g1 G1 r1 => ?_))) hd)
  exact h vs s1 g1 G1 r1
theorem type_go {A : Around} {s₀ s : Shared} {g₀ g : Vis} {R : List (Addr × Obj)} {env : Env} {f : Str} {T : String} {fp pos : Pos} {e : Expr} {es : List Expr} {ds : List D} {Q : Value → Shared → Prop} {E : Value → Shared → Prop} (he : EnvOk sc env) (X : St W n A s₀ g₀ R env V g s)
    (hk : sc.names.lookup f = some .globalImplicit) (hf : W.mg f = none) (hb : bootBuiltins f = some (.type T)) (hn : f ≠ "__name__") (hd : (f == ("__debug__" : Str)) = false) (hs : ∀ env, starEach (e :: es) env = (false, eval e env) :: starEach es env) (hp : ∀ env, (backTo pos (starEach (e :: es) env)).any (·.1) = false) (ha : EvL W n sc V (e :: es) ds)
    (h : ∀ vs s' g', Gr A s g s' g' → RDs W g' vs ds → wpAny (model W.prog W.w) A (call (.type T) vs) Q E s') : wpAny (model W.prog W.w) A (eval (.Call (.Name f fp) (e :: es) [] pos) env) Q E s := by
  refine wpAny_Call_NameR (Name_function_global he.kf (by rw [he.kindOf]; exact hk) (loadGlobal_builtin (glob_ns he X) hf (blt_ns he X) (by rw [W.hbb f hn]; exact hb) (PyProof.Rows.callWith_type (hp env) (args_go he X ha hs fun vs s1 g1 G1 r1 => ?_))) hd)
  exact h vs s1 g1 G1 r1
/-- a call of a built-in function or type, by its name -/
inductive BName (W : Wd) (sc : Scope) (f : Str) : Value → Prop
  | fn {id : String} : sc.names.lookup f = some .globalImplicit → W.mg f = none → bootBuiltins f = some (.builtin id) → f ≠ "__name__" → (f == ("__debug__" : Str)) = false → BName W sc f (.builtin id)
  | ty {T : String} : sc.names.lookup f = some .globalImplicit → W.mg f = none → bootBuiltins f = some (.type T) → f ≠ "__name__" → (f == ("__debug__" : Str)) = false → BName W sc f (.type T)
theorem bcall_go {A : Around} {s₀ s : Shared} {g₀ g : Vis} {R : List (Addr × Obj)} {env : Env} {f : Str} {fv : Value} {fp pos : Pos} {e : Expr} {es : List Expr} {ds : List D} {Q : Value → Shared → Prop} {E : Value → Shared → Prop} (he : EnvOk sc env) (X : St W n A s₀ g₀ R env V g s) (hb : BName W sc f fv) (ha : EvL W n sc V (e :: es) ds)
    (hs : ∀ env, starEach (e :: es) env = (false, eval e env) :: starEach es env) (hp : ∀ env, (backTo pos (starEach (e :: es) env)).any (·.1) = false)
    (h : ∀ vs s' g', Gr A s g s' g' → RDs W g' vs ds → wpAny (model W.prog W.w) A (PySem.call fv vs) Q E s') : wpAny (model W.prog W.w) A (eval (.Call (.Name f fp) (e :: es) [] pos) env) Q E s := by
  cases hb with
  | fn h1 h2 h3 h4 h5 => exact builtin_go he X h1 h2 h3 h4 h5 hs hp ha h
  | ty h1 h2 h3 h4 h5 => exact type_go he X h1 h2 h3 h4 h5 hs hp ha h
theorem EvE.bcall {f : Str} {fv : Value} {fp pos : Pos} {e : Expr} {es : List Expr} {ds : List D} {d : D} (hb : BName W sc f fv) (hc : CallR W n fv ds d) (ha : EvL W n sc V (e :: es) ds)
    (hs : ∀ env, starEach (e :: es) env = (false, eval e env) :: starEach es env := by intro _; rfl) (hp : ∀ env, (backTo pos (starEach (e :: es) env)).any (·.1) = false := by intro _; rfl) : EvE W n sc V (.Call (.Name f fp) (e :: es) [] pos) d := fun A s₀ g₀ R env g s Q E he X hq =>
  bcall_go he X hb ha hs hp fun vs s1 g1 G1 r1 => hc A g1 s1 vs (X.gr G1).sv r1 Q E fun v s2 g2 G2 r2 => hq v s2 g2 (G1.trans G2) r2
end

/-! things to walk over -/
section
variable {W : Wd} {n k : Nat} {sc : Scope} {V V' V₁ V₂ : Vars} {o : Out}
/-- a list's iterator -/
noncomputable def itS (W : Wd) (a : Addr) (l : Addr) (nn : Nat) (vs : List Value) : Vis → List D → List (Addr × Obj) → Prop := fun g ds R => ∃ k o, k ≤ vs.length ∧ g l = some (lob vs nn) ∧ RDs W g (vs.drop k) ds ∧ R = [(a, o)] ∧ IterOb o l k
theorem RDs.drop_cons {g : Vis} {vs : List Value} {k : Nat} {d : D} {ds : List D} (h : RDs W g (vs.drop k) (d :: ds)) : ∃ v, vs[k]? = some v ∧ RD W g v d ∧ RDs W g (vs.drop (k + 1)) ds ∧ k < vs.length := by
  obtain ⟨v, r, e, hv, hr⟩ := h.cons_of
  have hk : k < vs.length := by
    rcases Nat.lt_or_ge k vs.length with h | h
    · exact h
    · rw [List.drop_eq_nil_of_le h] at e; cases e
  rw [List.drop_eq_getElem_cons hk] at e
  cases e
  exact ⟨_, by simp [hk], hv, hr, hk⟩
theorem RDs.drop_nil {g : Vis} {vs : List Value} {k : Nat} (h : RDs W g (vs.drop k) []) : vs[k]? = none := by
  have := h.nil_of
  rw [List.drop_eq_nil_iff] at this
  simpa using this
theorem lob_list {h : Heap} {l : Addr} {vs : List Value} {n : Nat} (e : h.get? l = some (lob vs n)) : h.IsList l vs.toArray := ⟨_, e, rfl, n, rfl⟩
theorem gnone {g : Vis} {s : Shared} (sub : ∀ b o, g b = some o → s.heap.get? b = some o) {b : Addr} (h : s.heap.get? b = none) : g b = none := by
  cases q : g b with
  | none => rfl
  | some o => have := sub b o q; rw [h] at this; cases this

theorem itr_list {a l : Addr} {nn : Nat} {vs : List Value} {tgt : Expr} (htgt : ∀ (A : Around) (s : Shared) (v : Value) (i : Nat) (Q : Unit → Shared → Prop) (E : Value → Shared → Prop), s.heap.IsListIter a l i → Q () s → wpAny (model W.prog W.w) A (letOwnedTupleGo tgt (.ref a) v) Q E s) :
    Itr W n (.ref a) tgt (itS W a l nn vs) where
  mono := fun g g' ds R m ⟨k, o, h1, h2, h3, h4, h5⟩ => ⟨k, o, h1, m _ _ h2, h3.mono m, h4, h5⟩
  nxt := by
    rintro A g s d ds R₁ Q E ok sub ⟨k, o, hk, hl, hr, rfl, ho⟩ pr nd hq
    obtain ⟨v, hv, rv, rr, hlt⟩ := hr.drop_cons
    have pr' := pr _ (.head _)
    refine wpAny_pyNext_list_item (i := k) ⟨_, pr'.1, ho⟩ (lob_list (sub _ _ hl)) (by simpa using hv) fun h' hi hs => ⟨v, rfl, ?_⟩
    refine htgt A _ v (k + 1) _ E hi ?_
    obtain ⟨o', ho', hi'⟩ := hi
    exact hq v h' s.toks [(a, o')] g (by simp) (by simp) (by intro p hp; rw [List.mem_singleton] at hp; subst hp; exact ho') (fun b q hb e => (hs.2 b (by simpa using hb)).trans e) (fun _ _ _ => rfl)
      (fun b q e => (hs.2 b fun z => by rw [z, pr'.2] at e; cases e).trans (sub b q e)) rv ⟨k + 1, o', hlt, hl, rr, rfl, hi'⟩
  fin := by
    rintro A g s R₁ Q E ok sub ⟨k, o, hk, hl, hr, rfl, ho⟩ pr nd hq
    refine wpAny_pyNext_list_end (i := k) ok.hd ⟨_, pr _ (.head _), ho⟩ (lob_list (sub _ _ hl)) (by simpa using hr.drop_nil) fun h' hs => ?_
    exact hq h' s.toks fun b q hb e => hs b q (by simpa using hb) e
  self := by
    rintro A g s ds R₁ Q E ⟨k, o, hk, hl, hr, rfl, ho⟩ pr hq
    exact wpAny_pyIter_listiter ⟨_, pr _ (.head _), ho⟩ hq
end
end
section
section
variable {W : Wd} {n k : Nat} {sc : Scope} {V V' V₁ V₂ : Vars} {o : Out}
theorem name_lets {A : Around} {s : Shared} {x : Str} {p : Pos} {it v : Value} {Q : Unit → Shared → Prop} {E : Value → Shared → Prop} (h : Q () s) : wpAny (model W.prog W.w) A (letOwnedTupleGo (.Name x p) it v) Q E s := wpAny_pure h
theorem EvI.list {e : Expr} {x : Str} {p : Pos} {ds : List D} (h : EvE W n sc V e (.list ds)) : EvI W n sc V e (.Name x p) ds := fun A s₀ g₀ R env g s Q E he X hq =>
  h A s₀ g₀ R env g s _ E he X fun v s1 g1 G1 r => by
    obtain ⟨l, j, vs, rfl, hl, hr⟩ := r.of_list
    have X1 := X.gr G1
    have nn : s1.heap.get? s1.heap.objs.size = none := get?_size _
    have n0 : s.heap.get? s1.heap.objs.size = none := by
      cases q : s.heap.get? s1.heap.objs.size with
      | none => rfl
      | some o => exact ((G1.keep _ _ q).ne (by assumption)).elim
    refine wpAny_pyIter_list (lob_list (X1.sub _ _ hl)) ?_
    exact hq _ _ g1 [(s1.heap.objs.size, _)] (itS W s1.heap.objs.size l j vs) (G1.trans (Gr.allocHid X1.sub _)) (itr_list fun A s v i Q E _ h => name_lets h) ⟨0, _, Nat.zero_le _, hl, hr, rfl, rfl, rfl⟩
      (by intro q hq; rw [List.mem_singleton] at hq; subst hq; exact ⟨n0, Heap.get?_push_size _ rfl, gnone X1.sub nn⟩) (by simp)

/-- a range's iterator -/
noncomputable def rangeD (a : Int) (k : Nat) (c : Int) : List D := (List.range k).map fun (i : Nat) => D.int (a + i * c)
theorem rangeD_succ {a c : Int} {k : Nat} : rangeD a (k + 1) c = .int a :: rangeD (a + c) k c := by
  unfold rangeD
  rw [List.range_succ_eq_map, List.map_cons, List.map_map]
  congr 1
  · simp
  · apply List.map_congr_left
    intro i _
    simp [Int.add_mul, Int.add_assoc, Int.add_comm]
noncomputable def rob (x left step : Int) : Obj := { cls := .type "range_iterator", dict := none, data := .fields #[rawInt x, rawInt left, rawInt step], slots := #[] }
noncomputable def rgS (a : Addr) (c : Int) : Vis → List D → List (Addr × Obj) → Prop := fun g ds R => ∃ (x : Int) (j : Nat), ds = rangeD x j c ∧ R = [(a, rob x j c)]
theorem itr_range {a : Addr} {c : Int} {x : Str} {p : Pos} : Itr W n (.ref a) (.Name x p) (rgS a c) where
  mono := fun g g' ds R m h => h
  nxt := by
    rintro A g s d ds R₁ Q E ok sub ⟨x, j, e, rfl⟩ pr nd hq
    cases j with
    | zero => cases e
    | succ j =>
      rw [rangeD_succ] at e
      cases e
      have pr' := pr _ (.head _)
      refine wpAny_pyNext_range_item pr'.1 (by omega) fun h' hi hs => ⟨_, rfl, name_lets ?_⟩
      refine hq _ h' _ [(a, rob (x + c) j c)] g (by simp) (by simp) (by
        intro p hp; rw [List.mem_singleton] at hp; subst hp
        have e2 : ((j + 1 : Nat) : Int) - 1 = (j : Int) := by omega
        rw [e2] at hi; exact hi) (fun b q hb e => (hs.2 b (by simpa using hb)).trans e) (fun _ _ _ => rfl)
        (fun b q e => (hs.2 b fun z => by rw [z, pr'.2] at e; cases e).trans (sub b q e)) (.int x _) ⟨_, j, rfl, rfl⟩
  fin := by
    rintro A g s R₁ Q E ok sub ⟨x, j, e, rfl⟩ pr nd hq
    cases j with
    | succ j => rw [rangeD_succ] at e; cases e
    | zero => exact wpAny_pyNext_range_end ok.hd (pr _ (.head _)) (by simp) fun h' hs => hq h' s.toks fun b q hb e => hs b q (by simpa using hb) e
  self := by
    rintro A g s ds R₁ Q E ⟨x, j, e, rfl⟩ pr hq
    exact wpAny_pyIter_rangeiter (pr _ (.head _)) hq
theorem range_go {A : Around} {s₀ s s1 : Shared} {g₀ g g1 : Vis} {R : List (Addr × Obj)} {env : Env} {a b c : Int} {t u v : Tok} {tk : Nat} {x : Str} {p : Pos} {j : Nat} {Q : Value → Shared → Prop} {E : Value → Shared → Prop} (X : St W n A s₀ g₀ R env V g s) (G1 : Gr A s g s1 g1)
    (hsm : Builtin.Range.small a b c = true) (hj : Builtin.Range.rangeSize a b c = j)
    (hq : ∀ it s' g' R₁ S, Gr A s g s' g' → Itr W n it (.Name x p) S → S g' (rangeD a j c) R₁ → (∀ p ∈ R₁, s.heap.get? p.1 = none ∧ s'.heap.get? p.1 = some p.2 ∧ g' p.1 = none) → (R₁.map (·.1)).Nodup → Q it s') :
    wpAny (model W.prog W.w) A (pyIter (.ref s1.heap.objs.size)) Q E { s1 with heap := s1.heap.push { cls := .type "range", data := .fields #[.int a t, .int b u, .int c v] }, toks := tk } := by
  have X1 := X.gr G1
  have G2 := (Gr.allocHid (A := A) X1.sub { cls := .type "range", data := .fields #[.int a t, .int b u, .int c v] }).tok tk
  have X2 := X1.gr G2
  refine wpAny_pyIter_range (a := a) (b := b) (c := c) (t := t) (u := u) (v := v) (IsRange.new ..) hsm ?_
  have G3 := Gr.allocHid (A := A) X2.sub (rob a j c)
  have nn := get?_size { s1 with heap := s1.heap.push { cls := .type "range", data := .fields #[.int a t, .int b u, .int c v] }, toks := tk }.heap
  have G12 := G1.trans G2
  rw [hj]
  refine hq _ _ g1 [(_, rob a j c)] (rgS _ c) (G12.trans G3) itr_range ⟨a, j, rfl, rfl⟩ (by
    intro q hq; rw [List.mem_singleton] at hq; subst hq
    refine ⟨?_, Heap.get?_push_size _ rfl, gnone X2.sub nn⟩
    cases q : s.heap.get? _ with
    | none => rfl
    | some o => exact ((G12.keep _ _ q).ne (by assumption)).elim) (by simp)
theorem EvI.range1 {rp pos : Pos} {e : Expr} {x : Str} {p : Pos} {N : Int} (hb : BName W sc "range" (.type "range")) (he1 : EvE W n sc V e (.int N)) (h0 : -(2 ^ 62) ≤ N) (h1 : N < 2 ^ 62) (hs : ∀ env, starEach [e] env = (false, eval e env) :: starEach [] env := by intro _; rfl) (hp : ∀ env, (backTo pos (starEach [e] env)).any (·.1) = false := by intro _; rfl) :
    EvI W n sc V (.Call (.Name "range" rp) [e] [] pos) (.Name x p) (rangeD 0 N.toNat 1) := fun A s₀ g₀ R env g s Q E he X hq => by
  refine bcall_go he X hb (EvL.cons he1 EvL.nil hs) hs hp fun vs s1 g1 G1 r => ?_
  obtain ⟨v, us, rfl, rv, ru⟩ := r.cons_of
  obtain ⟨t, rfl⟩ := rv.of_int
  rw [ru.nil_of]
  refine call_range_1 ?_
  exact range_go X G1 (small_one (by decide) (by decide) h0 h1) (by rw [rangeSize_one]; split <;> omega) hq
theorem EvI.range2 {rp pos : Pos} {e e2 : Expr} {x : Str} {p : Pos} {a b : Int} (hb : BName W sc "range" (.type "range")) (he1 : EvE W n sc V e (.int a)) (he2 : EvE W n sc V e2 (.int b)) (h0 : -(2 ^ 62) ≤ a) (h1 : a < 2 ^ 62) (h2 : -(2 ^ 62) ≤ b) (h3 : b < 2 ^ 62)
    (hs : ∀ env, starEach [e, e2] env = (false, eval e env) :: starEach [e2] env := by intro _; rfl) (hs2 : ∀ env, starEach [e2] env = (false, eval e2 env) :: starEach [] env := by intro _; rfl) (hp : ∀ env, (backTo pos (starEach [e, e2] env)).any (·.1) = false := by intro _; rfl) :
    EvI W n sc V (.Call (.Name "range" rp) [e, e2] [] pos) (.Name x p) (rangeD a (b - a).toNat 1) := fun A s₀ g₀ R env g s Q E he X hq => by
  refine bcall_go he X hb (EvL.cons he1 (EvL.cons he2 EvL.nil hs2) hs) hs hp fun vs s1 g1 G1 r => ?_
  obtain ⟨v, us, rfl, rv, ru⟩ := r.cons_of
  obtain ⟨v2, us2, rfl, rv2, ru2⟩ := ru.cons_of
  obtain ⟨t, rfl⟩ := rv.of_int
  obtain ⟨t2, rfl⟩ := rv2.of_int
  rw [ru2.nil_of]
  refine call_range_2 ?_
  exact range_go X G1 (small_one h0 h1 h2 h3) (by rw [rangeSize_one]; split <;> omega) hq
theorem EvI.range3 {rp pos : Pos} {e e2 e3 : Expr} {x : Str} {p : Pos} {a b c : Int} {j : Nat} (hb : BName W sc "range" (.type "range")) (he1 : EvE W n sc V e (.int a)) (he2 : EvE W n sc V e2 (.int b)) (he3 : EvE W n sc V e3 (.int c)) (hc : c ≠ 0) (hsm : Builtin.Range.small a b c = true) (hj : Builtin.Range.rangeSize a b c = j) (hpy : Builtin.divisionGoesByPylong (b - a) c = false)
    (hs : ∀ env, starEach [e, e2, e3] env = (false, eval e env) :: starEach [e2, e3] env := by intro _; rfl) (hs2 : ∀ env, starEach [e2, e3] env = (false, eval e2 env) :: starEach [e3] env := by intro _; rfl) (hs3 : ∀ env, starEach [e3] env = (false, eval e3 env) :: starEach [] env := by intro _; rfl) (hp : ∀ env, (backTo pos (starEach [e, e2, e3] env)).any (·.1) = false := by intro _; rfl) :
    EvI W n sc V (.Call (.Name "range" rp) [e, e2, e3] [] pos) (.Name x p) (rangeD a j c) := fun A s₀ g₀ R env g s Q E he X hq => by
  refine bcall_go he X hb (EvL.cons he1 (EvL.cons he2 (EvL.cons he3 EvL.nil hs3) hs2) hs) hs hp fun vs s1 g1 G1 r => ?_
  obtain ⟨v, us, rfl, rv, ru⟩ := r.cons_of
  obtain ⟨v2, us2, rfl, rv2, ru2⟩ := ru.cons_of
  obtain ⟨v3, us3, rfl, rv3, ru3⟩ := ru2.cons_of
  obtain ⟨t, rfl⟩ := rv.of_int
  obtain ⟨t2, rfl⟩ := rv2.of_int
  obtain ⟨t3, rfl⟩ := rv3.of_int
  rw [ru3.nil_of]
  refine call_range_3 hc ?_ (.inl hpy)
  exact range_go X G1 hsm hj hq

/-- a string's iterator -/
noncomputable def strD (x : Str) : List D := x.cps.toList.map fun c => D.str ⟨#[c]⟩
noncomputable def stS (a : Addr) (x : Str) (t : Tok) : Vis → List D → List (Addr × Obj) → Prop := fun g ds R => ∃ k o, ds = (strD x).drop k ∧ R = [(a, o)] ∧ o.cls = .type "str_ascii_iterator" ∧ o.data = .fields #[.str x t, .int k 0]
theorem itr_str {a : Addr} {y : Str} {t : Tok} {x : Str} {p : Pos} : Itr W n (.ref a) (.Name x p) (stS a y t) where
  mono := fun g g' ds R m h => h
  nxt := by
    rintro A g s d ds R₁ Q E ok sub ⟨k, o, e, rfl, hc, hd⟩ pr nd hq
    have pr' := pr _ (.head _)
    have hk : k < y.cps.size := by
      rcases Nat.lt_or_ge k y.cps.size with h | h
      · exact h
      · rw [List.drop_eq_nil_of_le (by simp [strD]; exact h)] at e; cases e
    have hk' : k < (strD y).length := by simp [strD]; exact hk
    rw [List.drop_eq_getElem_cons hk'] at e
    cases e
    refine wpAny_pyNext_ascii_item (i := k) ⟨_, pr'.1, hc, hd⟩ (by simp [hk]; rfl) fun h' hi hs => ⟨_, rfl, name_lets ?_⟩
    obtain ⟨o', ho', hc', hd'⟩ := hi
    refine hq _ h' _ [(a, o')] g (by simp) (by simp) (by intro p hp; rw [List.mem_singleton] at hp; subst hp; exact ho') (fun b q hb e => (hs.2 b (by simpa using hb)).trans e) (fun _ _ _ => rfl)
      (fun b q e => (hs.2 b fun z => by rw [z, pr'.2] at e; cases e).trans (sub b q e)) ?_ ⟨k + 1, o', rfl, rfl, hc', hd'⟩
    simp only [strD, List.getElem_map, Array.getElem_toList]
    exact .str _ _
  fin := by
    rintro A g s R₁ Q E ok sub ⟨k, o, e, rfl, hc, hd⟩ pr nd hq
    have hk : y.cps.size ≤ k := by
      have := congrArg List.length e
      simp [strD] at this
      omega
    exact wpAny_pyNext_ascii_end (i := k) ok.hd ⟨_, pr _ (.head _), hc, hd⟩ (by simp [hk]) fun h' hs => hq h' s.toks fun b q hb e => hs b q (by simpa using hb) e
  self := by
    rintro A g s ds R₁ Q E ⟨k, o, e, rfl, hc, hd⟩ pr hq
    exact wpAny_pyIter_striter_ascii ⟨_, pr _ (.head _), hc, hd⟩ hq
theorem EvI.str {e : Expr} {x : Str} {p : Pos} {y : Str} (h : EvE W n sc V e (.str y)) (ha : y.cps.all (· < 128) = true) : EvI W n sc V e (.Name x p) (strD y) := fun A s₀ g₀ R env g s Q E he X hq =>
  h A s₀ g₀ R env g s _ E he X fun v s1 g1 G1 r => by
    obtain ⟨t, rfl⟩ := r.of_str
    have X1 := X.gr G1
    have nn : s1.heap.get? s1.heap.objs.size = none := get?_size _
    have n0 : s.heap.get? s1.heap.objs.size = none := by
      cases q : s.heap.get? s1.heap.objs.size with
      | none => rfl
      | some o => exact ((G1.keep _ _ q).ne (by assumption)).elim
    refine wpAny_pyIter_ascii ha ?_
    exact hq _ _ g1 [(s1.heap.objs.size, _)] (stS s1.heap.objs.size y t) (G1.trans (Gr.allocHid X1.sub _)) itr_str ⟨0, _, rfl, rfl, rfl, rfl⟩
      (by intro q hq; rw [List.mem_singleton] at hq; subst hq; exact ⟨n0, Heap.get?_push_size _ rfl, gnone X1.sub nn⟩) (by simp)
end
end
section
section
variable {W : Wd} {n k : Nat} {sc : Scope} {V V' V₁ V₂ : Vars} {o : Out}
/-- enumerate over a list -/
noncomputable def enumD : Nat → List D → List D
  | _, [] => []
  | i, d :: r => .tuple [.int i, d] :: enumD (i + 1) r
noncomputable def eob (it : Addr) (i : Int) (f0 old : Value) : Obj := { cls := .type "enumerate", dict := none, data := .fields #[f0, .bool false, .ref it, rawInt i, .none, old], slots := #[] }
noncomputable def enS (W : Wd) (e a l : Addr) (nn : Nat) (vs : List Value) : Vis → List D → List (Addr × Obj) → Prop := fun g ds R => ∃ k o old es, k ≤ vs.length ∧ g l = some (lob vs nn) ∧ RDs W g (vs.drop k) es ∧ ds = enumD k es ∧ R = [(e, eob a k .none old), (a, o)] ∧ IterOb o l k
theorem nin_hd {c x : Addr} {l : List Addr} (h : c ∉ x :: l) : c ≠ x := fun e => h (e ▸ .head _)
theorem nin_tl {c x : Addr} {l : List Addr} (h : c ∉ x :: l) : c ∉ l := fun e => h (.tail _ e)
theorem pair_rd {g : Vis} {a : Addr} {u v : Value} {x y : D} (h : g a = some (tob [u, v] 0)) (hu : RD W g u x) (hv : RD W g v y) : RD W g (.ref a) (.tuple [x, y]) := .tuple a 0 [u, v] [x, y] h rfl (RDs.cons hu (RDs.cons hv RDs.nil)).2
theorem itr_enum {e a l : Addr} {nn : Nat} {vs : List Value} {ts : List Expr} {kk : Nat} {p : Pos} (hea : e ≠ a) : Itr W n (.ref e) (.Tuple ts kk p) (enS W e a l nn vs) where
  mono := fun g g' ds R m ⟨k, o, old, es, h1, h2, h3, h4, h5, h6⟩ => ⟨k, o, old, es, h1, m _ _ h2, h3.mono m, h4, h5, h6⟩
  nxt := by
    rintro A g s d ds R₁ Q E ok sub ⟨k, o, old, es, hk, hl, hr, e1, rfl, ho⟩ pr nd hq
    cases es with
    | nil => cases e1
    | cons d' es =>
      cases e1
      obtain ⟨v, hv, rv, rr, hlt⟩ := hr.drop_cons
      have pe := pr _ (.head _)
      have pa := pr (a, o) (.tail _ (.head _))
      refine wpAny_pyNext_enum_item (i := k) (old := old) pe.1 ⟨_, pa.1, ho⟩ (lob_list (sub _ _ hl)) (by simpa using hv) hea fun h1 hi hit ht hsz hk1 => ⟨_, rfl, ?_⟩
      refine wpAny_letOwnedTupleGo_enum (i := (k : Int) + 1) (item := v) hi fun h2 he2 hs2 => ?_
      obtain ⟨o', ho', hi'⟩ := hit
      have nn0 : s.heap.get? s.heap.objs.size = none := get?_size _
      have ne : s.heap.objs.size ≠ e := fun z => by have := pe.1; rw [← z, nn0] at this; cases this
      have na : s.heap.objs.size ≠ a := fun z => by have := pa.1; rw [← z, nn0] at this; cases this
      have kp : ∀ b q, b ≠ e → b ≠ a → s.heap.get? b = some q → h2.get? b = some q := fun b q h1 h2 e => (hs2.2 b h1).trans (hk1 b q h1 h2 e)
      have ht2 : h2.get? s.heap.objs.size = some (tob [.int k s.toks, v] 0) := (hs2.2 _ ne).trans ht
      have gm : ∀ b q, g b = some q → seen g s.heap.objs.size (tob [.int k s.toks, v] 0) b = some q := fun b q h => by rw [seen_ne fun z => by have := sub b q h; rw [z, nn0] at this; cases this]; exact h
      refine hq _ h2 _ [(e, eob a ((k + 1 : Nat) : Int) .none v), (a, o')] (seen g s.heap.objs.size (tob [.int k s.toks, v] 0)) (fun p hp => List.mem_map_of_mem (f := (·.1)) hp) nd ?_ ?_ (fun b q h => seen_ne fun z => by rw [z, nn0] at h; cases h) ?_ (pair_rd (seen_self _ _ _) (.int _ _) (rv.mono gm))
        ⟨k + 1, o', v, es, hlt, gm _ _ hl, rr.mono gm, rfl, rfl, hi'⟩
      · exact List.forall_mem_cons.mpr ⟨he2, List.forall_mem_cons.mpr ⟨(hs2.2 a (Ne.symm hea)).trans ho', fun _ h => nomatch h⟩⟩
      · exact fun b q hb => kp b q (nin_hd hb) (nin_hd (nin_tl hb))
      · intro b q h
        by_cases hb : b = s.heap.objs.size
        · subst hb; rw [seen_self] at h; cases h; exact ht2
        · rw [seen_ne hb] at h
          exact kp b q (fun z => by rw [z, pe.2] at h; cases h) (fun z => by rw [z, pa.2] at h; cases h) (sub b q h)
  fin := by
    rintro A g s R₁ Q E ok sub ⟨k, o, old, es, hk, hl, hr, e1, rfl, ho⟩ pr nd hq
    cases es with
    | cons d' es => cases e1
    | nil =>
      refine wpAny_pyNext_enum_end (i := k) ok.hd (pr _ (.head _)) ⟨_, pr (a, o) (.tail _ (.head _)), ho⟩ (lob_list (sub _ _ hl)) (by simpa using hr.drop_nil) fun h' hs => hq h' s.toks fun b q hb h => hs b q (nin_hd (nin_tl hb)) h
  self := by
    rintro A g s ds R₁ Q E ⟨k, o, old, es, hk, hl, hr, e1, rfl, ho⟩ pr hq
    exact wpAny_pyIter_enum (pr _ (.head _)) hq
theorem EvI.enum {rp pos : Pos} {e : Expr} {ts : List Expr} {kk : Nat} {p : Pos} {ds : List D} (hb : BName W sc "enumerate" (.type "enumerate")) (he1 : EvE W n sc V e (.list ds)) (hs : ∀ env, starEach [e] env = (false, eval e env) :: starEach [] env := by intro _; rfl) (hp : ∀ env, (backTo pos (starEach [e] env)).any (·.1) = false := by intro _; rfl) :
    EvI W n sc V (.Call (.Name "enumerate" rp) [e] [] pos) (.Tuple ts kk p) (enumD 0 ds) := fun A s₀ g₀ R env g s Q E he X hq => by
  refine bcall_go he X hb (EvL.cons he1 EvL.nil hs) hs hp fun vs s1 g1 G1 r => ?_
  obtain ⟨v, us, rfl, rv, ru⟩ := r.cons_of
  obtain ⟨l, j, ws, rfl, hl, hr⟩ := rv.of_list
  rw [ru.nil_of]
  have X1 := X.gr G1
  refine call_enumerate_list (lob_list (X1.sub _ _ hl)) fun h' hE hI hsz kp => ?_
  obtain ⟨o', ho', hi'⟩ := hI
  have G2 : Gr A s1 g1 { s1 with heap := h' } g1 := ⟨⟨h', s1.toks, rfl⟩, fun b o e => .inl ((kp) b o e), fun _ _ _ => rfl, fun b q e => kp b q (X1.sub b q e)⟩
  refine wpAny_pyIter_enum hE ?_
  have n1 : ∀ b, s1.heap.objs.size ≤ b → s1.heap.get? b = none := fun b hb => Heap.get?_none_of_le hb
  have n0 : ∀ b, s1.heap.objs.size ≤ b → s.heap.get? b = none := fun b hb => by
    cases q : s.heap.get? b with
    | none => rfl
    | some o => exact ((G1.keep _ _ q).ne (n1 b hb)).elim
  refine hq _ _ g1 [(s1.heap.objs.size + 1, eob s1.heap.objs.size ((0 : Nat) : Int) .none .none), (s1.heap.objs.size, o')] (enS W _ _ l j ws) (G1.trans G2) (itr_enum (Nat.succ_ne_self _)) ⟨0, o', .none, ds, Nat.zero_le _, hl, hr, rfl, rfl, hi'⟩ ?_ (by simp)
  intro q hq
  rcases List.mem_cons.mp hq with rfl | hq
  · exact ⟨n0 _ (Nat.le_succ _), hE, gnone X1.sub (n1 _ (Nat.le_succ _))⟩
  · rw [List.mem_singleton] at hq; subst hq
    exact ⟨n0 _ (Nat.le_refl _), ho', gnone X1.sub (n1 _ (Nat.le_refl _))⟩

/-- zip of two lists -/
noncomputable def zipD (as bs : List D) : List D := (as.zip bs).map fun p => .tuple [p.1, p.2]
noncomputable def zob (TI TO : Addr) (f0 : Value) : Obj := { cls := .type "zip", dict := none, data := .fields #[f0, .bool false, .bool false, .ref TI, .ref TO], slots := #[] }
noncomputable def zpS (W : Wd) (z TI TO i1 i2 l1 l2 : Addr) (n1 n2 : Nat) (us vs : List Value) : Vis → List D → List (Addr × Obj) → Prop := fun g ds R => ∃ k o1 o2 a b as bs, k ≤ us.length ∧ k ≤ vs.length ∧ g l1 = some (lob us n1) ∧ g l2 = some (lob vs n2) ∧ RDs W g (us.drop k) as ∧ RDs W g (vs.drop k) bs ∧ ds = zipD as bs ∧
  R = [(z, zob TI TO .none), (TO, tob [a, b] 0), (i1, o1), (i2, o2), (TI, tob [.ref i1, .ref i2] 0)] ∧ IterOb o1 l1 k ∧ IterOb o2 l2 k
theorem itr_zip {z TI TO i1 i2 l1 l2 : Addr} {n1 n2 : Nat} {us vs : List Value} {ts : List Expr} {kk : Nat} {p : Pos} (D : ZipApart z TI TO i1 i2 l1 l2) : Itr W n (.ref z) (.Tuple ts kk p) (zpS W z TI TO i1 i2 l1 l2 n1 n2 us vs) where
  mono := fun g g' ds R m ⟨k, o1, o2, a, b, as, bs, h1, h2, h3, h4, h5, h6, h7, h8, h9⟩ => ⟨k, o1, o2, a, b, as, bs, h1, h2, m _ _ h3, m _ _ h4, h5.mono m, h6.mono m, h7, h8, h9⟩
  nxt := by
    rintro A g s d ds R₁ Q E ok sub ⟨k, o1, o2, a, b, as, bs, hk1, hk2, hl1, hl2, hr1, hr2, e1, rfl, ho1, ho2⟩ pr nd hq
    cases as with
    | nil => cases e1
    | cons x as =>
      cases bs with
      | nil => cases e1
      | cons y bs =>
        cases e1
        obtain ⟨u, hu, ru, rru, hlt1⟩ := hr1.drop_cons
        obtain ⟨v, hv, rv, rrv, hlt2⟩ := hr2.drop_cons
        have pz := pr _ (.head _)
        have pO := pr _ (.tail _ (.head _))
        have p1 := pr _ (.tail _ (.tail _ (.head _)))
        have p2 := pr _ (.tail _ (.tail _ (.tail _ (.head _))))
        have pI := pr _ (.tail _ (.tail _ (.tail _ (.tail _ (.head _)))))
        refine wpAny_pyNext_zip_item (k1 := k) (k2 := k) (x := u) (y := v) (a := a) (b := b) D pz.1 pI.1 pO.1 ⟨_, p1.1, ho1⟩ ⟨_, p2.1, ho2⟩ (lob_list (sub _ _ hl1)) (lob_list (sub _ _ hl2)) (by simpa using hu) (by simpa using hv) fun h1 hz1 hO1 hi1 hi2 ht hsz hkp => ⟨_, rfl, ?_⟩
        refine wpAny_letOwnedTupleGo_zip hz1 fun h2 hz2 hs2 => ?_
        obtain ⟨o1', ho1', hi1'⟩ := hi1
        obtain ⟨o2', ho2', hi2'⟩ := hi2
        have nn0 : s.heap.get? s.heap.objs.size = none := get?_size _
        have ne : ∀ {c q}, s.heap.get? c = some q → s.heap.objs.size ≠ c := fun {c q} h e => by rw [← e, nn0] at h; cases h
        have kp : ∀ c q, c ≠ z → c ≠ TO → c ≠ i1 → c ≠ i2 → s.heap.get? c = some q → h2.get? c = some q := fun c q a1 a2 a3 a4 e => (hs2.2 c a1).trans (hkp c q a1 a2 a3 a4 e)
        have ht2 : h2.get? s.heap.objs.size = some (tob [u, v] 0) := (hs2.2 _ (ne pz.1)).trans ht
        have gm : ∀ c q, g c = some q → seen g s.heap.objs.size (tob [u, v] 0) c = some q := fun c q h => by rw [seen_ne fun w => by have := sub c q h; rw [w, nn0] at this; cases this]; exact h
        refine hq _ h2 _ [(z, zob TI TO .none), (TO, tob [u, v] 0), (i1, o1'), (i2, o2'), (TI, tob [.ref i1, .ref i2] 0)] (seen g s.heap.objs.size (tob [u, v] 0)) (fun p hp => List.mem_map_of_mem (f := (·.1)) hp) nd ?_ (fun c q hb => kp c q (nin_hd hb) (nin_hd (nin_tl hb)) (nin_hd (nin_tl (nin_tl hb))) (nin_hd (nin_tl (nin_tl (nin_tl hb))))) (fun c q h => seen_ne fun w => by rw [w, nn0] at h; cases h) ?_ (pair_rd (seen_self _ _ _) (ru.mono gm) (rv.mono gm))
          ⟨k + 1, o1', o2', u, v, as, bs, hlt1, hlt2, gm _ _ hl1, gm _ _ hl2, rru.mono gm, rrv.mono gm, rfl, rfl, hi1', hi2'⟩
        · exact List.forall_mem_cons.mpr ⟨hz2, List.forall_mem_cons.mpr ⟨(hs2.2 _ D.TOz).trans hO1, List.forall_mem_cons.mpr ⟨(hs2.2 _ D.i1z).trans ho1', List.forall_mem_cons.mpr ⟨(hs2.2 _ D.i2z).trans ho2', List.forall_mem_cons.mpr ⟨kp _ _ D.TIz D.TITO D.TIi1 D.TIi2 pI.1, fun _ h => nomatch h⟩⟩⟩⟩⟩
        · intro c q h
          by_cases hb : c = s.heap.objs.size
          · subst hb; rw [seen_self] at h; cases h; exact ht2
          · rw [seen_ne hb] at h
            exact kp c q (fun w => by rw [w, pz.2] at h; cases h) (fun w => by rw [w, pO.2] at h; cases h) (fun w => by rw [w, p1.2] at h; cases h) (fun w => by rw [w, p2.2] at h; cases h) (sub c q h)
  fin := by
    rintro A g s R₁ Q E ok sub ⟨k, o1, o2, a, b, as, bs, hk1, hk2, hl1, hl2, hr1, hr2, e1, rfl, ho1, ho2⟩ pr nd hq
    have hend : us[k]? = none ∨ vs[k]? = none := by
      cases as with
      | nil => exact .inl hr1.drop_nil
      | cons x as => cases bs with
        | nil => exact .inr hr2.drop_nil
        | cons y bs => cases e1
    refine wpAny_pyNext_zip_end (k1 := k) (k2 := k) (a := a) (b := b) ok.hd D (pr _ (.head _)) (pr _ (.tail _ (.tail _ (.tail _ (.tail _ (.head _)))))) (pr _ (.tail _ (.head _))) ⟨_, pr _ (.tail _ (.tail _ (.head _))), ho1⟩ ⟨_, pr _ (.tail _ (.tail _ (.tail _ (.head _)))), ho2⟩ (lob_list (sub _ _ hl1)) (lob_list (sub _ _ hl2)) (by simpa using hend) fun h' hs => hq h' s.toks fun c q hb h => hs c q (nin_hd hb) (nin_hd (nin_tl hb)) (nin_hd (nin_tl (nin_tl hb))) (nin_hd (nin_tl (nin_tl (nin_tl hb)))) h
  self := by
    rintro A g s ds R₁ Q E ⟨k, o1, o2, a, b, as, bs, hk1, hk2, hl1, hl2, hr1, hr2, e1, rfl, ho1, ho2⟩ pr hq
    exact wpAny_pyIter_zip (pr _ (.head _)) hq
theorem EvI.zip {rp pos : Pos} {e e2 : Expr} {ts : List Expr} {kk : Nat} {p : Pos} {as bs : List D} (hb : BName W sc "zip" (.type "zip")) (he1 : EvE W n sc V e (.list as)) (he2 : EvE W n sc V e2 (.list bs))
    (hs : ∀ env, starEach [e, e2] env = (false, eval e env) :: starEach [e2] env := by intro _; rfl) (hs2 : ∀ env, starEach [e2] env = (false, eval e2 env) :: starEach [] env := by intro _; rfl) (hp : ∀ env, (backTo pos (starEach [e, e2] env)).any (·.1) = false := by intro _; rfl) :
    EvI W n sc V (.Call (.Name "zip" rp) [e, e2] [] pos) (.Tuple ts kk p) (zipD as bs) := fun A s₀ g₀ R env g s Q E he X hq => by
  refine bcall_go he X hb (EvL.cons he1 (EvL.cons he2 EvL.nil hs2) hs) hs hp fun vs s1 g1 G1 r => ?_
  obtain ⟨v, us, rfl, rv, ru⟩ := r.cons_of
  obtain ⟨v2, us2, rfl, rv2, ru2⟩ := ru.cons_of
  obtain ⟨l1, j1, w1, rfl, hl1, hr1⟩ := rv.of_list
  obtain ⟨l2, j2, w2, rfl, hl2, hr2⟩ := rv2.of_list
  rw [ru2.nil_of]
  have X1 := X.gr G1
  refine call_zip_2 (lob_list (X1.sub _ _ hl1)) (lob_list (X1.sub _ _ hl2)) fun h' hZ hTI hTO hI1 hI2 hsz kp => ?_
  obtain ⟨o1, ho1, hi1⟩ := hI1
  obtain ⟨o2, ho2, hi2⟩ := hI2
  have G2 : Gr A s1 g1 { s1 with heap := h' } g1 := ⟨⟨h', s1.toks, rfl⟩, fun b o e => .inl ((kp) b o e), fun _ _ _ => rfl, fun b q e => kp b q (X1.sub b q e)⟩
  refine wpAny_pyIter_zip hZ ?_
  have n1 : ∀ b, s1.heap.objs.size ≤ b → s1.heap.get? b = none := fun b hb => Heap.get?_none_of_le hb
  have n0 : ∀ b, s1.heap.objs.size ≤ b → s.heap.get? b = none := fun b hb => by
    cases q : s.heap.get? b with
    | none => rfl
    | some o => exact ((G1.keep _ _ q).ne (n1 b hb)).elim
  have l1s : l1 < s1.heap.objs.size := Heap.lt_size (X1.sub _ _ hl1)
  have l2s : l2 < s1.heap.objs.size := Heap.lt_size (X1.sub _ _ hl2)
  generalize s1.heap.objs.size = N at *
  have Dz : ZipApart (N + 4) (N + 2) (N + 3) N (N + 1) l1 l2 := by
    have q1 : ∀ i, l1 ≠ N + i := fun i => Nat.ne_of_lt (Nat.lt_of_lt_of_le l1s (Nat.le_add_right ..))
    have q2 : ∀ i, l2 ≠ N + i := fun i => Nat.ne_of_lt (Nat.lt_of_lt_of_le l2s (Nat.le_add_right ..))
    constructor
    all_goals first
      | exact q1 _
      | exact q2 _
      | exact q1 0
      | exact q2 0
      | exact Nat.ne_of_lt (by omega)
      | exact Nat.ne_of_gt (by omega)
  refine hq _ _ g1 [(N + 4, zob (N + 2) (N + 3) .none), (N + 3, tob [.none, .none] 0), (N, o1), (N + 1, o2), (N + 2, tob [.ref N, .ref (N + 1)] 0)] (zpS W _ _ _ _ _ l1 l2 j1 j2 w1 w2) (G1.trans G2) (itr_zip Dz) ⟨0, o1, o2, .none, .none, as, bs, Nat.zero_le _, Nat.zero_le _, hl1, hl2, hr1, hr2, rfl, rfl, hi1, hi2⟩ ?_ ?_
  · intro q hq
    simp only [List.mem_cons, List.not_mem_nil, or_false] at hq
    have w : ∀ i, s.heap.get? (N + i) = none ∧ g1 (N + i) = none := fun i => ⟨n0 _ (Nat.le_add_right ..), gnone X1.sub (n1 _ (Nat.le_add_right ..))⟩
    rcases hq with rfl | rfl | rfl | rfl | rfl
    · exact ⟨(w 4).1, hZ, (w 4).2⟩
    · exact ⟨(w 3).1, hTO, (w 3).2⟩
    · exact ⟨(w 0).1, ho1, (w 0).2⟩
    · exact ⟨(w 1).1, ho2, (w 1).2⟩
    · exact ⟨(w 2).1, hTI, (w 2).2⟩
  · simp
end
end
section
section
variable {W : Wd} {n k : Nat} {sc : Scope} {V V' V₁ V₂ : Vars} {o : Out}
theorem VR.tok {A : Around} {g : Vis} {s : Shared} {d : D} {t : Sem Value} (sub : ∀ b o, g b = some o → s.heap.get? b = some o) (h : ∀ (Q E : Value → Shared → Prop), (∀ v tk, RD W g v d → Q v { s with toks := tk }) → wpAny (model W.prog W.w) A t Q E s) : VR W n t A g s d := fun Q E hq => h Q E fun v tk r => hq v _ g (Gr.tok0 sub tk) r
theorem VR.same {A : Around} {g : Vis} {s : Shared} {d : D} {t : Sem Value} (sub : ∀ b o, g b = some o → s.heap.get? b = some o) (h : ∀ (Q E : Value → Shared → Prop), (∀ v, RD W g v d → Q v s) → wpAny (model W.prog W.w) A t Q E s) : VR W n t A g s d := fun Q E hq => h Q E fun v r => hq v _ g (Gr.refl sub) r

section auxi
variable {a b : Int}
theorem BinR.add : BinR W n .Add (.int a) (.int b) (.int (a + b)) := fun A g s va vb sv ra rb => by
  obtain ⟨t, rfl⟩ := ra.of_int; obtain ⟨u, rfl⟩ := rb.of_int
  exact VR.tok sv.sub fun Q E hq => P.add_int (hq _ _ (.int _ _))
theorem InpR.add : InpR W n .Add (.int a) (.int b) (.int (a + b)) := fun A g s va vb sv ra rb => by
  obtain ⟨t, rfl⟩ := ra.of_int; obtain ⟨u, rfl⟩ := rb.of_int
  exact VR.tok sv.sub fun Q E hq => P.iadd_int (hq _ _ (.int _ _))
theorem BinR.sub : BinR W n .Sub (.int a) (.int b) (.int (a - b)) := fun A g s va vb sv ra rb => by
  obtain ⟨t, rfl⟩ := ra.of_int; obtain ⟨u, rfl⟩ := rb.of_int
  exact VR.tok sv.sub fun Q E hq => P.sub_int (hq _ _ (.int _ _))
theorem BinR.mul (h : IntMulOk a b) : BinR W n .Mult (.int a) (.int b) (.int (a * b)) := fun A g s va vb sv ra rb => by
  obtain ⟨t, rfl⟩ := ra.of_int; obtain ⟨u, rfl⟩ := rb.of_int
  exact VR.tok sv.sub fun Q E hq => P.mul_int (hq _ _ (.int _ _)) h
theorem BinR.fdiv (hb : b ≠ 0) (hp : Builtin.divisionGoesByPylong a b = false) : BinR W n .FloorDiv (.int a) (.int b) (.int (a.fdiv b)) := fun A g s va vb sv ra rb => by
  obtain ⟨t, rfl⟩ := ra.of_int; obtain ⟨u, rfl⟩ := rb.of_int
  exact VR.tok sv.sub fun Q E hq => PyProof.Rows.floordiv_int hb (hq _ _ (.int _ _)) (.inl hp)
theorem BinR.fmod (hb : b ≠ 0) : BinR W n .Mod (.int a) (.int b) (.int (a.fmod b)) := fun A g s va vb sv ra rb => by
  obtain ⟨t, rfl⟩ := ra.of_int; obtain ⟨u, rfl⟩ := rb.of_int
  exact VR.tok sv.sub fun Q E hq => PyProof.Rows.mod_int' hb (hq _ _ (.int _ _))
theorem BinR.and : BinR W n .BitAnd (.int a) (.int b) (.int (Builtin.bitAnd a b)) := fun A g s va vb sv ra rb => by
  obtain ⟨t, rfl⟩ := ra.of_int; obtain ⟨u, rfl⟩ := rb.of_int
  exact VR.tok sv.sub fun Q E hq => PyProof.Rows.and_int (hq _ _ (.int _ _))
theorem BinR.or : BinR W n .BitOr (.int a) (.int b) (.int (Builtin.bitOr a b)) := fun A g s va vb sv ra rb => by
  obtain ⟨t, rfl⟩ := ra.of_int; obtain ⟨u, rfl⟩ := rb.of_int
  exact VR.tok sv.sub fun Q E hq => PyProof.Rows.or_int (hq _ _ (.int _ _))
theorem InpR.or : InpR W n .BitOr (.int a) (.int b) (.int (Builtin.bitOr a b)) := fun A g s va vb sv ra rb => by
  obtain ⟨t, rfl⟩ := ra.of_int; obtain ⟨u, rfl⟩ := rb.of_int
  exact VR.tok sv.sub fun Q E hq => PyProof.Rows.ior_int (hq _ _ (.int _ _))
theorem BinR.xor : BinR W n .BitXor (.int a) (.int b) (.int (Builtin.bitXor a b)) := fun A g s va vb sv ra rb => by
  obtain ⟨t, rfl⟩ := ra.of_int; obtain ⟨u, rfl⟩ := rb.of_int
  exact VR.tok sv.sub fun Q E hq => PyProof.Rows.xor_int (hq _ _ (.int _ _))
theorem InpR.shl (hb : 0 ≤ b) (hz : (Builtin.Int.intBits a : Int) + b ≤ 2 ^ 27) : InpR W n .LShift (.int a) (.int b) (.int (a * 2 ^ b.toNat)) := fun A g s va vb sv ra rb => by
  obtain ⟨t, rfl⟩ := ra.of_int; obtain ⟨u, rfl⟩ := rb.of_int
  exact VR.tok sv.sub fun Q E hq => PyProof.Rows.ilshift_int hb hz (hq _ _ (.int _ _))
theorem BinR.pow (hb : 0 ≤ b) (hb2 : b ≤ 1000000) (hz : a.natAbs < 2 ^ 64) : BinR W n .Pow (.int a) (.int b) (.int (a ^ b.toNat)) := fun A g s va vb sv ra rb => by
  obtain ⟨t, rfl⟩ := ra.of_int; obtain ⟨u, rfl⟩ := rb.of_int
  exact VR.tok sv.sub fun Q E hq => PyProof.Rows.pow_int_small hb hb2 hz (hq _ _ (.int _ _))
theorem UnR.neg : UnR W n .USub (.int a) (.int (-a)) := fun A g s va sv ra => by
  obtain ⟨t, rfl⟩ := ra.of_int
  exact VR.tok sv.sub fun Q E hq => P.neg_int (hq _ _ (.int _ _))
theorem CmpR.eqI : CmpR W n .Eq (.int a) (.int b) (a == b) := fun A g s va vb sv ra rb => by
  obtain ⟨t, rfl⟩ := ra.of_int; obtain ⟨u, rfl⟩ := rb.of_int
  exact VR.same sv.sub fun Q E hq => P.eq_int (hq _ (.bool _))
theorem CmpR.ltI : CmpR W n .Lt (.int a) (.int b) (decide (a < b)) := fun A g s va vb sv ra rb => by
  obtain ⟨t, rfl⟩ := ra.of_int; obtain ⟨u, rfl⟩ := rb.of_int
  exact VR.same sv.sub fun Q E hq => P.lt_int (hq _ (.bool _))
theorem CmpR.leI : CmpR W n .LtE (.int a) (.int b) (decide (a ≤ b)) := fun A g s va vb sv ra rb => by
  obtain ⟨t, rfl⟩ := ra.of_int; obtain ⟨u, rfl⟩ := rb.of_int
  exact VR.same sv.sub fun Q E hq => P.le_int (hq _ (.bool _))
theorem CmpR.gtI : CmpR W n .Gt (.int a) (.int b) (decide (a > b)) := fun A g s va vb sv ra rb => by
  obtain ⟨t, rfl⟩ := ra.of_int; obtain ⟨u, rfl⟩ := rb.of_int
  exact VR.same sv.sub fun Q E hq => P.gt_int (hq _ (.bool _))
theorem CmpR.geI : CmpR W n .GtE (.int a) (.int b) (decide (a ≥ b)) := fun A g s va vb sv ra rb => by
  obtain ⟨t, rfl⟩ := ra.of_int; obtain ⟨u, rfl⟩ := rb.of_int
  exact VR.same sv.sub fun Q E hq => P.ge_int (hq _ (.bool _))
end auxi
theorem CmpR.eqS {x y : Str} : CmpR W n .Eq (.str x) (.str y) (x.cps.toList == y.cps.toList) := fun A g s va vb sv ra rb => by
  obtain ⟨t, rfl⟩ := ra.of_str; obtain ⟨u, rfl⟩ := rb.of_str
  exact VR.same sv.sub fun Q E hq => P.eq_str (hq _ (.bool _))
theorem BinR.addS {x y : Str} (hz : x.length + y.length ≤ sizeLine := by size_fits) : BinR W n .Add (.str x) (.str y) (.str (x ++ y)) := fun A g s va vb sv ra rb => by
  obtain ⟨t, rfl⟩ := ra.of_str; obtain ⟨u, rfl⟩ := rb.of_str
  exact VR.tok sv.sub fun Q E hq => PyProof.Rows.add_str (fun t' tk => hq _ _ (.str _ _)) hz
theorem BinR.addL {as bs : List D} (hz : as.length + bs.length ≤ sizeLine) : BinR W n .Add (.list as) (.list bs) (.list (as ++ bs)) := fun A g s va vb sv ra rb Q E hq => by
  obtain ⟨a, k, vs, rfl, ha, ra⟩ := ra.of_list
  obtain ⟨b, k', us, rfl, hb, rb⟩ := rb.of_list
  refine P.add_list (sv.sub _ _ ha) (sv.sub _ _ hb) ?_ (by simp [ra.1, rb.1]; exact hz)
  rw [show ({ cls := .type "list", data := .seq (vs.toArray ++ us.toArray) } : Obj) = lob (vs ++ us) 0 by simp [lob]]
  have z := alloc_list (A := A) sv.sub (RDs.append ra rb)
  exact hq _ _ _ z.1 z.2

/-- pure data -/
inductive Py : D → PyData → Prop
  | none : Py .none .none
  | bool (b : Bool) : Py (.bool b) (.bool b)
  | int (i : Int) : Py (.int i) (.int i)
  | str (x : Str) : Py (.str x) (.str x)
  | list (xs : List D) (ys : List PyData) : xs.length = ys.length → (∀ (i : Nat) x y, xs[i]? = some x → ys[i]? = some y → Py x y) → Py (.list xs) (.list ys)
  | tuple (xs : List D) (ys : List PyData) : xs.length = ys.length → (∀ (i : Nat) x y, xs[i]? = some x → ys[i]? = some y → Py x y) → Py (.tuple xs) (.tuple ys)
theorem readsAll_of {h : Heap} : ∀ (vs : List Value) (ys : List PyData), vs.length = ys.length → (∀ (i : Nat) v y, vs[i]? = some v → ys[i]? = some y → ∃ as, Reads h v y as) → ∃ as, ReadsAll h vs ys as
  | [], [], _, _ => ⟨[], .nil⟩
  | v :: vs, y :: ys, hl, hi => by
    obtain ⟨as, ha⟩ := hi 0 v y rfl rfl
    obtain ⟨bs, hb⟩ := readsAll_of vs ys (by simpa using hl) fun i v y h1 h2 => hi (i + 1) v y (by simpa using h1) (by simpa using h2)
    exact ⟨as ++ bs, .cons ha hb⟩
theorem RD.reads {g : Vis} {h : Heap} (sub : ∀ b o, g b = some o → h.get? b = some o) {v : Value} {d : D} (r : RD W g v d) : ∀ {y : PyData}, Py d y → ∃ as, Reads h v y as := by
  induction r with
  | none => intro y p; cases p; exact ⟨[], .none⟩
  | bool b => intro y p; cases p; exact ⟨[], .bool b⟩
  | int i t => intro y p; cases p; exact ⟨[], .int i t⟩
  | str x t => intro y p; cases p; exact ⟨[], .str x t⟩
  | gl x v hv => intro y p; cases p
  | list a n vs xs h1 h2 h3 ih =>
    intro y p
    cases p with
    | list _ ys hl hi =>
      obtain ⟨as, ha⟩ := readsAll_of (h := h) vs ys (h2.trans hl) fun i v y e1 e2 => by
        obtain ⟨x, hx⟩ : ∃ x, xs[i]? = some x := by
          have := (List.getElem?_eq_some_iff.mp e1).1
          exact ⟨xs[i]'(h2 ▸ this), by simp [h2 ▸ this]⟩
        exact ih i v x e1 hx (hi i x y hx e2)
      exact ⟨a :: as, .list (sub _ _ h1) rfl rfl ha⟩
  | tuple a n vs xs h1 h2 h3 ih =>
    intro y p
    cases p with
    | tuple _ ys hl hi =>
      obtain ⟨as, ha⟩ := readsAll_of (h := h) vs ys (h2.trans hl) fun i v y e1 e2 => by
        obtain ⟨x, hx⟩ : ∃ x, xs[i]? = some x := by
          have := (List.getElem?_eq_some_iff.mp e1).1
          exact ⟨xs[i]'(h2 ▸ this), by simp [h2 ▸ this]⟩
        exact ih i v x e1 hx (hi i x y hx e2)
      exact ⟨as, .tuple (sub _ _ h1) rfl rfl ha⟩
  | inst => intro y p; cases p
  | mapS => intro y p; cases p
  | mapI => intro y p; cases p
theorem CmpR.eqD {a b : D} {pa pb : PyData} (ha : Py a pa) (hb : Py b pb) (sa : SeqAt.shaped pa = true) (sb : SeqAt.shaped pb = true) : CmpR W n .Eq a b (PyData.eqv pa pb) := fun A g s va vb sv ra rb => by
  obtain ⟨as, qa⟩ := ra.reads sv.sub ha
  obtain ⟨bs, qb⟩ := rb.reads sv.sub hb
  exact VR.same sv.sub fun Q E hq => eq_dataH qa qb sa sb (by have := sv.aok.units; omega) (hq _ (.bool _))
theorem CmpR.neD {a b : D} {pa pb : PyData} (ha : Py a pa) (hb : Py b pb) (sa : SeqAt.shaped pa = true) (sb : SeqAt.shaped pb = true) : CmpR W n .NotEq a b (!PyData.eqv pa pb) := fun A g s va vb sv ra rb => by
  obtain ⟨as, qa⟩ := ra.reads sv.sub ha
  obtain ⟨bs, qb⟩ := rb.reads sv.sub hb
  exact VR.same sv.sub fun Q E hq => ne_dataH qa qb sa sb (by have := sv.aok.units; omega) (hq _ (.bool _))

noncomputable def dInts (ns : List Int) : D := .list (ns.map .int)
noncomputable def pInts (ns : List Int) : PyData := .list (ns.map .int)
theorem py_ints (ns : List Int) : Py (dInts ns) (pInts ns) := .list _ _ (by simp) fun i x y h1 h2 => by
  rw [List.getElem?_map] at h1 h2
  cases h : ns[i]? with
  | none => rw [h] at h1; cases h1
  | some m => rw [h] at h1 h2; cases h1; cases h2; exact .int m
theorem canAll_ints : ∀ ns : List Int, PyData.canLayAll0 (ns.map .int) = true
  | [] => by simp [PyData.canLayAll0]
  | m :: r => by simp [PyData.canLayAll0, PyData.canLay0, canAll_ints r]
theorem eqv_ints : ∀ ns ms : List Int, PyData.eqvAll (ns.map .int) (ms.map .int) = decide (ns = ms)
  | [], [] => by simp [PyData.eqvAll]
  | [], _ :: _ => by simp [PyData.eqvAll]
  | _ :: _, [] => by simp [PyData.eqvAll]
  | a :: r, b :: q => by
    simp only [List.map_cons, PyData.eqvAll, PyData.eqv, eqv_ints r q]
    by_cases h : a = b <;> by_cases h' : r = q <;> simp [h, h']
theorem depthAll_ints : ∀ ns : List Int, PyData.depthAll (ns.map .int) = 0
  | [] => by simp [PyData.depthAll]
  | m :: r => by simp [PyData.depthAll, PyData.depth, depthAll_ints r]
theorem shaped_ints (ns : List Int) : SeqAt.shaped (pInts ns) = true := by
  unfold SeqAt.shaped pInts
  simp only [PyData.canLay0, canAll_ints, PyData.depth, depthAll_ints]
  decide
theorem CmpR.eqInts (ns ms : List Int) : CmpR W n .Eq (dInts ns) (dInts ms) (decide (ns = ms)) := by
  have := CmpR.eqD (W := W) (n := n) (py_ints ns) (py_ints ms) (shaped_ints ns) (shaped_ints ms)
  rwa [show PyData.eqv (pInts ns) (pInts ms) = decide (ns = ms) by simp only [pInts, PyData.eqv]; exact eqv_ints ns ms] at this
theorem CmpR.neInts (ns ms : List Int) : CmpR W n .NotEq (dInts ns) (dInts ms) (!decide (ns = ms)) := by
  have := CmpR.neD (W := W) (n := n) (py_ints ns) (py_ints ms) (shaped_ints ns) (shaped_ints ms)
  rwa [show PyData.eqv (pInts ns) (pInts ms) = decide (ns = ms) by simp only [pInts, PyData.eqv]; exact eqv_ints ns ms] at this

/-! subscripts -/
noncomputable def SubR (W : Wd) (n : Nat) (a b d : D) : Prop := ∀ A g s va vb, Sv W n A g s → RD W g va a → RD W g vb b → ∃ T id, s.TypeIs va T ∧ typeLookup (.type T) "__getitem__" = pure (some (.builtin id)) ∧ VR W n (getItem va vb) A g s d
theorem sub_tail {A : Around} {E : Value → Shared → Prop} {s : Shared} {value slice : Expr} {o i : Value} {T id : String} {Q : Value → Shared → Prop} (hT : s.TypeIs o T)
    (hl : typeLookup (.type T) "__getitem__" = pure (some (.builtin id))) (h : wpAny (model W.prog W.w) A (getItem o i) Q E s) (hs : subscripted slice false o i = operate [o, i] (getItem o i)) :
    wpAny (model W.prog W.w) A (subscriptTail value slice o i) Q E s := by
  unfold subscriptTail
  refine wpAny_bind ?_
  rw [getitemInPython_of_ne hT.not_modules]
  refine wpAny_bind (wpAny_specialOf hT hl ?_)
  have fin : wpAny (model W.prog W.w) A (subscripted slice false o i) (fun r s₃ => wpAny (model W.prog W.w) A (letTemporaryGo value o r >>= fun _ => pure r) Q E s₃) E s := by
    rw [hs]
    exact wpAny_operating (wpAny_mono h (fun r s₃ h₃ => wpAny_bind (wpAny_letTemporaryGo (wpAny_pure h₃))) fun _ _ x => x)
  first
    | exact wpAny_pure (wpAny_bind fin)
    | exact wpAny_bind (wpAny_pure (wpAny_bind fin))
    | exact wpAny_bind fin
theorem EvE.item {e i : Expr} {pos : Pos} {a b d : D} (h1 : EvE W n sc V e a) (h2 : EvE W n sc V i b) (hr : SubR W n a b d) (hs : ∀ o j, subscripted i false o j = operate [o, j] (getItem o j) := by intro _ _; with_unfolding_all rfl) : EvE W n sc V (.Subscript e i pos) d := fun A s₀ g₀ R env g s Q E he X hq =>
  Subscript_ (h1 A s₀ g₀ R env g s _ E he X fun va s1 g1 G1 r1 => h2 A s₀ g₀ R env g1 s1 _ E he (X.gr G1) fun vb s2 g2 G2 r2 => by
    obtain ⟨T, id, hT, hl, hv⟩ := hr A g2 s2 va vb ((X.gr G1).gr G2).sv (r1.mono (G2.vis (X.gr G1).sub)) r2
    exact sub_tail hT hl (hv Q E fun v s3 g3 G3 r3 => hq v s3 g3 ((G1.trans G2).trans G3) r3) (hs va vb))
theorem SubR.list {xs : List D} {i : Int} {j : Nat} {d : D} (hj : (0 ≤ i ∧ j = i.toNat) ∨ (i < 0 ∧ -(xs.length : Int) ≤ i ∧ j = (i + xs.length).toNat)) (hx : xs[j]? = some d) (hz : xs.length ≤ 1000) : SubR W n (.list xs) (.int i) d := fun A g s va vb sv ra rb => by
  obtain ⟨a, k, vs, rfl, ha, rs⟩ := ra.of_list
  obtain ⟨t, rfl⟩ := rb.of_int
  obtain ⟨v, hv, rv⟩ := rs.get hx
  have hlen := rs.1
  have hj2 := (List.getElem?_eq_some_iff.mp hx).1
  refine ⟨"list", _, tinstList (sv.sub _ _ ha), F.slot_list_getitem.lookup, VR.same sv.sub fun Q E hq => ?_⟩
  rcases hj with ⟨h0, rfl⟩ | ⟨h0, h1, rfl⟩
  · exact wpAny_getItem_list (lob_list (sv.sub _ _ ha)) h0 (by omega) (by simpa using hv) (hq v rv)
  · exact wpAny_getItem_list_neg (lob_list (sv.sub _ _ ha)) h0 (by simp; omega) (by omega) (by simpa [hlen] using hv) (hq v rv)
theorem SubR.tuple {xs : List D} {j : Nat} {d : D} (hx : xs[j]? = some d) (hz : xs.length ≤ 1000) : SubR W n (.tuple xs) (.int j) d := fun A g s va vb sv ra rb => by
  obtain ⟨a, k, vs, rfl, ha, rs⟩ := ra.of_tuple
  obtain ⟨t, rfl⟩ := rb.of_int
  obtain ⟨v, hv, rv⟩ := rs.get hx
  have hlen := rs.1
  have hj2 := (List.getElem?_eq_some_iff.mp hx).1
  refine ⟨"tuple", _, ⟨_, sv.sub _ _ ha, rfl⟩, F.slot_tuple_getitem.lookup, VR.same sv.sub fun Q E hq => ?_⟩
  refine P.getItem_tuple (sv.sub _ _ ha) (by omega) (by omega) (k := j) ?_ (by simpa using hv) (hq v rv)
  unfold seqIndex?
  simp
  omega
theorem SubR.mapS {M : List (Str × D)} {x : Str} {d : D} (hx : M.lookup x = some d) : SubR W n (.mapS M) (.str x) d := fun A g s va vb sv ra rb => by
  obtain ⟨t, rfl⟩ := rb.of_str
  cases ra with
  | mapS a o es ep f vf _ h1 h2 h3 h4 h5 h6 h7 h8 h9 =>
    refine ⟨"dict", _, ⟨_, sv.sub _ _ h1, h2.1⟩, F.slot_dict_getitem.lookup, VR.tok sv.sub fun Q E hq => ?_⟩
    refine wpAny_getItem_of (knd := PySem.strKind W.prog W.w) (k := x) (by simp [PySem.strKind, Value.isStrOf]) ⟨o, es, ep, sv.sub _ _ h1, h2, h3, h4, h5⟩ (h7 _ _ hx) (hq _ _ (h9 _ _ hx))
theorem SubR.mapI {M : List (Int × D)} {x : Int} {d : D} (hx : M.lookup x = some d) : SubR W n (.mapI M) (.int x) d := fun A g s va vb sv ra rb => by
  obtain ⟨t, rfl⟩ := rb.of_int
  cases ra with
  | mapI a o es ep f vf _ h1 h2 h3 h4 h5 h6 h7 h8 h9 =>
    refine ⟨"dict", _, ⟨_, sv.sub _ _ h1, h2.1⟩, F.slot_dict_getitem.lookup, VR.tok sv.sub fun Q E hq => ?_⟩
    refine wpAny_getItem_of (knd := PySem.intKind W.prog W.w) (k := x) (by simp [PySem.intKind, Value.isInt]) ⟨o, es, ep, sv.sub _ _ h1, h2, h3, h4, h5⟩ (h7 _ _ hx) (hq _ _ (h9 _ _ hx))
theorem CmpR.inS {M : List (Str × D)} {x : Str} : CmpR W n .In (.str x) (.mapS M) (M.lookup x).isSome := fun A g s va vb sv ra rb => by
  obtain ⟨t, rfl⟩ := ra.of_str
  cases rb with
  | mapS a o es ep f vf _ h1 h2 h3 h4 h5 h6 h7 h8 h9 =>
    refine VR.tok sv.sub fun Q E hq => ?_
    refine wpAny_in_of (knd := PySem.strKind W.prog W.w) (k := x) (f := f) (by simp [PySem.strKind, Value.isStrOf]) h6 ⟨o, es, ep, sv.sub _ _ h1, h2, h3, h4, h5⟩ (hq _ _ ?_)
    have : (f x).isSome = (M.lookup x).isSome := by
      cases q : M.lookup x with
      | none => rw [h8 x q]; rfl
      | some d => rw [h7 x d q]; rfl
    rw [this]
    exact .bool _
end
end
section
section
variable {W : Wd} {n k : Nat} {sc : Scope} {V V' V₁ V₂ : Vars} {o : Out}
theorem sub_tail' {A : Around} {E : Value → Shared → Prop} {s : Shared} {value slice : Expr} {o i : Value} {T id : String} {us : List Value} {Q : Value → Shared → Prop} (hT : s.TypeIs o T)
    (hl : typeLookup (.type T) "__getitem__" = pure (some (.builtin id))) (h : wpAny (model W.prog W.w) A (getItem o i) Q E s) (hs : subscripted slice false o i = operate us (getItem o i)) :
    wpAny (model W.prog W.w) A (subscriptTail value slice o i) Q E s := by
  unfold subscriptTail
  refine wpAny_bind ?_
  rw [getitemInPython_of_ne hT.not_modules]
  refine wpAny_bind (wpAny_specialOf hT hl ?_)
  have fin : wpAny (model W.prog W.w) A (subscripted slice false o i) (fun r s₃ => wpAny (model W.prog W.w) A (letTemporaryGo value o r >>= fun _ => pure r) Q E s₃) E s := by
    rw [hs]
    exact wpAny_operating (wpAny_mono h (fun r s₃ h₃ => wpAny_bind (wpAny_letTemporaryGo (wpAny_pure h₃))) fun _ _ x => x)
  first
    | exact wpAny_pure (wpAny_bind fin)
    | exact wpAny_bind (wpAny_pure (wpAny_bind fin))
    | exact wpAny_bind fin
inductive PartV : Value → Option (Int × Tok) → Prop
  | none : PartV .none Option.none
  | int (i : Int) (t : Tok) : PartV (.int i t) (some (i, t))
theorem PartV.isPart {v : Value} {p : Option (Int × Tok)} (h : PartV v p) : IsPart v (p.map (·.1)) := by cases h <;> constructor
theorem PartV.value {v : Value} {p : Option (Int × Tok)} (h : PartV v p) : v = partValue p := by cases h <;> rfl
noncomputable def EvP (W : Wd) (n : Nat) (sc : Scope) (V : Vars) (x : Option Expr) (p : Option Int) : Prop :=
  ∀ (A : Around) (s₀ : Shared) (g₀ : Vis) (R : List (Addr × Obj)) (env : Env) (g : Vis) (s : Shared) (Q : Value → Shared → Prop) (E : Value → Shared → Prop), EnvOk sc env → St W n A s₀ g₀ R env V g s →
    (∀ v q s' g', Gr A s g s' g' → PartV v q → q.map (·.1) = p → Q v s') → wpAny (model W.prog W.w) A (evalPart x env) Q E s
theorem EvP.none : EvP W n sc V Option.none Option.none := fun A s₀ g₀ R env g s Q E he X hq => by
  rw [evalPart_none]
  exact wpAny_pure (hq _ Option.none s g (Gr.refl X.sub) .none rfl)
theorem EvP.some {e : Expr} {i : Int} (h : EvE W n sc V e (.int i)) : EvP W n sc V (Option.some e) (Option.some i) := fun A s₀ g₀ R env g s Q E he X hq => by
  rw [evalPart_some]
  exact h A s₀ g₀ R env g s Q E he X fun v s1 g1 G1 r => by
    obtain ⟨t, rfl⟩ := r.of_int
    exact hq _ (Option.some (i, t)) s1 g1 G1 (.int i t) rfl
theorem slice_go {A : Around} {s₀ s : Shared} {g₀ g : Vis} {R : List (Addr × Obj)} {env : Env} {e : Expr} {lo hi st : Option Expr} {p pos : Pos} {a : D} {l u k : Option Int} {Q : Value → Shared → Prop} {E : Value → Shared → Prop} (he : EnvOk sc env) (X : St W n A s₀ g₀ R env V g s) (h1 : EvE W n sc V e a) (h2 : EvP W n sc V lo l) (h3 : EvP W n sc V hi u) (h4 : EvP W n sc V st k)
    (hs : ∀ o j, ∃ us, subscripted (.Slice lo hi st p) false o j = operate us (getItem o j))
    (h : ∀ va q1 q2 q3 s' g' sl, Gr A s g s' g' → RD W g' va a → s'.heap.IsSliceOf sl (partValue q1) (partValue q2) (partValue q3) → q1.map (·.1) = l → q2.map (·.1) = u → q3.map (·.1) = k →
      ∃ T id, s'.TypeIs va T ∧ typeLookup (.type T) "__getitem__" = pure (some (.builtin id)) ∧ wpAny (model W.prog W.w) A (getItem va (.ref sl)) Q E s') : wpAny (model W.prog W.w) A (eval (.Subscript e (.Slice lo hi st p) pos) env) Q E s :=
  Subscript_ (h1 A s₀ g₀ R env g s _ E he X fun va s1 g1 G1 r1 => wpAny_Slice (h2 A s₀ g₀ R env g1 s1 _ E he (X.gr G1) fun vl q1 s2 g2 G2 p1 e1 => h3 A s₀ g₀ R env g2 s2 _ E he ((X.gr G1).gr G2) fun vu q2 s3 g3 G3 p2 e2 => h4 A s₀ g₀ R env g3 s3 _ E he (((X.gr G1).gr G2).gr G3) fun vk q3 s4 g4 G4 p3 e3 => by
    have X4 := (((X.gr G1).gr G2).gr G3).gr G4
    have G14 := (G2.trans G3).trans G4
    have G5 := Gr.allocHid (A := A) X4.sub { cls := .type "slice", data := .fields #[vl, vu, vk] }
    obtain ⟨T, id, hT, hl, hv⟩ := h va q1 q2 q3 _ g4 s4.heap.objs.size ((G1.trans G14).trans G5) (r1.mono (G14.vis (X.gr G1).sub)) (by rw [← p1.value, ← p2.value, ← p3.value]; exact Heap.IsSliceOf.new ..) e1 e2 e3
    obtain ⟨us, hus⟩ := hs va (.ref s4.heap.objs.size)
    exact sub_tail' hT hl hv hus))
theorem RDs.drop {g : Vis} {vs : List Value} {xs : List D} (h : RDs W g vs xs) (a : Nat) : RDs W g (vs.drop a) (xs.drop a) := ⟨by simp [h.1], fun i v x h1 h2 => h.2 (a + i) v x (by simpa using h1) (by simpa using h2)⟩
theorem RDs.take {g : Vis} {vs : List Value} {xs : List D} (h : RDs W g vs xs) (a : Nat) : RDs W g (vs.take a) (xs.take a) := ⟨by simp [h.1], fun i v x h1 h2 => by
  rw [List.getElem?_take] at h1 h2
  split at h1
  · rename_i hi; rw [if_pos hi] at h2; exact h.2 i v x h1 h2
  · cases h1⟩
theorem RDs.reverse {g : Vis} : ∀ {vs : List Value} {xs : List D}, RDs W g vs xs → RDs W g vs.reverse xs.reverse
  | vs, [], h => by rw [h.nil_of]; exact RDs.nil
  | vs, x :: xs, h => by
    obtain ⟨v, r, rfl, hv, hr⟩ := h.cons_of
    rw [List.reverse_cons, List.reverse_cons]
    exact RDs.snoc (RDs.reverse hr) hv
theorem partV_isPart (q : Option (Int × Tok)) : IsPart (partValue q) (q.map (·.1)) := by cases q <;> constructor
theorem slice_list_go {e : Expr} {lo hi st : Option Expr} {p pos : Pos} {xs ys : List D} {l u k : Option Int} (h1 : EvE W n sc V e (.list xs)) (h2 : EvP W n sc V lo l) (h3 : EvP W n sc V hi u) (h4 : EvP W n sc V st k) (hk : k ≠ some 0) (hz : xs.length ≤ 1048576)
    (hs : ∀ o j, ∃ us, subscripted (.Slice lo hi st p) false o j = operate us (getItem o j))
    (f : ∀ {g : Vis} {vs : List Value}, RDs W g vs xs → ∃ ws, slicePick vs.toArray l u k = ws.toArray ∧ RDs W g ws ys) : EvE W n sc V (.Subscript e (.Slice lo hi st p) pos) (.list ys) := fun A s₀ g₀ R env g s Q E he X hq =>
  slice_go he X h1 h2 h3 h4 hs fun va q1 q2 q3 s1 g1 sl G1 r hsl e1 e2 e3 => by
    obtain ⟨a, j, vs, rfl, ha, rs⟩ := r.of_list
    have X1 := X.gr G1
    refine ⟨"list", _, tinstList (X1.sub _ _ ha), F.slot_list_getitem.lookup, ?_⟩
    obtain ⟨ws, hw, rw'⟩ := f rs
    refine wpAny_getItem_list_slice (lob_list (X1.sub _ _ ha)) hsl (e1 ▸ partV_isPart q1) (e2 ▸ partV_isPart q2) (e3 ▸ partV_isPart q3) hk ?_ (by
      have := rs.1
      simp only [List.size_toArray]
      rw [this]
      exact Nat.le_trans hz (by rw [sizeLine_eq]; omega))
    rw [hw]
    have z := alloc_list (A := A) X1.sub rw'
    exact hq _ _ _ (G1.trans z.1) z.2
theorem EvE.sliceFrom {e lo : Expr} {p pos : Pos} {xs : List D} {a : Nat} (h1 : EvE W n sc V e (.list xs)) (h2 : EvE W n sc V lo (.int a)) (hz : xs.length ≤ 1048576) (hs : ∀ o j, ∃ us, subscripted (.Slice (some lo) Option.none Option.none p) false o j = operate us (getItem o j) := by intro _ _; exact ⟨_, rfl⟩) :
    EvE W n sc V (.Subscript e (.Slice (some lo) Option.none Option.none p) pos) (.list (xs.drop a)) :=
  slice_list_go h1 (EvP.some h2) EvP.none EvP.none (by simp) hz hs fun {g vs} r => ⟨vs.drop a, by rw [slicePick_from'], r.drop a⟩
theorem EvE.sliceTo {e hi : Expr} {p pos : Pos} {xs : List D} {a : Nat} (h1 : EvE W n sc V e (.list xs)) (h2 : EvE W n sc V hi (.int a)) (hz : xs.length ≤ 1048576) (hs : ∀ o j, ∃ us, subscripted (.Slice Option.none (some hi) Option.none p) false o j = operate us (getItem o j) := by intro _ _; exact ⟨_, rfl⟩) :
    EvE W n sc V (.Subscript e (.Slice Option.none (some hi) Option.none p) pos) (.list (xs.take a)) :=
  slice_list_go h1 EvP.none (EvP.some h2) EvP.none (by simp) hz hs fun {g vs} r => ⟨vs.take a, by rw [slicePick_upto'], r.take a⟩
theorem EvE.sliceRev {e st : Expr} {p pos : Pos} {xs : List D} (h1 : EvE W n sc V e (.list xs)) (h2 : EvE W n sc V st (.int (-1))) (hz : xs.length ≤ 1048576) (hs : ∀ o j, ∃ us, subscripted (.Slice Option.none Option.none (some st) p) false o j = operate us (getItem o j) := by intro _ _; exact ⟨_, rfl⟩) :
    EvE W n sc V (.Subscript e (.Slice Option.none Option.none (some st) p) pos) (.list xs.reverse) :=
  slice_list_go h1 EvP.none EvP.none (EvP.some h2) (by simp) hz hs fun {g vs} r => ⟨vs.reverse, by rw [krv_pick], r.reverse⟩
/-- a slice of a text -/
theorem slice_str_go {e : Expr} {lo hi : Option Expr} {p pos : Pos} {x : Str} {l u : Option Int} (h1 : EvE W n sc V e (.str x)) (h2 : EvP W n sc V lo l) (h3 : EvP W n sc V hi u) (hz : x.length ≤ 1000)
    (hs : ∀ o j, ∃ us, subscripted (.Slice lo hi Option.none p) false o j = operate us (getItem o j)) : EvE W n sc V (.Subscript e (.Slice lo hi Option.none p) pos) (.str (Txt.slice x l u)) := fun A s₀ g₀ R env g s Q E he X hq =>
  slice_go he X h1 h2 h3 EvP.none hs fun va q1 q2 q3 s1 g1 sl G1 r hsl e1 e2 e3 => by
    obtain ⟨t, rfl⟩ := r.of_str
    have X1 := X.gr G1
    have e3' : q3 = Option.none := by cases q3 with | none => rfl | some _ => cases e3
    subst e3'
    refine ⟨"str", _, typeIs_str s1 x t, F.slot_str_getitem.lookup, ?_⟩
    refine wpAny_getItem_str_slice (l := q1) (u := q2) (st := Option.none) hsl rfl ?_
    have hl : (Txt.slice x l u).length ≤ x.length := Txt.slice_le x l u
    subst e1
    subst e2
    by_cases hc : ((1 : Int) == 1 && (Builtin.Str.strSliceIndices (q1.map (·.1)) (q2.map (·.1)) 1 x.length).length == x.length) = true
    · have hx : Txt.slice x (q1.map (·.1)) (q2.map (·.1)) = x := by unfold Txt.slice; rw [if_pos hc]
      have hm : sliceMade x t q1 q2 Option.none = .val (.str x t) := by unfold sliceMade slicePicked; exact if_pos hc
      rw [hm]
      rw [hx] at hq
      exact hq _ _ g1 G1 (.str x t)
    · have hx : Txt.slice x (q1.map (·.1)) (q2.map (·.1)) = ⟨((Builtin.Str.strSliceIndices (q1.map (·.1)) (q2.map (·.1)) 1 x.length).filterMap (x.cps[·]?)).toArray⟩ := by unfold Txt.slice; rw [if_neg hc]
      have hm : sliceMade x t q1 q2 Option.none = .str ⟨((Builtin.Str.strSliceIndices (q1.map (·.1)) (q2.map (·.1)) 1 x.length).filterMap (x.cps[·]?)).toArray⟩ := by unfold sliceMade slicePicked; exact if_neg hc
      rw [hm]
      rw [hx] at hq hl
      exact ⟨by rw [sizeLine_eq]; omega, hq _ _ g1 (G1.tok _) (.str _ _)⟩
end
end
section
section
variable {W : Wd} {n k : Nat} {sc : Scope} {V V' V₁ V₂ : Vars} {o : Out}
theorem CallR.len {xs : List D} (hz : xs.length ≤ 1048576) : CallR W n (.builtin "len") [.list xs] (.int xs.length) := fun A g s vs sv r => by
  obtain ⟨v, us, rfl, rv, ru⟩ := r.cons_of
  obtain ⟨a, j, ws, rfl, ha, rs⟩ := rv.of_list
  rw [ru.nil_of]
  have hl := rs.1
  refine VR.tok sv.sub fun Q E hq => Calls.call_len_list (lob_list (sv.sub _ _ ha)) (by simp only [List.size_toArray]; omega) ?_
  have := hq (.int ws.length (s.toks + 1)) (s.toks + 1 + 1) (hl ▸ .int _ _)
  simpa using this
theorem CallR.divmod {a b : Int} (hb : b ≠ 0) (hp : Builtin.divisionGoesByPylong a b = false) : CallR W n (.builtin "divmod") [.int a, .int b] (.tuple [.int (a.fdiv b), .int (a.fmod b)]) := fun A g s vs sv r Q E hq => by
  obtain ⟨v, us, rfl, rv, ru⟩ := r.cons_of
  obtain ⟨v2, us2, rfl, rv2, ru2⟩ := ru.cons_of
  obtain ⟨t, rfl⟩ := rv.of_int; obtain ⟨u, rfl⟩ := rv2.of_int
  rw [ru2.nil_of]
  have G := (Gr.tok0 (A := A) sv.sub (s.toks + 1 + 1)).trans (Gr.alloc (s := { s with toks := s.toks + 1 + 1 }) sv.sub (tob [.int (a.fdiv b) s.toks, .int (a.fmod b) (s.toks + 1)] 0) rfl)
  exact PyProof.Rows.divmod_int hb (hq _ _ _ G (pair_rd (seen_self _ _ _) (.int _ _) (.int _ _))) (.inl hp)
theorem CallR.max2 {a b : Int} : CallR W n (.builtin "max") [.int a, .int b] (.int (if b > a then b else a)) := fun A g s vs sv r Q E hq => by
  obtain ⟨v, us, rfl, rv, ru⟩ := r.cons_of
  obtain ⟨v2, us2, rfl, rv2, ru2⟩ := ru.cons_of
  obtain ⟨t, rfl⟩ := rv.of_int; obtain ⟨u, rfl⟩ := rv2.of_int
  rw [ru2.nil_of]
  refine max_two_ints sv.aok.hd fun h' tk hk => ?_
  have G : Gr A s g { s with heap := h', toks := tk } g := ⟨⟨h', tk, rfl⟩, fun b o e => .inl ((hk) b o e), fun _ _ _ => rfl, fun b o e => hk b o (sv.sub b o e)⟩
  refine hq _ _ g G ?_
  split <;> exact .int _ _
theorem RDs.of_ints {g : Vis} : ∀ {vs : List Value} {ns : List Int}, RDs W g vs (ns.map .int) → ∃ ps : List (Int × Tok), vs = ps.map (fun p => .int p.1 p.2) ∧ ps.map (·.1) = ns
  | vs, [], h => ⟨[], h.nil_of, rfl⟩
  | vs, m :: ns, h => by
    obtain ⟨v, us, rfl, rv, ru⟩ := h.cons_of
    obtain ⟨t, rfl⟩ := rv.of_int
    obtain ⟨ps, rfl, e⟩ := RDs.of_ints ru
    exact ⟨(m, t) :: ps, rfl, by simp [e]⟩
theorem preSum_take (ps : List (Int × Tok)) : ∀ j, preSum (numAt ps.toArray) j = ((ps.map (·.1)).take j).sum
  | 0 => by simp [preSum]
  | j + 1 => by
    rw [preSum, preSum_take ps j, List.take_succ, List.sum_append]
    congr 1
    unfold numAt
    cases h : ps[j]? with
    | none => simp [h]
    | some p => simp [h]
theorem CallR.sum {ns : List Int} : CallR W n (.builtin "sum") [dInts ns] (.int ns.sum) := fun A g s vs sv r Q E hq => by
  obtain ⟨v, us, rfl, rv, ru⟩ := r.cons_of
  obtain ⟨a, j, ws, rfl, ha, rs⟩ := rv.of_list
  rw [ru.nil_of]
  obtain ⟨ps, rfl, hps⟩ := rs.of_ints
  have hl : s.heap.IsList a (intItems ps.toArray) := by
    have := lob_list (sv.sub _ _ ha)
    rwa [show intItems ps.toArray = (ps.map fun p => Value.int p.1 p.2).toArray by simp [intItems]]
  refine sum_intListG sv.aok.hd hl fun h' tk t' hk => ?_
  have G : Gr A s g { s with heap := h', toks := tk } g := ⟨⟨h', tk, rfl⟩, fun b o e => .inl ((hk) b o e), fun _ _ _ => rfl, fun b o e => hk b o (sv.sub b o e)⟩
  refine hq _ _ g G ?_
  have e : preSum (numAt ps.toArray) ps.toArray.size = ns.sum := by
    rw [preSum_take, ← hps]
    congr 1
    rw [List.take_of_length_le]
    simp
  rw [e]
  exact .int _ _
theorem CallR.tupleOf {xs : List D} (hz : xs.length ≤ 10000) : CallR W n (.type "tuple") [.list xs] (.tuple xs) := fun A g s vs sv r Q E hq => by
  obtain ⟨v, us, rfl, rv, ru⟩ := r.cons_of
  obtain ⟨a, j, ws, rfl, ha, rs⟩ := rv.of_list
  rw [ru.nil_of]
  refine call_tuple_list (lob_list (sv.sub _ _ ha)) (fun h' hk => ?_) (by have := rs.1; rw [sizeLine_eq]; simp; omega)
  have G : Gr A s g { s with heap := h' } g := ⟨⟨h', s.toks, rfl⟩, fun b o e => .inl ((hk) b o e), fun _ _ _ => rfl, fun b o e => hk b o (sv.sub b o e)⟩
  have z := alloc_tuple (A := A) (W := W) (s := { s with heap := h' }) G.sub rs
  exact hq _ _ _ (G.trans z.1) z.2
theorem CallR.strI {a : Int} (ha : a.natAbs.log2 < 1920) : CallR W n (.type "str") [.int a] (.str (Str.ofString (toString a))) := fun A g s vs sv r => by
  obtain ⟨v, us, rfl, rv, ru⟩ := r.cons_of
  obtain ⟨t, rfl⟩ := rv.of_int
  rw [ru.nil_of]
  exact VR.tok sv.sub fun Q E hq => P.str_of_int ha (hq _ _ (.str _ _))
theorem CallR.intS {a : Int} (h0 : 0 ≤ a) (h1 : a < 10 ^ 10) : CallR W n (.type "int") [.str (Str.ofString (toString a))] (.int a) := fun A g s vs sv r => by
  obtain ⟨v, us, rfl, rv, ru⟩ := r.cons_of
  obtain ⟨t, rfl⟩ := rv.of_str
  rw [ru.nil_of]
  exact VR.tok sv.sub fun Q E hq => KIN.call_num h0 h1 (hq _ _ (.int _ _))

/-- a list taken n times -/
theorem foldl_rep {α : Type} (its : Array α) : ∀ (k : Nat) (acc : Array α), (List.foldl (fun x1 x2 => x1 ++ x2) acc (List.replicate k its)).toList = acc.toList ++ (List.replicate k its.toList).flatten
  | 0, acc => by simp
  | k + 1, acc => by
    rw [List.replicate_succ, List.foldl_cons, foldl_rep its k, List.replicate_succ, List.flatten_cons]
    simp
theorem RDs.rep {g : Vis} {vs : List Value} {xs : List D} (h : RDs W g vs xs) : ∀ k : Nat, RDs W g (List.replicate k vs).flatten (List.replicate k xs).flatten
  | 0 => RDs.nil
  | k + 1 => by
    rw [List.replicate_succ, List.replicate_succ, List.flatten_cons, List.flatten_cons]
    exact RDs.append h (h.rep k)
theorem BinR.mulL {xs : List D} {x : Int} (hne : xs ≠ []) (hlo : -1000 ≤ x) (hhi : x ≤ 1000) (hz : xs.length ≤ 1000) : BinR W n .Mult (.list xs) (.int x) (.list (List.replicate x.toNat xs).flatten) := fun A g s va vb sv ra rb Q E hq => by
  obtain ⟨a, k, vs, rfl, ha, rs⟩ := ra.of_list
  obtain ⟨t, rfl⟩ := rb.of_int
  have hl := sv.sub _ _ ha
  have hlen := rs.1
  have hsz : vs.toArray.size * x.toNat ≤ 2 ^ 24 := by
    have h1 : vs.toArray.size ≤ 1000 := by simp; omega
    have h2 : x.toNat ≤ 1000 := by omega
    calc vs.toArray.size * x.toNat ≤ 1000 * 1000 := Nat.mul_le_mul h1 h2
      _ ≤ 2 ^ 24 := by decide
  have hne' : vs.toArray.isEmpty = false := by
    cases vs with
    | nil => cases xs with | nil => exact absurd rfl hne | cons _ _ => simp at hlen
    | cons _ _ => rfl
  refine wpAny_binaryOp_repeat_ref (T := "list") (U := "int") (by decide) ⟨_, hl, rfl⟩ (fun s' => typeIs_int s' x t) noFill_list_mul F.fills_int_mul F.slot_int_rmul repeat_list F.slot_int_index.lookup
    (call_meets F.slot_int_rmul (typeIs_int s x t) F.entry_int_rmul (F.args_int_rmul_2 _ _) (int___rmul___int_list x t a vs.toArray k)
      ⟨hl, rfl, ⟨_, hl, rfl⟩, call_meets F.slot_list_mul ⟨_, hl, rfl⟩ F.entry_list_mul (F.args_list_mul_2 _ _)
        (AutoListH.list___mul___list_int_3 a vs.toArray k x t (by simp [Builtin.List.listFitsIndex]; omega) (by omega) (by simp [Builtin.List.listTooLong, sizeLine]; simp at hsz; omega)) ⟨hl, ?_⟩⟩)
  rw [hne']
  have e : (List.foldl (fun x1 x2 => x1 ++ x2) #[] (List.replicate x.toNat vs.toArray)) = (List.replicate x.toNat vs).flatten.toArray := by
    apply Array.ext'
    rw [foldl_rep]
    simp
  simp only [Bool.false_eq_true, if_false]
  rw [e]
  have z := alloc_list (A := A) sv.sub (rs.rep x.toNat)
  exact hq _ _ _ z.1 z.2

/-! displays of dicts -/
inductive EvPairs {K : Type} (W : Wd) (n : Nat) (sc : Scope) (V : Vars) (key : K → D) : List (Option Expr) → List Expr → List (K × D) → Prop
  | nil : EvPairs W n sc V key [] [] []
  | cons {ke ve : Expr} {ks : List (Option Expr)} {vs : List Expr} {x : K} {d : D} {M : List (K × D)} : EvE W n sc V ke (key x) → EvE W n sc V ve d → EvPairs W n sc V key ks vs M → EvPairs W n sc V key (some ke :: ks) (ve :: vs) ((x, d) :: M)
noncomputable def PairsRD {K : Type} (W : Wd) (g : Vis) : List (K × Value) → List (K × D) → Prop
  | [], [] => True
  | (k, v) :: r, (k', d) :: M => k = k' ∧ RD W g v d ∧ PairsRD W g r M
  | _, _ => False
theorem PairsRD.mono {K : Type} {g g' : Vis} (m : ∀ b o, g b = some o → g' b = some o) : ∀ {r : List (K × Value)} {M : List (K × D)}, PairsRD W g r M → PairsRD W g' r M
  | [], [], _ => trivial
  | (_, _) :: _, (_, _) :: _, ⟨h1, h2, h3⟩ => ⟨h1, h2.mono m, PairsRD.mono m h3⟩
theorem PairsRD.keys {K : Type} {g : Vis} : ∀ {r : List (K × Value)} {M : List (K × D)}, PairsRD W g r M → r.map (·.1) = M.map (·.1)
  | [], [], _ => rfl
  | (_, _) :: _, (_, _) :: _, ⟨h1, h2, h3⟩ => by simp only [List.map_cons]; rw [h1, PairsRD.keys h3]
theorem PairsRD.look {K : Type} [DecidableEq K] {g : Vis} (k : K) : ∀ {r : List (K × Value)} {M : List (K × D)}, PairsRD W g r M → (M.lookup k = none → valueAt r k = none) ∧ (∀ d, M.lookup k = some d → ∃ v, valueAt r k = some v ∧ RD W g v d)
  | [], [], _ => ⟨fun _ => rfl, fun d h => by cases h⟩
  | (k1, v) :: r, (k2, d) :: M, ⟨h1, h2, h3⟩ => by
    subst h1
    have ih := PairsRD.look k h3
    unfold valueAt at ih ⊢
    by_cases h : k = k1
    · subst h
      refine ⟨fun e => by simp [List.lookup_cons] at e, fun d' e => ⟨v, by simp, ?_⟩⟩
      have : d = d' := by simpa [List.lookup_cons] using e
      exact this ▸ h2
    · have e1 : (k == k1) = false := by simpa using h
      have e2 : ¬ k1 = k := fun e => h e.symm
      simp only [List.lookup_cons, e1, List.find?_cons, e2, decide_false]
      exact ih
theorem pairs_go {K : Type} [DecidableEq K] {key : K → D} {knd : KeyKind W.prog W.w K} (hkey : ∀ g v x, RD W g v (key x) → knd.is x v = true) {A : Around} {s₀ : Shared} {g₀ : Vis} {R : List (Addr × Obj)} {env : Env} {pos : Pos} {E : Value → Shared → Prop} (he : EnvOk sc env) :
    ∀ {ks : List (Option Expr)} {ves : List Expr} {M : List (K × D)}, EvPairs W n sc V key ks ves M → ∀ {s : Shared} {g : Vis} {Q : List (Value × Value) → Shared → Prop}, St W n A s₀ g₀ R env V g s →
      (∀ vs kvs s' g', Gr A s g s' g' → Carries knd vs kvs → PairsRD W g' kvs M → Q vs s') → wpAny (model W.prog W.w) A (evalPairs (pairTrees ks ves env pos)) Q E s := by
  intro ks ves M h
  induction h with
  | nil => intro s g Q X hq; exact pairTrees_nil_walk (hq [] [] s g (Gr.refl X.sub) trivial trivial)
  | cons h1 h2 _ ih =>
    intro s g Q X hq
    refine pairTrees_cons_walk (h1 A s₀ g₀ R env g s _ E he X fun kv s1 g1 G1 r1 => h2 A s₀ g₀ R env g1 s1 _ E he (X.gr G1) fun vv s2 g2 G2 r2 => ih ((X.gr G1).gr G2) fun vs kvs s3 g3 G3 c p => ?_)
    exact hq ((kv, vv) :: vs) ((_, vv) :: kvs) s3 g3 ((G1.trans G2).trans G3) ⟨hkey _ _ _ r1, rfl, c⟩ ⟨rfl, r2.mono (G3.vis ((X.gr G1).gr G2).sub), p⟩
theorem dict_go {K : Type} [DecidableEq K] {key : K → D} {knd : KeyKind W.prog W.w K} (hkey : ∀ g v x, RD W g v (key x) → knd.is x v = true) {A : Around} {s₀ s : Shared} {g₀ g : Vis} {R : List (Addr × Obj)} {env : Env} {pos : Pos} {E : Value → Shared → Prop} {Q : Value → Shared → Prop} (he : EnvOk sc env)
    {ks : List (Option Expr)} {ves : List Expr} {M : List (K × D)} (h : EvPairs W n sc V key ks ves M) (hnd : (M.map (·.1)).Nodup) (X : St W n A s₀ g₀ R env V g s) (hall : ks.all (·.isSome) = true) (hl : ks.length = ves.length) (h0 : ks ≠ []) (hlen : ks.length ≤ 15)
    (hq : ∀ a kvs s' g' o, Gr A s g s' (seen g' a o) → g' a = none → s'.heap.MapOf knd a (valueAt kvs) → s'.heap.get? a = some o → (a == sysModules) = false → PairsRD W (seen g' a o) kvs M → Q (.ref a) s') : wpAny (model W.prog W.w) A (eval (.Dict ks ves pos) env) Q E s := by
  have G0 := Gr.allocHid (A := A) X.sub { cls := .type "dict", data := .dict #[] }
  have nn : s.heap.get? s.heap.objs.size = none := get?_size _
  refine wpAny_Dict_walk (knd := knd) hall hl h0 hlen (pairs_go hkey he h (X.gr G0) fun vs kvs s1 g1 G1 c p => ⟨kvs, c, ?_, fun h' hm hsb => ?_⟩)
  · have nz : ¬ fz A s.heap.objs.size := X.nfz (fun z => by
      obtain ⟨m, cm, F⟩ := X.fr
      obtain ⟨oL, _, _, hL, _⟩ := F.ns
      rw [← z, nn] at hL; cases hL) (X.none0 nn)
    exact (Heap.DictOf.new s.heap).at fun o e => (G1.keep _ _ e).exact nz
  · rw [merged_nil_of_nodup _ (by rw [p.keys]; exact hnd)] at hm
    have g1n : g1 s.heap.objs.size = none := by
      rw [G1.old _ _ (Heap.get?_push_size _ rfl)]
      exact gnone X.sub nn
    obtain ⟨o, es, ep, ho, hr⟩ := id hm.mapOf
    have G := G0.trans G1
    obtain ⟨h2, t2, e2⟩ := G.same
    have gm : ∀ b q, g1 b = some q → seen g1 s.heap.objs.size o b = some q := fun b q e => by rw [seen_ne fun z => by rw [z, g1n] at e; cases e]; exact e
    refine hq s.heap.objs.size kvs _ g1 o ⟨⟨h', _, by rw [e2]⟩, fun b q e => (G.keep b q e).but hsb (fun z => by rw [z, nn] at e; cases e), fun b q e => (seen_ne fun z => by rw [z, nn] at e; cases e).trans (G.old b q e), fun b q e => ?_⟩ g1n hm.mapOf ho ?_ (p.mono gm)
    · by_cases hb : b = s.heap.objs.size
      · subst hb; rw [seen_self] at e; cases e; exact ho
      · rw [seen_ne hb] at e; exact (hsb.2 b hb).trans (G.sub b q e)
    · have hg := glob_ns he X
      rw [he.glob] at hg
      obtain ⟨ob, esb, epb, hob, _⟩ := hg
      have hlt := Heap.lt_size hob
      have : sysModules ≠ s.heap.objs.size := Nat.ne_of_lt (Nat.lt_trans (by decide) hlt)
      simpa using fun e => this e.symm
theorem EvE.dictS {keys : List (Option Expr)} {values : List Expr} {pos : Pos} {M : List (Str × D)} (h : EvPairs W n sc V D.str keys values M) (hnd : (M.map (·.1)).Nodup) (hall : keys.all (·.isSome) = true := by rfl) (hl : keys.length = values.length := by rfl) (h0 : keys ≠ [] := by exact List.cons_ne_nil _ _) (hlen : keys.length ≤ 15 := by exact Nat.le_of_ble_eq_true rfl) : EvE W n sc V (.Dict keys values pos) (.mapS M) := fun A s₀ g₀ R env g s Q E he X hq =>
  dict_go (knd := PySem.strKind W.prog W.w) (fun g v x r => by obtain ⟨t, rfl⟩ := r.of_str; simp [PySem.strKind, Value.isStrOf]) he h hnd X hall hl h0 hlen fun a kvs s' g' o G ga hm ho hs p => by
    obtain ⟨o', es, ep, ho', h1, h2, h3, h4⟩ := hm
    rw [ho] at ho'; cases ho'
    refine hq _ _ _ G (.mapS a o es ep (valueAt kvs) (fun k => (valueAt kvs k).getD .none) M (seen_self _ _ _) h1 h2 h3 h4 hs (fun x d e => ?_) (fun x e => (p.look x).1 e) (fun x d e => ?_))
    · obtain ⟨v, hv, _⟩ := (p.look x).2 d e
      rw [hv]; rfl
    · obtain ⟨v, hv, r⟩ := (p.look x).2 d e
      rw [hv]; exact r
theorem EvE.dictI {keys : List (Option Expr)} {values : List Expr} {pos : Pos} {M : List (Int × D)} (h : EvPairs W n sc V D.int keys values M) (hnd : (M.map (·.1)).Nodup) (hall : keys.all (·.isSome) = true := by rfl) (hl : keys.length = values.length := by rfl) (h0 : keys ≠ [] := by exact List.cons_ne_nil _ _) (hlen : keys.length ≤ 15 := by exact Nat.le_of_ble_eq_true rfl) : EvE W n sc V (.Dict keys values pos) (.mapI M) := fun A s₀ g₀ R env g s Q E he X hq =>
  dict_go (knd := PySem.intKind W.prog W.w) (fun g v x r => by obtain ⟨t, rfl⟩ := r.of_int; simp [PySem.intKind, Value.isInt]) he h hnd X hall hl h0 hlen fun a kvs s' g' o G ga hm ho hs p => by
    obtain ⟨o', es, ep, ho', h1, h2, h3, h4⟩ := hm
    rw [ho] at ho'; cases ho'
    refine hq _ _ _ G (.mapI a o es ep (valueAt kvs) (fun k => (valueAt kvs k).getD .none) M (seen_self _ _ _) h1 h2 h3 h4 hs (fun x d e => ?_) (fun x e => (p.look x).1 e) (fun x d e => ?_))
    · obtain ⟨v, hv, _⟩ := (p.look x).2 d e
      rw [hv]; rfl
    · obtain ⟨v, hv, r⟩ := (p.look x).2 d e
      rw [hv]; exact r
end
end
section
noncomputable def compOk (scope sc : Scope) : Bool := scope.names.all fun y => y.2 != .cell && (y.2 != .local || scope.names.lookup y.1 == some .local) && (y.2 != .free || sc.names.lookup y.1 == some .cell)
theorem CompSc.of {scope sc : Scope} {V V₀ : Vars} (hk : scope.kind = .function) (ho : compOk scope sc = true) (hv : ∀ p ∈ V₀, (∃ d, p.2 = .val d ∧ V.lookup p.1 = some (.val d)) ∧ (relabelS scope sc).names.lookup p.1 = some .cell) : CompSc scope sc V V₀ := by
  have h0 : ∀ y ∈ scope.names, y.2 ≠ .cell ∧ (y.2 = .local → scope.names.lookup y.1 = some .local) ∧ (y.2 = .free → sc.names.lookup y.1 = some .cell) := fun y hy => by
    have := List.all_eq_true.mp ho y hy
    simp only [Bool.and_eq_true, Bool.or_eq_true, bne_iff_ne, beq_iff_eq, ne_eq] at this
    exact ⟨this.1.1, fun h => (this.1.2.resolve_left fun h' => h' h), fun h => (this.2.resolve_left fun h' => h' h)⟩
  refine ⟨hk, fun y hy => (h0 y hy).1, fun y hy => (h0 y hy).2.1, fun y hy => (h0 y hy).2.2, fun x hx => ?_, fun y sl h => hv (y, sl) (mem_of_lookup h)⟩
  obtain ⟨⟨a, b⟩, hm, he⟩ := List.mem_map.mp (mem_of_lookup hx)
  dsimp only at he
  split at he
  · rename_i hc
    cases he
    simp only [Bool.and_eq_true, beq_iff_eq] at hc
    rw [← hc.1.1]; exact hm
  · cases he
    exact absurd rfl (h0 _ hm).1
noncomputable def SubV (V V' : Vars) : Prop := ∀ y sl, V.lookup y = some sl → V'.lookup y = some sl
theorem SubV.refl {V : Vars} : SubV V V := fun _ _ h => h
theorem SubV.nil {V : Vars} : SubV [] V := fun _ _ h => by cases h
theorem SubV.set {V V' : Vars} {x : Str} {sl : Slot} (h : SubV V V') (hx : V.lookup x = none) : SubV V (setV V' x sl) := fun y sl' e => by
  rw [setV_lookup]
  by_cases hy : y = x
  · subst hy; rw [hx] at e; cases e
  · rw [if_neg hy]; exact h y sl' e
theorem SubV.cons {V V' : Vars} {x : Str} {sl : Slot} (h : SubV V V') (hx : V'.lookup x = some sl) : SubV ((x, sl) :: V) V' := fun y sl' e => by
  rw [List.lookup_cons] at e
  cases hq : y == x with
  | true => rw [hq] at e; cases e; rw [eq_of_beq hq]; exact hx
  | false => rw [hq] at e; exact h y sl' e

section
variable {W : Wd} {n k : Nat} {sc : Scope} {V V' V₁ V₂ V₃ : Vars} {o : Out}
theorem EnvK.hi (sc : Scope) (env : Env) (he : EnvK true sc env) : interactive env = false := by
  unfold interactive
  rw [he.kf]; rfl
/-- x = [.. for ..] -/
theorem ExS.letComp {x : Str} {xp : Pos} {V₀ : Vars} {tgt elt iter : Expr} {ifs : List Expr} {scope : Scope} {cpos pos : Pos} {ds out : List D} (hs : CompSc scope sc V V₀) (hi : EvI W n sc V iter tgt ds) (hc : CompR W n (relabelS scope sc) tgt ifs elt V₀ ds out) (hsz : out.length ≤ sizeLine) (hk : sc.names.lookup x = some .local)
    (hsw : (xp.line == cpos.line && !(scope.names.any fun (m, k) => m == x && (k == .local || k == .cell))) = true) (hf : ∀ env x, foldedSetIterable iter env x = pure x := by intro _ _; rfl) : ExS W n sc V (.Assign [.Name x xp] (.ListComp elt [⟨tgt, iter, ifs, 0⟩] scope cpos) pos) (.next (setV V x (.val (.list out)))) := fun A s₀ g₀ R env g s Q E he X hq => by
  obtain ⟨cl, e, h1, h2⟩ := closureFor_ok env scope fun x hx hf => he.cls _ (hs.free x hx hf)
  have hsw' : swapsWith (.ListComp elt [⟨tgt, iter, ifs, 0⟩] scope cpos) (some (.Name x xp)) pos.line env = pure true := by
    show (pure (env.blockKind == .function && env.kindOf x == some .local && xp.line == cpos.line && !(scope.names.any fun (m, k) => m == x && (k == .local || k == .cell))) : Sem Bool) = pure true
    have h1 : env.blockKind = .function := by unfold Env.blockKind; rw [he.kf]; rfl
    have h2 : env.kindOf x = some .local := by rw [he.toEnvOk.kindOf]; exact hk
    rw [h1, h2, Bool.and_assoc, hsw]
    rfl
  rw [exec_Assign_Name_used _ _ _ _ hsw']
  refine wpAny_bind (wpAny_standAt (wpAny_bind ?_))
  show wpAny _ A (do let _ ← comprehension (.ListComp elt [⟨tgt, iter, ifs, 0⟩] scope cpos) scope env _ (newList []) false (eval iter env) (some (PySem.assign (PySem.Expr.Name x xp) env))) _ _ s
  refine wpAny_bind (wpAny_mono (wpAny_comprehension_free (use := some (PySem.assign (PySem.Expr.Name x xp) env)) (Q := fun _ s' => Q .next s') rfl (hf env) e hs.kind hs.names ?_) (fun _ s' hq => wpAny_pure (wpAny_pure hq)) fun _ _ e => e)
  refine comp_block (RR := fun acc C => compPost (model W.prog W.w) A E (some (PySem.assign (PySem.Expr.Name x xp) env)) (fun _ s' => Q .next s') acc C) he.toEnvOk X hs h1 h2 hi hc hsz fun Da C g' s' acc k G nD hD gD ra hCD nC gC hn => ?_
  obtain ⟨m, hm⟩ := hn
  -- see the list, then lay it under the name
  have gm : ∀ b o, g' b = some o → seen g' Da (lob acc k) b = some o := fun b o e => by rw [seen_ne fun z => by rw [z, gD] at e; cases e]; exact e
  have G' : Gr A s g s' (seen g' Da (lob acc k)) := ⟨G.same, G.keep, fun b o e => (seen_ne fun z => by rw [z, nD] at e; cases e).trans (G.old b o e), fun b o e => by
    by_cases hb : b = Da
    · subst hb; rw [seen_self] at e; cases e; exact hD
    · rw [seen_ne hb] at e; exact G.sub b o e⟩
  have hCh : seen g' Da (lob acc k) C = none := (seen_ne hCD).trans gC
  obtain ⟨oC, es, ep, hoC, hr⟩ := id hm
  have X' := X.pushR G' nC hoC hCh
  show wpAny _ A (PySem.assign (PySem.Expr.Name x xp) env (.ref Da)) _ _ _
  obtain ⟨m', cm', F'⟩ := X'.fr
  have hk' : env.kindOf x = some .local := by rw [he.toEnvOk.kindOf]; exact hk
  have hLC : C ≠ env.locals := (X'.rest _ (.head _)).2.2.2.1
  refine wpAny_assign_Name (wpAny_storeName_local hk' F'.ns (fun h2 hn2 hs2 => ?_) he.toEnvOk.hp)
  have r : RD W (seen g' Da (lob acc k)) (.ref Da) (.list out) := .list Da k acc out (seen_self _ _ _) ra.1 fun i v x a b => (ra.2 i v x a b).mono gm
  have X2 := X'.setLocal (tk := s'.toks + 1) hk' (NewSlot.val r) F'.ns hn2 hs2
  refine ⟨m, hm.sameBut hs2 hLC, fun h3 hs3 => ?_⟩
  have X3 := X2.turnR (R₁ := [(C, oC)]) (R₂ := []) (g' := seen g' Da (lob acc k)) (h' := h3) (tk := s'.toks + 1) (fun b q hb e => (hs3.2 b (by simpa using hb)).trans e) (fun p hp => by cases hp) List.nodup_nil (fun p hp => by cases hp) (fun _ _ _ => rfl)
    (fun b q e => (hs3.2 b fun z => by rw [z, hCh] at e; cases e).trans (X2.sub b q e))
  exact hq .next (seen g' Da (lob acc k)) _ (fun b o e => G'.vis X.sub b o e) X3
/-- y[i] := d, y one's own list -/
theorem set_own {A : Around} {s₀ s : Shared} {g₀ g : Vis} {R : List (Addr × Obj)} {env : Env} {y : Str} {xs : List D} {a : Addr} {q : Obj} {j : Nat} {t : Tok} {v : Value} {d : D} {Q : Unit → Shared → Prop} {E : Value → Shared → Prop} (H : HidAt W R env V g s s₀ y (.ref a) (.own xs) a q) (X : St W n A s₀ g₀ R env V g s) (hj : j < xs.length) (hz : xs.length ≤ 1000) (r : RD W g v d)
    (h : ∀ s', St W n A s₀ g₀ R env (setV V y (.own (xs.set j d))) g s' → Q () s') : wpAny (model W.prog W.w) A (setItem (.ref a) (.int j t) v) Q E s := by
  obtain ⟨vs, k, rfl, hr⟩ := H.ko
  have hl := hr.1
  have ho := H.ho
  refine ki_setAt (items := vs.toArray) (n := k) ho (by omega) (by omega) (by simp; omega) ?_
  have Z := H.turnN X (h' := s.heap.update a (Obj.mapSeq fun xs => xs.setIfInBounds (j : Int).toNat v)) (tk := s.toks) (vs' := vs.set j v) (k' := if (vs.toArray.setIfInBounds (j : Int).toNat v).size == vs.toArray.size then k else k + 1) (xs' := xs.set j d) (by
    rw [IsL.update (items := vs.toArray) (n := k) ho (fun xs => xs.setIfInBounds (j : Int).toNat v)]; simp [lob]) ⟨by simp [hl], fun i u x h1 h2 => by
      rw [List.getElem?_set] at h1 h2
      split at h1
      · rename_i e
        rw [if_pos e] at h2
        split at h1
        · rename_i e'
          rw [if_pos (hl ▸ e')] at h2
          cases h1; cases h2; exact r
        · cases h1
      · rename_i e
        rw [if_neg e] at h2
        exact hr.2 i u x h1 h2⟩ (Heap.SameBut.update ..)
  exact h _ Z.1
theorem ExS.augItem {y : Str} {yp sp pos : Pos} {i e : Expr} {op : Operator} {xs : List D} {j : Nat} {a b d : D} (hy : V.lookup y = some (.own xs)) (hi : EvE W n sc V i (.int j)) (hx : xs[j]? = some a) (he1 : EvE W n sc V e b) (ho : InpR W n op a b d) (hz : xs.length ≤ 1000)
    (hs : ∀ ov iv new, augStore i ov iv new = (do holding [new, ov, iv] (setItem ov iv new); release [new, ov, iv] []; pure .next) := by intros; rfl) (hd : (y == ("__debug__" : Str)) = false := by decide) : ExS W n sc V (.AugAssign (.Subscript (.Name y yp) i sp) op e pos) (.next (setV V y (.own (xs.set j d)))) := fun A s₀ g₀ R env g s Q E he X hq =>
  wpAny_AugAssign_SubscriptAny (wpAny_Name (load_hid he.toEnvOk X hy hs_own fun v c q H => hi A s₀ g₀ R env g s _ E he.toEnvOk X fun iv s1 g1 G1 r1 => by
    obtain ⟨ra, rfl⟩ := H.kv
    have hb := H.ha
    cases hb
    obtain ⟨t, rfl⟩ := r1.of_int
    have X1 := X.gr G1
    obtain ⟨q1, H1⟩ := H.names G1.names X1 hy
    obtain ⟨vs, k, rfl, hr⟩ := H1.ko
    obtain ⟨u, hu, ru⟩ := hr.get hx
    have hj := (List.getElem?_eq_some_iff.mp hx).1
    refine wpAny_getItem_list (lob_list H1.ho) (by omega) (by omega) (by simpa using hu) ?_
    refine he1 A s₀ g₀ R env g1 s1 _ E he.toEnvOk X1 fun vb s2 g2 G2 r2 => ho A g2 s2 u vb (X1.gr G2).sv (ru.mono (G2.vis X1.sub)) r2 _ E fun v3 s3 g3 G3 r3 => ?_
    have X3 := (X1.gr G2).gr G3
    obtain ⟨q3, H3⟩ := H1.names (G2.trans G3).names X3 hy
    exact set_own H3 X3 hj hz r3 fun s4 X4 => hq .next g3 s4 ((G1.trans (G2.trans G3)).vis X.sub) X4) hd) hs
theorem ExS.setItem {y : Str} {yp sp pos : Pos} {i e : Expr} {xs : List D} {j : Nat} {d : D} (hy : V.lookup y = some (.own xs)) (he1 : EvE W n sc V e d) (hi : EvE W n sc V i (.int j)) (hj : j < xs.length) (hz : xs.length ≤ 1000)
    (hs : ∀ env, swapsWith e (some (.Subscript (.Name y yp) i sp)) pos.line env = pure false := by intro _; rfl) (hd : (y == ("__debug__" : Str)) = false := by decide) : ExS W n sc V (.Assign [.Subscript (.Name y yp) i sp] e pos) (.next (setV V y (.own (xs.set j d)))) := fun A s₀ g₀ R env g s Q E he X hq =>
  wpAny_Assign_Subscript (he1 A s₀ g₀ R env g s _ E he.toEnvOk X fun v s1 g1 G1 r1 => wpAny_Name (load_hid he.toEnvOk (X.gr G1) hy hs_own fun ov c q H => hi A s₀ g₀ R env g1 s1 _ E he.toEnvOk (X.gr G1) fun iv s2 g2 G2 r2 => by
    obtain ⟨ra, rfl⟩ := H.kv
    have hb := H.ha
    cases hb
    obtain ⟨t, rfl⟩ := r2.of_int
    have X2 := (X.gr G1).gr G2
    obtain ⟨q2, H2⟩ := H.names G2.names X2 hy
    exact set_own H2 X2 hj hz (r1.mono (G2.vis (X.gr G1).sub)) fun s4 X4 => hq .next g2 s4 ((G1.trans G2).vis X.sub) X4) hd) (hs env)
/-- a = b = c = e -/
theorem ExS.let3 {x y z : Str} {xp yp zp : Pos} {e : Expr} {pos : Pos} {d : D} (h1 : EvE W n sc V e d) (hf : Flat d = true) (hx : sc.names.lookup x = some .local) (hy : sc.names.lookup y = some .local) (hz : sc.names.lookup z = some .local)
    (ha : ∀ env, (assignEach [.Name x xp, .Name y yp, .Name z zp] env).map (·.2) = [PySem.assign (.Name x xp) env, PySem.assign (.Name y yp) env, PySem.assign (.Name z zp) env] := by intro _; rfl) (hw : ∀ env, swappedStores [.Name x xp, .Name y yp, .Name z zp] e env = pure Option.none := by intro _; rfl) :
    ExS W n sc V (.Assign [.Name x xp, .Name y yp, .Name z zp] e pos) (.next (setV (setV (setV V x (.val d)) y (.val d)) z (.val d))) := fun A s₀ g₀ R env g s Q E he X h =>
  wpAny_Assign_three (h1 A s₀ g₀ R env g s _ E he.toEnvOk X fun v s1 g1 G1 r => wpAny_assign_Name (store_local he.toEnvOk hx (X.gr G1) (NewSlot.val r) fun s2 X2 => wpAny_assign_Name (store_local he.toEnvOk hy X2 (NewSlot.val r) fun s3 X3 =>
    wpAny_assign_Name (store_local he.toEnvOk hz X3 (NewSlot.val r) fun s4 X4 => h .next g1 s4 (G1.vis X.sub) X4)))) (ha env) (hw env)
/-- a, b = e, the stores swapped -/
theorem ExS.swap2 {x y : Str} {xp yp : Pos} {k : Nat} {tp pos : Pos} {e : Expr} {a b : D} (h1 : EvE W n sc V e (.tuple [a, b])) (hx : sc.names.lookup x = some .local) (hy : sc.names.lookup y = some .local)
    (hs : ∀ env, swapsWithSole [.Tuple [.Name x xp, .Name y yp] k tp] e pos.line env = pure false := by intro _; rfl) (hw : ∀ env, EnvK true sc env → swappedStores [.Tuple [.Name x xp, .Name y yp] k tp] e env = pure (some [x, y])) :
    ExS W n sc V (.Assign [.Tuple [.Name x xp, .Name y yp] k tp] e pos) (.next (setV (setV V y (.val b)) x (.val a))) := fun A s₀ g₀ R env g s Q E he X h =>
  Assign_Tuple_swapped (h1 A s₀ g₀ R env g s _ E he.toEnvOk X fun v s1 g1 G1 r => by
    have X1 := X.gr G1
    obtain ⟨t, j, vs, rfl, ht, rs⟩ := r.of_tuple
    obtain ⟨u1, us, rfl, ru1, rs1⟩ := rs.cons_of
    obtain ⟨u2, us, rfl, ru2, rs2⟩ := rs1.cons_of
    rw [rs2.nil_of] at ht
    refine wpAny_unpackItems_tuple (items := #[u1, u2]) X1.aok.hd ⟨_, X1.sub _ _ ht, rfl, j, rfl⟩ fun h' hx' => ?_
    have G2 : Gr A s1 g1 { s1 with heap := h' } g1 := ⟨⟨h', s1.toks, rfl⟩, fun b o e => .inl ((fun b o e => hx' b o (Nat.ne_of_lt (Heap.lt_size e)) e) b o e), fun _ _ _ => rfl, fun b o e => hx' b o (Nat.ne_of_lt (Heap.lt_size (X1.sub b o e))) (X1.sub b o e)⟩
    have X2 := X1.gr G2
    show wpAny _ A (assignInOrder [fun v => bindName env y v, fun v => bindName env x v] [u2, u1]) _ E _
    refine wpAny_assignInOrder_more (wpAny_bindName (store_local he.toEnvOk hy X2 (NewSlot.val ru2) fun s3 X3 => wpAny_assignInOrder_more (wpAny_bindName (store_local he.toEnvOk hx X3 (NewSlot.val ru1) fun s4 X4 => wpAny_assignInOrder_none (h .next g1 s4 (G1.vis X.sub) X4))))) ) (hs env) (hw env he)
end
end
section
noncomputable def stAt (i : Nat) : Stmt := PySem.Challenge.pw_tc0045_01.main.body.getD i default
noncomputable def fnBody : Stmt → List Stmt
  | .FunctionDef _ _ b .. => b
  | _ => []
noncomputable def fnArgs : Stmt → Arguments
  | .FunctionDef _ a .. => a
  | _ => default
noncomputable def fnScope : Stmt → Scope
  | .FunctionDef (scope := s) .. => s
  | _ => default
noncomputable def fnName : Stmt → Str
  | .FunctionDef n .. => n
  | _ => default
noncomputable def nth (l : List Stmt) (i : Nat) : Stmt := l.getD i default
noncomputable def forT : Stmt → Expr
  | .For t .. => t
  | _ => default
noncomputable def forB : Stmt → List Stmt
  | .For _ _ b .. => b
  | .While _ b .. => b
  | _ => []
noncomputable def whT : Stmt → Expr
  | .While t .. => t
  | _ => default
noncomputable def ifT : Stmt → Expr
  | .If t .. => t
  | _ => default
noncomputable def fnIdx : List Nat := [2, 4, 5, 6, 7, 8, 9, 10, 11, 12, 13, 67, 68, 70, 71, 72, 73, 74, 75, 76, 77, 78, 79, 80, 81]
noncomputable def bIds : List (Str × Value) := [("zip", .type "zip"), ("enumerate", .type "enumerate"), ("range", .type "range"), ("len", .builtin "len"), ("sum", .builtin "sum"), ("max", .builtin "max"), ("divmod", .builtin "divmod"), ("tuple", .type "tuple"), ("int", .type "int"), ("str", .type "str"), ("sorted", .builtin "sorted"), ("iter", .builtin "iter"), ("next", .builtin "next"), ("StopIteration", .type "StopIteration"), ("ZeroDivisionError", .type "ZeroDivisionError")]
noncomputable def constOf (x : Str) : Int := match PySem.Challenge.pw_tc0045_01.main.body.find? (fun s => match s with
  | .Assign [.Name y _] _ _ => y == x
  | _ => false) with
  | some (.Assign _ (.Constant (.int i) _ _) _) => i
  | _ => 0
noncomputable def pairsOf : List (Option Expr) → List Expr → List (Str × D)
  | some (.Constant (.str k) _ _) :: ks, .Name x _ :: vs => (k, D.int (constOf x)) :: pairsOf ks vs
  | _, _ => []
/-- what the table of exact token types holds -/
noncomputable def extD : List (Str × D) := match stAt 66 with
  | .Assign _ (.Dict ks vs _) _ => pairsOf ks vs
  | _ => []
structure Glo (W : Wd) : Prop where
  fn : ∀ i ∈ fnIdx, ∃ a o pm cd doc, W.mg (fnName (stAt i)) = some (.ref a) ∧ W.hT.get? a = some o ∧ o.data = .func (docDef (fnName (stAt i)) (fnArgs (stAt i)) (fnBody (stAt i)) (fnScope (stAt i)) pm cd doc) ∧ W.hT.CodeRec cd (fnName (stAt i))
  free : ∀ p ∈ bIds, W.mg p.1 = none
  nt : ∃ v, W.mg "NT_OFFSET" = some v ∧ RD W W.hT.get? v (.int 256)
  ext : ∃ v, W.mg "EXACT_TOKEN_TYPES" = some v ∧ RD W W.hT.get? v (.mapS extD)
theorem boots : bIds.all (fun p => decide (bootBuiltins p.1 = some p.2 ∧ p.1 ≠ "__name__" ∧ (p.1 == ("__debug__" : Str)) = false)) = true := by decide +kernel
section
variable {W : Wd} {n : Nat}
theorem bn (G : Glo W) {sc : Scope} {f : Str} {v : Value} (hm : (f, v) ∈ bIds) (hk : sc.names.lookup f = some .globalImplicit) (hv : (∃ id, v = .builtin id) ∨ ∃ T, v = .type T) : BName W sc f v := by
  have h := List.all_eq_true.mp boots _ hm
  have h' := of_decide_eq_true h
  have hf := G.free _ hm
  rcases hv with ⟨id, rfl⟩ | ⟨T, rfl⟩
  · exact .fn hk hf h'.1 h'.2.1 h'.2.2
  · exact .ty hk hf h'.1 h'.2.1 h'.2.2
theorem bnZip (G : Glo W) {sc : Scope} (hk : sc.names.lookup ("zip" : Str) = some .globalImplicit := by rfl) : BName W sc "zip" (.type "zip") := bn G (by simp [bIds]) hk (.inr ⟨_, rfl⟩)
theorem bnEnum (G : Glo W) {sc : Scope} (hk : sc.names.lookup ("enumerate" : Str) = some .globalImplicit := by rfl) : BName W sc "enumerate" (.type "enumerate") := bn G (by simp [bIds]) hk (.inr ⟨_, rfl⟩)
theorem bnRange (G : Glo W) {sc : Scope} (hk : sc.names.lookup ("range" : Str) = some .globalImplicit := by rfl) : BName W sc "range" (.type "range") := bn G (by simp [bIds]) hk (.inr ⟨_, rfl⟩)
theorem bnLen (G : Glo W) {sc : Scope} (hk : sc.names.lookup ("len" : Str) = some .globalImplicit := by rfl) : BName W sc "len" (.builtin "len") := bn G (by simp [bIds]) hk (.inl ⟨_, rfl⟩)
theorem bnSum (G : Glo W) {sc : Scope} (hk : sc.names.lookup ("sum" : Str) = some .globalImplicit := by rfl) : BName W sc "sum" (.builtin "sum") := bn G (by simp [bIds]) hk (.inl ⟨_, rfl⟩)
theorem bnMax (G : Glo W) {sc : Scope} (hk : sc.names.lookup ("max" : Str) = some .globalImplicit := by rfl) : BName W sc "max" (.builtin "max") := bn G (by simp [bIds]) hk (.inl ⟨_, rfl⟩)
theorem bnDivmod (G : Glo W) {sc : Scope} (hk : sc.names.lookup ("divmod" : Str) = some .globalImplicit := by rfl) : BName W sc "divmod" (.builtin "divmod") := bn G (by simp [bIds]) hk (.inl ⟨_, rfl⟩)
theorem bnTuple (G : Glo W) {sc : Scope} (hk : sc.names.lookup ("tuple" : Str) = some .globalImplicit := by rfl) : BName W sc "tuple" (.type "tuple") := bn G (by simp [bIds]) hk (.inr ⟨_, rfl⟩)
theorem bnInt (G : Glo W) {sc : Scope} (hk : sc.names.lookup ("int" : Str) = some .globalImplicit := by rfl) : BName W sc "int" (.type "int") := bn G (by simp [bIds]) hk (.inr ⟨_, rfl⟩)
theorem bnStr (G : Glo W) {sc : Scope} (hk : sc.names.lookup ("str" : Str) = some .globalImplicit := by rfl) : BName W sc "str" (.type "str") := bn G (by simp [bIds]) hk (.inr ⟨_, rfl⟩)
theorem bnSorted (G : Glo W) {sc : Scope} (hk : sc.names.lookup ("sorted" : Str) = some .globalImplicit := by rfl) : BName W sc "sorted" (.builtin "sorted") := bn G (by simp [bIds]) hk (.inl ⟨_, rfl⟩)
theorem bnIter (G : Glo W) {sc : Scope} (hk : sc.names.lookup ("iter" : Str) = some .globalImplicit := by rfl) : BName W sc "iter" (.builtin "iter") := bn G (by simp [bIds]) hk (.inl ⟨_, rfl⟩)
theorem bnNext (G : Glo W) {sc : Scope} (hk : sc.names.lookup ("next" : Str) = some .globalImplicit := by rfl) : BName W sc "next" (.builtin "next") := bn G (by simp [bIds]) hk (.inl ⟨_, rfl⟩)

/-- a function of the program's, its body walked -/
theorem Fn.mk' (G : Glo W) (i : Nat) (f : Str) (names : List Str) {ds : List D} {out : Out} {d : D} (hi : i ∈ fnIdx) (hf : fnName (stAt i) = f) (hd : out.val = d)
    (hbind : ∀ pm cd doc (vs : List Value), vs.length = names.length → bindArgs (docDef (fnName (stAt i)) (fnArgs (stAt i)) (fnBody (stAt i)) (fnScope (stAt i)) pm cd doc) ⟨vs, []⟩ = pure (names.zip vs)) (hnd : names.Nodup) (hlen : ds.length = names.length)
    (hkind : ∀ x ∈ names, (fnScope (stAt i)).names.lookup x = some .local ∨ (fnScope (stAt i)).names.lookup x = some .cell) (hk : (fnScope (stAt i)).kind = .function) (hco : (fnScope (stAt i)).isCoroutine = false) (hgen : (fnScope (stAt i)).isGenerator = false)
    (hb : ExSs W n (fnScope (stAt i)) (names.zip (ds.map Slot.val)) (fnBody (stAt i)) out) (hfin : out.fin = true) : Fn W (n + 1) f ds d := by
  subst hf
  subst hd
  obtain ⟨a, o, pm, cd, doc, h1, h2, h3, h4⟩ := G.fn i hi
  exact ⟨⟨a, o, _, h1, h2, h3, call_body h2 h3 h4 (hbind pm cd doc) hnd hlen hkind hk hco hgen hb hfin⟩⟩
theorem len1 {α : Type} {l : List α} (h : l.length = 1) : ∃ a, l = [a] := by match l, h with | [a], _ => exact ⟨a, rfl⟩
theorem len2 {α : Type} {l : List α} (h : l.length = 2) : ∃ a b, l = [a, b] := by match l, h with | [a, b], _ => exact ⟨a, b, rfl⟩
theorem len3 {α : Type} {l : List α} (h : l.length = 3) : ∃ a b c, l = [a, b, c] := by match l, h with | [a, b, c], _ => exact ⟨a, b, c, rfl⟩
end

/-! _law_left -/
noncomputable def ges : List Int → List Int → List Int
  | a :: as, b :: bs => if a ≥ b then 1 :: ges as bs else ges as bs
  | _, _ => []
noncomputable def leftB (as bs : List Int) : Bool := decide (ges as bs = [])
theorem ges_len : ∀ as bs : List Int, (ges as bs).length ≤ as.length
  | [], _ => by simp [ges]
  | _ :: _, [] => by simp [ges]
  | a :: as, b :: bs => by
    have := ges_len as bs
    unfold ges
    split <;> simp <;> omega
section
variable {W : Wd} {n : Nat}
theorem left_comp {sc : Scope} {px py pl pr pe : Pos} {k : Nat} {tp : Pos} {cp : Pos} (ha : sc.names.lookup ("a" : Str) = some .local) (hb : sc.names.lookup ("b" : Str) = some .local) : ∀ as bs : List Int,
    CompR W n sc (.Tuple [.Name "a" px, .Name "b" py] k tp) [.Compare (.Name "a" pl) [.GtE] [.Name "b" pr] cp] (.Constant (.int 1) 0 pe) [] (zipD (as.map .int) (bs.map .int)) ((ges as bs).map .int)
  | [], bs => by simp [zipD, ges]; exact .nil
  | a :: as, [] => by simp [zipD, ges]; exact .nil
  | a :: as, b :: bs => by
    have ih := left_comp (px := px) (py := py) (k := k) (tp := tp) (pl := pl) (pr := pr) (pe := pe) (cp := cp) ha hb as bs
    have hT : AsR W false n sc (.Tuple [.Name "a" px, .Name "b" py] k tp) (.tuple [.int a, .int b]) [] (setV (setV [] "a" (.val (.int a))) "b" (.val (.int b))) := AsR.tuple (AsRs.cons (AsR.loc ha) (AsRs.cons (AsR.loc hb) AsRs.nil))
    have hq : TestsR W n sc (setV (setV [] "a" (.val (.int a))) "b" (.val (.int b))) [.Compare (.Name "a" pl) [.GtE] [.Name "b" pr] cp] (decide (a ≥ b)) := .one (EvB.cmp (EvE.name rfl) (EvE.name rfl) CmpR.geI)
    show CompR W n sc _ _ _ [] (.tuple [.int a, .int b] :: zipD (as.map .int) (bs.map .int)) _
    unfold ges
    by_cases h : a ≥ b
    · rw [if_pos h]
      rw [decide_eq_true h] at hq
      exact .take hT SubV.nil hq EvE.int ih
    · rw [if_neg h]
      rw [decide_eq_false h] at hq
      exact .skip hT SubV.nil hq ih
theorem sizeNat {m : Nat} (h : m ≤ 1000) : m ≤ sizeLine := Nat.le_trans h (by rw [sizeLine_eq]; omega)
theorem fn_left (G : Glo W) (as bs : List Int) (hz : as.length ≤ 1000) : Fn W (n + 1) "_law_left" [dInts as, dInts bs] (.bool (leftB as bs)) := by
  refine Fn.mk' G 72 _ ["one", "other"] (out := .ret (.bool (leftB as bs))) (by decide) (by rfl) rfl ?_ (by decide) rfl ?_ (by rfl) (by rfl) (by rfl) ?_ rfl
  · intro pm cd doc vs h
    obtain ⟨a, b, rfl⟩ := len2 h
    rfl
  · intro x hx
    left
    simp only [List.mem_cons, List.not_mem_nil, or_false] at hx
    rcases hx with rfl | rfl <;> rfl
  · refine ExSs.ret (ExS.ret (EvE.cmp (a := dInts (ges as bs)) (b := dInts []) ?_ (EvE.list EvL.nil) (CmpR.eqInts _ _)))
    refine EvE.comp (V₀ := []) (CompSc.of (by rfl) (by decide) (by simp)) (EvI.zip (bnZip G) (EvE.name rfl) (EvE.name rfl)) (left_comp rfl rfl as bs) ?_
    rw [List.length_map]
    exact sizeNat (Nat.le_trans (ges_len as bs) hz)
end
end
section
section
variable {W : Wd} {n : Nat}
theorem fn2 (G : Glo W) (i : Nat) (f : Str) (hi : i ∈ fnIdx) (hf : fnName (stAt i) = f) {a b d : D} (hbind : ∀ pm cd doc (u v : Value), bindArgs (docDef (fnName (stAt i)) (fnArgs (stAt i)) (fnBody (stAt i)) (fnScope (stAt i)) pm cd doc) ⟨[u, v], []⟩ = pure [(("a" : Str), u), (("b" : Str), v)])
    (h1 : (fnScope (stAt i)).names.lookup ("a" : Str) = some .local) (h2 : (fnScope (stAt i)).names.lookup ("b" : Str) = some .local) (hk : (fnScope (stAt i)).kind = .function) (hco : (fnScope (stAt i)).isCoroutine = false) (hgen : (fnScope (stAt i)).isGenerator = false)
    (hb : ExSs W n (fnScope (stAt i)) [("a", .val a), ("b", .val b)] (fnBody (stAt i)) (.ret d)) : Fn W (n + 1) f [a, b] d := by
  refine Fn.mk' G i f ["a", "b"] (out := .ret d) hi hf rfl ?_ (by decide) rfl ?_ hk hco hgen hb rfl
  · intro pm cd doc vs h
    obtain ⟨a, b, rfl⟩ := len2 h
    exact hbind ..
  · intro x hx
    left
    simp only [List.mem_cons, List.not_mem_nil, or_false] at hx
    rcases hx with rfl | rfl <;> assumption
theorem fn_add (G : Glo W) (a b : Int) : Fn W (n + 1) "add" [.int a, .int b] (.int (a + b)) := fn2 G 4 _ (by decide) (by rfl) (fun _ _ _ _ _ => by rfl) (by rfl) (by rfl) (by rfl) (by rfl) (by rfl) (ExSs.ret (ExS.ret (EvE.bin (EvE.name rfl) (EvE.name rfl) BinR.add)))
theorem fn_and (G : Glo W) (a b : Int) : Fn W (n + 1) "and_" [.int a, .int b] (.int (Builtin.bitAnd a b)) := fn2 G 5 _ (by decide) (by rfl) (fun _ _ _ _ _ => by rfl) (by rfl) (by rfl) (by rfl) (by rfl) (by rfl) (ExSs.ret (ExS.ret (EvE.bin (EvE.name rfl) (EvE.name rfl) BinR.and)))
theorem fn_floordiv (G : Glo W) (a b : Int) (hb : b ≠ 0) (hp : Builtin.divisionGoesByPylong a b = false) : Fn W (n + 1) "floordiv" [.int a, .int b] (.int (a.fdiv b)) := fn2 G 6 _ (by decide) (by rfl) (fun _ _ _ _ _ => by rfl) (by rfl) (by rfl) (by rfl) (by rfl) (by rfl) (ExSs.ret (ExS.ret (EvE.bin (EvE.name rfl) (EvE.name rfl) (BinR.fdiv hb hp))))
theorem fn_mod (G : Glo W) (a b : Int) (hb : b ≠ 0) : Fn W (n + 1) "mod" [.int a, .int b] (.int (a.fmod b)) := fn2 G 7 _ (by decide) (by rfl) (fun _ _ _ _ _ => by rfl) (by rfl) (by rfl) (by rfl) (by rfl) (by rfl) (ExSs.ret (ExS.ret (EvE.bin (EvE.name rfl) (EvE.name rfl) (BinR.fmod hb))))
theorem fn_mul (G : Glo W) (a b : Int) (hm : IntMulOk a b) : Fn W (n + 1) "mul" [.int a, .int b] (.int (a * b)) := fn2 G 8 _ (by decide) (by rfl) (fun _ _ _ _ _ => by rfl) (by rfl) (by rfl) (by rfl) (by rfl) (by rfl) (ExSs.ret (ExS.ret (EvE.bin (EvE.name rfl) (EvE.name rfl) (BinR.mul hm))))
theorem fn_or (G : Glo W) (a b : Int) : Fn W (n + 1) "or_" [.int a, .int b] (.int (Builtin.bitOr a b)) := fn2 G 9 _ (by decide) (by rfl) (fun _ _ _ _ _ => by rfl) (by rfl) (by rfl) (by rfl) (by rfl) (by rfl) (ExSs.ret (ExS.ret (EvE.bin (EvE.name rfl) (EvE.name rfl) BinR.or)))
theorem fn_sub (G : Glo W) (a b : Int) : Fn W (n + 1) "sub" [.int a, .int b] (.int (a - b)) := fn2 G 10 _ (by decide) (by rfl) (fun _ _ _ _ _ => by rfl) (by rfl) (by rfl) (by rfl) (by rfl) (by rfl) (ExSs.ret (ExS.ret (EvE.bin (EvE.name rfl) (EvE.name rfl) BinR.sub)))
theorem fn_xor (G : Glo W) (a b : Int) : Fn W (n + 1) "xor" [.int a, .int b] (.int (Builtin.bitXor a b)) := fn2 G 11 _ (by decide) (by rfl) (fun _ _ _ _ _ => by rfl) (by rfl) (by rfl) (by rfl) (by rfl) (by rfl) (ExSs.ret (ExS.ret (EvE.bin (EvE.name rfl) (EvE.name rfl) BinR.xor)))
theorem fn_contains (G : Glo W) (M : List (Str × D)) (x : Str) : Fn W (n + 1) "contains" [.mapS M, .str x] (.bool (M.lookup x).isSome) := fn2 G 12 _ (by decide) (by rfl) (fun _ _ _ _ _ => by rfl) (by rfl) (by rfl) (by rfl) (by rfl) (by rfl) (ExSs.ret (ExS.ret (EvE.cmp (EvE.name rfl) (EvE.name rfl) CmpR.inS)))
theorem fn_getitem (G : Glo W) (M : List (Str × D)) (x : Str) (d : D) (h : M.lookup x = some d) : Fn W (n + 1) "getitem" [.mapS M, .str x] d := fn2 G 13 _ (by decide) (by rfl) (fun _ _ _ _ _ => by rfl) (by rfl) (by rfl) (by rfl) (by rfl) (by rfl) (ExSs.ret (ExS.ret (EvE.item (EvE.name rfl) (EvE.name rfl) (SubR.mapS h))))
theorem fn_term (G : Glo W) (a : Int) : Fn W (n + 1) "ISTERMINAL" [.int a] (.bool (decide (a < 256))) := by
  obtain ⟨v, hv, r⟩ := G.nt
  refine Fn.mk' G 67 _ ["x"] (out := .ret (.bool (decide (a < 256)))) (by decide) (by rfl) rfl ?_ (by decide) rfl ?_ (by rfl) (by rfl) (by rfl) ?_ rfl
  · intro pm cd doc vs h
    obtain ⟨a, rfl⟩ := len1 h
    rfl
  · intro x hx
    left
    simp only [List.mem_cons, List.not_mem_nil, or_false] at hx
    subst hx; rfl
  · exact ExSs.ret (ExS.ret (EvE.cmp (EvE.name rfl) (EvE.glob rfl hv r) CmpR.ltI))
theorem fn_nonterm (G : Glo W) (a : Int) : Fn W (n + 1) "ISNONTERMINAL" [.int a] (.bool (decide (a ≥ 256))) := by
  obtain ⟨v, hv, r⟩ := G.nt
  refine Fn.mk' G 68 _ ["x"] (out := .ret (.bool (decide (a ≥ 256)))) (by decide) (by rfl) rfl ?_ (by decide) rfl ?_ (by rfl) (by rfl) (by rfl) ?_ rfl
  · intro pm cd doc vs h
    obtain ⟨a, rfl⟩ := len1 h
    rfl
  · intro x hx
    left
    simp only [List.mem_cons, List.not_mem_nil, or_false] at hx
    subst hx; rfl
  · exact ExSs.ret (ExS.ret (EvE.cmp (EvE.name rfl) (EvE.glob rfl hv r) CmpR.geI))
end
end
section
noncomputable def colStep (k c : Int) (ch : Nat) : Int := if ch = 32 then c + 1 else (c.fdiv k + 1) * k
noncomputable def colOf (k : Int) (cs : List Nat) : Int := cs.foldl (colStep k) 0
noncomputable def colsOf (cs : List Nat) : List Int := [1, 2, 3, 4, 5].map fun k => colOf k cs
theorem spc : (Str.ofString " ").cps.toList = [32] := by rfl
section
variable {W : Wd} {n : Nat} {sc : Scope}
theorem SubV.outN {V V₁ V₂ : Vars} {l : List Stmt} (h : ExSs W n sc V l (.next V₁)) (hs : SubV V₂ V₁) : ExSs W n sc V l (.next V₂) := ExSs.outNext h hs
theorem fn_columns (G : Glo W) (x : Str) (ha : x.cps.all (· < 128) = true) : Fn W (n + 1) "_law_columns" [.str x] (dInts (colsOf x.cps.toList)) := by
  refine Fn.mk' G 71 _ ["lead"] (out := .ret (dInts (colsOf x.cps.toList))) (by decide) (by rfl) rfl ?_ (by decide) rfl ?_ (by rfl) (by rfl) (by rfl) ?_ rfl
  · intro pm cd doc vs h
    obtain ⟨a, rfl⟩ := len1 h
    rfl
  · intro x hx
    left
    simp only [List.mem_cons, List.not_mem_nil, or_false] at hx
    subst hx; rfl
  · refine ExSs.cons (ExS.own (EvN.list EvL.nil) (by rfl)) ?_
    refine ExSs.cons (V₁ := [("lead", .val (.str x)), ("columns", .own ((colsOf x.cps.toList).map .int))]) (ExS.for (EvI.range2 (bnRange G) EvE.int EvE.int (by decide) (by decide) (by decide) (by decide)) ?_) ?_
    · show ForR W n _ _ _ [("lead", .val (.str x)), ("columns", .own [])] (([1, 2, 3, 4, 5] : List Int).map .int) (.next _)
      have go : ∀ (ks : List Int) (done : List Int), (∀ k ∈ ks, 1 ≤ k ∧ k ≤ 5) → done.length + ks.length ≤ 100 → ForR W n (fnScope (stAt 71)) (forT (nth (fnBody (stAt 71)) 1)) (forB (nth (fnBody (stAt 71)) 1)) [("lead", .val (.str x)), ("columns", .own (done.map .int))] (ks.map .int) (.next [("lead", .val (.str x)), ("columns", .own ((done ++ ks.map fun k => colOf k x.cps.toList).map .int))]) := by
        intro ks
        induction ks with
        | nil => intro done _ _; simp only [List.map_nil, List.append_nil]; exact .nil
        | cons k ks ih =>
          intro done hk hd
          rw [List.length_cons] at hd
          have hk1 := hk k (.head _)
          refine .more (AsR.loc (by rfl)) (SubV.outN (V₂ := [("lead", .val (.str x)), ("columns", .own ((done ++ [colOf k x.cps.toList]).map .int))]) (ExSs.cons (ExS.let EvE.int (by rfl)) (ExSs.cons (V₁ := [("lead", .val (.str x)), ("columns", .own (done.map .int)), ("size", .val (.int k)), ("column", .val (.int (colOf k x.cps.toList)))]) (ExS.for (EvI.str (EvE.name (by rfl)) ha) ?_) (ExSs.cons (ExS.expr (EvX.append (by rfl) (EvX.of (EvE.name (by rfl))) (by rfl) (sizeNat (by simp; omega))) (EnvK.hi _)) ExSs.nil))) ?_) ?_
          · have inner : ∀ (cs : List Nat) (c : Int), ForR W n (fnScope (stAt 71)) (forT (nth (forB (nth (fnBody (stAt 71)) 1)) 1)) (forB (nth (forB (nth (fnBody (stAt 71)) 1)) 1)) [("lead", .val (.str x)), ("columns", .own (done.map .int)), ("size", .val (.int k)), ("column", .val (.int c))] (cs.map fun c => D.str ⟨#[c]⟩)
                (.next [("lead", .val (.str x)), ("columns", .own (done.map .int)), ("size", .val (.int k)), ("column", .val (.int (cs.foldl (colStep k) c)))]) := by
              intro cs
              induction cs with
              | nil => intro c; exact .nil
              | cons ch cs ihc =>
                intro c
                refine .more (AsR.loc (by rfl)) (SubV.outN (V₂ := [("lead", .val (.str x)), ("columns", .own (done.map .int)), ("size", .val (.int k)), ("column", .val (.int (colStep k c ch)))]) (ExSs.cons (ExS.let (d := .int (colStep k c ch)) ?_ (by rfl)) ExSs.nil) ?_) (ihc _)
                · refine EvE.ifexp (EvB.cmp (EvE.name (by rfl)) EvE.str CmpR.eqS) (fun h => ?_) (fun h => ?_)
                  · have e : ch = 32 := by simpa [spc] using h
                    rw [show colStep k c ch = c + 1 by unfold colStep; rw [if_pos e]]
                    exact EvE.bin (EvE.name (by rfl)) EvE.int BinR.add
                  · have e : ¬ ch = 32 := by simpa [spc] using h
                    rw [show colStep k c ch = (c.fdiv k + 1) * k by unfold colStep; rw [if_neg e]]
                    have hm : IntMulOk (c.fdiv k + 1) k := IntMulOk.of_right (by
                      have : k = 1 ∨ k = 2 ∨ k = 3 ∨ k = 4 ∨ k = 5 := by omega
                      rcases this with rfl | rfl | rfl | rfl | rfl <;> decide)
                    exact EvE.bin (EvE.bin (EvE.bin (EvE.name (by rfl)) (EvE.name (by rfl)) (BinR.fdiv (by omega) (PyProof.noPylong_small (by omega)))) EvE.int BinR.add) (EvE.name (by rfl)) (BinR.mul hm)
                · repeat (first | exact SubV.nil | refine SubV.cons ?_ (by rfl))
            exact inner x.cps.toList 0
          · rw [List.map_append]
            repeat (first | exact SubV.nil | refine SubV.cons ?_ (by rfl))
          · have := ih (done ++ [colOf k x.cps.toList]) (fun k' h' => hk k' (.tail _ h')) (by simp; omega)
            simpa using this
      exact go [1, 2, 3, 4, 5] [] (by decide) (by decide)
    · exact ExSs.freeze (y := "columns") (by rfl) (ExSs.ret (ExS.ret (EvE.name (by rfl))))
end
end
section
section
variable {W : Wd} {n : Nat} {sc : Scope} {V V' V₀ V₁ V₂ : Vars} {o : Out}
theorem ForR.fold {α σ : Type} {tgt : Expr} {body : List Stmt} (enc : α → D) (Vs : σ → Vars) (step : σ → α → σ) (Inv : Nat → σ → Prop) (l : List α)
    (hstep : ∀ k s a, l[k]? = some a → Inv k s → ∃ V₁ V₂, AsR W true n sc tgt (enc a) (Vs s) V₁ ∧ ExSs W n sc V₁ body (.next V₂) ∧ SubV (Vs (step s a)) V₂ ∧ Inv (k + 1) (step s a)) (s : σ) (h0 : Inv 0 s) :
    ForR W n sc tgt body (Vs s) (l.map enc) (.next (Vs (l.foldl step s))) := by
  have go : ∀ (r : List α) (k : Nat) (s : σ), l.drop k = r → Inv k s → ForR W n sc tgt body (Vs s) (r.map enc) (.next (Vs (r.foldl step s))) := by
    intro r
    induction r with
    | nil => intro k s _ _; exact .nil
    | cons a r ih =>
      intro k s e hi
      have ha : l[k]? = some a := by
        have := congrArg (·[0]?) e
        simpa using this
      obtain ⟨V₁, V₂, h1, h2, h3, h4⟩ := hstep k s a ha hi
      exact .more h1 (ExSs.outNext h2 h3) (ih (k + 1) (step s a) (by rw [← List.drop_drop, e]; rfl) h4)
  exact go l 0 s rfl h0
theorem CompR.gen {α : Type} {x : Str} {px : Pos} {ifs : List Expr} {elt : Expr} (hk : sc.names.lookup x = some .local) (hx : V₀.lookup x = none) (enc : α → D) (p : α → Bool) (f : α → D) : ∀ l : List α, (∀ a ∈ l, TestsR W n sc (setV V₀ x (.val (enc a))) ifs (p a)) → (∀ a ∈ l, p a = true → EvE W n sc (setV V₀ x (.val (enc a))) elt (f a)) →
    CompR W n sc (.Name x px) ifs elt V₀ (l.map enc) ((l.filter p).map f)
  | [], _, _ => .nil
  | a :: r, h1, h2 => by
    have ih := CompR.gen (px := px) hk hx enc p f r (fun b hb => h1 b (.tail _ hb)) (fun b hb => h2 b (.tail _ hb))
    have ht := h1 a (.head _)
    rw [List.map_cons, List.filter_cons]
    cases hp : p a with
    | true => rw [hp] at ht; rw [if_pos rfl]; exact .take (AsR.loc hk) (SubV.set SubV.refl hx) ht (h2 a (.head _) hp) ih
    | false => rw [hp] at ht; rw [if_neg (by decide)]; exact .skip (AsR.loc hk) (SubV.set SubV.refl hx) ht ih
theorem CompR.map {α : Type} {x : Str} {px : Pos} {elt : Expr} (hk : sc.names.lookup x = some .local) (hx : V₀.lookup x = none) (enc : α → D) (f : α → D) (l : List α) (h2 : ∀ a ∈ l, EvE W n sc (setV V₀ x (.val (enc a))) elt (f a)) :
    CompR W n sc (.Name x px) [] elt V₀ (l.map enc) (l.map f) := by
  have := CompR.gen (W := W) (n := n) (px := px) (ifs := []) (elt := elt) hk hx enc (fun _ => true) f l (fun _ _ => .nil) (fun a ha _ => h2 a ha)
  rwa [List.filter_eq_self.mpr (fun _ _ => rfl)] at this
theorem rangeD_nat (k : Nat) : rangeD 0 k 1 = (List.range k).map fun (i : Nat) => D.int (i : Int) := by
  unfold rangeD
  apply List.map_congr_left
  intro i _
  simp
theorem EvB.ofBool {e : Expr} {q : Bool} (h : EvE W n sc V e (.bool q)) (he : ∀ env, isTrue e env (eval e env) = (do let v ← eval e env; standAt e.pos; holding [v] (truthy v)) := by intro _; rfl) : EvB W n sc V e q :=
  EvB.val h (fun A g s v sv r Q E hq => by rw [r.of_bool]; exact wpAny_truthy_bool (hq s g (Gr.refl sv.sub))) he
theorem fnArg1 {i : Nat} {x : Str} (h : (fnScope (stAt i)).names.lookup x = some .local ∨ (fnScope (stAt i)).names.lookup x = some .cell) : ∀ y ∈ [x], (fnScope (stAt i)).names.lookup y = some .local ∨ (fnScope (stAt i)).names.lookup y = some .cell := fun y hy => by rw [List.mem_singleton.mp hy]; exact h
theorem fnArg2 {i : Nat} {x z : Str} (h : (fnScope (stAt i)).names.lookup x = some .local ∨ (fnScope (stAt i)).names.lookup x = some .cell) (h2 : (fnScope (stAt i)).names.lookup z = some .local ∨ (fnScope (stAt i)).names.lookup z = some .cell) :
    ∀ y ∈ [x, z], (fnScope (stAt i)).names.lookup y = some .local ∨ (fnScope (stAt i)).names.lookup y = some .cell := fun y hy => by
  simp only [List.mem_cons, List.not_mem_nil, or_false] at hy
  rcases hy with rfl | rfl <;> assumption
theorem fnArg3 {i : Nat} {x z u : Str} (h : (fnScope (stAt i)).names.lookup x = some .local ∨ (fnScope (stAt i)).names.lookup x = some .cell) (h2 : (fnScope (stAt i)).names.lookup z = some .local ∨ (fnScope (stAt i)).names.lookup z = some .cell) (h3 : (fnScope (stAt i)).names.lookup u = some .local ∨ (fnScope (stAt i)).names.lookup u = some .cell) :
    ∀ y ∈ [x, z, u], (fnScope (stAt i)).names.lookup y = some .local ∨ (fnScope (stAt i)).names.lookup y = some .cell := fun y hy => by
  simp only [List.mem_cons, List.not_mem_nil, or_false] at hy
  rcases hy with rfl | rfl | rfl <;> assumption
end

/-! _law_parents -/
noncomputable def goodB (cs : List (List Int)) (j k : Nat) : Bool := leftB (cs.getD j []) (cs.getD k [])
noncomputable def badKs (cs : List (List Int)) (j i : Nat) : List Nat := (List.range (i - j)).filter fun t => !goodB cs j (j + 1 + t)
noncomputable def parStep (cs : List (List Int)) (i : Nat) (p : Int) (j : Nat) : Int := if badKs cs j i = [] then (j : Int) else p
noncomputable def parOf (cs : List (List Int)) (i : Nat) : Int := (List.range i).foldl (parStep cs i) (-1)
noncomputable def parsOf (cs : List (List Int)) : List Int := (List.range cs.length).map (parOf cs)
noncomputable def dCols (cs : List (List Int)) : D := .list (cs.map dInts)
section
variable {W : Wd} {n : Nat}
theorem fn_parents (G : Glo W) (cs : List (List Int)) (hl : cs.length ≤ 100) (hz : ∀ c ∈ cs, c.length ≤ 1000) : Fn W (n + 2) "_law_parents" [dCols cs] (dInts (parsOf cs)) := by
  refine Fn.mk' G 73 _ ["columns"] (out := .ret (dInts (parsOf cs))) (by decide) (by rfl) rfl ?_ (by decide) rfl (fnArg1 (.inr (by rfl))) (by rfl) (by rfl) (by rfl) ?_ rfl
  · intro pm cd doc vs h
    obtain ⟨a, rfl⟩ := len1 h
    rfl
  · refine ExSs.cons (ExS.own (EvN.list EvL.nil) (by rfl)) ?_
    refine ExSs.cons (V₁ := [("columns", .val (dCols cs)), ("parents", .own ((parsOf cs).map .int))]) (ExS.for (EvI.range1 (bnRange G) (EvE.bcall (bnLen G) (CallR.len (xs := cs.map dInts) (by rw [List.length_map]; omega)) (EvL.cons (EvE.name (by rfl)) EvL.nil)) (by omega) (by rw [List.length_map]; omega)) ?_) ?_
    · rw [show ((cs.map dInts).length : Int).toNat = cs.length by simp, rangeD_nat]
      have := ForR.fold (W := W) (n := n + 1) (sc := fnScope (stAt 73)) (tgt := forT (nth (fnBody (stAt 73)) 1)) (body := forB (nth (fnBody (stAt 73)) 1)) (fun (i : Nat) => D.int (i : Int)) (fun (ps : List Int) => [("columns", .val (dCols cs)), ("parents", .own (ps.map .int))]) (fun ps i => ps ++ [parOf cs i]) (fun k ps => ps.length = k) (List.range cs.length) ?_ [] rfl
      · have e : ∀ (l : List Nat) (ps : List Int), l.foldl (fun ps i => ps ++ [parOf cs i]) ps = ps ++ l.map (parOf cs) := by
          intro l
          induction l with
          | nil => intro ps; simp
          | cons a l ih => intro ps; rw [List.foldl_cons, ih]; simp
        rw [e] at this
        exact this
      · intro i ps a ha hp
        obtain rfl : i = a := by
          rw [List.getElem?_range (by have := (List.getElem?_eq_some_iff.mp ha).1; simpa using this)] at ha
          exact Option.some.inj ha
        have hi : i < cs.length := by have := (List.getElem?_eq_some_iff.mp ha).1; simpa using this
        refine ⟨_, _, AsR.loc (by rfl), ExSs.cons (ExS.let (EvE.un EvE.int UnR.neg) (by rfl)) (ExSs.cons (V₁ := [("columns", .val (dCols cs)), ("parents", .own (ps.map .int)), ("i", .val (.int i)), ("parent", .val (.int (parOf cs i)))]) (ExS.for (EvI.range1 (bnRange G) (EvE.name (by rfl)) (by omega) (by omega)) ?_)
          (ExSs.cons (ExS.expr (EvX.append (by rfl) (EvX.of (EvE.name (by rfl))) (by rfl) (sizeNat (by simp; omega))) (EnvK.hi _)) ExSs.nil)), ?_, by simp [hp]⟩
        · rw [show ((i : Int)).toNat = i by simp, rangeD_nat]
          refine ForR.fold (W := W) (n := n + 1) (fun (j : Nat) => D.int (j : Int)) (fun (p : Int) => [("columns", .val (dCols cs)), ("parents", .own (ps.map .int)), ("i", .val (.int i)), ("parent", .val (.int p))]) (parStep cs i) (fun _ _ => True) (List.range i) ?_ (-1) trivial
          intro j p a ha _
          obtain rfl : j = a := by
            rw [List.getElem?_range (by have := (List.getElem?_eq_some_iff.mp ha).1; simpa using this)] at ha
            exact Option.some.inj ha
          have hj : j < i := by have := (List.getElem?_eq_some_iff.mp ha).1; simpa using this
          refine ⟨_, [("columns", .val (dCols cs)), ("parents", .own (ps.map .int)), ("i", .val (.int i)), ("parent", .val (.int (parStep cs i p j)))], AsR.cell (by rfl), ExSs.cons ?_ ExSs.nil, SubV.refl, trivial⟩
          refine ExS.ite (q := decide ((badKs cs j i).map (fun t => ((j + 1 + t : Nat) : Int)) = [])) (EvB.cmp (a := dInts ((badKs cs j i).map fun t => ((j + 1 + t : Nat) : Int))) (b := dInts []) ?_ (EvE.list EvL.nil) (CmpR.eqInts _ _)) (fun h => ?_) (fun h => ?_)
          · have hcol : ∀ k, k < cs.length → (cs.map dInts)[k]? = some (dInts (cs.getD k [])) := fun k hk => by
              rw [List.getElem?_map, List.getElem?_eq_getElem hk]
              simp [hk]
            have hgz : ∀ k, (cs.getD k []).length ≤ 1000 := fun k => by
              by_cases hk : k < cs.length
              · have : cs.getD k [] = cs[k] := by simp [hk]
                rw [this]; exact hz _ (List.getElem_mem hk)
              · have : cs.getD k [] = [] := by simp [hk]
                rw [this]; simp
            have e1 : ((i : Int) + 1 - ((j : Int) + 1)).toNat = i - j := by omega
            refine EvE.comp (V₀ := [("columns", .val (dCols cs)), ("j", .val (.int j))]) (CompSc.of (by rfl) (by decide) ?_) (EvI.range2 (bnRange G) (EvE.bin (EvE.name (by rfl)) EvE.int BinR.add) (EvE.bin (EvE.name (by rfl)) EvE.int BinR.add) (by omega) (by omega) (by omega) (by omega)) ?_ ?_
            · intro q hq
              simp only [List.mem_cons, List.not_mem_nil, or_false] at hq
              rcases hq with rfl | rfl
              · exact ⟨⟨_, rfl, by rfl⟩, by rfl⟩
              · exact ⟨⟨_, rfl, by rfl⟩, by rfl⟩
            · rw [e1, show ((badKs cs j i).map (fun t => ((j + 1 + t : Nat) : Int))).map D.int = ((List.range (i - j)).filter fun t => !goodB cs j (j + 1 + t)).map (fun (t : Nat) => D.int ((j : Int) + 1 + (t : Int) * 1)) by
                unfold badKs
                rw [List.map_map]
                apply List.map_congr_left
                intro t _
                simp]
              refine CompR.gen (by rfl) (by rfl) (fun (t : Nat) => D.int ((j : Int) + 1 + t * 1)) (fun t => !goodB cs j (j + 1 + t)) _ (List.range (i - j)) (fun t ht => ?_) (fun t ht _ => EvE.name (by rfl))
              have ht := List.mem_range.mp ht
              refine TestsR.one (EvB.not (EvB.ofBool (EvE.call (by rfl) (fn_left G _ _ (hgz j)) (EvL.cons (EvE.item (EvE.name (by rfl)) (EvE.name (by rfl)) (SubR.list (.inl ⟨by omega, rfl⟩) (by simpa using hcol j (by omega)) (by simp; omega)))
                (EvL.cons (EvE.item (EvE.name (by rfl)) (EvE.name (by rfl)) (SubR.list (j := j + 1 + t) (.inl ⟨by omega, by omega⟩) (hcol _ (by omega)) (by simp; omega))) EvL.nil)))))
            · rw [List.length_map, List.length_map]
              refine sizeNat (Nat.le_trans (List.length_filter_le _ _) ?_)
              simp; omega
          · have hb : badKs cs j i = [] := by simpa using h
            rw [show parStep cs i p j = (j : Int) by unfold parStep; rw [if_pos hb]]
            exact ExSs.outNext (ExSs.cons (ExS.let (EvE.name (by rfl)) (by rfl)) ExSs.nil) (by repeat (first | exact SubV.nil | refine SubV.cons ?_ (by rfl)))
          · have hb : ¬ badKs cs j i = [] := by simpa using h
            rw [show parStep cs i p j = p by unfold parStep; rw [if_neg hb]]
            exact ExSs.sub ExSs.nil (by repeat (first | exact SubV.nil | refine SubV.cons ?_ (by rfl)))
        · rw [List.map_append]
          repeat (first | exact SubV.nil | refine SubV.cons ?_ (by rfl))
    · exact ExSs.freeze (y := "parents") (by rfl) (ExSs.ret (ExS.ret (EvE.name (by rfl))))
end
end
section
noncomputable def asgV : Stmt → Expr
  | .Assign _ v _ => v
  | _ => default
noncomputable def strsOf : Expr → List Str
  | .List es _ => es.map fun e => match e with
    | .Constant (.str s) _ _ => s
    | _ => default
  | _ => []
noncomputable def kvsOf : List (Option Expr) → List Expr → List (Str × Int)
  | some (.Constant (.str k) _ _) :: ks, .Constant (.int i) _ _ :: vs => (k, i) :: kvsOf ks vs
  | _, _ => []
noncomputable def kindsOf : Expr → List (Str × Int)
  | .Dict ks vs _ => kvsOf ks vs
  | _ => []
/-- the ten leads, the eight signs, the signs' numbers -/
noncomputable def leadsT : List Str := strsOf (asgV (nth (fnBody (stAt 70)) 2))
noncomputable def signsT : List Str := strsOf (asgV (nth (fnBody (stAt 70)) 3))
noncomputable def kindsT : List (Str × Int) := kindsOf (asgV (nth (fnBody (stAt 74)) 0))
structure Ln where
  l : Nat
  s : Nat
  v : Int
  p : Int
  h : Int
noncomputable def lead (i : Nat) : Str := leadsT.getD i default
noncomputable def sign (i : Nat) : Str := signsT.getD i default
noncomputable def kind (i : Nat) : Int := (kindsT.lookup (sign i)).getD 0
noncomputable def dLn (e : Ln) : D := .tuple [.str (lead e.l), .str (sign e.s), .int e.v, .int e.p, .int e.h]
noncomputable def dPage (es : List Ln) : D := .list (es.map dLn)
structure Ln.Ok (e : Ln) : Prop where
  l : e.l < 10
  s : e.s < 8
  v0 : 0 ≤ e.v
  v1 : e.v < 1000
  p0 : 0 ≤ e.p
  p1 : e.p < 3
  h0 : 0 ≤ e.h
  h1 : e.h < 2
theorem kinds_all : (List.range 8).all (fun s => decide (kindsT.lookup (sign s) = some (kind s))) = true := by decide +kernel
theorem kinds_at {s : Nat} (h : s < 8) : kindsT.lookup (sign s) = some (kind s) := of_decide_eq_true (List.all_eq_true.mp kinds_all s (List.mem_range.mpr h))
theorem lookup_map {K α β : Type} [BEq K] (f : α → β) (k : K) : ∀ l : List (K × α), (l.map fun p => (p.1, f p.2)).lookup k = (l.lookup k).map f
  | [] => rfl
  | (a, b) :: r => by
    rw [List.map_cons, List.lookup_cons, List.lookup_cons]
    cases k == a with
    | true => rfl
    | false => exact lookup_map f k r
theorem enumD_eq {α : Type} (enc : α → D) : ∀ (l : List α) (k : Nat), enumD k (l.map enc) = (l.zipIdx k).map fun p => D.tuple [.int (p.2 : Nat), enc p.1]
  | [], k => rfl
  | a :: r, k => by rw [List.map_cons, enumD, List.zipIdx_cons, List.map_cons, enumD_eq enc r (k + 1)]
theorem zipIdx_at {α : Type} {l : List α} {k : Nat} {p : α × Nat} (h : l.zipIdx[k]? = some p) : p.2 = k ∧ l[k]? = some p.1 := by
  rw [List.getElem?_zipIdx] at h
  cases hl : l[k]? with
  | none => rw [hl] at h; cases h
  | some a => rw [hl] at h; cases h; exact ⟨by simp, rfl⟩
theorem kinds_nd : (kindsT.map (·.1)).Nodup := by decide +kernel
theorem kinds_nd' : ((kindsT.map fun p => (p.1, D.int p.2)).map (·.1)).Nodup := by rw [List.map_map]; exact kinds_nd
noncomputable def below (ps : List Int) (i : Nat) : Int := ((ps.filter fun p => p == (i : Int)).map fun _ => (1 : Int)).length
noncomputable def rowStep (ps : List Int) (r : List Int) (e : Ln × Nat) : List Int := r ++ [kind e.1.s, 256 + 8 * e.1.v + below ps e.2]
noncomputable def rowOf (es : List Ln) (ps : List Int) : List Int := es.zipIdx.foldl (rowStep ps) []
noncomputable def kindsD : D := .mapS (kindsT.map fun p => (p.1, D.int p.2))
section
variable {W : Wd} {n : Nat}
theorem fn_laid (G : Glo W) (es : List Ln) (ps : List Int) (hl : es.length ≤ 100) (hp : ps.length ≤ 100) (ok : ∀ e ∈ es, e.Ok) : Fn W (n + 1) "_law_laid" [dPage es, dInts ps] (dInts (rowOf es ps)) := by
  refine Fn.mk' G 74 _ ["page", "parents"] (out := .ret (dInts (rowOf es ps))) (by decide) (by rfl) rfl ?_ (by decide) rfl (fnArg2 (.inl (by rfl)) (.inl (by rfl))) (by rfl) (by rfl) (by rfl) ?_ rfl
  · intro pm cd doc vs h
    obtain ⟨a, b, rfl⟩ := len2 h
    rfl
  · refine ExSs.cons (V₁ := [("page", .val (dPage es)), ("parents", .val (dInts ps)), ("kinds", .val kindsD)]) ?_ ?_
    · refine ExS.let (d := kindsD) ?_ ?_
      · refine EvE.dictS (M := kindsT.map fun p => (p.1, D.int p.2)) ?_ kinds_nd' ?_ ?_ ?_ ?_
        · exact .cons EvE.str EvE.int (.cons EvE.str EvE.int (.cons EvE.str EvE.int (.cons EvE.str EvE.int (.cons EvE.str EvE.int (.cons EvE.str EvE.int (.cons EvE.str EvE.int (.cons EvE.str EvE.int .nil)))))))
        · rfl
        · rfl
        · exact List.cons_ne_nil _ _
        · exact Nat.le_of_ble_eq_true rfl
      · rfl
    refine ExSs.cons (ExS.own (EvN.list EvL.nil) (by rfl)) ?_
    refine ExSs.cons (V₁ := [("page", .val (dPage es)), ("parents", .val (dInts ps)), ("kinds", .val kindsD), ("row", .own ((rowOf es ps).map .int))]) (ExS.for (EvI.enum (bnEnum G) (EvE.name (by rfl))) ?_) ?_
    · rw [enumD_eq]
      refine ForR.fold (W := W) (n := n) (fun (p : Ln × Nat) => D.tuple [.int (p.2 : Nat), dLn p.1]) (fun (r : List Int) => [("page", .val (dPage es)), ("parents", .val (dInts ps)), ("kinds", .val kindsD), ("row", .own (r.map .int))]) (rowStep ps) (fun k r => r.length = 2 * k) es.zipIdx ?_ [] rfl
      rintro k r ⟨e, i⟩ ha hr
      obtain ⟨hi, he⟩ := zipIdx_at ha
      dsimp only at hi he
      subst hi
      have hlt := (List.getElem?_eq_some_iff.mp he).1
      have oke := ok e (List.mem_of_getElem? he)
      refine ⟨_, _, AsR.tuple (AsRs.cons (AsR.cell (by rfl)) (AsRs.cons (AsR.loc (by rfl)) AsRs.nil)), ExSs.cons (ExS.let (d := .int (below ps i)) ?_ (by rfl)) (ExSs.cons (ExS.expr (EvX.extend (by rfl) (ds := [.int (kind e.s), .int (256 + 8 * e.v + below ps i)]) ?_ (by simp; omega)) (EnvK.hi _)) ExSs.nil), ?_, by unfold rowStep; simp [hr]; omega⟩
      · rw [show below ps i = ((ps.filter fun p => p == (i : Int)).map fun _ => D.int 1).length by unfold below; simp]
        refine EvE.bcall (bnLen G) (CallR.len (xs := (ps.filter fun p => p == (i : Int)).map fun _ => D.int 1) ?_) (EvL.cons ?_ EvL.nil)
        · rw [List.length_map]; exact Nat.le_trans (List.length_filter_le _ _) (by omega)
        · refine EvE.comp (V₀ := [("place", .val (.int i))]) (CompSc.of (by rfl) (by decide) ?_) (EvI.list (EvE.name (d := dInts ps) (by rfl))) ?_ ?_
          · intro q hq
            rw [List.mem_singleton] at hq
            subst hq
            exact ⟨⟨_, rfl, by rfl⟩, by rfl⟩
          · exact CompR.gen (by rfl) (by rfl) D.int (fun p => p == (i : Int)) (fun _ => D.int 1) ps (fun p _ => TestsR.one (EvB.cmp (EvE.name (by rfl)) (EvE.name (by rfl)) CmpR.eqI)) (fun _ _ _ => EvE.int)
          · rw [List.length_map]; exact sizeNat (Nat.le_trans (List.length_filter_le _ _) (by omega))
      · have hk : (kindsT.map fun p => (p.1, D.int p.2)).lookup (sign e.s) = some (.int (kind e.s)) := by rw [lookup_map, kinds_at oke.s]; rfl
        refine EvE.list (EvL.cons (EvE.item (a := kindsD) (EvE.name (by rfl)) (EvE.item (a := dLn e) (EvE.name (by rfl)) EvE.int (SubR.tuple (j := 1) (by rfl) (Nat.le_of_ble_eq_true rfl))) (SubR.mapS hk)) (EvL.cons ?_ EvL.nil)) (sizeNat (Nat.le_of_ble_eq_true rfl))
        exact EvE.bin (EvE.bin EvE.int (EvE.bin EvE.int (EvE.item (a := dLn e) (EvE.name (by rfl)) EvE.int (SubR.tuple (j := 2) (by rfl) (Nat.le_of_ble_eq_true rfl))) (BinR.mul (IntMulOk.of_left (by decide)))) BinR.add) (EvE.name (by rfl)) BinR.add
      · unfold rowStep
        rw [List.map_append]
        repeat (first | exact SubV.nil | refine SubV.cons ?_ (by rfl))
    · exact ExSs.freeze (y := "row") (by rfl) (ExSs.ret (ExS.ret (EvE.name (by rfl))))
end
end
section
noncomputable def deed (s : Nat) (a b : Int) : Int := match s with
  | 0 => a + b
  | 1 => a - b
  | 2 => a * b
  | 3 => Builtin.bitOr a b
  | 4 => Builtin.bitAnd a b
  | 5 => Builtin.bitXor a b
  | 6 => if b = 0 then a else a.fmod b
  | _ => if b = 0 then a else a.fdiv b
structure DeedOk (a b : Int) : Prop where
  mul : IntMulOk a b
  div : Builtin.divisionGoesByPylong a b = false
section
variable {W : Wd} {n : Nat} {sc : Scope} {V V' : Vars}
theorem sgn_hit {x y c : Str} {p1 p2 p3 p4 : Pos} {k : Nat} {body rest : List Stmt} {o : Out} (hy : V.lookup y = some (.val (.str x))) (hm : (x.cps.toList == c.cps.toList) = true) (hd : (y == ("__debug__" : Str)) = false) (h : ExSs W n sc V body o) (ho : ∀ V', o ≠ .next V') :
    ExSs W n sc V (.If (.Compare (.Name y p1) [.Eq] [.Constant (.str c) k p2] p3) body [] p4 :: rest) o :=
  ExSs.stop (ExS.ite (EvB.cmp (EvE.name hy hd) EvE.str CmpR.eqS) (fun _ => h) (fun h' => by rw [hm] at h'; cases h')) ho
theorem sgn_miss {x y c : Str} {p1 p2 p3 p4 : Pos} {k : Nat} {body rest : List Stmt} {o : Out} (hy : V.lookup y = some (.val (.str x))) (hm : (x.cps.toList == c.cps.toList) = false) (hd : (y == ("__debug__" : Str)) = false) (h : ExSs W n sc V rest o) :
    ExSs W n sc V (.If (.Compare (.Name y p1) [.Eq] [.Constant (.str c) k p2] p3) body [] p4 :: rest) o :=
  ExSs.cons (ExS.ite (EvB.cmp (EvE.name hy hd) EvE.str CmpR.eqS) (fun h' => by rw [hm] at h'; cases h') (fun _ => ExSs.nil)) h
theorem fn_deed (G : Glo W) {s : Nat} (hs : s < 8) {a b : Int} (ok : DeedOk a b) : Fn W (n + 1) "_law_deed" [.str (sign s), .int a, .int b] (.int (deed s a b)) := by
  refine Fn.mk' G 79 _ ["sign", "one", "other"] (out := .ret (.int (deed s a b))) (by decide) (by rfl) rfl ?_ (by decide) rfl (fnArg3 (.inl (by rfl)) (.inl (by rfl)) (.inl (by rfl))) (by rfl) (by rfl) (by rfl) ?_ rfl
  · intro pm cd doc vs h
    obtain ⟨a, b, c, rfl⟩ := len3 h
    rfl
  · have ret : ∀ {V' : Out}, ∀ V'', (Out.ret (.int (deed s a b))) ≠ .next V'' := fun V'' h => by cases h
    have h8 : s = 0 ∨ s = 1 ∨ s = 2 ∨ s = 3 ∨ s = 4 ∨ s = 5 ∨ s = 6 ∨ s = 7 := by omega
    rcases h8 with rfl | rfl | rfl | rfl | rfl | rfl | rfl | rfl
    · exact sgn_hit (by rfl) (by decide +kernel) (by decide) (ExSs.ret (ExS.ret (EvE.bin (EvE.name (by rfl)) (EvE.name (by rfl)) BinR.add))) (fun _ h => by cases h)
    · refine sgn_miss (by rfl) (by decide +kernel) (by decide) ?_
      exact sgn_hit (by rfl) (by decide +kernel) (by decide) (ExSs.ret (ExS.ret (EvE.bin (EvE.name (by rfl)) (EvE.name (by rfl)) BinR.sub))) (fun _ h => by cases h)
    · refine sgn_miss (by rfl) (by decide +kernel) (by decide) (sgn_miss (by rfl) (by decide +kernel) (by decide) ?_)
      exact sgn_hit (by rfl) (by decide +kernel) (by decide) (ExSs.ret (ExS.ret (EvE.bin (EvE.name (by rfl)) (EvE.name (by rfl)) (BinR.mul ok.mul)))) (fun _ h => by cases h)
    · refine sgn_miss (by rfl) (by decide +kernel) (by decide) (sgn_miss (by rfl) (by decide +kernel) (by decide) (sgn_miss (by rfl) (by decide +kernel) (by decide) ?_))
      exact sgn_hit (by rfl) (by decide +kernel) (by decide) (ExSs.ret (ExS.ret (EvE.bin (EvE.name (by rfl)) (EvE.name (by rfl)) BinR.or))) (fun _ h => by cases h)
    · refine sgn_miss (by rfl) (by decide +kernel) (by decide) (sgn_miss (by rfl) (by decide +kernel) (by decide) (sgn_miss (by rfl) (by decide +kernel) (by decide) (sgn_miss (by rfl) (by decide +kernel) (by decide) ?_)))
      exact sgn_hit (by rfl) (by decide +kernel) (by decide) (ExSs.ret (ExS.ret (EvE.bin (EvE.name (by rfl)) (EvE.name (by rfl)) BinR.and))) (fun _ h => by cases h)
    · refine sgn_miss (by rfl) (by decide +kernel) (by decide) (sgn_miss (by rfl) (by decide +kernel) (by decide) (sgn_miss (by rfl) (by decide +kernel) (by decide) (sgn_miss (by rfl) (by decide +kernel) (by decide) (sgn_miss (by rfl) (by decide +kernel) (by decide) ?_))))
      exact sgn_hit (by rfl) (by decide +kernel) (by decide) (ExSs.ret (ExS.ret (EvE.bin (EvE.name (by rfl)) (EvE.name (by rfl)) BinR.xor))) (fun _ h => by cases h)
    all_goals
      refine sgn_miss (by rfl) (by decide +kernel) (by decide) (sgn_miss (by rfl) (by decide +kernel) (by decide) (sgn_miss (by rfl) (by decide +kernel) (by decide) (sgn_miss (by rfl) (by decide +kernel) (by decide) (sgn_miss (by rfl) (by decide +kernel) (by decide) (sgn_miss (by rfl) (by decide +kernel) (by decide) ?_)))))
      by_cases hb : b = 0
    · refine ExSs.stop (ExS.ite (EvB.cmp (EvE.name (by rfl)) EvE.int CmpR.eqI) (fun _ => ExSs.ret (ExS.ret ?_)) (fun h => absurd hb (by simpa using h))) (fun _ h => by cases h)
      rw [show deed 6 a b = a from if_pos hb]
      exact EvE.name (by rfl)
    · refine ExSs.cons (ExS.ite (EvB.cmp (EvE.name (by rfl)) EvE.int CmpR.eqI) (fun h => absurd (by simpa using h) hb) (fun _ => ExSs.nil)) (ExSs.ret (ExS.ret ?_))
      rw [show deed 6 a b = a.fmod b from if_neg hb]
      exact EvE.ifexp (EvB.cmp (EvE.name (by rfl)) EvE.str CmpR.eqS) (fun _ => EvE.bin (EvE.name (by rfl)) (EvE.name (by rfl)) (BinR.fmod hb)) (fun h => absurd h (by decide +kernel))
    · refine ExSs.stop (ExS.ite (EvB.cmp (EvE.name (by rfl)) EvE.int CmpR.eqI) (fun _ => ExSs.ret (ExS.ret ?_)) (fun h => absurd hb (by simpa using h))) (fun _ h => by cases h)
      rw [show deed 7 a b = a from if_pos hb]
      exact EvE.name (by rfl)
    · refine ExSs.cons (ExS.ite (EvB.cmp (EvE.name (by rfl)) EvE.int CmpR.eqI) (fun h => absurd (by simpa using h) hb) (fun _ => ExSs.nil)) (ExSs.ret (ExS.ret ?_))
      rw [show deed 7 a b = a.fdiv b from if_neg hb]
      exact EvE.ifexp (EvB.cmp (EvE.name (by rfl)) EvE.str CmpR.eqS) (fun h => absurd h (by decide +kernel)) (fun _ => EvE.bin (EvE.name (by rfl)) (EvE.name (by rfl)) (BinR.fdiv hb ok.div))
end
end
section
noncomputable def lnAt (es : List Ln) (i : Nat) : Ln := es.getD i ⟨0, 0, 0, 0, 0⟩
noncomputable def worthF (es : List Ln) (ps : List Int) : Nat → Nat → Int
  | 0, i => (lnAt es i).v
  | f + 1, i => (List.range (es.length - (i + 1))).foldl (fun w t => if ps.getD (i + 1 + t) 0 = (i : Int) then deed (lnAt es i).s w (worthF es ps f (i + 1 + t)) else w) (lnAt es i).v
noncomputable def worthP (es : List Ln) (ps : List Int) (f i m : Nat) : Int := (List.range m).foldl (fun w t => if ps.getD (i + 1 + t) 0 = (i : Int) then deed (lnAt es i).s w (worthF es ps f (i + 1 + t)) else w) (lnAt es i).v
theorem worthP_succ (es : List Ln) (ps : List Int) (f i m : Nat) : worthP es ps f i (m + 1) = if ps.getD (i + 1 + m) 0 = (i : Int) then deed (lnAt es i).s (worthP es ps f i m) (worthF es ps f (i + 1 + m)) else worthP es ps f i m := by
  unfold worthP
  rw [List.range_succ, List.foldl_append]
  rfl
section
variable {W : Wd} {n : Nat}
theorem page_at {es : List Ln} {i : Nat} (h : i < es.length) : (es.map dLn)[i]? = some (dLn (lnAt es i)) := by
  rw [List.getElem?_map, List.getElem?_eq_getElem h]
  simp [lnAt, h]
theorem fn_worth (G : Glo W) (es : List Ln) (ps : List Int) (hl : es.length ≤ 100) (hp : ps.length = es.length) (ok : ∀ e ∈ es, e.Ok) (hw : ∀ f i m, i + 1 + m < es.length → DeedOk (worthP es ps f i m) (worthF es ps f (i + 1 + m))) :
    ∀ (f i : Nat), i < es.length → es.length - 1 - i ≤ f → Fn W (n + 2 + f) "_law_worth" [.int i, dPage es, dInts ps] (.int (worthF es ps f i)) := by
  intro f
  induction f with
  | zero =>
    intro i hi hf
    refine Fn.mk' G 80 _ ["place", "page", "parents"] (out := .ret (.int (worthF es ps 0 i))) (by decide) (by rfl) rfl ?_ (by decide) rfl (fnArg3 (.inl (by rfl)) (.inl (by rfl)) (.inl (by rfl))) (by rfl) (by rfl) (by rfl) ?_ rfl
    · intro pm cd doc vs h
      obtain ⟨a, b, c, rfl⟩ := len3 h
      rfl
    · refine ExSs.cons (ExS.let (EvE.item (EvE.item (EvE.name (d := dPage es) (by rfl)) (EvE.name (by rfl)) (SubR.list (j := i) (.inl ⟨by omega, by omega⟩) (page_at hi) (by rw [List.length_map]; omega))) EvE.int (SubR.tuple (j := 2) (by rfl) (Nat.le_of_ble_eq_true rfl))) (by rfl)) ?_
      refine ExSs.cons (V₁ := [("place", .val (.int i)), ("page", .val (dPage es)), ("parents", .val (dInts ps)), ("worth", .val (.int (worthF es ps 0 i)))]) (ExS.for (EvI.range2 (bnRange G) (EvE.bin (EvE.name (by rfl)) EvE.int BinR.add) (EvE.bcall (bnLen G) (CallR.len (xs := es.map dLn) (by rw [List.length_map]; omega)) (EvL.cons (EvE.name (by rfl)) EvL.nil)) (by omega) (by omega) (by omega) (by rw [List.length_map]; omega)) ?_) (ExSs.ret (ExS.ret (EvE.name (by rfl))))
      rw [show (((es.map dLn).length : Int) - ((i : Int) + 1)).toNat = 0 by rw [List.length_map]; omega]
      exact .nil
  | succ f ih =>
    intro i hi hf
    have hoki := ok (lnAt es i) (by simp [lnAt, hi])
    refine Fn.mk' G 80 _ ["place", "page", "parents"] (out := .ret (.int (worthF es ps (f + 1) i))) (by decide) (by rfl) rfl ?_ (by decide) rfl (fnArg3 (.inl (by rfl)) (.inl (by rfl)) (.inl (by rfl))) (by rfl) (by rfl) (by rfl) ?_ rfl
    · intro pm cd doc vs h
      obtain ⟨a, b, c, rfl⟩ := len3 h
      rfl
    · have hpg : ∀ {V : Vars} {p1 p2 : Pos} , V.lookup ("page" : Str) = some (.val (dPage es)) → V.lookup ("place" : Str) = some (.val (.int i)) → ∀ {p3 : Pos}, EvE W (n + 2 + f) (fnScope (stAt 80)) V (.Subscript (.Name "page" p1) (.Name "place" p2) p3) (dLn (lnAt es i)) := by
        intro V p1 p2 h1 h2 p3
        exact EvE.item (EvE.name h1) (EvE.name h2) (SubR.list (j := i) (.inl ⟨by omega, by omega⟩) (page_at hi) (by rw [List.length_map]; omega))
      refine ExSs.cons (ExS.let (EvE.item (hpg (by rfl) (by rfl)) EvE.int (SubR.tuple (j := 2) (by rfl) (Nat.le_of_ble_eq_true rfl))) (by rfl)) ?_
      refine ExSs.cons (V₁ := [("place", .val (.int i)), ("page", .val (dPage es)), ("parents", .val (dInts ps)), ("worth", .val (.int (worthF es ps (f + 1) i)))]) (ExS.for (EvI.range2 (bnRange G) (EvE.bin (EvE.name (by rfl)) EvE.int BinR.add) (EvE.bcall (bnLen G) (CallR.len (xs := es.map dLn) (by rw [List.length_map]; omega)) (EvL.cons (EvE.name (by rfl)) EvL.nil)) (by omega) (by omega) (by omega) (by rw [List.length_map]; omega)) ?_) (ExSs.ret (ExS.ret (EvE.name (by rfl))))
      rw [show (((es.map dLn).length : Int) - ((i : Int) + 1)).toNat = es.length - (i + 1) by rw [List.length_map]; omega]
      refine ForR.fold (W := W) (n := n + 2 + f) (fun (t : Nat) => D.int ((i : Int) + 1 + t * 1)) (fun (w : Int) => [("place", .val (.int i)), ("page", .val (dPage es)), ("parents", .val (dInts ps)), ("worth", .val (.int w))]) (fun w t => if ps.getD (i + 1 + t) 0 = (i : Int) then deed (lnAt es i).s w (worthF es ps f (i + 1 + t)) else w) (fun m w => w = worthP es ps f i m) (List.range (es.length - (i + 1))) ?_ _ rfl
      intro m w t ha hi'
      obtain rfl : m = t := by
        rw [List.getElem?_range (by have := (List.getElem?_eq_some_iff.mp ha).1; simpa using this)] at ha
        exact Option.some.inj ha
      have hm : m < es.length - (i + 1) := by have := (List.getElem?_eq_some_iff.mp ha).1; simpa using this
      have hk : i + 1 + m < es.length := by omega
      have hpk : (ps.map D.int)[i + 1 + m]? = some (.int (ps.getD (i + 1 + m) 0)) := by
        rw [List.getElem?_map, List.getElem?_eq_getElem (by omega)]
        simp [show i + 1 + m < ps.length by omega]
      subst hi'
      refine ⟨_, [("place", .val (.int i)), ("page", .val (dPage es)), ("parents", .val (dInts ps)), ("worth", .val (.int (worthP es ps f i (m + 1))))], AsR.loc (by rfl), ExSs.cons ?_ ExSs.nil, by rw [worthP_succ]; exact SubV.refl, by rw [worthP_succ]⟩
      refine ExS.ite (EvB.cmp (EvE.item (EvE.name (d := dInts ps) (by rfl)) (EvE.name (by rfl)) (SubR.list (j := i + 1 + m) (.inl ⟨by omega, by omega⟩) hpk (by rw [List.length_map]; omega))) (EvE.name (by rfl)) CmpR.eqI) (fun h => ?_) (fun h => ?_)
      · have hb : ps.getD (i + 1 + m) 0 = (i : Int) := by simpa using h
        rw [worthP_succ, if_pos hb]
        refine ExSs.outNext (ExSs.cons (ExS.let (EvE.call (by rfl) ((fn_deed (n := n) G hoki.s (hw f i m hk)).up (by omega)) (EvL.cons (EvE.item (hpg (by rfl) (by rfl)) EvE.int (SubR.tuple (j := 1) (by rfl) (Nat.le_of_ble_eq_true rfl))) (EvL.cons (EvE.name (by rfl)) (EvL.cons (EvE.call (by rfl) (ih (i + 1 + m) hk (by omega)) (EvL.cons (EvE.name ?_) (EvL.cons (EvE.name (by rfl)) (EvL.cons (EvE.name (by rfl)) EvL.nil)))) EvL.nil)))) (by rfl)) ExSs.nil) ?_
        · have e : ((i : Int) + 1 + m * 1) = ((i + 1 + m : Nat) : Int) := by omega
          rw [e]; rfl
        · repeat (first | exact SubV.nil | refine SubV.cons ?_ (by rfl))
      · have hb : ¬ ps.getD (i + 1 + m) 0 = (i : Int) := by simpa using h
        rw [worthP_succ, if_neg hb]
        exact ExSs.sub ExSs.nil (by repeat (first | exact SubV.nil | refine SubV.cons ?_ (by rfl)))
end
end
section
noncomputable def intsOf : Expr → List Int
  | .List es _ => es.map fun e => match e with
    | .Constant (.int i) _ _ => i
    | _ => 0
  | _ => []
noncomputable def drawn0 : List Int := intsOf (asgV (nth (fnBody (stAt 70)) 0))
noncomputable def drawStep (d : List Int) (p : Int × Nat) : List Int := d.set (p.2 % 6) (d.getD (p.2 % 6) 0 + p.1.fmod 1000000)
noncomputable def drawnOf (xs : List Int) : List Int := (xs.take 60).zipIdx.foldl drawStep drawn0
noncomputable def lnOf (w : Int) : Ln := ⟨(w.fmod 10).toNat, ((w.fdiv 10).fmod 8).toNat, (w.fdiv 80).fmod 1000, (w.fdiv 80000).fmod 3, (w.fdiv 240000).fmod 2⟩
noncomputable def pageOf (xs : List Int) : List Ln := (drawnOf xs).map lnOf
noncomputable def turnOf (xs : List Int) : Int := (drawnOf xs).sum.fdiv 7
theorem fmod_nat (k m : Nat) : ((k : Int).fmod m) = ((k % m : Nat) : Int) := by
  rw [Int.fmod_eq_emod_of_nonneg _ (Int.natCast_nonneg m)]
  omega
theorem fmod_rng (a b : Int) (h : 0 < b) : 0 ≤ a.fmod b ∧ a.fmod b < b := ⟨Int.fmod_nonneg_of_pos a h, Int.fmod_lt_of_pos a h⟩
theorem lnOf_ok (w : Int) : (lnOf w).Ok := by
  have h1 := fmod_rng w 10 (by decide)
  have h2 := fmod_rng (w.fdiv 10) 8 (by decide)
  have h3 := fmod_rng (w.fdiv 80) 1000 (by decide)
  have h4 := fmod_rng (w.fdiv 80000) 3 (by decide)
  have h5 := fmod_rng (w.fdiv 240000) 2 (by decide)
  exact ⟨by show (w.fmod 10).toNat < 10; omega, by show ((w.fdiv 10).fmod 8).toNat < 8; omega, h3.1, h3.2, h4.1, h4.2, h5.1, h5.2⟩
theorem drawn0_len : drawn0.length = 6 := by rfl
theorem drawFold_len (l : List (Int × Nat)) : ∀ d : List Int, (l.foldl drawStep d).length = d.length := by
  induction l with
  | nil => intro d; rfl
  | cons a l ih => intro d; rw [List.foldl_cons, ih]; unfold drawStep; simp
theorem drawnOf_len (xs : List Int) : (drawnOf xs).length = 6 := by unfold drawnOf; rw [drawFold_len, drawn0_len]
theorem foldl_snoc {α β : Type} (f : α → β) : ∀ (l : List α), l.foldl (fun es w => es ++ [f w]) [] = l.map f := by
  have go : ∀ (l : List α) (acc : List β), l.foldl (fun es w => es ++ [f w]) acc = acc ++ l.map f := by
    intro l
    induction l with
    | nil => intro acc; simp
    | cons a l ih => intro acc; rw [List.foldl_cons, ih]; simp
  intro l
  rw [go]; rfl
theorem leads_at {i : Nat} (h : i < 10) : (leadsT.map D.str)[i]? = some (.str (lead i)) := by
  have hl : leadsT.length = 10 := by rfl
  rw [List.getElem?_map, List.getElem?_eq_getElem (by omega)]
  simp [lead, hl, h]
theorem signs_at {i : Nat} (h : i < 8) : (signsT.map D.str)[i]? = some (.str (sign i)) := by
  have hl : signsT.length = 8 := by rfl
  rw [List.getElem?_map, List.getElem?_eq_getElem (by omega)]
  simp [sign, hl, h]
section
variable {W : Wd} {n : Nat}
noncomputable def isStr : Expr → Bool
  | .Constant (.str _) _ _ => true
  | _ => false
noncomputable def strC : Expr → Str
  | .Constant (.str s) _ _ => s
  | _ => default
theorem EvL.strs {sc : Scope} {V : Vars} : ∀ es : List Expr, es.all isStr = true → EvL W n sc V es ((es.map strC).map .str)
  | [], _ => EvL.nil
  | e :: es, h => by
    rw [List.all_cons, Bool.and_eq_true] at h
    obtain ⟨h1, h2⟩ := h
    cases e with
    | Constant c k p =>
      cases c with
      | str s => exact EvL.cons EvE.str (EvL.strs es h2) (fun _ => rfl)
      | _ => cases h1
    | _ => cases h1
theorem EvE.strs {sc : Scope} {V : Vars} {es : List Expr} {pos : Pos} {l : List Str} (h : es.all isStr = true) (hl : es.map strC = l) (hz : es.length ≤ 1000) : EvE W n sc V (.List es pos) (.list (l.map .str)) := by
  subst hl
  exact EvE.list (EvL.strs es h) (by rw [List.length_map, List.length_map]; exact sizeNat hz)
theorem fn_draws (G : Glo W) (xs : List Int) (hz : xs.length ≤ 1048576) : Fn W (n + 1) "_law_draws" [dInts xs] (.tuple [dPage (pageOf xs), .int (turnOf xs)]) := by
  refine Fn.mk' G 70 _ ["script"] (out := .ret (.tuple [dPage (pageOf xs), .int (turnOf xs)])) (by decide) (by rfl) rfl ?_ (by decide) rfl (fnArg1 (.inl (by rfl))) (by rfl) (by rfl) (by rfl) ?_ rfl
  · intro pm cd doc vs h
    obtain ⟨a, rfl⟩ := len1 h
    rfl
  · refine ExSs.cons (ExS.own (EvN.list (EvL.cons EvE.int (EvL.cons EvE.int (EvL.cons EvE.int (EvL.cons EvE.int (EvL.cons EvE.int (EvL.cons EvE.int EvL.nil)))))) (sizeNat (Nat.le_of_ble_eq_true rfl))) (by rfl)) ?_
    refine ExSs.cons (V₁ := [("script", .val (dInts xs)), ("drawn", .own ((drawnOf xs).map .int))]) (ExS.for (EvI.enum (bnEnum G) (EvE.sliceTo (xs := xs.map D.int) (a := 60) (EvE.name (by rfl)) EvE.int (by rw [List.length_map]; exact hz))) ?_) ?_
    · rw [show (xs.map D.int).take 60 = (xs.take 60).map D.int by rw [List.map_take], enumD_eq]
      refine ForR.fold (W := W) (n := n) (fun (p : Int × Nat) => D.tuple [.int (p.2 : Nat), .int p.1]) (fun (d : List Int) => [("script", .val (dInts xs)), ("drawn", .own (d.map .int))]) drawStep (fun _ d => d.length = 6) (xs.take 60).zipIdx ?_ drawn0 drawn0_len
      rintro k d ⟨x, i⟩ ha hd
      have hj : i % 6 < d.length := by rw [hd]; exact Nat.mod_lt _ (by decide)
      have hx : (d.map D.int)[i % 6]? = some (.int (d.getD (i % 6) 0)) := by
        rw [List.getElem?_map, List.getElem?_eq_getElem hj]
        simp [hj]
      refine ⟨_, _, AsR.tuple (AsRs.cons (AsR.loc (by rfl)) (AsRs.cons (AsR.loc (by rfl)) AsRs.nil)), ExSs.cons (ExS.augItem (xs := d.map D.int) (j := i % 6) (by rfl) ?_ hx (EvE.bin (EvE.name (by rfl)) (EvE.bin EvE.int EvE.int (BinR.pow (by decide) (by decide) (by decide))) (BinR.fmod (by decide))) InpR.add (by rw [List.length_map]; omega)) ExSs.nil, ?_, by unfold drawStep; simp [hd]⟩
      · have e : ((i % 6 : Nat) : Int) = (i : Int).fmod 6 := (fmod_nat i 6).symm
        rw [e]
        exact EvE.bin (EvE.name (by rfl)) EvE.int (BinR.fmod (by decide))
      · unfold drawStep
        rw [List.map_set]
        repeat (first | exact SubV.nil | refine SubV.cons ?_ (by rfl))
    refine ExSs.cons (V₁ := [("script", .val (dInts xs)), ("drawn", .own ((drawnOf xs).map .int)), ("leads", .val (.list (leadsT.map D.str)))]) ?_ ?_
    · refine ExS.let ?_ ?_
      · refine EvE.strs (l := leadsT) ?_ ?_ ?_
        · rfl
        · rfl
        · exact Nat.le_of_ble_eq_true rfl
      · rfl
    refine ExSs.cons (V₁ := [("script", .val (dInts xs)), ("drawn", .own ((drawnOf xs).map .int)), ("leads", .val (.list (leadsT.map D.str))), ("signs", .val (.list (signsT.map D.str)))]) ?_ ?_
    · refine ExS.let ?_ ?_
      · refine EvE.strs (l := signsT) ?_ ?_ ?_
        · rfl
        · rfl
        · exact Nat.le_of_ble_eq_true rfl
      · rfl
    refine ExSs.cons (ExS.own (EvN.list EvL.nil) (by rfl)) ?_
    refine ExSs.freeze (y := "drawn") (by rfl) ?_
    refine ExSs.cons (V₁ := [("script", .val (dInts xs)), ("drawn", .val (dInts (drawnOf xs))), ("leads", .val (.list (leadsT.map D.str))), ("signs", .val (.list (signsT.map D.str))), ("page", .own ((pageOf xs).map dLn))]) (ExS.for (EvI.list (EvE.name (d := dInts (drawnOf xs)) (by rfl))) ?_) ?_
    · refine ForR.sub (V' := [("script", .val (dInts xs)), ("drawn", .val (dInts (drawnOf xs))), ("leads", .val (.list (leadsT.map D.str))), ("signs", .val (.list (signsT.map D.str))), ("page", .own [])]) (by repeat (first | exact SubV.nil | refine SubV.cons ?_ (by rfl))) ?_
      have := ForR.fold (W := W) (n := n) (sc := fnScope (stAt 70)) (tgt := forT (nth (fnBody (stAt 70)) 5)) (body := forB (nth (fnBody (stAt 70)) 5)) D.int (fun (es : List Ln) => [("script", .val (dInts xs)), ("drawn", .val (dInts (drawnOf xs))), ("leads", .val (.list (leadsT.map D.str))), ("signs", .val (.list (signsT.map D.str))), ("page", .own (es.map dLn))]) (fun es w => es ++ [lnOf w]) (fun k es => es.length = k) (drawnOf xs) ?_ [] rfl
      · rw [foldl_snoc] at this
        exact this
      intro k es w ha hk
      have hk6 : k < 6 := by have := (List.getElem?_eq_some_iff.mp ha).1; rwa [drawnOf_len] at this
      have o := lnOf_ok w
      have e1 : (((lnOf w).l : Nat) : Int) = w.fmod 10 := by have := fmod_rng w 10 (by decide); show ((w.fmod 10).toNat : Int) = _; omega
      have e2 : (((lnOf w).s : Nat) : Int) = (w.fdiv 10).fmod 8 := by have := fmod_rng (w.fdiv 10) 8 (by decide); show (((w.fdiv 10).fmod 8).toNat : Int) = _; omega
      refine ⟨_, _, AsR.loc (by rfl), ExSs.cons (ExS.expr (EvX.append (d := dLn (lnOf w)) (by rfl) (EvX.of ?_) (by rfl) (sizeNat (by rw [List.length_map]; omega))) (EnvK.hi _)) ExSs.nil, ?_, by simp [hk]⟩
      · refine EvE.tuple (EvL.cons ?_ (EvL.cons ?_ (EvL.cons ?_ (EvL.cons ?_ (EvL.cons ?_ EvL.nil))))) (sizeNat (Nat.le_of_ble_eq_true rfl))
        · refine EvE.item (a := .list (leadsT.map D.str)) (b := .int (w.fmod 10)) (EvE.name (by rfl)) (EvE.bin (EvE.name (by rfl)) EvE.int (BinR.fmod (by decide))) ?_
          rw [← e1]
          exact SubR.list (.inl ⟨by omega, by omega⟩) (leads_at o.l) (by decide)
        · refine EvE.item (a := .list (signsT.map D.str)) (b := .int ((w.fdiv 10).fmod 8)) (EvE.name (by rfl)) (EvE.bin (EvE.bin (EvE.name (by rfl)) EvE.int (BinR.fdiv (by decide) (PyProof.noPylong_small (by decide)))) EvE.int (BinR.fmod (by decide))) ?_
          rw [← e2]
          exact SubR.list (.inl ⟨by omega, by omega⟩) (signs_at o.s) (by decide)
        · exact EvE.bin (EvE.bin (EvE.name (by rfl)) EvE.int (BinR.fdiv (by decide) (PyProof.noPylong_small (by decide)))) EvE.int (BinR.fmod (by decide))
        · exact EvE.bin (EvE.bin (EvE.name (by rfl)) EvE.int (BinR.fdiv (by decide) (PyProof.noPylong_small (by decide)))) EvE.int (BinR.fmod (by decide))
        · exact EvE.bin (EvE.bin (EvE.name (by rfl)) EvE.int (BinR.fdiv (by decide) (PyProof.noPylong_small (by decide)))) EvE.int (BinR.fmod (by decide))
      · rw [List.map_append]
        repeat (first | exact SubV.nil | refine SubV.cons ?_ (by rfl))
    · refine ExSs.freeze (y := "page") (xs := (pageOf xs).map dLn) ?_ ?_
      · rfl
      refine ExSs.ret (ExS.ret ?_)
      refine EvE.tuple (EvL.cons (EvE.name (d := dPage (pageOf xs)) ?_) (EvL.cons (EvE.bin (a := .int (drawnOf xs).sum) (b := .int 7) ?_ EvE.int (BinR.fdiv (by decide) (PyProof.noPylong_small (by decide)))) EvL.nil)) (sizeNat (Nat.le_of_ble_eq_true rfl))
      · rfl
      · exact EvE.bcall (bnSum G) CallR.sum (EvL.cons (EvE.name (d := dInts (drawnOf xs)) (by rfl)) EvL.nil)
end
end
section
noncomputable def digL : Nat → Int → List Int → List Int
  | 0, _, acc => acc
  | f + 1, m, acc => if m ≥ 64 then digL f (m.fdiv 64) (acc ++ [64 + (m.fdiv 64).fmod 64]) else acc
noncomputable def digsOf (m : Int) : List Int := digL 3 m [m.fmod 64]
noncomputable def writOf (e : Ln) (m : Int) : List Int := List.replicate e.p.toNat 64 ++ (digsOf m).reverse
noncomputable def octStep (es : List Ln) (acc : List Int) (q : Int × Nat) : List Int := acc ++ (writOf (lnAt es (q.2 / 2)) q.1).map fun d => d + 128 * (lnAt es (q.2 / 2)).h
noncomputable def octsOf (es : List Ln) (row : List Int) : List Int := row.zipIdx.foldl (octStep es) []
noncomputable def ringOf (es : List Ln) (row : List Int) (cut : Int) : List Int := (octsOf es row).drop (cut.fmod (octsOf es row).length).toNat ++ (octsOf es row).take (cut.fmod (octsOf es row).length).toNat
theorem digL_len : ∀ (f : Nat) (m : Int) (acc : List Int), (digL f m acc).length ≤ acc.length + f
  | 0, _, acc => by simp [digL]
  | f + 1, m, acc => by
    unfold digL
    split
    · have := digL_len f (m.fdiv 64) (acc ++ [64 + (m.fdiv 64).fmod 64])
      simp at this
      omega
    · omega
theorem digL_pos : ∀ (f : Nat) (m : Int) (acc : List Int), acc.length ≤ (digL f m acc).length
  | 0, _, acc => by simp [digL]
  | f + 1, m, acc => by
    unfold digL
    split
    · have := digL_pos f (m.fdiv 64) (acc ++ [64 + (m.fdiv 64).fmod 64])
      simp at this
      omega
    · omega
theorem writ_len (e : Ln) (ok : e.Ok) (m : Int) : (writOf e m).length ≤ 6 := by
  have h := digL_len 3 m [m.fmod 64]
  have := ok.p1
  unfold writOf digsOf
  simp at h ⊢
  omega
theorem writ_pos (e : Ln) (m : Int) : 1 ≤ (writOf e m).length := by
  have h := digL_pos 3 m [m.fmod 64]
  unfold writOf digsOf
  simp at h ⊢
  omega
theorem octs_pos (es : List Ln) (row : List Int) (h : row ≠ []) : 0 < (octsOf es row).length := by
  have go : ∀ (l : List (Int × Nat)) (acc : List Int), acc.length + l.length ≤ (l.foldl (octStep es) acc).length := by
    intro l
    induction l with
    | nil => intro acc; simp
    | cons q l ih =>
      intro acc
      rw [List.foldl_cons]
      have h1 := ih (octStep es acc q)
      have h2 := writ_pos (lnAt es (q.2 / 2)) q.1
      unfold octStep at h1 ⊢
      simp at h1 ⊢
      omega
  have := go row.zipIdx []
  unfold octsOf
  cases row with
  | nil => exact absurd rfl h
  | cons a r => simp at this ⊢; omega
theorem fdiv_nat (k m : Nat) : ((k : Int).fdiv m) = ((k / m : Nat) : Int) := by
  rw [Int.fdiv_eq_ediv_of_nonneg _ (Int.natCast_nonneg m)]
  omega
theorem fdiv64 {m : Int} (h0 : 0 ≤ m) : 0 ≤ m.fdiv 64 ∧ 64 * m.fdiv 64 ≤ m := by
  rw [Int.fdiv_eq_ediv_of_nonneg _ (by decide)]
  omega
theorem lnAt_ok {es : List Ln} (ok : ∀ e ∈ es, e.Ok) {i : Nat} (h : i < es.length) : (lnAt es i).Ok := ok _ (by simp [lnAt, h])
theorem rep1 (k : Nat) : (List.replicate k [D.int 64]).flatten = (List.replicate k (64 : Int)).map D.int := by
  induction k with
  | zero => rfl
  | succ k ih => rw [List.replicate_succ, List.flatten_cons, ih, List.replicate_succ]; rfl
section
variable {W : Wd} {n : Nat}
theorem fn_ring (G : Glo W) (es : List Ln) (row : List Int) (cut : Int) (hl : es.length ≤ 20) (hr : row.length = 2 * es.length) (hne : row ≠ []) (ok : ∀ e ∈ es, e.Ok) (hrow : ∀ m ∈ row, 0 ≤ m ∧ m < 262144) : Fn W (n + 1) "_law_ring" [dPage es, dInts row, .int cut] (dInts (ringOf es row cut)) := by
  refine Fn.mk' G 75 _ ["page", "row", "cut"] (out := .ret (dInts (ringOf es row cut))) (by decide) (by rfl) rfl ?_ (by decide) rfl (fnArg3 (.inr (by rfl)) (.inl (by rfl)) (.inl (by rfl))) (by rfl) (by rfl) (by rfl) ?_ rfl
  · intro pm cd doc vs h
    obtain ⟨a, b, c, rfl⟩ := len3 h
    rfl
  · refine ExSs.cons (ExS.own (EvN.list EvL.nil) (by rfl)) ?_
    refine ExSs.cons (V₁ := [("page", .val (dPage es)), ("row", .val (dInts row)), ("cut", .val (.int cut)), ("octets", .own ((octsOf es row).map .int))]) (ExS.for (EvI.enum (bnEnum G) (EvE.name (d := dInts row) (by rfl))) ?_) ?_
    · rw [enumD_eq]
      refine ForR.fold (W := W) (n := n) (fun (q : Int × Nat) => D.tuple [.int (q.2 : Nat), .int q.1]) (fun (o : List Int) => [("page", .val (dPage es)), ("row", .val (dInts row)), ("cut", .val (.int cut)), ("octets", .own (o.map .int))]) (octStep es) (fun k o => o.length ≤ 6 * k) row.zipIdx ?_ [] (by simp)
      rintro k o ⟨m, i⟩ ha ho
      obtain ⟨hi, he⟩ := zipIdx_at ha
      dsimp only at hi he
      subst hi
      have hlt := (List.getElem?_eq_some_iff.mp he).1
      have hm := hrow m (List.mem_of_getElem? he)
      have hi2 : i / 2 < es.length := by omega
      have oke := lnAt_ok ok hi2
      have hpg : ∀ {sc : Scope} {V : Vars} {p1 p2 p3 p4 p5 p6 p7 : Pos} {j : Nat} {jj : Int} {d : D} {k1 k2 : Nat}, jj = j → V.lookup ("page" : Str) = some (.val (dPage es)) → V.lookup ("place" : Str) = some (.val (.int (i : Nat))) → [D.str (lead (lnAt es (i / 2)).l), .str (sign (lnAt es (i / 2)).s), .int (lnAt es (i / 2)).v, .int (lnAt es (i / 2)).p, .int (lnAt es (i / 2)).h][j]? = some d →
          EvE W n sc V (.Subscript (.Subscript (.Name "page" p1) (.BinOp (.Name "place" p2) .FloorDiv (.Constant (.int 2) k1 p3) p4) p5) (.Constant (.int jj) k2 p6) p7) d := by
        intro sc V p1 p2 p3 p4 p5 p6 p7 j jj d k1 k2 h0 h1 h2 h3
        subst h0
        refine EvE.item (a := dLn (lnAt es (i / 2))) (EvE.item (a := dPage es) (b := .int ((i : Int).fdiv 2)) (EvE.name h1) (EvE.bin (EvE.name h2) EvE.int (BinR.fdiv (by decide) (PyProof.noPylong_small (by decide)))) ?_) EvE.int (SubR.tuple h3 (Nat.le_of_ble_eq_true rfl))
        rw [show ((i : Int).fdiv 2) = ((i / 2 : Nat) : Int) from fdiv_nat i 2]
        exact SubR.list (.inl ⟨by omega, by omega⟩) (page_at hi2) (by rw [List.length_map]; omega)
      have loop : ∀ (f : Nat) (x : Int) (acc : List Int), 0 ≤ x → x < 64 ^ (f + 1) → acc.length + f ≤ 100 → ∃ y, WhileR W n (fnScope (stAt 75)) (whT (nth (forB (nth (fnBody (stAt 75)) 1)) 1)) (forB (nth (forB (nth (fnBody (stAt 75)) 1)) 1)) f [("page", .val (dPage es)), ("row", .val (dInts row)), ("cut", .val (.int cut)), ("octets", .own (o.map .int)), ("place", .val (.int (i : Nat))), ("number", .val (.int x)), ("digits", .own (acc.map .int))]
          (.next [("page", .val (dPage es)), ("row", .val (dInts row)), ("cut", .val (.int cut)), ("octets", .own (o.map .int)), ("place", .val (.int (i : Nat))), ("number", .val (.int y)), ("digits", .own ((digL f x acc).map .int))]) := by
        intro f
        induction f with
        | zero =>
          intro x acc h0 h1 _
          refine ⟨x, .done ?_⟩
          rw [show false = decide (x ≥ 64) by rw [decide_eq_false]; simp at h1; omega]
          exact EvB.cmp (EvE.name (by rfl)) EvE.int CmpR.geI
        | succ f ih =>
          intro x acc h0 h1 h2
          by_cases h : x ≥ 64
          · have hd := fdiv64 h0
            obtain ⟨y, hy⟩ := ih (x.fdiv 64) (acc ++ [64 + (x.fdiv 64).fmod 64]) hd.1 (by rw [Int.pow_succ] at h1; omega) (by simp; omega)
            refine ⟨y, .more (V₂ := [("page", .val (dPage es)), ("row", .val (dInts row)), ("cut", .val (.int cut)), ("octets", .own (o.map .int)), ("place", .val (.int (i : Nat))), ("number", .val (.int (x.fdiv 64))), ("digits", .own ((acc ++ [64 + (x.fdiv 64).fmod 64]).map .int))]) ?_ ?_ ?_⟩
            · rw [show true = decide (x ≥ 64) by rw [decide_eq_true h]]
              exact EvB.cmp (EvE.name (by rfl)) EvE.int CmpR.geI
            · refine SubV.outN (ExSs.cons (ExS.let (EvE.bin (EvE.name (by rfl)) EvE.int (BinR.fdiv (by decide) (PyProof.noPylong_small (by decide)))) (by rfl)) (ExSs.cons (ExS.expr (EvX.append (d := .int (64 + (x.fdiv 64).fmod 64)) (by rfl) (EvX.of (EvE.bin EvE.int (EvE.bin (EvE.name (by rfl)) EvE.int (BinR.fmod (by decide))) BinR.add)) (by rfl) (sizeNat (by rw [List.length_map]; omega))) (EnvK.hi _)) ExSs.nil)) ?_
              rw [List.map_append]
              repeat (first | exact SubV.nil | refine SubV.cons ?_ (by rfl))
            · rw [show digL (f + 1) x acc = digL f (x.fdiv 64) (acc ++ [64 + (x.fdiv 64).fmod 64]) from if_pos h]
              exact hy
          · refine ⟨x, ?_⟩
            rw [show digL (f + 1) x acc = acc from if_neg h]
            refine .done ?_
            rw [show false = decide (x ≥ 64) by rw [decide_eq_false h]]
            exact EvB.cmp (EvE.name (by rfl)) EvE.int CmpR.geI
      obtain ⟨y, hw⟩ := loop 3 m [m.fmod 64] hm.1 (Int.lt_trans hm.2 (by decide)) (Nat.le_of_ble_eq_true rfl)
      have hwl := writ_len _ oke m
      refine ⟨_, [("page", .val (dPage es)), ("row", .val (dInts row)), ("cut", .val (.int cut)), ("octets", .own ((octStep es o (m, i)).map .int))], AsR.tuple (AsRs.cons (AsR.cell (by rfl)) (AsRs.cons (AsR.loc (by rfl)) AsRs.nil)), SubV.outN (V₁ := setV (setV (setV [("page", .val (dPage es)), ("row", .val (dInts row)), ("cut", .val (.int cut)), ("octets", .own (o.map .int)), ("place", .val (.int (i : Nat))), ("number", .val (.int y)), ("digits", .own ((digsOf m).map .int))] "digits" (.val (dInts (digsOf m)))) "written" (.val (dInts (writOf (lnAt es (i / 2)) m)))) "octets" (.own (o.map .int ++ ((writOf (lnAt es (i / 2)) m).map fun d => d + 128 * (lnAt es (i / 2)).h).map .int))) ?_ ?_, SubV.refl, ?_⟩
      · refine ExSs.cons (ExS.own (EvN.list (EvL.cons (EvE.bin (EvE.name (by rfl)) EvE.int (BinR.fmod (by decide))) EvL.nil) (sizeNat (Nat.le_of_ble_eq_true rfl))) (by rfl)) ?_
        refine ExSs.cons (V₁ := [("page", .val (dPage es)), ("row", .val (dInts row)), ("cut", .val (.int cut)), ("octets", .own (o.map .int)), ("place", .val (.int (i : Nat))), ("number", .val (.int y)), ("digits", .own ((digsOf m).map .int))]) (ExS.while hw) ?_
        refine ExSs.freeze (y := "digits") (xs := (digsOf m).map .int) (by rfl) ?_
        have hdl : (digsOf m).length ≤ 6 := by have := digL_len 3 m [m.fmod 64]; unfold digsOf; simp at this; omega
        have hp := oke.p1
        have hp0 := oke.p0
        refine ExSs.cons (ExS.let (d := dInts (writOf (lnAt es (i / 2)) m)) ?_ (by rfl)) (ExSs.cons (ExS.expr (EvX.extend (ds := ((writOf (lnAt es (i / 2)) m).map fun d => d + 128 * (lnAt es (i / 2)).h).map .int) (by rfl) ?_ (by rw [List.length_map, List.length_map, List.length_map]; omega)) (EnvK.hi _)) ExSs.nil)
        · rw [show dInts (writOf (lnAt es (i / 2)) m) = .list ((List.replicate (lnAt es (i / 2)).p.toNat [D.int 64]).flatten ++ ((digsOf m).map D.int).reverse) by unfold dInts writOf; rw [rep1, List.map_append, List.map_reverse]]
          refine EvE.bin (EvE.bin (EvE.list (EvL.cons EvE.int EvL.nil) (sizeNat (Nat.le_of_ble_eq_true rfl))) (hpg (j := 3) (by rfl) ?_ ?_ rfl) (BinR.mulL (List.cons_ne_nil _ _) (by omega) (by omega) (Nat.le_of_ble_eq_true rfl))) (EvE.sliceRev (EvE.name (d := dInts (digsOf m)) (by rfl)) (EvE.un EvE.int UnR.neg) (by rw [List.length_map]; omega)) (BinR.addL ?_)
          · rfl
          · rfl
          rw [rep1, List.length_map, List.length_replicate, List.length_reverse, List.length_map]
          exact sizeNat (by omega)
        · refine EvE.comp (V₀ := [("page", .val (dPage es)), ("place", .val (.int (i : Nat)))]) (CompSc.of (by rfl) (by decide) ?_) (EvI.list (EvE.name (d := dInts (writOf (lnAt es (i / 2)) m)) (by rfl))) ?_ ?_
          · intro q hq
            simp only [List.mem_cons, List.not_mem_nil, or_false] at hq
            rcases hq with rfl | rfl
            · exact ⟨⟨_, rfl, by rfl⟩, by rfl⟩
            · exact ⟨⟨_, rfl, by rfl⟩, by rfl⟩
          · rw [List.map_map]
            refine CompR.map (by rfl) (by rfl) D.int (D.int ∘ fun d => d + 128 * (lnAt es (i / 2)).h) (writOf (lnAt es (i / 2)) m) (fun d _ => ?_)
            refine EvE.bin (EvE.name (by rfl)) (EvE.bin EvE.int (hpg (j := 4) (by rfl) ?_ ?_ rfl) (BinR.mul (IntMulOk.of_left (by decide)))) BinR.add
            · rfl
            · rfl
          · rw [List.length_map, List.length_map]; exact sizeNat (by omega)
      · unfold octStep
        rw [List.map_append]
        repeat (first | exact SubV.nil | refine SubV.cons ?_ (by rfl))
      · unfold octStep
        simp
        omega
    · refine ExSs.freeze (y := "octets") (xs := (octsOf es row).map .int) (by rfl) ?_
      have hpos := octs_pos es row hne
      have hol : (octsOf es row).length ≤ 6 * row.length := by
        have go : ∀ (l : List (Int × Nat)) (acc : List Int), (∀ q ∈ l, q.2 < row.length) → (l.foldl (octStep es) acc).length ≤ acc.length + 6 * l.length := by
          intro l
          induction l with
          | nil => intro acc _; simp
          | cons q l ih =>
            intro acc hq
            rw [List.foldl_cons]
            have h1 := ih (octStep es acc q) (fun r hr => hq r (.tail _ hr))
            have h3 := hq q (.head _)
            have h2 := writ_len (lnAt es (q.2 / 2)) (lnAt_ok ok (by omega)) q.1
            unfold octStep at h1 ⊢
            simp at h1 ⊢
            omega
        have := go row.zipIdx [] (fun q hq => by
          obtain ⟨k, hk⟩ := List.getElem?_of_mem hq
          obtain ⟨h1, h2⟩ := zipIdx_at hk
          rw [h1]; exact (List.getElem?_eq_some_iff.mp h2).1)
        simpa [octsOf] using this
      have hc := fmod_rng cut (octsOf es row).length (by omega)
      have ec : cut.fmod (octsOf es row).length = ((cut.fmod (octsOf es row).length).toNat : Int) := by omega
      have hlen : ((octsOf es row).map D.int).length = (octsOf es row).length := List.length_map ..
      refine ExSs.cons (ExS.let (d := .int ((cut.fmod (octsOf es row).length).toNat : Int)) ?_ (by rfl)) (ExSs.ret (ExS.ret ?_))
      · rw [← ec]
        refine EvE.bin (a := .int cut) (b := .int (octsOf es row).length) (EvE.name (by rfl)) ?_ (BinR.fmod (by omega))
        rw [show ((octsOf es row).length : Int) = (((octsOf es row).map D.int).length : Int) by rw [hlen]]
        exact EvE.bcall (bnLen G) (CallR.len (xs := (octsOf es row).map D.int) (by rw [hlen]; omega)) (EvL.cons (EvE.name (by rfl)) EvL.nil)
      · rw [show dInts (ringOf es row cut) = .list (((octsOf es row).map D.int).drop (cut.fmod (octsOf es row).length).toNat ++ ((octsOf es row).map D.int).take (cut.fmod (octsOf es row).length).toNat) by unfold dInts ringOf; rw [List.map_append, List.map_drop, List.map_take]]
        refine EvE.bin (EvE.sliceFrom (EvE.name (by rfl)) (EvE.name (by rfl)) (by rw [hlen]; omega)) (EvE.sliceTo (EvE.name (by rfl)) (EvE.name (by rfl)) (by rw [hlen]; omega)) (BinR.addL ?_)
        rw [List.length_drop, List.length_take, hlen, sizeLine_eq]
        omega
end
end
section
/-- the heap with the objects at ls taken out -/
noncomputable def outH (h : Heap) (ls : List Addr) : Heap := { h with objs := h.objs.mapIdx fun i o => if i ∈ ls then { o with data := .freed } else o }
theorem outH_get (h : Heap) (ls : List Addr) (b : Addr) : (outH h ls).get? b = if b ∈ ls then none else h.get? b := by
  unfold outH Heap.get?
  simp only [Array.getElem?_mapIdx]
  cases hb : h.objs[b]? with
  | none => simp
  | some o =>
    by_cases hm : b ∈ ls
    · simp [hm]
    · simp [hm]
/-- an exception on its way: noted by the frames it left -/
structure Flew (A : Around) (X : String) (s : Shared) (g : Vis) (e T : Addr) (s' : Shared) : Prop where
  gr : Gr A s g s' g
  en : s.heap.get? e = none
  tn : s.heap.get? T = none
  ne : T ≠ e
  ex : ∃ oe oT vs ts a0, s'.heap.get? e = some oe ∧ s'.heap.get? T = some oT ∧ oe.cls = .type X ∧ oe.data = .fields vs ∧ vs[0]? = some a0 ∧ vs[1]? = some (.ref T) ∧ oT.data = .fields ts ∧ ts[3]? = some .none
noncomputable def CallZ (W : Wd) (n : Nat) (f : Value) (ds : List D) (X : String) : Prop :=
  ∀ A g s vs, Sv W n A g s → RDs W g vs ds → ∀ (Q E : Value → Shared → Prop), (∀ e T s', Flew A X s g e T s' → E (.ref e) s') → wpAny (model W.prog W.w) A (call f vs) Q E s
/-- statements that end in a new exception of a built-in class -/
noncomputable def ExN (W : Wd) (n : Nat) (sc : Scope) (V : Vars) (l : List Stmt) (X : String) : Prop :=
  ∀ (A : Around) (s₀ : Shared) (g₀ : Vis) (R : List (Addr × Obj)) (env : Env) (g : Vis) (s : Shared) (Q : Flow → Shared → Prop) (E : Value → Shared → Prop), EnvK true sc env → St W n A s₀ g₀ R env V g s →
    (∀ s1 g1 V1 h' tk e, St W n A s₀ g₀ R env V1 g1 s1 → Heap.NewExc s1.heap h' e X → E (.ref e) { s1 with heap := h', toks := tk }) → wpAny (model W.prog W.w) A (execs l env) Q E s
section
variable {W : Wd} {n : Nat} {sc : Scope}
theorem funFrames_out {h base : Heap} : ∀ {l : List Env}, h.FunFrames base l → ∀ {es : List Addr} {h2 : Heap}, (∀ b o, h.get? b = some o → (∀ vs, o.data ≠ .fields vs) → ∃ o', h2.get? b = some o' ∧ o'.data = o.data) → (∀ e ∈ l, ∀ b, e.frame = some b → b ∈ es) → h2.FunFrames (outH h2 es) l
  | [], _, _, _, _, _ => trivial
  | e :: r, hl, es, h2, hk, hin => by
    obtain ⟨h1, ⟨L, o, hf, _, ho, hd⟩, hr⟩ := hl
    obtain ⟨o', ho', hd'⟩ := hk L o ho hd
    exact ⟨h1, ⟨L, o', hf, by rw [outH_get, if_pos (hin e (.head _) L hf)], ho', fun vs => by rw [hd']; exact hd vs⟩, funFrames_out hr hk fun e' he' => hin e' (.tail _ he')⟩
theorem call_bodyZ {X : String} {a : Addr} {oF : Obj} {name : Str} {params : Arguments} {body : List Stmt} {scope : Scope} {pm cd doc : Value} {names : List Str} {ds : List D}
    (hF : W.hT.get? a = some oF) (hdata : oF.data = .func (docDef name params body scope pm cd doc)) (hcd : W.hT.CodeRec cd name)
    (hbind : ∀ vs : List Value, vs.length = names.length → bindArgs (docDef name params body scope pm cd doc) ⟨vs, []⟩ = pure (names.zip vs)) (hnd : names.Nodup) (hlen : ds.length = names.length)
    (hkind : ∀ x ∈ names, scope.names.lookup x = some .local ∨ scope.names.lookup x = some .cell) (hk : scope.kind = .function) (hco : scope.isCoroutine = false) (hgen : scope.isGenerator = false)
    (hb : ExN W n scope (names.zip (ds.map Slot.val)) body X) : CallZ W (n + 1) (.ref a) ds X := fun A g s vs sv r Q E hq => by
  refine wpAny_call (call_enter hF hdata hcd hbind hnd hlen hkind hk hco hgen sv r fun env s₁ outer he XX hfr e2 hLn kA => ?_)
  refine hb (A.deeper env) s g [] env g s₁ _ _ he XX fun s1 g1 V1 h' tk e X1 hx => ?_
  obtain ⟨ob, tp, hob, hcls, hdt⟩ := hx.there
  have hfr' : (A.deeper env).frames = some (env :: outer) := Around.frames_deeper hfr
  obtain ⟨outer', B⟩ := X1.below
  have : outer' = env :: outer := by have := B.stack; rw [hfr'] at this; cases this; rfl
  subst this
  have inL : ∀ e' ∈ env :: outer, ∀ b, e'.frame = some b → b ∈ (e :: (env :: outer).filterMap (·.frame)) := fun e' he' b hb => .tail _ (List.mem_filterMap.mpr ⟨e', he', hb⟩)
  have hFF := funFrames_out (h2 := h') (es := e :: (env :: outer).filterMap (·.frame)) B.frames (fun b o ho _ => ⟨o, hx.keeps b o ho, rfl⟩) inL
  refine wpAny_leaving_firstW (base := outH h' (e :: (env :: outer).filterMap (·.frame))) hfr' hFF e2 hob (fun b o ho => ?_) (by rw [outH_get, if_pos (List.mem_cons_self ..)]) hdt rfl rfl fun h2 hL => ?_
  · rw [outH_get] at ho
    split at ho
    · cases ho
    · exact ho
  · obtain ⟨k1, k2, ⟨oe, ws, T, oT, ts, h1, ⟨hc, h0⟩, hd, hT1, hTn, hTe, hT, hdT, h3⟩, k4⟩ := hL
    have sE : s1.heap.get? e = none := hx.new
    have e0 : s.heap.get? e = none := X1.none0 sE
    have exact' : ∀ b o, s.heap.get? b = some o → ¬ fz (A.deeper env) b → h2.get? b = some o := fun b o ho hn => by
      have q1 := (X1.keep b o ho).exact hn
      refine k1 b o ?_
      rw [outH_get, if_neg]
      · exact hx.keeps b o q1
      · intro hm
        rcases List.mem_cons.mp hm with rfl | hm
        · rw [e0] at ho; cases ho
        · obtain ⟨e', he', hf'⟩ := List.mem_filterMap.mp hm
          exact hn ⟨_, hfr', e', he', hf'⟩
    have weak : ∀ b o, s.heap.get? b = some o → KeptA (A.deeper env) h2 b o := fun b o ho => by
      by_cases hn : fz (A.deeper env) b
      · obtain ⟨sl, q1⟩ := (X1.keep b o ho).some
        have q2 := hx.keeps b _ q1
        obtain ⟨out, f1, e', he', hf'⟩ := hn
        rw [hfr'] at f1; cases f1
        have nf : ∀ vs, ({ o with slots := sl } : Obj).data ≠ .fields vs := by
          have go : ∀ l : List Env, s1.heap.FunFrames W.hT l → e' ∈ l → ∃ o2, s1.heap.get? b = some o2 ∧ ∀ vs, o2.data ≠ .fields vs := by
            intro l
            induction l with
            | nil => intro _ h; cases h
            | cons f r ih =>
              intro hl hm
              obtain ⟨_, ⟨L', o2, g1, _, g2, g3⟩, hr⟩ := hl
              rcases List.mem_cons.mp hm with rfl | hm
              · rw [hf'] at g1; cases g1; exact ⟨o2, g2, g3⟩
              · exact ih hr hm
          obtain ⟨o2, g2, g3⟩ := go _ B.frames he'
          rw [q1] at g2; cases g2
          exact g3
        obtain ⟨sl2, q3⟩ := k4 b _ q2 nf
        exact .inr ⟨⟨_, hfr', e', he', hf'⟩, sl2, q3⟩
      · exact .inl (exact' b o ho hn)
    have nfF : ∀ b o vs, h2.get? b = some o → o.data = .fields vs → ¬ fz (A.deeper env) b := fun b o vs ho hd' hn => by
      obtain ⟨out, f1, e', he', hf'⟩ := hn
      rw [hfr'] at f1; cases f1
      have go : ∀ l : List Env, h2.FunFrames (outH h' (e :: (env :: outer).filterMap (·.frame))) l → e' ∈ l → ∃ o2, h2.get? b = some o2 ∧ ∀ vs, o2.data ≠ .fields vs := by
        intro l
        induction l with
        | nil => intro _ h; cases h
        | cons f r ih =>
          intro hl hm
          obtain ⟨_, ⟨L', o2, g1, _, g2, g3⟩, hr⟩ := hl
          rcases List.mem_cons.mp hm with rfl | hm
          · rw [hf'] at g1; cases g1; exact ⟨o2, g2, g3⟩
          · exact ih hr hm
      obtain ⟨o2, g2, g3⟩ := go _ k2 he'
      rw [ho] at g2; cases g2
      exact g3 _ hd'
    have Tn : s.heap.get? T = none := by
      cases q : s.heap.get? T with
      | none => rfl
      | some o =>
        exfalso
        have hn := nfF T oT ts hT hdT
        have q1 := (X1.keep T o q).exact hn
        rw [outH_get, if_neg] at hTn
        · rw [hx.keeps T o q1] at hTn; cases hTn
        · intro hm
          rcases List.mem_cons.mp hm with h | hm
          · exact hTe h
          · obtain ⟨e', he', hf'⟩ := List.mem_filterMap.mp hm
            exact hn ⟨_, hfr', e', he', hf'⟩
    obtain ⟨hs1, tk1, es1⟩ := X1.same
    refine hq e T _ ⟨⟨⟨h2, tk, by rw [es1]⟩, fun b o ho => kA b o ho (weak b o ho), fun _ _ _ => rfl, fun b o ho => ?_⟩, e0, Tn, hTe, oe, oT, ws, ts, _, h1, hT, by rw [hc, hcls], hd, h0, hT1, hdT, h3⟩
    have hn : ¬ fz (A.deeper env) b := fun f => by
      obtain ⟨out, f1, e', he', hf'⟩ := f
      rw [hfr'] at f1; cases f1
      rcases List.mem_cons.mp he' with rfl | hm
      · rw [e2] at hf'; cases hf'
        have := sv.sub _ _ ho; rw [hLn] at this; cases this
      · have := sv.frv b ⟨outer, hfr, e', hm, hf'⟩
        rw [this] at ho; cases ho
    exact exact' b o (sv.sub b o ho) hn
end
end
section
/-- an expression that ends in an exception out of a call -/
noncomputable def EvZ (W : Wd) (n : Nat) (sc : Scope) (V : Vars) (e : Expr) (X : String) : Prop :=
  ∀ (A : Around) (s₀ : Shared) (g₀ : Vis) (R : List (Addr × Obj)) (env : Env) (g : Vis) (s : Shared) (Q : Value → Shared → Prop) (E : Value → Shared → Prop), EnvOk sc env → St W n A s₀ g₀ R env V g s →
    (∀ s1 g1 ex T s', Gr A s g s1 g1 → Flew A X s1 g1 ex T s' → E (.ref ex) s') → wpAny (model W.prog W.w) A (eval e env) Q E s
section
variable {W : Wd} {n : Nat} {sc : Scope} {V V' : Vars} {o : Out}
/-- a try whose body goes well -/
theorem ExS.tryOk {body : List Stmt} {h₀ : ExceptHandler} {hs : List ExceptHandler} {pos : Pos} (hb : ExSs W n sc V body o) : ExS W n sc V (.Try body (h₀ :: hs) [] [] pos) o := fun A s₀ g₀ R env g s Q E he X hq =>
  wpAny_Try_except (hb A s₀ g₀ R env g s _ _ he X fun f g1 s1 m1 ok => by
    cases f with
    | next => exact wpAny_execs_nil (hq .next g1 s1 m1 ok)
    | _ => exact hq _ g1 s1 m1 ok)
theorem St.fzNF {A : Around} {s₀ s : Shared} {g₀ g : Vis} {R : List (Addr × Obj)} {env : Env} (x : St W n A s₀ g₀ R env V g s) {b : Addr} {o : Obj} (h : fz A b) (ho : s.heap.get? b = some o) : ∀ vs, o.data ≠ .fields vs := by
  obtain ⟨outer, B⟩ := x.below
  obtain ⟨out, f1, e', he', hf'⟩ := h
  rw [B.stack] at f1; cases f1
  have go : ∀ l : List Env, s.heap.FunFrames W.hT l → e' ∈ l → ∃ o2, s.heap.get? b = some o2 ∧ ∀ vs, o2.data ≠ .fields vs := by
    intro l
    induction l with
    | nil => intro _ h; cases h
    | cons f r ih =>
      intro hl hm
      obtain ⟨_, ⟨L', o2, g1, _, g2, g3⟩, hr⟩ := hl
      rcases List.mem_cons.mp hm with rfl | hm
      · rw [hf'] at g1; cases g1; exact ⟨o2, g2, g3⟩
      · exact ih hr hm
  obtain ⟨o2, g2, g3⟩ := go _ B.frames he'
  rw [ho] at g2; cases g2
  exact g3
theorem Gr.landed {A : Around} {s₀ s s' : Shared} {g₀ g : Vis} {R : List (Addr × Obj)} {env : Env} {X : String} {e T : Addr} {hf : Heap} (x : St W n A s₀ g₀ R env V g s) (F : Flew A X s g e T s')
    (k1 : ∀ b o, ¬ fz A b → b ≠ e → b ≠ T → s'.heap.get? b = some o → hf.get? b = some o) (k4 : ∀ b o, s'.heap.get? b = some o → (∀ vs, o.data ≠ .fields vs) → ∃ sl, hf.get? b = some { o with slots := sl }) : Gr A s g { s' with heap := hf } g := by
  obtain ⟨h1, t1, e1⟩ := F.gr.same
  have ne : ∀ b o, s.heap.get? b = some o → b ≠ e ∧ b ≠ T := fun b o h => ⟨fun z => (by rw [z, F.en] at h; cases h), fun z => (by rw [z, F.tn] at h; cases h)⟩
  refine ⟨⟨hf, t1, by rw [e1]⟩, fun b o h => ?_, fun _ _ _ => rfl, fun b o h => ?_⟩
  · by_cases hn : fz A b
    · obtain ⟨sl, q⟩ := (F.gr.keep b o h).some
      obtain ⟨sl2, q2⟩ := k4 b _ q (fun vs => x.fzNF hn h vs)
      exact .inr ⟨hn, sl2, q2⟩
    · exact .inl (k1 b o hn (ne b o h).1 (ne b o h).2 ((F.gr.keep b o h).exact hn))
  · have hn : ¬ fz A b := fun hz => by rw [x.frv b hz] at h; cases h
    have hs := x.sub b o h
    exact k1 b o hn (ne b o hs).1 (ne b o hs).2 ((F.gr.keep b o hs).exact hn)
end
end
section
section
variable {W : Wd} {n : Nat} {sc : Scope} {V V' : Vars} {o : Out}
theorem handler_go {A : Around} {s₀ s s' : Shared} {g₀ g : Vis} {R : List (Addr × Obj)} {env : Env} {X T' : String} {e T : Addr} {xs : Str} {np hpos : Pos} {b₀ : Stmt} {suite : List Stmt} {Q : Flow → Shared → Prop} {E : Value → Shared → Prop} (he : EnvK true sc env) (x : St W n A s₀ g₀ R env V g s) (F : Flew A X s g e T s')
    (hexc : isSubtype (.type T') (.type "BaseException") = pure true) (hnt : isSubtype (.type ((Manifest.find? T').elim "type" fun x => x.metatype)) (.type "tuple") = pure false) (hsub : isSubtype (.type X) (.type T') = pure true) (hb : BName W sc xs (.type T'))
    (k : ∀ hf (E' : Value → Shared → Prop), Gr A s g { s' with heap := hf } g → wpAny (model W.prog W.w) (A.mark (some (.ref e))) (execs (b₀ :: suite) env) Q E' { s' with heap := hf }) :
    wpAny (model W.prog W.w) A (noteFrame (.ref e) env) (fun _ s₂ => wpAny (model W.prog W.w) A (setFlight (.ref e) none) (fun _ s₃ => wpAny (model W.prog W.w) A (handleBy (.ref e) env [.ExceptHandler (some (.Name xs np)) none (b₀ :: suite) hpos]) Q E s₃) E s₂) E s' := by
  have x' := x.gr F.gr
  obtain ⟨outer, hfr⟩ := x.hdF (he.fr rfl)
  obtain ⟨outer', B⟩ := x'.below
  have : outer' = env :: outer := by have := B.stack; rw [hfr] at this; cases this; rfl
  subst this
  obtain ⟨oe, oT, vs, ts, a0, h1, h2, hc, hd, hv0, hv1, hdT, ht3⟩ := F.ex
  have inL : ∀ e' ∈ env :: outer, ∀ b, e'.frame = some b → b ∈ (e :: T :: (env :: outer).filterMap (·.frame)) := fun e' he' b hb => .tail _ (.tail _ (List.mem_filterMap.mpr ⟨e', he', hb⟩))
  have hFF := funFrames_out (h2 := s'.heap) (es := e :: T :: (env :: outer).filterMap (·.frame)) B.frames (fun b o ho _ => ⟨o, ho, rfl⟩) inL
  have hst : (outH s'.heap (e :: T :: (env :: outer).filterMap (·.frame))).StaysIn s'.heap := fun b o ho => by
    rw [outH_get] at ho
    split at ho
    · cases ho
    · exact ho
  have bT : (outH s'.heap (e :: T :: (env :: outer).filterMap (·.frame))).get? T = none := by rw [outH_get, if_pos (.tail _ (.head _))]
  have bE : (outH s'.heap (e :: T :: (env :: outer).filterMap (·.frame))).get? e = none := by rw [outH_get, if_pos (.head _)]
  have land : ∀ hN hf : Heap, (outH s'.heap (e :: T :: (env :: outer).filterMap (·.frame))).StaysIn hf → (∀ b o, s'.heap.get? b = some o → (∀ vs, o.data ≠ .fields vs) → ∃ sl, hN.get? b = some { o with slots := sl }) → (∀ b o, hN.get? b = some o → (∀ vs, o.data ≠ .fields vs) → hf.get? b = some o) → Gr A s g { s' with heap := hf } g := fun hN hf k1 k4 k5 => by
    refine Gr.landed x F (fun b o hn hbe hbT ho => k1 b o ?_) (fun b o ho hnf => ?_)
    · rw [outH_get, if_neg]
      · exact ho
      · intro hm
        rcases List.mem_cons.mp hm with hm | hm
        · exact hbe hm
        rcases List.mem_cons.mp hm with hm | hm
        · exact hbT hm
        · obtain ⟨e', he', hf'⟩ := List.mem_filterMap.mp hm
          exact hn ⟨_, hfr, e', he', hf'⟩
    · obtain ⟨sl, q⟩ := k4 b o ho hnf
      exact ⟨sl, k5 b _ q hnf⟩
  refine wpAny_noteFrame_onW hfr hFF (he.fr rfl) ⟨oe, vs, T, oT, ts, h1, ⟨hc, hv0⟩, hd, hv1, bT, F.ne, h2, hdT, ht3⟩ hst bE fun hN ⟨n1, n2, n3, n4⟩ => ?_
  refine wpAny_setFlight_noneW n1 n2 n3 fun hf m1 m2 m3 m4 => ?_
  have G1 := land hN hf m1 n4 m4
  have X1 := x.gr G1
  refine wpAny_handleBy_builtin (X := X) (T := T') (b := true) hexc hnt hsub ?_
  have fin : ∀ E2, wpAny (model W.prog W.w) (A.mark (some (.ref e))) (setFlight (.ref e) none) (fun _ s₂ => wpAny (model W.prog W.w) (A.mark (some (.ref e))) (execs (b₀ :: suite) env) Q E2 s₂) E2 { s' with heap := hf } := fun E2 => by
    refine wpAny_setFlight_noneW m1 m2 m3 fun hf2 p1 p2 p3 p4 => ?_
    exact k hf2 E2 (land hN hf2 p1 n4 fun b o q hnf => p4 b o (m4 b o q hnf) hnf)
  cases hb with
  | ty hk hmf hbb hn hdb =>
    refine Name_function_global he.kf (by rw [he.kindOf]; exact hk) (loadGlobal_builtin (glob_ns he.toEnvOk X1) hmf (blt_ns he.toEnvOk X1) (by rw [W.hbb _ hn]; exact hbb) ?_) hdb
    exact ⟨rfl, m3.at.there, by rw [if_pos rfl]; exact fin _⟩
end
end
section
/-- a new exception of a built-in class -/
structure NewX (h h' : Heap) (e : Addr) (cls : String) : Prop where
  keeps : ∀ b o, h.get? b = some o → h'.get? b = some o
  new : h.get? e = none
  there : ∃ ob vs a0, h'.get? e = some ob ∧ ob.cls = .type cls ∧ ob.data = .fields vs ∧ vs[0]? = some a0 ∧ vs[1]? = some .none
section
variable {prog : Program} {w : World} {A : Around} {E : Value → Shared → Prop} {s : Shared}
theorem entry_next : entryFor table "next" = some Builtin.«next» := entryFor_of_fast (by kernel_rfl)
theorem entry_iter : entryFor table "iter" = some Builtin.«iter» := entryFor_of_fast (by kernel_rfl)
theorem args_iter (a : Value) : argsOk "iter" ⟨[a], []⟩ := by unfold argsOk; kernel_rfl
theorem args_next (a : Value) : argsOk "next" ⟨[a], []⟩ := by unfold argsOk; kernel_rfl
theorem nextL_item {it l : Addr} {i : Nat} {items : Array Value} {x : Value} {Q : Value → Shared → Prop} (hit : s.heap.IsListIter it l i) (hl : s.heap.IsList l items) (hx : items[i]? = some x)
    (hQ : ∀ h', h'.IsListIter it l (i + 1) → Heap.SameBut it s.heap h' → Q x { s with heap := h' }) : wpAny (model prog w) A (call (.builtin "next") [.ref it]) Q E s := by
  obtain ⟨o, ho, hc, hd⟩ := id hit
  obtain ⟨ol, hol, _, nl, hdl⟩ := hl
  refine call_function_entry (by decide +kernel) (by decide +kernel) entry_next (args_next _) ?_
  unfold Builtin.«next»
  refine wpAny_bind (m := someArgs "next" 1 2 _) (wpAny_of_eq (a := [Value.ref it]) (by first | rfl | kernel_rfl!) ?_)
  dsimp only
  refine wpAny_bind (wpAny_specialOf (name := Str.ofString "__next__") hit.typeIs slot_listiter_next.lookup ?_)
  refine wpAny_ite_split (fun hab => absurd hab (by decide)) (fun _ => ?_)
  refine wpAny_bind (wpAny_callSpecial?_slot (name := Str.ofString "__next__") hit.typeIs slot_listiter_next (wpAny_call_entry slot_listiter_next hit.typeIs entry_listiter_next ?_ (args_listiter_next _)))
  show wpAny _ _ (field (.ref it) 0 >>= _) _ _ s
  refine wpAny_bind (wpAny_field ho hd (x := .ref l) rfl ?_)
  show wpAny _ _ (if (Value.ref l == Value.none) = true then _ else _) _ _ s
  rw [if_neg (show ¬ ((Value.ref l == Value.none) = true) from Bool.false_ne_true)]
  show wpAny _ _ (field (.ref it) 1 >>= _) _ _ s
  refine wpAny_bind (wpAny_field ho hd (x := .int i 0) rfl ?_)
  show wpAny _ _ (seqItems? (.ref l) >>= _) _ _ s
  refine wpAny_bind (wpAny_seqItems hol hdl ?_)
  simp only [Int.toNat_natCast, hx]
  refine wpAny_bind (wpAny_setField ho hd (by simp) (wpAny_pure ⟨x, rfl, ?_⟩))
  refine wpAny_pure ⟨x, rfl, hQ _ ?_ (Heap.SameBut.update ..)⟩
  exact ⟨_, Heap.get?_update_self _ ho (Obj.isFreed_of_fields (Obj.data_mapFields hd _)), (Obj.cls_mapFields ..).trans hc, by rw [Obj.data_mapFields hd]; simp [rawInt]⟩
theorem nextL_end {it l : Addr} {i : Nat} {items : Array Value} {Q : Value → Shared → Prop} (hh : A.handled = none) (hit : s.heap.IsListIter it l i) (hl : s.heap.IsList l items) (hx : items[i]? = none)
    (hE : ∀ h1 h' e, Heap.SameBut it s.heap h1 → NewX h1 h' e "StopIteration" → E (.ref e) { s with heap := h' }) : wpAny (model prog w) A (call (.builtin "next") [.ref it]) Q E s := by
  obtain ⟨o, ho, hc, hd⟩ := id hit
  obtain ⟨ol, hol, _, nl, hdl⟩ := hl
  refine call_function_entry (by decide +kernel) (by decide +kernel) entry_next (args_next _) ?_
  unfold Builtin.«next»
  refine wpAny_bind (m := someArgs "next" 1 2 _) (wpAny_of_eq (a := [Value.ref it]) (by first | rfl | kernel_rfl!) ?_)
  dsimp only
  refine wpAny_bind (wpAny_specialOf (name := Str.ofString "__next__") hit.typeIs slot_listiter_next.lookup ?_)
  refine wpAny_ite_split (fun hab => absurd hab (by decide)) (fun _ => ?_)
  refine wpAny_bind (wpAny_callSpecial?_slot (name := Str.ofString "__next__") hit.typeIs slot_listiter_next (wpAny_call_entry slot_listiter_next hit.typeIs entry_listiter_next ?_ (args_listiter_next _)))
  show wpAny _ _ (field (.ref it) 0 >>= _) _ _ s
  refine wpAny_bind (wpAny_field ho hd (x := .ref l) rfl ?_)
  show wpAny _ _ (if (Value.ref l == Value.none) = true then _ else _) _ _ s
  rw [if_neg (show ¬ ((Value.ref l == Value.none) = true) from Bool.false_ne_true)]
  show wpAny _ _ (field (.ref it) 1 >>= _) _ _ s
  refine wpAny_bind (wpAny_field ho hd (x := .int i 0) rfl ?_)
  show wpAny _ _ (seqItems? (.ref l) >>= _) _ _ s
  refine wpAny_bind (wpAny_seqItems hol hdl ?_)
  simp only [Int.toNat_natCast, hx]
  refine wpAny_bind (wpAny_rule (wpAny_bind (wpAny_setField ho hd (by simp) ?_)))
  show wpAny _ _ (newExc (.type "StopIteration") [] >>= _) _ _ _
  refine wpAny_bind ?_
  simp only [newExc, newTuple]
  refine wpAny_bind (wpAny_newObj_type ?_ (by size_fits))
  refine wpAny_bind (m := firstArgMember _ _) (wpAny_of_eq (a := Value.none) (by first | rfl | (simp only [firstArgMember]; rfl)) ?_)
  refine wpAny_newObj_type ?_ (by size_fits)
  simp only [raiseNew]
  refine wpAny_bind (wpAny_handled ?_)
  rw [show A.in1.in1.handled = none from hh]
  refine wpAny_bind (wpAny_pure (wpAny_throw ?_))
  refine hE _ _ _ (Heap.SameBut.update ..) ⟨fun b o e => Heap.get?_push_of_some _ (Heap.get?_push_of_some _ e), ?_, _, _, _, Heap.get?_push_size _ rfl, rfl, rfl, rfl, rfl⟩
  exact Heap.get?_none_of_le (by simp [Heap.push])
theorem iterL {l : Addr} {items : Array Value} {Q : Value → Shared → Prop} (hl : s.heap.IsList l items)
    (hQ : ∀ o, IterOb o l 0 → o.isFreed = false → Q (.ref s.heap.objs.size) { s with heap := s.heap.push o }) : wpAny (model prog w) A (call (.builtin "iter") [.ref l]) Q E s := by
  refine call_function_entry (by decide +kernel) (by decide +kernel) entry_iter (args_iter _) ?_
  unfold Builtin.«iter»
  refine wpAny_bind (m := someArgs "iter" 1 2 _) (wpAny_of_eq (a := [Value.ref l]) (by first | rfl | kernel_rfl!) ?_)
  show wpAny _ _ (pyIter (.ref l) >>= _) _ _ _
  refine wpAny_bind (wpAny_pyIter_list hl ?_)
  exact wpAny_pure ⟨_, rfl, hQ _ ⟨rfl, rfl⟩ rfl⟩
end
end
section
noncomputable def outS (s : Shared) (ls : List Addr) : Shared := { s with heap := outH s.heap ls }
theorem outS_some {s : Shared} {ls : List Addr} {b : Addr} {o : Obj} (h : (outS s ls).heap.get? b = some o) : s.heap.get? b = some o ∧ b ∉ ls := by
  have h' : (outH s.heap ls).get? b = some o := h
  rw [outH_get] at h'
  split at h'
  · cases h'
  · exact ⟨h', by assumption⟩
theorem outS_of {s : Shared} {ls : List Addr} {b : Addr} {o : Obj} (h : s.heap.get? b = some o) (hn : b ∉ ls) : (outS s ls).heap.get? b = some o := by
  show (outH s.heap ls).get? b = some o
  rw [outH_get, if_neg hn, h]
theorem outS_none {s : Shared} {ls : List Addr} {b : Addr} (h : s.heap.get? b = none) : (outS s ls).heap.get? b = none := by
  show (outH s.heap ls).get? b = none
  rw [outH_get, h]; split <;> rfl
theorem outS_in {s : Shared} {ls : List Addr} {b : Addr} (h : b ∈ ls) : (outS s ls).heap.get? b = none := by
  show (outH s.heap ls).get? b = none
  rw [outH_get, if_pos h]
/-- arguments; the things that they own are at ls -/
structure ArgsOk (W : Wd) (A : Around) (g : Vis) (s : Shared) (ls : List Addr) (vs : List Value) (sls : List Slot) : Prop where
  len : vs.length = sls.length
  ok : ∀ (i : Nat) v sl, vs[i]? = some v → sls[i]? = some sl → KVal W g v sl ∧ ∀ b, hidA v sl = some b → b ∈ ls ∧ ∃ o, s.heap.get? b = some o ∧ KObj W g o sl
  sep : ∀ (i j : Nat) v v' sl sl' b, i ≠ j → vs[i]? = some v → vs[j]? = some v' → sls[i]? = some sl → sls[j]? = some sl' → hidA v sl = some b → hidA v' sl' ≠ some b
  hid : ∀ b ∈ ls, g b = none ∧ ¬ fz A b ∧ ∃ o, s.heap.get? b = some o
theorem zip_slots {x : Str} {sl : Slot} : ∀ {names : List Str} {vs : List Value} {sls : List Slot}, vs.length = sls.length → sls.length = names.length → (names.zip sls).lookup x = some sl → ∃ (v : Value) (i : Nat), (names.zip vs).lookup x = some v ∧ names[i]? = some x ∧ vs[i]? = some v ∧ sls[i]? = some sl
  | [], _, _, _, _, h => by simp at h
  | k :: r, vs, [], _, _, h => by simp at h
  | k :: r, [], d :: ds, hl, _, h => by simp at hl
  | k :: r, v :: vs, d :: ds, hl, hl2, h => by
    simp only [List.zip_cons_cons, List.lookup_cons] at h ⊢
    cases hq : x == k with
    | true => rw [hq] at h; cases h; exact ⟨v, 0, rfl, by rw [eq_of_beq hq]; rfl, rfl, rfl⟩
    | false =>
      rw [hq] at h
      obtain ⟨u, i, h1, h2, h3, h4⟩ := zip_slots (names := r) (vs := vs) (sls := ds) (by simpa using hl) (by simpa using hl2) h
      exact ⟨u, i + 1, h1, h2, h3, h4⟩
section
variable {W : Wd} {n : Nat}
theorem call_enterI {A : Around} {g : Vis} {s : Shared} {vs : List Value} {R : Result → Shared → Prop} {a : Addr} {oF : Obj} {name qual : Str} {params : Arguments} {body : List Stmt} {scope : Scope} {pm cd doc : Value} {names : List Str} {sls : List Slot} {ls : List Addr}
    (hF : W.hT.get? a = some oF) (hdata : oF.data = .func (methDef name qual params body scope pm cd doc)) (hcd : W.hT.CodeRec cd qual)
    (hbind : ∀ vs : List Value, vs.length = names.length → bindArgs (methDef name qual params body scope pm cd doc) ⟨vs, []⟩ = pure (names.zip vs)) (hnd : names.Nodup) (hlen : sls.length = names.length)
    (hkind : ∀ x ∈ names, scope.names.lookup x = some .local ∨ scope.names.lookup x = some .cell) (hk : scope.kind = .function) (hco : scope.isCoroutine = false) (hgen : scope.isGenerator = false)
    (sv : Sv W (n + 1) A g s) (r : ArgsOk W A g s ls vs sls)
    (h : ∀ env s₁ outer, EnvK true scope env → St W n (A.deeper env) (outS s ls) g [] env (names.zip sls) g s₁ → A.frames = some outer → env.frame = some env.locals → s.heap.get? env.locals = none → (∀ {h : Heap} (b : Addr) (o : Obj), s.heap.get? b = some o → KeptA (A.deeper env) h b o → KeptA A h b o) →
      wpAny (model W.prog W.w) (A.deeper env) (execs body env) (fun f s' => R (.ok (.ret (match f with | .ret v => v | _ => .none))) s') (fun e s' => wpAny (model W.prog W.w) (A.deeper env) (leaving env e) (fun _ s'' => R (.error e) s'') (fun e' s'' => R (.error e') s'') s') s₁) :
    codeAny (model W.prog W.w) A (.call (.ref a) ⟨vs, []⟩) R s := by
  obtain ⟨outer, B⟩ := sv.below
  refine codeAny_call_cells (fd := methDef name qual params body scope pm cd doc) (body := body) (binds := names.zip vs) (by have := sv.aok.depth; omega) (sv.keepTop _ _ hF) hdata (W.lim.keeps sv.keepTop) (hcd.keeps sv.keepTop) rfl (hbind vs (r.len.trans hlen)) rfl (fun x hx => ?_) (fun s₁ x => ?_) hco hgen hk
  · rcases hkind x.1 (List.of_mem_zip hx).1 with h | h
    · exact .inl h
    · refine .inr ⟨h, ?_⟩
      obtain ⟨c, hc⟩ := cellsFrom_some (k := s.heap.objs.size + 1) h
      show ((cellsFrom (s.heap.objs.size + 1) scope.names []).lookup x.1).isSome = true
      rw [hc]; rfl
  · generalize henv : callEnvC (methDef name qual params body scope pm cd doc) s.heap.objs.size a = env at x ⊢
    have e1 : env.scope = scope := by rw [← henv]; rfl
    have e2 : env.frame = some env.locals := by rw [← henv]; rfl
    have e3 : env.globals = mainGlobals := by rw [← henv]; rfl
    have e4 : env.builtins = builtinsNs := by rw [← henv]; rfl
    have e5 : env.cells = cellsFrom (s.heap.objs.size + 1) scope.names [] := by rw [← henv]; rfl
    have he : EnvK true scope env := ⟨⟨e1, hk, e3, e4, fun x hx => by rw [e5]; exact cellsFrom_some hx⟩, fun _ => e2⟩
    have hnone : ∀ b, s.heap.objs.size ≤ b → s.heap.get? b = none := fun b hb => Heap.get?_none_of_le hb
    have gnone : ∀ b, s.heap.objs.size ≤ b → g b = none := fun b hb => by
      cases q : g b with
      | none => rfl
      | some o => have := sv.sub b o q; rw [hnone b hb] at this; cases this
    have hL := x.toInCall.fresh
    have hC : ∀ k c, env.cells.lookup k = some c → env.locals < c := fun k c e => x.above k c (mem_of_lookup e)
    have kA : ∀ {h : Heap} (b : Addr) (o : Obj), s.heap.get? b = some o → KeptA (A.deeper env) h b o → KeptA A h b o := fun {h} b o e k => by
      rcases k with k | ⟨f, sl, k⟩
      · exact .inl k
      · refine .inr ⟨?_, sl, k⟩
        obtain ⟨out, h1, e', he', hf⟩ := f
        rw [Around.frames_deeper B.stack] at h1
        cases h1
        rcases List.mem_cons.mp he' with rfl | hm
        · rw [e2] at hf; cases hf; rw [hnone _ hL] at e; cases e
        · exact ⟨outer, B.stack, e', hm, hf⟩
    have sameO : ∃ h' tk, s₁ = { outS s ls with heap := h', toks := tk } := by
      obtain ⟨h', tk, e⟩ := x.toInCall.same
      exact ⟨h', tk, by rw [e]; rfl⟩
    have X : St W n (A.deeper env) (outS s ls) g [] env (names.zip sls) g s₁ := by
      refine ⟨⟨sv.aok.hd, ?_, ?_⟩, ?_, fun _ => ⟨outer, Around.frames_deeper B.stack⟩, sameO, fun b o e => .inl (x.toInCall.keep b o (outS_some e).1), fun _ _ _ => rfl, fun b o e => outS_of (sv.keepTop b o e) (fun hm => by have := sv.top b o e; rw [(r.hid b hm).1] at this; cases this), fun b o e => x.toInCall.keep b o (sv.sub b o e), sv.top, (fun b hb => by
        obtain ⟨out, h1, e', he', hf⟩ := hb
        rw [Around.frames_deeper B.stack] at h1
        cases h1
        rcases List.mem_cons.mp he' with rfl | hm
        · rw [e2] at hf; cases hf; exact gnone _ hL
        · exact sv.frv b ⟨outer, B.stack, e', hm, hf⟩), (by intro p hp; cases hp), List.nodup_nil, _, _,
        ⟨x.toInCall.ns, gnone _ hL, outS_none (hnone _ hL), x.cell, fun k c e => gnone c (Nat.le_of_lt (Nat.lt_of_le_of_lt hL (hC k c e))), fun k c e => Nat.ne_of_gt (hC k c e), fun k k' c e e' => name_of_addr x.apart (mem_of_lookup e) (mem_of_lookup e'),
         fun _ k c e => outS_none (hnone c (Nat.le_of_lt (Nat.lt_of_le_of_lt hL (hC k c e)))), ⟨_, e2, .inl rfl⟩, fun y sl e => ?_, fun y z sl sl' v v' b hyz h1 h2 h3 h4 h5 => ?_⟩⟩
      · have := sv.aok.depth; show A.depth + 1 + n < recursionLimit; omega
      · have := sv.aok.units; rw [Around.deeper_units]; omega
      · refine ⟨env :: outer, by show A.frames.map _ = _; rw [B.stack]; rfl, fun e he' => ?_⟩
        rcases List.mem_cons.mp he' with rfl | hm
        · refine ⟨by rw [e1, hk]; decide, e.locals, e2, ?_, .inl rfl⟩
          cases q : W.hT.get? e.locals with
          | none => rfl
          | some o => have := sv.keepTop _ _ q; rw [hnone _ hL] at this; cases this
        · have go : ∀ l : List Env, s.heap.FunFrames W.hT l → (∀ e ∈ l, ∀ b, e.frame = some b → b ∉ ls) → ∀ e ∈ l, e.scope.kind ≠ .module ∧ ∃ L', e.frame = some L' ∧ W.hT.get? L' = none ∧ (some env.locals = some L' ∨ ∃ o, (outS s ls).heap.get? L' = some o ∧ NonF o) := by
            intro l
            induction l with
            | nil => exact fun _ _ e he => by cases he
            | cons f r ih =>
              intro hl hz e he
              obtain ⟨hk', ⟨L', o, hf, hn, ho, hd⟩, hr⟩ := hl
              rcases List.mem_cons.mp he with rfl | he
              · exact ⟨hk', L', hf, hn, .inr ⟨o, outS_of ho (hz _ (.head _) _ hf), hd⟩⟩
              · exact ih hr (fun e h => hz e (.tail _ h)) e he
          exact go outer B.frames (fun e' h' b hb hm => (r.hid b hm).2.1 ⟨outer, B.stack, e', h', hb⟩) e hm
      · obtain ⟨v, i, hv, hi, hvi, hsi⟩ := zip_slots (names := names) r.len hlen e
        have hmem : y ∈ names := (List.of_mem_zip (mem_of_lookup hv)).1
        obtain ⟨kv, kh⟩ := r.ok i v sl hvi hsi
        refine ⟨v, ?_, kv, fun b hb => ?_⟩
        · rcases hkind y hmem with hl | hc
          · have hl' : env.kindOf y = some .local := by unfold Env.kindOf; rw [e1]; exact hl
            rw [rdv_local hl']
            exact bindL_zip hl' names vs _ hnd hv
          · have hc' : env.kindOf y = some .cell := by unfold Env.kindOf; rw [e1]; exact hc
            obtain ⟨c, hcc⟩ := he.cls y hc
            rw [rdv_cell hc' hcc]
            exact bindC_zip (by rw [hc']; decide) names vs _ hnd hv
        · obtain ⟨hb1, o, ho, hk'⟩ := kh b hb
          have hlt := Heap.lt_size ho
          exact ⟨o, x.toInCall.keep b o ho, hk', (r.hid b hb1).1, fun z => Nat.lt_irrefl _ (Nat.lt_of_lt_of_le (z ▸ hlt) hL), fun k c e z => Nat.lt_irrefl _ (Nat.lt_of_lt_of_le (Nat.lt_trans (hC k c e) (z ▸ hlt)) hL), (by intro p hp; cases hp), outS_in hb1⟩
      · obtain ⟨u, i, hv, hi, hvi, hsi⟩ := zip_slots (names := names) r.len hlen h1
        obtain ⟨u', j, hv', hj, hvj, hsj⟩ := zip_slots (names := names) r.len hlen h2
        have rd : ∀ {y u}, y ∈ names → (names.zip vs).lookup y = some u → rdv env (bindL env.kindOf (names.zip vs) fun _ => none) (bindC env.kindOf (names.zip vs) fun _ => none) y = some u := fun {y u} hmem hv => by
          rcases hkind y hmem with hl | hc
          · have hl' : env.kindOf y = some .local := by unfold Env.kindOf; rw [e1]; exact hl
            rw [rdv_local hl']
            exact bindL_zip hl' names vs _ hnd hv
          · have hc' : env.kindOf y = some .cell := by unfold Env.kindOf; rw [e1]; exact hc
            obtain ⟨c, hcc⟩ := he.cls y hc
            rw [rdv_cell hc' hcc]
            exact bindC_zip (by rw [hc']; decide) names vs _ hnd hv
        rw [rd (List.of_mem_zip (mem_of_lookup hv)).1 hv] at h3; cases h3
        rw [rd (List.of_mem_zip (mem_of_lookup hv')).1 hv'] at h4; cases h4
        refine r.sep i j _ _ _ _ b (fun hij => hyz ?_) hvi hvj hsi hsj h5
        subst hij
        rw [hi] at hj; exact Option.some.inj hj
    exact h env s₁ outer he X B.stack e2 (hnone _ hL) kA
end
end
section
/-- statements that end in a new exception of a built-in class -/
noncomputable def ExNX (W : Wd) (n : Nat) (sc : Scope) (V : Vars) (l : List Stmt) (X : String) : Prop :=
  ∀ (A : Around) (s₀ : Shared) (g₀ : Vis) (R : List (Addr × Obj)) (env : Env) (g : Vis) (s : Shared) (Q : Flow → Shared → Prop) (E : Value → Shared → Prop), EnvK true sc env → St W n A s₀ g₀ R env V g s →
    (∀ s1 g1 V1 h' tk e, St W n A s₀ g₀ R env V1 g1 s1 → NewX s1.heap h' e X → E (.ref e) { s1 with heap := h', toks := tk }) → wpAny (model W.prog W.w) A (execs l env) Q E s
noncomputable def FlowIs (W : Wd) (g : Vis) (d : D) : Flow → Prop
  | .ret v => RD W g v d
  | .next => d = .none
  | _ => False
/-- statements to the end of a body, and what the names hold there -/
noncomputable def ExV (W : Wd) (n : Nat) (sc : Scope) (V : Vars) (l : List Stmt) (d : D) (V' : Vars) : Prop :=
  ∀ (A : Around) (s₀ : Shared) (g₀ : Vis) (R : List (Addr × Obj)) (env : Env) (g : Vis) (s : Shared) (Q : Flow → Shared → Prop) (E : Value → Shared → Prop), EnvK true sc env → St W n A s₀ g₀ R env V g s →
    (∀ f g' s', (∀ b o, g b = some o → g' b = some o) → FlowIs W g' d f → St W n A s₀ g₀ R env V' g' s' → Q f s') → wpAny (model W.prog W.w) A (execs l env) Q E s
noncomputable def hidS : Slot → Option Addr
  | .itr I _ => some I
  | .obj _ _ dx _ => some dx
  | _ => none
theorem hidS_ok {sl : Slot} {b : Addr} (h : hidS sl = some b) (v : Value) : hidA v sl = some b := by
  cases sl <;> first | cases h; done | (cases h; cases v <;> rfl)
section
variable {W : Wd} {n : Nat} {sc : Scope} {V V₁ V' : Vars} {d : D}
theorem ExV.cons {st : Stmt} {rest : List Stmt} (h1 : ExS W n sc V st (.next V₁)) (h2 : ExV W n sc V₁ rest d V') : ExV W n sc V (st :: rest) d V' := fun A s₀ g₀ R env g s Q E he X h =>
  wpAny_execs_cons (h1 A s₀ g₀ R env g s _ E he X fun f g1 s1 m1 X1 => by
    cases f with
    | next => exact h2 A s₀ g₀ R env g1 s1 Q E he X1 fun f g2 s2 m2 fi X2 => h f g2 s2 (fun b o e => m2 b o (m1 b o e)) fi X2
    | _ => exact X1.elim)
theorem ExV.ret {e : Expr} {pos : Pos} (h1 : EvE W n sc V e d) : ExV W n sc V [.Return (some e) pos] d V := fun A s₀ g₀ R env g s Q E he X h =>
  wpAny_execs_cons (wpAny_Return_some (h1 A s₀ g₀ R env g s _ E he.toEnvOk X fun v s1 g1 G1 r => h (.ret v) g1 s1 (G1.vis X.sub) r (X.gr G1)))
theorem ExV.fall {l : List Stmt} (h1 : ExSs W n sc V l (.next V')) : ExV W n sc V l .none V' := fun A s₀ g₀ R env g s Q E he X h =>
  h1 A s₀ g₀ R env g s Q E he X fun f g1 s1 m1 X1 => by
    cases f with
    | next => exact h .next g1 s1 m1 rfl X1
    | _ => exact X1.elim
theorem call_bodyI {A : Around} {g : Vis} {s : Shared} {vs : List Value} {Q E : Value → Shared → Prop} {a : Addr} {oF : Obj} {name qual : Str} {params : Arguments} {body : List Stmt} {scope : Scope} {pm cd doc : Value} {names : List Str} {sls : List Slot} {ls : List Addr}
    (hF : W.hT.get? a = some oF) (hdata : oF.data = .func (methDef name qual params body scope pm cd doc)) (hcd : W.hT.CodeRec cd qual)
    (hbind : ∀ vs : List Value, vs.length = names.length → bindArgs (methDef name qual params body scope pm cd doc) ⟨vs, []⟩ = pure (names.zip vs)) (hnd : names.Nodup) (hlen : sls.length = names.length)
    (hkind : ∀ x ∈ names, scope.names.lookup x = some .local ∨ scope.names.lookup x = some .cell) (hk : scope.kind = .function) (hco : scope.isCoroutine = false) (hgen : scope.isGenerator = false)
    (hb : ExV W n scope (names.zip sls) body d V') (sv : Sv W (n + 1) A g s) (r : ArgsOk W A g s ls vs sls)
    (hq : ∀ v s' g', Gr A (outS s ls) g s' g' → RD W g' v d → (∀ x sl b, V'.lookup x = some sl → hidS sl = some b → g' b = none ∧ ∃ o, s'.heap.get? b = some o ∧ KObj W g' o sl) → Q v s') : wpAny (model W.prog W.w) A (call (.ref a) vs) Q E s := by
  refine wpAny_call (call_enterI hF hdata hcd hbind hnd hlen hkind hk hco hgen sv r fun env s₁ outer he X hfr e2 hLn kA => ?_)
  refine hb (A.deeper env) (outS s ls) g [] env g s₁ _ _ he X fun f g' s' m fi X' => ?_
  have G : Gr A (outS s ls) g s' g' := ⟨X'.same, fun b o e => kA b o (outS_some e).1 (X'.keep b o e), X'.old, X'.sub⟩
  have H : ∀ x sl b, V'.lookup x = some sl → hidS sl = some b → g' b = none ∧ ∃ o, s'.heap.get? b = some o ∧ KObj W g' o sl := fun x sl b h1 h2 => by
    obtain ⟨m, cm, F⟩ := X'.fr
    obtain ⟨v, hv, ok⟩ := F.vars x sl h1
    obtain ⟨o, ho, hk, hh⟩ := ok.2 b (hidS_ok h2 v)
    exact ⟨hh.gv, o, ho, hk⟩
  cases f with
  | ret v => exact hq v s' g' G fi H
  | next => cases (show d = .none from fi); exact hq .none s' g' G .none H
  | _ => exact fi.elim
theorem call_bodyZI {A : Around} {g : Vis} {s : Shared} {vs : List Value} {Q E : Value → Shared → Prop} {X : String} {a : Addr} {oF : Obj} {name qual : Str} {params : Arguments} {body : List Stmt} {scope : Scope} {pm cd doc : Value} {names : List Str} {sls : List Slot} {ls : List Addr}
    (hF : W.hT.get? a = some oF) (hdata : oF.data = .func (methDef name qual params body scope pm cd doc)) (hcd : W.hT.CodeRec cd qual)
    (hbind : ∀ vs : List Value, vs.length = names.length → bindArgs (methDef name qual params body scope pm cd doc) ⟨vs, []⟩ = pure (names.zip vs)) (hnd : names.Nodup) (hlen : sls.length = names.length)
    (hkind : ∀ x ∈ names, scope.names.lookup x = some .local ∨ scope.names.lookup x = some .cell) (hk : scope.kind = .function) (hco : scope.isCoroutine = false) (hgen : scope.isGenerator = false)
    (hb : ExNX W n scope (names.zip sls) body X) (sv : Sv W (n + 1) A g s) (r : ArgsOk W A g s ls vs sls) (hq : ∀ e T s', Flew A X (outS s ls) g e T s' → E (.ref e) s') : wpAny (model W.prog W.w) A (call (.ref a) vs) Q E s := by
  refine wpAny_call (call_enterI hF hdata hcd hbind hnd hlen hkind hk hco hgen sv r fun env s₁ outer he XX hfr e2 hLn kA => ?_)
  refine hb (A.deeper env) (outS s ls) g [] env g s₁ _ _ he XX fun s1 g1 V1 h' tk e X1 hx => ?_
  obtain ⟨ob, wsx, a0x, hob, hcls, hdt, hw0, hw1⟩ := hx.there
  have hfr' : (A.deeper env).frames = some (env :: outer) := Around.frames_deeper hfr
  obtain ⟨outer', B⟩ := X1.below
  have : outer' = env :: outer := by have := B.stack; rw [hfr'] at this; cases this; rfl
  subst this
  have inL : ∀ e' ∈ env :: outer, ∀ b, e'.frame = some b → b ∈ (e :: (env :: outer).filterMap (·.frame)) := fun e' he' b hb => .tail _ (List.mem_filterMap.mpr ⟨e', he', hb⟩)
  have hFF := funFrames_out (h2 := h') (es := e :: (env :: outer).filterMap (·.frame)) B.frames (fun b o ho _ => ⟨o, hx.keeps b o ho, rfl⟩) inL
  refine wpAny_leaving_firstW (base := outH h' (e :: (env :: outer).filterMap (·.frame))) hfr' hFF e2 hob (fun b o ho => ?_) (by rw [outH_get, if_pos (List.mem_cons_self ..)]) hdt hw1 hw0 fun h2 hL => ?_
  · rw [outH_get] at ho
    split at ho
    · cases ho
    · exact ho
  · obtain ⟨k1, k2, ⟨oe, ws, T, oT, ts, h1, ⟨hc, h0⟩, hd, hT1, hTn, hTe, hT, hdT, h3⟩, k4⟩ := hL
    have sE : s1.heap.get? e = none := hx.new
    have e0 : (outS s ls).heap.get? e = none := X1.none0 sE
    have exact' : ∀ b o, (outS s ls).heap.get? b = some o → ¬ fz (A.deeper env) b → h2.get? b = some o := fun b o ho hn => by
      have q1 := (X1.keep b o ho).exact hn
      refine k1 b o ?_
      rw [outH_get, if_neg]
      · exact hx.keeps b o q1
      · intro hm
        rcases List.mem_cons.mp hm with rfl | hm
        · rw [e0] at ho; cases ho
        · obtain ⟨e', he', hf'⟩ := List.mem_filterMap.mp hm
          exact hn ⟨_, hfr', e', he', hf'⟩
    have weak : ∀ b o, (outS s ls).heap.get? b = some o → KeptA (A.deeper env) h2 b o := fun b o ho => by
      by_cases hn : fz (A.deeper env) b
      · obtain ⟨sl, q1⟩ := (X1.keep b o ho).some
        have q2 := hx.keeps b _ q1
        obtain ⟨out, f1, e', he', hf'⟩ := hn
        rw [hfr'] at f1; cases f1
        have nf : ∀ vs, ({ o with slots := sl } : Obj).data ≠ .fields vs := by
          have go : ∀ l : List Env, s1.heap.FunFrames W.hT l → e' ∈ l → ∃ o2, s1.heap.get? b = some o2 ∧ ∀ vs, o2.data ≠ .fields vs := by
            intro l
            induction l with
            | nil => intro _ h; cases h
            | cons f r ih =>
              intro hl hm
              obtain ⟨_, ⟨L', o2, g1, _, g2, g3⟩, hr⟩ := hl
              rcases List.mem_cons.mp hm with rfl | hm
              · rw [hf'] at g1; cases g1; exact ⟨o2, g2, g3⟩
              · exact ih hr hm
          obtain ⟨o2, g2, g3⟩ := go _ B.frames he'
          rw [q1] at g2; cases g2
          exact g3
        obtain ⟨sl2, q3⟩ := k4 b _ q2 nf
        exact .inr ⟨⟨_, hfr', e', he', hf'⟩, sl2, q3⟩
      · exact .inl (exact' b o ho hn)
    have nfF : ∀ b o vs, h2.get? b = some o → o.data = .fields vs → ¬ fz (A.deeper env) b := fun b o vs ho hd' hn => by
      obtain ⟨out, f1, e', he', hf'⟩ := hn
      rw [hfr'] at f1; cases f1
      have go : ∀ l : List Env, h2.FunFrames (outH h' (e :: (env :: outer).filterMap (·.frame))) l → e' ∈ l → ∃ o2, h2.get? b = some o2 ∧ ∀ vs, o2.data ≠ .fields vs := by
        intro l
        induction l with
        | nil => intro _ h; cases h
        | cons f r ih =>
          intro hl hm
          obtain ⟨_, ⟨L', o2, g1, _, g2, g3⟩, hr⟩ := hl
          rcases List.mem_cons.mp hm with rfl | hm
          · rw [hf'] at g1; cases g1; exact ⟨o2, g2, g3⟩
          · exact ih hr hm
      obtain ⟨o2, g2, g3⟩ := go _ k2 he'
      rw [ho] at g2; cases g2
      exact g3 _ hd'
    have Tn : (outS s ls).heap.get? T = none := by
      cases q : (outS s ls).heap.get? T with
      | none => rfl
      | some o =>
        exfalso
        have hn := nfF T oT ts hT hdT
        have q1 := (X1.keep T o q).exact hn
        rw [outH_get, if_neg] at hTn
        · rw [hx.keeps T o q1] at hTn; cases hTn
        · intro hm
          rcases List.mem_cons.mp hm with h | hm
          · exact hTe h
          · obtain ⟨e', he', hf'⟩ := List.mem_filterMap.mp hm
            exact hn ⟨_, hfr', e', he', hf'⟩
    obtain ⟨hs1, tk1, es1⟩ := X1.same
    refine hq e T _ ⟨⟨⟨h2, tk, by rw [es1]⟩, fun b o ho => kA b o (outS_some ho).1 (weak b o ho), fun _ _ _ => rfl, fun b o ho => ?_⟩, e0, Tn, hTe, oe, oT, ws, ts, _, h1, hT, by rw [hc, hcls], hd, h0, hT1, hdT, h3⟩
    have hn : ¬ fz (A.deeper env) b := fun f => by
      obtain ⟨out, f1, e', he', hf'⟩ := f
      rw [hfr'] at f1; cases f1
      rcases List.mem_cons.mp he' with rfl | hm
      · rw [e2] at hf'; cases hf'
        have := sv.sub _ _ ho; rw [hLn] at this; cases this
      · have := sv.frv b ⟨outer, hfr, e', hm, hf'⟩
        rw [this] at ho; cases ho
    exact exact' b o (outS_of (sv.sub b o ho) (fun hm => by rw [(r.hid b hm).1] at ho; cases ho)) hn
end
end
section
/-- a call that moves an iterator on -/
noncomputable def CallI (W : Wd) (n : Nat) (f : Value) (ds : List D) (d : D) (ds' : List D) : Prop :=
  ∀ (A : Around) (g : Vis) (s : Shared) (I : Addr) (o : Obj), Sv W n A g s → g I = none → ¬ fz A I → s.heap.get? I = some o → KObj W g o (.itr I ds) → ∀ (Q E : Value → Shared → Prop),
    (∀ v s' g' o', Gr A (outS s [I]) g s' g' → RD W g' v d → s'.heap.get? I = some o' → KObj W g' o' (.itr I ds') → g' I = none → Q v s') → wpAny (model W.prog W.w) A (call f [.ref I]) Q E s
noncomputable def CallIZ (W : Wd) (n : Nat) (f : Value) (ds : List D) (X : String) : Prop :=
  ∀ (A : Around) (g : Vis) (s : Shared) (I : Addr) (o : Obj), Sv W n A g s → g I = none → ¬ fz A I → s.heap.get? I = some o → KObj W g o (.itr I ds) → ∀ (Q E : Value → Shared → Prop),
    (∀ e T s', Flew A X (outS s [I]) g e T s' → E (.ref e) s') → wpAny (model W.prog W.w) A (call f [.ref I]) Q E s
noncomputable def FnI (W : Wd) (n : Nat) (f : Str) (ds : List D) (d : D) (ds' : List D) : Prop := ∃ a o fd, W.mg f = some (.ref a) ∧ W.hT.get? a = some o ∧ o.data = .func fd ∧ CallI W n (.ref a) ds d ds'
noncomputable def FnIZ (W : Wd) (n : Nat) (f : Str) (ds : List D) (X : String) : Prop := ∃ a o fd, W.mg f = some (.ref a) ∧ W.hT.get? a = some o ∧ o.data = .func fd ∧ CallIZ W n (.ref a) ds X
noncomputable def FnZ (W : Wd) (n : Nat) (f : Str) (ds : List D) (X : String) : Prop := ∃ a o fd, W.mg f = some (.ref a) ∧ W.hT.get? a = some o ∧ o.data = .func fd ∧ CallZ W n (.ref a) ds X
noncomputable def ExZ (W : Wd) (n : Nat) (sc : Scope) (V : Vars) (body : List Stmt) (X : String) (V1 : Vars) : Prop :=
  ∀ (A : Around) (s₀ : Shared) (g₀ : Vis) (R : List (Addr × Obj)) (env : Env) (g : Vis) (s : Shared) (Q : Flow → Shared → Prop) (E : Value → Shared → Prop), EnvK true sc env → St W n A s₀ g₀ R env V g s →
    (∀ g1 s1 e T s', (∀ b o, g b = some o → g1 b = some o) → St W n A s₀ g₀ R env V1 g1 s1 → Flew A X s1 g1 e T s' → E (.ref e) s') → wpAny (model W.prog W.w) A (execs body env) Q E s
section
variable {W : Wd} {n : Nat} {sc : Scope} {V V' V1 : Vars} {o : Out}
variable {A : Around} {s₀ s s' : Shared} {g₀ g g' : Vis} {R : List (Addr × Obj)} {env : Env}
theorem unfreed {h : Heap} {a : Addr} {o : Obj} (e : h.get? a = some o) : o.isFreed = false := (Heap.get?_some_iff.mp e).2
theorem HidAt.called {y : Str} {v : Value} {sl sl' : Slot} {b : Addr} {q q' : Obj} (H : HidAt W R env V g s s₀ y v sl b q) (X : St W n A s₀ g₀ R env V g s) (hG : Gr A (outS s [b]) g s' g')
    (ho : s'.heap.get? b = some q') (hg : g' b = none) (hk : KObj W g' q' sl') (hv : KVal W g' v sl') (ha : hidA v sl' = some b) : St W n A s₀ g₀ R env (setV V y sl') g' s' ∧ Names env s s' := by
  obtain ⟨hh, tk, es⟩ := hG.same
  have eU := Heap.get?_update_self (fun _ => q) ho (unfreed H.ho)
  have eO : ∀ c, c ≠ b → (s'.heap.update b fun _ => q).get? c = s'.heap.get? c := fun c hc => Heap.get?_update_other _ _ (Ne.symm hc)
  have G1 : Gr A s g { s' with heap := s'.heap.update b fun _ => q } g' := by
    refine ⟨⟨_, tk, by rw [es]; rfl⟩, fun c o hc => ?_, fun c o hc => ?_, fun c o hc => ?_⟩
    · by_cases e : c = b
      · subst e
        have := H.ho
        rw [hc] at this; cases this
        exact .inl eU
      · have k := hG.keep c o (outS_of hc (by simpa using e))
        rcases k with k | ⟨f, sl, k⟩
        · exact .inl ((eO c e).trans k)
        · exact .inr ⟨f, sl, (eO c e).trans k⟩
    · by_cases e : c = b
      · subst e; rw [hg, H.hh.gv]
      · exact hG.old c o (outS_of hc (by simpa using e))
    · have e : c ≠ b := fun z => by rw [z, hg] at hc; cases hc
      exact (eO c e).trans (hG.sub c o hc)
  have X1 := X.gr G1
  have H1 := H.gr X.sub G1 (fun c h1 h2 => X.nfz h1 h2)
  have S1 : Heap.SameBut b ({ s' with heap := s'.heap.update b fun _ => q } : Shared).heap s'.heap := ⟨(Heap.SameBut.update s'.heap b fun _ => q).1.symm, fun c hc => (eO c hc).symm⟩
  refine ⟨H1.turn X1 (tk := s'.toks) ho hv ha hk S1, (G1.names (env := env)).trans ⟨fun m h => h.sameBut S1 (Ne.symm H.hh.nL), fun k c v e h => h.sameBut S1 (Ne.symm (H.hh.nC k c e))⟩⟩
theorem kv_itr {v : Value} {I : Addr} {ds : List D} (h : KVal W g v (.itr I ds)) : v = .ref I := h
theorem ha_itr {v : Value} {I : Addr} {ds : List D} : hidA v (.itr I ds) = some I := by cases v <;> rfl
/-- the arguments: one name that holds an iterator -/
theorem argI_go {f : Value} {y : Str} {yp pos : Pos} {I : Addr} {ds : List D} {Q : Args → Shared → Prop} {E : Value → Shared → Prop} (he : EnvOk sc env) (X : St W n A s₀ g₀ R env V g s) (hy : V.lookup y = some (.itr I ds)) (hd : (y == ("__debug__" : Str)) = false)
    (h : ∀ q, HidAt W R env V g s s₀ y (.ref I) (.itr I ds) I q → Q ⟨[.ref I], []⟩ s) : wpAny (model W.prog W.w) A (evalArgs f true (backTo pos (starEach [.Name y yp] env)) []) Q E s := by
  have h1 : wpAny (model W.prog W.w) A (spliced (backTo pos ((false, eval (.Name y yp) env) :: starEach [] env))) (fun vs s' => Q ⟨vs, []⟩ s') E s := by
    refine wpAny_items_cons (wpAny_Name (load_hid he X hy hs_itr fun v b q H => ?_) hd) rfl
    have e1 := kv_itr H.kv
    subst e1
    have e2 := H.ha
    rw [ha_itr] at e2; cases e2
    exact wpAny_items_nil (h q H)
  exact evalArgs_plain h1
/-- a call that moves an iterator on -/
theorem EvX.callI {f : Str} {fp pos : Pos} {y : Str} {yp : Pos} {I : Addr} {ds ds' : List D} {d : D} (hk : sc.names.lookup f = some .globalImplicit) (hf : FnI W n f ds d ds') (hy : V.lookup y = some (.itr I ds)) (hd : (f == ("__debug__" : Str)) = false := by decide) (hd2 : (y == ("__debug__" : Str)) = false := by decide) :
    EvX W n sc V (.Call (.Name f fp) [.Name y yp] [] pos) d (setV V y (.itr I ds')) := fun A s₀ g₀ R env g s Q E he X hq => by
  obtain ⟨a, o, fd, h1, h2, h3, h4⟩ := hf
  refine wpAny_Call_NameR (Name_function_global he.kf (by rw [he.kindOf]; exact hk) (loadGlobal_global (glob_ns he X) h1 (callWith_function (o := o) (fd := fd) (argI_go he X hy hd2 fun q H => ⟨⟨X.topKeep _ _ h2, h3⟩, ?_⟩))) hd)
  refine h4 A g s I q X.sv H.hh.gv (X.nfz H.hh.nL H.hh.n0) H.ho H.ko Q E fun v s' g' o' G r ho hk hg => ?_
  obtain ⟨X', N⟩ := H.called X G ho hg hk rfl ha_itr
  refine hq v g' s' (fun b ob hb => ?_) X' N r
  have hbI : b ≠ I := fun z => by rw [z, H.hh.gv] at hb; cases hb
  exact (G.old b ob (outS_of (X.sub b ob hb) (by simpa using hbI))).trans hb
/-- next(iterator) -/
theorem EvX.next {np pos : Pos} {y : Str} {yp : Pos} {I : Addr} {ds : List D} {d : D} (hb : BName W sc "next" (.builtin "next")) (hy : V.lookup y = some (.itr I (d :: ds))) (hp : ∀ env, (backTo pos (starEach [.Name y yp] env)).any (·.1) = false := by intro _; rfl) (hd2 : (y == ("__debug__" : Str)) = false := by decide) :
    EvX W n sc V (.Call (.Name "next" np) [.Name y yp] [] pos) d (setV V y (.itr I ds)) := fun A s₀ g₀ R env g s Q E he X hq => by
  cases hb with
  | fn hk hf hbb hn hd =>
    refine wpAny_Call_NameR (Name_function_global he.kf (by rw [he.kindOf]; exact hk) (loadGlobal_builtin (glob_ns he X) hf (blt_ns he X) (by rw [W.hbb _ hn]; exact hbb) (callWith_builtin (hp env) (argI_go he X hy hd2 fun q H => ?_))) hd)
    obtain ⟨l, k, vs, nn, ho, hl, hkl, hr⟩ := H.ko
    obtain ⟨v, hv, rv, rr, hlt⟩ := hr.drop_cons
    refine nextL_item (i := k) ⟨_, H.ho, ho⟩ (lob_list (X.sub _ _ hl)) (by simpa using hv) fun h' hi hs => ?_
    obtain ⟨o', ho', hi'⟩ := hi
    have X' := H.turn (sl' := .itr I ds) (tk := s.toks) X ho' rfl ha_itr ⟨l, k + 1, vs, nn, hi', hl, hlt, rr⟩ hs
    exact hq v g _ (fun _ _ e => e) X' ⟨fun m h => h.sameBut hs (Ne.symm H.hh.nL), fun k c v e h => h.sameBut hs (Ne.symm (H.hh.nC k c e))⟩ rv
/-- next(iterator) at its end, the first statement -/
theorem ExNX.next {np pos apos : Pos} {y : Str} {yp : Pos} {I : Addr} {tgt : Expr} {rest : List Stmt} (hb : BName W sc "next" (.builtin "next")) (hy : V.lookup y = some (.itr I [])) (hp : ∀ env, (backTo pos (starEach [.Name y yp] env)).any (·.1) = false := by intro _; rfl) (hd2 : (y == ("__debug__" : Str)) = false := by decide)
    (hs : ∀ env, swapsWithSole [tgt] (.Call (.Name "next" np) [.Name y yp] [] pos) apos.line env = pure false := by intro _; rfl) (hw : ∀ env, swappedStores [tgt] (.Call (.Name "next" np) [.Name y yp] [] pos) env = pure Option.none := by intro _; rfl) :
    ExNX W n sc V (.Assign [tgt] (.Call (.Name "next" np) [.Name y yp] [] pos) apos :: rest) "StopIteration" := fun A s₀ g₀ R env g s Q E he X hq => by
  refine wpAny_execs_cons (wpAny_Assign_stores ?_ (hs env) (hw env))
  cases hb with
  | fn hk hf hbb hn hd =>
    refine wpAny_Call_NameR (Name_function_global he.kf (by rw [he.kindOf]; exact hk) (loadGlobal_builtin (glob_ns he.toEnvOk X) hf (blt_ns he.toEnvOk X) (by rw [W.hbb _ hn]; exact hbb) (callWith_builtin (hp env) (argI_go he.toEnvOk X hy hd2 fun q H => ?_))) hd)
    obtain ⟨l, k, vs, nn, ho, hl, hkl, hr⟩ := H.ko
    refine nextL_end (i := k) X.aok.hd ⟨_, H.ho, ho⟩ (lob_list (X.sub _ _ hl)) (by simpa using hr.drop_nil) fun h1 h' e hs hx => ?_
    obtain ⟨⟨m, cm, F, _⟩, _, _, _, _, _, h7⟩ := H
    have X1 : St W n A s₀ g₀ R env [] g { s with heap := h1, toks := s.toks } := by
      refine X.turn (· = I) (fun b q hb e => (hs.2 b hb).trans e) (fun b e => by subst e; exact ⟨h7.gv, h7.n0⟩) (fun p hp => ⟨(hs.2 _ (h7.nR p hp)).trans (X.rest p hp).1, (X.rest p hp).2⟩) X.rnd ?_
      exact ⟨m, cm, F.ns.sameBut hs (Ne.symm h7.nL), F.gL, F.L0, fun i c e => (F.cell i c e).sameBut hs (Ne.symm (h7.nC i c e)), F.gC, F.nLC, F.apart, F.C0, F.fL, fun z sl1 e => (by cases e), fun z u sl1 sl2 v1 v2 b hzu e1 => (by cases e1)⟩
    exact hq { s with heap := h1, toks := s.toks } g [] h' s.toks e X1 hx
end
end
section
section
variable {W : Wd} {n : Nat} {sc : Scope} {V V' V1 : Vars} {o : Out}
variable {A : Around} {s₀ s s' : Shared} {g₀ g g' : Vis} {R : List (Addr × Obj)} {env : Env}
/-- a thing that a name owns is taken out -/
theorem HidAt.out {y : Str} {v : Value} {sl : Slot} {b : Addr} {q : Obj} (H : HidAt W R env V g s s₀ y v sl b q) (X : St W n A s₀ g₀ R env V g s) (hs : SubV V1 V) (hy : V1.lookup y = none) : St W n A s₀ g₀ R env V1 g (outS s [b]) := by
  obtain ⟨⟨m, cm, F, h1⟩, h2, h3, h4, h5, h6, h7⟩ := H
  have ne : ∀ {c o}, s.heap.get? c = some o → c ≠ b → (outS s [b]).heap.get? c = some o := fun h hc => outS_of h (by simpa using hc)
  obtain ⟨hh, tk, es⟩ := X.same
  have n0 : ∀ c o, s₀.heap.get? c = some o → c ≠ b := fun c o h z => by rw [z, h7.n0] at h; cases h
  refine ⟨X.aok, X.frs, X.hdF, ⟨outH s.heap [b], tk, by rw [es]; rfl⟩, fun c o h => ?_, X.old, X.base, fun c o h => ne (X.sub c o h) (fun z => by rw [z, h7.gv] at h; cases h), X.top, X.frv, fun p hp => ⟨ne (X.rest p hp).1 (h7.nR p hp), (X.rest p hp).2⟩, X.rnd, m, cm, ?_⟩
  · rcases X.keep c o h with k | ⟨f, sl, k⟩
    · exact .inl (ne k (n0 c o h))
    · exact .inr ⟨f, sl, ne k (n0 c o h)⟩
  · have ns : (outS s [b]).heap.Ns env.locals m := by
      obtain ⟨o, es, ep, ho, hd, r⟩ := F.ns
      exact ⟨o, es, ep, ne ho (Ne.symm h7.nL), hd, r⟩
    have cl : ∀ k c, env.cells.lookup k = some c → (outS s [b]).heap.IsCell c (cm k) := fun k c e => by
      obtain ⟨o, ho, hd⟩ := F.cell k c e
      exact ⟨o, ne ho (Ne.symm (h7.nC k c e)), hd⟩
    refine ⟨ns, F.gL, F.L0, cl, F.gC, F.nLC, F.apart, F.C0, F.fL, fun z sl1 e => ?_, fun z u sl1 sl2 v1 v2 b hzu e1 e2 => F.sep z u sl1 sl2 v1 v2 b hzu (hs _ _ e1) (hs _ _ e2)⟩
    obtain ⟨u, hu, ok⟩ := F.vars z sl1 (hs _ _ e)
    refine ⟨u, hu, ok.mono (fun _ _ e => e) fun c oc hc hoc hhc => ⟨ne hoc fun w => ?_, hhc⟩⟩
    subst w
    have hzy : z ≠ y := fun w => by rw [w, hy] at e; cases e
    exact F.sep z y sl1 sl u v c hzy (hs _ _ e) h2 hu h1 hc h4
/-- try with a handler that goes on with the loop -/
theorem ExS.tryCont {body : List Stmt} {X T' : String} {xs : Str} {np cp hpos pos : Pos} (hb : ExZ W n sc V body X V1) (hexc : isSubtype (.type T') (.type "BaseException") = pure true)
    (hnt : isSubtype (.type ((Manifest.find? T').elim "type" fun x => x.metatype)) (.type "tuple") = pure false) (hsub : isSubtype (.type X) (.type T') = pure true) (hn : BName W sc xs (.type T')) :
    ExS W n sc V (.Try body [.ExceptHandler (some (.Name xs np)) none [.Continue cp] hpos] [] [] pos) (.cont V1) := fun A s₀ g₀ R env g s Q E he X hq =>
  wpAny_Try_except (hb A s₀ g₀ R env g s _ _ he X fun g1 s1 e T s' m1 X1 F => handler_go he X1 F hexc hnt hsub hn fun hf E' G =>
    wpAny_execs_cons (wpAny_Continue (hq .cont g1 _ m1 (X1.gr G))))
/-- try with a handler that returns a list -/
theorem ExS.tryRet {body : List Stmt} {X T' : String} {xs y : Str} {np yp rp hpos pos : Pos} {ds : List D} (hb : ExZ W n sc V body X V1) (hy : V1.lookup y = some (.own ds)) (hk : sc.names.lookup y = some .local) (hexc : isSubtype (.type T') (.type "BaseException") = pure true)
    (hnt : isSubtype (.type ((Manifest.find? T').elim "type" fun x => x.metatype)) (.type "tuple") = pure false) (hsub : isSubtype (.type X) (.type T') = pure true) (hn : BName W sc xs (.type T')) (hd : (y == ("__debug__" : Str)) = false := by decide) :
    ExS W n sc V (.Try body [.ExceptHandler (some (.Name xs np)) none [.Return (some (.Name y yp)) rp] hpos] [] [] pos) (.ret (.list ds)) := fun A s₀ g₀ R env g s Q E he X hq =>
  wpAny_Try_except (hb A s₀ g₀ R env g s _ _ he X fun g1 s1 e T s' m1 X1 F => handler_go he X1 F hexc hnt hsub hn fun hf E' G => by
    have X2 := X1.gr G
    obtain ⟨g3, m3, X3⟩ := X2.freeze hy
    obtain ⟨m, cm, F3⟩ := X3.fr
    obtain ⟨v, hv, ok⟩ := F3.vars y (.val (.list ds)) (by rw [setV_lookup, if_pos rfl])
    have hl : env.kindOf y = some .local := by rw [he.kindOf]; exact hk
    rw [rdv_local hl] at hv
    exact wpAny_execs_cons (wpAny_Return_some (wpAny_Name (wpAny_loadName_local he.kf hl F3.ns hv (hq (.ret v) g3 _ (fun b o h => m3 b o (m1 b o h)) ⟨ok.1, _, X3⟩)) hd)))
/-- one statement that raises out of its expression -/
theorem ExZ.assign {tgt e : Expr} {pos : Pos} {X : String} (h : EvZ W n sc V e X) (hs : ∀ env, swapsWithSole [tgt] e pos.line env = pure false := by intro _; rfl) (hw : ∀ env, swappedStores [tgt] e env = pure Option.none := by intro _; rfl) : ExZ W n sc V [.Assign [tgt] e pos] X V := fun A s₀ g₀ R env g s Q E he X hq =>
  wpAny_execs_cons (wpAny_Assign_stores (h A s₀ g₀ R env g s _ E he.toEnvOk X fun s1 g1 ex T s' G F => hq g1 s1 ex T s' (G.vis X.sub) (X.gr G) F) (hs env) (hw env))
/-- a call of what an expression tells -/
theorem EvE.callX {f : Str} {fe : Expr} {pos : Pos} {e : Expr} {es : List Expr} {ds : List D} {d : D} (h0 : EvE W n sc V fe (.gl f)) (hf : Fn W n f ds d) (ha : EvL W n sc V (e :: es) ds)
    (hc : ∀ env, eval (.Call fe (e :: es) [] pos) env = (do callWith pos (← eval fe env) [] (backTo pos (starEach (e :: es) env)) (backToKw pos (keywordEach [] env))) := by intro _; rfl)
    (hs : ∀ env, starEach (e :: es) env = (false, eval e env) :: starEach es env := by intro _; rfl) : EvE W n sc V (.Call fe (e :: es) [] pos) d := fun A s₀ g₀ R env g s Q E he X hq => by
  obtain ⟨a, o, fd, h1, h2, h3, h4⟩ := hf.ex
  refine Call_ (h0 A s₀ g₀ R env g s _ E he X fun v s1 g1 G1 r1 => ?_) (hc env)
  have hv := r1.of_gl
  rw [h1] at hv; cases hv
  refine callWith_function (o := o) (fd := fd) (args_go he (X.gr G1) ha hs fun vs s2 g2 G2 r2 => ⟨⟨((X.gr G1).gr G2).topKeep _ _ h2, h3⟩, ?_⟩)
  exact h4 A g2 s2 vs ((X.gr G1).gr G2).sv r2 Q E fun v s3 g3 G3 r3 => hq v s3 g3 ((G1.trans G2).trans G3) r3
theorem EvZ.callX {f : Str} {fe : Expr} {pos : Pos} {e : Expr} {es : List Expr} {ds : List D} {X : String} (h0 : EvE W n sc V fe (.gl f)) (hf : FnZ W n f ds X) (ha : EvL W n sc V (e :: es) ds)
    (hc : ∀ env, eval (.Call fe (e :: es) [] pos) env = (do callWith pos (← eval fe env) [] (backTo pos (starEach (e :: es) env)) (backToKw pos (keywordEach [] env))) := by intro _; rfl)
    (hs : ∀ env, starEach (e :: es) env = (false, eval e env) :: starEach es env := by intro _; rfl) : EvZ W n sc V (.Call fe (e :: es) [] pos) X := fun A s₀ g₀ R env g s Q E he X hq => by
  obtain ⟨a, o, fd, h1, h2, h3, h4⟩ := hf
  refine Call_ (h0 A s₀ g₀ R env g s _ E he X fun v s1 g1 G1 r1 => ?_) (hc env)
  have hv := r1.of_gl
  rw [h1] at hv; cases hv
  refine callWith_function (o := o) (fd := fd) (args_go he (X.gr G1) ha hs fun vs s2 g2 G2 r2 => ⟨⟨((X.gr G1).gr G2).topKeep _ _ h2, h3⟩, ?_⟩)
  exact h4 A g2 s2 vs ((X.gr G1).gr G2).sv r2 Q E fun e T s3 F => hq s2 g2 e T s3 (G1.trans G2) F
/-- numbers.append(f(waiting)), raising -/
theorem ExZ.appendCall {f : Str} {fp pos pos2 epos : Pos} {y w : Str} {yp ap wp : Pos} {I : Addr} {xs ds : List D} {X : String} (hy : V.lookup y = some (.own xs)) (hk : sc.names.lookup f = some .globalImplicit) (hf : FnIZ W n f ds X) (hw : V.lookup w = some (.itr I ds)) (hs1 : SubV V1 V) (hw1 : V1.lookup w = none)
    (hi : ∀ env, EnvK true sc env → interactive env = false) (hsw : ∀ env, swapsWith (.Call (.Attribute (.Name y yp) "append" ap) [.Call (.Name f fp) [.Name w wp] [] pos2] [] pos) Option.none epos.line env = pure false := by intro _; rfl)
    (htr : ∀ env, backTo pos (starEach [.Call (.Name f fp) [.Name w wp] [] pos2] env) = [(false, eval (.Call (.Name f fp) [.Name w wp] [] pos2) env)] := by intro _; rfl) (hline : (ap.endLine == pos.line) = true := by rfl) (hd : (y == ("__debug__" : Str)) = false := by decide) (hd1 : (f == ("__debug__" : Str)) = false := by decide) (hd2 : (w == ("__debug__" : Str)) = false := by decide) :
    ExZ W n sc V [.Expr (.Call (.Attribute (.Name y yp) "append" ap) [.Call (.Name f fp) [.Name w wp] [] pos2] [] pos) epos] X V1 := fun A s₀ g₀ R env g s Q E he X hq => by
  refine wpAny_execs_cons (wpAny_Expr_any ?_ (hi env he) (hsw env))
  have hfew : ((backTo pos (starEach [.Call (.Name f fp) [.Name w wp] [] pos2] env)).all (fun x => !x.1) && (backToKw pos (keywordEach [] env)).all (fun x => x.1.isSome) && decide (([.Call (.Name f fp) [.Name w wp] [] pos2] : List Expr).length + ([] : List Keyword).length + (if ([] : List Keyword).isEmpty then 0 else 1) < 30)) = true := by rw [htr]; rfl
  refine wpAny_Call_method rfl hfew hline PySem.F.plainAttrs_list PySem.F.slot_list_append PySem.F.type_list_append (wpAny_Name (load_hid he.toEnvOk X hy hs_own fun v b q H => ?_) hd)
  obtain ⟨a, rfl⟩ := H.kv
  have hb := H.ha
  cases hb
  obtain ⟨vs, k, rfl, hr⟩ := H.ko
  refine ⟨tinstList H.ho, fun a' e => by cases e; exact ⟨_, H.ho, rfl⟩, ?_⟩
  rw [htr]
  refine P.append_list ?_
  obtain ⟨c, oc, fd, h1, h2, h3, h4⟩ := hf
  refine wpAny_Call_NameR (Name_function_global he.kf (by rw [he.kindOf]; exact hk) (loadGlobal_global (glob_ns he.toEnvOk X) h1 (callWith_function (o := oc) (fd := fd) (argI_go he.toEnvOk X hw hd2 fun q2 H2 => ⟨⟨X.topKeep _ _ h2, h3⟩, ?_⟩))) hd1)
  refine h4 A g s I q2 X.sv H2.hh.gv (X.nfz H2.hh.nL H2.hh.n0) H2.ho H2.ko _ E fun e T s' F => ?_
  exact hq g _ e T s' (fun _ _ e => e) (H2.out X hs1 hw1) F
end
end
section
section
variable {W : Wd} {n : Nat} {sc : Scope} {V V' V1 : Vars} {d : D}
theorem EvB.int {e : Expr} {a : Int} (h : EvE W n sc V e (.int a)) (he : ∀ env, isTrue e env (eval e env) = (do let v ← eval e env; standAt e.pos; holding [v] (truthy v)) := by intro _; rfl) : EvB W n sc V e (a != 0) :=
  EvB.val h (fun A g s v sv r Q E hq => by
    obtain ⟨t, rfl⟩ := r.of_int
    exact truthy_int (hq s g (Gr.refl sv.sub))) he
theorem argsI {A : Around} {g : Vis} {s : Shared} {I : Addr} {o : Obj} {ds : List D} (h1 : g I = none) (h2 : ¬ fz A I) (h3 : s.heap.get? I = some o) (h4 : KObj W g o (.itr I ds)) : ArgsOk W A g s [I] [.ref I] [.itr I ds] where
  len := rfl
  ok := fun i v sl e1 e2 => by
    cases i with
    | zero => cases e1; cases e2; exact ⟨rfl, fun b hb => by rw [ha_itr] at hb; cases hb; exact ⟨.head _, o, h3, h4⟩⟩
    | succ i => cases e1
  sep := fun i j v v' sl sl' b hij e1 e2 => by
    cases i with
    | zero => cases j with
      | zero => exact absurd rfl hij
      | succ j => cases e2
    | succ i => cases e1
  hid := fun b hb => by rw [List.mem_singleton] at hb; subst hb; exact ⟨h1, h2, o, h3⟩
theorem FnI.mk' (G : Glo W) (i : Nat) (f x : Str) {ds ds' : List D} (hi : i ∈ fnIdx) (hf : fnName (stAt i) = f)
    (hbind : ∀ pm cd doc (u : Value), bindArgs (docDef (fnName (stAt i)) (fnArgs (stAt i)) (fnBody (stAt i)) (fnScope (stAt i)) pm cd doc) ⟨[u], []⟩ = pure [(x, u)]) (hx : (fnScope (stAt i)).names.lookup x = some .local) (hk : (fnScope (stAt i)).kind = .function) (hco : (fnScope (stAt i)).isCoroutine = false) (hgen : (fnScope (stAt i)).isGenerator = false)
    (hb : ∀ I, ∃ V', ExV W n (fnScope (stAt i)) [(x, .itr I ds)] (fnBody (stAt i)) d V' ∧ V'.lookup x = some (.itr I ds')) : FnI W (n + 1) f ds d ds' := by
  subst hf
  obtain ⟨a, o, pm, cd, doc, h1, h2, h3, h4⟩ := G.fn i hi
  refine ⟨a, o, _, h1, h2, h3, fun A g s I ob sv gI fI hI kI Q E hq => ?_⟩
  obtain ⟨V', hb1, hl⟩ := hb I
  refine call_bodyI (names := [x]) (sls := [.itr I ds]) (ls := [I]) h2 h3 h4 ?_ (by simp) rfl (by intro y hy; rw [List.mem_singleton.mp hy]; exact .inl hx) hk hco hgen hb1 sv (argsI gI fI hI kI) fun v s' g' G r H => ?_
  · intro vs hv
    obtain ⟨u, rfl⟩ := len1 hv
    exact hbind ..
  · obtain ⟨gn, o', ho', ko'⟩ := H x _ I hl rfl
    exact hq v s' g' o' G r ho' ko' gn
theorem FnIZ.mk' (G : Glo W) (i : Nat) (f x : Str) {ds : List D} {X : String} (hi : i ∈ fnIdx) (hf : fnName (stAt i) = f)
    (hbind : ∀ pm cd doc (u : Value), bindArgs (docDef (fnName (stAt i)) (fnArgs (stAt i)) (fnBody (stAt i)) (fnScope (stAt i)) pm cd doc) ⟨[u], []⟩ = pure [(x, u)]) (hx : (fnScope (stAt i)).names.lookup x = some .local) (hk : (fnScope (stAt i)).kind = .function) (hco : (fnScope (stAt i)).isCoroutine = false) (hgen : (fnScope (stAt i)).isGenerator = false)
    (hb : ∀ I, ExNX W n (fnScope (stAt i)) [(x, .itr I ds)] (fnBody (stAt i)) X) : FnIZ W (n + 1) f ds X := by
  subst hf
  obtain ⟨a, o, pm, cd, doc, h1, h2, h3, h4⟩ := G.fn i hi
  refine ⟨a, o, _, h1, h2, h3, fun A g s I ob sv gI fI hI kI Q E hq => ?_⟩
  refine call_bodyZI (names := [x]) (sls := [.itr I ds]) (ls := [I]) h2 h3 h4 ?_ (by simp) rfl (by intro y hy; rw [List.mem_singleton.mp hy]; exact .inl hx) hk hco hgen (hb I) sv (argsI gI fI hI kI) hq
  intro vs hv
  obtain ⟨u, rfl⟩ := len1 hv
  exact hbind ..
/-- what _parse_varint reads, from its second step on -/
inductive RdV : Int → Int → List Int → Int → List Int → Prop
  | done {val b : Int} {r : List Int} : Builtin.bitAnd b 64 = 0 → RdV val b r val r
  | more {val b b' v : Int} {r r' : List Int} : Builtin.bitAnd b 64 ≠ 0 → Builtin.Int.intBits val ≤ 1000 → RdV (Builtin.bitOr (val * 64) (Builtin.bitAnd b' 63)) b' r v r' → RdV val b (b' :: r) v r'
noncomputable def vsV (I : Addr) (val b : Int) (r : List Int) : Vars := [("iterator", .itr I (r.map .int)), ("b", .val (.int b)), ("val", .val (.int val))]
theorem varint_loop (G : Glo W) (I : Addr) {val b v : Int} {r r' : List Int} (h : RdV val b r v r') : ∃ b', WhileR W n (fnScope (stAt 2)) (whT (nth (fnBody (stAt 2)) 2)) (forB (nth (fnBody (stAt 2)) 2)) r.length (vsV I val b r) (.next (vsV I v b' r')) := by
  induction h with
  | @done val b r h0 =>
    refine ⟨b, .done ?_⟩
    have := EvB.int (W := W) (n := n) (sc := fnScope (stAt 2)) (V := vsV I val b r) (e := whT (nth (fnBody (stAt 2)) 2)) (EvE.bin (EvE.name (by rfl)) EvE.int BinR.and)
    rw [h0] at this
    exact this
  | @more val b b2 v r r' h0 hz _ ih =>
    obtain ⟨b', hw⟩ := ih
    refine ⟨b', .more ?_ ?_ hw⟩
    · have := EvB.int (W := W) (n := n) (sc := fnScope (stAt 2)) (V := vsV I val b (b2 :: r)) (e := whT (nth (fnBody (stAt 2)) 2)) (EvE.bin (EvE.name (by rfl)) EvE.int BinR.and)
      rw [show (Builtin.bitAnd b 64 != 0) = true by simpa using h0] at this
      exact this
    · refine ExSs.cons (ExS.aug (by rfl) EvE.int (InpR.shl (by decide) (by omega)) (by rfl)) ?_
      refine ExSs.cons (ExS.assign (EvX.next (bnNext G) (by rfl)) (AsR.loc (by rfl))) ?_
      refine ExSs.cons (ExS.aug (by rfl) (EvE.bin (EvE.name (by rfl)) EvE.int BinR.and) InpR.or (by rfl)) ?_
      exact ExSs.nil
theorem fn_varint (G : Glo W) {b v : Int} {r r' : List Int} (h : RdV (Builtin.bitAnd b 63) b r v r') : FnI W (n + 1) "_parse_varint" ((b :: r).map .int) (.int v) (r'.map .int) := by
  refine FnI.mk' G 2 _ "iterator" (by decide) (by rfl) (fun _ _ _ _ => by rfl) (by rfl) (by rfl) (by rfl) (by rfl) fun I => ?_
  obtain ⟨b', hw⟩ := varint_loop (n := n) G I h
  refine ⟨vsV I v b' r', ?_, rfl⟩
  refine ExV.cons (ExS.assign (EvX.next (bnNext G) (by rfl)) (AsR.loc (by rfl))) ?_
  refine ExV.cons (ExS.let (EvE.bin (EvE.name (by rfl)) EvE.int BinR.and) (by rfl)) ?_
  refine ExV.cons (ExS.while hw) ?_
  exact ExV.ret (EvE.name (by rfl))
theorem fn_varintZ (G : Glo W) : FnIZ W (n + 1) "_parse_varint" [] "StopIteration" :=
  FnIZ.mk' G 2 _ "iterator" (by decide) (by rfl) (fun _ _ _ _ => by rfl) (by rfl) (by rfl) (by rfl) (by rfl) fun I => ExNX.next (bnNext G) (by rfl)
end
end
section
section
variable {W : Wd} {n : Nat} {sc : Scope} {V V' V1 : Vars} {d : D} {o : Out}
theorem NewSlot.hid {A : Around} {s₀ s s' : Shared} {g₀ g g' : Vis} {R : List (Addr × Obj)} {env : Env} {x : Str} {a : Addr} {v : Value} {sl : Slot} {q : Obj} (X : St W n A s₀ g₀ R env V g s) (G : Gr A s g s' g') (h0 : s.heap.get? a = none) (h1 : s'.heap.get? a = some q) (hg : g' a = none) (kv : KVal W g' v sl) (ha : hidA v sl = some a) (hr : KObj W g' q sl) :
    NewSlot W R env V g' s'.heap s₀.heap x v sl := by
  obtain ⟨m, cm, F⟩ := X.fr
  have ne : ∀ b q, s.heap.get? b = some q → a ≠ b := fun b q e h => by rw [← h, h0] at e; cases e
  obtain ⟨oL, es, ep, hL, _⟩ := id F.ns
  have a0 : s₀.heap.get? a = none := X.none0 h0
  refine ⟨⟨kv, fun b hb => ?_⟩, fun b hb z sl' m' cm' v' hz hl F' hv hb' => ?_⟩
  · rw [ha] at hb; cases hb
    exact ⟨_, h1, hr, hg, ne _ _ hL, fun i c e => by obtain ⟨oc, hc, _⟩ := F.cell i c e; exact ne _ _ hc, fun p hp => Ne.symm (ne _ _ (X.rest p hp).1), a0⟩
  · rw [ha] at hb; cases hb
    obtain ⟨v, hv0, ok⟩ := F.vars z sl' hl
    have e := F.rdv_eq F' (ns_kept G.keep F.ns) (fun k c e => cell_kept G.keep (F.cell k c e)) z
    rw [e, hv0] at hv
    cases hv
    obtain ⟨o', ho', -, -⟩ := ok.2 _ hb'
    exact ne _ _ ho' rfl
theorem ExSs.letIter {x : Str} {xp np pos apos : Pos} {e : Expr} {ds : List D} {rest : List Stmt} (hb : BName W sc "iter" (.builtin "iter")) (h1 : EvE W n sc V e (.list ds)) (hk : sc.names.lookup x = some .local) (h : ∀ I, ExSs W n sc (setV V x (.itr I ds)) rest o)
    (hst : ∀ env, starEach [e] env = (false, eval e env) :: starEach [] env := by intro _; rfl) (hp : ∀ env, (backTo pos (starEach [e] env)).any (·.1) = false := by intro _; rfl)
    (hs : ∀ env, swapsWith (.Call (.Name "iter" np) [e] [] pos) (some (.Name x xp)) apos.line env = pure false := by intro _; rfl) : ExSs W n sc V (.Assign [.Name x xp] (.Call (.Name "iter" np) [e] [] pos) apos :: rest) o := fun A s₀ g₀ R env g s Q E he X hq => by
  refine wpAny_execs_cons (wpAny_Assign_Name (bcall_go (ds := [.list ds]) he.toEnvOk X hb (EvL.cons h1 EvL.nil hst) hst hp fun vs s1 g1 G1 r1 => ?_) (hs env))
  obtain ⟨v, r, rfl, rv, rr⟩ := r1.cons_of
  cases rr.nil_of
  obtain ⟨l, j, us, rfl, hl, hr⟩ := rv.of_list
  have X1 := X.gr G1
  refine iterL (lob_list (X1.sub _ _ hl)) fun ob hob hfr => ?_
  have nn : s1.heap.get? s1.heap.objs.size = none := get?_size _
  have n0 : s.heap.get? s1.heap.objs.size = none := G1.none0 nn
  have G2 := Gr.allocHid (A := A) X1.sub ob
  have ns : NewSlot W R env V g1 (s1.heap.push ob) s₀.heap x (.ref s1.heap.objs.size) (.itr s1.heap.objs.size ds) :=
    NewSlot.hid (s' := { s1 with heap := s1.heap.push ob }) X (G1.trans G2) n0 (Heap.get?_push_size _ hfr) (gnone X1.sub nn) rfl ha_itr ⟨l, 0, us, j, hob, hl, Nat.zero_le _, hr⟩
  refine store_local he.toEnvOk hk (X1.gr G2) ns fun s2 X2 => ?_
  exact h _ A s₀ g₀ R env g1 s2 Q E he X2 fun f g3 s3 m3 ok => hq f g3 s3 (fun b o e => m3 b o (G1.vis X.sub b o e)) ok
/-- the numbers that a ring's octets tell -/
inductive RdVs : List Int → List Int → Prop
  | nil : RdVs [] []
  | cons {b v : Int} {r r' ns : List Int} : RdV (Builtin.bitAnd b 63) b r v r' → RdVs r' ns → RdVs (b :: r) (v :: ns)
theorem RdV.len {val b v : Int} {r r' : List Int} (h : RdV val b r v r') : r'.length ≤ r.length := by
  induction h with
  | done => exact Nat.le_refl _
  | more _ _ _ ih => rw [List.length_cons]; omega
theorem RdVs.len {r ns : List Int} (h : RdVs r ns) : ns.length ≤ r.length := by
  induction h with
  | nil => exact Nat.le_refl _
  | cons h1 _ ih => have := h1.len; rw [List.length_cons, List.length_cons]; omega
noncomputable def endsOf (ring : List Int) : List Nat := (List.range ring.length).filter fun k => Builtin.bitAnd (ring.getD k 0) 64 == 0
noncomputable def vsR (ring : List Int) (I : Addr) (r ns : List Int) : Vars := [("ring", .val (dInts ring)), ("waiting", .itr I (r.map .int)), ("numbers", .own (ns.map .int))]
theorem subStop : isSubtype (.type "StopIteration") (.type "BaseException") = pure true := by rw [isSubtype_type]; kernel_rfl
theorem metStop : isSubtype (.type ((Manifest.find? "StopIteration").elim "type" fun x => x.metatype)) (.type "tuple") = pure false := by kernel_rfl
theorem subZero : isSubtype (.type "ZeroDivisionError") (.type "BaseException") = pure true := by rw [isSubtype_type]; kernel_rfl
theorem metZero : isSubtype (.type ((Manifest.find? "ZeroDivisionError").elim "type" fun x => x.metatype)) (.type "tuple") = pure false := by kernel_rfl
theorem subZero2 : isSubtype (.type "ZeroDivisionError") (.type "ZeroDivisionError") = pure true := by rw [isSubtype_type]; kernel_rfl
theorem subStop2 : isSubtype (.type "StopIteration") (.type "StopIteration") = pure true := by rw [isSubtype_type]; kernel_rfl
theorem bnStop (G : Glo W) {sc : Scope} (hk : sc.names.lookup ("StopIteration" : Str) = some .globalImplicit := by rfl) : BName W sc "StopIteration" (.type "StopIteration") := bn G (by simp [bIds]) hk (.inr ⟨_, rfl⟩)
theorem bnZero (G : Glo W) {sc : Scope} (hk : sc.names.lookup ("ZeroDivisionError" : Str) = some .globalImplicit := by rfl) : BName W sc "ZeroDivisionError" (.type "ZeroDivisionError") := bn G (by simp [bIds]) hk (.inr ⟨_, rfl⟩)
theorem ringread_loop (G : Glo W) (ring : List Int) (I : Addr) {r ns : List Int} (h : RdVs r ns) : ∀ (k : Nat) (c : Int) (ms : List Int), ns.length < k → ms.length + ns.length ≤ 1000 → ForR W (n + 1) (fnScope (stAt 77)) (forT (nth (fnBody (stAt 77)) 3)) (forB (nth (fnBody (stAt 77)) 3)) (vsR ring I r ms) (rangeD c k 1) (.ret (dInts (ms ++ ns))) := by
  induction h with
  | nil =>
    intro k c ms hk hl
    obtain ⟨k, rfl⟩ : ∃ j, k = j + 1 := ⟨k - 1, by omega⟩
    rw [rangeD_succ, List.append_nil]
    refine .ret (AsR.loc (by rfl)) (ExSs.ret ?_)
    refine ExS.tryRet (V1 := [("numbers", .own (ms.map .int))]) (ds := ms.map .int) (ExZ.appendCall (by rfl) (by rfl) (fn_varintZ G) (by rfl) ?_ (by rfl) (EnvK.hi _)) (by rfl) (by rfl) subStop metStop subStop2 (bnStop G)
    repeat (first | exact SubV.nil | refine SubV.cons ?_ (by rfl))
  | @cons b v r r' ns h1 h2 ih =>
    intro k c ms hk hl
    rw [List.length_cons] at hk hl
    obtain ⟨k, rfl⟩ : ∃ j, k = j + 1 := ⟨k - 1, by omega⟩
    rw [rangeD_succ]
    have ih' := ih k (c + 1) (ms ++ [v]) (by omega) (by simp; omega)
    rw [List.append_assoc, List.singleton_append] at ih'
    refine .more (AsR.loc (by rfl)) (ExSs.outNext (ExSs.cons (ExS.tryOk (ExSs.cons (ExS.expr (EvX.append (by rfl) (EvX.callI (by rfl) (fn_varint G h1) (by rfl)) (by rfl) (sizeNat (by simp; omega))) (EnvK.hi _)) ExSs.nil)) ExSs.nil) ?_) ih'
    unfold vsR
    rw [List.map_append]
    repeat (first | exact SubV.nil | refine SubV.cons ?_ (by rfl))
end
end
section
section
variable {W : Wd} {n : Nat}
theorem EvI.cast {sc : Scope} {V : Vars} {e tgt : Expr} {ds ds' : List D} (h : EvI W n sc V e tgt ds) (e1 : ds = ds') : EvI W n sc V e tgt ds' := e1 ▸ h
theorem fn_ring_read (G : Glo W) (ring ns : List Int) (k0 : Nat) (ks : List Nat) (he : endsOf ring = k0 :: ks) (hl : ring.length ≤ 400) (h : RdVs (ring.drop (k0 + 1) ++ ring.take (k0 + 1)) ns) : Fn W (n + 2) "_law_ring_read" [dInts ring] (dInts ns) := by
  have hlen : (ring.map D.int).length = ring.length := List.length_map ..
  have hmem : ∀ k ∈ endsOf ring, k < ring.length := fun k hk => List.mem_range.mp (List.mem_filter.mp hk).1
  have hk0 : k0 < ring.length := hmem k0 (by rw [he]; exact .head _)
  have hel : (endsOf ring).length ≤ ring.length := by unfold endsOf; exact Nat.le_trans (List.length_filter_le _ _) (by simp)
  refine Fn.mk' G 77 _ ["ring"] (out := .ret (dInts ns)) (by decide) (by rfl) rfl ?_ (by decide) rfl (fnArg1 (.inr (by rfl))) (by rfl) (by rfl) (by rfl) ?_ rfl
  · intro pm cd doc vs h
    obtain ⟨a, rfl⟩ := len1 h
    rfl
  · have lenE : ∀ {sc : Scope} {V : Vars} {np rp pos : Pos}, sc.names.lookup ("len" : Str) = some .globalImplicit → V.lookup ("ring" : Str) = some (.val (dInts ring)) → EvE W (n + 1) sc V (.Call (.Name "len" np) [.Name "ring" rp] [] pos) (.int ring.length) := fun {sc V np rp pos} h1 h2 => by
      have := EvE.bcall (W := W) (n := n + 1) (fp := np) (pos := pos) (bnLen G h1) (CallR.len (xs := ring.map D.int) (by rw [hlen]; omega)) (EvL.cons (e := .Name "ring" rp) (EvE.name h2) EvL.nil)
      rwa [hlen] at this
    refine ExSs.cons (ExS.letComp (V₀ := [("ring", .val (dInts ring))]) (out := (endsOf ring).map fun k => D.int (k : Nat)) (ds := rangeD 0 ring.length 1) ?_ ?_ ?_ ?_ ?_ ?_) ?_
    · refine CompSc.of (by rfl) (by decide) ?_
      intro q hq
      rw [List.mem_singleton] at hq
      subst hq
      exact ⟨⟨_, rfl, by rfl⟩, by rfl⟩
    · exact EvI.cast (EvI.range1 (bnRange G) (lenE (by rfl) (by rfl)) (by omega) (by omega)) (by rw [show ((ring.length : Int)).toNat = ring.length by simp])
    · rw [rangeD_nat]
      refine CompR.gen (by rfl) (by rfl) (fun (k : Nat) => D.int (k : Int)) (fun k => Builtin.bitAnd (ring.getD k 0) 64 == 0) _ (List.range ring.length) (fun k hk => ?_) (fun k hk _ => EvE.name (by rfl))
      have hk := List.mem_range.mp hk
      refine TestsR.one (EvB.cmp (EvE.call (by rfl) (fn_and G (ring.getD k 0) 64) (EvL.cons (EvE.item (a := dInts ring) (EvE.name (by rfl)) (EvE.name (by rfl)) (SubR.list (.inl ⟨by omega, rfl⟩) ?_ (by rw [hlen]; omega))) (EvL.cons EvE.int EvL.nil))) EvE.int CmpR.eqI)
      simp [hk]
    · rw [List.length_map]; exact sizeNat (by have := hel; omega)
    · rfl
    · rfl
    refine ExSs.letIter (ds := (ring.drop (k0 + 1) ++ ring.take (k0 + 1)).map D.int) (bnIter G) ?_ (by rfl) fun I => ?_
    · rw [List.map_append, List.map_drop, List.map_take]
      refine EvE.bin (EvE.sliceFrom (a := k0 + 1) (EvE.name (by rfl)) (EvE.bin (EvE.item (EvE.name (by rfl)) EvE.int (SubR.list (j := 0) (d := .int (k0 : Nat)) (.inl ⟨by omega, rfl⟩) (by rw [he]; rfl) (by rw [List.length_map]; omega))) EvE.int BinR.add) (by rw [hlen]; omega))
        (EvE.sliceTo (a := k0 + 1) (EvE.name (by rfl)) (EvE.bin (EvE.item (EvE.name (by rfl)) EvE.int (SubR.list (j := 0) (d := .int (k0 : Nat)) (.inl ⟨by omega, rfl⟩) (by rw [he]; rfl) (by rw [List.length_map]; omega))) EvE.int BinR.add) (by rw [hlen]; omega)) (BinR.addL (sizeNat (by simp; omega)))
    · refine ExSs.cons (ExS.own (EvN.list EvL.nil) (by rfl)) ?_
      refine ExSs.ret (ExS.for (EvI.range1 (N := (ring.length : Int) + 1) (bnRange G) (EvE.bin (lenE (by rfl) (by rfl)) EvE.int BinR.add) (by omega) (by omega)) ?_)
      have hn := h.len
      have hz : ns.length ≤ ring.length := by
        have : (ring.drop (k0 + 1) ++ ring.take (k0 + 1)).length = ring.length := by simp; omega
        omega
      have := ringread_loop (n := n) G ring I h (ring.length + 1) 0 [] (by omega) (by simp; omega)
      rw [show ((ring.length : Int) + 1).toNat = ring.length + 1 by omega]
      refine .sub ?_ this
      show SubV _ _
      repeat (first | exact SubV.nil | refine SubV.cons ?_ (by rfl))
end
end
section
section
variable {W : Wd} {n : Nat} {sc : Scope} {V : Vars}
theorem exn_bin {op : Operator} {a : Int} {x y : Str} {p1 p2 p3 p4 : Pos} (hx : V.lookup x = some (.val (.int a))) (hy : V.lookup y = some (.val (.int 0))) (hd1 : (x == ("__debug__" : Str)) = false) (hd2 : (y == ("__debug__" : Str)) = false)
    (hop : ∀ (A : Around) (s : Shared) (t u : Tok) (Q E : Value → Shared → Prop), A.handled = none → (∀ h' tk e, Heap.NewExc s.heap h' e "ZeroDivisionError" → E (.ref e) { s with heap := h', toks := tk }) → wpAny (model W.prog W.w) A (binaryOp op (.int a t) (.int 0 u)) Q E s) :
    ExN W n sc V [.Return (some (.BinOp (.Name x p1) op (.Name y p2) p3)) p4] "ZeroDivisionError" := fun A s₀ g₀ R env g s Q E he X hq =>
  wpAny_execs_cons (wpAny_Return_some (wpAny_BinOp (EvE.name hx hd1 A s₀ g₀ R env g s _ E he.toEnvOk X fun va s1 g1 G1 r1 => EvE.name hy hd2 A s₀ g₀ R env g1 s1 _ E he.toEnvOk (X.gr G1) fun vb s2 g2 G2 r2 => by
    obtain ⟨t, rfl⟩ := r1.of_int
    obtain ⟨u, rfl⟩ := r2.of_int
    exact hop A s2 t u _ E X.aok.hd fun h' tk e hx => hq s2 g2 V h' tk e ((X.gr G1).gr G2) hx)))
theorem fn2Z (G : Glo W) (i : Nat) (f : Str) (hi : i ∈ fnIdx) (hf : fnName (stAt i) = f) {a b : D} {X : String} (hbind : ∀ pm cd doc (u v : Value), bindArgs (docDef (fnName (stAt i)) (fnArgs (stAt i)) (fnBody (stAt i)) (fnScope (stAt i)) pm cd doc) ⟨[u, v], []⟩ = pure [(("a" : Str), u), (("b" : Str), v)])
    (h1 : (fnScope (stAt i)).names.lookup ("a" : Str) = some .local) (h2 : (fnScope (stAt i)).names.lookup ("b" : Str) = some .local) (hk : (fnScope (stAt i)).kind = .function) (hco : (fnScope (stAt i)).isCoroutine = false) (hgen : (fnScope (stAt i)).isGenerator = false)
    (hb : ExN W n (fnScope (stAt i)) [("a", .val a), ("b", .val b)] (fnBody (stAt i)) X) : FnZ W (n + 1) f [a, b] X := by
  subst hf
  obtain ⟨c, o, pm, cd, doc, g1, g2, g3, g4⟩ := G.fn i hi
  refine ⟨c, o, _, g1, g2, g3, call_bodyZ (names := ["a", "b"]) g2 g3 g4 ?_ (by decide) rfl ?_ hk hco hgen hb⟩
  · intro vs h
    obtain ⟨a, b, rfl⟩ := len2 h
    exact hbind ..
  · intro x hx
    left
    simp only [List.mem_cons, List.not_mem_nil, or_false] at hx
    rcases hx with rfl | rfl <;> assumption
theorem fn_floordivZ (G : Glo W) (a : Int) : FnZ W (n + 1) "floordiv" [.int a, .int 0] "ZeroDivisionError" := fn2Z G 6 _ (by decide) (by rfl) (fun _ _ _ _ _ => by rfl) (by rfl) (by rfl) (by rfl) (by rfl) (by rfl)
  (exn_bin (by rfl) (by rfl) (by decide) (by decide) fun A s t u Q E hA h => floordiv_int_or hA (fun _ => h) (fun h => absurd rfl h) (fun h => absurd rfl h))
theorem fn_modZ (G : Glo W) (a : Int) : FnZ W (n + 1) "mod" [.int a, .int 0] "ZeroDivisionError" := fn2Z G 7 _ (by decide) (by rfl) (fun _ _ _ _ _ => by rfl) (by rfl) (by rfl) (by rfl) (by rfl) (by rfl)
  (exn_bin (by rfl) (by rfl) (by decide) (by decide) fun A s t u Q E hA h => mod_int_or hA (fun _ => h) (fun h => absurd rfl h))
end
noncomputable def deedNm : Nat → Str
  | 0 => "add"
  | 1 => "sub"
  | 2 => "mul"
  | 3 => "or_"
  | 4 => "and_"
  | 5 => "xor"
  | 6 => "mod"
  | _ => "floordiv"
noncomputable def deedsT : List (Int × Str) := [(14, "add"), (15, "sub"), (16, "mul"), (18, "or_"), (19, "and_"), (24, "mod"), (32, "xor"), (47, "floordiv")]
noncomputable def deedsL : List (Int × D) := deedsT.map fun p => (p.1, D.gl p.2)
theorem deeds_all : (List.range 8).all (fun s => decide (deedsT.lookup (kind s) = some (deedNm s))) = true := by decide +kernel
theorem deeds_at {s : Nat} (h : s < 8) : deedsL.lookup (kind s) = some (.gl (deedNm s)) := by
  unfold deedsL
  rw [lookup_map, of_decide_eq_true (List.all_eq_true.mp deeds_all s (List.mem_range.mpr h))]; rfl
theorem deeds_nd : (deedsL.map (·.1)).Nodup := by
  unfold deedsL
  rw [List.map_map]
  exact (by decide : (deedsT.map (·.1)).Nodup)
section
variable {W : Wd} {n : Nat}
theorem fn_deedNm (G : Glo W) {s : Nat} (hs : s < 8) {a b : Int} (ok : DeedOk a b) (hz : ¬ (6 ≤ s ∧ b = 0)) : Fn W (n + 1) (deedNm s) [.int a, .int b] (.int (deed s a b)) := by
  have h8 : s = 0 ∨ s = 1 ∨ s = 2 ∨ s = 3 ∨ s = 4 ∨ s = 5 ∨ s = 6 ∨ s = 7 := by omega
  rcases h8 with rfl | rfl | rfl | rfl | rfl | rfl | rfl | rfl
  · exact fn_add G a b
  · exact fn_sub G a b
  · exact fn_mul G a b ok.mul
  · exact fn_or G a b
  · exact fn_and G a b
  · exact fn_xor G a b
  · have hb : b ≠ 0 := fun h => hz ⟨by omega, h⟩
    rw [show deed 6 a b = a.fmod b from if_neg hb]
    exact fn_mod G a b hb
  · have hb : b ≠ 0 := fun h => hz ⟨by omega, h⟩
    rw [show deed 7 a b = a.fdiv b from if_neg hb]
    exact fn_floordiv G a b hb ok.div
theorem fn_deedNmZ (G : Glo W) {s : Nat} (hs : s < 8) {a : Int} (hz : 6 ≤ s) : FnZ W (n + 1) (deedNm s) [.int a, .int 0] "ZeroDivisionError" := by
  have h8 : s = 6 ∨ s = 7 := by omega
  rcases h8 with rfl | rfl
  · exact fn_modZ G a
  · exact fn_floordivZ G a
theorem deed_zero {s : Nat} (h : 6 ≤ s) (a : Int) : deed s a 0 = a := by
  match s, h with
  | 6, _ => rfl
  | s + 7, _ => rfl
end
end
section
theorem not_rng {P x : Int} (h1 : -P ≤ x) (h2 : x < P) : -P ≤ Builtin.bitNot x ∧ Builtin.bitNot x < P := by unfold Builtin.bitNot; omega
theorem and_rng {m : Nat} {x y : Int} (hx1 : -(2 : Int) ^ m ≤ x) (hx2 : x < (2 : Int) ^ m) (hy1 : -(2 : Int) ^ m ≤ y) (hy2 : y < (2 : Int) ^ m) : -(2 : Int) ^ m ≤ Builtin.bitAnd x y ∧ Builtin.bitAnd x y < (2 : Int) ^ m := by
  have hp : ((2 ^ m : Nat) : Int) = (2 : Int) ^ m := by push_cast; rfl
  by_cases hx : 0 ≤ x <;> by_cases hy : 0 ≤ y
  · rw [bitAnd_pp hx hy]
    have : x.toNat &&& y.toNat ≤ x.toNat := Nat.and_le_left
    omega
  · rw [bitAnd_pn hx hy]
    have : x.toNat &&& (Builtin.bitNot y).toNat ≤ x.toNat := Nat.and_le_left
    omega
  · rw [bitAnd_np hx hy]
    have : y.toNat &&& (Builtin.bitNot x).toNat ≤ y.toNat := Nat.and_le_left
    omega
  · rw [bitAnd_nn hx hy]
    have h1 : (Builtin.bitNot x).toNat < 2 ^ m := by unfold Builtin.bitNot; omega
    have h2 : (Builtin.bitNot y).toNat < 2 ^ m := by unfold Builtin.bitNot; omega
    have h3 := Nat.or_lt_two_pow h1 h2
    unfold Builtin.bitNot
    unfold Builtin.bitNot at h3
    omega
theorem or_rng {m : Nat} {x y : Int} (hx1 : -(2 : Int) ^ m ≤ x) (hx2 : x < (2 : Int) ^ m) (hy1 : -(2 : Int) ^ m ≤ y) (hy2 : y < (2 : Int) ^ m) : -(2 : Int) ^ m ≤ Builtin.bitOr x y ∧ Builtin.bitOr x y < (2 : Int) ^ m := by
  obtain ⟨a1, a2⟩ := not_rng hx1 hx2
  obtain ⟨b1, b2⟩ := not_rng hy1 hy2
  obtain ⟨c1, c2⟩ := and_rng a1 a2 b1 b2
  unfold Builtin.bitOr
  exact not_rng c1 c2
theorem fdiv_abs (a b : Int) : (a.fdiv b).natAbs ≤ a.natAbs := by
  by_cases hb : 0 ≤ b
  · rw [Int.fdiv_eq_ediv_of_nonneg a hb]; exact Int.natAbs_ediv_le_natAbs a b
  · have : a.fdiv b = (-a).fdiv (-b) := (Int.neg_fdiv_neg a b).symm
    rw [this, Int.fdiv_eq_ediv_of_nonneg (-a) (by omega)]
    have := Int.natAbs_ediv_le_natAbs (-a) (-b)
    omega
theorem fmod_abs (a : Int) {b : Int} (hb : b ≠ 0) : (a.fmod b).natAbs < b.natAbs := by
  by_cases h : 0 < b
  · have h1 := Int.fmod_nonneg_of_pos a h
    have h2 := Int.fmod_lt_of_pos a h
    omega
  · have e : (-a).fmod (-b) = -(a.fmod b) := Int.neg_fmod_neg a b
    have h1 := Int.fmod_nonneg_of_pos (-a) (show 0 < -b by omega)
    have h2 := Int.fmod_lt_of_pos (-a) (show 0 < -b by omega)
    omega
theorem abs_rng {m : Nat} {x : Int} : x.natAbs < 2 ^ m ↔ -(2 : Int) ^ m < x ∧ x < (2 : Int) ^ m := by
  have hp : ((2 ^ m : Nat) : Int) = (2 : Int) ^ m := by push_cast; rfl
  omega
theorem deed_bnd (s : Nat) {j k : Nat} {a b : Int} (ha : a.natAbs < 2 ^ j) (hb : b.natAbs < 2 ^ k) (hj : 1 ≤ j) (hk : 1 ≤ k) : (deed s a b).natAbs < 2 ^ (j + k) := by
  have eJK : 2 ^ (j + k) = 2 ^ j * 2 ^ k := Nat.pow_add ..
  have hJ : 2 ≤ 2 ^ j := Nat.le_trans (by decide) (Nat.pow_le_pow_right (by decide) hj)
  have hK : 2 ≤ 2 ^ k := Nat.le_trans (by decide) (Nat.pow_le_pow_right (by decide) hk)
  have t1 : 2 * 2 ^ k ≤ 2 ^ j * 2 ^ k := Nat.mul_le_mul_right _ hJ
  have t2 : 2 ^ j * 2 ≤ 2 ^ j * 2 ^ k := Nat.mul_le_mul_left _ hK
  have hm : ∃ m, a.natAbs < 2 ^ m ∧ b.natAbs < 2 ^ m ∧ 2 * 2 ^ m ≤ 2 ^ (j + k) := by
    rw [eJK]
    rcases Nat.le_total j k with h | h
    · exact ⟨k, Nat.lt_of_lt_of_le ha (Nat.pow_le_pow_right (by decide) h), hb, t1⟩
    · exact ⟨j, ha, Nat.lt_of_lt_of_le hb (Nat.pow_le_pow_right (by decide) h), by omega⟩
  obtain ⟨m, hm1, hm2, hm3⟩ := hm
  obtain ⟨a1, a2⟩ := abs_rng.mp hm1
  obtain ⟨b1, b2⟩ := abs_rng.mp hm2
  have hp : ((2 ^ m : Nat) : Int) = (2 : Int) ^ m := by push_cast; rfl
  obtain ⟨o1, o2⟩ := or_rng (Int.le_of_lt a1) a2 (Int.le_of_lt b1) b2
  obtain ⟨n1, n2⟩ := and_rng (Int.le_of_lt a1) a2 (Int.le_of_lt b1) b2
  have hpos : 1 ≤ 2 ^ m := Nat.one_le_two_pow
  unfold deed
  split
  · omega
  · omega
  · rw [Int.natAbs_mul, eJK]
    exact Nat.mul_lt_mul'' ha hb
  · omega
  · omega
  · unfold Builtin.bitXor; omega
  · split
    · omega
    · have := fmod_abs a (by assumption); omega
  · split
    · omega
    · have := fdiv_abs a b; omega
theorem fold_bnd (s : Nat) {k : Nat} (hk : 1 ≤ k) : ∀ (os : List Int) {j : Nat} {v : Int}, v.natAbs < 2 ^ j → 1 ≤ j → (∀ o ∈ os, o.natAbs < 2 ^ k) → (os.foldl (deed s) v).natAbs < 2 ^ (j + os.length * k)
  | [], j, v, hv, _, _ => by simpa using hv
  | o :: r, j, v, hv, hj, ho => by
    have h1 := deed_bnd s hv (ho o (.head _)) hj hk
    have h2 := fold_bnd s hk r h1 (by omega) (fun o' h => ho o' (.tail _ h))
    rw [List.foldl_cons, List.length_cons, Nat.add_mul, Nat.one_mul]
    rwa [show j + (r.length * k + k) = j + k + r.length * k by omega]
theorem log_bnd {x : Int} (h : x.natAbs < 2 ^ 9000) : x.natAbs.log2 < 9000 := by
  by_cases h0 : x.natAbs = 0
  · rw [h0]; decide
  · exact (Nat.log2_lt h0).mpr h
theorem DeedOk.of {a b : Int} {j k : Nat} (ha : a.natAbs < 2 ^ j) (hb : b.natAbs < 2 ^ k) (hj : j ≤ 9000) (hk : k ≤ 9000) : DeedOk a b := by
  have la := log_bnd (Nat.lt_of_lt_of_le ha (Nat.pow_le_pow_right (by decide) hj))
  have lb := log_bnd (Nat.lt_of_lt_of_le hb (Nat.pow_le_pow_right (by decide) hk))
  have bits : ∀ x : Int, x.natAbs.log2 < 9000 → Builtin.Int.intBits x ≤ 2 ^ 20 := fun x h => by
    unfold Builtin.Int.intBits
    split <;> omega
  exact ⟨IntMulOk.of_bits (bits a la) (bits b lb), PyProof.noPylong_of_log2 lb⟩
structure It where
  s : Nat
  v : Int
  c : Nat
structure It.Ok (t : It) : Prop where
  s : t.s < 8
  v0 : 0 ≤ t.v
  v1 : t.v < 1000
  c : t.c < 8
noncomputable def valI : List It → Option (List Int)
  | [] => some []
  | t :: r => match valI r with
    | none => none
    | some stk => if t.c > stk.length then none else some ((stk.take t.c).foldl (deed t.s) t.v :: stk.drop t.c)
noncomputable def rowI (its : List It) : List Int := its.flatMap fun t => [kind t.s, 256 + 8 * t.v + t.c]
noncomputable def Bt : Nat → Nat
  | 0 => 1
  | t + 1 => 11 + t * Bt t
theorem Bt_pos : ∀ t, 1 ≤ Bt t
  | 0 => Nat.le_refl _
  | t + 1 => by unfold Bt; omega
theorem Bt_mono (t : Nat) (h : t < 6) : Bt t ≤ Bt (t + 1) ∧ Bt (t + 1) ≤ 3586 := by
  have : t = 0 ∨ t = 1 ∨ t = 2 ∨ t = 3 ∨ t = 4 ∨ t = 5 := by omega
  rcases this with rfl | rfl | rfl | rfl | rfl | rfl <;> decide
theorem v_bnd {t : It} (ok : t.Ok) : t.v.natAbs < 2 ^ 11 := by
  have h1 := ok.v0
  have h2 := ok.v1
  have : (2 : Nat) ^ 11 = 2048 := by decide
  omega
theorem valI_bnd : ∀ (its : List It) (stk : List Int), its.length ≤ 6 → (∀ t ∈ its, t.Ok) → valI its = some stk → stk.length ≤ its.length ∧ ∀ x ∈ stk, x.natAbs < 2 ^ Bt its.length
  | [], stk, _, _, h => by cases h; exact ⟨Nat.le_refl _, fun x hx => by cases hx⟩
  | t :: r, stk, hl, ok, h => by
    unfold valI at h
    cases hr : valI r with
    | none => rw [hr] at h; cases h
    | some st =>
      rw [hr] at h
      dsimp only at h
      rw [List.length_cons] at hl
      obtain ⟨h1, h2⟩ := valI_bnd r st (by omega) (fun t h => ok t (.tail _ h)) hr
      by_cases hc : t.c > st.length
      · rw [if_pos hc] at h; cases h
      · rw [if_neg hc] at h
        cases h
        have hmono := Bt_mono r.length (by omega)
        have hpow : 2 ^ Bt r.length ≤ 2 ^ Bt (r.length + 1) := Nat.pow_le_pow_right (by decide) hmono.1
        refine ⟨by simp; omega, fun x hx => ?_⟩
        rcases List.mem_cons.mp hx with rfl | hx
        · have hf := fold_bnd t.s (Bt_pos r.length) (st.take t.c) (v_bnd (ok t (.head _))) (by omega) (fun o ho => h2 o (List.mem_of_mem_take ho))
          refine Nat.lt_of_lt_of_le hf (Nat.pow_le_pow_right (by decide) ?_)
          show 11 + _ ≤ 11 + r.length * Bt r.length
          refine Nat.add_le_add_left (Nat.mul_le_mul_right _ ?_) _
          rw [List.length_take]; omega
        · exact Nat.lt_of_lt_of_le (h2 x (List.mem_of_mem_drop hx)) hpow
end
section
noncomputable def dBools (p q : Bool) : D := .list [.bool p, .bool q]
theorem py_bools (p q : Bool) : Py (dBools p q) (.list [.bool p, .bool q]) := .list _ _ rfl fun i x y h1 h2 => by
  match i, h1, h2 with
  | 0, h1, h2 => cases h1; cases h2; exact .bool p
  | 1, h1, h2 => cases h1; cases h2; exact .bool q
theorem shaped_bools (p q : Bool) : SeqAt.shaped (.list [.bool p, .bool q]) = true := by cases p <;> cases q <;> decide
theorem eqv_bools (p q p' q' : Bool) : PyData.eqv (.list [.bool p, .bool q]) (.list [.bool p', .bool q']) = (p == p' && q == q') := by cases p <;> cases q <;> cases p' <;> cases q' <;> decide
section
variable {W : Wd} {n : Nat}
theorem CmpR.eqBools (p q p' q' : Bool) : CmpR W n .Eq (dBools p q) (dBools p' q') (p == p' && q == q') := by
  have := CmpR.eqD (W := W) (n := n) (py_bools p q) (py_bools p' q') (shaped_bools p q) (shaped_bools p' q')
  rwa [eqv_bools] at this
theorem CmpR.neBools (p q p' q' : Bool) : CmpR W n .NotEq (dBools p q) (dBools p' q') (!(p == p' && q == q')) := by
  have := CmpR.neD (W := W) (n := n) (py_bools p q) (py_bools p' q') (shaped_bools p q) (shaped_bools p' q')
  rwa [eqv_bools] at this
end
theorem kind_lt {s : Nat} (h : s < 8) : kind s < 256 := by
  have : (List.range 8).all (fun s => decide (kind s < 256)) = true := by decide +kernel
  exact of_decide_eq_true (List.all_eq_true.mp this s (List.mem_range.mpr h))
theorem rowI_cons (t : It) (r : List It) : rowI (t :: r) = kind t.s :: (256 + 8 * t.v + t.c) :: rowI r := rfl
theorem rowI_len : ∀ its : List It, (rowI its).length = 2 * its.length
  | [] => rfl
  | t :: r => by rw [rowI_cons, List.length_cons, List.length_cons, rowI_len r, List.length_cons]; omega
theorem rowI_at : ∀ {its : List It} {j : Nat} {t : It}, its[j]? = some t → (rowI its)[2 * j]? = some (kind t.s) ∧ (rowI its)[2 * j + 1]? = some (256 + 8 * t.v + t.c)
  | t' :: r, 0, t, h => by cases h; exact ⟨rfl, rfl⟩
  | t' :: r, j + 1, t, h => by
    have := rowI_at (its := r) (j := j) (t := t) (by simpa using h)
    rw [rowI_cons]
    exact ⟨by rw [show 2 * (j + 1) = 2 * j + 1 + 1 by omega]; exact this.1, by rw [show 2 * (j + 1) + 1 = 2 * j + 1 + 1 + 1 by omega]; exact this.2⟩
/-- what _law_values answers on the row of these items -/
noncomputable def valsOf (its : List It) : List Int := (valI its).getD []
noncomputable def vsD (row : List Int) (stk : List Int) : Vars := [("row", .val (dInts row)), ("deeds", .val (.mapI deedsL)), ("done", .own (stk.reverse.map .int))]
noncomputable def vsE (row : List Int) (k v : Int) (stk : List Int) : Vars := [("row", .val (dInts row)), ("deeds", .val (.mapI deedsL)), ("done", .own (stk.reverse.map .int)), ("k", .val (.int k)), ("value", .val (.int v))]
section
variable {W : Wd} {n : Nat}
theorem values_inner (G : Glo W) (row : List Int) (k : Nat) (s : Nat) (hs : s < 8) (hk : row[k]? = some (kind s)) (hz : row.length ≤ 100) {B : Nat} (hB : 1 ≤ B) : ∀ (os : List Int) (base : List Int) (v : Int) (j : Nat) (c : Int), v.natAbs < 2 ^ j → 1 ≤ j → (∀ o ∈ os, o.natAbs < 2 ^ B) → j + os.length * B ≤ 9000 → os.length + base.length ≤ 100 → B ≤ 9000 →
    ForR W (n + 1) (fnScope (stAt 78)) (forT (nth (forB (nth (fnBody (stAt 78)) 2)) 5)) (forB (nth (forB (nth (fnBody (stAt 78)) 2)) 5)) (vsE row k v (os ++ base)) (rangeD c os.length 1) (.next (vsE row k (os.foldl (deed s) v) base)) := by
  intro os
  induction os with
  | nil => intro base v j c _ _ _ _ _ _; exact .nil
  | cons o r ih =>
    intro base v j c hv hj ho hb hl hB2
    rw [List.length_cons] at hb hl ⊢
    rw [Nat.add_mul, Nat.one_mul] at hb
    have hrb : r.length * B ≤ 9000 := by omega
    rw [rangeD_succ]
    have ho1 := ho o (.head _)
    have ih' := ih base (deed s v o) (j + B) (c + 1) (deed_bnd s hv ho1 hj hB) (by omega) (fun o' h => ho o' (.tail _ h)) (by omega) (by omega) hB2
    have okd : DeedOk v o := DeedOk.of hv ho1 (by omega) hB2
    have e1 : ((o :: r) ++ base).reverse.map D.int = (r ++ base).reverse.map D.int ++ [.int o] := by simp
    have hitem : ∀ {V : Vars} {p1 p2 p3 p4 : Pos} {p5 : Pos}, V.lookup ("row" : Str) = some (.val (dInts row)) → V.lookup ("deeds" : Str) = some (.val (.mapI deedsL)) → V.lookup ("k" : Str) = some (.val (.int k)) → EvE W (n + 1) (fnScope (stAt 78)) V (.Subscript (.Name "deeds" p1) (.Subscript (.Name "row" p2) (.Name "k" p3) p4) p5) (.gl (deedNm s)) := by
      intro V p1 p2 p3 p4 p5 h1 h2 h3
      refine EvE.item (EvE.name h2) (EvE.item (b := .int (k : Nat)) (EvE.name h1) (EvE.name h3) (SubR.list (.inl ⟨by omega, rfl⟩) (d := .int (kind s)) (by simp [hk]) (by rw [List.length_map]; omega))) (SubR.mapI (deeds_at hs))
    have e2 : vsE row k v ((o :: r) ++ base) = ([("row", .val (dInts row)), ("deeds", .val (.mapI deedsL)), ("done", .own ((r ++ base).reverse.map .int ++ [.int o])), ("k", .val (.int k)), ("value", .val (.int v))] : Vars) := by unfold vsE; rw [e1]
    by_cases hc : 6 ≤ s ∧ o = 0
    · obtain ⟨h6, rfl⟩ := hc
      rw [deed_zero h6] at ih'
      rw [List.foldl_cons, deed_zero h6]
      refine .cont (V₂ := vsE row k v (r ++ base)) (AsR.loc (by rfl)) (ExSs.outCont (ExSs.cons (ExS.assign (EvX.pop (xs := (r ++ base).reverse.map .int) (d := .int 0) (by rw [e2]; rfl) (by simp; omega)) (AsR.loc (by rfl))) (ExSs.stop (ExS.tryCont (ExZ.assign (EvZ.callX (hitem (by rfl) (by rfl) (by rfl)) (fn_deedNmZ G hs h6) (EvL.cons (EvE.name (by rfl)) (EvL.cons (EvE.name (by rfl)) EvL.nil)))) subZero metZero subZero2 (bnZero G)) (fun _ h => by cases h))) ?_) ih'
      show SubV _ _
      unfold vsE
      repeat (first | exact SubV.nil | refine SubV.cons ?_ (by rfl))
    · refine .more (V₂ := vsE row k (deed s v o) (r ++ base)) (AsR.loc (by rfl)) (ExSs.outNext (ExSs.cons (ExS.assign (EvX.pop (xs := (r ++ base).reverse.map .int) (d := .int o) (by rw [e2]; rfl) (by simp; omega)) (AsR.loc (by rfl))) (ExSs.cons (ExS.tryOk (ExSs.cons (ExS.let (EvE.callX (hitem (by rfl) (by rfl) (by rfl)) (fn_deedNm G hs okd hc) (EvL.cons (EvE.name (by rfl)) (EvL.cons (EvE.name (by rfl)) EvL.nil))) (by rfl)) ExSs.nil)) ExSs.nil)) ?_) ih'
      show SubV _ _
      unfold vsE
      repeat (first | exact SubV.nil | refine SubV.cons ?_ (by rfl))
end
end
section
theorem valI_none {t : It} {r : List It} (h : valI r = none) : valI (t :: r) = none := by unfold valI; rw [h]
theorem valI_drop_none {its : List It} : ∀ j, valI (its.drop j) = none → valI its = none
  | 0, h => h
  | j + 1, h => by
    by_cases hj : j < its.length
    · refine valI_drop_none j ?_
      rw [List.drop_eq_getElem_cons hj]
      exact valI_none h
    · rw [List.drop_eq_nil_of_le (by omega)] at h; cases h
noncomputable def outI (row : List Int) (its : List It) : Out := match valI its with
  | some stk => .next (vsD row stk)
  | none => .ret (dInts [])
theorem fdiv8 {v c : Int} (h0 : 0 ≤ c) (h1 : c < 8) : (256 + 8 * v + c - 256).fdiv 8 = v ∧ (256 + 8 * v + c - 256).fmod 8 = c := by
  rw [Int.fdiv_eq_ediv_of_nonneg _ (by decide), Int.fmod_eq_emod_of_nonneg _ (by decide)]
  omega
section
variable {W : Wd} {n : Nat}
theorem values_outer (G : Glo W) (its : List It) (hl : its.length ≤ 6) (ok : ∀ t ∈ its, t.Ok) : ∀ (j : Nat) (stk : List Int), j ≤ its.length → valI (its.drop j) = some stk →
    ForR W (n + 1) (fnScope (stAt 78)) (forT (nth (fnBody (stAt 78)) 2)) (forB (nth (fnBody (stAt 78)) 2)) (vsD (rowI its) stk) (rangeD (2 * (j : Int) - 2) j (-2)) (outI (rowI its) its) := by
  have hrl := rowI_len its
  intro j
  induction j with
  | zero =>
    intro stk _ h
    rw [List.drop_zero] at h
    unfold outI
    rw [h]
    exact .nil
  | succ j ih =>
    intro stk hj h
    obtain ⟨t, ht⟩ : ∃ t, its[j]? = some t := ⟨_, List.getElem?_eq_getElem (by omega)⟩
    have hd : its.drop j = t :: its.drop (j + 1) := by
      rw [List.drop_eq_getElem_cons (by omega)]
      rw [List.getElem?_eq_getElem (by omega)] at ht
      rw [Option.some.inj ht]
    have okt := ok t (List.mem_of_getElem? ht)
    obtain ⟨r1, r2⟩ := rowI_at ht
    have hb := valI_bnd (its.drop (j + 1)) stk (by rw [List.length_drop]; omega) (fun t h => ok t (List.mem_of_mem_drop h)) h
    have hsl : stk.length ≤ 6 := by have := hb.1; rw [List.length_drop] at this; omega
    have c0 : (0 : Int) ≤ (t.c : Int) := by omega
    have c8 : (t.c : Int) < 8 := by have := okt.c; omega
    rw [show (2 * ((j + 1 : Nat) : Int) - 2) = ((2 * j : Nat) : Int) by omega, rangeD_succ, show ((2 * j : Nat) : Int) + -2 = 2 * (j : Int) - 2 by omega]
    have hrow : ∀ {V : Vars} {p1 p2 p3 : Pos}, V.lookup ("row" : Str) = some (.val (dInts (rowI its))) → V.lookup ("k" : Str) = some (.val (.int (2 * j : Nat))) → EvE W (n + 1) (fnScope (stAt 78)) V (.Subscript (.Name "row" p1) (.Name "k" p2) p3) (.int (kind t.s)) := by
      intro V p1 p2 p3 h1 h2
      exact EvE.item (EvE.name h1) (EvE.name h2) (SubR.list (j := 2 * j) (.inl ⟨by omega, by omega⟩) (by rw [List.getElem?_map, r1]; rfl) (by rw [List.length_map]; omega))
    have hrow1 : ∀ {V : Vars} {p1 p2 p3 p4 p5 : Pos} {kk : Nat}, V.lookup ("row" : Str) = some (.val (dInts (rowI its))) → V.lookup ("k" : Str) = some (.val (.int (2 * j : Nat))) → EvE W (n + 1) (fnScope (stAt 78)) V (.Subscript (.Name "row" p1) (.BinOp (.Name "k" p2) .Add (.Constant (.int 1) kk p3) p4) p5) (.int (256 + 8 * t.v + t.c)) := by
      intro V p1 p2 p3 p4 p5 kk h1 h2
      exact EvE.item (EvE.name h1) (EvE.bin (EvE.name h2) EvE.int BinR.add) (SubR.list (j := 2 * j + 1) (.inl ⟨by omega, by omega⟩) (by rw [List.getElem?_map, r2]; rfl) (by rw [List.length_map]; omega))
    have hk := kind_lt okt.s
    have v0 := okt.v0
    have rest : ∀ (out : Out), ExSs W (n + 1) (fnScope (stAt 78)) [("row", .val (dInts (rowI its))), ("deeds", .val (.mapI deedsL)), ("done", .own (stk.reverse.map .int)), ("k", .val (.int (2 * j : Nat))), ("value", .val (.int t.v)), ("count", .val (.int (t.c : Nat)))] ((forB (nth (fnBody (stAt 78)) 2)).drop 4) out →
        ExSs W (n + 1) (fnScope (stAt 78)) (setV (vsD (rowI its) stk) "k" (.val (.int (2 * j : Nat)))) (forB (nth (fnBody (stAt 78)) 2)) out := by
      intro out ho
      refine ExSs.cons (ExS.let (d := dBools (decide (kind t.s < 256)) (decide (256 + 8 * t.v + t.c ≥ 256))) ?_ (by rfl)) ?_
      · exact EvE.list (EvL.cons (EvE.call (by rfl) (fn_term G _) (EvL.cons (hrow (by rfl) (by rfl)) EvL.nil)) (EvL.cons (EvE.call (by rfl) (fn_nonterm G _) (EvL.cons (hrow1 (by rfl) (by rfl)) EvL.nil)) EvL.nil)) (sizeNat (Nat.le_of_ble_eq_true rfl))
      · rw [decide_eq_true hk, decide_eq_true (show 256 + 8 * t.v + t.c ≥ 256 by omega)]
        refine ExSs.cons (ExS.ite (EvB.cmp (EvE.name (d := dBools true true) (by rfl)) (EvE.list (EvL.cons EvE.bool (EvL.cons EvE.bool EvL.nil)) (sizeNat (Nat.le_of_ble_eq_true rfl))) (CmpR.eqBools true true false false)) (fun h => by cases h) (fun _ => ExSs.nil)) ?_
        refine ExSs.cons (ExS.ite (EvB.cmp (EvE.name (d := dBools true true) (by rfl)) (EvE.list (EvL.cons EvE.bool (EvL.cons EvE.bool EvL.nil)) (sizeNat (Nat.le_of_ble_eq_true rfl))) (CmpR.neBools true true true true)) (fun h => by cases h) (fun _ => ExSs.nil)) ?_
        refine ExSs.cons (ExS.assign (EvX.of (d := .tuple [.int t.v, .int (t.c : Nat)]) ?_) (AsR.tuple (AsRs.cons (AsR.loc (by rfl)) (AsRs.cons (AsR.loc (by rfl)) AsRs.nil)))) ?_
        · obtain ⟨e1, e2⟩ := fdiv8 (v := t.v) c0 c8
          have := CallR.divmod (W := W) (n := n + 1) (a := 256 + 8 * t.v + t.c - 256) (b := 8) (by decide) (PyProof.noPylong_small (by decide))
          rw [e1, e2] at this
          exact EvE.bcall (bnDivmod G) this (EvL.cons (EvE.bin (hrow1 (by rfl) (by rfl)) EvE.int BinR.sub) (EvL.cons EvE.int EvL.nil))
        · refine ExSs.sub ho ?_
          show SubV _ _
          repeat (first | exact SubV.nil | refine SubV.cons ?_ (by rfl))
    have test : EvB W (n + 1) (fnScope (stAt 78)) [("row", .val (dInts (rowI its))), ("deeds", .val (.mapI deedsL)), ("done", .own (stk.reverse.map .int)), ("k", .val (.int (2 * j : Nat))), ("value", .val (.int t.v)), ("count", .val (.int (t.c : Nat)))] (ifT (nth (forB (nth (fnBody (stAt 78)) 2)) 4)) (decide (((t.c : Nat) : Int) > ((stk.reverse.map D.int).length : Nat))) := by
      refine EvB.unfreeze (y := "done") (by rfl) ?_
      exact EvB.cmp (EvE.name (by rfl)) (EvE.bcall (bnLen G) (CallR.len (xs := stk.reverse.map D.int) (by simp; omega)) (EvL.cons (EvE.name (by rfl)) EvL.nil)) CmpR.gtI
    have hlen : ((stk.reverse.map D.int).length : Nat) = stk.length := by simp
    by_cases hc : t.c > stk.length
    · have hn : valI (its.drop j) = none := by rw [hd]; unfold valI; rw [h]; exact if_pos hc
      have ho : outI (rowI its) its = .ret (dInts []) := by unfold outI; rw [valI_drop_none j hn]
      rw [ho]
      refine .ret (AsR.loc (by rfl)) (rest _ ?_)
      refine ExSs.stop (ExS.ite test (fun _ => ExSs.ret (ExS.ret (EvE.list EvL.nil (sizeNat (Nat.le_of_ble_eq_true rfl))))) (fun hq => ?_)) (fun _ h => by cases h)
      rw [hlen] at hq
      exact absurd hq (by simp; omega)
    · have hv : valI (its.drop j) = some ((stk.take t.c).foldl (deed t.s) t.v :: stk.drop t.c) := by rw [hd]; unfold valI; rw [h]; exact if_neg hc
      refine .more (V₂ := vsD (rowI its) ((stk.take t.c).foldl (deed t.s) t.v :: stk.drop t.c)) (AsR.loc (by rfl)) (rest _ ?_) (ih _ (by omega) hv)
      refine ExSs.cons (ExS.ite test (fun hq => ?_) (fun _ => ExSs.nil)) ?_
      · rw [hlen] at hq
        exact absurd hq (by simp; omega)
      · have hin := values_inner (n := n) G (rowI its) (2 * j) t.s okt.s r1 (by omega) (Bt_pos (its.drop (j + 1)).length) (stk.take t.c) (stk.drop t.c) t.v 11 0 (v_bnd okt) (by omega) (fun o ho => hb.2 o (List.mem_of_mem_take ho))
        have hlt : (stk.take t.c).length = t.c := by rw [List.length_take]; omega
        have hB : Bt (its.drop (j + 1)).length ≤ 715 := by
          rw [List.length_drop]
          have : its.length - (j + 1) = 0 ∨ its.length - (j + 1) = 1 ∨ its.length - (j + 1) = 2 ∨ its.length - (j + 1) = 3 ∨ its.length - (j + 1) = 4 ∨ its.length - (j + 1) = 5 := by omega
          rcases this with e | e | e | e | e | e <;> rw [e] <;> decide
        have hm : t.c * Bt (its.drop (j + 1)).length ≤ 8 * 715 := Nat.mul_le_mul (by have := okt.c; omega) hB
        rw [hlt, List.take_append_drop] at hin
        have hin := hin (by omega) (by rw [List.length_drop]; omega) (by omega)
        refine ExSs.cons (V₁ := vsE (rowI its) (2 * j : Nat) ((stk.take t.c).foldl (deed t.s) t.v) (stk.drop t.c)) (ExS.for (EvI.range1 (N := (t.c : Nat)) (bnRange G) (EvE.name (by rfl)) (by omega) (by omega)) ?_) ?_
        · rw [show ((t.c : Nat) : Int).toNat = t.c by simp]
          refine .sub ?_ hin
          show SubV _ _
          unfold vsE
          repeat (first | exact SubV.nil | refine SubV.cons ?_ (by rfl))
        · refine ExSs.outNext (ExSs.cons (ExS.expr (EvX.append (by rfl) (EvX.of (EvE.name (by rfl))) (by rfl) (sizeNat (by simp; omega))) (EnvK.hi _)) ExSs.nil) ?_
          show SubV _ _
          unfold vsD
          rw [List.reverse_cons, List.map_append]
          repeat (first | exact SubV.nil | refine SubV.cons ?_ (by rfl))
theorem fn_values (G : Glo W) (its : List It) (hl : its.length ≤ 6) (ok : ∀ t ∈ its, t.Ok) : Fn W (n + 2) "_law_values" [dInts (rowI its)] (dInts (valsOf its)) := by
  have hrl := rowI_len its
  refine Fn.mk' G 78 _ ["row"] (out := .ret (dInts (valsOf its))) (by decide) (by rfl) rfl ?_ (by decide) rfl (fnArg1 (.inl (by rfl))) (by rfl) (by rfl) (by rfl) ?_ rfl
  · intro pm cd doc vs h
    obtain ⟨a, rfl⟩ := len1 h
    rfl
  · have gl : ∀ {V : Vars} (i : Nat) (x : Str) {p : Pos}, i ∈ fnIdx → fnName (stAt i) = x → (fnScope (stAt 78)).names.lookup x = some .globalImplicit → (x == ("__debug__" : Str)) = false → EvE W (n + 1) (fnScope (stAt 78)) V (.Name x p) (.gl x) := by
      intro V i x p hi hx hk hd
      obtain ⟨a, o, pm, cd, doc, h1, _⟩ := G.fn i hi
      rw [hx] at h1
      exact EvE.gl hk h1 hd
    refine ExSs.cons (V₁ := [("row", .val (dInts (rowI its))), ("deeds", .val (.mapI deedsL))]) ?_ ?_
    · refine ExS.let (d := .mapI deedsL) ?_ ?_
      · refine EvE.dictI (M := deedsL) ?_ deeds_nd ?_ ?_ ?_ ?_
        · exact .cons EvE.int (gl 4 _ (by decide) (by rfl) (by rfl) (by decide)) (.cons EvE.int (gl 10 _ (by decide) (by rfl) (by rfl) (by decide)) (.cons EvE.int (gl 8 _ (by decide) (by rfl) (by rfl) (by decide)) (.cons EvE.int (gl 9 _ (by decide) (by rfl) (by rfl) (by decide)) (.cons EvE.int (gl 5 _ (by decide) (by rfl) (by rfl) (by decide)) (.cons EvE.int (gl 7 _ (by decide) (by rfl) (by rfl) (by decide)) (.cons EvE.int (gl 11 _ (by decide) (by rfl) (by rfl) (by decide)) (.cons EvE.int (gl 6 _ (by decide) (by rfl) (by rfl) (by decide)) .nil)))))))
        · rfl
        · rfl
        · exact List.cons_ne_nil _ _
        · exact Nat.le_of_ble_eq_true rfl
      · rfl
    refine ExSs.cons (ExS.own (EvN.list EvL.nil) (by rfl)) ?_
    have lp := values_outer (n := n) G its hl ok its.length [] (Nat.le_refl _) (by rw [List.drop_length]; rfl)
    have hsm : Builtin.Range.small (2 * (its.length : Int) - 2) (-1) (-2) = true ∧ Builtin.Range.rangeSize (2 * (its.length : Int) - 2) (-1) (-2) = its.length := by
      have : its.length = 0 ∨ its.length = 1 ∨ its.length = 2 ∨ its.length = 3 ∨ its.length = 4 ∨ its.length = 5 ∨ its.length = 6 := by omega
      rcases this with e | e | e | e | e | e | e <;> rw [e] <;> decide
    have hF : ExS W (n + 1) (fnScope (stAt 78)) (vsD (rowI its) []) (nth (fnBody (stAt 78)) 2) (outI (rowI its) its) := by
      refine ExS.for (EvI.range3 (a := 2 * (its.length : Int) - 2) (b := -1) (c := -2) (bnRange G) ?_ (EvE.un EvE.int UnR.neg) (EvE.un EvE.int UnR.neg) (by decide) hsm.1 hsm.2 (PyProof.noPylong_small (by decide))) lp
      have := EvE.bcall (W := W) (n := n + 1) (sc := fnScope (stAt 78)) (V := vsD (rowI its) []) (pos := default) (fp := default) (bnLen G) (CallR.len (xs := (rowI its).map D.int) (by rw [List.length_map]; omega)) (EvL.cons (e := .Name "row" default) (EvE.name (by rfl)) EvL.nil)
      refine EvE.bin (a := .int (2 * (its.length : Int))) (b := .int 2) ?_ EvE.int BinR.sub
      rw [show (2 * (its.length : Int)) = (((rowI its).map D.int).length : Nat) by rw [List.length_map, hrl]; omega]
      exact EvE.bcall (bnLen G) (CallR.len (xs := (rowI its).map D.int) (by rw [List.length_map]; omega)) (EvL.cons (EvE.name (by rfl)) EvL.nil)
    unfold valsOf
    cases hv : valI its with
    | none =>
      rw [show outI (rowI its) its = .ret (dInts []) by unfold outI; rw [hv]] at hF
      exact ExSs.ret hF
    | some stk =>
      rw [show outI (rowI its) its = .next (vsD (rowI its) stk) by unfold outI; rw [hv]] at hF
      have hb := valI_bnd its stk hl ok hv
      refine ExSs.cons hF ?_
      refine ExSs.freeze (y := "done") (xs := stk.reverse.map .int) (by rfl) (ExSs.ret (ExS.ret ?_))
      have := EvE.sliceRev (W := W) (n := n + 1) (sc := fnScope (stAt 78)) (V := setV (vsD (rowI its) stk) "done" (.val (.list (stk.reverse.map .int)))) (xs := stk.reverse.map D.int) (e := .Name "done" default) (p := default) (pos := default) (st := .UnaryOp .USub (.Constant (.int 1) 0 default) default) (EvE.name (by rfl)) (EvE.un EvE.int UnR.neg) (by simp; omega)
      rw [show (some stk).getD [] = stk from rfl, show dInts stk = .list ((stk.reverse.map D.int).reverse) by unfold dInts; rw [List.map_reverse, List.reverse_reverse]]
      exact EvE.sliceRev (EvE.name (by rfl)) (EvE.un EvE.int UnR.neg) (by simp; omega)
end
end
section
section
variable {W : Wd} {n : Nat}
theorem fn_values_odd (G : Glo W) (row : List Int) (m : Nat) (x y : Int) (hm : m < 6) (hl : row.length = 2 * m + 2) (hx : row[2 * m]? = some x) (hy : row[2 * m + 1]? = some y) (x1 : x ≥ 256) (y1 : y < 256) : Fn W (n + 2) "_law_values" [dInts row] (dInts []) := by
  refine Fn.mk' G 78 _ ["row"] (out := .ret (dInts [])) (by decide) (by rfl) rfl ?_ (by decide) rfl (fnArg1 (.inl (by rfl))) (by rfl) (by rfl) (by rfl) ?_ rfl
  · intro pm cd doc vs h
    obtain ⟨a, rfl⟩ := len1 h
    rfl
  · have gl : ∀ {V : Vars} (i : Nat) (x : Str) {p : Pos}, i ∈ fnIdx → fnName (stAt i) = x → (fnScope (stAt 78)).names.lookup x = some .globalImplicit → (x == ("__debug__" : Str)) = false → EvE W (n + 1) (fnScope (stAt 78)) V (.Name x p) (.gl x) := by
      intro V i x p hi hx hk hd
      obtain ⟨a, o, pm, cd, doc, h1, _⟩ := G.fn i hi
      rw [hx] at h1
      exact EvE.gl hk h1 hd
    refine ExSs.cons (V₁ := [("row", .val (dInts row)), ("deeds", .val (.mapI deedsL))]) ?_ ?_
    · refine ExS.let (d := .mapI deedsL) ?_ ?_
      · refine EvE.dictI (M := deedsL) ?_ deeds_nd ?_ ?_ ?_ ?_
        · exact .cons EvE.int (gl 4 _ (by decide) (by rfl) (by rfl) (by decide)) (.cons EvE.int (gl 10 _ (by decide) (by rfl) (by rfl) (by decide)) (.cons EvE.int (gl 8 _ (by decide) (by rfl) (by rfl) (by decide)) (.cons EvE.int (gl 9 _ (by decide) (by rfl) (by rfl) (by decide)) (.cons EvE.int (gl 5 _ (by decide) (by rfl) (by rfl) (by decide)) (.cons EvE.int (gl 7 _ (by decide) (by rfl) (by rfl) (by decide)) (.cons EvE.int (gl 11 _ (by decide) (by rfl) (by rfl) (by decide)) (.cons EvE.int (gl 6 _ (by decide) (by rfl) (by rfl) (by decide)) .nil)))))))
        · rfl
        · rfl
        · exact List.cons_ne_nil _ _
        · exact Nat.le_of_ble_eq_true rfl
      · rfl
    refine ExSs.cons (ExS.own (EvN.list EvL.nil) (by rfl)) ?_
    have hsm : Builtin.Range.small (2 * (m : Int)) (-1) (-2) = true ∧ Builtin.Range.rangeSize (2 * (m : Int)) (-1) (-2) = (m + 1 : Nat) := by
      have : m = 0 ∨ m = 1 ∨ m = 2 ∨ m = 3 ∨ m = 4 ∨ m = 5 := by omega
      rcases this with e | e | e | e | e | e <;> rw [e] <;> decide
    refine ExSs.ret (ExS.for (EvI.range3 (a := 2 * (m : Int)) (b := -1) (c := -2) (bnRange G) ?_ (EvE.un EvE.int UnR.neg) (EvE.un EvE.int UnR.neg) (by decide) hsm.1 hsm.2 (PyProof.noPylong_small (by decide))) ?_)
    · rw [show (2 * (m : Int)) = (((row.map D.int).length : Nat) : Int) - 2 by rw [List.length_map, hl]; omega]
      exact EvE.bin (EvE.bcall (bnLen G) (CallR.len (xs := row.map D.int) (by rw [List.length_map]; omega)) (EvL.cons (EvE.name (by rfl)) EvL.nil)) EvE.int BinR.sub
    · rw [rangeD_succ]
      refine .ret (AsR.loc (by rfl)) ?_
      rw [show (2 * (m : Int)) = ((2 * m : Nat) : Int) by omega]
      refine ExSs.cons (ExS.let (d := dBools (decide (x < 256)) (decide (y ≥ 256))) ?_ (by rfl)) ?_
      · exact EvE.list (EvL.cons (EvE.call (by rfl) (fn_term G _) (EvL.cons (EvE.item (EvE.name (d := dInts row) (by rfl)) (EvE.name (by rfl)) (SubR.list (j := 2 * m) (.inl ⟨by omega, by omega⟩) (by rw [List.getElem?_map, hx]; rfl) (by rw [List.length_map]; omega))) EvL.nil))
          (EvL.cons (EvE.call (by rfl) (fn_nonterm G _) (EvL.cons (EvE.item (EvE.name (d := dInts row) (by rfl)) (EvE.bin (EvE.name (by rfl)) EvE.int BinR.add) (SubR.list (j := 2 * m + 1) (.inl ⟨by omega, by omega⟩) (by rw [List.getElem?_map, hy]; rfl) (by rw [List.length_map]; omega))) EvL.nil)) EvL.nil)) (sizeNat (Nat.le_of_ble_eq_true rfl))
      · rw [decide_eq_false (show ¬ x < 256 by omega), decide_eq_false (show ¬ y ≥ 256 by omega)]
        exact ExSs.stop (ExS.ite (EvB.cmp (EvE.name (d := dBools false false) (by rfl)) (EvE.list (EvL.cons EvE.bool (EvL.cons EvE.bool EvL.nil)) (sizeNat (Nat.le_of_ble_eq_true rfl))) (CmpR.eqBools false false false false)) (fun _ => ExSs.ret (ExS.ret (EvE.list EvL.nil (sizeNat (Nat.le_of_ble_eq_true rfl))))) (fun h => by cases h)) (fun _ h => by cases h)
end
end
section
noncomputable def clBody : Stmt → List Stmt
  | .ClassDef _ _ _ b .. => b
  | _ => []
noncomputable def wsM (i : Nat) : MethRec := ⟨fnName (nth (clBody (stAt 15)) i), fnArgs (nth (clBody (stAt 15)) i), fnBody (nth (clBody (stAt 15)) i), fnScope (nth (clBody (stAt 15)) i)⟩
noncomputable def wsNames : List Str := ["raw", "n", "nt", "norm", "is_simple"]
/-- the class Whitespace, by its methods -/
noncomputable def wsC : ClsRec := ⟨"Whitespace", none, [], wsNames, 0, [wsM 1, wsM 2, wsM 3, wsM 6]⟩
structure WsOk (W : Wd) : Prop where
  ws : ∃ C N mN K, W.mg "Whitespace" = some (.ref C) ∧ PlainAt W.hT wsC C N mN ∧ Frag.In K W.hT ∧ readsIn K C (.type "type") = true ∧ (∃ t, findCls K (.ref C) (.type "type") "S" = some (.val (.str " " t))) ∧ ∃ t, findCls K (.ref C) (.type "type") "T" = some (.val (.str "\t" t))
noncomputable def Plain : D → Bool
  | .gl _ => false
  | _ => true
theorem obRaw : typeLookup (.type "object") ("raw" : Str) = pure none := by rw [typeLookup_type, builtinLookup_eq_fast]; kernel_rfl
theorem obN : typeLookup (.type "object") ("n" : Str) = pure none := by rw [typeLookup_type, builtinLookup_eq_fast]; kernel_rfl
theorem obNt : typeLookup (.type "object") ("nt" : Str) = pure none := by rw [typeLookup_type, builtinLookup_eq_fast]; kernel_rfl
theorem obNorm : typeLookup (.type "object") ("norm" : Str) = pure none := by rw [typeLookup_type, builtinLookup_eq_fast]; kernel_rfl
theorem obSimple : typeLookup (.type "object") ("is_simple" : Str) = pure none := by rw [typeLookup_type, builtinLookup_eq_fast]; kernel_rfl
theorem obAt {x : Str} (h : x ∈ wsNames) : typeLookup (.type "object") x = pure none := by
  simp only [wsNames, List.mem_cons, List.not_mem_nil, or_false] at h
  rcases h with rfl | rfl | rfl | rfl | rfl
  · exact obRaw
  · exact obN
  · exact obNt
  · exact obNorm
  · exact obSimple
section
variable {W : Wd} {n : Nat} {sc : Scope} {V V' V1 : Vars} {d : D} {o : Out}
theorem RD.handed {g : Vis} {v : Value} (h : RD W g v d) (hp : Plain d = true) : handedOut v = pure v := by
  cases h with
  | gl x v hv => cases hp
  | _ => rfl
theorem Gr.out0 {A : Around} {s s' : Shared} {g g' : Vis} (x : Gr A (outS s []) g s' g') : Gr A s g s' g' := by
  obtain ⟨h, t, e⟩ := x.same
  exact ⟨⟨h, t, by rw [e]; rfl⟩, fun b o q => x.keep b o (outS_of q (by simp)), fun b o q => x.old b o (outS_of q (by simp)), x.sub⟩
theorem inst_at {g : Vis} {h : Heap} (sub : ∀ b o, g b = some o → h.get? b = some o) {v : Value} {fs : List (Str × D)} (r : RD W g v (.inst fs)) : ∃ a C mA, v = .ref a ∧ W.mg "Whitespace" = some (.ref C) ∧ h.Inst a C mA ∧ (∀ x d, fs.lookup x = some d → ∃ u, mA x = some u ∧ RD W g u d) ∧ (∀ x, fs.lookup x = none → mA x = none) := by
  cases r with
  | inst a C dx o od es ep vf fs h0 h1 h2 h3 h4 h5 h6 h7 h8 h9 h10 h11 h12 =>
    exact ⟨a, C, fun x => nsFind es x, rfl, h0, ⟨o, sub _ _ h1, h2, h3, .inr ⟨dx, h4, h5, od, es, ep, sub _ _ h6, h7, h8, h9, fun _ => rfl⟩⟩, fun x d hx => ⟨vf x, h10 x d hx, h12 x d hx⟩, h11⟩
theorem wsGet (G : WsOk W) {A : Around} {g : Vis} {s : Shared} {v : Value} {fs : List (Str × D)} {name : Str} {expr : Bool} {Q E : Value → Shared → Prop} (sv : Sv W n A g s) (r : RD W g v (.inst fs)) (hl : fs.lookup name = some d) (hp : Plain d = true) (hm : name ∈ wsNames)
    (h : ∀ u, RD W g u d → Q u { s with toks := s.toks + 1 }) : wpAny (model W.prog W.w) A (getAttr v name expr) Q E s := by
  obtain ⟨a, C, mA, rfl, hC, I, hs, _⟩ := inst_at sv.sub r
  obtain ⟨C', N, mN, K, hC', P, _⟩ := G.ws
  rw [hC] at hC'; cases hC'
  obtain ⟨u, hu, ru⟩ := hs name d hl
  obtain ⟨hh', g', d', t, os⟩ := s
  have P' := P.keeps sv.keepTop
  obtain ⟨nm, q, bs, sn, sub, col, dd, k0, k1, k2, k3, k5, hob⟩ := P'.cls.obj
  exact load_attr hob P'.cls.ns (P.quiet _ (List.mem_append_left _ (.tail _ (.head _)))) (P.quiet _ (List.mem_append_right _ hm)) (obAt hm) I hu (ru.handed hp) (h u ru)
theorem EvE.attr (G : WsOk W) {e : Expr} {name : Str} {ap : Pos} {fs : List (Str × D)} (h1 : EvE W n sc V e (.inst fs)) (hl : fs.lookup name = some d) (hp : Plain d = true) (hm : name ∈ wsNames)
    (he : ∀ env, eval (.Attribute e name ap) env = (do let o ← eval e env; standAt ap.atName; let r ← holding [o] (getAttr o name true); letTemporaryGo e o r; pure r) := by intro _; with_unfolding_all rfl) : EvE W n sc V (.Attribute e name ap) d := fun A s₀ g₀ R env g s Q E hv X hq =>
  Attribute_any_ (h1 A s₀ g₀ R env g s _ E hv X fun v s1 g1 G1 r => wsGet G (X.gr G1).sv r hl hp hm fun u ru => hq u _ g1 (G1.trans (Gr.tok0 (X.gr G1).sub _)) ru) (he env)
/-- an attribute of the object that is being made -/
theorem EvE.attrO (G : WsOk W) {x : Str} {xp ap : Pos} {name : Str} {a C dx : Addr} {fs : List (Str × D)} (hx : V.lookup x = some (.obj a C dx fs)) (hl : fs.lookup name = some d) (hp : Plain d = true) (hm : name ∈ wsNames) (hd : (x == ("__debug__" : Str)) = false := by decide)
    (he : ∀ env, eval (.Attribute (.Name x xp) name ap) env = (do let o ← eval (.Name x xp) env; standAt ap.atName; let r ← holding [o] (getAttr o name true); letTemporaryGo (.Name x xp) o r; pure r) := by intro _; with_unfolding_all rfl) : EvE W n sc V (.Attribute (.Name x xp) name ap) d := fun A s₀ g₀ R env g s Q E hv X hq => by
  refine Attribute_any_ (wpAny_Name (load_hid hv X hx hs_obj fun v b q H => ?_) hd) (he env)
  obtain ⟨rfl, hC, hne, ob, hob, hcl, hnc, hdi⟩ := H.kv
  have hb := H.ha
  cases hb
  obtain ⟨es, ep, vf, ho, k1, k2, f1, f2, f3⟩ := H.ko
  have I : s.heap.Inst a C (fun y => nsFind es y) := ⟨ob, X.sub _ _ hob, hcl, hnc, .inr ⟨dx, hdi, hne, q, es, ep, H.ho, ho, k1, k2, fun _ => rfl⟩⟩
  obtain ⟨C', N, mN, K, hC', P, _⟩ := G.ws
  rw [hC] at hC'; cases hC'
  have P' := P.keeps X.topKeep
  obtain ⟨nm, q, bs, sn, sub, col, dd, k0, k1, k2, k3, k5, hob⟩ := P'.cls.obj
  have ru := f2 name d hl
  obtain ⟨hh', g', d', t, os⟩ := s
  exact load_attr hob P'.cls.ns (P.quiet _ (List.mem_append_left _ (.tail _ (.head _)))) (P.quiet _ (List.mem_append_right _ hm)) (obAt hm) I (f1 name d hl) (ru.handed hp) (hq _ _ g (Gr.tok0 X.sub _) ru)
theorem EvE.clsS (G : WsOk W) {p ap : Pos} (hk : sc.names.lookup ("Whitespace" : Str) = some .globalImplicit) : EvE W n sc V (.Attribute (.Name "Whitespace" p) "S" ap) (.str " ") := fun A s₀ g₀ R env g s Q E hv X hq => by
  obtain ⟨C, N, mN, K, hC, P, hK, hr, ⟨t, hS⟩, hT⟩ := G.ws
  refine Attribute_Name_ (Name_function_global hv.kf (by rw [hv.kindOf]; exact hk) (loadGlobal_global (glob_ns hv X) hC ?_) (by decide)) (by with_unfolding_all rfl)
  exact cls_value (hK.keeps X.topKeep) hr hS rfl (hq _ _ g (Gr.tok0 X.sub _) (.str _ _))
theorem EvE.clsT (G : WsOk W) {p ap : Pos} (hk : sc.names.lookup ("Whitespace" : Str) = some .globalImplicit) : EvE W n sc V (.Attribute (.Name "Whitespace" p) "T" ap) (.str "\t") := fun A s₀ g₀ R env g s Q E hv X hq => by
  obtain ⟨C, N, mN, K, hC, P, hK, hr, hS, ⟨t, hT⟩⟩ := G.ws
  refine Attribute_Name_ (Name_function_global hv.kf (by rw [hv.kindOf]; exact hk) (loadGlobal_global (glob_ns hv X) hC ?_) (by decide)) (by with_unfolding_all rfl)
  exact cls_value (hK.keeps X.topKeep) hr hT rfl (hq _ _ g (Gr.tok0 X.sub _) (.str _ _))
/-- self.name = e -/
theorem ExS.setAttr (G : WsOk W) {x : Str} {xp ap pos : Pos} {name : Str} {e : Expr} {a C dx : Addr} {fs : List (Str × D)} (hx : V.lookup x = some (.obj a C dx fs)) (h1 : EvE W n sc V e d) (hm : name ∈ wsNames) (hz : fs.length ≤ 100) (hd : (x == ("__debug__" : Str)) = false := by decide)
    (hs : ∀ env, swapsWith e (some (.Attribute (.Name x xp) name ap)) pos.line env = pure false := by intro _; rfl) : ExS W n sc V (.Assign [.Attribute (.Name x xp) name ap] e pos) (.next (setV V x (.obj a C dx ((name, d) :: fs)))) := fun A s₀ g₀ R env g s Q E he X hq => by
  refine plainObj_wpAny_Assign_Attribute (h1 A s₀ g₀ R env g s _ E he.toEnvOk X fun v s1 g1 G1 r => ?_) (hs env)
  have X1 := X.gr G1
  refine wpAny_Name (load_hid he.toEnvOk X1 hx hs_obj fun ov b q H => ?_) hd
  obtain ⟨rfl, hC, hne, ob, hob, hcl, hnc, hdi⟩ := H.kv
  have hb := H.ha
  cases hb
  obtain ⟨es, ep, vf, ho, k1, k2, f1, f2, f3⟩ := H.ko
  have I : s1.heap.Inst a C (fun y => nsFind es y) := ⟨ob, X1.sub _ _ hob, hcl, hnc, .inr ⟨dx, hdi, hne, q, es, ep, H.ho, ho, k1, k2, fun _ => rfl⟩⟩
  obtain ⟨C', N, mN, K, hC', P, _⟩ := G.ws
  rw [hC] at hC'; cases hC'
  have P' := P.keeps X1.topKeep
  obtain ⟨nm, qn, bs, sn, sub, col, dd, j0, j1, j2, j3, j5, hobC⟩ := P'.cls.obj
  obtain ⟨obC0, hobC0⟩ : ∃ o, W.hT.get? C = some o := let ⟨_, _, _, _, _, _, _, _, _, _, _, _, e⟩ := P.cls.obj; ⟨_, e⟩
  have hxC : a ≠ C := by
    rintro rfl
    have h1 := X1.sub _ _ hob
    rw [h1] at hobC
    cases hobC
    exact hnc _ rfl
  obtain ⟨s1h, s1g, s1d, s1t, s1o⟩ := s1
  refine store_attr (ns := fs.map (·.1)) PySem.F.store_object hobC P'.cls.ns (P.quiet _ (List.mem_append_left _ (.head _))) (P.quiet _ (List.mem_append_right _ hm)) (obAt hm) hxC I (fun h' tk' I' hk hsame => ?_) (fun y hy => ?_) (by rw [List.length_map]; exact sizeNat (by omega))
  · have hA := X1.sub _ _ hob
    obtain ⟨o1, e1, c1, dt1, sl1, dk1⟩ := hsame ob hA
    have ho1 : o1 = ob := by
      obtain ⟨c, di, da, sl⟩ := o1
      obtain ⟨c', di', da', sl'⟩ := ob
      have := dk1 dx hdi
      dsimp only at c1 dt1 sl1 this hdi
      rw [c1, dt1, sl1, this, ← hdi]
    subst ho1
    have kk : ∀ b o, b ≠ dx → s1h.get? b = some o → h'.get? b = some o := fun b o hb e => by
      by_cases hba : b = a
      · subst hba
        have hA' : s1h.get? b = some o1 := hA
        rw [hA'] at e; cases e; exact e1
      · exact hk b o hba (fun o₀ d' e₀ ed => by
          have hA' : s1h.get? a = some o1 := hA
          rw [hA'] at e₀; cases e₀
          rw [hdi] at ed; cases ed; exact hb) e
    obtain ⟨o', e', _, _, hd'⟩ := I'
    rw [e1] at e'; cases e'
    rcases hd' with ⟨hn0, _⟩ | ⟨d', hd', _, od, es', ep', g1', g2', g3', g4', g5'⟩
    · rw [hdi] at hn0; cases hn0
    · rw [hdi] at hd'; cases hd'
      have hGr : Gr A (outS ⟨s1h, s1g, s1d, s1t, s1o⟩ [dx]) g1 ⟨h', s1g, s1d, tk', s1o⟩ g1 := by
        refine ⟨⟨h', tk', rfl⟩, fun b o e => ?_, fun _ _ _ => rfl, fun b o e => ?_⟩
        · obtain ⟨e, hn⟩ := outS_some e
          exact .inl (kk b o (by simpa using hn) e)
        · exact kk b o (fun z => by rw [z, H.hh.gv] at e; cases e) (X1.sub b o e)
      have cal := H.called (sl' := .obj a C dx ((name, d) :: fs)) X1 hGr g1' H.hh.gv ⟨es', ep', fun y => if y = name then v else vf y, g2', g3', g4', fun y d' hy => ?_, fun y d' hy => ?_, fun y hy => ?_⟩ ⟨rfl, hC, hne, o1, hob, hcl, hnc, hdi⟩ rfl
      · exact hq .next g1 _ (G1.vis X.sub) cal.1
      · rw [g5' y]
        rw [List.lookup_cons] at hy
        by_cases hyn : y = name
        · simp only [hyn, if_true]
        · rw [show (y == name) = false by simpa using hyn] at hy
          simp only [if_neg hyn]
          exact f1 y d' hy
      · rw [List.lookup_cons] at hy
        by_cases hyn : y = name
        · rw [show (y == name) = true by simpa using hyn] at hy
          cases hy
          simp only [if_pos hyn]
          exact r
        · rw [show (y == name) = false by simpa using hyn] at hy
          simp only [if_neg hyn]
          exact f2 y d' hy
      · rw [g5' y]
        rw [List.lookup_cons] at hy
        by_cases hyn : y = name
        · rw [show (y == name) = true by simpa using hyn] at hy; cases hy
        · rw [show (y == name) = false by simpa using hyn] at hy
          simp only [if_neg hyn]
          exact f3 y hy
  · by_cases hc : fs.lookup y = none
    · exact absurd (f3 y hc) hy
    · obtain ⟨d', hd'⟩ := Option.ne_none_iff_exists'.mp hc
      exact List.mem_map.mpr ⟨_, mem_of_lookup hd', rfl⟩
end
end
section
section
variable {W : Wd} {n : Nat} {sc : Scope} {V V' V1 : Vars} {d : D} {o : Out}
noncomputable def EvA (W : Wd) (n : Nat) (sc : Scope) (V : Vars) (args : List Expr) (ds : List D) : Prop :=
  ∀ (A : Around) (s₀ : Shared) (g₀ : Vis) (R : List (Addr × Obj)) (env : Env) (g : Vis) (s : Shared) (pos : Pos) (f : Value) (Q : Args → Shared → Prop) (E : Value → Shared → Prop), EnvOk sc env → St W n A s₀ g₀ R env V g s →
    (∀ vs s' g', Gr A s g s' g' → RDs W g' vs ds → Q ⟨vs, []⟩ s') → wpAny (model W.prog W.w) A (evalArgs f true (backTo pos (starEach args env)) []) Q E s
theorem EvA.nil : EvA W n sc V [] [] := fun A s₀ g₀ R env g s pos f Q E he X h => by
  show wpAny _ A (evalArgs f true [] []) Q E s
  exact PySem.evalArgs_none (h [] s g (Gr.refl X.sub) RDs.nil)
theorem EvA.of {e : Expr} {es : List Expr} {ds : List D} (h : EvL W n sc V (e :: es) ds) (hs : ∀ env, starEach (e :: es) env = (false, eval e env) :: starEach es env := by intro _; rfl) : EvA W n sc V (e :: es) ds := fun A s₀ g₀ R env g s pos f Q E he X hq => args_go he X h hs hq
theorem Sv.under {A : Around} {g : Vis} {s : Shared} {C : Addr} {vs : List Value} (x : Sv W (n + 1) A g s) : Sv W n (A.under (.builtin "type.__call__" ⟨.ref C :: vs, []⟩)) g s := by
  refine ⟨⟨x.aok.hd, ?_, ?_⟩, x.sub, x.top, ?_, x.frv⟩
  · have := x.aok.depth
    show A.depth + 1 + n < recursionLimit
    omega
  · have := x.aok.units
    show A.units + 1 + 8 * n + 100 < cLine
    omega
  · obtain ⟨outer, B⟩ := x.below
    exact ⟨outer, ⟨B.stack, B.stays, B.frames⟩⟩
/-- Whitespace(e) -/
theorem EvE.mkWs (G : WsOk W) {fp pos : Pos} {e : Expr} {fs : List (Str × D)} (hk : sc.names.lookup ("Whitespace" : Str) = some .globalImplicit) (h1 : EvE W (n + 2) sc V e d)
    (hbind : ∀ pm cd doc (u v : Value), bindArgs (methDef (wsM 1).name (wsC.name ++ "." ++ (wsM 1).name) (wsM 1).params (wsM 1).body (wsM 1).scope pm cd doc) ⟨[u, v], []⟩ = pure [(("self" : Str), u), (("ws" : Str), v)])
    (hl1 : (wsM 1).scope.names.lookup ("self" : Str) = some .local) (hl2 : (wsM 1).scope.names.lookup ("ws" : Str) = some .local) (hkf : (wsM 1).scope.kind = .function) (hco : (wsM 1).scope.isCoroutine = false) (hgen : (wsM 1).scope.isGenerator = false) (hin : (wsM 1).name = "__init__")
    (hb : ∀ a C dx, ∃ V', ExV W n (wsM 1).scope [("self", .obj a C dx []), ("ws", .val d)] (wsM 1).body .none V' ∧ V'.lookup ("self" : Str) = some (.obj a C dx fs))
    (hst : ∀ env, starEach [e] env = (false, eval e env) :: starEach [] env := by intro _; rfl) (hpl : ∀ env, (backTo pos (starEach [] env)).any (·.1) = false := by intro _; rfl) :
    EvE W (n + 2) sc V (.Call (.Name "Whitespace" fp) [e] [] pos) (.inst fs) := fun A s₀ g₀ R env g s Q E he X hq => by
  obtain ⟨C, N, mN, K, hC, P, _⟩ := G.ws
  obtain ⟨fI, oI, pm, cdv, doc, i1, i2, i3, i4, i5⟩ := P.meths (wsM 1) (.head _)
  refine wpAny_Call_NameR (Name_function_global he.kf (by rw [he.kindOf]; exact hk) (loadGlobal_global (glob_ns he X) hC (callWith_cls P.cls ((EvL.cons h1 EvL.nil hst) A s₀ g₀ R env g s pos _ E he X fun vs s1 g1 G1 r1 => ⟨(X.gr G1).topKeep, ?_⟩) (hst env) (hpl env))) (by decide))
  obtain ⟨v, r, rfl, rv, rr⟩ := r1.cons_of
  cases rr.nil_of
  have X1 := X.gr G1
  have P' := P.keeps X1.topKeep
  obtain ⟨nm, qn, bs, sn, sub, col, dd, j0, j1, j2, j3, j5, hob⟩ := P'.cls.obj
  have hfI := X1.topKeep _ _ i2
  obtain ⟨h1', gg, dr, tk, os⟩ := s1
  refine wpAny_call_obj_init PySem.F.objNew hob P'.cls.ns (hin ▸ i1) hfI i3 fun h' x dx Mk => ?_
  obtain ⟨ox, hx, hcx, hncx, hdx⟩ := Mk.inst
  have hdd := Mk.dict ox hx
  have hne : dx ≠ x := by
    rcases hdx with ⟨hn0, _⟩ | ⟨d', hd', hne', _⟩
    · rw [hn0] at hdd; cases hdd
    · obtain rfl := Option.some.inj (hd'.symm.trans hdd); exact hne'
  obtain ⟨od, es, ep, e1, e2, e3, e4, e5⟩ : h'.Ns1 dx fun _ => Option.none := by
    rcases hdx with ⟨hn0, _⟩ | ⟨d', hd', _, hns'⟩
    · rw [hn0] at hdd; cases hdd
    · obtain rfl := Option.some.inj (hd'.symm.trans hdd); exact hns'
  have G2 : Gr A ⟨h1', gg, dr, tk, os⟩ g1 ⟨h', gg, dr, tk, os⟩ (seen g1 x ox) := by
    refine Gr.of ⟨h', tk, rfl⟩ Mk.keeps (fun b o hb => seen_ne (fun z => by rw [z, Mk.newX] at hb; cases hb)) (fun b o hb => ?_)
    by_cases hbx : b = x
    · subst hbx; rw [seen_self] at hb; cases hb; exact hx
    · rw [seen_ne hbx] at hb; exact Mk.keeps _ _ (X1.sub b o hb)
  have X2 := X1.gr G2
  have g1dx : g1 dx = Option.none := gnone X1.sub Mk.newD
  have g2dx : seen g1 x ox dx = Option.none := (seen_ne hne).trans g1dx
  have nfz : ¬ fz A dx := fun hz => by
    obtain ⟨o, ho⟩ := X1.fzThere hz
    have : h1'.get? dx = some o := ho
    rw [Mk.newD] at this; cases this
  obtain ⟨V', hb1, hl⟩ := hb x C dx
  have args : ArgsOk W (A.under (.builtin "type.__call__" ⟨.ref C :: [v], []⟩)) (seen g1 x ox) ⟨h', gg, dr, tk, os⟩ [dx] [.ref x, v] [.obj x C dx [], .val d] := by
    have hN : hidA v (.val d) = Option.none := by cases v <;> rfl
    refine ⟨rfl, fun i u sl a1 a2 => ?_, fun i j u u' sl sl' b hij a1 a2 a3 a4 a5 => ?_, fun b hb => ?_⟩
    · match i, a1, a2 with
      | 0, a1, a2 =>
        cases a1; cases a2
        refine ⟨⟨rfl, hC, hne, ox, seen_self .., hcx, hncx, hdd⟩, fun b hb => ?_⟩
        cases hb
        exact ⟨.head _, od, e1, es, ep, fun _ => .none, e2, e3, e4, fun x d h => (by cases h), fun x d h => (by cases h), fun x _ => e5 x⟩
      | 1, a1, a2 =>
        cases a1; cases a2
        exact ⟨rv.mono (G2.vis X1.sub), fun b hb => by rw [hN] at hb; cases hb⟩
    · match i, j, hij, a1, a2, a3, a4 with
      | 0, 0, hij, _, _, _, _ => exact absurd rfl hij
      | 0, 1, _, a1, a2, a3, a4 => cases a2; cases a4; rw [hN]; exact fun h => by cases h
      | 1, 0, _, a1, a2, a3, a4 => cases a1; cases a3; rw [hN] at a5; cases a5
      | 1, 1, hij, _, _, _, _ => exact absurd rfl hij
    · rw [List.mem_singleton] at hb; subst hb
      exact ⟨g2dx, nfz, od, e1⟩
  refine call_bodyI (names := ["self", "ws"]) (sls := [.obj x C dx [], .val d]) (ls := [dx]) i2 i4 i5 ?_ (by decide) rfl ?_ hkf hco hgen hb1 X2.sv.under args fun v' s3 g3 G3 r3 H => ?_
  · intro vs hv
    obtain ⟨u, w, rfl⟩ := len2 hv
    exact hbind ..
  · intro y hy
    simp only [List.mem_cons, List.not_mem_nil, or_false] at hy
    rcases hy with rfl | rfl
    · exact .inl hl1
    · exact .inl hl2
  · obtain ⟨g3dx, o', ho', es', ep', vf, k1, k2, k3, k4, k5, k6⟩ := H _ _ dx hl rfl
    have m34 : ∀ b ob, g3 b = some ob → seen g3 dx o' b = some ob := fun b ob hb => by rw [seen_ne (fun z => by rw [z, g3dx] at hb; cases hb)]; exact hb
    have g3x : g3 x = some ox := (G3.old x ox (outS_of hx (by simpa using Ne.symm hne))).trans (seen_self ..)
    refine ⟨r3.of_none, ?_⟩
    have G4 : Gr A ⟨h1', gg, dr, tk, os⟩ g1 s3 (seen g3 dx o') := by
      obtain ⟨hs, ts, es3⟩ := G3.same
      refine ⟨⟨hs, ts, by rw [es3]; rfl⟩, fun b ob hb => ?_, fun b ob hb => ?_, fun b ob hb => ?_⟩
      · have hbd : b ≠ dx := fun z => by rw [z] at hb; have : h1'.get? dx = some ob := hb; rw [Mk.newD] at this; cases this
        exact G3.keep b ob (outS_of (Mk.keeps _ _ hb) (by simpa using hbd))
      · have hbd : b ≠ dx := fun z => by rw [z] at hb; have : h1'.get? dx = some ob := hb; rw [Mk.newD] at this; cases this
        have hbx : b ≠ x := fun z => by rw [z] at hb; have : h1'.get? x = some ob := hb; rw [Mk.newX] at this; cases this
        rw [seen_ne hbd, G3.old b ob (outS_of (Mk.keeps _ _ hb) (by simpa using hbd)), seen_ne hbx]
      · by_cases hbd : b = dx
        · subst hbd; rw [seen_self] at hb; cases hb; exact ho'
        · rw [seen_ne hbd] at hb; exact G3.sub b ob hb
    exact hq _ s3 _ (G1.trans G4) (.inst x C dx ox o' es' ep' vf fs hC (m34 _ _ g3x) hcx hncx hdd hne (seen_self ..) k1 k2 k3 k4 k6 fun y d' hy => (k5 y d' hy).mono m34)
/-- a method's call -/
theorem EvE.meth (G : WsOk W) {m : MethRec} (hm : m ∈ wsC.meths) {name : Str} (hn : m.name = name) {ap pos : Pos} {e : Expr} {args : List Expr} {fs : List (Str × D)} {ds : List D} {names : List Str} (h0 : EvE W (n + 1) sc V e (.inst fs)) (hsh : fs.lookup name = Option.none) {y : Option Value} (hob : typeLookup (.type "object") name = pure y)
    (ha : EvA W (n + 1) sc V args ds)
    (hbind : ∀ pm cd doc (vs : List Value), vs.length = names.length → bindArgs (methDef m.name (wsC.name ++ "." ++ m.name) m.params m.body m.scope pm cd doc) ⟨vs, []⟩ = pure (names.zip vs)) (hnd : names.Nodup) (hlen : ((D.inst fs :: ds).map Slot.val).length = names.length)
    (hkind : ∀ x ∈ names, m.scope.names.lookup x = some .local ∨ m.scope.names.lookup x = some .cell) (hk : m.scope.kind = .function) (hco : m.scope.isCoroutine = false) (hgen : m.scope.isGenerator = false)
    (hb : ExV W n m.scope (names.zip ((D.inst fs :: ds).map Slot.val)) m.body d V')
    (he : ∀ env, ∃ pl, eval (.Call (.Attribute e name ap) args [] pos) env = (do let ov ← eval e env; standAt ap.atName; let (f, first) ← holding [ov] (getMethod ov name pl); callWith pos f first (backTo pos (starEach args env)) []) := by intro _; exact ⟨_, rfl⟩) :
    EvE W (n + 1) sc V (.Call (.Attribute e name ap) args [] pos) d := fun A s₀ g₀ R env g s Q E hv X hq => by
  subst hn
  obtain ⟨pl, hev⟩ := he env
  refine MethodCall_ (pl := pl) (h0 A s₀ g₀ R env g s _ E hv X fun ov s1 g1 G1 r => ?_) hev
  have X1 := X.gr G1
  obtain ⟨a, C, mA, rfl, hC, I, hs, hnone⟩ := inst_at X1.sub r
  obtain ⟨C', N, mN, K, hC', P, _⟩ := G.ws
  rw [hC] at hC'; cases hC'
  obtain ⟨f, of, pm, cdv, doc, i1, i2, i3, i4, i5⟩ := P.meths m hm
  have P' := P.keeps X1.topKeep
  obtain ⟨nm, qn, bs, sn, sub, col, dd, j0, j1, j2, j3, j5, hobC⟩ := P'.cls.obj
  have hof := X1.topKeep _ _ i2
  have aft : wpAny (model W.prog W.w) A (callWith pos (.ref f) [.ref a] (backTo pos (starEach args env)) []) Q E s1 := by
    refine callWith_function (o := of) (fd := methDef m.name (wsC.name ++ "." ++ m.name) m.params m.body m.scope pm cdv doc) (ha A s₀ g₀ R env g1 s1 pos _ _ E hv X1 fun vs s2 g2 G2 r2 => ⟨⟨(X1.gr G2).topKeep _ _ i2, i4⟩, ?_⟩)
    have X2 := X1.gr G2
    have rs : RDs W g2 (.ref a :: vs) (.inst fs :: ds) := RDs.cons (r.mono (G2.vis X1.sub)) r2
    refine call_bodyI (names := names) (sls := (D.inst fs :: ds).map Slot.val) (ls := []) i2 i4 i5 (hbind pm cdv doc) hnd hlen hkind hk hco hgen hb X2.sv ?_ fun v s3 g3 G3 r3 _ => hq v s3 g3 ((G1.trans G2).trans G3.out0) r3
    have hN : ∀ (u : Value) (d : D), hidA u (.val d) = Option.none := fun u d => by cases u <;> rfl
    have hsl : ∀ (i : Nat) sl, ((D.inst fs :: ds).map Slot.val)[i]? = some sl → ∃ d, sl = .val d ∧ (D.inst fs :: ds)[i]? = some d := fun i sl h => by
      rw [List.getElem?_map] at h
      cases hq' : (D.inst fs :: ds)[i]? with
      | none => rw [hq'] at h; cases h
      | some d => rw [hq'] at h; cases h; exact ⟨d, rfl, rfl⟩
    refine ⟨by rw [List.length_map]; exact rs.1, fun i u sl a1 a2 => ?_, fun i j u u' sl sl' b hij a1 a2 a3 a4 a5 => ?_, fun b hb => by cases hb⟩
    · obtain ⟨d', rfl, hd'⟩ := hsl i sl a2
      exact ⟨rs.2 i u d' a1 hd', fun b hb => by rw [hN] at hb; cases hb⟩
    · obtain ⟨d', rfl, hd'⟩ := hsl i sl a3
      rw [hN] at a5; cases a5
  obtain ⟨h1', gg, dr, tk, os⟩ := s1
  exact method_of hobC P'.cls.ns (P.quiet _ (List.mem_append_left _ (.tail _ (.head _)))) (P.quiet _ (List.mem_append_left _ (.tail _ (.tail _ (.head _))))) i1 hof i3 hob I (hnone _ hsh) aft
end
end
section
structure WsV where
  n : Nat
  nt : Nat
  b : Nat
  count : List Nat
noncomputable def dNat (k : Nat) : D := .int (k : Int)
noncomputable def wsSimple (w : WsV) : Bool := decide (((w.count.length : Nat) : Int) ≤ 1)
noncomputable def wsNorm (w : WsV) : D := .tuple [.tuple (w.count.map dNat), dNat w.b]
noncomputable def wsFs (x : Str) (w : WsV) : List (Str × D) := [("is_simple", .bool (wsSimple w)), ("norm", wsNorm w), ("nt", dNat w.nt), ("n", dNat w.n), ("raw", .str x)]
noncomputable def wsD (x : Str) (w : WsV) : D := .inst (wsFs x w)
noncomputable def grown (w : WsV) : List Nat := if w.b ≥ w.count.length then w.count ++ List.replicate (w.b - w.count.length + 1) 0 else w.count
noncomputable def tabbed (w : WsV) : WsV := ⟨w.n + 1, w.nt + 1, 0, (grown w).set w.b ((grown w).getD w.b 0 + 1)⟩
noncomputable def wsGo : List Nat → WsV → WsV
  | [], w => w
  | c :: r, w => if c = 32 then wsGo r ⟨w.n + 1, w.nt, w.b + 1, w.count⟩ else if c = 9 then wsGo r (tabbed w) else w
theorem grown_len (w : WsV) : w.b < (grown w).length ∧ (grown w).length ≤ w.count.length + w.b + 1 := by
  unfold grown
  split
  · simp; omega
  · omega
noncomputable def vsW (x : Str) (a C dx : Addr) (w : WsV) : Vars := [("self", .obj a C dx [("raw", .str x)]), ("ws", .val (.str x)), ("S", .val (.str " ")), ("T", .val (.str "\t")), ("count", .own (w.count.map dNat)), ("b", .val (dNat w.b)), ("n", .val (dNat w.n)), ("nt", .val (dNat w.nt))]
noncomputable def scI : Scope := (wsM 1).scope
noncomputable def bdI : List Stmt := (wsM 1).body
theorem eqCh (c : Nat) (k : Nat) : ((⟨#[c]⟩ : Str).cps.toList == ([k] : List Nat)) = decide (c = k) := by
  by_cases h : c = k <;> simp [h]
section
variable {W : Wd} {n : Nat} {sc : Scope} {V V' V1 : Vars} {d : D} {o : Out}
theorem CallR.lenT {xs : List D} (hz : xs.length ≤ 1048576) : CallR W n (.builtin "len") [.tuple xs] (.int xs.length) := fun A g s vs sv r => by
  obtain ⟨v, us, rfl, rv, ru⟩ := r.cons_of
  obtain ⟨a, j, ws, rfl, ha, rs⟩ := rv.of_tuple
  rw [ru.nil_of]
  have hl := rs.1
  refine VR.tok sv.sub fun Q E hq => P.len_tuple (items := ws.toArray) (n := j) (sv.sub _ _ ha) (by simp only [List.size_toArray]; omega) ?_
  have := hq (.int ws.length (s.toks + 1)) (s.toks + 1 + 1) (hl ▸ .int _ _)
  simpa using this
theorem ExSs.outBrk {l : List Stmt} {V₁ V₂ : Vars} (h : ExSs W n sc V l (.brk V₁)) (hs : SubV V₂ V₁) : ExSs W n sc V l (.brk V₂) := fun A s₀ g₀ R env g s Q E he X hq => h A s₀ g₀ R env g s Q E he X fun f g' s' m X' => hq f g' s' m (by
  cases f <;> first
    | exact St.subV X' hs
    | exact X'.elim)
theorem rep1' (k : Nat) (z : D) : (List.replicate k [z]).flatten = List.replicate k z := by
  induction k with
  | zero => rfl
  | succ k ih => rw [List.replicate_succ, List.flatten_cons, ih, List.replicate_succ]; rfl
theorem init_loop (G : Glo W) (x : Str) (a C dx : Addr) : ∀ (cs : List Nat) (w : WsV), w.b + w.count.length + 2 * cs.length ≤ 900 → w.b ≤ 900 → 
    ForR W n scI (forT (nth bdI 4)) (forB (nth bdI 4)) (vsW x a C dx w) (cs.map fun c => D.str ⟨#[c]⟩) (.next (vsW x a C dx (wsGo cs w))) := by
  intro cs
  induction cs with
  | nil => intro w _ _; exact .nil
  | cons c r ih =>
    intro w hl hb
    rw [List.length_cons] at hl
    have t1 : ∀ {V : Vars} {p1 p2 p3 : Pos}, V.lookup ("ch" : Str) = some (.val (.str ⟨#[c]⟩)) → V.lookup ("S" : Str) = some (.val (.str " ")) → EvB W n scI V (.Compare (.Name "ch" p1) [.Eq] [.Name "S" p2] p3) (decide (c = 32)) := by
      intro V p1 p2 p3 h1 h2
      have := EvB.cmp (W := W) (n := n) (sc := scI) (V := V) (pos := p3) (EvE.name (pos := p1) h1) (EvE.name (pos := p2) h2) CmpR.eqS
      rwa [show ((⟨#[c]⟩ : Str).cps.toList == (" " : Str).cps.toList) = decide (c = 32) from eqCh c 32] at this
    have t2 : ∀ {V : Vars} {p1 p2 p3 : Pos}, V.lookup ("ch" : Str) = some (.val (.str ⟨#[c]⟩)) → V.lookup ("T" : Str) = some (.val (.str "\t")) → EvB W n scI V (.Compare (.Name "ch" p1) [.Eq] [.Name "T" p2] p3) (decide (c = 9)) := by
      intro V p1 p2 p3 h1 h2
      have := EvB.cmp (W := W) (n := n) (sc := scI) (V := V) (pos := p3) (EvE.name (pos := p1) h1) (EvE.name (pos := p2) h2) CmpR.eqS
      rwa [show ((⟨#[c]⟩ : Str).cps.toList == ("\t" : Str).cps.toList) = decide (c = 9) from eqCh c 9] at this
    rw [List.map_cons]
    unfold wsGo
    by_cases h32 : c = 32
    · rw [if_pos h32]
      refine .more (AsR.loc (by rfl)) (ExSs.outNext (ExSs.cons (ExS.ite (t1 (by rfl) (by rfl)) (fun _ => ExSs.cons (ExS.let (EvE.bin (EvE.name (by rfl)) EvE.int BinR.add) (by rfl)) (ExSs.cons (ExS.let (EvE.bin (EvE.name (by rfl)) EvE.int BinR.add) (by rfl)) ExSs.nil)) (fun h => absurd h (by simp [h32]))) ExSs.nil) ?_) (ih _ (by dsimp only; omega) (by dsimp only; omega))
      show SubV _ _
      unfold vsW
      repeat (first | exact SubV.nil | refine SubV.cons ?_ (by rfl))
    · rw [if_neg h32]
      by_cases h9 : c = 9
      · rw [if_pos h9]
        have hg := grown_len w
        have hgl : (tabbed w).count.length = (grown w).length := by unfold tabbed; simp
        have hih := ih (tabbed w) (by rw [hgl]; show 0 + _ + _ ≤ _; omega) (by show 0 ≤ 900; omega)
        refine .more (V₁ := setV (vsW x a C dx w) "ch" (.val (.str ⟨#[c]⟩))) (AsR.loc (by rfl)) (ExSs.outNext (V₁ := [("self", .obj a C dx [("raw", .str x)]), ("ws", .val (.str x)), ("S", .val (.str " ")), ("T", .val (.str "\t")), ("count", .own ((tabbed w).count.map dNat)), ("b", .val (dNat 0)), ("n", .val (dNat (w.n + 1))), ("nt", .val (dNat (w.nt + 1)))]) (ExSs.cons (ExS.ite (t1 (by rfl) (by rfl)) (fun h => absurd h (by simp [h32])) (fun _ => ExSs.cons (ExS.ite (t2 (by rfl) (by rfl)) (fun _ => ?_) (fun h => absurd h (by simp [h9]))) ExSs.nil)) ExSs.nil) ?_) hih
        · refine ExSs.cons (ExS.let (EvE.bin (EvE.name (by rfl)) EvE.int BinR.add) (by rfl)) (ExSs.cons (ExS.let (EvE.bin (EvE.name (by rfl)) EvE.int BinR.add) (by rfl)) ?_)
          refine ExSs.cons (V₁ := [("self", .obj a C dx [("raw", .str x)]), ("ws", .val (.str x)), ("S", .val (.str " ")), ("T", .val (.str "\t")), ("count", .own ((grown w).map dNat)), ("b", .val (dNat w.b)), ("n", .val (dNat (w.n + 1))), ("nt", .val (dNat (w.nt + 1)))]) ?_ ?_
          · refine ExS.ite (q := decide ((w.b : Int) ≥ ((w.count.map dNat).length : Nat))) (EvB.unfreeze (y := "count") (by rfl) (EvB.cmp (EvE.name (by rfl)) (EvE.bcall (bnLen G) (CallR.len (xs := w.count.map dNat) (by rw [List.length_map]; omega)) (EvL.cons (EvE.name (by rfl)) EvL.nil)) CmpR.geI)) (fun h => ?_) (fun h => ?_)
            · have hge : w.b ≥ w.count.length := by have := of_decide_eq_true h; rw [List.length_map] at this; omega
              refine ExSs.freeze (y := "count") (xs := w.count.map dNat) (by rfl) ?_
              refine ExSs.outNext (ExSs.cons (ExS.own (ds := w.count.map dNat ++ (List.replicate ((w.b : Int) - ((w.count.map dNat).length : Nat) + 1).toNat [D.int 0]).flatten) (EvN.add (EvE.name (by rfl)) (EvE.bin (EvE.list (EvL.cons EvE.int EvL.nil) (sizeNat (Nat.le_of_ble_eq_true rfl))) (EvE.bin (EvE.bin (EvE.name (by rfl)) (EvE.bcall (bnLen G) (CallR.len (xs := w.count.map dNat) (by rw [List.length_map]; omega)) (EvL.cons (EvE.name (by rfl)) EvL.nil)) BinR.sub) EvE.int BinR.add) (BinR.mulL (List.cons_ne_nil _ _) (by rw [List.length_map]; omega) (by rw [List.length_map]; omega) (Nat.le_of_ble_eq_true rfl))) (sizeNat (by rw [List.length_map, List.length_flatten]; simp; omega))) (by rfl)) ExSs.nil) ?_
              have e1 : (grown w).map dNat = w.count.map dNat ++ (List.replicate ((w.b : Int) - ((w.count.map dNat).length : Nat) + 1).toNat [D.int 0]).flatten := by
                unfold grown
                rw [if_pos hge, List.map_append, List.map_replicate, rep1', List.length_map, show ((w.b : Int) - (w.count.length : Nat) + 1).toNat = w.b - w.count.length + 1 by omega]
                rfl
              rw [e1]
              show SubV _ _
              repeat (first | exact SubV.nil | refine SubV.cons ?_ (by rfl))
            · have hlt : ¬ w.b ≥ w.count.length := by have := of_decide_eq_false h; rw [List.length_map] at this; omega
              have e1 : grown w = w.count := by unfold grown; rw [if_neg hlt]
              rw [e1]
              exact ExSs.sub ExSs.nil (by show SubV _ _; repeat (first | exact SubV.nil | refine SubV.cons ?_ (by rfl)))
          · have hix : ((grown w).map dNat)[w.b]? = some (dNat ((grown w).getD w.b 0)) := by
              rw [List.getElem?_map, List.getElem?_eq_getElem hg.1]
              simp [hg.1]
            refine ExSs.cons (ExS.setItem (j := w.b) (by rfl) (EvE.unfreeze (y := "count") (by rfl) (EvE.bin (EvE.item (EvE.name (by rfl)) (EvE.name (by rfl)) (SubR.list (j := w.b) (.inl ⟨by omega, by omega⟩) hix (by rw [List.length_map]; omega))) EvE.int BinR.add) (by rfl)) (EvE.name (by rfl)) (by rw [List.length_map]; exact hg.1) (by rw [List.length_map]; omega)) ?_
            refine ExSs.outNext (ExSs.cons (ExS.let EvE.int (by rfl)) ExSs.nil) ?_
            have e1 : (tabbed w).count.map dNat = ((grown w).map dNat).set w.b (.int ((((grown w).getD w.b 0 : Nat) : Int) + 1)) := by
              unfold tabbed
              rw [List.map_set]
              rfl
            rw [e1]
            show SubV _ _
            repeat (first | exact SubV.nil | refine SubV.cons ?_ (by rfl))
        · show SubV (vsW x a C dx (tabbed w)) _
          unfold vsW
          repeat (first | exact SubV.nil | refine SubV.cons ?_ (by rfl))
      · rw [if_neg h9]
        refine .brk (AsR.loc (by rfl)) (ExSs.outBrk (V₁ := setV (vsW x a C dx w) "ch" (.val (.str ⟨#[c]⟩))) (ExSs.stop (ExS.ite (t1 (by rfl) (by rfl)) (fun h => absurd h (by simp [h32])) (fun _ => ExSs.stop (ExS.ite (t2 (by rfl) (by rfl)) (fun h => absurd h (by simp [h9])) (fun _ => ExSs.stop ExS.brk (fun _ h => by cases h))) (fun _ h => by cases h))) (fun _ h => by cases h)) ?_)
        show SubV (vsW x a C dx w) _
        unfold vsW
        repeat (first | exact SubV.nil | refine SubV.cons ?_ (by rfl))
end
end
section
noncomputable def wsOf (x : Str) : WsV := wsGo x.cps.toList ⟨0, 0, 0, []⟩
section
variable {W : Wd} {n : Nat} {sc : Scope} {V V' V1 : Vars} {d : D} {o : Out}
theorem wsGo_len : ∀ (cs : List Nat) (w : WsV), (wsGo cs w).count.length ≤ w.count.length + w.b + 2 * cs.length ∧ (wsGo cs w).b ≤ w.b + cs.length
  | [], w => ⟨by show w.count.length ≤ _; omega, by show w.b ≤ _; omega⟩
  | c :: r, w => by
    unfold wsGo
    split
    · have := wsGo_len r ⟨w.n + 1, w.nt, w.b + 1, w.count⟩
      dsimp only at this
      rw [List.length_cons]
      omega
    · split
      · have h1 := wsGo_len r (tabbed w)
        have h2 : (tabbed w).count.length = (grown w).length := by unfold tabbed; simp
        have h3 := grown_len w
        have h4 : (tabbed w).b = 0 := rfl
        rw [List.length_cons]
        omega
      · rw [List.length_cons]; omega
theorem mkWs (G : Glo W) (Gw : WsOk W) {fp pos : Pos} {e : Expr} {x : Str} (hk : sc.names.lookup ("Whitespace" : Str) = some .globalImplicit) (h1 : EvE W (n + 2) sc V e (.str x)) (ha : x.cps.all (· < 128) = true) (hz : x.cps.size ≤ 100)
    (hst : ∀ env, starEach [e] env = (false, eval e env) :: starEach [] env := by intro _; rfl) (hpl : ∀ env, (backTo pos (starEach [] env)).any (·.1) = false := by intro _; rfl) : EvE W (n + 2) sc V (.Call (.Name "Whitespace" fp) [e] [] pos) (wsD x (wsOf x)) := by
  refine EvE.mkWs Gw hk h1 (fun _ _ _ _ _ => by rfl) (by rfl) (by rfl) (by rfl) (by rfl) (by rfl) (by rfl) (fun a C dx => ?_) hst hpl
  have hlen : x.cps.toList.length ≤ 100 := by simpa using hz
  have hw := wsGo_len x.cps.toList ⟨0, 0, 0, []⟩
  refine ⟨[("self", .obj a C dx (wsFs x (wsOf x)))], ExV.fall ?_, rfl⟩
  refine ExSs.cons (V₁ := [("self", .obj a C dx [("raw", .str x)]), ("ws", .val (.str x))]) (ExS.setAttr Gw (by rfl) (EvE.name (by rfl)) (by decide) (Nat.le_of_ble_eq_true rfl)) ?_
  refine ExSs.cons (ExS.swap2 (a := .str " ") (b := .str "\t") (EvE.tuple (EvL.cons (EvE.clsS Gw (by rfl)) (EvL.cons (EvE.clsT Gw (by rfl)) EvL.nil)) (sizeNat (Nat.le_of_ble_eq_true rfl))) (by rfl) (by rfl) (by intro _; rfl) ?_) ?_
  · intro env he
    obtain ⟨⟨h1, _, _, _, _⟩, _⟩ := he
    cases env
    dsimp only at h1
    subst h1
    rfl
  refine ExSs.cons (ExS.own (EvN.list EvL.nil) (by rfl)) ?_
  refine ExSs.cons (ExS.let3 EvE.int (by rfl) (by rfl) (by rfl) (by rfl)) ?_
  refine ExSs.cons (V₁ := vsW x a C dx (wsOf x)) (ExS.for (EvI.str (EvE.attrO Gw (d := .str x) (by rfl) (by rfl) (by rfl) (by decide)) ha) ?_) ?_
  · have := init_loop (n := n) G x a C dx x.cps.toList ⟨0, 0, 0, []⟩ (by simp; omega) (by simp)
    refine .sub ?_ this
    show SubV _ _
    unfold vsW
    repeat (first | exact SubV.nil | refine SubV.cons ?_ (by rfl))
  have hcl : (wsOf x).count.length ≤ 200 := by have h1 := hw.1; simp only [List.length_nil] at h1; unfold wsOf; omega
  refine ExSs.cons (V₁ := [("self", .obj a C dx [("n", dNat (wsOf x).n), ("raw", .str x)]), ("count", .own ((wsOf x).count.map dNat)), ("b", .val (dNat (wsOf x).b)), ("nt", .val (dNat (wsOf x).nt))]) (ExS.outNext (ExS.setAttr Gw (by rfl) (EvE.name (by rfl)) (by decide) (Nat.le_of_ble_eq_true rfl)) ?_) ?_
  · show SubV _ _
    repeat (first | exact SubV.nil | refine SubV.cons ?_ (by rfl))
  refine ExSs.freeze (y := "count") (xs := (wsOf x).count.map dNat) (by rfl) ?_
  refine ExSs.cons (ExS.setAttr Gw (by rfl) (EvE.name (by rfl)) (by decide) (Nat.le_of_ble_eq_true rfl)) ?_
  refine ExSs.cons (ExS.setAttr Gw (d := wsNorm (wsOf x)) (by rfl) (EvE.tuple (EvL.cons (EvE.bcall (bnTuple G) (CallR.tupleOf (xs := (wsOf x).count.map dNat) (by rw [List.length_map]; omega)) (EvL.cons (EvE.name (by rfl)) EvL.nil)) (EvL.cons (EvE.name (by rfl)) EvL.nil)) (sizeNat (Nat.le_of_ble_eq_true rfl))) (by decide) (Nat.le_of_ble_eq_true rfl)) ?_
  refine ExSs.outNext (ExSs.cons (ExS.setAttr Gw (d := .bool (wsSimple (wsOf x))) (by rfl) ?_ (by decide) (Nat.le_of_ble_eq_true rfl)) ExSs.nil) ?_
  · have hle : decide ((((wsOf x).count.map dNat).length : Int) ≤ 1) = wsSimple (wsOf x) := by unfold wsSimple; rw [List.length_map]
    rw [← hle]
    exact EvE.cmp (EvE.bcall (bnLen G) (CallR.len (xs := (wsOf x).count.map dNat) (by rw [List.length_map]; omega)) (EvL.cons (EvE.name (by rfl)) EvL.nil)) EvE.int CmpR.leI
  · show SubV _ _
    repeat (first | exact SubV.nil | refine SubV.cons ?_ (by rfl))
end
end
section
theorem obLong : typeLookup (.type "object") ("longest_run_of_spaces" : Str) = pure none := by rw [typeLookup_type, builtinLookup_eq_fast]; kernel_rfl
theorem obInd : typeLookup (.type "object") ("indent_level" : Str) = pure none := by rw [typeLookup_type, builtinLookup_eq_fast]; kernel_rfl
theorem obLess : typeLookup (.type "object") ("less" : Str) = pure none := by rw [typeLookup_type, builtinLookup_eq_fast]; kernel_rfl
noncomputable def lrOf (w : WsV) : Int := if (w.b : Int) > (w.count.length : Int) - 1 then w.b else (w.count.length : Int) - 1
noncomputable def ilStep (w : WsV) (ts : Nat) (il : Int) (k : Nat) : Int := il + ((ts : Int) + k * 1).fdiv ts * ((w.count.getD (ts + k) 0 : Nat) : Int)
noncomputable def ilOf (w : WsV) (ts : Nat) : Int := (w.b : Int) + ts * ((List.range (w.count.length - ts)).foldl (ilStep w ts) 0 + w.nt)
noncomputable def lessLoop (v w : WsV) : Nat → Nat → Bool
  | _, 0 => true
  | ts, k + 1 => if ilOf v ts ≥ ilOf w ts then false else lessLoop v w (ts + 1) k
noncomputable def lrMax (v w : WsV) : Int := (if lrOf w > lrOf v then lrOf w else lrOf v) + 1
noncomputable def lessOf (v w : WsV) : Bool := if (v.n : Int) ≥ w.n then false else if (wsSimple v && wsSimple w) = true then decide ((v.nt : Int) ≤ w.nt) else lessLoop v w 2 (lrMax v w + 1 - 2).toNat
theorem bits64 {x : Int} (h : x.natAbs < 2 ^ 60) : Builtin.Int.intBits x ≤ 64 := by
  unfold Builtin.Int.intBits
  split
  · omega
  · rename_i h0
    have : x.natAbs ≠ 0 := by simpa using h0
    have := (Nat.log2_lt this).mpr h
    omega
theorem meth_names2 {m : MethRec} {x z : Str} (h : m.scope.names.lookup x = some .local) (h2 : m.scope.names.lookup z = some .local) : ∀ y ∈ [x, z], m.scope.names.lookup y = some .local ∨ m.scope.names.lookup y = some .cell := fun y hy => by
  simp only [List.mem_cons, List.not_mem_nil, or_false] at hy
  rcases hy with rfl | rfl
  · exact .inl h
  · exact .inl h2
section
variable {W : Wd} {n : Nat} {sc : Scope} {V V' V1 : Vars} {d : D} {o : Out}
theorem m_long (G : Glo W) (Gw : WsOk W) {e : Expr} {x : Str} {w : WsV} {ap pos : Pos} (h0 : EvE W (n + 1) sc V e (wsD x w)) (hz : w.count.length ≤ 1000)
    (he : ∀ env, ∃ pl, eval (.Call (.Attribute e "longest_run_of_spaces" ap) [] [] pos) env = (do let ov ← eval e env; standAt ap.atName; let (f, first) ← holding [ov] (getMethod ov "longest_run_of_spaces" pl); callWith pos f first (backTo pos (starEach [] env)) []) := by intro _; exact ⟨_, rfl⟩) :
    EvE W (n + 1) sc V (.Call (.Attribute e "longest_run_of_spaces" ap) [] [] pos) (.int (lrOf w)) := by
  refine EvE.meth Gw (m := wsM 2) (.tail _ (.head _)) (by rfl) (names := ["self"]) (fs := wsFs x w) h0 (by rfl) obLong EvA.nil ?_ (by decide) rfl ?_ (by rfl) (by rfl) (by rfl) (V' := [("self", .val (wsD x w)), ("count", .val (.tuple (w.count.map dNat))), ("trailing", .val (dNat w.b))]) ?_ he
  · intro pm cd doc vs h
    obtain ⟨a, rfl⟩ := len1 h
    rfl
  · intro y hy
    rw [List.mem_singleton.mp hy]
    exact .inl (by rfl)
  · refine ExV.cons (ExS.assign (EvX.of (d := wsNorm w) (EvE.attr Gw (fs := wsFs x w) (EvE.name (by rfl)) (by rfl) (by rfl) (by decide))) (AsR.tuple (AsRs.cons (AsR.loc (by rfl)) (AsRs.cons (AsR.loc (by rfl)) AsRs.nil)))) (ExV.ret ?_)
    have hm := CallR.max2 (W := W) (n := n) (a := ((w.count.map dNat).length : Nat) - 1) (b := w.b)
    rw [show (if (w.b : Int) > (((w.count.map dNat).length : Nat) : Int) - 1 then (w.b : Int) else ((w.count.map dNat).length : Nat) - 1) = lrOf w by unfold lrOf; rw [List.length_map]] at hm
    exact EvE.bcall (bnMax G) hm (EvL.cons (EvE.bin (EvE.bcall (bnLen G) (CallR.lenT (xs := w.count.map dNat) (by rw [List.length_map]; omega)) (EvL.cons (EvE.name (by rfl)) EvL.nil)) EvE.int BinR.sub) (EvL.cons (EvE.name (by rfl)) EvL.nil))
theorem m_indent (G : Glo W) (Gw : WsOk W) {e a : Expr} {x : Str} {w : WsV} {ts : Nat} {ap pos : Pos} (h0 : EvE W (n + 1) sc V e (wsD x w)) (h1 : EvE W (n + 1) sc V a (.int ts)) (hz : w.count.length ≤ 1000) (t1 : 1 ≤ ts) (t2 : ts ≤ 1000)
    (hs : ∀ env, starEach [a] env = (false, eval a env) :: starEach [] env := by intro _; rfl)
    (he : ∀ env, ∃ pl, eval (.Call (.Attribute e "indent_level" ap) [a] [] pos) env = (do let ov ← eval e env; standAt ap.atName; let (f, first) ← holding [ov] (getMethod ov "indent_level" pl); callWith pos f first (backTo pos (starEach [a] env)) []) := by intro _; exact ⟨_, rfl⟩) :
    EvE W (n + 1) sc V (.Call (.Attribute e "indent_level" ap) [a] [] pos) (.int (ilOf w ts)) := by
  refine EvE.meth Gw (m := wsM 3) (.tail _ (.tail _ (.head _))) (by rfl) (names := ["self", "tabsize"]) (fs := wsFs x w) (ds := [.int ts]) h0 (by rfl) obInd (EvA.of (EvL.cons h1 EvL.nil hs) hs) ?_ (by decide) rfl (meth_names2 (by rfl) (by rfl)) (by rfl) (by rfl) (by rfl) (V' := [("self", .val (wsD x w)), ("tabsize", .val (.int ts)), ("count", .val (.tuple (w.count.map dNat))), ("trailing", .val (dNat w.b)), ("il", .val (.int ((List.range (w.count.length - ts)).foldl (ilStep w ts) 0)))]) ?_ he
  · intro pm cd doc vs h
    obtain ⟨a, b, rfl⟩ := len2 h
    rfl
  · refine ExV.cons (ExS.assign (EvX.of (d := wsNorm w) (EvE.attr Gw (fs := wsFs x w) (EvE.name (by rfl)) (by rfl) (by rfl) (by decide))) (AsR.tuple (AsRs.cons (AsR.loc (by rfl)) (AsRs.cons (AsR.loc (by rfl)) AsRs.nil)))) ?_
    refine ExV.cons (ExS.let EvE.int (by rfl)) ?_
    refine ExV.cons (V₁ := [("self", .val (wsD x w)), ("tabsize", .val (.int ts)), ("count", .val (.tuple (w.count.map dNat))), ("trailing", .val (dNat w.b)), ("il", .val (.int ((List.range (w.count.length - ts)).foldl (ilStep w ts) 0)))]) (ExS.for (EvI.range2 (bnRange G) (EvE.name (by rfl)) (EvE.bcall (bnLen G) (CallR.lenT (xs := w.count.map dNat) (by rw [List.length_map]; omega)) (EvL.cons (EvE.name (by rfl)) EvL.nil)) (by omega) (by omega) (by omega) (by rw [List.length_map]; omega)) ?_) (ExV.ret ?_)
    · rw [show (((w.count.map dNat).length : Nat) - (ts : Int)).toNat = w.count.length - ts by rw [List.length_map]; omega]
      refine ForR.fold (W := W) (n := n) (fun (k : Nat) => D.int ((ts : Int) + k * 1)) (fun (il : Int) => [("self", .val (wsD x w)), ("tabsize", .val (.int ts)), ("count", .val (.tuple (w.count.map dNat))), ("trailing", .val (dNat w.b)), ("il", .val (.int il))]) (ilStep w ts) (fun _ _ => True) (List.range (w.count.length - ts)) ?_ 0 trivial
      intro k il k' ha _
      obtain rfl : k = k' := by
        rw [List.getElem?_range (by have := (List.getElem?_eq_some_iff.mp ha).1; simpa using this)] at ha
        exact Option.some.inj ha
      have hk : k < w.count.length - ts := by have := (List.getElem?_eq_some_iff.mp ha).1; simpa using this
      have hix : (w.count.map dNat)[ts + k]? = some (dNat (w.count.getD (ts + k) 0)) := by
        rw [List.getElem?_map, List.getElem?_eq_getElem (by omega)]
        simp [show ts + k < w.count.length by omega]
      have hfd : (((ts : Int) + k * 1).fdiv ts).natAbs < 2 ^ 60 := by
        have := fdiv_abs ((ts : Int) + k * 1) ts
        omega
      refine ⟨_, _, AsR.loc (by rfl), ExSs.cons (ExS.let (EvE.bin (EvE.name (by rfl)) (EvE.bin (EvE.bin (EvE.name (by rfl)) (EvE.name (by rfl)) (BinR.fdiv (by omega) (PyProof.noPylong_small (by omega)))) (EvE.item (b := .int ((ts + k : Nat) : Int)) (EvE.name (d := .tuple (w.count.map dNat)) (by rfl)) (EvE.name (by rw [show (((ts + k : Nat) : Int)) = (ts : Int) + k * 1 by omega]; rfl)) (SubR.tuple hix (by rw [List.length_map]; omega))) (BinR.mul (IntMulOk.of_left (bits64 hfd)))) BinR.add) (by rfl)) ExSs.nil, ?_, trivial⟩
      repeat (first | exact SubV.nil | refine SubV.cons ?_ (by rfl))
    · refine EvE.bin (EvE.name (by rfl)) (EvE.bin (EvE.name (by rfl)) (EvE.bin (EvE.name (by rfl)) (EvE.attr Gw (fs := wsFs x w) (d := dNat w.nt) (EvE.name (by rfl)) (by rfl) (by rfl) (by decide)) BinR.add) (BinR.mul (IntMulOk.of_left (bits64 ?_)))) BinR.add
      omega
end
end
section
section
variable {W : Wd} {n : Nat} {sc : Scope} {V V' V1 : Vars} {d : D} {o : Out}
theorem less_loop (G : Glo W) (Gw : WsOk W) (x y : Str) (v w : WsV) (hv : v.count.length ≤ 1000) (hw : w.count.length ≤ 1000) : ∀ (k ts : Nat), 1 ≤ ts → ts + k ≤ 1000 → ∀ V : Vars, V.lookup ("self" : Str) = some (.val (wsD x v)) → V.lookup ("other" : Str) = some (.val (wsD y w)) →
    ∃ V2, ForR W (n + 1) (wsM 6).scope (forT (nth (wsM 6).body 3)) (forB (nth (wsM 6).body 3)) V (rangeD ts k 1) (if lessLoop v w ts k = true then .next V2 else .ret (.bool false)) := by
  intro k
  induction k with
  | zero => intro ts _ _ V _ _; exact ⟨V, .nil⟩
  | succ k ih =>
    intro ts h1 h2 V hs ho
    have hs' : (setV V ("ts" : Str) (.val (.int (ts : Nat)))).lookup ("self" : Str) = some (.val (wsD x v)) := by rw [setV_lookup, if_neg (by decide)]; exact hs
    have ho' : (setV V ("ts" : Str) (.val (.int (ts : Nat)))).lookup ("other" : Str) = some (.val (wsD y w)) := by rw [setV_lookup, if_neg (by decide)]; exact ho
    have ht' : (setV V ("ts" : Str) (.val (.int (ts : Nat)))).lookup ("ts" : Str) = some (.val (.int (ts : Nat))) := by rw [setV_lookup, if_pos rfl]
    rw [rangeD_succ]
    unfold lessLoop
    by_cases hc : ilOf v ts ≥ ilOf w ts
    · rw [if_pos hc]
      refine ⟨V, ?_⟩
      show ForR _ _ _ _ _ _ _ (.ret (.bool false))
      exact (.ret (AsR.loc (by rfl)) (ExSs.stop (ExS.ite (EvB.cmp (m_indent G Gw (EvE.name hs') (EvE.name ht') hv h1 (by omega)) (m_indent G Gw (EvE.name ho') (EvE.name ht') hw h1 (by omega)) CmpR.geI) (fun _ => ExSs.ret (ExS.ret EvE.bool)) (fun h => absurd hc (of_decide_eq_false h))) (fun _ h => by cases h)))
    · rw [if_neg hc]
      obtain ⟨V2, h⟩ := ih (ts + 1) (by omega) (by omega) _ hs' ho'
      rw [show ((ts + 1 : Nat) : Int) = (ts : Int) + 1 by omega] at h
      exact ⟨V2, .more (AsR.loc (by rfl)) (ExSs.cons (ExS.ite (EvB.cmp (m_indent G Gw (EvE.name hs') (EvE.name ht') hv h1 (by omega)) (m_indent G Gw (EvE.name ho') (EvE.name ht') hw h1 (by omega)) CmpR.geI) (fun h => absurd (of_decide_eq_true h) hc) (fun _ => ExSs.nil)) ExSs.nil) h⟩
theorem ExSs.toV {l : List Stmt} (h : ExSs W n sc V l (.ret d)) : ∀ (A : Around) (s₀ : Shared) (g₀ : Vis) (R : List (Addr × Obj)) (env : Env) (g : Vis) (s : Shared) (Q : Flow → Shared → Prop) (E : Value → Shared → Prop), EnvK true sc env → St W n A s₀ g₀ R env V g s →
    (∀ f g' s', (∀ b o, g b = some o → g' b = some o) → FlowIs W g' d f → St W n A s₀ g₀ R env [] g' s' → Q f s') → wpAny (model W.prog W.w) A (execs l env) Q E s := fun A s₀ g₀ R env g s Q E he X hq =>
  h A s₀ g₀ R env g s Q E he X fun f g1 s1 m1 ok => by
    cases f with
    | ret v => exact hq _ g1 s1 m1 ok.1 (St.subV ok.2.choose_spec (fun _ _ h => by cases h))
    | _ => exact ok.elim
theorem ExV.ofRet {l : List Stmt} (h : ExSs W n sc V l (.ret d)) : ExV W n sc V l d [] := h.toV
theorem m_less (G : Glo W) (Gw : WsOk W) {e a : Expr} {x y : Str} {v w : WsV} {ap pos : Pos} (h0 : EvE W (n + 2) sc V e (wsD x v)) (h1 : EvE W (n + 2) sc V a (wsD y w)) (hv : v.count.length ≤ 500) (hw : w.count.length ≤ 500) (hvb : v.b ≤ 500) (hwb : w.b ≤ 500)
    (hs : ∀ env, starEach [a] env = (false, eval a env) :: starEach [] env := by intro _; rfl)
    (he : ∀ env, ∃ pl, eval (.Call (.Attribute e "less" ap) [a] [] pos) env = (do let ov ← eval e env; standAt ap.atName; let (f, first) ← holding [ov] (getMethod ov "less" pl); callWith pos f first (backTo pos (starEach [a] env)) []) := by intro _; exact ⟨_, rfl⟩) :
    EvE W (n + 2) sc V (.Call (.Attribute e "less" ap) [a] [] pos) (.bool (lessOf v w)) := by
  refine EvE.meth Gw (m := wsM 6) (.tail _ (.tail _ (.tail _ (.head _)))) (by rfl) (names := ["self", "other"]) (fs := wsFs x v) (ds := [wsD y w]) h0 (by rfl) obLess (EvA.of (EvL.cons h1 EvL.nil hs) hs) ?_ (by decide) rfl (meth_names2 (by rfl) (by rfl)) (by rfl) (by rfl) (by rfl) (V' := []) (ExV.ofRet ?_) he
  · intro pm cd doc vs h
    obtain ⟨a, b, rfl⟩ := len2 h
    rfl
  · have an : ∀ {V : Vars} {z : Str} {p ap : Pos} {x : Str} {v : WsV}, V.lookup z = some (.val (wsD x v)) → (z == ("__debug__" : Str)) = false → EvE W (n + 1) (wsM 6).scope V (.Attribute (.Name z p) "n" ap) (dNat v.n) := fun {V z p ap x v} h hd => EvE.attr Gw (fs := wsFs x v) (EvE.name h hd) (by rfl) (by rfl) (by decide)
    have at' : ∀ {V : Vars} {z : Str} {p ap : Pos} {x : Str} {v : WsV}, V.lookup z = some (.val (wsD x v)) → (z == ("__debug__" : Str)) = false → EvE W (n + 1) (wsM 6).scope V (.Attribute (.Name z p) "nt" ap) (dNat v.nt) := fun {V z p ap x v} h hd => EvE.attr Gw (fs := wsFs x v) (EvE.name h hd) (by rfl) (by rfl) (by decide)
    have as : ∀ {V : Vars} {z : Str} {p ap : Pos} {x : Str} {v : WsV}, V.lookup z = some (.val (wsD x v)) → (z == ("__debug__" : Str)) = false → EvB W (n + 1) (wsM 6).scope V (.Attribute (.Name z p) "is_simple" ap) (wsSimple v) := fun {V z p ap x v} h hd => EvB.ofBool (EvE.attr Gw (fs := wsFs x v) (EvE.name h hd) (by rfl) (by rfl) (by decide))
    unfold lessOf
    by_cases hn : (v.n : Int) ≥ w.n
    · rw [if_pos hn]
      exact ExSs.stop (ExS.ite (EvB.cmp (an (by rfl) (by decide)) (an (by rfl) (by decide)) CmpR.geI) (fun _ => ExSs.ret (ExS.ret EvE.bool)) (fun h => absurd hn (of_decide_eq_false h))) (fun _ h => by cases h)
    · rw [if_neg hn]
      refine ExSs.cons (ExS.ite (EvB.cmp (an (by rfl) (by decide)) (an (by rfl) (by decide)) CmpR.geI) (fun h => absurd (of_decide_eq_true h) hn) (fun _ => ExSs.nil)) ?_
      by_cases hsm : (wsSimple v && wsSimple w) = true
      · rw [if_pos hsm]
        exact ExSs.stop (ExS.ite (EvB.and2 (as (by rfl) (by decide)) (fun _ => as (by rfl) (by decide)) rfl) (fun _ => ExSs.ret (ExS.ret (EvE.cmp (at' (by rfl) (by decide)) (at' (by rfl) (by decide)) CmpR.leI))) (fun h => absurd hsm (by rw [h]; decide))) (fun _ h => by cases h)
      · rw [if_neg hsm]
        refine ExSs.cons (ExS.ite (EvB.and2 (as (by rfl) (by decide)) (fun _ => as (by rfl) (by decide)) rfl) (fun h => absurd h hsm) (fun _ => ExSs.nil)) ?_
        have hlr : ∀ u : WsV, u.count.length ≤ 500 → u.b ≤ 500 → lrOf u ≤ 500 ∧ -1 ≤ lrOf u := fun u h1 h2 => by unfold lrOf; split <;> omega
        have hm1 := hlr v hv hvb
        have hm2 := hlr w hw hwb
        have hmx : lrMax v w ≤ 501 ∧ 0 ≤ lrMax v w := by unfold lrMax; split <;> omega
        refine ExSs.cons (ExS.let (d := .int (lrMax v w)) (EvE.bin (EvE.bcall (bnMax G) (CallR.max2 (a := lrOf v) (b := lrOf w)) (EvL.cons (m_long G Gw (EvE.name (by rfl)) (by omega)) (EvL.cons (m_long G Gw (EvE.name (by rfl)) (by omega)) EvL.nil))) EvE.int BinR.add) (by rfl)) ?_
        obtain ⟨V2, hF⟩ := less_loop (n := n) G Gw x y v w (by omega) (by omega) (lrMax v w + 1 - 2).toNat 2 (by decide) (by omega) _ (show (setV [("self", .val (wsD x v)), ("other", .val (wsD y w))] ("n" : Str) (.val (.int (lrMax v w)))).lookup ("self" : Str) = some (.val (wsD x v)) from by rfl) (by rfl)
        cases hll : lessLoop v w 2 (lrMax v w + 1 - 2).toNat with
        | true =>
          rw [hll] at hF
          exact ExSs.cons (ExS.for (EvI.range2 (bnRange G) EvE.int (EvE.bin (EvE.name (by rfl)) EvE.int BinR.add) (by omega) (by omega) (by omega) (by omega)) hF) (ExSs.ret (ExS.ret EvE.bool))
        | false =>
          rw [hll] at hF
          exact ExSs.stop (ExS.for (EvI.range2 (bnRange G) EvE.int (EvE.bin (EvE.name (by rfl)) EvE.int BinR.add) (by omega) (by omega) (by omega) (by omega)) hF) (fun _ h => by cases h)
end
end
section
/-- a line that is read: its text, its lead, its word, its number -/
structure PL where
  x : Str
  w : WsV
  wd : Int
  own : Int
noncomputable def hitB (p : PL) : Bool := (extD.lookup (Txt.slice p.x (some (p.w.n : Nat)) (some ((p.w.n + 2 : Nat) : Int)))).isSome
noncomputable def behB (p : PL) : Nat := p.w.n + (if hitB p = true then 2 else 1)
structure PL.Ok (p : PL) : Prop where
  ascii : p.x.cps.all (· < 128) = true
  size : p.x.cps.size ≤ 50
  ws : wsOf p.x = p.w
  look : extD.lookup (Txt.slice p.x (some (p.w.n : Nat)) (some (behB p : Int))) = some (.int p.wd)
  num : Txt.slice p.x (some (behB p : Int)) none = Str.ofString (toString p.own)
  own0 : 0 ≤ p.own
  own1 : p.own < 1000
structure PSt where
  wait : List (PL × Nat)
  words : List (Int × Int)
  counts : List Int
noncomputable def popW (p : PL) : List (PL × Nat) → List (PL × Nat)
  | [] => []
  | q :: r => if lessOf q.1.w p.w = true then q :: r else popW p r
noncomputable def upC (ws : List (PL × Nat)) (cs : List Int) : List Int := match ws with
  | [] => cs
  | q :: _ => cs.set q.2 (cs.getD q.2 0 + 1)
noncomputable def readStep (st : PSt) (p : PL) : PSt := ⟨(p, st.counts.length) :: popW p st.wait, st.words ++ [(p.wd, p.own)], upC (popW p st.wait) st.counts ++ [0]⟩
noncomputable def readAll (ps : List PL) : PSt := ps.foldl readStep ⟨[], [], []⟩
noncomputable def pairStep (r : List Int) (q : (Int × Int) × Int) : List Int := r ++ [q.1.1, 256 + 8 * q.1.2 + q.2]
noncomputable def pageRow (ps : List PL) : List Int := ((readAll ps).words.zip (readAll ps).counts).foldl pairStep []
noncomputable def encW (q : PL × Nat) : D := .tuple [wsD q.1.x q.1.w, dNat q.2]
noncomputable def encP (q : Int × Int) : D := .tuple [.int q.1, .int q.2]
noncomputable def linesD (ps : List PL) : D := .list (ps.map fun p => .str p.x)
noncomputable def vsP (ps : List PL) (st : PSt) : Vars := [("lines", .val (linesD ps)), ("waiting", .own (st.wait.reverse.map encW)), ("words", .own (st.words.map encP)), ("counts", .own (st.counts.map .int))]
structure PSt.Ok (st : PSt) (k : Nat) : Prop where
  wl : st.wait.length ≤ k
  dl : st.words.length = k
  cl : st.counts.length = k
  wi : ∀ q ∈ st.wait, q.2 < st.counts.length
  wo : ∀ q ∈ st.wait, q.1.Ok
theorem popW_sub (p : PL) : ∀ l : List (PL × Nat), (popW p l).length ≤ l.length ∧ ∀ q ∈ popW p l, q ∈ l
  | [] => ⟨Nat.le_refl _, fun q h => h⟩
  | q :: r => by
    unfold popW
    split
    · exact ⟨Nat.le_refl _, fun _ h => h⟩
    · obtain ⟨h1, h2⟩ := popW_sub p r
      exact ⟨by rw [List.length_cons]; omega, fun q' h => .tail _ (h2 q' h)⟩
theorem upC_len (ws : List (PL × Nat)) (cs : List Int) : (upC ws cs).length = cs.length := by cases ws <;> simp [upC]
theorem readStep_ok {st : PSt} {k : Nat} {p : PL} (h : st.Ok k) (hp : p.Ok) : (readStep st p).Ok (k + 1) := by
  obtain ⟨p1, p2⟩ := popW_sub p st.wait
  have h1 := h.wl
  have h2 := h.dl
  have h3 := h.cl
  have hcl : (readStep st p).counts.length = k + 1 := by unfold readStep; dsimp only; rw [List.length_append, upC_len]; simp; omega
  refine ⟨by unfold readStep; dsimp only; rw [List.length_cons]; omega, by unfold readStep; simp; omega, hcl, fun q hq => ?_, fun q hq => ?_⟩
  · rw [hcl]
    rcases List.mem_cons.mp hq with rfl | hq
    · dsimp only; omega
    · have := h.wi q (p2 q hq); omega
  · rcases List.mem_cons.mp hq with rfl | hq
    · exact hp
    · exact h.wo q (p2 q hq)
theorem wsOf_sm {p : PL} (h : p.Ok) : p.w.count.length ≤ 500 ∧ p.w.b ≤ 500 := by
  have := wsGo_len p.x.cps.toList ⟨0, 0, 0, []⟩
  have hs := h.size
  have e : wsGo p.x.cps.toList ⟨0, 0, 0, []⟩ = p.w := h.ws
  rw [e] at this
  have hl : p.x.cps.toList.length = p.x.cps.size := by simp
  rw [hl] at this
  dsimp only [List.length_nil] at this
  omega
section
variable {W : Wd} {n : Nat}
noncomputable def vsQ (ps : List PL) (line : PL) (wait : List (PL × Nat)) (words : List (Int × Int)) (counts : List Int) : Vars := [("lines", .val (linesD ps)), ("waiting", .own (wait.reverse.map encW)), ("words", .own (words.map encP)), ("counts", .own (counts.map .int)), ("line", .val (.str line.x)), ("here", .val (wsD line.x line.w))]
theorem wait_last (q : PL × Nat) (r : List (PL × Nat)) : ((q :: r).reverse.map encW)[r.length]? = some (encW q) := by
  rw [List.reverse_cons, List.map_append]
  simp
theorem wait_len (l : List (PL × Nat)) : (l.reverse.map encW).length = l.length := by simp
theorem lenPos (G : Glo W) {sc : Scope} {V : Vars} {x : Str} {xs : List D} {np xp p1 p2 pos : Pos} {k : Nat} (hk : sc.names.lookup ("len" : Str) = some .globalImplicit) (hx : V.lookup x = some (.val (.list xs))) (hd : (x == ("__debug__" : Str)) = false) (hz : xs.length ≤ 1000) : EvB W n sc V (.Compare (.Call (.Name "len" np) [.Name x xp] [] p1) [.Gt] [.Constant (.int 0) k p2] pos) (decide (xs ≠ [])) := by
  have := EvB.cmp (W := W) (n := n) (sc := sc) (V := V) (pos := pos) (EvE.bcall (fp := np) (pos := p1) (e := .Name x xp) (bnLen G hk) (CallR.len (xs := xs) (by omega)) (EvL.cons (EvE.name hx hd) EvL.nil)) (EvE.int (i := 0) (k := k) (pos := p2)) CmpR.gtI
  have e : decide ((xs.length : Int) > 0) = decide (xs ≠ []) := by cases xs <;> simp
  rwa [e] at this
theorem page_while (G : Glo W) (Gw : WsOk W) (ps : List PL) (line : PL) (hline : line.Ok) (words : List (Int × Int)) (counts : List Int) : ∀ wait : List (PL × Nat), wait.length ≤ 100 → (∀ q ∈ wait, q.1.Ok) →
    WhileR W (n + 2) (fnScope (stAt 76)) (whT (nth (forB (nth (fnBody (stAt 76)) 3)) 1)) (forB (nth (forB (nth (fnBody (stAt 76)) 3)) 1)) wait.length (vsQ ps line wait words counts) (.next (vsQ ps line (popW line wait) words counts)) := by
  intro wait
  induction wait with
  | nil =>
    intro _ _
    refine .done (EvB.and2 (p := false) (q := false) ?_ (fun h => by cases h) rfl)
    exact EvB.unfreeze (y := "waiting") (xs := []) (by rfl) (lenPos (xs := []) G (by rfl) (by rfl) (by decide) (by decide))
  | cons q r ih =>
    intro hl ho
    rw [List.length_cons] at hl
    have okq := wsOf_sm (ho q (.head _))
    have okl := wsOf_sm hline
    have test : EvB W (n + 2) (fnScope (stAt 76)) (vsQ ps line (q :: r) words counts) (whT (nth (forB (nth (fnBody (stAt 76)) 3)) 1)) (!lessOf q.1.w line.w) := by
      refine EvB.and2 (p := true) (q := !lessOf q.1.w line.w) ?_ (fun _ => ?_) (by simp)
      · have := lenPos (W := W) (n := n + 2) (sc := fnScope (stAt 76)) (V := setV (vsQ ps line (q :: r) words counts) "waiting" (.val (.list ((q :: r).reverse.map encW)))) (x := "waiting") (xs := (q :: r).reverse.map encW) (np := default) (xp := default) (p1 := default) (p2 := default) (pos := default) (k := 0) G (by rfl) (by rfl) (by decide) (by rw [wait_len, List.length_cons]; omega)
        refine EvB.unfreeze (y := "waiting") (xs := (q :: r).reverse.map encW) (by rfl) ?_
        have hne : decide ((q :: r).reverse.map encW ≠ []) = true := by
          refine decide_eq_true fun h => ?_
          have := congrArg List.length h
          rw [wait_len] at this
          simp at this
        rw [← hne]
        exact lenPos G (by rfl) (by rfl) (by decide) (by rw [wait_len, List.length_cons]; omega)
      · refine EvB.not (EvB.unfreeze (y := "waiting") (xs := (q :: r).reverse.map encW) (by rfl) (EvB.ofBool ?_))
        refine m_less G Gw (x := q.1.x) (y := line.x) (v := q.1.w) (w := line.w) (EvE.item (a := encW q) (EvE.item (EvE.name (by rfl)) (EvE.un EvE.int UnR.neg) (SubR.list (.inr ⟨by omega, by rw [wait_len, List.length_cons]; omega, rfl⟩) ?_ (by rw [wait_len, List.length_cons]; omega))) EvE.int (SubR.tuple (j := 0) (by rfl) (Nat.le_of_ble_eq_true rfl))) (EvE.name (by rfl)) okq.1 okl.1 okq.2 okl.2
        rw [wait_len, List.length_cons, show ((-1 : Int) + ((r.length + 1 : Nat) : Int)).toNat = r.length by omega]
        exact wait_last q r
    unfold popW
    by_cases hc : lessOf q.1.w line.w = true
    · rw [if_pos hc]
      rw [hc] at test
      exact .done test
    · rw [if_neg hc]
      rw [show lessOf q.1.w line.w = false by simpa using hc] at test
      have e1 : vsQ ps line (q :: r) words counts = ([("lines", .val (linesD ps)), ("waiting", .own (r.reverse.map encW ++ [encW q])), ("words", .own (words.map encP)), ("counts", .own (counts.map .int)), ("line", .val (.str line.x)), ("here", .val (wsD line.x line.w))] : Vars) := by
        unfold vsQ; rw [List.reverse_cons, List.map_append]; rfl
      refine .more test (ExSs.outNext (ExSs.cons (ExS.expr (EvX.pop (y := "waiting") (xs := r.reverse.map encW) (d := encW q) (by rw [e1]; rfl) (by rw [wait_len]; omega)) (EnvK.hi _)) ExSs.nil) ?_) (ih (by omega) (fun q' h => ho q' (.tail _ h)))
      show SubV _ _
      unfold vsQ
      repeat (first | exact SubV.nil | refine SubV.cons ?_ (by rfl))
end
end
section
theorem pairs_zip (ws : List (Int × Int)) (cs : List Int) : zipD (ws.map encP) (cs.map .int) = (ws.zip cs).map fun q => D.tuple [encP q.1, .int q.2] := by
  unfold zipD
  rw [List.zip_map, List.map_map]
  rfl
theorem foldl_ok (ps : List PL) : ∀ (st : PSt) (k : Nat), st.Ok k → (∀ p ∈ ps, p.Ok) → (ps.foldl readStep st).Ok (k + ps.length) := by
  induction ps with
  | nil => intro st k h _; exact h
  | cons p r ih =>
    intro st k h hp
    have := ih (readStep st p) (k + 1) (readStep_ok h (hp p (.head _))) (fun q hq => hp q (.tail _ hq))
    rw [List.foldl_cons, List.length_cons]
    rwa [show k + (r.length + 1) = k + 1 + r.length by omega]
section
variable {W : Wd} {n : Nat}
theorem page_body (G : Glo W) (Gw : WsOk W) (ps : List PL) (p : PL) (hp : p.Ok) (st : PSt) (k : Nat) (hk : k ≤ 90) (hst : st.Ok k) : ExSs W (n + 2) (fnScope (stAt 76)) (setV (vsP ps st) "line" (.val (.str p.x))) (forB (nth (fnBody (stAt 76)) 3)) (.next (vsP ps (readStep st p))) := by
  have hcps := hp.size
  have hlen : p.x.length ≤ 50 := hp.size
  have h1 := hst.wl
  have h2 := hst.dl
  have h3 := hst.cl
  obtain ⟨w1, w2⟩ := popW_sub p st.wait
  refine ExSs.cons (V₁ := vsQ ps p st.wait st.words st.counts) (ExS.outNext (ExS.let (d := wsD p.x p.w) (by have := mkWs (W := W) (n := n) (sc := fnScope (stAt 76)) (V := setV (vsP ps st) "line" (.val (.str p.x))) (fp := default) (pos := default) (e := .Name "line" default) G Gw (by rfl) (EvE.name (by rfl)) hp.ascii (by omega); rw [← hp.ws]; exact mkWs G Gw (by rfl) (EvE.name (by rfl)) hp.ascii (by omega)) (by rfl)) ?_) ?_
  · show SubV _ _
    unfold vsQ
    repeat (first | exact SubV.nil | refine SubV.cons ?_ (by rfl))
  refine ExSs.cons (ExS.while (page_while G Gw ps p hp st.words st.counts st.wait (by omega) hst.wo)) ?_
  refine ExSs.cons (V₁ := vsQ ps p (popW p st.wait) st.words (upC (popW p st.wait) st.counts)) ?_ ?_
  · refine ExS.ite (q := decide ((popW p st.wait).reverse.map encW ≠ [])) (EvB.unfreeze (y := "waiting") (xs := (popW p st.wait).reverse.map encW) (by rfl) (lenPos G (by rfl) (by rfl) (by decide) (by rw [wait_len]; omega))) (fun h => ?_) (fun h => ?_)
    · cases hw : popW p st.wait with
      | nil => rw [hw] at h; exact absurd h (by decide)
      | cons q r =>
        have hq : q.2 < st.counts.length := hst.wi q (w2 q (by rw [hw]; exact .head _))
        have hrl : r.length ≤ 90 := by rw [hw, List.length_cons] at w1; omega
        have hix : (st.counts.map D.int)[q.2]? = some (.int (st.counts.getD q.2 0)) := by
          rw [List.getElem?_map, List.getElem?_eq_getElem hq]
          simp [hq]
        refine ExSs.outNext (ExSs.cons (ExS.augItem (y := "counts") (xs := st.counts.map .int) (j := q.2) (by rfl) (EvE.unfreeze (y := "waiting") (xs := (q :: r).reverse.map encW) (by rfl) (EvE.item (a := encW q) (EvE.item (EvE.name (by rfl)) (EvE.un EvE.int UnR.neg) (SubR.list (.inr ⟨by omega, by rw [wait_len, List.length_cons]; omega, rfl⟩) ?_ (by rw [wait_len, List.length_cons]; omega))) EvE.int (SubR.tuple (j := 1) (by rfl) (Nat.le_of_ble_eq_true rfl))) (by rfl)) hix EvE.int InpR.add (by rw [List.length_map]; omega)) ExSs.nil) ?_
        · rw [wait_len, List.length_cons, show ((-1 : Int) + ((r.length + 1 : Nat) : Int)).toNat = r.length by omega]
          exact wait_last q r
        · have e1 : (upC (q :: r) st.counts).map D.int = (st.counts.map D.int).set q.2 (.int (st.counts.getD q.2 0 + 1)) := by
            unfold upC; rw [List.map_set]
          show SubV _ _
          unfold vsQ
          rw [e1]
          repeat (first | exact SubV.nil | refine SubV.cons ?_ (by rfl))
    · cases hw : popW p st.wait with
      | nil => exact ExSs.nil
      | cons q r =>
        rw [hw] at h
        have := of_decide_eq_false h
        exfalso
        refine this fun z => ?_
        have := congrArg List.length z
        rw [wait_len] at this
        simp at this
  · have hul := upC_len (popW p st.wait) st.counts
    refine ExSs.cons (ExS.expr (EvX.append (d := encW (p, st.counts.length)) (by rfl) (EvX.of (EvE.tuple (EvL.cons (EvE.name (by rfl)) (EvL.cons (EvE.unfreeze (y := "counts") (xs := (upC (popW p st.wait) st.counts).map .int) (by rfl) (d := .int st.counts.length) ?_ (by rfl)) EvL.nil)) (sizeNat (Nat.le_of_ble_eq_true rfl)))) (by rfl) (sizeNat (by rw [wait_len]; omega))) (EnvK.hi _)) ?_
    · rw [show (st.counts.length : Int) = ((((upC (popW p st.wait) st.counts).map D.int).length : Nat) : Int) by rw [List.length_map, hul]]
      exact EvE.bcall (bnLen G) (CallR.len (xs := (upC (popW p st.wait) st.counts).map D.int) (by rw [List.length_map]; omega)) (EvL.cons (EvE.name (by rfl)) EvL.nil)
    refine ExSs.cons (ExS.expr (EvX.append (d := .int 0) (by rfl) (EvX.of EvE.int) (by rfl) (sizeNat (by rw [List.length_map]; omega))) (EnvK.hi _)) ?_
    obtain ⟨gv, hgv, rgv⟩ := G.ext
    have hn : ∀ {V : Vars} {p1 p2 : Pos}, V.lookup ("here" : Str) = some (.val (wsD p.x p.w)) → EvE W (n + 2) (fnScope (stAt 76)) V (.Attribute (.Name "here" p1) "n" p2) (dNat p.w.n) := fun {V p1 p2} h => EvE.attr Gw (fs := wsFs p.x p.w) (EvE.name h) (by rfl) (by rfl) (by decide)
    refine ExSs.cons (ExS.let (d := .int (behB p : Int)) ?_ (by rfl)) ?_
    · rw [show (behB p : Int) = (p.w.n : Int) + (if hitB p = true then 2 else 1) by unfold behB; split <;> omega]
      refine EvE.bin (hn (by rfl)) (EvE.ifexp (q := hitB p) (d := .int (if hitB p = true then 2 else 1)) (EvB.ofBool (EvE.call (by rfl) ((fn_contains (n := n) G extD (Txt.slice p.x (some (p.w.n : Nat)) (some ((p.w.n + 2 : Nat) : Int)))).up (by omega)) (EvL.cons (EvE.glob (by rfl) hgv rgv) (EvL.cons ?_ EvL.nil)))) (fun h => by rw [h]; exact EvE.int) (fun h => by rw [h]; exact EvE.int)) BinR.add
      exact slice_str_go (EvE.name (by rfl)) (EvP.some (hn (by rfl))) (EvP.some (EvE.bin (hn (by rfl)) EvE.int BinR.add)) (by omega) (by intro _ _; exact ⟨_, rfl⟩)
    refine ExSs.outNext (ExSs.cons (ExS.expr (EvX.append (d := encP (p.wd, p.own)) (by rfl) (EvX.of (EvE.tuple (EvL.cons (EvE.call (by rfl) ((fn_getitem (n := n) G extD _ _ hp.look).up (by omega)) (EvL.cons (EvE.glob (by rfl) hgv rgv) (EvL.cons ?_ EvL.nil))) (EvL.cons (EvE.bcall (bnInt G) (ds := [.str (Txt.slice p.x (some (behB p : Int)) none)]) ?_ (EvL.cons ?_ EvL.nil)) EvL.nil)) (sizeNat (Nat.le_of_ble_eq_true rfl)))) (by rfl) (sizeNat (by rw [List.length_map]; omega))) (EnvK.hi _)) ExSs.nil) ?_
    · exact slice_str_go (EvE.name (by rfl)) (EvP.some (hn (by rfl))) (EvP.some (EvE.name (by rfl))) (by omega) (by intro _ _; exact ⟨_, rfl⟩)
    · rw [hp.num]
      exact CallR.intS hp.own0 (by have := hp.own1; omega)
    · exact slice_str_go (EvE.name (by rfl)) (EvP.some (EvE.name (by rfl))) EvP.none (by omega) (by intro _ _; exact ⟨_, rfl⟩)
    · show SubV _ _
      unfold vsP readStep
      dsimp only
      rw [List.reverse_cons, List.map_append, List.map_append, List.map_append]
      repeat (first | exact SubV.nil | refine SubV.cons ?_ (by rfl))
theorem fn_page_read (G : Glo W) (Gw : WsOk W) (ps : List PL) (hl : ps.length ≤ 60) (ok : ∀ p ∈ ps, p.Ok) : Fn W (n + 3) "_law_page_read" [linesD ps] (dInts (pageRow ps)) := by
  refine Fn.mk' G 76 _ ["lines"] (out := .ret (dInts (pageRow ps))) (by decide) (by rfl) rfl ?_ (by decide) rfl (fnArg1 (.inl (by rfl))) (by rfl) (by rfl) (by rfl) ?_ rfl
  · intro pm cd doc vs h
    obtain ⟨a, rfl⟩ := len1 h
    rfl
  · refine ExSs.cons (ExS.own (EvN.list EvL.nil) (by rfl)) (ExSs.cons (ExS.own (EvN.list EvL.nil) (by rfl)) (ExSs.cons (ExS.own (EvN.list EvL.nil) (by rfl)) ?_))
    have ok0 : (⟨[], [], []⟩ : PSt).Ok 0 := ⟨Nat.le_refl _, rfl, rfl, fun q h => (by cases h), fun q h => (by cases h)⟩
    have okA := foldl_ok ps ⟨[], [], []⟩ 0 ok0 ok
    have hwl : (readAll ps).words.length = ps.length := by have := okA.dl; unfold readAll; omega
    have hcl : (readAll ps).counts.length = ps.length := by have := okA.cl; unfold readAll; omega
    refine ExSs.cons (V₁ := vsP ps (readAll ps)) (ExS.for (EvI.list (EvE.name (d := linesD ps) (by rfl))) ?_) ?_
    · refine ForR.fold (W := W) (n := n + 2) (fun p : PL => D.str p.x) (vsP ps) readStep (fun k st => st.Ok k ∧ k ≤ 60) ps ?_ ⟨[], [], []⟩ ⟨ok0, by omega⟩
      intro k st p ha hst
      have hk : k < ps.length := (List.getElem?_eq_some_iff.mp ha).1
      have hp := ok p (List.mem_of_getElem? ha)
      exact ⟨_, _, AsR.loc (by rfl), page_body (n := n) G Gw ps p hp st k (by omega) hst.1, SubV.refl, readStep_ok hst.1 hp, by omega⟩
    · refine ExSs.cons (ExS.own (EvN.list EvL.nil) (by rfl)) ?_
      refine ExSs.freeze (y := "words") (xs := (readAll ps).words.map encP) (by rfl) (ExSs.freeze (y := "counts") (xs := (readAll ps).counts.map .int) (by rfl) ?_)
      refine ExSs.cons (V₁ := [("row", .own ((pageRow ps).map .int))]) (ExS.for (EvI.zip (bnZip G) (EvE.name (by rfl)) (EvE.name (by rfl))) ?_) (ExSs.freeze (y := "row") (by rfl) (ExSs.ret (ExS.ret (EvE.name (by rfl)))))
      rw [pairs_zip]
      refine .sub ?_ (ForR.fold (W := W) (n := n + 2) (fun q : (Int × Int) × Int => D.tuple [encP q.1, .int q.2]) (fun r : List Int => [("row", .own (r.map .int))]) pairStep (fun k r => r.length = 2 * k) ((readAll ps).words.zip (readAll ps).counts) ?_ [] rfl)
      · show SubV _ _
        repeat (first | exact SubV.nil | refine SubV.cons ?_ (by rfl))
      · intro k r q ha hr
        have hk : k < ((readAll ps).words.zip (readAll ps).counts).length := (List.getElem?_eq_some_iff.mp ha).1
        rw [List.length_zip, hwl, hcl] at hk
        refine ⟨_, _, AsR.tuple (AsRs.cons (AsR.tuple (AsRs.cons (AsR.loc (by rfl)) (AsRs.cons (AsR.loc (by rfl)) AsRs.nil))) (AsRs.cons (AsR.loc (by rfl)) AsRs.nil)), ExSs.cons (ExS.expr (EvX.extend (by rfl) (ds := [.int q.1.1, .int (256 + 8 * q.1.2 + q.2)]) ?_ (by simp; omega)) (EnvK.hi _)) ExSs.nil, ?_, by unfold pairStep; simp [hr]; omega⟩
        · exact EvE.list (EvL.cons (EvE.name (by rfl)) (EvL.cons (EvE.bin (EvE.bin EvE.int (EvE.bin EvE.int (EvE.name (by rfl)) (BinR.mul (IntMulOk.of_left (by decide)))) BinR.add) (EvE.name (by rfl)) BinR.add) EvL.nil)) (sizeNat (Nat.le_of_ble_eq_true rfl))
        · show SubV _ _
          unfold pairStep
          rw [List.map_append]
          repeat (first | exact SubV.nil | refine SubV.cons ?_ (by rfl))
end
end
section
open PySem.SeqAt
noncomputable def LtAt (A : Around) (s : Shared) (y x : Value) (b : Bool) : Prop :=
  ∀ (prog : Program) (w : World) (E : Value → Shared → Prop) (Q : Value → Shared → Prop), Q (.bool b) s → wpAny (model prog w) A (richCompare .Lt y x) Q E s
noncomputable def ltF (e t : Nat → Bool) (n m : Nat) : Nat → Nat → Bool
  | 0, _ => decide (n < m)
  | k + 1, i => if e i = true then ltF e t n m k (i + 1) else t i
theorem lt_loopAt (l b : Addr) (items items2 : Array Value) (n n2 : Nat) (dd dd2 : Option Addr) (sl sl2 : Array (Option Value)) (e t : Nat → Bool) (k : Nat) :
    ∀ i : Nat, min items.size items2.size - i = k → Meets (Builtin.«list.__eq__.loop» ⟨[.ref l, .ref b, rawInt i, rawInt 0], []⟩)
      (fun A R s => s.heap.get? l = some { cls := .type "list", dict := dd, data := .seq items n, slots := sl } ∧ s.heap.get? b = some { cls := .type "list", dict := dd2, data := .seq items2 n2, slots := sl2 } ∧
        (∀ j (h1 : j < items.size) (h2 : j < items2.size), EqAt A.in1 s items[j] items2[j] (e j)) ∧ (∀ j (h1 : j < items.size) (h2 : j < items2.size), e j = false → LtAt A.in1 s items[j] items2[j] (t j)) ∧
        R (.ok (.ret (.bool (ltF e t items.size items2.size k i)))) s) := by
  induction k with
  | zero =>
    intro i hk prog w A R s h
    obtain ⟨hp, g, d, tk, os⟩ := s; obtain ⟨hl, hb, he, ht, h⟩ := h
    wp_walk using AutoSeq1.wpAny_loadPart' hl, AutoSeq1.wpAny_loadPart' hb
    by_cases hi : items.size ≤ i
    · have hi1 : items[((i : Nat) : Int).toNat]? = none := by simp; omega
      rw [hi1]
      cases hi2 : items2[((i : Nat) : Int).toNat]? with
      | none =>
        wp_walk using AutoSeq1.wpAny_loadPart' hl, AutoSeq1.wpAny_loadPart' hb
        exact h
      | some v =>
        wp_walk using AutoSeq1.wpAny_loadPart' hl, AutoSeq1.wpAny_loadPart' hb
        exact h
    · have hi1 : items[((i : Nat) : Int).toNat]? = some items[i] := by simp [show i < items.size by omega]
      have hi2 : items2[((i : Nat) : Int).toNat]? = none := by simp; omega
      rw [hi1, hi2]
      wp_walk using AutoSeq1.wpAny_loadPart' hl, AutoSeq1.wpAny_loadPart' hb
      exact h
  | succ k ih =>
    intro i hk prog w A R s h
    obtain ⟨hp, g, d, tk, os⟩ := s; obtain ⟨hl, hb, he, ht, h⟩ := h
    wp_walk using AutoSeq1.wpAny_loadPart' hl, AutoSeq1.wpAny_loadPart' hb
    have hlt : i < items.size := by omega
    have hlt2 : i < items2.size := by omega
    have hi1 : items[((i : Nat) : Int).toNat]? = some items[i] := by simp [hlt]
    have hi2 : items2[((i : Nat) : Int).toNat]? = some items2[i] := by simp [hlt2]
    have hc : ((i : Int) + 1) = ((i + 1 : Nat) : Int) := by push_cast; rfl
    rw [hi1, hi2]
    refine wpAny_bind (he i hlt hlt2 prog w _ _ ?_)
    unfold ltF at h
    cases hb' : e i with
    | true =>
      rw [hb', if_pos rfl] at h
      wp_walk
      rw [hc]
      exact ⟨plainId_quiet MeetsSeq3.plain_eq_loop _, codeAny_builtin MeetsSeq3.entry_eq_loop (by
        rw [Around.under_plainId MeetsSeq3.plain_eq_loop _]
        exact ih (i + 1) (by omega) prog w A R _ ⟨hl, hb, he, ht, h⟩)⟩
    | false =>
      rw [hb', if_neg (by decide)] at h
      wp_walk using AutoSeq1.wpAny_loadPart' hl, AutoSeq1.wpAny_loadPart' hb
      rw [hi1, hi2]
      refine wpAny_bind (ht i hlt hlt2 hb' prog w _ _ ?_)
      exact wpAny_pure h
theorem list_ltAt (l b : Addr) (items items2 : Array Value) (n n2 : Nat) (dd dd2 : Option Addr) (sl sl2 : Array (Option Value)) (e t : Nat → Bool) :
    Meets (Builtin.«list.__lt__» ⟨[.ref l, .ref b], []⟩)
      (fun A R s => s.heap.get? l = some { cls := .type "list", dict := dd, data := .seq items n, slots := sl } ∧ s.heap.get? b = some { cls := .type "list", dict := dd2, data := .seq items2 n2, slots := sl2 } ∧
        (∀ j (h1 : j < items.size) (h2 : j < items2.size), EqAt A.in1 s items[j] items2[j] (e j)) ∧ (∀ j (h1 : j < items.size) (h2 : j < items2.size), e j = false → LtAt A.in1 s items[j] items2[j] (t j)) ∧
        R (.ok (.ret (.bool (ltF e t items.size items2.size (min items.size items2.size) 0)))) s) := by
  intro prog w A R s h
  obtain ⟨hp, g, d, tk, os⟩ := s; obtain ⟨hl, hb, he, ht, h⟩ := h
  have f3 := AutoSeq1.sub_list_list
  wp_walk using AutoSeq1.wpAny_loadPart' hl, AutoSeq1.wpAny_loadPart' hb
  exact ⟨plainId_quiet MeetsSeq3.plain_eq_loop _, codeAny_builtin MeetsSeq3.entry_eq_loop (by
    rw [Around.under_plainId MeetsSeq3.plain_eq_loop _]
    exact lt_loopAt l b items items2 n n2 dd dd2 sl sl2 e t _ 0 (Nat.sub_zero _) prog w A R _ ⟨hl, hb, he, ht, h⟩)⟩
end
section
open PySem.SeqAt
noncomputable def lexI : List Int → List Int → Bool
  | [], [] => false
  | [], _ :: _ => true
  | _ :: _, [] => false
  | x :: xs, y :: ys => if x = y then lexI xs ys else decide (x < y)
theorem ltF_lexI : ∀ (xs ys : List Int) (X Y : List Int) (i : Nat), X.drop i = xs → Y.drop i = ys → i ≤ X.length → i ≤ Y.length → ltF (fun j => X.getD j 0 == Y.getD j 0) (fun j => decide (X.getD j 0 < Y.getD j 0)) X.length Y.length (min X.length Y.length - i) i = lexI xs ys
  | [], ys, X, Y, i, hx, hy, h1, h2 => by
    have hl : X.length = i := by have := congrArg List.length hx; simp at this; omega
    rw [show min X.length Y.length - i = 0 by omega]
    unfold ltF
    cases ys with
    | nil => have : Y.length = i := by have := congrArg List.length hy; simp at this; omega
             unfold lexI; simp; omega
    | cons y r => have : (y :: r).length = Y.length - i := by rw [← hy]; simp
                  rw [List.length_cons] at this
                  unfold lexI; simp; omega
  | x :: xs, [], X, Y, i, hx, hy, h1, h2 => by
    have hl : Y.length = i := by have := congrArg List.length hy; simp at this; omega
    have : (x :: xs).length = X.length - i := by rw [← hx]; simp
    rw [List.length_cons] at this
    rw [show min X.length Y.length - i = 0 by omega]
    unfold ltF lexI
    simp; omega
  | x :: xs, y :: ys, X, Y, i, hx, hy, h1, h2 => by
    have hX : (x :: xs).length = X.length - i := by rw [← hx]; simp
    have hY : (y :: ys).length = Y.length - i := by rw [← hy]; simp
    rw [List.length_cons] at hX hY
    have ex : X.getD i 0 = x := by
      have : X[i]? = some x := by have := congrArg (·[0]?) hx; simpa using this
      simp [this]
    have ey : Y.getD i 0 = y := by
      have : Y[i]? = some y := by have := congrArg (·[0]?) hy; simpa using this
      simp [this]
    have hx' : X.drop (i + 1) = xs := by rw [← List.drop_drop, hx]; rfl
    have hy' : Y.drop (i + 1) = ys := by rw [← List.drop_drop, hy]; rfl
    have ih := ltF_lexI xs ys X Y (i + 1) hx' hy' (by omega) (by omega)
    rw [show min X.length Y.length - i = (min X.length Y.length - (i + 1)) + 1 by omega]
    unfold ltF lexI
    rw [ih, ex, ey]
    by_cases h : x = y <;> simp [h]
abbrev PairI := List Int × List Int
noncomputable def dPair (p : PairI) : D := .list [dInts p.1, dInts p.2]
noncomputable def pairLt (p q : PairI) : Bool := if p.1 = q.1 then lexI p.2 q.2 else lexI p.1 q.1
section
variable {W : Wd} {A : Around} {g : Vis} {s : Shared}
theorem LtAt.lists {l b : Addr} {items items2 : Array Value} {e t : Nat → Bool} (hl : s.heap.IsList l items) (hb : s.heap.IsList b items2) (hu : A.units < cLine)
    (he : ∀ j (h1 : j < items.size) (h2 : j < items2.size), EqAt A.in1 s items[j] items2[j] (e j)) (ht : ∀ j (h1 : j < items.size) (h2 : j < items2.size), e j = false → LtAt A.in1 s items[j] items2[j] (t j)) :
    LtAt A s (.ref l) (.ref b) (ltF e t items.size items2.size (min items.size items2.size) 0) := fun prog w E Q h => by
  obtain ⟨⟨cls, dd, data, sl⟩, ho, hc, n, hd⟩ := id hl
  obtain ⟨⟨cls2, dd2, data2, sl2⟩, ho2, hc2, n2, hd2⟩ := id hb
  simp only at hc hd hc2 hd2
  subst hc hd hc2 hd2
  exact richCompare_meets_room (op := .Lt) ⟨_, ho, rfl⟩ ⟨_, ho2, rfl⟩ F.slot_list_lt F.entry_list_lt (F.args_list_lt_2 _ _) (list_ltAt l b items items2 n n2 dd dd2 sl sl2 e t)
    ⟨ho, ho2, he, ht, show Value.bool _ ≠ Value.notImplemented ∧ Q (.bool _) s from ⟨(fun x => nomatch x), h⟩⟩ hu
theorem ltInts_at (sub : ∀ b o, g b = some o → s.heap.get? b = some o) {va vb : Value} {xs ys : List Int} (ra : RD W g va (dInts xs)) (rb : RD W g vb (dInts ys)) (hu : A.units < cLine) : LtAt A s va vb (lexI xs ys) := by
  obtain ⟨a, k, vs, rfl, ha, rs⟩ := ra.of_list
  obtain ⟨b, j, us, rfl, hb, rt⟩ := rb.of_list
  obtain ⟨ps, rfl, hps⟩ := rs.of_ints
  obtain ⟨qs, rfl, hqs⟩ := rt.of_ints
  have hl1 : xs.length = ps.length := by rw [← hps]; simp
  have hl2 : ys.length = qs.length := by rw [← hqs]; simp
  have gx : ∀ i (h : i < ps.length), xs.getD i 0 = ps[i].1 := fun i h => by rw [← hps]; simp [h]
  have gy : ∀ i (h : i < qs.length), ys.getD i 0 = qs[i].1 := fun i h => by rw [← hqs]; simp [h]
  have := LtAt.lists (A := A) (e := fun j => xs.getD j 0 == ys.getD j 0) (t := fun j => decide (xs.getD j 0 < ys.getD j 0)) (lob_list (sub _ _ ha)) (lob_list (sub _ _ hb)) hu (fun i h1 h2 => ?_) (fun i h1 h2 _ => ?_)
  · have e0 := ltF_lexI xs ys xs ys 0 rfl rfl (Nat.zero_le _) (Nat.zero_le _)
    rw [Nat.sub_zero] at e0
    simp only [List.size_toArray, List.length_map] at this
    rw [← hl1, ← hl2, e0] at this
    exact this
  · simp only [List.size_toArray, List.length_map] at h1 h2
    rw [gx i h1, gy i h2]
    simp only [List.getElem_toArray, List.getElem_map]
    exact EqAt.int_int _ _ _ _
  · simp only [List.size_toArray, List.length_map] at h1 h2
    rw [gx i h1, gy i h2]
    simp only [List.getElem_toArray, List.getElem_map]
    exact fun prog w E Q h => P.lt_int h
theorem oneLt_pair {prog : Program} {w : World} {E : Value → Shared → Prop} (sub : ∀ b o, g b = some o → s.heap.get? b = some o) {va vb : Value} {p q : PairI} (ra : RD W g va (dPair p)) (rb : RD W g vb (dPair q)) (hu : A.units + 20 < cLine) {Q : Bool → Shared → Prop} (h : Q (pairLt p q) s) :
    wpAny (model prog w) A (oneLt' true va vb) Q E s := by
  obtain ⟨a, k, vs, rfl, ha, rs⟩ := ra.of_list
  obtain ⟨b, j, us, rfl, hb, rt⟩ := rb.of_list
  obtain ⟨v1, r1, rfl, rv1, rr1⟩ := rs.cons_of
  obtain ⟨v2, r2, rfl, rv2, rr2⟩ := rr1.cons_of
  cases rr2.nil_of
  obtain ⟨u1, t1, rfl, ru1, rt1⟩ := rt.cons_of
  obtain ⟨u2, t2, rfl, ru2, rt2⟩ := rt1.cons_of
  cases rt2.nil_of
  have eqi : ∀ (B : Around) {x y : Value} {xs ys : List Int}, B.units + 5 < cLine → RD W g x (dInts xs) → RD W g y (dInts ys) → EqAt B s x y (decide (xs = ys)) := fun B x y xs ys hB rx ry => by
    obtain ⟨as, qa⟩ := rx.reads sub (py_ints xs)
    obtain ⟨bs, qb⟩ := ry.reads sub (py_ints ys)
    have := eqAt_reads _ _ B s x y as bs qa qb (by simp only [pInts, PyData.canLay0]; exact canAll_ints xs) (by simp only [pInts, PyData.canLay0]; exact canAll_ints ys) (by simp only [pInts, PyData.depth, depthAll_ints]; omega)
    rwa [show PyData.eqv (pInts xs) (pInts ys) = decide (xs = ys) by simp only [pInts, PyData.eqv]; exact eqv_ints xs ys] at this
  rw [oneLt'_eq]
  simp only [if_true]
  refine wpAny_bind (wpAny_cRoomFor (by omega) ?_)
  have oa := sub _ _ ha
  have ob := sub _ _ hb
  have he : ∀ B : Around, B.units + 10 < cLine → ∀ j (h1 : j < [v1, v2].toArray.size) (h2 : j < [u1, u2].toArray.size), EqAt B s [v1, v2].toArray[j] [u1, u2].toArray[j] (if j = 0 then decide (p.1 = q.1) else decide (p.2 = q.2)) := fun B hB j h1 h2 => by
    match j, h1, h2 with
    | 0, h1, h2 => exact eqi B (by omega) rv1 ru1
    | 1, h1, h2 => exact eqi B (by omega) rv2 ru2
  have ht : ∀ B : Around, B.units + 10 < cLine → ∀ j (h1 : j < [v1, v2].toArray.size) (h2 : j < [u1, u2].toArray.size), LtAt B s [v1, v2].toArray[j] [u1, u2].toArray[j] (if j = 0 then lexI p.1 q.1 else lexI p.2 q.2) := fun B hB j h1 h2 => by
    match j, h1, h2 with
    | 0, h1, h2 => exact ltInts_at sub rv1 ru1 (by omega)
    | 1, h1, h2 => exact ltInts_at sub rv2 ru2 (by omega)
  have hres : ltF (fun j => if j = 0 then decide (p.1 = q.1) else decide (p.2 = q.2)) (fun j => if j = 0 then lexI p.1 q.1 else lexI p.2 q.2) 2 2 2 0 = pairLt p q := by
    have lexI_self : ∀ l : List Int, lexI l l = false := by
      intro l
      induction l with
      | nil => rfl
      | cons x r ih => unfold lexI; rw [if_pos rfl]; exact ih
    unfold pairLt ltF
    by_cases h1 : p.1 = q.1
    · simp only [h1, decide_true, if_true]
      unfold ltF
      by_cases h2 : p.2 = q.2
      · simp [h2, ltF, lexI_self]
      · simp [h2]
    · simp [h1]
  refine wpAny_bind (wpAny_callSpecialIfBound?_slot ⟨_, oa, rfl⟩ F.slot_list_lt (call_meets F.slot_list_lt ⟨_, oa, rfl⟩ F.entry_list_lt (F.args_list_lt_2 _ _) (list_ltAt a b _ _ k j _ _ _ _ _ _)
    ⟨oa, ob, fun i h1 h2 => he _ (by show A.units + 1 + 10 < cLine; omega) i h1 h2, fun i h1 h2 _ => ht _ (by show A.units + 1 + 10 < cLine; omega) i h1 h2, ?_⟩))
  have e : ∀ c : Bool, c = pairLt p q → wpAny (model prog w) A (truthOfDropped (.bool c)) Q E s := fun c hc => by subst hc; exact wpAny_truthy_bool h
  exact e _ hres
end
end
section
theorem lexI_irrefl : ∀ l : List Int, lexI l l = false
  | [] => rfl
  | x :: r => by unfold lexI; rw [if_pos rfl]; exact lexI_irrefl r
theorem lexI_trans : ∀ a b c : List Int, lexI a b = true → lexI b c = true → lexI a c = true
  | [], [], _, h, _ => by cases h
  | [], _ :: _, [], _, h => by cases h
  | [], _ :: _, _ :: _, _, _ => rfl
  | _ :: _, [], _, h, _ => by cases h
  | _ :: _, _ :: _, [], _, h => by cases h
  | x :: a, y :: b, z :: c, h1, h2 => by
    unfold lexI at h1 h2 ⊢
    by_cases e1 : x = y
    · rw [if_pos e1] at h1
      by_cases e2 : y = z
      · rw [if_pos e2] at h2
        rw [if_pos (e1.trans e2)]
        exact lexI_trans a b c h1 h2
      · rw [if_neg e2] at h2
        have := of_decide_eq_true h2
        rw [if_neg (by omega)]
        exact decide_eq_true (by omega)
    · rw [if_neg e1] at h1
      have t1 := of_decide_eq_true h1
      by_cases e2 : y = z
      · rw [if_neg (by omega)]
        exact decide_eq_true (by omega)
      · rw [if_neg e2] at h2
        have := of_decide_eq_true h2
        rw [if_neg (by omega)]
        exact decide_eq_true (by omega)
theorem lexI_neg : ∀ a b c : List Int, lexI a c = true → lexI a b = true ∨ lexI b c = true
  | [], _, [], h => by cases h
  | [], [], _ :: _, _ => .inr rfl
  | [], _ :: _, _ :: _, _ => .inl rfl
  | _ :: _, _, [], h => by cases h
  | _ :: _, [], _ :: _, _ => .inr rfl
  | x :: a, y :: b, z :: c, h => by
    unfold lexI at h ⊢
    by_cases e : x = z
    · rw [if_pos e] at h
      by_cases e1 : x = y
      · rw [if_pos e1, if_pos (e1.symm.trans e)]
        exact lexI_neg a b c h
      · by_cases hlt : x < y
        · exact .inl (by rw [if_neg e1]; exact decide_eq_true hlt)
        · exact .inr (by rw [if_neg (by omega)]; exact decide_eq_true (by omega))
    · rw [if_neg e] at h
      have t := of_decide_eq_true h
      by_cases hlt : x < y
      · exact .inl (by rw [if_neg (by omega)]; exact decide_eq_true hlt)
      · exact .inr (by rw [if_neg (by omega)]; exact decide_eq_true (by omega))
theorem lexI_total : ∀ a b : List Int, lexI a b = false → lexI b a = false → a = b
  | [], [], _, _ => rfl
  | [], _ :: _, h, _ => by cases h
  | _ :: _, [], _, h => by cases h
  | x :: a, y :: b, h1, h2 => by
    unfold lexI at h1 h2
    by_cases e : x = y
    · subst e
      rw [if_pos rfl] at h1 h2
      rw [lexI_total a b h1 h2]
    · rw [if_neg e] at h1
      rw [if_neg (Ne.symm e)] at h2
      have t1 := of_decide_eq_false h1
      have t2 := of_decide_eq_false h2
      omega
noncomputable def pO : KeyOrd where
  α := PairI
  blt := pairLt
  irrefl := fun a => by unfold pairLt; rw [if_pos rfl]; exact lexI_irrefl _
  trans := fun a b c h1 h2 => by
    unfold pairLt at h1 h2 ⊢
    by_cases e1 : a.1 = b.1
    · rw [if_pos e1] at h1
      by_cases e2 : b.1 = c.1
      · rw [if_pos e2] at h2
        rw [if_pos (e1.trans e2)]
        exact lexI_trans _ _ _ h1 h2
      · rw [if_neg e2] at h2
        rw [e1, if_neg e2]; exact h2
    · rw [if_neg e1] at h1
      by_cases e2 : b.1 = c.1
      · rw [← e2, if_neg e1]; exact h1
      · rw [if_neg e2] at h2
        have h3 := lexI_trans _ _ _ h1 h2
        by_cases e3 : a.1 = c.1
        · rw [e3, lexI_irrefl] at h3; cases h3
        · rw [if_neg e3]; exact h3
  negTrans := fun a b c h => by
    unfold pairLt at h ⊢
    by_cases e : a.1 = c.1
    · rw [if_pos e] at h
      by_cases e1 : a.1 = b.1
      · rw [if_pos e1, if_pos (e1.symm.trans e)]
        exact lexI_neg _ _ _ h
      · rw [if_neg e1, if_neg (fun z => e1 (e.trans z.symm))]
        cases q : lexI a.1 b.1 with
        | true => exact .inl rfl
        | false =>
          right
          cases q2 : lexI b.1 c.1 with
          | true => rfl
          | false => rw [← e] at q2; exact absurd (lexI_total _ _ q q2) e1
    · rw [if_neg e] at h
      by_cases e1 : a.1 = b.1
      · rw [← e1, if_neg e]; exact .inr h
      · by_cases e2 : b.1 = c.1
        · rw [e2, if_neg e]; exact .inl h
        · rw [if_neg e1, if_neg e2]
          exact lexI_neg _ _ _ h
  total := fun a b h1 h2 => by
    unfold pairLt at h1 h2
    by_cases e : a.1 = b.1
    · rw [if_pos e] at h1
      rw [if_pos e.symm] at h2
      exact Prod.ext e (lexI_total _ _ h1 h2)
    · rw [if_neg e] at h1
      rw [if_neg (Ne.symm e)] at h2
      exact absurd (lexI_total _ _ h1 h2) e

noncomputable def KH {α : Type} (n : Nat) (c : Nat → Nat → Bool) : KasT α → (α → Prop) → Prop
  | .ret a, P => P a
  | .ask i j k, P => i < n ∧ j < n ∧ KH n c (k (c i j)) P
theorem KH.bind {α β : Type} {n : Nat} {c : Nat → Nat → Bool} {f : α → KasT β} {P : β → Prop} : ∀ {t : KasT α}, KH n c t (fun a => KH n c (f a) P) → KH n c (t.bind f) P
  | .ret _, h => h
  | .ask i j k, ⟨h1, h2, h3⟩ => ⟨h1, h2, KH.bind (t := k (c i j)) h3⟩
section
variable {n : Nat} {key : Nat → PairI}
noncomputable def cK (key : Nat → PairI) (i j : Nat) : Bool := pairLt (key i) (key j)
noncomputable def kk (key : Nat → PairI) (p : Array Nat) (i : Nat) : PairI := key (p.getD i 0)
noncomputable def Srt (key : Nat → PairI) (p : Array Nat) (k : Nat) : Prop := ∀ i j, i ≤ j → j < k → pO.kle (kk key p i) (kk key p j)
noncomputable def NonI (key : Nat → PairI) (p : Array Nat) (k : Nat) : Prop := ∀ i j, i ≤ j → j < k → pO.kle (kk key p j) (kk key p i)
noncomputable def GoodP (n : Nat) (p : Array Nat) : Prop := p.toList.Perm (List.range n)
theorem GoodP.size {p : Array Nat} (h : GoodP n p) : p.size = n := by have := h.length_eq; simpa using this
theorem getD_eq (p : Array Nat) (i : Nat) : p.getD i 0 = (p[i]?).getD 0 := by simp
theorem GoodP.lt {p : Array Nat} (h : GoodP n p) (hn : 0 < n) (i : Nat) : p.getD i 0 < n := by
  by_cases hi : i < p.size
  · have : p.getD i 0 = p[i] := by simp [Array.getD, hi]
    rw [this]
    exact List.mem_range.mp (h.mem_iff.mp (by simp))
  · have : p.getD i 0 = 0 := by simp [Array.getD, hi]
    rw [this]; exact hn
theorem GoodP.rev {p : Array Nat} (h : GoodP n p) (i j : Nat) : GoodP n (kas_rev p i j) := (Array.perm_iff_toList_perm.mp (mirror_perm p i j ((j - i) / 2))).trans h
theorem GoodP.bub {p : Array Nat} (h : GoodP n p) (i j : Nat) : GoodP n (bubble p i j) := (Array.perm_iff_toList_perm.mp (bubble_perm p i j)).trans h
theorem kk_rev {p : Array Nat} {i j : Nat} (hj : j ≤ p.size) (k : Nat) : kk key (kas_rev p i j) k = if i ≤ k ∧ k < j then kk key p (i + j - 1 - k) else kk key p k := by
  unfold kk
  have := getElem?_mirror_all (xs := p) (i := i) hj k
  rw [getD_eq, show (kas_rev p i j)[k]? = _ from this]
  split <;> rw [getD_eq]
theorem kk_bub {p : Array Nat} {s d : Nat} (hs : s < p.size) (hd : d ≤ s) (k : Nat) : kk key (bubble p s d) k = if k = s - d then kk key p s else if s - d < k ∧ k ≤ s then kk key p (k - 1) else kk key p k := by
  unfold kk
  have := getElem?_bubble (xs := p) hs d hd k
  rw [getD_eq, this]
  by_cases h1 : k = s - d
  · rw [if_pos h1, if_pos h1, getD_eq]
  · rw [if_neg h1, if_neg h1]
    by_cases h2 : s - d < k ∧ k ≤ s
    · rw [if_pos h2, if_pos h2, getD_eq]
    · rw [if_neg h2, if_neg h2, getD_eq]
theorem Srt.one (p : Array Nat) : Srt key p 1 := fun i j hij hj => by
  have : i = j := by omega
  subst this; exact KeyOrd.kle_refl _
theorem Srt.more {p : Array Nat} {m : Nat} (h : Srt key p m) (hm : 1 ≤ m) (hc : pO.kle (kk key p (m - 1)) (kk key p m)) : Srt key p (m + 1) := fun i j hij hj => by
  by_cases hjm : j < m
  · exact h i j hij hjm
  · have : j = m := by omega
    subst this
    by_cases hi : i = j
    · subst hi; exact KeyOrd.kle_refl _
    · exact KeyOrd.kle_trans (h i (j - 1) (by omega) (by omega)) hc
theorem NonI.more {p : Array Nat} {m : Nat} (h : NonI key p m) (hm : 1 ≤ m) (hc : pO.kle (kk key p m) (kk key p (m - 1))) : NonI key p (m + 1) := fun i j hij hj => by
  by_cases hjm : j < m
  · exact h i j hij hjm
  · have : j = m := by omega
    subst this
    by_cases hi : i = j
    · subst hi; exact KeyOrd.kle_refl _
    · exact KeyOrd.kle_trans hc (h i (j - 1) (by omega) (by omega))
theorem kh_asc {p : Array Nat} (g : GoodP n p) {P : Nat → Prop} : ∀ (f m : Nat), 1 ≤ m → m + f = n → Srt key p m → (∀ m', 1 ≤ m' → m' ≤ n → Srt key p m' → (m' = n ∨ pO.kle (kk key p m') (kk key p (m' - 1))) → P m') → KH n (cK key) (kas_asc p f m) P
  | 0, m, h1, h2, h3, h => h m h1 (by omega) h3 (.inl (by omega))
  | f + 1, m, h1, h2, h3, h => by
    refine ⟨g.lt (by omega) _, g.lt (by omega) _, ?_⟩
    cases hc : cK key (p.getD m 0) (p.getD (m - 1) 0) with
    | true =>
      dsimp only
      rw [if_pos rfl]
      exact h m h1 (by omega) h3 (.inr (KeyOrd.kle_of_klt (O := pO) hc))
    | false =>
      dsimp only
      rw [if_neg (by decide)]
      exact kh_asc g f (m + 1) (by omega) (by omega) (h3.more h1 hc) h
theorem kk_same {p : Array Nat} {m q : Nat} (hm : m ≤ p.size) (he : ∀ i, m - (q + 1) ≤ i → i < m → kk key p i = kk key p (m - 1)) (k : Nat) : kk key (kas_rev p (m - (q + 1)) m) k = kk key p k := by
  rw [kk_rev hm]
  split
  · rename_i hk
    rw [he _ (by omega) (by omega), he k hk.1 hk.2]
  · rfl
theorem NonI.congr {p p' : Array Nat} {m : Nat} (h : NonI key p m) (e : ∀ k, kk key p' k = kk key p k) : NonI key p' m := fun i j hij hj => by rw [e, e]; exact h i j hij hj
theorem kh_desc {P : Array Nat × Nat × Nat → Prop} : ∀ (f : Nat) (p : Array Nat) (m q : Nat), GoodP n p → 1 ≤ m → m + f = n → NonI key p m → q + 1 ≤ m → (∀ i, m - (q + 1) ≤ i → i < m → kk key p i = kk key p (m - 1)) →
    (∀ p' m' q', GoodP n p' → 1 ≤ m' → m' ≤ n → NonI key p' m' → q' + 1 ≤ m' → (∀ i, m' - (q' + 1) ≤ i → i < m' → kk key p' i = kk key p' (m' - 1)) → P (p', m', q')) → KH n (cK key) (kas_desc f p m q) P
  | 0, p, m, q, g, h1, h2, h3, h4, h5, h => h p m q g h1 (by omega) h3 h4 h5
  | f + 1, p, m, q, g, h1, h2, h3, h4, h5, h => by
    have hz := g.size
    refine ⟨g.lt (by omega) _, g.lt (by omega) _, ?_⟩
    cases hc : cK key (p.getD m 0) (p.getD (m - 1) 0) with
    | true =>
      dsimp only
      rw [if_pos rfl]
      have hle : pO.kle (kk key p m) (kk key p (m - 1)) := KeyOrd.kle_of_klt (O := pO) hc
      have hn := h3.more h1 hle
      split
      · exact kh_desc f _ (m + 1) 0 (g.rev _ _) (by omega) (by omega) (hn.congr (kk_same (by omega) h5)) (by omega) (fun i a b => by congr 1; omega) h
      · exact kh_desc f p (m + 1) 0 g (by omega) (by omega) hn (by omega) (fun i a b => by congr 1; omega) h
    | false =>
      dsimp only
      rw [if_neg (by decide)]
      refine ⟨g.lt (by omega) _, g.lt (by omega) _, ?_⟩
      cases hd : cK key (p.getD (m - 1) 0) (p.getD m 0) with
      | true =>
        dsimp only
        rw [if_pos rfl]
        exact h p m q g h1 (by omega) h3 h4 h5
      | false =>
        dsimp only
        rw [if_neg (by decide)]
        have heq : kk key p m = kk key p (m - 1) := pO.total _ _ hc hd
        refine kh_desc f p (m + 1) (q + 1) g (by omega) (by omega) (h3.more h1 hd) (by omega) (fun i a b => ?_) h
        rw [show m + 1 - 1 = m by omega]
        by_cases him : i = m
        · rw [him]
        · rw [heq]; exact h5 i (by omega) (by omega)
theorem kh_tail3 {p : Array Nat} {m : Nat} {P : Nat × Array Nat → Prop} (g : GoodP n p) (h1 : 1 ≤ m) (h2 : m ≤ n) (h3 : NonI key p m) (h : ∀ m' p', GoodP n p' → 1 ≤ m' → m' ≤ n → Srt key p' m' → P (m', p')) : KH n (cK key) (kas_tail3 m n p) P := by
  unfold kas_tail3
  have hz := g.size
  refine KH.bind (kh_asc (g.rev _ _) (n - m) m h1 (by omega) (fun i j hij hj => ?_) fun m' a b c _ => h m' _ (g.rev _ _) a b c)
  rw [kk_rev (by omega), kk_rev (by omega), if_pos (by omega), if_pos (by omega)]
  exact h3 _ _ (by omega) (by omega)
theorem kh_descPart {p : Array Nat} {m : Nat} {P : Nat × Array Nat → Prop} (g : GoodP n p) (h1 : 1 ≤ m) (h2 : m + 1 ≤ n) (h3 : NonI key p (m + 1)) (h : ∀ m' p', GoodP n p' → 1 ≤ m' → m' ≤ n → Srt key p' m' → P (m', p')) : KH n (cK key) (kas_descPart m n p) P := by
  unfold kas_descPart
  refine KH.bind (kh_desc (n - (m + 1)) p (m + 1) 0 g (by omega) (by omega) h3 (by omega) (fun i a b => by congr 1; omega) fun p' m' q' g' a b c d e => ?_)
  have hz := g'.size
  dsimp only
  split
  · exact kh_tail3 (g'.rev _ _) a b (c.congr (kk_same (by omega) e)) h
  · exact kh_tail3 g' a b c h
theorem kh_count {p : Array Nat} {P : Nat × Array Nat → Prop} (g : GoodP n p) (hn : 1 ≤ n) (h : ∀ m' p', GoodP n p' → 1 ≤ m' → m' ≤ n → Srt key p' m' → P (m', p')) : KH n (cK key) (kas_count n p) P := by
  unfold kas_count
  have hz := g.size
  refine KH.bind (kh_asc g (n - 1) 1 (Nat.le_refl _) (by omega) (Srt.one p) fun m a b c hor => ?_)
  by_cases e : (m == n) = true
  · rw [if_pos e]
    exact h m p g a b c
  · rw [if_neg e]
    have hmn : m ≠ n := by simpa using e
    have hle : pO.kle (kk key p m) (kk key p (m - 1)) := hor.resolve_left hmn
    by_cases hm : m > 1
    · rw [if_pos hm]
      refine ⟨g.lt (by omega) _, g.lt (by omega) _, ?_⟩
      cases hc : cK key (p.getD 0 0) (p.getD (m - 1) 0) with
      | true => dsimp only; rw [if_pos rfl]; exact h m p g a b c
      | false =>
        dsimp only
        rw [if_neg (by decide)]
        have heq : ∀ i, i < m → kk key p i = kk key p (m - 1) := fun i hi => by
          have l1 : pO.kle (kk key p i) (kk key p (m - 1)) := c i (m - 1) (by omega) (by omega)
          have l2 : pO.kle (kk key p 0) (kk key p i) := c 0 i (by omega) hi
          have l3 : pO.kle (kk key p (m - 1)) (kk key p 0) := hc
          exact KeyOrd.kle_antisymm l1 (KeyOrd.kle_trans l3 l2)
        have hsame : ∀ k, kk key (kas_rev p 0 m) k = kk key p k := fun k => by
          rw [kk_rev (by omega)]
          split
          · rw [heq _ (by omega), heq k (by omega)]
          · rfl
        refine kh_descPart (g.rev _ _) a (by omega) (NonI.congr (fun i j hij hj => ?_) hsame) h
        by_cases hjm : j < m
        · rw [heq j hjm, heq i (by omega)]; exact KeyOrd.kle_refl _
        · have : j = m := by omega
          subst this
          by_cases hi : i = j
          · subst hi; exact KeyOrd.kle_refl _
          · rw [heq i (by omega)]; exact hle
    · rw [if_neg hm]
      have : m = 1 := by omega
      subst this
      refine kh_descPart g a (by omega) (fun i j hij hj => ?_) h
      by_cases hi : i = j
      · subst hi; exact KeyOrd.kle_refl _
      · have : i = 0 ∧ j = 1 := by omega
        rw [this.1, this.2]; exact hle
theorem kh_place {p : Array Nat} (g : GoodP n p) {k : Nat} (hk : k < n) {P : Nat → Prop} : ∀ (f l r : Nat), l ≤ r → r ≤ k → r - l ≤ f → (∀ i, i < l → pO.kle (kk key p i) (kk key p k)) → (∀ i, r ≤ i → i < k → pO.kle (kk key p k) (kk key p i)) → Srt key p k →
    (∀ l, l ≤ k → (∀ i, i < l → pO.kle (kk key p i) (kk key p k)) → (∀ i, l ≤ i → i < k → pO.kle (kk key p k) (kk key p i)) → P l) → KH n (cK key) (kas_place p k f l r) P
  | 0, l, r, h1, h2, h3, lo, hi, hs, h => by
    have : l = r := by omega
    subst this
    exact h l h2 lo hi
  | f + 1, l, r, h1, h2, h3, lo, hi, hs, h => by
    unfold kas_place
    by_cases hlr : l ≥ r
    · rw [if_pos hlr]
      have : l = r := by omega
      subst this
      exact h l h2 lo hi
    · rw [if_neg hlr]
      refine ⟨g.lt (by omega) _, g.lt (by omega) _, ?_⟩
      cases hc : cK key (p.getD k 0) (p.getD ((l + r) / 2) 0) with
      | true =>
        dsimp only
        rw [if_pos rfl]
        have hle : pO.kle (kk key p k) (kk key p ((l + r) / 2)) := KeyOrd.kle_of_klt (O := pO) hc
        refine kh_place g hk f l ((l + r) / 2) (by omega) (by omega) (by omega) lo (fun i a b => ?_) hs h
        exact KeyOrd.kle_trans hle (hs _ _ a b)
      | false =>
        dsimp only
        rw [if_neg (by decide)]
        have hle : pO.kle (kk key p ((l + r) / 2)) (kk key p k) := hc
        refine kh_place g hk f ((l + r) / 2 + 1) r (by omega) h2 (by omega) (fun i a => ?_) hi hs h
        exact KeyOrd.kle_trans (hs i ((l + r) / 2) (by omega) (by omega)) hle
theorem kh_bin {P : Array Nat → Prop} : ∀ (f : Nat) (p : Array Nat) (k : Nat), GoodP n p → k + f = n → Srt key p k → (∀ p', GoodP n p' → Srt key p' n → P p') → KH n (cK key) (kas_bin f p k) P
  | 0, p, k, g, h1, h2, h => h p g (by rw [← h1]; exact h2)
  | f + 1, p, k, g, h1, h2, h => by
    have hz := g.size
    refine KH.bind (kh_place g (by omega) k 0 k (by omega) (by omega) (by omega) (fun i a => by omega) (fun i a b => by omega) h2 fun l hl lo hi => ?_)
    refine kh_bin f _ (k + 1) (g.bub _ _) (by omega) (fun i j hij hj => ?_) h
    rw [kk_bub (by omega) (by omega), kk_bub (by omega) (by omega), show k - (k - l) = l by omega]
    by_cases hij' : i = j
    · subst hij'; exact KeyOrd.kle_refl _
    by_cases hil : i = l
    · rw [if_pos hil, if_neg (by omega), if_pos (by omega)]
      exact hi (j - 1) (by omega) (by omega)
    · rw [if_neg hil]
      by_cases hil2 : l < i ∧ i ≤ k
      · rw [if_pos hil2, if_neg (by omega), if_pos (by omega)]
        exact h2 (i - 1) (j - 1) (by omega) (by omega)
      · rw [if_neg hil2]
        by_cases hjl : j = l
        · rw [if_pos hjl]; exact lo i (by omega)
        · rw [if_neg hjl]
          by_cases hjl2 : l < j ∧ j ≤ k
          · rw [if_pos hjl2]; exact h2 i (j - 1) (by omega) (by omega)
          · rw [if_neg hjl2]; exact h2 i j hij (by omega)
theorem kh_sort (hn : 1 ≤ n) : KH n (cK key) (kas_sort n) (fun p => GoodP n p ∧ Srt key p n) := by
  unfold kas_sort
  have g0 : GoodP n (List.toArray (List.range n)) := List.Perm.refl _
  refine KH.bind (kh_count g0 hn fun m p g a b c => ?_)
  dsimp only
  split
  · rw [show max m 1 = m by omega]
    exact kh_bin (n - m) p m g (by omega) c fun p' g' s' => ⟨g', s'⟩
  · have : m = n := by omega
    subst this
    exact ⟨g, c⟩
end
end
section
theorem kh_wp {α : Type} {n : Nat} {c : Nat → Nat → Bool} {P : α → Prop} {cmp : Nat → Nat → (Bool → Shared → Prop) → Shared → Prop} {G : α → Shared → Prop} {s : Shared} (hc : ∀ i j (C : Bool → Shared → Prop), i < n → j < n → C (c i j) s → cmp i j C s) (hg : ∀ a, P a → G a s) : ∀ {t : KasT α}, KH n c t P → t.kasWp cmp G s
  | .ret a, h => hg a h
  | .ask i j k, ⟨h1, h2, h3⟩ => hc i j _ h1 h2 (kh_wp hc hg (t := k (c i j)) h3)
section
variable {prog : Program} {w : World} {A : Around} {E : Value → Shared → Prop} {s : Shared}
theorem sort_pairs {a : Addr} {vs : List Value} {n : Nat} {key : Nat → PairI} {P : Fin → Shared → Prop} (ho : s.heap.get? a = some (seqObj "list" vs.toArray n)) (h64 : vs.length < 64)
    (hty : ∀ v ∈ vs, ∃ b o, b ≠ a ∧ v = .ref b ∧ s.heap.get? b = some o ∧ o.cls = .type "list")
    (hlt : ∀ i j (s' : Shared), i < vs.length → j < vs.length → (∀ b o, b ≠ a → s.heap.get? b = some o → s'.heap.get? b = some o) → ∀ C : Bool → Shared → Prop, C (pairLt (key i) (key j)) s' → wpAny (model prog w) A (oneLt' true (vs.getD i Value.none) (vs.getD j Value.none)) C (fun _ _ => False) s')
    (h : ∀ p : Array Nat, GoodP vs.length p → Srt key p vs.length → P (.done (.ret .none)) { s with heap := sortedHeap s.heap a vs (p.map fun i => vs.getD i Value.none) }) :
    wpAny (model prog w) A (Builtin.«list.sort» ⟨[.ref a], []⟩) P E s := by
  rw [list_sort_plain]
  have ha : a < s.heap.objs.size := Heap.lt_size ho
  refine wpAny_bind (listItems_at ho rfl ?_)
  refine wpAny_bind (listUpdate_at ho rfl ?_ (by rw [List.size_toArray, sizeLine_eq]; omega) (Nat.zero_le _))
  obtain ⟨e1, ho1⟩ : ∃ e1, (s.heap.update a (Obj.mapSeq fun _ => #[])).get? a = some (seqObj "list" #[] e1) := ⟨_, get?_update_seq ho (fun _ => #[])⟩
  refine wpAny_bind (seqEpoch_at ho1 rfl ?_)
  refine wpAny_bind (wpAny_newTuple ?_ (by show vs.length ≤ _; rw [sizeLine_eq]; omega))
  refine wpAny_bind (wpAny_newList ?_ (Nat.zero_le _))
  refine wpAny_holding ?_
  have ho6 : (((s.heap.update a (Obj.mapSeq fun _ => #[])).push (seqObj "tuple" vs.toArray 0)).push (seqObj "list" #[] 0)).get? a = some (seqObj "list" #[] e1) := by
    rw [Heap.get?_push_ne _ _ _ (by rw [size_push', Heap.size_update]; exact Nat.ne_of_lt (Nat.lt_succ_of_lt ha)), Heap.get?_push_ne _ _ _ (by rw [Heap.size_update]; exact Nat.ne_of_lt ha)]
    exact ho1
  have keep : ∀ b o, b ≠ a → s.heap.get? b = some o → (((s.heap.update a (Obj.mapSeq fun _ => #[])).push (seqObj "tuple" vs.toArray 0)).push (seqObj "list" #[] 0)).get? b = some o := fun b o hb e =>
    Heap.get?_push_of_some _ (Heap.get?_push_of_some _ ((Heap.get?_update_other _ _ (Ne.symm hb)).trans e))
  show wpAny (model prog w) A _ P E { s with heap := ((s.heap.update a (Obj.mapSeq fun _ => #[])).push (seqObj "tuple" vs.toArray 0)).push (seqObj "list" #[] 0) }
  dsimp only
  have hsz : vs.toArray.size = vs.length := by simp
  by_cases h2 : vs.toArray.size < 2
  · rw [if_pos h2, if_pos h2]
    refine wpAny_bind (wpAny_pure ?_)
    rw [StateT.run_pure]
    refine wpAny_bind (wpAny_pure ?_)
    dsimp only
    refine wpAny_bind (seqEpoch_at ho6 rfl ?_)
    refine wpAny_bind (listUpdate_at ho6 rfl ?_ (Nat.zero_le _) (by rw [Array.size_map]; show (PyProof.Rows.pairsOf vs).size ≤ _; rw [pairsOf_size, sizeLine_eq]; omega))
    simp only [bne_self_eq_false, Bool.false_eq_true, if_false]
    have hout : (arrOf (SortSt.mk' general' (vs.toArray.zip vs.toArray) #[] 7 none)).map (·.2) = (List.toArray (List.range vs.length)).map fun i => vs.getD i Value.none := by
      show (PyProof.Rows.pairsOf vs).map (·.2) = _
      apply Array.toList_inj.mp
      simp only [PyProof.Rows.pairsOf, Array.toList_map, Array.toList_zip]
      apply List.ext_getElem?
      intro i
      by_cases hi : i < vs.length
      · simp [hi]
      · simp [Nat.le_of_not_lt hi]
    rw [hout]
    refine wpAny_pure (h _ (List.Perm.refl _) fun i j hij hj => ?_)
    have : i = j := by omega
    subst this; exact KeyOrd.kle_refl _
  · rw [if_neg h2, if_neg h2]
    have h2' : 2 ≤ vs.length := by omega
    refine wpAny_bind (kas_kind (T := .type "list") h2' (fun v hv => ?_) (by decide) (by decide) ?_)
    · obtain ⟨b, o, hb, rfl, hob, hcl⟩ := hty v hv
      have := (Looks.ld (M := model prog w) (part := none) (keep b o hb hob)).andThen (f := fun o => pure o.cls) (b := o.cls) .now
      rw [hcl] at this
      exact this
    have est : SortSt.mk' oneType' (vs.toArray.zip vs.toArray) #[] 7 none = kas_st oneType' (PyProof.Rows.pairsOf vs) (List.toArray (List.range vs.length)) := by
      have e := kas_range (PyProof.Rows.pairsOf vs)
      rw [pairsOf_size] at e
      show SortSt.mk' oneType' (PyProof.Rows.pairsOf vs) #[] 7 none = SortSt.mk' oneType' ((List.toArray (List.range vs.length)).map (kas_item (PyProof.Rows.pairsOf vs))) #[] 7 none
      rw [e]
    have ask : (kas_sort vs.length).kasWp (kas_ask prog w A oneType' vs) (fun p s' => s' = { s with heap := ((s.heap.update a (Obj.mapSeq fun _ => #[])).push (seqObj "tuple" vs.toArray 0)).push (seqObj "list" #[] 0) } ∧ GoodP vs.length p ∧ Srt key p vs.length) { s with heap := ((s.heap.update a (Obj.mapSeq fun _ => #[])).push (seqObj "tuple" vs.toArray 0)).push (seqObj "list" #[] 0) } := by
      refine kh_wp (fun i j C hi hj hC => ?_) (fun p hp => ⟨rfl, hp⟩) (kh_sort (key := key) (by omega))
      show wpAny _ _ (keyLt' oneType' _ _) _ _ _
      rw [keyLt'_oneType]
      exact hlt i j _ hi hj keep C hC
    rw [kas_ask_eq] at ask
    have run := kas_runs (E := E) (Q := fun _ st' s' => ∃ p : Array Nat, p.size = vs.length ∧ arrOf st' = p.map (kas_item (PyProof.Rows.pairsOf vs)) ∧ failedOf st' = none ∧ s' = { s with heap := ((s.heap.update a (Obj.mapSeq fun _ => #[])).push (seqObj "tuple" vs.toArray 0)).push (seqObj "list" #[] 0) } ∧ GoodP vs.length p ∧ Srt key p vs.length)
      h2' h64 (fun p' st' s' a1 a2 a3 a4 => ⟨p', a1, a2, a3, a4⟩) ask
    rw [← est] at run
    refine wpAny_bind (wpAny_mono run ?_ fun _ _ e => e)
    rintro ⟨⟨⟩, st'⟩ s' ⟨p, hp, har, hf, rfl, gp, sp⟩
    dsimp only
    have hout : (arrOf st').map (·.2) = p.map fun i => vs.getD i Value.none := by
      rw [har, Array.map_map]
      congr 1
      funext i
      show (kas_item (PyProof.Rows.pairsOf vs) i).2 = _
      rw [kas_item_eq]
    rw [hout]
    refine wpAny_bind (seqEpoch_at ho6 rfl ?_)
    refine wpAny_bind (listUpdate_at ho6 rfl ?_ (Nat.zero_le _) (by rw [Array.size_map, hp, sizeLine_eq]; omega))
    rw [hf]
    simp only [bne_self_eq_false, Bool.false_eq_true, if_false]
    exact wpAny_pure (h p gp sp)
theorem sorted_pairs {l : Addr} {vs : List Value} {key : Nat → PairI} {Q : Value → Shared → Prop} (hl : s.heap.IsList l vs.toArray) (h64 : vs.length < 64)
    (hty : ∀ v ∈ vs, ∃ b o, v = .ref b ∧ s.heap.get? b = some o ∧ o.cls = .type "list")
    (hlt : ∀ i j (s' : Shared), i < vs.length → j < vs.length → (∀ b o, s.heap.get? b = some o → s'.heap.get? b = some o) → ∀ C : Bool → Shared → Prop, C (pairLt (key i) (key j)) s' → wpAny (model prog w) A.in1.in1 (oneLt' true (vs.getD i Value.none) (vs.getD j Value.none)) C (fun _ _ => False) s')
    (h : ∀ p : Array Nat, GoodP vs.length p → Srt key p vs.length → Q (.ref (s.heap.objs.size + 1)) { s with heap := sortedAll s.heap vs (p.map fun i => vs.getD i Value.none) }) :
    wpAny (model prog w) A (call (.builtin "sorted") [.ref l]) Q E s := by
  refine Calls.call_function_entry kind_sorted plain_sorted entry_sorted (args_sorted1 _) ?_
  unfold Builtin.«sorted»
  refine wpAny_bind (m := checkCount "sorted" 1 1 _) (wpAny_pure ?_)
  refine wpAny_bind (collect_list hl ?_ (by rw [sizeLine_eq]; omega))
  refine wpAny_bind (wpAny_newList ?_ (by rw [sizeLine_eq]; omega))
  have hsz : ((s.heap.push (seqObj "list" #[] 0)).update s.heap.objs.size (Obj.mapSeq (· ++ vs.toArray))).objs.size = s.heap.objs.size + 1 := by
    rw [Heap.size_update, size_push']
  have hoL : (((s.heap.push (seqObj "list" #[] 0)).update s.heap.objs.size (Obj.mapSeq (· ++ vs.toArray))).push (seqObj "list" vs.toArray 0)).get? (s.heap.objs.size + 1) = some (seqObj "list" vs.toArray 0) := by
    rw [← hsz]; exact Heap.get?_push_size _ rfl
  have keep : ∀ b o, s.heap.get? b = some o → (((s.heap.push (seqObj "list" #[] 0)).update s.heap.objs.size (Obj.mapSeq (· ++ vs.toArray))).push (seqObj "list" vs.toArray 0)).get? b = some o := fun b o q =>
    Heap.get?_push_of_some _ ((Heap.get?_update_other _ _ (Nat.ne_of_gt (Heap.lt_size q))).trans (Heap.get?_push_of_some _ q))
  show wpAny _ _ _ _ _ { s with heap := ((s.heap.push (seqObj "list" #[] 0)).update s.heap.objs.size (Obj.mapSeq (· ++ vs.toArray))).push (seqObj "list" vs.toArray 0) }
  rw [hsz]
  have hnew : ∀ b o, s.heap.get? b = some o → b ≠ s.heap.objs.size + 1 := fun b o q => Nat.ne_of_lt (Nat.lt_succ_of_lt (Heap.lt_size q))
  refine wpAny_bind (wpAny_holding (wpAny_call_entry slot_list_sort ⟨_, hoL, rfl⟩ entry_list_sort (sort_pairs (key := key) hoL h64 (fun v hv => ?_) (fun i j s' hi hj hk C hC => ?_) fun p a1 a2 => ⟨_, rfl, ?_⟩) (args_list_sort _)))
  · obtain ⟨b, o, e, hb, hc⟩ := hty v hv
    exact ⟨b, o, hnew b o hb, e, keep b o hb, hc⟩
  · exact hlt i j s' hi hj (fun b o q => hk b o (hnew b o q) (keep b o q)) C hC
  · exact wpAny_pure ⟨_, rfl, h p a1 a2⟩
end
end
section
noncomputable def kleP (a b : PairI) : Prop := pO.kle a b
noncomputable def leP (a b : PairI) : Bool := !pairLt b a
theorem leP_iff (a b : PairI) : leP a b = true ↔ pO.kle a b := by
  unfold leP
  show _ ↔ pairLt b a = false
  simp
noncomputable def sortP (ps : List PairI) : List PairI := ps.mergeSort leP
theorem sorted_eq : ∀ {l1 l2 : List PairI}, l1.Perm l2 → l1.Pairwise kleP → l2.Pairwise kleP → l1 = l2
  | [], l2, h, _, _ => h.nil_eq
  | a :: r1, [], h, _, _ => by have := h.length_eq; simp at this
  | a :: r1, b :: r2, h, h1, h2 => by
    have ha : a ∈ b :: r2 := h.mem_iff.mp (.head _)
    have hb : b ∈ a :: r1 := h.mem_iff.mpr (.head _)
    have hab : a = b := by
      rcases List.mem_cons.mp ha with e | ha
      · exact e
      · rcases List.mem_cons.mp hb with e | hb
        · exact e.symm
        · exact KeyOrd.kle_antisymm (O := pO) ((List.pairwise_cons.mp h1).1 b hb) ((List.pairwise_cons.mp h2).1 a ha)
    subst hab
    rw [sorted_eq h.cons_inv (List.pairwise_cons.mp h1).2 (List.pairwise_cons.mp h2).2]
theorem sortP_perm (ps : List PairI) : (sortP ps).Perm ps := List.mergeSort_perm ps leP
theorem sortP_sorted (ps : List PairI) : (sortP ps).Pairwise kleP := by
  have := List.pairwise_mergeSort (le := leP) (fun a b c h1 h2 => (leP_iff a c).mpr (KeyOrd.kle_trans ((leP_iff a b).mp h1) ((leP_iff b c).mp h2)))
    (fun a b => by
      cases h : leP a b with
      | true => rfl
      | false =>
        have : pairLt b a = true := by unfold leP at h; simpa using h
        have h2 : pO.kle b a := KeyOrd.kle_of_klt (O := pO) this
        rw [(leP_iff b a).mpr h2]; rfl) ps
  exact this.imp fun h => (leP_iff _ _).mp h
theorem sortP_eq {l1 l2 : List PairI} (h : l1.Perm l2) : sortP l1 = sortP l2 := sorted_eq ((sortP_perm l1).trans (h.trans (sortP_perm l2).symm)) (sortP_sorted l1) (sortP_sorted l2)
noncomputable def pNone : PairI := ([], [])
theorem outP {ps : List PairI} {p : Array Nat} (g : GoodP ps.length p) (h : Srt (fun i => ps.getD i pNone) p ps.length) : p.toList.map (fun i => ps.getD i pNone) = sortP ps := by
  refine sorted_eq (List.Perm.trans ?_ (sortP_perm ps).symm) ?_ (sortP_sorted ps)
  · have h1 : (p.toList.map (fun i => ps.getD i pNone)).Perm ((List.range ps.length).map (fun i => ps.getD i pNone)) := List.Perm.map _ g
    have h2 : (List.range ps.length).map (fun i => ps.getD i pNone) = ps := by
      apply List.ext_getElem?
      intro i
      by_cases hi : i < ps.length
      · simp [hi]
      · simp [Nat.le_of_not_lt hi]
    rw [h2] at h1
    exact h1
  · refine List.pairwise_iff_getElem.mpr fun i j hi hj hij => ?_
    have hz := g.size
    simp only [List.length_map, Array.length_toList] at hi hj
    have := h i j (by omega) (by omega)
    simp only [List.getElem_map, Array.getElem_toList]
    have e1 : p.getD i 0 = p[i] := by simp [Array.getD, hi]
    have e2 : p.getD j 0 = p[j] := by simp [Array.getD, hj]
    unfold kk at this
    rw [e1, e2] at this
    exact this
section
variable {W : Wd} {n : Nat}
theorem CallR.sorted {ps : List PairI} (h64 : ps.length < 64) : CallR W n (.builtin "sorted") [.list (ps.map dPair)] (.list ((sortP ps).map dPair)) := fun A g s vs sv r Q E hq => by
  obtain ⟨v, us, rfl, rv, ru⟩ := r.cons_of
  obtain ⟨a, j, ws, rfl, ha, rs⟩ := rv.of_list
  rw [ru.nil_of]
  have hlen : ws.length = ps.length := by have := rs.1; simpa using this
  have hat : ∀ i, i < ws.length → RD W g (ws.getD i Value.none) (dPair (ps.getD i pNone)) := fun i hi => by
    refine rs.2 i _ _ ?_ ?_
    · simp [hi]
    · rw [List.getElem?_map]
      simp [show i < ps.length by omega]
  refine sorted_pairs (key := fun i => ps.getD i pNone) (lob_list (sv.sub _ _ ha)) (by omega) (fun v hv => ?_) (fun i j' s' hi hj hk C hC => ?_) fun p gp sp => ?_
  · obtain ⟨i, hi, rfl⟩ := List.getElem_of_mem hv
    have := hat i hi
    rw [show ws.getD i Value.none = ws[i] by simp [hi]] at this
    obtain ⟨b, k, us', e, hb, _⟩ := this.of_list
    exact ⟨b, _, e, sv.sub _ _ hb, rfl⟩
  · exact oneLt_pair (W := W) (g := g) (fun b o e => hk b o (sv.sub b o e)) (hat i hi) (hat j' hj) (by have := sv.aok.units; show A.units + 1 + 1 + 20 < cLine; omega) hC
  · obtain ⟨e, he⟩ := sortedAll_at s.heap ws (p.map fun i => ws.getD i Value.none)
    have keep : ∀ b o, s.heap.get? b = some o → (sortedAll s.heap ws (p.map fun i => ws.getD i Value.none)).get? b = some o := fun b o q => sortedAll_old q
    have new : s.heap.get? (s.heap.objs.size + 1) = none := Heap.get?_none_of_le (Nat.le_succ _)
    have gnew : g (s.heap.objs.size + 1) = none := gnone sv.sub new
    rw [hlen] at gp sp
    have hout := outP gp sp
    have eo : (seqObj "list" (p.map fun i => ws.getD i Value.none) e) = lob (p.toList.map fun i => ws.getD i Value.none) e := by
      unfold lob
      rw [show (p.toList.map fun i => ws.getD i Value.none).toArray = p.map fun i => ws.getD i Value.none by apply Array.toList_inj.mp; simp]
    rw [eo] at he
    refine hq (.ref (s.heap.objs.size + 1)) _ (seen g (s.heap.objs.size + 1) (lob (p.toList.map fun i => ws.getD i Value.none) e)) (Gr.of ⟨_, s.toks, rfl⟩ keep (fun b o q => seen_ne (fun z => by rw [z, new] at q; cases q)) fun b o q => ?_) (.list _ e _ _ (seen_self ..) ?_ fun i v x h1 h2 => ?_)
    · by_cases hb : b = s.heap.objs.size + 1
      · subst hb; rw [seen_self] at q; cases q; exact he
      · rw [seen_ne hb] at q; exact keep b o (sv.sub b o q)
    · rw [← hout]; simp
    · rw [← hout, List.map_map] at h2
      rw [List.getElem?_map] at h1 h2
      cases hp : p.toList[i]? with
      | none => rw [hp] at h1; cases h1
      | some k =>
        rw [hp] at h1 h2
        cases h1; cases h2
        have hk : k < ws.length := by
          have : k ∈ p.toList := List.mem_of_getElem? hp
          have := List.mem_range.mp (gp.mem_iff.mp this)
          omega
        exact (hat k hk).mono fun b o q => by rw [seen_ne (fun z => by rw [z, gnew] at q; cases q)]; exact q
end
end
section
noncomputable def lineStr (e : Ln) : Str := lead e.l ++ sign e.s ++ Str.ofString (toString e.v)
noncomputable def plOf (e : Ln) : PL := ⟨lineStr e, wsOf (lineStr e), kind e.s, e.v⟩
noncomputable def colL (e : Ln) : List Int := colsOf (lead e.l).cps.toList
noncomputable def rotI {α : Type} (l : List α) (k : Nat) : List α := l.drop k ++ l.take k
noncomputable def foundStep (ns : List Int) (told : Nat → List Int) (acc : List PairI) (first : Nat) : List PairI := if told first = [] then acc else acc ++ [(rotI ns first, told first)]
noncomputable def foundOf (ns : List Int) (told : Nat → List Int) : List PairI := (List.range ns.length).foldl (foundStep ns told) []
noncomputable def topsOf (ps : List Int) : List Nat := (List.range 6).filter fun k => ps.getD k 0 == -1
noncomputable def worthsOf (es : List Ln) (ps : List Int) : List Int := (topsOf ps).map fun k => worthF es ps 5 k
noncomputable def dueOf (es : List Ln) (ps : List Int) (row : List Int) : List PairI := (List.range (topsOf ps).length).map fun spot => (rotI row (2 * (topsOf ps).getD spot 0), rotI (worthsOf es ps) spot)
theorem foundOf_len (ns : List Int) (told : Nat → List Int) : (foundOf ns told).length ≤ ns.length := by
  have go : ∀ (l : List Nat) (acc : List PairI), (l.foldl (foundStep ns told) acc).length ≤ acc.length + l.length := by
    intro l
    induction l with
    | nil => intro acc; simp
    | cons a l ih =>
      intro acc
      have := ih (foundStep ns told acc a)
      have h2 : (foundStep ns told acc a).length ≤ acc.length + 1 := by unfold foundStep; split <;> simp
      rw [List.foldl_cons, List.length_cons]
      omega
  have := go (List.range ns.length) []
  simpa [foundOf] using this
noncomputable def pPair (p : PairI) : PyData := .list [pInts p.1, pInts p.2]
theorem py_pair (p : PairI) : Py (dPair p) (pPair p) := .list _ _ rfl fun i x y h1 h2 => by
  match i, h1, h2 with
  | 0, h1, h2 => cases h1; cases h2; exact py_ints p.1
  | 1, h1, h2 => cases h1; cases h2; exact py_ints p.2
theorem py_pairs (ps : List PairI) : Py (.list (ps.map dPair)) (.list (ps.map pPair)) := .list _ _ (by simp) fun i x y h1 h2 => by
  rw [List.getElem?_map] at h1 h2
  cases h : ps[i]? with
  | none => rw [h] at h1; cases h1
  | some m => rw [h] at h1 h2; cases h1; cases h2; exact py_pair m
theorem canAll_pairs : ∀ ps : List PairI, PyData.canLayAll0 (ps.map pPair) = true
  | [] => by simp [PyData.canLayAll0]
  | p :: r => by simp [PyData.canLayAll0, pPair, pInts, PyData.canLay0, canAll_ints, canAll_pairs r]
theorem depth_pairs : ∀ ps : List PairI, PyData.depthAll (ps.map pPair) ≤ 2
  | [] => by simp [PyData.depthAll]
  | p :: r => by
    have := depth_pairs r
    simp only [List.map_cons, PyData.depthAll, pPair, pInts, PyData.depth, depthAll_ints]
    omega
theorem shaped_pairs (ps : List PairI) : SeqAt.shaped (.list (ps.map pPair)) = true := by
  unfold SeqAt.shaped
  have := depth_pairs ps
  simp only [PyData.canLay0, canAll_pairs, PyData.depth, Bool.true_and]
  exact decide_eq_true (by omega)
theorem eqv_pairs : ∀ ps : List PairI, PyData.eqvAll (ps.map pPair) (ps.map pPair) = true
  | [] => by simp [PyData.eqvAll]
  | p :: r => by
    simp only [List.map_cons, PyData.eqvAll, pPair, pInts, PyData.eqv, eqv_ints, eqv_pairs r, decide_true, Bool.and_self]
section
variable {W : Wd} {n : Nat}
theorem fn_law (G : Glo W) (Gw : WsOk W) (xs : List Int) (hz : xs.length ≤ 1048576) (es : List Ln) (he : pageOf xs = es) (h6 : es.length = 6) (oke : ∀ e ∈ es, e.Ok) (ps : List Int) (hps : parsOf (es.map colL) = ps) (row : List Int) (hrow : rowOf es ps = row) (hrl : row.length = 12) (hrb : ∀ m ∈ row, 0 ≤ m ∧ m < 262144)
    (hpl : ∀ e ∈ es, (plOf e).Ok) (hpg : pageRow (es.map plOf) = row) (ring : List Int) (hring : ringOf es row (turnOf xs) = ring) (hrg : ring.length ≤ 400) (k0 : Nat) (ks : List Nat) (hends : endsOf ring = k0 :: ks) (ns : List Int) (hns : RdVs (ring.drop (k0 + 1) ++ ring.take (k0 + 1)) ns) (hnl : ns.length = 12)
    (told : Nat → List Int) (hval : ∀ first, first < 12 → Fn W (n + 7) "_law_values" [dInts (rotI ns first)] (dInts (told first))) (hw : ∀ f i m, i + 1 + m < es.length → DeedOk (worthP es ps f i m) (worthF es ps f (i + 1 + m)))
    (hfin : sortP (foundOf ns told) = sortP (dueOf es ps row)) : Fn W (n + 8) "law" [dInts xs] (.bool true) := by
  have hpsl : ps.length = 6 := by rw [← hps]; unfold parsOf; simp [h6]
  refine Fn.mk' G 81 _ ["script"] (out := .ret (.bool true)) (by decide) (by rfl) rfl ?_ (by decide) rfl (fnArg1 (.inl (by rfl))) (by rfl) (by rfl) (by rfl) ?_ rfl
  · intro pm cd doc vs h
    obtain ⟨a, rfl⟩ := len1 h
    rfl
  · have F1 : Fn W (n + 7) "_law_draws" [dInts xs] (.tuple [dPage es, .int (turnOf xs)]) := he ▸ (fn_draws (n := n + 6) G xs hz)
    have F2 : Fn W (n + 7) "_law_parents" [dCols (es.map colL)] (dInts ps) := by
      rw [← hps]
      refine (fn_parents (n := n) G (es.map colL) (by simp [h6]) (fun c hc => ?_)).up (by omega)
      obtain ⟨e, _, rfl⟩ := List.mem_map.mp hc
      unfold colL colsOf
      exact Nat.le_of_ble_eq_true rfl
    have F3 : Fn W (n + 7) "_law_laid" [dPage es, dInts ps] (dInts row) := hrow ▸ ((fn_laid (n := n) G es ps (by omega) (by omega) oke).up (by omega))
    have F4 : Fn W (n + 7) "_law_page_read" [linesD (es.map plOf)] (dInts row) := hpg ▸ ((fn_page_read (n := n) G Gw (es.map plOf) (by rw [List.length_map]; omega) (fun p hp => by obtain ⟨e, hm, rfl⟩ := List.mem_map.mp hp; exact hpl e hm)).up (by omega))
    have F5 : Fn W (n + 7) "_law_ring" [dPage es, dInts row, .int (turnOf xs)] (dInts ring) := hring ▸ ((fn_ring (n := n) G es row (turnOf xs) (by omega) (by omega) (fun h => by rw [h] at hrl; cases hrl) oke hrb).up (by omega))
    have F6 : Fn W (n + 7) "_law_ring_read" [dInts ring] (dInts ns) := (fn_ring_read (n := n) G ring ns k0 ks hends hrg hns).up (by omega)
    have F7 : ∀ k : Nat, k < 6 → Fn W (n + 7) "_law_worth" [.int k, dPage es, dInts ps] (.int (worthF es ps 5 k)) := fun k hk => (fn_worth (n := n) G es ps (by omega) (by omega) oke hw 5 k (by omega) (by omega)).up (by omega)
    have F8 : ∀ e ∈ es, Fn W (n + 7) "_law_columns" [.str (lead e.l)] (dInts (colL e)) := fun e hm => by
      have hall : (List.range 10).all (fun l => (lead l).cps.all (· < 128)) = true := by decide +kernel
      exact (fn_columns (n := n) G (lead e.l) (List.all_eq_true.mp hall e.l (List.mem_range.mpr (oke e hm).l))).up (by omega)
    refine ExSs.cons (ExS.assign (EvX.of (d := .tuple [dPage es, .int (turnOf xs)]) (EvE.call (by rfl) F1 (EvL.cons (EvE.name (by rfl)) EvL.nil))) (AsR.tuple (AsRs.cons (AsR.cell (by rfl)) (AsRs.cons (AsR.loc (by rfl)) AsRs.nil)))) ?_
    refine ExSs.cons (V₁ := [("drawn_lines", .val (dPage es)), ("turned_by", .val (.int (turnOf xs))), ("stands_under", .val (dInts ps))]) (ExS.outNext (ExS.letCell (d := dInts ps) ?_ (by rfl)) ?_) ?_
    · refine EvE.call (by rfl) F2 (EvL.cons (EvE.comp (V₀ := []) (ds := es.map dLn) (out := (es.map colL).map dInts) ?_ (EvI.list (EvE.name (d := dPage es) (by rfl))) ?_ ?_) EvL.nil)
      · exact CompSc.of (by rfl) (by decide) (fun p hp => by cases hp)
      · rw [List.map_map]
        refine CompR.map (by rfl) (by rfl) dLn (dInts ∘ colL) es (fun e hm => ?_)
        exact EvE.call (by rfl) (F8 e hm) (EvL.cons (EvE.item (a := dLn e) (EvE.name (by rfl)) EvE.int (SubR.tuple (j := 0) (by rfl) (Nat.le_of_ble_eq_true rfl))) EvL.nil)
      · rw [List.length_map, List.length_map, h6]; exact sizeNat (by omega)
    · show SubV _ _
      repeat (first | exact SubV.nil | refine SubV.cons ?_ (by rfl))
    refine ExSs.cons (ExS.let (d := dInts row) (EvE.call (by rfl) F3 (EvL.cons (EvE.name (by rfl)) (EvL.cons (EvE.name (by rfl)) EvL.nil))) (by rfl)) ?_
    refine ExSs.cons (ExS.ite (q := false) ?_ (fun h => by cases h) (fun _ => ExSs.nil)) ?_
    · have hne := CmpR.neInts (W := W) (n := n + 7) row row
      rw [show (!decide (row = row)) = false by simp] at hne
      refine EvB.cmp (a := dInts row) (EvE.call (by rfl) F4 (EvL.cons (EvE.comp (V₀ := []) (ds := es.map dLn) (out := (es.map plOf).map fun p => D.str p.x) ?_ (EvI.list (EvE.name (d := dPage es) (by rfl))) ?_ ?_) EvL.nil)) (EvE.name (by rfl)) hne
      · exact CompSc.of (by rfl) (by decide) (fun p hp => by cases hp)
      · rw [List.map_map]
        refine CompR.map (by rfl) (by rfl) dLn _ es (fun e hm => ?_)
        have oe := oke e hm
        have hsz : (lineStr e).length ≤ 50 := (hpl e hm).size
        unfold lineStr at hsz
        rw [Str.length_append, Str.length_append] at hsz
        have v0 := oe.v0
        have v1 := oe.v1
        have hlog : e.v.natAbs.log2 < 1920 := by
          by_cases h0 : e.v.natAbs = 0
          · rw [h0]; decide
          · have : e.v.natAbs < 2 ^ 10 := by have : (2 : Nat) ^ 10 = 1024 := by decide
                                             omega
            have := (Nat.log2_lt h0).mpr this
            omega
        refine EvE.bin (EvE.bin (EvE.item (a := dLn e) (EvE.name (by rfl)) EvE.int (SubR.tuple (j := 0) (by rfl) (Nat.le_of_ble_eq_true rfl))) (EvE.item (a := dLn e) (EvE.name (by rfl)) EvE.int (SubR.tuple (j := 1) (by rfl) (Nat.le_of_ble_eq_true rfl))) (BinR.addS (sizeNat (by omega)))) (EvE.bcall (bnStr G) (CallR.strI hlog) (EvL.cons (EvE.item (a := dLn e) (EvE.name (by rfl)) EvE.int (SubR.tuple (j := 2) (by rfl) (Nat.le_of_ble_eq_true rfl))) EvL.nil)) (BinR.addS ?_)
        rw [Str.length_append]
        exact sizeNat (by omega)
      · rw [List.length_map, List.length_map, h6]; exact sizeNat (by omega)
    refine ExSs.cons (V₁ := [("drawn_lines", .val (dPage es)), ("stands_under", .val (dInts ps)), ("laid_row", .val (dInts row)), ("around", .val (dInts ns))]) (ExS.outNext (ExS.let (d := dInts ns) (EvE.call (by rfl) F6 (EvL.cons (EvE.call (by rfl) F5 (EvL.cons (EvE.name (by rfl)) (EvL.cons (EvE.name (by rfl)) (EvL.cons (EvE.name (by rfl)) EvL.nil)))) EvL.nil)) (by rfl)) ?_) ?_
    · show SubV _ _
      repeat (first | exact SubV.nil | refine SubV.cons ?_ (by rfl))
    refine ExSs.cons (ExS.own (EvN.list EvL.nil) (by rfl)) ?_
    have hnm : (ns.map D.int).length = 12 := by rw [List.length_map, hnl]
    refine ExSs.cons (V₁ := [("drawn_lines", .val (dPage es)), ("stands_under", .val (dInts ps)), ("laid_row", .val (dInts row)), ("found", .own ((foundOf ns told).map dPair))]) (ExS.outNext (V₁ := [("drawn_lines", .val (dPage es)), ("stands_under", .val (dInts ps)), ("laid_row", .val (dInts row)), ("around", .val (dInts ns)), ("found", .own ((foundOf ns told).map dPair))]) (ExS.for (EvI.range1 (N := ((ns.map D.int).length : Nat)) (bnRange G) (EvE.bcall (bnLen G) (CallR.len (xs := ns.map D.int) (by omega)) (EvL.cons (EvE.name (by rfl)) EvL.nil)) (by omega) (by omega)) ?_) ?_) ?_
    · rw [show (((ns.map D.int).length : Nat) : Int).toNat = ns.length by simp, rangeD_nat]
      refine ForR.fold (W := W) (n := n + 7) (fun (k : Nat) => D.int (k : Int)) (fun (f : List PairI) => [("drawn_lines", .val (dPage es)), ("stands_under", .val (dInts ps)), ("laid_row", .val (dInts row)), ("around", .val (dInts ns)), ("found", .own (f.map dPair))]) (foundStep ns told) (fun k f => f.length ≤ k) (List.range ns.length) ?_ [] (Nat.le_refl _)
      intro k f k' ha hf
      obtain rfl : k = k' := by
        rw [List.getElem?_range (by have := (List.getElem?_eq_some_iff.mp ha).1; simpa using this)] at ha
        exact Option.some.inj ha
      have hk : k < 12 := by have := (List.getElem?_eq_some_iff.mp ha).1; simp at this; omega
      have hrot : dInts (rotI ns k) = .list ((ns.map D.int).drop k ++ (ns.map D.int).take k) := by unfold dInts rotI; rw [List.map_append, List.map_drop, List.map_take]
      refine ⟨_, [("drawn_lines", .val (dPage es)), ("stands_under", .val (dInts ps)), ("laid_row", .val (dInts row)), ("around", .val (dInts ns)), ("found", .own ((foundStep ns told f k).map dPair))], AsR.loc (by rfl), ExSs.cons (ExS.let (d := dInts (rotI ns k)) (by rw [hrot]; exact EvE.bin (EvE.sliceFrom (EvE.name (by rfl)) (EvE.name (by rfl)) (by omega)) (EvE.sliceTo (EvE.name (by rfl)) (EvE.name (by rfl)) (by omega)) (BinR.addL (sizeNat (by simp; omega)))) (by rfl)) (ExSs.cons (ExS.let (d := dInts (told k)) (EvE.call (by rfl) (hval k hk) (EvL.cons (EvE.name (by rfl)) EvL.nil)) (by rfl)) (ExSs.cons (ExS.ite (q := !decide (told k = [])) (EvB.cmp (EvE.name (by rfl)) (EvE.list EvL.nil) (CmpR.neInts (told k) [])) (fun h => ?_) (fun h => ?_)) ExSs.nil)), SubV.refl, ?_⟩
      · have hne : ¬ told k = [] := by simpa using h
        rw [show foundStep ns told f k = f ++ [(rotI ns k, told k)] by unfold foundStep; rw [if_neg hne]]
        refine ExSs.outNext (ExSs.cons (ExS.expr (EvX.append (d := dPair (rotI ns k, told k)) (by rfl) (EvX.of (EvE.list (EvL.cons (EvE.name (by rfl)) (EvL.cons (EvE.name (by rfl)) EvL.nil)) (sizeNat (Nat.le_of_ble_eq_true rfl)))) (by rfl) (sizeNat (by rw [List.length_map]; omega))) (EnvK.hi _)) ExSs.nil) ?_
        show SubV _ _
        rw [List.map_append]
        repeat (first | exact SubV.nil | refine SubV.cons ?_ (by rfl))
      · have he0 : told k = [] := by simpa using h
        rw [show foundStep ns told f k = f by unfold foundStep; rw [if_pos he0]]
        exact ExSs.sub ExSs.nil (by show SubV _ _; repeat (first | exact SubV.nil | refine SubV.cons ?_ (by rfl)))
      · unfold foundStep
        split
        · omega
        · simp; omega
    · show SubV _ _
      repeat (first | exact SubV.nil | refine SubV.cons ?_ (by rfl))
    have hpk : ∀ k, k < 6 → (ps.map D.int)[k]? = some (.int (ps.getD k 0)) := fun k hk => by
      rw [List.getElem?_map, List.getElem?_eq_getElem (by omega)]
      simp [show k < ps.length by omega]
    have htl : (topsOf ps).length ≤ 6 := by unfold topsOf; exact Nat.le_trans (List.length_filter_le _ _) (by simp)
    have htm : ∀ k ∈ topsOf ps, k < 6 := fun k hk => List.mem_range.mp (List.mem_filter.mp hk).1
    refine ExSs.cons (ExS.letComp (V₀ := [("stands_under", .val (dInts ps))]) (out := (topsOf ps).map fun (k : Nat) => D.int (k : Int)) (ds := rangeD 0 6 1) ?_ ?_ ?_ ?_ ?_ ?_) ?_
    · refine CompSc.of (by rfl) (by decide) ?_
      intro q hq
      rw [List.mem_singleton] at hq
      subst hq
      exact ⟨⟨_, rfl, by rfl⟩, by rfl⟩
    · exact EvI.range1 (N := 6) (bnRange G) EvE.int (by decide) (by decide)
    · rw [rangeD_nat]
      refine CompR.gen (by rfl) (by rfl) (fun (k : Nat) => D.int (k : Int)) (fun k => ps.getD k 0 == -1) _ (List.range 6) (fun k hk => ?_) (fun k hk _ => EvE.name (by rfl))
      have hk := List.mem_range.mp hk
      exact TestsR.one (EvB.cmp (EvE.item (a := dInts ps) (EvE.name (by rfl)) (EvE.name (by rfl)) (SubR.list (j := k) (.inl ⟨by omega, by omega⟩) (hpk k hk) (by rw [List.length_map]; omega))) (EvE.un EvE.int UnR.neg) CmpR.eqI)
    · rw [List.length_map]; exact sizeNat (by omega)
    · rfl
    · rfl
    refine ExSs.cons (ExS.letComp (V₀ := [("drawn_lines", .val (dPage es)), ("stands_under", .val (dInts ps))]) (out := (worthsOf es ps).map D.int) (ds := (topsOf ps).map fun (k : Nat) => D.int (k : Int)) ?_ (EvI.list (EvE.name (by rfl))) ?_ ?_ ?_ ?_) ?_
    · refine CompSc.of (by rfl) (by decide) ?_
      intro q hq
      simp only [List.mem_cons, List.not_mem_nil, or_false] at hq
      rcases hq with rfl | rfl
      · exact ⟨⟨_, rfl, by rfl⟩, by rfl⟩
      · exact ⟨⟨_, rfl, by rfl⟩, by rfl⟩
    · unfold worthsOf
      rw [List.map_map]
      refine CompR.map (by rfl) (by rfl) (fun (k : Nat) => D.int (k : Int)) _ (topsOf ps) (fun k hk => ?_)
      exact EvE.call (by rfl) (F7 k (htm k hk)) (EvL.cons (EvE.name (by rfl)) (EvL.cons (EvE.name (by rfl)) (EvL.cons (EvE.name (by rfl)) EvL.nil)))
    · rw [List.length_map]; unfold worthsOf; rw [List.length_map]; exact sizeNat (by omega)
    · rfl
    · rfl
    refine ExSs.cons (ExS.own (EvN.list EvL.nil) (by rfl)) ?_
    have hwl : (worthsOf es ps).length = (topsOf ps).length := by unfold worthsOf; rw [List.length_map]
    have hrm : (row.map D.int).length = 12 := by rw [List.length_map, hrl]
    have hwm : ((worthsOf es ps).map D.int).length = (topsOf ps).length := by rw [List.length_map, hwl]
    have htn : ((topsOf ps).map fun (k : Nat) => D.int (k : Int)).length = (topsOf ps).length := List.length_map ..
    refine ExSs.cons (V₁ := [("found", .own ((foundOf ns told).map dPair)), ("due", .own ((dueOf es ps row).map dPair))]) (ExS.outNext (V₁ := [("laid_row", .val (dInts row)), ("found", .own ((foundOf ns told).map dPair)), ("tops", .val (.list ((topsOf ps).map fun (k : Nat) => D.int (k : Int)))), ("worths", .val (dInts (worthsOf es ps))), ("due", .own ((dueOf es ps row).map dPair))]) (ExS.for (EvI.range1 (N := (((topsOf ps).map fun (k : Nat) => D.int (k : Int)).length : Nat)) (bnRange G) (EvE.bcall (bnLen G) (CallR.len (xs := (topsOf ps).map fun (k : Nat) => D.int (k : Int)) (by omega)) (EvL.cons (EvE.name (by rfl)) EvL.nil)) (by omega) (by omega)) ?_) ?_) ?_
    · rw [show ((((topsOf ps).map fun (k : Nat) => D.int (k : Int)).length : Nat) : Int).toNat = (topsOf ps).length by rw [htn]; simp, rangeD_nat]
      have := ForR.fold (W := W) (n := n + 7) (sc := fnScope (stAt 81)) (tgt := forT (nth (fnBody (stAt 81)) 10)) (body := forB (nth (fnBody (stAt 81)) 10)) (fun (k : Nat) => D.int (k : Int)) (fun (f : List PairI) => [("laid_row", .val (dInts row)), ("found", .own ((foundOf ns told).map dPair)), ("tops", .val (.list ((topsOf ps).map fun (k : Nat) => D.int (k : Int)))), ("worths", .val (dInts (worthsOf es ps))), ("due", .own (f.map dPair))]) (fun acc spot => acc ++ [(rotI row (2 * (topsOf ps).getD spot 0), rotI (worthsOf es ps) spot)]) (fun k f => f.length ≤ k) (List.range (topsOf ps).length) ?_ [] (Nat.le_refl _)
      · rw [foldl_snoc] at this
        refine .sub ?_ this
        show SubV _ _
        repeat (first | exact SubV.nil | refine SubV.cons ?_ (by rfl))
      · intro k f k' ha hf
        obtain rfl : k = k' := by
          rw [List.getElem?_range (by have := (List.getElem?_eq_some_iff.mp ha).1; simpa using this)] at ha
          exact Option.some.inj ha
        have hk : k < (topsOf ps).length := by have := (List.getElem?_eq_some_iff.mp ha).1; simpa using this
        have hix : ((topsOf ps).map fun (k : Nat) => D.int (k : Int))[k]? = some (.int ((topsOf ps).getD k 0 : Nat)) := by
          rw [List.getElem?_map, List.getElem?_eq_getElem hk]
          simp [hk]
        have hrot : dInts (rotI row (2 * (topsOf ps).getD k 0)) = .list ((row.map D.int).drop (2 * (topsOf ps).getD k 0) ++ (row.map D.int).take (2 * (topsOf ps).getD k 0)) := by unfold dInts rotI; rw [List.map_append, List.map_drop, List.map_take]
        have hrot2 : dInts (rotI (worthsOf es ps) k) = .list (((worthsOf es ps).map D.int).drop k ++ ((worthsOf es ps).map D.int).take k) := by unfold dInts rotI; rw [List.map_append, List.map_drop, List.map_take]
        have hidx : ∀ {V : Vars} {p1 p2 p3 p4 p5 : Pos} {kk : Nat}, V.lookup ("tops" : Str) = some (.val (.list ((topsOf ps).map fun (k : Nat) => D.int (k : Int)))) → V.lookup ("spot" : Str) = some (.val (.int (k : Nat))) → EvE W (n + 7) (fnScope (stAt 81)) V (.BinOp (.Constant (.int 2) kk p1) .Mult (.Subscript (.Name "tops" p2) (.Name "spot" p3) p4) p5) (.int ((2 * (topsOf ps).getD k 0 : Nat) : Int)) := by
          intro V p1 p2 p3 p4 p5 kk h1 h2
          have := EvE.bin (W := W) (n := n + 7) (sc := fnScope (stAt 81)) (V := V) (pos := p5) (EvE.int (i := 2) (k := kk) (pos := p1)) (EvE.item (pos := p4) (EvE.name (pos := p2) h1) (EvE.name (pos := p3) h2) (SubR.list (j := k) (.inl ⟨by omega, by omega⟩) hix (by omega))) (BinR.mul (IntMulOk.of_left (by decide)))
          rwa [show (2 : Int) * ((topsOf ps).getD k 0 : Nat) = ((2 * (topsOf ps).getD k 0 : Nat) : Int) by omega] at this
        refine ⟨_, _, AsR.loc (by rfl), ExSs.cons (ExS.expr (EvX.append (d := dPair (rotI row (2 * (topsOf ps).getD k 0), rotI (worthsOf es ps) k)) (by rfl) (EvX.of (EvE.list (EvL.cons (d := dInts (rotI row (2 * (topsOf ps).getD k 0))) (by rw [hrot]; exact EvE.bin (EvE.sliceFrom (EvE.name (by rfl)) (hidx (by rfl) (by rfl)) (by omega)) (EvE.sliceTo (EvE.name (by rfl)) (hidx (by rfl) (by rfl)) (by omega)) (BinR.addL (sizeNat (by simp; omega)))) (EvL.cons (d := dInts (rotI (worthsOf es ps) k)) (by rw [hrot2]; exact EvE.bin (EvE.sliceFrom (EvE.name (by rfl)) (EvE.name (by rfl)) (by omega)) (EvE.sliceTo (EvE.name (by rfl)) (EvE.name (by rfl)) (by omega)) (BinR.addL (sizeNat (by simp; omega)))) EvL.nil)) (sizeNat (Nat.le_of_ble_eq_true rfl)))) (by rfl) (sizeNat (by rw [List.length_map]; omega))) (EnvK.hi _)) ExSs.nil, ?_, by simp; omega⟩
        show SubV _ _
        rw [List.map_append]
        repeat (first | exact SubV.nil | refine SubV.cons ?_ (by rfl))
    · show SubV _ _
      repeat (first | exact SubV.nil | refine SubV.cons ?_ (by rfl))
    have hfl := foundOf_len ns told
    have hdl : (dueOf es ps row).length ≤ 6 := by unfold dueOf; simp; omega
    refine ExSs.freeze (y := "found") (xs := (foundOf ns told).map dPair) (by rfl) (ExSs.freeze (y := "due") (xs := (dueOf es ps row).map dPair) (by rfl) ?_)
    have heq := CmpR.eqD (W := W) (n := n + 7) (py_pairs (sortP (dueOf es ps row))) (py_pairs (sortP (dueOf es ps row))) (shaped_pairs _) (shaped_pairs _)
    rw [show PyData.eqv (.list ((sortP (dueOf es ps row)).map pPair)) (.list ((sortP (dueOf es ps row)).map pPair)) = true by simp only [PyData.eqv]; exact eqv_pairs _] at heq
    exact ExSs.ret (ExS.ret (EvE.cmp (EvE.bcall (bnSorted G) (hfin ▸ CallR.sorted (ps := foundOf ns told) (by omega)) (EvL.cons (EvE.name (by rfl)) EvL.nil)) (EvE.bcall (bnSorted G) (CallR.sorted (ps := dueOf es ps row) (by omega)) (EvL.cons (EvE.name (by rfl)) EvL.nil)) heq))
end
end
section
/-! the stack of a page read is the parents' rule, when `less` is transitive -/
noncomputable def aliveP (L : Nat → Nat → Bool) (i j : Nat) : Bool := (List.range i).all fun k => !decide (j < k) || L j k
noncomputable def alive (L : Nat → Nat → Bool) (i : Nat) : List Nat := (List.range i).reverse.filter (aliveP L i)
noncomputable def overs (L : Nat → Nat → Bool) (i : Nat) : List Nat := (alive L i).filter (L · i)
noncomputable def parN (L : Nat → Nat → Bool) (i : Nat) : Option Nat := (overs L i).head?
noncomputable def cntN (L : Nat → Nat → Bool) (i j : Nat) : Int := (((List.range i).filter fun m => parN L m == some j).length : Nat)
noncomputable def popN (L : Nat → Nat → Bool) (i : Nat) : List Nat → List Nat
  | [] => []
  | q :: r => if L q i = true then q :: r else popN L i r
section
variable {L : Nat → Nat → Bool}
theorem aliveP_iff {i j : Nat} : aliveP L i j = true ↔ ∀ k, k < i → j < k → L j k = true := by
  unfold aliveP
  rw [List.all_eq_true]
  constructor
  · intro h k hk hj
    have := h k (List.mem_range.mpr hk)
    simpa [hj] using this
  · intro h k hk
    by_cases hj : j < k
    · simp [h k (List.mem_range.mp hk) hj]
    · simp [hj]
theorem alive_succ (i : Nat) : alive L (i + 1) = i :: overs L i := by
  unfold overs alive
  rw [List.range_succ, List.reverse_append, List.reverse_singleton, List.singleton_append, List.filter_cons, if_pos (aliveP_iff.mpr (fun k h1 h2 => by omega)), List.filter_filter]
  congr 1
  refine List.filter_congr fun j hj => ?_
  have hj : j < i := List.mem_range.mp (List.mem_reverse.mp hj)
  rw [Bool.eq_iff_iff, Bool.and_eq_true, aliveP_iff, aliveP_iff]
  constructor
  · intro h
    exact ⟨h i (by omega) hj, fun k h1 h2 => h k (by omega) h2⟩
  · rintro ⟨h1, h2⟩ k hk hjk
    by_cases e : k = i
    · rw [e]; exact h1
    · exact h2 k (by omega) hjk
theorem alive_lt {i j : Nat} (h : j ∈ alive L i) : j < i := List.mem_range.mp (List.mem_reverse.mp (List.mem_filter.mp h).1)
theorem overs_lt {i j : Nat} (h : j ∈ overs L i) : j < i := alive_lt (List.mem_filter.mp h).1
theorem alive_chain : ∀ i : Nat, (alive L i).Pairwise fun q r => L r q = true
  | 0 => .nil
  | i + 1 => by
    rw [alive_succ]
    exact .cons (fun r hr => (List.mem_filter.mp hr).2) ((alive_chain i).filter _)
theorem popN_eq {n : Nat} (tr : ∀ a b c, a < n → b < n → c < n → L a b = true → L b c = true → L a c = true) {i : Nat} (hi : i < n) : ∀ l : List Nat, (∀ j ∈ l, j < n) → (l.Pairwise fun q r => L r q = true) → popN L i l = l.filter (L · i)
  | [], _, _ => rfl
  | q :: r, hn, h => by
    rw [List.pairwise_cons] at h
    unfold popN
    by_cases hq : L q i = true
    · rw [if_pos hq, List.filter_cons, if_pos hq, List.filter_eq_self.mpr (fun a ha => tr a q i (hn a (.tail _ ha)) (hn q (.head _)) hi (h.1 a ha) hq)]
    · rw [if_neg hq, List.filter_cons, if_neg hq, popN_eq tr hi r (fun j hj => hn j (.tail _ hj)) h.2]
theorem parN_lt {i j : Nat} (h : parN L i = some j) : j < i := overs_lt (List.mem_of_head? h)
theorem cntN_succ (i j : Nat) : cntN L (i + 1) j = cntN L i j + if parN L i = some j then 1 else 0 := by
  unfold cntN
  rw [List.range_succ, List.filter_append, List.length_append]
  by_cases h : parN L i = some j
  · simp [h]
  · simp [h]
theorem cntN_self (i j : Nat) (h : i ≤ j + 1) : cntN L i j = 0 := by
  unfold cntN
  rw [List.filter_eq_nil_iff.mpr]
  · rfl
  · intro m hm
    have := List.mem_range.mp hm
    simp only [beq_iff_eq]
    intro h2
    have := parN_lt h2
    omega
theorem set_range {f g : Nat → Int} {i q : Nat} (hq : q < i) (h : ∀ j, g j = f j + if q = j then 1 else 0) : ((List.range i).map f).set q (((List.range i).map f).getD q 0 + 1) = (List.range i).map g := by
  refine List.ext_getElem (by simp) fun k h1 h2 => ?_
  rw [List.getElem_set]
  have hk : k < i := by simpa using h2
  by_cases e : q = k
  · subst e
    simp [h, hq]
  · simp [h, e]
theorem foldLast (P : Nat → Bool) : ∀ (l : List Nat) (a : Int), l.foldl (fun p j => if P j = true then (j : Int) else p) a = ((l.reverse.filter P).head?.map Int.ofNat).getD a
  | [], a => rfl
  | x :: l, a => by
    rw [List.foldl_cons, foldLast P l, List.reverse_cons, List.filter_append, List.head?_append]
    cases (l.reverse.filter P).head? with
    | some y => rfl
    | none => by_cases hx : P x = true <;> simp [hx]
end
noncomputable def LG (cs : List (List Int)) (j k : Nat) : Bool := goodB cs j k
theorem badKs_iff (cs : List (List Int)) {i j : Nat} (h : j < i) : badKs cs j i = [] ↔ (LG cs j i && aliveP (LG cs) i j) = true := by
  unfold badKs LG
  rw [List.filter_eq_nil_iff, Bool.and_eq_true, aliveP_iff]
  constructor
  · intro hb
    have key : ∀ k, j < k → k ≤ i → goodB cs j k = true := fun k h1 h2 => by
      have := hb (k - j - 1) (List.mem_range.mpr (by omega))
      rw [show j + 1 + (k - j - 1) = k by omega] at this
      simpa using this
    exact ⟨key i h (Nat.le_refl _), fun k h1 h2 => key k h2 (by omega)⟩
  · rintro ⟨h1, h2⟩ t ht
    have ht := List.mem_range.mp ht
    by_cases e : j + 1 + t = i
    · rw [e, h1]; decide
    · have := h2 (j + 1 + t) (by omega) (by omega)
      unfold LG at this
      rw [this]; decide
theorem parOf_eq (cs : List (List Int)) (i : Nat) : parOf cs i = ((parN (LG cs) i).map Int.ofNat).getD (-1) := by
  unfold parOf parN overs alive
  rw [List.filter_filter, ← foldLast]
  have go : ∀ (l : List Nat) (a : Int), (∀ j ∈ l, j < i) → l.foldl (parStep cs i) a = l.foldl (fun p j => if (LG cs j i && aliveP (LG cs) i j) = true then (j : Int) else p) a := by
    intro l
    induction l with
    | nil => intro a _; rfl
    | cons x l ih =>
      intro a h
      rw [List.foldl_cons, List.foldl_cons, ih _ (fun j hj => h j (.tail _ hj))]
      congr 1
      unfold parStep
      by_cases hb : badKs cs x i = []
      · rw [if_pos hb, if_pos ((badKs_iff cs (h x (.head _))).mp hb)]
      · rw [if_neg hb, if_neg (fun h2 => hb ((badKs_iff cs (h x (.head _))).mpr h2))]
  exact go _ _ (fun j hj => List.mem_range.mp hj)
theorem parOf_some {cs : List (List Int)} {i : Nat} (j : Nat) : parOf cs i = (j : Int) ↔ parN (LG cs) i = some j := by
  rw [parOf_eq]
  cases h : parN (LG cs) i with
  | none => simp
  | some k => simp; omega
theorem below_eq (cs : List (List Int)) (j : Nat) : below (parsOf cs) j = cntN (LG cs) cs.length j := by
  unfold below parsOf cntN
  rw [List.length_map, List.filter_map, List.length_map]
  congr 2
  refine List.filter_congr fun m _ => ?_
  rw [Bool.eq_iff_iff]
  simp [parOf_some]
section
variable (es : List Ln)
noncomputable def peOf (k : Nat) : PL := plOf (lnAt es k)
noncomputable def encN (k : Nat) : PL × Nat := (peOf es k, k)
noncomputable def wdsN (k : Nat) : Int × Int := ((peOf es k).wd, (peOf es k).own)
theorem es_range : es = (List.range es.length).map (lnAt es) := by
  refine List.ext_getElem (by simp) fun k h1 h2 => ?_
  simp [lnAt, h1]
theorem es_zip : es.zipIdx = (List.range es.length).map fun k => (lnAt es k, k) := by
  refine List.ext_getElem (by simp) fun k h1 h2 => ?_
  simp at h1
  simp [lnAt, h1]
variable {es} {cs : List (List Int)} (hless : ∀ j i, j < es.length → i < es.length → lessOf (peOf es j).w (peOf es i).w = LG cs j i) (tr : ∀ a b c, a < es.length → b < es.length → c < es.length → LG cs a b = true → LG cs b c = true → LG cs a c = true)
include hless
theorem popW_map {i : Nat} (hi : i < es.length) : ∀ l : List Nat, (∀ j ∈ l, j < es.length) → popW (peOf es i) (l.map (encN es)) = (popN (LG cs) i l).map (encN es)
  | [], _ => rfl
  | q :: r, h => by
    rw [List.map_cons]
    unfold popW popN
    rw [show lessOf (encN es q).1.w (peOf es i).w = LG cs q i from hless q i (h q (.head _)) hi]
    by_cases hq : LG cs q i = true
    · rw [if_pos hq, if_pos hq, List.map_cons]
    · rw [if_neg hq, if_neg hq, popW_map hi r (fun j hj => h j (.tail _ hj))]
include tr
theorem readAll_eq : ∀ i : Nat, i ≤ es.length → readAll ((List.range i).map (peOf es)) = ⟨(alive (LG cs) i).map (encN es), (List.range i).map (wdsN es), (List.range i).map (cntN (LG cs) i)⟩
  | 0, _ => rfl
  | i + 1, hi => by
    have ih := readAll_eq i (by omega)
    unfold readAll at ih ⊢
    rw [List.range_succ, List.map_append, List.foldl_append, ih]
    show readStep _ (peOf es i) = _
    unfold readStep
    dsimp only
    rw [popW_map hless (by omega) _ (fun j hj => by have := alive_lt hj; omega), popN_eq tr (by omega) _ (fun j hj => by have := alive_lt hj; omega) (alive_chain i), ← overs, List.length_map, List.length_range, alive_succ, List.map_cons, List.map_append, List.map_append]
    congr 1
    have e0 : (List.map (cntN (LG cs) (i + 1)) [i]) = [0] := by rw [List.map_cons, cntN_self _ _ (Nat.le_refl _)]; rfl
    rw [e0]
    congr 1
    cases ho : overs (LG cs) i with
    | nil =>
      have hp : parN (LG cs) i = none := by unfold parN; rw [ho]; rfl
      show (List.range i).map _ = _
      refine List.map_congr_left fun j _ => ?_
      rw [cntN_succ, hp]; simp
    | cons q r =>
      have hp : parN (LG cs) i = some q := by unfold parN; rw [ho]; rfl
      show ((List.range i).map _).set q (((List.range i).map _).getD q 0 + 1) = _
      exact set_range (parN_lt hp) (fun j => by rw [cntN_succ, hp]; simp)
theorem pageRow_eq (hcs : cs.length = es.length) : pageRow (es.map plOf) = rowOf es (parsOf cs) := by
  have e1 : es.map plOf = (List.range es.length).map (peOf es) := by
    conv => lhs; rw [es_range es]
    rw [List.map_map]; rfl
  unfold pageRow rowOf
  rw [e1, readAll_eq hless tr es.length (Nat.le_refl _), es_zip]
  dsimp only
  rw [List.zip_map', List.foldl_map, List.foldl_map]
  congr 1
  funext r k
  unfold pairStep rowStep
  dsimp only
  rw [below_eq, hcs]
  rfl
end
end
section
/-! a page line is read as it was written -/
theorem str_eq {x y : Str} (h : x.cps.toList = y.cps.toList) : x = y := by
  cases x; cases y
  congr 1
  exact Array.toList_inj.mp h
theorem slice_list (x : Str) {a b : Nat} (hab : a ≤ b) (hb : b ≤ x.length) : (Txt.slice x (some (a : Nat)) (some ((b : Nat) : Int))).cps.toList = (x.cps.toList.drop a).take (b - a) := by
  unfold Txt.slice
  split
  · rename_i h
    rw [StrLaws.strSliceIndices_plain hab hb] at h
    simp at h
    have hl : x.cps.toList.length = x.length := by rw [Array.length_toList]; rfl
    have : a = 0 := by omega
    subst this
    rw [List.drop_zero, List.take_of_length_le (by omega)]
  · rw [StrLaws.sliced_plain x hab hb]
theorem slice_tail (x : Str) {a : Nat} (ha : a ≤ x.length) : (Txt.slice x (some (a : Nat)) none).cps.toList = x.cps.toList.drop a := by
  have e : Txt.slice x (some ((a : Nat) : Int)) none = Txt.slice x (some ((a : Nat) : Int)) (some ((x.length : Nat) : Int)) := by
    unfold Txt.slice
    rw [StrLaws.sliceIdx_none_hi]
  rw [e, slice_list x ha (Nat.le_refl _)]
  have hl : x.cps.toList.length = x.length := by rw [Array.length_toList]; rfl
  exact List.take_of_length_le (by rw [List.length_drop, hl]; omega)
theorem wsGo_stop {d : Nat} {rest : List Nat} (h1 : d ≠ 32) (h2 : d ≠ 9) : ∀ (cs : List Nat) (w : WsV), wsGo (cs ++ d :: rest) w = wsGo cs w
  | [], w => by
    rw [List.nil_append]
    unfold wsGo
    rw [if_neg h1, if_neg h2]
  | c :: cs, w => by
    rw [List.cons_append]
    unfold wsGo
    rw [wsGo_stop h1 h2 cs, wsGo_stop h1 h2 cs]
noncomputable def digC (v : Int) : List Nat := (Str.ofString (toString v)).cps.toList
theorem digs_all : (List.range 1000).all (fun v => decide (1 ≤ (digC v).length) && decide ((digC v).length ≤ 3) && (digC v).all fun c => decide (48 ≤ c) && decide (c < 58)) = true := by decide +kernel
theorem digs_at {v : Int} (h0 : 0 ≤ v) (h1 : v < 1000) : 1 ≤ (digC v).length ∧ (digC v).length ≤ 3 ∧ ∀ c ∈ digC v, 48 ≤ c ∧ c < 58 := by
  have := List.all_eq_true.mp digs_all v.toNat (List.mem_range.mpr (by omega))
  rw [Int.toNat_of_nonneg h0, Bool.and_eq_true, Bool.and_eq_true, decide_eq_true_iff, decide_eq_true_iff, List.all_eq_true] at this
  refine ⟨this.1.1, this.1.2, fun c hc => ?_⟩
  have := this.2 c hc
  rw [Bool.and_eq_true, decide_eq_true_iff, decide_eq_true_iff] at this
  exact this
noncomputable def leadC (l : Nat) : List Nat := (lead l).cps.toList
noncomputable def signC (s : Nat) : List Nat := (sign s).cps.toList
theorem leads_ok : (List.range 10).all (fun l => decide ((leadC l).length ≤ 3) && decide ((wsGo (leadC l) ⟨0, 0, 0, []⟩).n = (leadC l).length) && (leadC l).all fun c => decide (c < 128)) = true := by decide +kernel
theorem signs_ok : (List.range 8).all (fun s => decide ((signC s).length = if s = 7 then 2 else 1) && ((signC s).all fun c => decide (c < 128) && decide (c ≠ 32) && decide (c ≠ 9)) && (extD.lookup ⟨(signC s).toArray⟩ matches some (.int _))) = true := by decide +kernel
noncomputable def kindHit (s : Nat) : Bool := match extD.lookup ⟨(signC s).toArray⟩ with
  | some (.int k) => decide (k = kind s)
  | _ => false
theorem signs_kind : (List.range 8).all kindHit = true := by decide +kernel
theorem signs_none : (List.range 7).all (fun s => (List.range 10).all fun d => (extD.lookup ⟨(signC s ++ [48 + d]).toArray⟩).isNone) = true := by decide +kernel
theorem line_list (e : Ln) : (lineStr e).cps.toList = leadC e.l ++ signC e.s ++ digC e.v := by
  unfold lineStr leadC signC digC
  rw [Str.cps_append, Str.cps_append, Array.toList_append, Array.toList_append]
structure LineF (e : Ln) : Prop where
  a : (leadC e.l).length ≤ 3 ∧ (wsGo (leadC e.l) ⟨0, 0, 0, []⟩).n = (leadC e.l).length ∧ ∀ c ∈ leadC e.l, c < 128
  b : (signC e.s).length = if e.s = 7 then 2 else 1
  c : ∀ c ∈ signC e.s, c < 128 ∧ c ≠ 32 ∧ c ≠ 9
  d : extD.lookup ⟨(signC e.s).toArray⟩ = some (.int (kind e.s))
  n : e.s ≠ 7 → ∀ k, 48 ≤ k → k < 58 → extD.lookup ⟨(signC e.s ++ [k]).toArray⟩ = none
theorem lineF {e : Ln} (ok : e.Ok) : LineF e := by
  have h1 := List.all_eq_true.mp leads_ok e.l (List.mem_range.mpr ok.l)
  have h2 := List.all_eq_true.mp signs_ok e.s (List.mem_range.mpr ok.s)
  have h3 := List.all_eq_true.mp signs_kind e.s (List.mem_range.mpr ok.s)
  simp only [Bool.and_eq_true, decide_eq_true_iff, List.all_eq_true] at h1 h2
  refine ⟨⟨h1.1.1, h1.1.2, h1.2⟩, h2.1.1, fun c hc => ⟨(h2.1.2 c hc).1.1, (h2.1.2 c hc).1.2, (h2.1.2 c hc).2⟩, ?_, fun hs k k1 k2 => ?_⟩
  · unfold kindHit at h3
    split at h3
    · rename_i k hk
      rw [hk, of_decide_eq_true h3]
    · cases h3
  · have := List.all_eq_true.mp signs_none e.s (List.mem_range.mpr (by have := ok.s; omega))
    have := List.all_eq_true.mp this (k - 48) (List.mem_range.mpr (by omega))
    rw [show 48 + (k - 48) = k by omega] at this
    exact Option.isNone_iff_eq_none.mp this
theorem wsOf_line {e : Ln} (ok : e.Ok) : wsOf (lineStr e) = wsGo (leadC e.l) ⟨0, 0, 0, []⟩ := by
  have F := lineF ok
  unfold wsOf
  rw [line_list]
  cases hs : signC e.s with
  | nil => have := F.b; rw [hs] at this; simp at this; split at this <;> omega
  | cons d r =>
    have := F.c d (by rw [hs]; exact .head _)
    rw [List.append_assoc, List.cons_append, wsGo_stop this.2.1 this.2.2]
theorem plOf_ok {e : Ln} (ok : e.Ok) : (plOf e).Ok := by
  have F := lineF ok
  have D := digs_at ok.v0 ok.v1
  have hn : (plOf e).w.n = (leadC e.l).length := by
    show (wsOf (lineStr e)).n = _
    rw [wsOf_line ok]; exact F.a.2.1
  have hll := line_list e
  have hl : (lineStr e).length = (leadC e.l).length + (signC e.s).length + (digC e.v).length := by
    have : (lineStr e).cps.toList.length = (lineStr e).length := by rw [Array.length_toList]; rfl
    rw [← this, hll, List.length_append, List.length_append]
  have hs2 : 1 ≤ (signC e.s).length ∧ (signC e.s).length ≤ 2 := by have := F.b; split at this <;> omega
  have h2 : (Txt.slice (plOf e).x (some ((plOf e).w.n : Nat)) (some (((plOf e).w.n + 2 : Nat) : Int))).cps.toList = (signC e.s ++ digC e.v).take 2 := by
    rw [hn, show (plOf e).x = lineStr e from rfl, slice_list _ (by omega) (by omega), hll, List.append_assoc, List.drop_left' rfl]
    congr 1; omega
  have hb : behB (plOf e) = (leadC e.l).length + (signC e.s).length := by
    unfold behB hitB
    rw [hn]
    congr 1
    by_cases h7 : e.s = 7
    · have : Txt.slice (plOf e).x (some ((leadC e.l).length : Nat)) (some (((leadC e.l).length + 2 : Nat) : Int)) = ⟨(signC e.s).toArray⟩ := by
        rw [← hn]
        refine str_eq (h2.trans ?_)
        have hb := F.b
        rw [if_pos h7] at hb
        rw [List.take_left' hb]
      rw [this, F.d, F.b, if_pos h7]; rfl
    · cases hd : digC e.v with
      | nil => rw [hd] at D; exact absurd D.1 (by simp)
      | cons k r =>
        have hb := F.b
        rw [if_neg h7] at hb
        have hk := D.2.2 k (by rw [hd]; exact .head _)
        have : Txt.slice (plOf e).x (some ((leadC e.l).length : Nat)) (some (((leadC e.l).length + 2 : Nat) : Int)) = ⟨(signC e.s ++ [k]).toArray⟩ := by
          rw [← hn]
          refine str_eq (h2.trans ?_)
          rw [hd, show signC e.s ++ k :: r = (signC e.s ++ [k]) ++ r by simp, List.take_left' (by simp [hb])]
        rw [this, F.n h7 k hk.1 hk.2, hb]; rfl
  have hsg : (⟨(signC e.s).toArray⟩ : Str) = sign e.s := str_eq rfl
  refine ⟨?_, ?_, rfl, ?_, ?_, ok.v0, ok.v1⟩
  · rw [show (plOf e).x = lineStr e from rfl, ← Array.all_toList, hll, List.all_eq_true]
    intro c hc
    rw [List.mem_append, List.mem_append] at hc
    rw [decide_eq_true_iff]
    rcases hc with (hc | hc) | hc
    · exact F.a.2.2 c hc
    · exact (F.c c hc).1
    · have := D.2.2 c hc; omega
  · show (lineStr e).length ≤ 50
    have := F.a.1
    omega
  · have : Txt.slice (plOf e).x (some ((plOf e).w.n : Nat)) (some (behB (plOf e) : Int)) = ⟨(signC e.s).toArray⟩ := by
      refine str_eq ?_
      rw [hn, hb, show (plOf e).x = lineStr e from rfl, slice_list _ (by omega) (by omega), hll, List.append_assoc, List.drop_left' rfl, List.take_left' (by omega)]
    rw [this]; exact F.d
  · refine str_eq ?_
    rw [hb, show (plOf e).x = lineStr e from rfl, slice_tail _ (by omega), hll, List.drop_left' (by rw [List.length_append])]
    rfl
end
section
theorem less_all : (List.range 10).all (fun i => (List.range 10).all fun j => lessOf (wsGo (leadC i) ⟨0, 0, 0, []⟩) (wsGo (leadC j) ⟨0, 0, 0, []⟩) == leftB (colsOf (leadC i)) (colsOf (leadC j))) = true := by decide +kernel
theorem ges_trans : ∀ as bs cs : List Int, as.length ≤ bs.length → ges as bs = [] → ges bs cs = [] → ges as cs = []
  | [], _, _, _, _, _ => by simp [ges]
  | a :: as, [], _, h, _, _ => by simp at h
  | a :: as, b :: bs, [], _, _, _ => by simp [ges]
  | a :: as, b :: bs, c :: cs, h, h1, h2 => by
    unfold ges at h1 h2 ⊢
    by_cases e1 : a ≥ b
    · rw [if_pos e1] at h1; exact absurd h1 (List.cons_ne_nil _ _)
    · by_cases e2 : b ≥ c
      · rw [if_pos e2] at h2; exact absurd h2 (List.cons_ne_nil _ _)
      · rw [if_neg e1] at h1
        rw [if_neg e2] at h2
        rw [if_neg (by omega)]
        exact ges_trans as bs cs (by simpa using h) h1 h2
theorem colAt (es : List Ln) {j : Nat} (h : j < es.length) : (es.map colL).getD j [] = colsOf (leadC (lnAt es j).l) := by
  rw [List.getD_eq_getElem?_getD, List.getElem?_map, List.getElem?_eq_getElem h]
  simp [lnAt, h, colL, leadC]
theorem lnAt_okG {es : List Ln} (ok : ∀ e ∈ es, e.Ok) {j : Nat} (h : j < es.length) : (lnAt es j).Ok := by
  have : lnAt es j = es[j] := by simp [lnAt, h]
  rw [this]
  exact ok _ (List.getElem_mem h)
theorem page_read_eq {es : List Ln} (ok : ∀ e ∈ es, e.Ok) : pageRow (es.map plOf) = rowOf es (parsOf (es.map colL)) := by
  refine pageRow_eq (fun j i hj hi => ?_) (fun a b c ha hb hc h1 h2 => ?_) (by simp)
  · show lessOf (wsOf (lineStr (lnAt es j))) (wsOf (lineStr (lnAt es i))) = leftB _ _
    have oj := lnAt_okG ok hj
    have oi := lnAt_okG ok hi
    rw [wsOf_line oj, wsOf_line oi, colAt es hj, colAt es hi]
    have := List.all_eq_true.mp (List.all_eq_true.mp less_all _ (List.mem_range.mpr oj.l)) _ (List.mem_range.mpr oi.l)
    exact eq_of_beq this
  · unfold LG goodB leftB at h1 h2 ⊢
    rw [colAt es ha, colAt es hb] at h1
    rw [colAt es hb, colAt es hc] at h2
    rw [colAt es ha, colAt es hc]
    exact decide_eq_true (ges_trans _ _ _ (by simp [colsOf]) (of_decide_eq_true h1) (of_decide_eq_true h2))
theorem parN_lam {L : Nat → Nat → Bool} {n : Nat} (tr : True) {k p : Nat} (hk : parN L k = some p) : p < k ∧ ∀ j, p < j → j < k → ∃ q, parN L j = some q ∧ p ≤ q := by
  refine ⟨parN_lt hk, fun j h1 h2 => ?_⟩
  have hp := List.mem_of_head? hk
  unfold overs at hp
  obtain ⟨ha, hl⟩ := List.mem_filter.mp hp
  have hal := aliveP_iff.mp (List.mem_filter.mp ha).2
  have hpj : p ∈ overs L j := by
    refine List.mem_filter.mpr ⟨List.mem_filter.mpr ⟨List.mem_reverse.mpr (List.mem_range.mpr h1), aliveP_iff.mpr fun m m1 m2 => hal m (by omega) m2⟩, hal j h2 h1⟩
  have hsort : (overs L j).Pairwise (· > ·) := by
    unfold overs alive
    refine List.Pairwise.filter _ (List.Pairwise.filter _ ?_)
    rw [List.pairwise_reverse]
    exact List.pairwise_lt_range
  unfold parN
  cases ho : overs L j with
  | nil => rw [ho] at hpj; cases hpj
  | cons q r =>
    rw [ho] at hpj hsort
    refine ⟨q, rfl, ?_⟩
    rcases List.mem_cons.mp hpj with rfl | h
    · exact Nat.le_refl _
    · exact Nat.le_of_lt ((List.pairwise_cons.mp hsort).1 p h)
end
section
/-! the ring is read as a turned row -/
theorem and64 : (List.range 256).all (fun o => decide (Builtin.bitAnd (o : Int) 64 = if (o : Int) / 64 % 2 = 1 then 64 else 0) && decide (Builtin.bitAnd (o : Int) 63 = (o : Int) % 64)) = true := by decide +kernel
theorem and_at {o : Int} (h0 : 0 ≤ o) (h1 : o < 256) : (Builtin.bitAnd o 64 = if o / 64 % 2 = 1 then 64 else 0) ∧ Builtin.bitAnd o 63 = o % 64 := by
  have h := List.all_eq_true.mp and64 o.toNat (List.mem_range.mpr ((Int.toNat_lt h0).mpr h1))
  rw [Bool.and_eq_true, decide_eq_true_iff, decide_eq_true_iff, Int.toNat_of_nonneg h0] at h
  exact h
theorem or_add {v y : Int} (h0 : 0 ≤ v) (h1 : 0 ≤ y) (h2 : y < 64) : Builtin.bitOr (v * 64) y = v * 64 + y := by
  rw [bitOr_and, bitAnd_pp (by omega) h1]
  have e := Nat.two_pow_add_eq_or_of_lt (i := 6) (b := y.toNat) (by omega) v.toNat
  have e2 := nat_or_add_and (2 ^ 6 * v.toNat) y.toNat
  have e3 : (v * 64).toNat = 2 ^ 6 * v.toNat := by omega
  rw [e3]
  omega
/-- an octet that is followed, and one that ends a number -/
noncomputable def Go1 (o : Int) : Prop := 0 ≤ o ∧ o < 256 ∧ o / 64 % 2 = 1
noncomputable def End1 (o : Int) : Prop := 0 ≤ o ∧ o < 256 ∧ o / 64 % 2 = 0
theorem Go1.bit {o : Int} (h : Go1 o) : Builtin.bitAnd o 64 ≠ 0 := by
  rw [(and_at h.1 h.2.1).1, if_pos h.2.2]; decide
theorem End1.bit {o : Int} (h : End1 o) : Builtin.bitAnd o 64 = 0 := by
  rw [(and_at h.1 h.2.1).1, if_neg (by have := h.2.2; omega)]
noncomputable def sixes (v : Int) (ds : List Int) : Int := ds.foldl (fun v d => v * 64 + d % 64) v
theorem rdv_run (rest : List Int) : ∀ (ds : List Int) (b val : Int) (z : Int) (j : Nat), (∀ d ∈ b :: ds, Go1 d) → End1 z → 0 ≤ val → val < 64 ^ j → j + ds.length ≤ 10 → RdV val b (ds ++ z :: rest) (sixes val (ds ++ [z])) rest
  | [], b, val, z, j, hd, hz, h0, h1, hj => by
    have hb := hd b (.head _)
    have hbits : Builtin.Int.intBits val ≤ 1000 := by
      have : (64 : Int) ^ j ≤ 64 ^ 10 := by have := Nat.pow_le_pow_right (n := 64) (by decide) (show j ≤ 10 by simp at hj; omega); exact_mod_cast this
      have : val.natAbs < 2 ^ 60 := by have : (64 : Int) ^ 10 ≤ 2 ^ 60 := by decide
                                       omega
      exact Nat.le_trans (bits64 this) (by decide)
    refine .more hb.bit hbits ?_
    rw [(and_at hz.1 hz.2.1).2, or_add h0 (by omega) (by omega)]
    exact .done hz.bit
  | d :: ds, b, val, z, j, hd, hz, h0, h1, hj => by
    have hb := hd b (.head _)
    have hd1 := hd d (.tail _ (.head _))
    rw [List.length_cons] at hj
    have hbits : Builtin.Int.intBits val ≤ 1000 := by
      have : (64 : Int) ^ j ≤ 64 ^ 10 := by have := Nat.pow_le_pow_right (n := 64) (by decide) (show j ≤ 10 by omega); exact_mod_cast this
      have : val.natAbs < 2 ^ 60 := by have : (64 : Int) ^ 10 ≤ 2 ^ 60 := by decide
                                       omega
      exact Nat.le_trans (bits64 this) (by decide)
    refine .more hb.bit hbits ?_
    rw [(and_at hd1.1 hd1.2.1).2, or_add h0 (by omega) (by omega)]
    refine rdv_run rest ds d _ z (j + 1) (fun d' h => hd d' (.tail _ h)) hz (by omega) ?_ (by omega)
    rw [Int.pow_succ]
    omega
/-- a written number: octets that are followed, then one that ends it -/
structure Num (w : List Int) (m : Int) : Prop where
  sh : ∃ ds z, w = ds ++ [z] ∧ (∀ d ∈ ds, Go1 d) ∧ End1 z ∧ ds.length ≤ 5
  val : sixes 0 w = m
theorem Num.rd {w : List Int} {m : Int} (h : Num w m) (rest : List Int) : ∃ b ds, w = b :: ds ∧ RdV (Builtin.bitAnd b 63) b (ds ++ rest) m rest := by
  obtain ⟨ds, z, rfl, hd, hz, hl⟩ := h.sh
  cases ds with
  | nil =>
    refine ⟨z, [], rfl, ?_⟩
    have e := h.val
    rw [show sixes 0 ([] ++ [z]) = 0 * 64 + z % 64 from rfl] at e
    rw [(and_at hz.1 hz.2.1).2, show z % 64 = m by omega]
    exact .done hz.bit
  | cons b ds =>
    refine ⟨b, ds ++ [z], rfl, ?_⟩
    have hb := hd b (.head _)
    have e := h.val
    rw [show sixes 0 (b :: ds ++ [z]) = sixes (0 * 64 + b % 64) (ds ++ [z]) from rfl, show 0 * 64 + b % 64 = b % 64 by omega] at e
    rw [(and_at hb.1 hb.2.1).2, ← e, List.append_assoc]
    rw [List.length_cons] at hl
    exact rdv_run rest ds b (b % 64) z 1 hd hz (by omega) (by omega) (by omega)
theorem rdvs_of : ∀ ps : List (List Int × Int), (∀ p ∈ ps, Num p.1 p.2) → RdVs (ps.map (·.1)).flatten (ps.map (·.2))
  | [], _ => .nil
  | p :: ps, h => by
    obtain ⟨b, ds, e, r⟩ := (h p (.head _)).rd ((ps.map (·.1)).flatten)
    rw [List.map_cons, List.map_cons, List.flatten_cons, e, List.cons_append]
    exact .cons r (rdvs_of ps fun p hp => h p (.tail _ hp))
theorem digs_cases {m : Int} (h0 : 0 ≤ m) (h1 : m < 262144) : (m < 64 ∧ digsOf m = [m % 64]) ∨ (64 ≤ m ∧ m < 4096 ∧ digsOf m = [m % 64, 64 + m / 64 % 64]) ∨ (4096 ≤ m ∧ digsOf m = [m % 64, 64 + m / 64 % 64, 64 + m / 64 / 64 % 64]) := by
  have f64 : ∀ x : Int, x.fdiv 64 = x / 64 := fun x => Int.fdiv_eq_ediv_of_nonneg x (by decide)
  have g64 : ∀ x : Int, x.fmod 64 = x % 64 := fun x => Int.fmod_eq_emod_of_nonneg x (by decide)
  unfold digsOf
  simp only [digL, f64, g64]
  by_cases c1 : m ≥ 64
  · rw [if_pos c1]
    by_cases c2 : m / 64 ≥ 64
    · rw [if_pos c2, if_neg (by omega)]
      exact .inr (.inr ⟨by omega, rfl⟩)
    · rw [if_neg c2]
      exact .inr (.inl ⟨by omega, by omega, rfl⟩)
  · rw [if_neg c1]
    exact .inl ⟨by omega, rfl⟩
theorem sixes_pad (h : Int) (hh : h = 0 ∨ h = 1) (k : Nat) (ws : List Int) : sixes 0 (List.replicate k (64 + 128 * h) ++ ws) = sixes 0 ws := by
  induction k with
  | zero => rfl
  | succ k ih =>
    rw [List.replicate_succ, List.cons_append]
    show sixes (0 * 64 + (64 + 128 * h) % 64) _ = _
    rw [show 0 * 64 + (64 + 128 * h) % 64 = 0 by omega]
    exact ih
noncomputable def wordOf (es : List Ln) (q : Int × Nat) : List Int := (writOf (lnAt es (q.2 / 2)) q.1).map fun d => d + 128 * (lnAt es (q.2 / 2)).h
theorem oct_tab : (List.range 64).all (fun x => [(0 : Int), 1].all fun h => decide ((0 ≤ 64 + (x : Int) + 128 * h ∧ 64 + (x : Int) + 128 * h < 256 ∧ (64 + (x : Int) + 128 * h) / 64 % 2 = 1) ∧ (64 + (x : Int) + 128 * h) % 64 = x) && decide ((0 ≤ (x : Int) + 128 * h ∧ (x : Int) + 128 * h < 256 ∧ ((x : Int) + 128 * h) / 64 % 2 = 0) ∧ ((x : Int) + 128 * h) % 64 = x)) = true := by decide +kernel
theorem oct_at {x h : Int} (hh : h = 0 ∨ h = 1) (x0 : 0 ≤ x) (x1 : x < 64) : (Go1 (64 + x + 128 * h) ∧ (64 + x + 128 * h) % 64 = x) ∧ End1 (x + 128 * h) ∧ (x + 128 * h) % 64 = x := by
  have h1 := List.all_eq_true.mp (List.all_eq_true.mp oct_tab x.toNat (List.mem_range.mpr ((Int.toNat_lt x0).mpr x1))) h (by rcases hh with rfl | rfl; exact .head _; exact .tail _ (.head _))
  rw [Bool.and_eq_true, decide_eq_true_iff, decide_eq_true_iff, Int.toNat_of_nonneg x0] at h1
  exact h1
theorem go_oct {x h : Int} (hh : h = 0 ∨ h = 1) (x0 : 0 ≤ x) (x1 : x < 64) : Go1 (64 + x + 128 * h) ∧ (64 + x + 128 * h) % 64 = x := (oct_at hh x0 x1).1
theorem end_oct {x h : Int} (hh : h = 0 ∨ h = 1) (x0 : 0 ≤ x) (x1 : x < 64) : End1 (x + 128 * h) ∧ (x + 128 * h) % 64 = x := (oct_at hh x0 x1).2
theorem mod64 (x : Int) : 0 ≤ x % 64 ∧ x % 64 < 64 := ⟨Int.emod_nonneg x (by decide), Int.emod_lt_of_pos x (by decide)⟩
theorem word_num {es : List Ln} {q : Int × Nat} (ok : (lnAt es (q.2 / 2)).Ok) (h0 : 0 ≤ q.1) (h1 : q.1 < 262144) : Num (wordOf es q) q.1 := by
  obtain ⟨m, k⟩ := q
  dsimp only at ok h0 h1 ⊢
  unfold wordOf writOf
  dsimp only
  have hp : (lnAt es (k / 2)).p.toNat ≤ 3 := by have := ok.p1; omega
  have hh : (lnAt es (k / 2)).h = 0 ∨ (lnAt es (k / 2)).h = 1 := by have := ok.h0; have := ok.h1; omega
  clear ok
  generalize (lnAt es (k / 2)).h = h at *
  generalize (lnAt es (k / 2)).p.toNat = p at *
  have pad : ∀ d ∈ List.replicate p (64 + 128 * h), Go1 d := fun d hd => by
    rw [(List.mem_replicate.mp hd).2]
    exact (go_oct hh (Int.le_refl 0) (by decide)).1
  have g0 := mod64 m
  have g1 := mod64 (m / 64)
  have g2 := mod64 (m / 64 / 64)
  have e0 := end_oct hh g0.1 g0.2
  have e1 := go_oct hh g1.1 g1.2
  have e2 := go_oct hh g2.1 g2.2
  rw [List.map_append, List.map_replicate]
  rcases digs_cases h0 h1 with ⟨c, e⟩ | ⟨c1, c2, e⟩ | ⟨c, e⟩
  · rw [e]
    refine ⟨⟨List.replicate p (64 + 128 * h), m % 64 + 128 * h, rfl, pad, e0.1, ?_⟩, ?_⟩
    · rw [List.length_replicate]; exact Nat.le_trans hp (by decide)
    rw [sixes_pad h hh]
    show 0 * 64 + (m % 64 + 128 * h) % 64 = m
    rw [e0.2, Int.emod_eq_of_lt h0 c, Int.zero_mul, Int.zero_add]
  · rw [e]
    refine ⟨⟨List.replicate p (64 + 128 * h) ++ [64 + m / 64 % 64 + 128 * h], m % 64 + 128 * h, by simp, fun d hd => ?_, e0.1, ?_⟩, ?_⟩
    · rcases List.mem_append.mp hd with hd | hd
      · exact pad d hd
      · rw [List.mem_singleton.mp hd]; exact e1.1
    · rw [List.length_append, List.length_replicate]; exact Nat.le_trans (Nat.add_le_add_right hp 1) (by decide)
    · rw [sixes_pad h hh]
      show (0 * 64 + (64 + m / 64 % 64 + 128 * h) % 64) * 64 + (m % 64 + 128 * h) % 64 = m
      rw [e0.2, e1.2]
      clear e0 e1 e2 g0 g1 g2 pad e hh
      omega
  · rw [e]
    refine ⟨⟨List.replicate p (64 + 128 * h) ++ [64 + m / 64 / 64 % 64 + 128 * h, 64 + m / 64 % 64 + 128 * h], m % 64 + 128 * h, by simp, fun d hd => ?_, e0.1, ?_⟩, ?_⟩
    · rcases List.mem_append.mp hd with hd | hd
      · exact pad d hd
      · rcases List.mem_cons.mp hd with rfl | hd
        · exact e2.1
        · rw [List.mem_singleton.mp hd]; exact e1.1
    · rw [List.length_append, List.length_replicate]; exact Nat.le_trans (Nat.add_le_add_right hp 2) (by decide)
    · rw [sixes_pad h hh]
      show ((0 * 64 + (64 + m / 64 / 64 % 64 + 128 * h) % 64) * 64 + (64 + m / 64 % 64 + 128 * h) % 64) * 64 + (m % 64 + 128 * h) % 64 = m
      rw [e0.2, e1.2, e2.2]
      clear e0 e1 e2 g0 g1 g2 pad e hh
      omega
theorem split_at : ∀ (ps : List (List Int × Int)) (c : Nat), c < ((ps.map (·.1)).flatten).length → ∃ p1 p2 u u' m, ps = p1 ++ (u ++ u', m) :: p2 ∧ u' ≠ [] ∧ ((ps.map (·.1)).flatten).take c = (p1.map (·.1)).flatten ++ u ∧ ((ps.map (·.1)).flatten).drop c = u' ++ (p2.map (·.1)).flatten
  | [], c, h => by simp at h
  | (w, m) :: ps, c, h => by
    rw [List.map_cons, List.flatten_cons] at h ⊢
    dsimp only at h ⊢
    by_cases hc : c < w.length
    · refine ⟨[], ps, w.take c, w.drop c, m, by rw [List.take_append_drop]; rfl, ?_, ?_, ?_⟩
      · intro e
        have := congrArg List.length e
        simp at this
        omega
      · rw [List.take_append_of_le_length (by omega)]; rfl
      · rw [List.drop_append_of_le_length (by omega)]
    · rw [List.length_append] at h
      obtain ⟨p1, p2, u, u', m', e1, e2, e3, e4⟩ := split_at ps (c - w.length) (by omega)
      refine ⟨(w, m) :: p1, p2, u, u', m', by rw [e1]; rfl, e2, ?_, ?_⟩
      · rw [List.take_append, List.take_of_length_le (by omega), e3]; simp
      · rw [List.drop_append, List.drop_of_length_le (by omega), e4]; simp
theorem ends_at (i : List Int) (z : Int) (r : List Int) (hi : ∀ d ∈ i, Go1 d) (hz : End1 z) : ∃ ks, endsOf (i ++ z :: r) = i.length :: ks := by
  unfold endsOf
  have e : (i ++ z :: r).length = i.length + (r.length + 1) := by simp
  rw [e, List.range_add, List.filter_append, List.range_succ_eq_map, List.map_cons, List.filter_cons]
  have e1 : (List.range i.length).filter (fun k => Builtin.bitAnd ((i ++ z :: r).getD k 0) 64 == 0) = [] := by
    rw [List.filter_eq_nil_iff]
    intro k hk
    have hk := List.mem_range.mp hk
    have : (i ++ z :: r).getD k 0 = i[k] := by
      rw [List.getD_eq_getElem?_getD, List.getElem?_append_left hk, List.getElem?_eq_getElem hk]; rfl
    rw [this]
    have := (hi _ (List.getElem_mem hk)).bit
    simpa using this
  have e2 : (i ++ z :: r).getD (i.length + 0) 0 = z := by
    rw [List.getD_eq_getElem?_getD, List.getElem?_append_right (by omega)]; simp
  rw [e1, List.nil_append, e2, hz.bit, if_pos (by decide)]
  exact ⟨_, rfl⟩
theorem octs_flat (es : List Ln) (row : List Int) : octsOf es row = (row.zipIdx.map (wordOf es)).flatten := by
  unfold octsOf
  have go : ∀ (l : List (Int × Nat)) (acc : List Int), l.foldl (octStep es) acc = acc ++ (l.map (wordOf es)).flatten := by
    intro l
    induction l with
    | nil => intro acc; simp
    | cons q l ih => intro acc; rw [List.foldl_cons, ih, List.map_cons, List.flatten_cons, ← List.append_assoc]; rfl
  rw [go]; rfl
theorem flat_len : ∀ l : List (List Int), (∀ w ∈ l, w.length ≤ 6) → l.flatten.length ≤ 6 * l.length
  | [], _ => by simp
  | w :: l, h => by
    have := flat_len l fun w hw => h w (.tail _ hw)
    have := h w (.head _)
    rw [List.flatten_cons, List.length_append, List.length_cons]
    omega
theorem ring_read_ok {es : List Ln} {row : List Int} (cut : Int) (ok : ∀ e ∈ es, e.Ok) (hr : row.length = 2 * es.length) (hne : row ≠ []) (hb : ∀ m ∈ row, 0 ≤ m ∧ m < 262144) :
    ∃ k0 ks j, endsOf (ringOf es row cut) = k0 :: ks ∧ j ≤ row.length ∧ RdVs ((ringOf es row cut).drop (k0 + 1) ++ (ringOf es row cut).take (k0 + 1)) (rotI row j) ∧ (ringOf es row cut).length ≤ 6 * row.length := by
  have hpos := octs_pos es row hne
  have hq : ∀ q ∈ row.zipIdx, q.1 ∈ row ∧ q.2 < row.length := fun q hq => by
    obtain ⟨k, hk, e⟩ := List.mem_iff_getElem.mp hq
    rw [List.length_zipIdx] at hk
    rw [List.getElem_zipIdx] at e
    rw [← e]
    exact ⟨List.getElem_mem _, by dsimp only; omega⟩
  have okq : ∀ q ∈ row.zipIdx, (lnAt es (q.2 / 2)).Ok := fun q h => lnAt_ok ok (by have := (hq q h).2; omega)
  have hlen : (ringOf es row cut).length ≤ 6 * row.length := by
    have : (ringOf es row cut).length = (octsOf es row).length := by
      unfold ringOf
      rw [List.length_append, List.length_drop, List.length_take]
      omega
    rw [this, octs_flat]
    refine Nat.le_trans (flat_len _ fun w hw => ?_) (by simp)
    obtain ⟨q, hq', rfl⟩ := List.mem_map.mp hw
    unfold wordOf
    rw [List.length_map]
    exact writ_len _ (okq q hq') _
  have hc0 : 0 ≤ cut.fmod ((octsOf es row).length : Nat) := Int.fmod_nonneg_of_pos _ (by omega)
  have hc1 : cut.fmod ((octsOf es row).length : Nat) < ((octsOf es row).length : Nat) := Int.fmod_lt_of_pos _ (by omega)
  unfold ringOf at hlen ⊢
  generalize hc : (cut.fmod ((octsOf es row).length : Nat)).toNat = c at *
  have hcl : c < (octsOf es row).length := by omega
  have hps : octsOf es row = ((row.zipIdx.map fun q => (wordOf es q, q.1)).map (·.1)).flatten := by
    rw [octs_flat, List.map_map]; rfl
  have hps2 : (row.zipIdx.map fun q => (wordOf es q, q.1)).map (·.2) = row := by
    rw [List.map_map]
    show row.zipIdx.map Prod.fst = row
    exact List.zipIdx_map_fst ..
  have hnum : ∀ p ∈ row.zipIdx.map fun q => (wordOf es q, q.1), Num p.1 p.2 := fun p hp => by
    obtain ⟨q, hq', rfl⟩ := List.mem_map.mp hp
    have := hb q.1 (hq q hq').1
    exact word_num (okq q hq') this.1 this.2
  rw [hps] at hcl hlen ⊢
  generalize row.zipIdx.map (fun q => (wordOf es q, q.1)) = ps at *
  obtain ⟨p1, p2, u, u', m, e1, e2, e3, e4⟩ := split_at ps c hcl
  have hw := hnum (u ++ u', m) (by rw [e1]; simp)
  obtain ⟨ds, z, ew, hd, hz, _⟩ := hw.sh
  dsimp only at ew
  obtain ⟨i, eu⟩ : ∃ i, u' = i ++ [z] := by
    rcases List.eq_nil_or_concat u' with h | ⟨i, x, h⟩
    · exact absurd h e2
    · refine ⟨i, ?_⟩
      rw [h, List.concat_eq_append, ← List.append_assoc] at ew
      have := (List.append_inj' ew rfl).2
      rw [h, List.concat_eq_append, this]
  have hi : ∀ d ∈ i, Go1 d := fun d h => by
    rw [eu, ← List.append_assoc] at ew
    have := (List.append_inj' ew rfl).1
    exact hd d (by rw [← this]; exact List.mem_append.mpr (.inr h))
  rw [e4, e3] at hlen ⊢
  have er : u' ++ (p2.map (·.1)).flatten ++ ((p1.map (·.1)).flatten ++ u) = i ++ z :: ((p2.map (·.1)).flatten ++ ((p1.map (·.1)).flatten ++ u)) := by rw [eu]; simp
  obtain ⟨ks, hk⟩ := ends_at i z ((p2.map (·.1)).flatten ++ ((p1.map (·.1)).flatten ++ u)) hi hz
  refine ⟨i.length, ks, p1.length + 1, by rw [er]; exact hk, ?_, ?_, hlen⟩
  · rw [← hps2, e1]; simp
  · rw [List.append_assoc, List.drop_left' (by rw [eu]; simp), List.take_left' (by rw [eu]; simp)]
    have e5 : (p2.map (·.1)).flatten ++ ((p1.map (·.1)).flatten ++ u) ++ u' = ((p2 ++ p1 ++ [(u ++ u', m)]).map (·.1)).flatten := by simp
    have e6 : rotI row (p1.length + 1) = (p2 ++ p1 ++ [(u ++ u', m)]).map (·.2) := by
      unfold rotI
      have : row = (p1.map (·.2) ++ [m]) ++ p2.map (·.2) := by rw [← hps2, e1]; simp
      rw [this, List.drop_left' (by simp), List.take_left' (by simp)]
      simp
    rw [e5, e6]
    refine rdvs_of _ fun p hp => hnum p ?_
    rw [e1]
    simp only [List.mem_append, List.mem_cons, List.not_mem_nil, or_false] at hp ⊢
    rcases hp with (hp | hp) | hp
    · exact .inr (.inr hp)
    · exact .inl hp
    · exact .inr (.inl hp)
end
section
/-! the cycle law of the row -/
noncomputable def valG (stk : List Int) : List It → Option (List Int)
  | [] => some stk
  | t :: r => match valG stk r with
    | none => none
    | some st => if t.c > st.length then none else some ((st.take t.c).foldl (deed t.s) t.v :: st.drop t.c)
theorem valG_nil : ∀ its : List It, valI its = valG [] its
  | [] => rfl
  | t :: r => by unfold valI valG; rw [valG_nil r]; first | done | (cases valG [] r <;> rfl)
theorem valG_app (stk : List Int) : ∀ a b : List It, valG stk (a ++ b) = (valG stk b).bind fun st => valG st a
  | [], b => by cases h : valG stk b <;> simp [valG, h]
  | t :: a, b => by
    rw [List.cons_append, valG, valG_app stk a b]
    cases h : valG stk b with
    | none => rfl
    | some st => rw [Option.bind_some, Option.bind_some, valG]
theorem split_filter {α : Type} {P Q R : α → Bool} : ∀ l : List α, (∀ x ∈ l, R x = (P x || Q x)) → (∀ x ∈ l, P x = true → Q x = false) → (l.Pairwise fun x y => Q x = true → P y = false) → l.filter R = l.filter P ++ l.filter Q
  | [], _, _, _ => rfl
  | x :: l, h1, h2, h3 => by
    rw [List.pairwise_cons] at h3
    have ih := split_filter l (fun y h => h1 y (.tail _ h)) (fun y h => h2 y (.tail _ h)) h3.2
    rw [List.filter_cons, List.filter_cons, List.filter_cons, h1 x (.head _), ih]
    by_cases hp : P x = true
    · rw [hp, h2 x (.head _) hp]; simp
    · rw [show P x = false by simpa using hp]
      by_cases hq : Q x = true
      · have : l.filter P = [] := by
          rw [List.filter_eq_nil_iff]
          intro y hy
          rw [h3.1 y hy hq]; decide
        rw [hq, this]; simp
      · rw [show Q x = false by simpa using hq]; simp
theorem range_split {a b : Nat} (h : a ≤ b) : List.range b = List.range' 0 a ++ List.range' a (b - a) := by
  rw [List.range_eq_range']
  have := List.range'_append (s := 0) (m := a) (n := b - a) (step := 1)
  rw [show 0 + 1 * a = a by omega, show a + (b - a) = b by omega] at this
  exact this.symm
theorem range'_split {s a b : Nat} (h1 : s ≤ a) (h2 : a ≤ b) : List.range' s (b - s) = List.range' s (a - s) ++ List.range' a (b - a) := by
  have := List.range'_append (s := s) (m := a - s) (n := b - a) (step := 1)
  rw [show s + 1 * (a - s) = a by omega, show a - s + (b - a) = b - s by omega] at this
  exact this.symm
theorem range'_head {s b : Nat} (h : s < b) : List.range' s (b - s) = s :: List.range' (s + 1) (b - (s + 1)) := by
  rw [show b - s = (b - (s + 1)) + 1 by omega, List.range'_succ]
section
variable (par : Nat → Option Nat) (n : Nat) (it : Nat → It) (wv : Nat → Int)
noncomputable def kidsN (i : Nat) : List Nat := (List.range n).filter fun j => par j == some i
noncomputable def lowB (i k : Nat) : Bool := match par k with
  | none => true
  | some q => decide (q < i)
/-- the parents are laminar, each item tells how many lie under it, each worth is told by the worths under it -/
structure Wood : Prop where
  lam : ∀ k p, par k = some p → p < k ∧ ∀ j, p < j → j < k → ∃ q, par j = some q ∧ p ≤ q
  cnt : ∀ i, i < n → (it i).c = (kidsN par n i).length
  wor : ∀ i, i < n → wv i = ((kidsN par n i).map wv).foldl (deed (it i).s) (it i).v
variable {par n it wv} (H : Wood par n it wv)
include H
theorem kids_seg {i e : Nat} (hi : i < e) (he : e ≤ n) (hc : ∀ j, e ≤ j → j < n → par j ≠ some i) : kidsN par n i = (List.range' (i + 1) (e - (i + 1))).filter fun j => par j == some i := by
  unfold kidsN
  rw [range_split (show i + 1 ≤ n by omega), range'_split (show i + 1 ≤ e by omega) he, List.filter_append, List.filter_append]
  have e1 : (List.range' 0 (i + 1)).filter (fun j => par j == some i) = [] := by
    rw [List.filter_eq_nil_iff]
    intro j hj h
    have := (H.lam j i (eq_of_beq h)).1
    rw [List.mem_range'_1] at hj
    omega
  have e2 : (List.range' e (n - e)).filter (fun j => par j == some i) = [] := by
    rw [List.filter_eq_nil_iff]
    intro j hj h
    rw [List.mem_range'_1] at hj
    exact hc j (by omega) (by omega) (eq_of_beq h)
  rw [e1, e2]; simp
theorem valG_seg (stk : List Int) {a e : Nat} (he : e ≤ n) (hc : ∀ i j, a ≤ i → i < e → e ≤ j → j < n → par j ≠ some i) : ∀ d i, i + d = e → a ≤ i → valG stk ((List.range' i (e - i)).map it) = some (((List.range' i (e - i)).filter (lowB par i)).map wv ++ stk) := by
  intro d
  induction d with
  | zero => intro i h1 h2; rw [show e - i = 0 by omega]; rfl
  | succ d ih =>
    intro i h1 h2
    have hs : (List.range' (i + 1) (e - (i + 1))).filter (lowB par (i + 1)) = (List.range' (i + 1) (e - (i + 1))).filter (fun j => par j == some i) ++ (List.range' (i + 1) (e - (i + 1))).filter (lowB par i) := by
      refine split_filter _ (fun x hx => ?_) (fun x hx hp => ?_) ?_
      · unfold lowB
        cases hp : par x with
        | none => simp
        | some q => rw [Bool.eq_iff_iff]; simp; omega
      · unfold lowB
        rw [eq_of_beq hp]
        simp
      · refine List.Pairwise.imp_of_mem (fun {x y} hx hy hxy hq => ?_) (List.pairwise_lt_range' (s := i + 1) (n := e - (i + 1)) (step := 1) (by decide))
        rw [List.mem_range'_1] at hx hy
        refine Bool.eq_false_iff.mpr fun hp => ?_
        obtain ⟨q, h3, h4⟩ := (H.lam y i (eq_of_beq hp)).2 x (by omega) hxy
        unfold lowB at hq
        rw [h3] at hq
        have := of_decide_eq_true hq
        omega
    have hk := kids_seg H (i := i) (by omega) he (fun j g1 g2 => hc i j h2 (by omega) g1 g2)
    rw [range'_head (show i < e by omega), List.map_cons, valG, ih (i + 1) (by omega) (by omega), hs, ← hk, List.filter_cons, List.map_append, List.append_assoc]
    have hl : lowB par i i = true := by
      unfold lowB
      cases hp : par i with
      | none => rfl
      | some q => exact decide_eq_true (H.lam i q hp).1
    have hkl : ((kidsN par n i).map wv).length = (it i).c := by rw [List.length_map, H.cnt i (by omega)]
    dsimp only
    rw [if_neg (by rw [List.length_append, hkl]; omega), if_pos hl, List.take_left' hkl, List.drop_left' hkl, ← H.wor i (by omega)]
    rfl
theorem val_top {t : Nat} (ht : t < n) (h0 : par t = none) : valI (((List.range' t (n - t)) ++ List.range' 0 t).map it) = some (((List.range' t (n - t)).filter fun k => par k == none).map wv ++ ((List.range' 0 t).filter fun k => par k == none).map wv) := by
  have hc : ∀ i j, i < t → t ≤ j → j < n → par j ≠ some i := fun i j g1 g2 g3 g4 => by
    by_cases e : j = t
    · rw [e, h0] at g4; cases g4
    · obtain ⟨q, h, _⟩ := (H.lam j i g4).2 t g1 (by omega)
      rw [h0] at h; cases h
  have s1 := valG_seg H [] (a := 0) (e := t) (by omega) (fun i j _ g1 g2 g3 => hc i j g1 g2 g3) t 0 (by omega) (by omega)
  have s2 := fun stk => valG_seg H stk (a := t) (e := n) (Nat.le_refl _) (fun i j g1 g2 g3 g4 => by omega) (n - t) t (by omega) (by omega)
  rw [valG_nil, List.map_append, valG_app]
  rw [show t - 0 = t by omega] at s1
  rw [s1, Option.bind_some, s2, List.append_nil]
  have f1 : (List.range' t (n - t)).filter (lowB par t) = (List.range' t (n - t)).filter fun k => par k == none := by
    refine List.filter_congr fun k hk => ?_
    rw [List.mem_range'_1] at hk
    unfold lowB
    cases hp : par k with
    | none => simp
    | some q =>
      have : ¬ q < t := fun hq => hc q k hq (by omega) (by omega) hp
      simp [this]
  have f2 : (List.range' 0 t).filter (lowB par 0) = (List.range' 0 t).filter fun k => par k == none := by
    refine List.filter_congr fun k hk => ?_
    unfold lowB
    cases hp : par k with
    | none => simp
    | some q => simp
  rw [f1, f2]
theorem val_low {t p : Nat} (ht : t < n) (h0 : par t = some p) : valI (((List.range' t (n - t)) ++ List.range' 0 t).map it) = none := by
  have hpt := (H.lam t p h0).1
  have hc : ∀ i j, p + 1 ≤ i → i < t → t ≤ j → j < n → par j ≠ some i := fun i j g0 g1 g2 g3 g4 => by
    by_cases e : j = t
    · rw [e, h0] at g4; cases g4; omega
    · obtain ⟨q, h, hq⟩ := (H.lam j i g4).2 t g1 (by omega)
      rw [h0] at h; cases h; omega
  have s1 := valG_seg H [] (a := p + 1) (e := t) (by omega) hc (t - (p + 1)) (p + 1) (by omega) (by omega)
  have hlen : ((List.range' (p + 1) (t - (p + 1))).filter (lowB par (p + 1))).length < (it p).c := by
    rw [H.cnt p (by omega)]
    unfold kidsN
    rw [range_split (show t ≤ n by omega), range'_head ht, List.filter_append, List.length_append, List.filter_cons, if_pos (by rw [h0]; exact beq_self_eq_true _), List.length_cons]
    have e1 : List.range' 0 t = List.range' 0 (p + 1) ++ List.range' (p + 1) (t - (p + 1)) := by
      have := range'_split (s := 0) (a := p + 1) (b := t) (by omega) (by omega)
      simpa using this
    have e2 : (List.range' (p + 1) (t - (p + 1))).filter (lowB par (p + 1)) = (List.range' (p + 1) (t - (p + 1))).filter fun j => par j == some p := by
      refine List.filter_congr fun k hk => ?_
      rw [List.mem_range'_1] at hk
      obtain ⟨q, h, hq⟩ := (H.lam t p h0).2 k (by omega) (by omega)
      unfold lowB
      rw [h, Bool.eq_iff_iff]
      simp
      omega
    rw [e1, e2, List.filter_append, List.length_append]
    omega
  have hdrop : ∀ (a b : List It), valI b = none → valI (a ++ b) = none := fun a b h => by
    rw [valG_nil] at h ⊢
    rw [valG_app, h]; rfl
  have e3 : (List.range' t (n - t) ++ List.range' 0 t) = (List.range' t (n - t) ++ List.range' 0 p) ++ List.range' p (t - p) := by
    rw [List.append_assoc]
    congr 1
    have := range'_split (s := 0) (a := p) (b := t) (by omega) (by omega)
    simpa using this
  rw [e3, List.map_append]
  refine hdrop _ _ ?_
  rw [range'_head hpt, List.map_cons, valG_nil, valG, s1]
  dsimp only
  rw [if_pos (by rw [List.append_nil, List.length_map]; exact hlen)]
end
end
section
/-! the worths of a page -/
section
variable (es : List Ln)
noncomputable def csOf : List (List Int) := es.map colL
noncomputable def psOf : List Int := parsOf (csOf es)
noncomputable def parE : Nat → Option Nat := parN (LG (csOf es))
noncomputable def itE (k : Nat) : It := ⟨(lnAt es k).s, (lnAt es k).v, (cntN (LG (csOf es)) es.length k).toNat⟩
noncomputable def wvE (k : Nat) : Int := worthF es (psOf es) 5 k
variable {es}
theorem ps_at {k : Nat} (h : k < es.length) : (psOf es).getD k 0 = ((parE es k).map Int.ofNat).getD (-1) := by
  unfold psOf parsOf
  rw [List.getD_eq_getElem?_getD, List.getElem?_map, List.getElem?_range (by unfold csOf; simpa using h)]
  exact parOf_eq ..
theorem ps_some {k i : Nat} (h : k < es.length) : (psOf es).getD k 0 = (i : Int) ↔ parE es k = some i := by
  rw [ps_at h]
  cases parE es k with
  | none => simp
  | some q => simp; omega
theorem ps_none {k : Nat} (h : k < es.length) : (psOf es).getD k 0 = -1 ↔ parE es k = none := by
  rw [ps_at h]
  cases parE es k with
  | none => simp
  | some q => simp
theorem worthP_eq (ps : List Int) (f i m : Nat) : worthP es ps f i m = (((List.range m).filter fun t => decide (ps.getD (i + 1 + t) 0 = (i : Int))).map fun t => worthF es ps f (i + 1 + t)).foldl (deed (lnAt es i).s) (lnAt es i).v := by
  unfold worthP
  rw [List.foldl_map, List.foldl_filter]
  simp only [decide_eq_true_eq]
theorem worthF_succ (ps : List Int) (f i : Nat) : worthF es ps (f + 1) i = worthP es ps f i (es.length - (i + 1)) := rfl
theorem worth_fuel (ps : List Int) : ∀ (f i : Nat), es.length - 1 - i ≤ f → worthF es ps f i = worthF es ps (f + 1) i
  | 0, i, h => by
    rw [worthF_succ, show es.length - (i + 1) = 0 by omega]
    rfl
  | f + 1, i, h => by
    rw [worthF_succ, worthF_succ, worthP_eq, worthP_eq]
    refine congrArg (List.foldl (deed (lnAt es i).s) (lnAt es i).v) ?_
    refine List.map_congr_left fun t ht => ?_
    have := List.mem_range.mp (List.mem_filter.mp ht).1
    exact worth_fuel ps f (i + 1 + t) (by omega)
theorem kids_tail {i : Nat} (hi : i < es.length) : kidsN (parE es) es.length i = (List.range' (i + 1) (es.length - (i + 1))).filter fun j => parE es j == some i := by
  unfold kidsN
  rw [range_split (show i + 1 ≤ es.length by omega), List.filter_append]
  have e1 : (List.range' 0 (i + 1)).filter (fun j => parE es j == some i) = [] := by
    rw [List.filter_eq_nil_iff]
    intro j hj h
    have := parN_lt (eq_of_beq h)
    rw [List.mem_range'_1] at hj
    omega
  rw [e1, List.nil_append]
theorem wood (h6 : es.length = 6) : Wood (parE es) es.length (itE es) (wvE es) where
  lam := fun k p h => parN_lam (n := 0) trivial h
  cnt := fun i hi => by
    show (cntN _ _ i).toNat = _
    unfold cntN
    rfl
  wor := fun i hi => by
    rw [kids_tail hi]
    show worthF es (psOf es) (4 + 1) i = _
    rw [worthF_succ, worthP_eq, List.range'_eq_map_range, List.filter_map, List.map_map]
    refine congrArg (List.foldl (deed (lnAt es i).s) (lnAt es i).v) ?_
    have e : (List.range (es.length - (i + 1))).filter (fun t => decide ((psOf es).getD (i + 1 + t) 0 = (i : Int))) = (List.range (es.length - (i + 1))).filter ((fun j => parE es j == some i) ∘ fun x => i + 1 + x) := by
      refine List.filter_congr fun t ht => ?_
      have ht := List.mem_range.mp ht
      rw [Bool.eq_iff_iff, decide_eq_true_iff, ps_some (by omega)]
      simp
    rw [e]
    refine List.map_congr_left fun t ht => ?_
    have := List.mem_range.mp (List.mem_filter.mp ht).1
    exact worth_fuel _ 4 (i + 1 + t) (by omega)
theorem ln_bnd (ok : ∀ e ∈ es, e.Ok) {i : Nat} (hi : i < es.length) : (lnAt es i).v.natAbs < 2 ^ 11 := by
  have o := lnAt_ok ok hi
  have h1 := o.v0
  have h2 := o.v1
  have : (2 : Nat) ^ 11 = 2048 := by decide
  omega
theorem Bt_tab : ∀ i, i < 5 → ∀ t, t < 5 → i + t < 5 → Bt (6 - (i + 1 + t)) ≤ Bt (5 - i) := by decide
theorem Bt_9000 : ∀ k, k < 7 → Bt k ≤ 9000 := by decide
theorem worthP_bnd (ok : ∀ e ∈ es, e.Ok) (h6 : es.length = 6) (ps : List Int) {f i m : Nat} (hi : i + 1 + m ≤ 6) (ih : ∀ j, i < j → j < 6 → (worthF es ps f j).natAbs < 2 ^ Bt (6 - j)) : (worthP es ps f i m).natAbs < 2 ^ Bt (6 - i) := by
  rw [worthP_eq]
  have hB : ∀ t, t < m → Bt (6 - (i + 1 + t)) ≤ Bt (5 - i) := fun t ht => Bt_tab i (by omega) t (by omega) (by omega)
  have hf := fold_bnd (lnAt es i).s (Bt_pos (5 - i)) (((List.range m).filter fun t => decide (ps.getD (i + 1 + t) 0 = (i : Int))).map fun t => worthF es ps f (i + 1 + t)) (ln_bnd ok (show i < es.length by omega)) (by decide) (fun o ho => by
    obtain ⟨t, ht, rfl⟩ := List.mem_map.mp ho
    have ht := List.mem_range.mp (List.mem_filter.mp ht).1
    exact Nat.lt_of_lt_of_le (ih _ (by omega) (by omega)) (Nat.pow_le_pow_right (by decide) (hB t ht)))
  refine Nat.lt_of_lt_of_le hf (Nat.pow_le_pow_right (by decide) ?_)
  rw [show 6 - i = (5 - i) + 1 by omega]
  show 11 + _ ≤ 11 + (5 - i) * Bt (5 - i)
  refine Nat.add_le_add_left (Nat.mul_le_mul_right _ ?_) _
  rw [List.length_map]
  have := List.length_filter_le (fun t => decide (ps.getD (i + 1 + t) 0 = (i : Int))) (List.range m)
  rw [List.length_range] at this
  omega
theorem worthF_bnd (ok : ∀ e ∈ es, e.Ok) (h6 : es.length = 6) (ps : List Int) : ∀ f i, i < 6 → (worthF es ps f i).natAbs < 2 ^ Bt (6 - i)
  | 0, i, hi => by
    refine Nat.lt_of_lt_of_le (ln_bnd ok (show i < es.length by omega)) (Nat.pow_le_pow_right (by decide) ?_)
    rw [show 6 - i = (5 - i) + 1 by omega]
    exact Nat.le_add_right _ _
  | f + 1, i, hi => by
    rw [worthF_succ, h6]
    exact worthP_bnd ok h6 ps (by omega) fun j _ hj => worthF_bnd ok h6 ps f j hj
theorem worth_ok (ok : ∀ e ∈ es, e.Ok) (h6 : es.length = 6) (ps : List Int) : ∀ f i m, i + 1 + m < es.length → DeedOk (worthP es ps f i m) (worthF es ps f (i + 1 + m)) := fun f i m h => by
  have hb : ∀ k, Bt (6 - k) ≤ 9000 := fun k => Bt_9000 _ (Nat.lt_succ_of_le (Nat.sub_le 6 k))
  exact DeedOk.of (worthP_bnd ok h6 ps (by omega) fun j _ hj => worthF_bnd ok h6 ps f j hj) (worthF_bnd ok h6 ps f (i + 1 + m) (by omega)) (hb _) (hb _)
theorem itE_ok (ok : ∀ e ∈ es, e.Ok) (h6 : es.length = 6) {k : Nat} (hk : k < es.length) : (itE es k).Ok := by
  have o := lnAt_ok ok hk
  refine ⟨o.s, o.v0, o.v1, ?_⟩
  show (cntN _ _ k).toNat < 8
  unfold cntN
  have := List.length_filter_le (fun m => parN (LG (csOf es)) m == some k) (List.range es.length)
  rw [List.length_range] at this
  omega
noncomputable def itsE (es : List Ln) : List It := (List.range es.length).map (itE es)
theorem foldl_flat {α β : Type} (f : α → List β) : ∀ (l : List α) (acc : List β), l.foldl (fun r a => r ++ f a) acc = acc ++ l.flatMap f
  | [], acc => by simp
  | a :: l, acc => by rw [List.foldl_cons, foldl_flat f l, List.flatMap_cons, List.append_assoc]
theorem row_its : rowOf es (psOf es) = rowI (itsE es) := by
  unfold rowOf rowI itsE
  rw [es_zip, List.foldl_map, List.flatMap_map]
  have := foldl_flat (fun k => [kind (lnAt es k).s, 256 + 8 * (lnAt es k).v + below (psOf es) k]) (List.range es.length) []
  rw [List.nil_append] at this
  refine this.trans ?_
  congr 1
  funext k
  unfold psOf
  rw [below_eq]
  show [_, 256 + 8 * (lnAt es k).v + _] = [_, 256 + 8 * (lnAt es k).v + ((cntN (LG (csOf es)) es.length k).toNat : Int)]
  rw [show (csOf es).length = es.length by unfold csOf; simp]
  congr 2
end
end
section
/-! the law holds -/
theorem rotI_get {α : Type} (l : List α) {k i : Nat} (hk : k ≤ l.length) (hi : i < l.length) : (rotI l k)[i]? = l[(i + k) % l.length]? := by
  unfold rotI
  by_cases h : i < l.length - k
  · rw [List.getElem?_append_left (by rw [List.length_drop]; omega), List.getElem?_drop, Nat.mod_eq_of_lt (by omega), Nat.add_comm]
  · rw [List.getElem?_append_right (by rw [List.length_drop]; omega), List.length_drop, List.getElem?_take_of_lt (by omega), Nat.mod_eq_sub_mod (by omega), Nat.mod_eq_of_lt (by omega)]
    congr 1; omega
theorem rotI_len {α : Type} (l : List α) (k : Nat) : (rotI l k).length = l.length := by unfold rotI; simp; omega
theorem rotI_comp {α : Type} (l : List α) (h : l.length = 12) {j f : Nat} (hj : j ≤ 12) (hf : f < 12) : rotI (rotI l j) f = rotI l ((j + f) % 12) := by
  refine List.ext_getElem? fun i => ?_
  by_cases hi : i < 12
  · rw [rotI_get _ (by rw [rotI_len]; omega) (by rw [rotI_len]; omega), rotI_len, h, rotI_get _ (by omega) (by omega), rotI_get _ (by omega) (by omega), h]
    congr 1; omega
  · rw [List.getElem?_eq_none (by rw [rotI_len, rotI_len]; omega), List.getElem?_eq_none (by rw [rotI_len]; omega)]
theorem rotI_row (its : List It) {t : Nat} (ht : t ≤ its.length) : rotI (rowI its) (2 * t) = rowI (rotI its t) := by
  have e : rowI its = rowI (its.take t) ++ rowI (its.drop t) := by
    unfold rowI
    rw [← List.flatMap_append, List.take_append_drop]
  have hl : (rowI (its.take t)).length = 2 * t := by rw [rowI_len, List.length_take]; omega
  unfold rotI
  rw [e, List.drop_left' hl, List.take_left' hl]
  unfold rowI
  rw [← List.flatMap_append]
theorem rotI_range {α : Type} (f : Nat → α) {n t : Nat} (ht : t ≤ n) : rotI ((List.range n).map f) t = ((List.range' t (n - t)) ++ List.range' 0 t).map f := by
  unfold rotI
  rw [range_split ht, List.map_append, List.drop_left' (by simp), List.take_left' (by simp), List.map_append]
noncomputable def toldR (es : List Ln) (r : Nat) : List Int := if r % 2 = 1 then [] else valsOf (rotI (itsE es) (r / 2))
theorem kind_nn {s : Nat} (h : s < 8) : 0 ≤ kind s := by
  have : (List.range 8).all (fun s => decide (0 ≤ kind s)) = true := by decide +kernel
  exact of_decide_eq_true (List.all_eq_true.mp this s (List.mem_range.mpr h))
theorem fm_even {β : Type} (g : Nat → Option β) (h : ∀ t, g (2 * t + 1) = none) : ∀ m, (List.range (2 * m)).filterMap g = (List.range m).filterMap fun t => g (2 * t)
  | 0 => rfl
  | m + 1 => by
    rw [show 2 * (m + 1) = 2 * m + 1 + 1 by omega, List.range_succ, List.range_succ, List.range_succ, List.filterMap_append, List.filterMap_append, List.filterMap_append, fm_even g h m]
    have e1 : List.filterMap g [2 * m + 1] = [] := by rw [List.filterMap_cons, h]; rfl
    have e2 : List.filterMap (fun t => g (2 * t)) [m] = List.filterMap g [2 * m] := by rw [List.filterMap_cons, List.filterMap_cons]; rfl
    rw [e1, e2, List.append_nil]
theorem fm_congr {α β : Type} {g h : α → Option β} : ∀ l : List α, (∀ a ∈ l, g a = h a) → l.filterMap g = l.filterMap h
  | [], _ => rfl
  | a :: l, H => by rw [List.filterMap_cons, List.filterMap_cons, H a (.head _), fm_congr l fun b hb => H b (.tail _ hb)]
theorem fm_filter {α β : Type} (h : α → Option β) (p : α → Bool) (F : α → β) : ∀ l : List α, (∀ t ∈ l, h t = if p t = true then some (F t) else none) → l.filterMap h = (l.filter p).map F
  | [], _ => rfl
  | a :: l, H => by
    have ih := fm_filter h p F l fun t ht => H t (.tail _ ht)
    rw [List.filterMap_cons, List.filter_cons, H a (.head _), ih]
    by_cases hp : p a = true
    · rw [if_pos hp, if_pos hp]; rfl
    · rw [if_neg hp, if_neg hp]
theorem found_fm (ns : List Int) (told : Nat → List Int) : foundOf ns told = (List.range ns.length).filterMap fun f => if told f = [] then none else some (rotI ns f, told f) := by
  have go : ∀ (l : List Nat) (acc : List PairI), l.foldl (foundStep ns told) acc = acc ++ l.filterMap fun f => if told f = [] then none else some (rotI ns f, told f) := by
    intro l
    induction l with
    | nil => intro acc; simp
    | cons a l ih =>
      intro acc
      rw [List.foldl_cons, ih, List.filterMap_cons]
      unfold foundStep
      by_cases h : told a = []
      · rw [if_pos h, if_pos h]
      · rw [if_neg h, if_neg h, List.append_assoc]; rfl
  unfold foundOf
  rw [go, List.nil_append]
theorem turns : ∀ j, j < 13 → ((List.range 12).map fun f => (j + f) % 12).Perm (List.range 12) := by decide +kernel
section
variable {es : List Ln}
theorem its_len : (itsE es).length = es.length := by unfold itsE; simp
theorem its_at {j : Nat} (h : j < es.length) : (itsE es)[j]? = some (itE es j) := by
  unfold itsE
  rw [List.getElem?_map, List.getElem?_range h]; rfl
theorem its_ok (ok : ∀ e ∈ es, e.Ok) (h6 : es.length = 6) : ∀ t ∈ itsE es, t.Ok := fun t ht => by
  obtain ⟨k, hk, rfl⟩ := List.mem_map.mp ht
  exact itE_ok ok h6 (List.mem_range.mp hk)
theorem row_len (h6 : es.length = 6) : (rowI (itsE es)).length = 12 := by rw [rowI_len, its_len, h6]
theorem row_rng (ok : ∀ e ∈ es, e.Ok) (h6 : es.length = 6) : ∀ m ∈ rowI (itsE es), 0 ≤ m ∧ m < 262144 := fun m hm => by
  obtain ⟨t, ht, hm⟩ := List.mem_flatMap.mp hm
  have o := its_ok ok h6 t ht
  have h1 := kind_nn o.s
  have h2 := kind_lt o.s
  have h3 := o.v0
  have h4 := o.v1
  have h5 := o.c
  simp only [List.mem_cons, List.not_mem_nil, or_false] at hm
  rcases hm with rfl | rfl <;> omega
theorem odd_tab : ∀ r, r < 12 → r % 2 = 1 → (10 + r) % 12 = 2 * ((10 + r) % 12 / 2) + 1 ∧ (10 + r) % 12 / 2 < 6 ∧ (11 + r) % 12 = 2 * ((11 + r) % 12 / 2) ∧ (11 + r) % 12 / 2 < 6 := by decide
theorem even_tab : ∀ r, r < 12 → ¬ r % 2 = 1 → r = 2 * (r / 2) ∧ r / 2 ≤ 6 := by decide
theorem fn_told {W : Wd} {n : Nat} (G : Glo W) (ok : ∀ e ∈ es, e.Ok) (h6 : es.length = 6) (r : Nat) (hr : r < 12) : Fn W (n + 7) "_law_values" [dInts (rotI (rowI (itsE es)) r)] (dInts (toldR es r)) := by
  have hl := row_len h6
  unfold toldR
  by_cases h : r % 2 = 1
  · rw [if_pos h]
    obtain ⟨i1, b1, i2, b2⟩ := odd_tab r hr h
    generalize (10 + r) % 12 / 2 = k1 at i1 b1
    generalize (11 + r) % 12 / 2 = k2 at i2 b2
    rw [← h6] at b1 b2
    have o1 := itE_ok ok h6 b1
    have o2 := itE_ok ok h6 b2
    refine fn_values_odd (n := n + 5) G _ 5 (256 + 8 * (itE es k1).v + (itE es k1).c) (kind (itE es k2).s) (by decide) (by rw [rotI_len, hl]) ?_ ?_ ?_ (kind_lt o2.s)
    · rw [rotI_get _ (hl ▸ Nat.le_of_lt hr) (hl ▸ (by decide)), hl, show 2 * 5 + r = 10 + r from rfl, i1]
      exact (rowI_at (its_at b1)).2
    · rw [rotI_get _ (hl ▸ Nat.le_of_lt hr) (hl ▸ (by decide)), hl, show 2 * 5 + 1 + r = 11 + r from rfl, i2]
      exact (rowI_at (its_at b2)).1
    · have := o1.v0; clear i1 i2; omega
  · rw [if_neg h]
    have e : rotI (rowI (itsE es)) r = rowI (rotI (itsE es) (r / 2)) := by
      have ev := even_tab r hr h
      conv => lhs; rw [ev.1]
      exact rotI_row _ (by rw [its_len, h6]; exact ev.2)
    rw [e]
    refine fn_values (n := n + 5) G _ (by rw [rotI_len, its_len]; omega) (fun t ht => its_ok ok h6 t ?_)
    unfold rotI at ht
    rcases List.mem_append.mp ht with ht | ht
    · exact List.mem_of_mem_drop ht
    · exact List.mem_of_mem_take ht
noncomputable def topB (es : List Ln) (k : Nat) : Bool := parE es k == none
theorem tops_eq (h6 : es.length = 6) : topsOf (psOf es) = (List.range 6).filter (topB es) := by
  unfold topsOf
  refine List.filter_congr fun k hk => ?_
  have hk := List.mem_range.mp hk
  unfold topB
  rw [Bool.eq_iff_iff, beq_iff_eq, beq_iff_eq]
  exact ps_none (by omega)
theorem told_top (h6 : es.length = 6) {t : Nat} (ht : t < 6) : valsOf (rotI (itsE es) t) = if topB es t = true then ((List.range' t (6 - t)).filter (topB es)).map (wvE es) ++ ((List.range' 0 t).filter (topB es)).map (wvE es) else [] := by
  unfold valsOf itsE
  rw [rotI_range _ (by omega)]
  have H := wood h6
  by_cases hp : topB es t = true
  · have := val_top H (t := t) (by omega) (eq_of_beq hp)
    rw [if_pos hp, this, h6]; rfl
  · rw [if_neg hp]
    cases hq : parE es t with
    | none => unfold topB at hp; rw [hq] at hp; exact absurd rfl hp
    | some p => rw [val_low H (by omega) hq]; rfl
theorem due_eq (h6 : es.length = 6) (row : List Int) : dueOf es (psOf es) row = ((List.range 6).filter (topB es)).map fun t => (rotI row (2 * t), valsOf (rotI (itsE es) t)) := by
  unfold dueOf worthsOf
  rw [tops_eq h6]
  refine List.ext_getElem (by simp) fun k h1 h2 => ?_
  rw [List.length_map, List.length_range] at h1
  rw [List.getElem_map, List.getElem_map, List.getElem_range]
  generalize hT : (List.range 6).filter (topB es) = T at *
  have hg : T.getD k 0 = T[k] := by simp [h1]
  rw [hg]
  congr 1
  have hm : T[k] ∈ (List.range 6).filter (topB es) := by rw [hT]; exact List.getElem_mem h1
  obtain ⟨ht, hp⟩ := List.mem_filter.mp hm
  have ht := List.mem_range.mp ht
  rw [told_top h6 ht, if_pos hp]
  have hnd : T.Nodup := by rw [← hT]; exact List.nodup_range.filter _
  have hs : T = (List.range' 0 T[k]).filter (topB es) ++ (List.range' T[k] (6 - T[k])).filter (topB es) := by
    rw [← List.filter_append, ← range_split (by omega), hT]
  have hh : (List.range' T[k] (6 - T[k])).filter (topB es) = T[k] :: (List.range' (T[k] + 1) (6 - (T[k] + 1))).filter (topB es) := by
    rw [range'_head ht, List.filter_cons, if_pos hp]
  generalize hA : (List.range' 0 T[k]).filter (topB es) = A at *
  generalize hB : (List.range' T[k] (6 - T[k])).filter (topB es) = B at *
  have hk : k = A.length := by
    have hlen : A.length < T.length := by
      have := congrArg List.length hs
      rw [List.length_append, hh, List.length_cons] at this
      omega
    have e : T[A.length]? = some T[k] := by
      conv => lhs; rw [hs, List.getElem?_append_right (Nat.le_refl _), Nat.sub_self, hh]
      rfl
    rw [List.getElem?_eq_getElem hlen] at e
    have e := Option.some.inj e
    have hpw := List.pairwise_iff_getElem.mp hnd
    rcases Nat.lt_trichotomy k A.length with h | h | h
    · exact absurd e.symm (hpw k A.length h1 hlen h)
    · exact h
    · exact absurd e (hpw A.length k hlen h1 h)
  unfold rotI
  show _ = B.map (wvE es) ++ A.map (wvE es)
  have hm2 : (T.map fun k => worthF es (psOf es) 5 k) = A.map (wvE es) ++ B.map (wvE es) := by
    conv => lhs; rw [hs]
    rw [List.map_append]; rfl
  rw [hm2, List.drop_left' (by rw [List.length_map, hk]), List.take_left' (by rw [List.length_map, hk])]
theorem fin_eq (h6 : es.length = 6) {j : Nat} (hj : j ≤ 12) : sortP (foundOf (rotI (rowI (itsE es)) j) fun f => toldR es ((j + f) % 12)) = sortP (dueOf es (psOf es) (rowI (itsE es))) := by
  have hl := row_len h6
  refine sortP_eq ?_
  rw [found_fm, rotI_len, hl, due_eq h6]
  have e1 : (List.range 12).filterMap (fun f => if toldR es ((j + f) % 12) = [] then none else some (rotI (rotI (rowI (itsE es)) j) f, toldR es ((j + f) % 12))) = ((List.range 12).map fun f => (j + f) % 12).filterMap fun r => if toldR es r = [] then none else some (rotI (rowI (itsE es)) r, toldR es r) := by
    rw [List.filterMap_map]
    refine fm_congr _ fun f hf => ?_
    dsimp only [Function.comp]
    rw [rotI_comp _ hl hj (List.mem_range.mp hf)]
  rw [e1]
  refine ((turns j (by omega)).filterMap _).trans ?_
  have odd : ∀ t, toldR es (2 * t + 1) = [] := fun t => by unfold toldR; rw [if_pos (by omega)]
  rw [show (12 : Nat) = 2 * 6 from rfl, fm_even _ (fun t => if_pos (odd t))]
  rw [fm_filter _ (topB es) (fun t => (rotI (rowI (itsE es)) (2 * t), valsOf (rotI (itsE es) t)))]
  intro t ht
  have ht := List.mem_range.mp ht
  have e2 : toldR es (2 * t) = valsOf (rotI (itsE es) t) := by
    unfold toldR
    rw [if_neg (by omega), show 2 * t / 2 = t by omega]
  rw [e2]
  by_cases hp : topB es t = true
  · rw [if_pos hp, if_neg]
    rw [told_top h6 ht, if_pos hp, range'_head ht, List.filter_cons, if_pos hp]
    exact fun h => by cases h
  · rw [if_neg hp, if_pos]
    rw [told_top h6 ht, if_neg hp]
end
theorem fn_law_all {W : Wd} {n : Nat} (G : Glo W) (Gw : WsOk W) (xs : List Int) (hz : xs.length ≤ 1048576) : Fn W (n + 8) "law" [dInts xs] (.bool true) := by
  have h6 : (pageOf xs).length = 6 := by unfold pageOf; rw [List.length_map, drawnOf_len]
  have ok : ∀ e ∈ pageOf xs, e.Ok := fun e he => by
    obtain ⟨w, _, rfl⟩ := List.mem_map.mp he
    exact lnOf_ok w
  generalize hes : pageOf xs = es at h6 ok
  have hl := row_len h6
  have hb := row_rng ok h6
  obtain ⟨k0, ks, j, h1, h2, h3, h4⟩ := ring_read_ok (es := es) (row := rowI (itsE es)) (turnOf xs) ok (by omega) (fun h => by rw [h] at hl; cases hl) hb
  refine fn_law (n := n) G Gw xs hz es hes h6 ok (psOf es) rfl (rowI (itsE es)) row_its hl hb (fun e he => plOf_ok (ok e he)) ((page_read_eq ok).trans row_its) _ rfl (by omega) k0 ks h1 (rotI (rowI (itsE es)) j) h3 (by rw [rotI_len, hl]) (fun f => toldR es ((j + f) % 12)) (fun f hf => ?_) (worth_ok ok h6 _) (fin_eq h6 (by omega))
  rw [rotI_comp _ hl (by omega) hf]
  exact fn_told G ok h6 _ (Nat.mod_lt _ (by decide))
end
section
/-! what the top leaves -/
noncomputable def keepIdx : List Nat := [81]
noncomputable def pwL : Program := PySem.Challenge.pw_tc0045_01
noncomputable def qv : Program := view pwL keepIdx
noncomputable def boundOf : Stmt → List Str
  | .FunctionDef n .. => [n]
  | .ClassDef n .. => [n]
  | .Assign [.Name n _] _ _ => [n]
  | _ => []
noncomputable def looseN : List Str := ((pwL.main.body.zipIdx.filter fun x => !keepIdx.contains x.2).flatMap fun x => boundOf x.1)
noncomputable def extT : List (Str × Int) := extD.map fun p => (p.1, match p.2 with | .int i => i | _ => 0)
noncomputable def extSeen (h : Heap) : Option (Bool × List (Option (Str × Int × Int))) := match h.nsMap mainGlobals "EXACT_TOKEN_TYPES" with
  | some (.ref a) => (match h.get? a with
    | some o => (match o.data with
      | .dict es _ => some (decide (o.cls = .type "dict") && o.dict.isNone && o.slots.isEmpty && !(a == sysModules), es.toList.map fun e => match e.key, e.val with
        | .str x _, .int i _ => some (x, e.hash, i)
        | _, _ => none)
      | _ => none)
    | none => none)
  | _ => none
noncomputable def fragAt (h : Heap) (as : List Addr) : Frag := as.filterMap fun a => (h.get? a).map fun o => (a, o)
noncomputable def isTxt (x : Str) : Option CFound → Bool
  | some (.val (.str y _)) => decide (y = x)
  | _ => false
noncomputable def nsOfCls (h : Heap) (C : Addr) : List Addr := match h.get? C with
  | some o => (match o.data with
    | .cls cd => [cd.ns]
    | _ => [])
  | none => []
noncomputable def wsSeen (h : Heap) : Bool := match h.nsMap mainGlobals "Whitespace" with
  | some (.ref C) => readsIn (fragAt h (C :: cStatics :: nsOfCls h C)) C (.type "type") && isTxt " " (findCls (fragAt h (C :: cStatics :: nsOfCls h C)) (.ref C) (.type "type") "S") && isTxt "\t" (findCls (fragAt h (C :: cStatics :: nsOfCls h C)) (.ref C) (.type "type") "T")
  | _ => false
noncomputable def drOf (i : Nat) : DefRec := { name := fnName (stAt i), params := fnArgs (stAt i), body := fnBody (stAt i), scope := fnScope (stAt i), pos := default }
noncomputable def ntSeen (h : Heap) : Bool := match h.nsMap mainGlobals "NT_OFFSET" with
  | some (.int i _) => decide (i = 256)
  | _ => false
noncomputable def obsL (s : Shared) := (s.heap.isNs mainGlobals && wsSeen s.heap && ntSeen s.heap && bIds.all (fun p => (s.heap.nsMap mainGlobals p.1).isNone), fnIdx.map (fun i => s.heap.shapeAt mainGlobals (drOf i).name), s.heap.plainShapeAt wsC, extSeen s.heap)
noncomputable def valL (w : World) : Bool × List (Option FnShape) × Option PlainShape × Option (Bool × List (Option (Str × Int × Int))) := (true, fnIdx.map (fun i => some (drOf i).shape), some wsC.plainShape, some (true, extT.map fun p => some (p.1, hashStr w p.1, p.2)))
noncomputable def XtL : Shared → Bool := fun _ => true
end
section
/-! what stands before the call -/
noncomputable def seenE (e : DictEntry) : Option (Str × Int × Int) := match e.key, e.val with
  | .str x _, .int i _ => some (x, e.hash, i)
  | _, _ => none
structure YF (w : World) (h : Heap) (mg : Glb) : Prop where
  g : h.Ns mainGlobals mg
  fn : ∀ i ∈ fnIdx, ∃ a o pm cd doc, mg (fnName (stAt i)) = some (.ref a) ∧ h.get? a = some o ∧ o.data = .func (docDef (fnName (stAt i)) (fnArgs (stAt i)) (fnBody (stAt i)) (fnScope (stAt i)) pm cd doc) ∧ h.CodeRec cd (fnName (stAt i))
  free : ∀ p ∈ bIds, mg p.1 = none
  nt : ∃ t, mg "NT_OFFSET" = some (.int 256 t)
  ext : ∃ a o es ep, mg "EXACT_TOKEN_TYPES" = some (.ref a) ∧ h.get? a = some o ∧ o.ExactDict ∧ o.data = .dict es ep ∧ (a == sysModules) = false ∧ es.toList.map seenE = extT.map fun p => some (p.1, hashStr w p.1, p.2)
  ws : ∃ C N mN K, mg "Whitespace" = some (.ref C) ∧ PlainAt h wsC C N mN ∧ Frag.In K h ∧ readsIn K C (.type "type") = true ∧ (∃ t, findCls K (.ref C) (.type "type") "S" = some (.val (.str " " t))) ∧ ∃ t, findCls K (.ref C) (.type "type") "T" = some (.val (.str "\t" t))
noncomputable def YPL (w : World) (h : Heap) : Prop := ∃ mg, YF w h mg
theorem ypl_keeps : ∀ w h h', YPL w h → (∀ b o, h.get? b = some o → h'.get? b = some o) → YPL w h' := fun w h h' ⟨mg, y⟩ k => by
  refine ⟨mg, y.g.keeps k, fun i hi => ?_, y.free, y.nt, ?_, ?_⟩
  · obtain ⟨a, o, pm, cd, doc, h1, h2, h3, h4⟩ := y.fn i hi
    exact ⟨a, o, pm, cd, doc, h1, k _ _ h2, h3, h4.keeps k⟩
  · obtain ⟨a, o, es, ep, h1, h2, h3⟩ := y.ext
    exact ⟨a, o, es, ep, h1, k _ _ h2, h3⟩
  · obtain ⟨C, N, mN, K, h1, h2, h3, h4⟩ := y.ws
    exact ⟨C, N, mN, K, h1, h2.keeps k, h3.keeps k, h4⟩
theorem frag_in (h : Heap) (as : List Addr) : Frag.In (fragAt h as) h := fun a o e => by
  unfold fragAt at e
  induction as with
  | nil => cases e
  | cons b r ih =>
    rw [List.filterMap_cons] at e
    cases hb : h.get? b with
    | none => rw [hb] at e; exact ih e
    | some x =>
      rw [hb] at e
      simp only [Option.map_some, List.lookup_cons] at e
      split at e
      · rename_i q; cases e; rw [beq_iff_eq.mp q]; exact hb
      · exact ih e
theorem isTxt_of {x : Str} {r : Option CFound} (h : isTxt x r = true) : ∃ t, r = some (.val (.str x t)) := by
  unfold isTxt at h
  split at h
  · rename_i y t; exact ⟨t, by rw [of_decide_eq_true h]⟩
  · cases h
theorem ypl_of : ∀ w s, obsL s = valL w → YPL w s.heap := fun w s e => by
  have e1 := congrArg (fun x => x.1) e
  have e2 := congrArg (fun x => x.2.1) e
  have e3 := congrArg (fun x => x.2.2.1) e
  have e4 := congrArg (fun x => x.2.2.2) e
  unfold obsL valL at e1 e2 e3 e4
  dsimp only at e1 e2 e3 e4
  simp only [Bool.and_eq_true] at e1
  obtain ⟨⟨⟨hg, hw⟩, hn⟩, hf⟩ := e1
  refine ⟨s.heap.nsMap mainGlobals, .of_isNs hg, fun i hi => ?_, fun p hp => ?_, ?_, ?_, ?_⟩
  · obtain ⟨a, o, pm, cd, doc, h1, h2, h3, h4⟩ := Heap.hasFn_of_shape (d := drOf i) (List.map_inj_left.mp e2 i hi)
    exact ⟨a, o, pm, cd, doc, h1, h2, h3, h4⟩
  · exact Option.isNone_iff_eq_none.mp (List.all_eq_true.mp hf p hp)
  · unfold ntSeen at hn
    split at hn
    · rename_i i t h; exact ⟨t, by rw [h, of_decide_eq_true hn]⟩
    · cases hn
  · unfold extSeen at e4
    split at e4
    · rename_i a ha
      split at e4
      · rename_i o ho
        split at e4
        · rename_i es ep hd
          obtain ⟨q1, q2⟩ := Prod.mk.inj (Option.some.inj e4)
          simp only [Bool.and_eq_true, decide_eq_true_iff, Option.isNone_iff_eq_none, Bool.not_eq_true'] at q1
          obtain ⟨⟨⟨c1, c2⟩, c3⟩, c4⟩ := q1
          exact ⟨a, o, es, ep, ha, ho, ⟨c1, c2, Array.isEmpty_iff.mp c3⟩, hd, c4, q2⟩
        · cases e4
      · cases e4
    · cases e4
  · obtain ⟨C, N, h1, P⟩ := plainAt_of_shape e3
    have h1' : s.heap.nsMap mainGlobals "Whitespace" = some (.ref C) := h1
    unfold wsSeen at hw
    rw [h1'] at hw
    simp only [Bool.and_eq_true] at hw
    exact ⟨C, N, _, _, h1', P, frag_in _ _, hw.1.1, isTxt_of hw.1.2, isTxt_of hw.2⟩
theorem ns_same {h : Heap} {a : Addr} {m m' : Glb} (x : h.Ns a m) (y : h.Ns a m') : m = m' := by
  obtain ⟨o, es, ep, h1, h2, _, h4⟩ := x
  obtain ⟨o', es', ep', g1, g2, _, g4⟩ := y
  rw [h1] at g1; cases g1
  rw [h2] at g2; cases g2
  funext n
  rw [← h4, ← g4]
theorem extD_eq : extD = extT.map fun p => (p.1, D.int p.2) := by kernel_rfl
theorem find_seen (w : World) (k : Str) : ∀ (es : List DictEntry) (T : List (Str × Int)), es.map seenE = T.map (fun p => some (p.1, hashStr w p.1, p.2)) →
    (T.lookup k = none → es.find? (fun e => Value.isStrOf k e.key) = none) ∧ ∀ i, T.lookup k = some i → ∃ e t, es.find? (fun e => Value.isStrOf k e.key) = some e ∧ e.val = .int i t
  | [], [], _ => ⟨fun _ => rfl, fun i h => by cases h⟩
  | [], _ :: _, h => by cases h
  | _ :: _, [], h => by cases h
  | e :: es, (x, i) :: T, h => by
    obtain ⟨h1, h2⟩ := List.cons.inj h
    obtain ⟨ih1, ih2⟩ := find_seen w k es T h2
    unfold seenE at h1
    split at h1
    · rename_i y t i' u hk hv
      simp only [Option.some.injEq, Prod.mk.injEq] at h1
      obtain ⟨rfl, _, rfl⟩ := h1
      have hb : Value.isStrOf k e.key = (y == k) := by rw [hk]; rfl
      rw [List.find?_cons, List.lookup_cons, hb]
      by_cases hyk : y = k
      · subst hyk
        rw [beq_self_eq_true]
        dsimp only
        exact ⟨fun h => (by cases h), fun i h => ⟨e, u, rfl, (by cases h; exact hv)⟩⟩
      · rw [beq_eq_false_iff_ne.mpr hyk, beq_eq_false_iff_ne.mpr (Ne.symm hyk)]
        dsimp only
        exact ⟨ih1, ih2⟩
    · cases h1
theorem seen_mem (w : World) : ∀ (es : List DictEntry) (T : List (Str × Int)), es.map seenE = T.map (fun p => some (p.1, hashStr w p.1, p.2)) → ∀ e ∈ es, ∃ k, Value.isStrOf k e.key = true ∧ e.hash = hashStr w k
  | [], _, _, e, he => by cases he
  | _ :: _, [], h, _, _ => by cases h
  | e :: es, (x, i) :: T, h, e', he => by
    obtain ⟨h1, h2⟩ := List.cons.inj h
    rcases List.mem_cons.mp he with rfl | he
    · unfold seenE at h1
      split at h1
      · rename_i y t i' u hk hv
        simp only [Option.some.injEq, Prod.mk.injEq] at h1
        obtain ⟨rfl, h3, _⟩ := h1
        exact ⟨y, by rw [hk]; exact beq_self_eq_true _, h3⟩
      · cases h1
    · exact seen_mem w es T h2 e' he
noncomputable def wdL (w : World) (mg mb : Glb) (h : Heap) (hg : h.Ns mainGlobals mg) (hb : h.Ns builtinsNs mb) (hbb : ∀ x : Str, x ≠ "__name__" → mb x = bootBuiltins x) (lim : h.NoLimit) : Wd := ⟨pwL, w, mg, mb, h, hg, hb, hbb, lim⟩
theorem glo_of {W : Wd} (y : YF W.w W.hT W.mg) : Glo W where
  fn := y.fn
  free := y.free
  nt := let ⟨t, h⟩ := y.nt; ⟨_, h, .int 256 t⟩
  ext := by
    obtain ⟨a, o, es, ep, h1, h2, h3, h4, h5, h6⟩ := y.ext
    have key : ∀ k : Str, (extT.lookup k = none → findBy (strKind W.prog W.w).is es k = none) ∧ ∀ i, extT.lookup k = some i → ∃ t, findBy (strKind W.prog W.w).is es k = some (.int i t) := fun k => by
      obtain ⟨q1, q2⟩ := find_seen W.w k es.toList extT h6
      have ef : findBy (strKind W.prog W.w).is es k = (es.toList.find? fun e => Value.isStrOf k e.key).map (·.val) := by
        unfold findBy
        rw [← Array.find?_toList]
        rfl
      rw [ef]
      refine ⟨fun h => by rw [q1 h]; rfl, fun i h => ?_⟩
      obtain ⟨e, t, g1, g2⟩ := q2 i h
      exact ⟨t, by rw [g1, Option.map_some, g2]⟩
    have hl : ∀ k : Str, extD.lookup k = (extT.lookup k).map D.int := fun k => by rw [extD_eq]; exact lookup_map D.int k extT
    refine ⟨.ref a, h1, .mapS a o es ep (fun k => findBy (strKind W.prog W.w).is es k) (fun k => (findBy (strKind W.prog W.w).is es k).getD .none) extD h2 h3 h4 (fun e he => seen_mem W.w es.toList extT h6 e (Array.mem_toList_iff.mpr he)) (fun _ => rfl) h5 ?_ ?_ ?_⟩
    · intro k d hd
      rw [hl] at hd
      obtain ⟨i, hi, _⟩ := Option.map_eq_some_iff.mp hd
      obtain ⟨t, ht⟩ := (key k).2 i hi
      rw [ht]; rfl
    · intro k hk
      rw [hl, Option.map_eq_none_iff] at hk
      exact (key k).1 hk
    · intro k d hd
      rw [hl] at hd
      obtain ⟨i, hi, rfl⟩ := Option.map_eq_some_iff.mp hd
      obtain ⟨t, ht⟩ := (key k).2 i hi
      rw [ht]
      exact .int i t
theorem wsok_of {W : Wd} (y : YF W.w W.hT W.mg) : WsOk W := ⟨y.ws⟩
end
section
/-! the states between the pieces of the top (printed by gen/Gen.lean) -/
noncomputable def vs (x : String) (t : Nat) : Value := .str (Str.ofString x) t
noncomputable def vi (n t : Nat) : Value := .int (Int.ofNat n) t
noncomputable def de (P : Params) (x : String) (t : Nat) (v : Value) : DictEntry := ⟨PyData.keyHash P (Str.ofString x), .str (Str.ofString x) t, v⟩
noncomputable def oTup (l : List Value) : Obj := ⟨.type "tuple", none, .seq ⟨l⟩ 0, ⟨[]⟩⟩
noncomputable def oFld (c : Value) (l : List Value) : Obj := ⟨c, none, .fields ⟨l⟩, ⟨[]⟩⟩
noncomputable def oDct (l : List DictEntry) (n : Nat) : Obj := ⟨.type "dict", none, .dict ⟨l⟩ n, ⟨[]⟩⟩
noncomputable def oFn (c : Value) (s : Stmt) (qn : String) (g : Addr) (df pm cd ct : Value) : Obj := ⟨c, none, .func ⟨fnName s, Str.ofString qn, fnArgs s, .stmts (fnBody s), fnScope s, g, [], df, .none, .none, pm, none, cd, ct, 0⟩, ⟨[]⟩⟩
noncomputable def oT0 : Obj := oTup []
noncomputable def oF0 : Obj := oFld .none []
abbrev tz : BT := .nil
abbrev tn (o : Obj) (l r : BT) : BT := .node o l r
noncomputable def lifeT : Life := {}
noncomputable def posF : Pos := ⟨0, 0, 0, 0⟩
noncomputable def posA : Pos := ⟨0, 0, 0, 0⟩
noncomputable def posB : Pos := ⟨0, 0, 0, 0⟩
noncomputable def pos1 : Pos := ⟨34, 0, 34, 8⟩
noncomputable def pos2 : Pos := ⟨35, 0, 90, 16⟩
noncomputable def pos3 : Pos := ⟨140, 0, 140, 9⟩
noncomputable def pos4 : Pos := ⟨141, 0, 141, 17⟩
noncomputable def pos5 : Pos := ⟨264, 0, 282, 39⟩
noncomputable def o13_a : Obj := oFld (.type "code") [vs "<module>" 182, vs "<module>" 183, vs "/claim/cut.py" 184, vi 1 0, vi 0 0, vi 0 0, vi 0 0, vi 0 0, .ref 11, .bool false, vi 181 0, .ref 12, .none, .none, .none, .none, vi 185 0, vi 1 0, vs "/claim/cut.py" 186]
noncomputable def o14_a : Obj := ⟨.type "frame", none, .plain, ⟨[some (.ref 13), some (.ref 3), some (.ref 3), none, some (vs "__main__" 164), none, some (.ref 0)]⟩⟩
noncomputable def hp_a (P : Params) : Heap := ⟨⟨[boot_o_0 P, boot_o_1 P, boot_o_2 P, boot_o_3 P, boot_o_4 P, boot_o_5 P, boot_o_6 P, boot_o_7 P, boot_o_8 P, boot_o_9 P, boot_o_10 P, oT0, oF0, o13_a, o14_a]⟩, lifeT⟩
noncomputable def tr_a (P : Params) : BT := (tn (boot_o_0 P) (tn (boot_o_1 P) (tn (boot_o_3 P) (tn (boot_o_7 P) tz tz) (tn (oT0) tz tz)) (tn (boot_o_5 P) (tn (boot_o_9 P) tz tz) (tn (o13_a) tz tz))) (tn (boot_o_2 P) (tn (boot_o_4 P) (tn (boot_o_8 P) tz tz) (tn (oF0) tz tz)) (tn (boot_o_6 P) (tn (boot_o_10 P) tz tz) (tn (o14_a) tz tz))))
noncomputable def o3_1 (P : Params) : Obj := oDct [de P "__name__" 165 (vs "cpy313.tabnanny" 287),
  de P "__doc__" 166 (.none),
  de P "__package__" 167 (.none),
  de P "__loader__" 168 (.builtin "__main__.__loader__#opaque"),
  de P "__spec__" 169 (.none),
  de P "__annotations__" 170 (.ref 6),
  de P "__builtins__" 171 (.ref 4),
  de P "__file__" 173 (vs "/claim/cut.py" 172),
  de P "__cached__" 174 (.none),
  de P "_wall" 193 (.ref 21),
  de P "_parse_varint" 204 (.ref 28),
  de P "add" 214 (.ref 35),
  de P "and_" 222 (.ref 42),
  de P "floordiv" 230 (.ref 49),
  de P "mod" 238 (.ref 56),
  de P "mul" 246 (.ref 63),
  de P "or_" 254 (.ref 70),
  de P "sub" 262 (.ref 77),
  de P "xor" 270 (.ref 84),
  de P "contains" 278 (.ref 91),
  de P "getitem" 286 (.ref 98)] 21
noncomputable def o12_1 : Obj := oFld .none [vi 1 0, vi 0 0, .ref 20, vi 5 0, vi 0 0, .ref 27, vi 14 0, vi 0 0, .ref 34, vi 16 0, vi 0 0, .ref 41, vi 18 0, vi 0 0, .ref 48, vi 20 0, vi 0 0, .ref 55, vi 22 0, vi 0 0, .ref 62, vi 24 0, vi 0 0, .ref 69, vi 26 0, vi 0 0, .ref 76, vi 28 0, vi 0 0, .ref 83, vi 30 0, vi 0 0, .ref 90, vi 32 0, vi 0 0, .ref 97]
noncomputable def o17_1 : Obj := oTup [vs "k" 190]
noncomputable def o19_1 : Obj := oFn (.none) (stAt 0) "_wall" 0 (.none) (.none) (.none) (.none)
noncomputable def o20_1 : Obj := oFld (.type "code") [vs "_wall" 187, vs "_wall" 188, vs "/claim/cut.py" 189, vi 1 0, vi 1 0, vi 0 0, vi 0 0, vi 3 0, .ref 15, .bool true, vi 181 0, .ref 16, .none, .ref 17, .ref 18, .ref 19, vi 191 0, vi 1 0, vs "/claim/cut.py" 192]
noncomputable def o21_1 : Obj := oFn (.type "function") (stAt 0) "_wall" 3 (.none) (vs "__main__" 164) (.ref 20) (.none)
noncomputable def o24_1 : Obj := oTup [vs "iterator" 199, vs "b" 200, vs "val" 201]
noncomputable def o26_1 : Obj := oFn (.none) (stAt 2) "_parse_varint" 0 (.none) (.none) (.none) (.none)
noncomputable def o27_1 : Obj := oFld (.type "code") [vs "_parse_varint" 196, vs "_parse_varint" 197, vs "/claim/cut.py" 198, vi 5 0, vi 1 0, vi 0 0, vi 0 0, vi 3 0, .ref 22, .bool true, vi 181 0, .ref 23, .none, .ref 24, .ref 25, .ref 26, vi 202 0, vi 5 0, vs "/claim/cut.py" 203]
noncomputable def o28_1 : Obj := oFn (.type "function") (stAt 2) "_parse_varint" 3 (.none) (vs "cpy313.dis" 194) (.ref 27) (.none)
noncomputable def o31_1 : Obj := oTup [vs "a" 210, vs "b" 211]
noncomputable def o33_1 : Obj := oFn (.none) (stAt 4) "add" 0 (.none) (.none) (.none) (.none)
noncomputable def o34_1 : Obj := oFld (.type "code") [vs "add" 207, vs "add" 208, vs "/claim/cut.py" 209, vi 14 0, vi 2 0, vi 0 0, vi 0 0, vi 3 0, .ref 29, .bool true, vi 181 0, .ref 30, .none, .ref 31, .ref 32, .ref 33, vi 212 0, vi 14 0, vs "/claim/cut.py" 213]
noncomputable def o35_1 : Obj := oFn (.type "function") (stAt 4) "add" 3 (.none) (vs "cpy313.operator" 205) (.ref 34) (.none)
noncomputable def o38_1 : Obj := oTup [vs "a" 218, vs "b" 219]
noncomputable def o40_1 : Obj := oFn (.none) (stAt 5) "and_" 0 (.none) (.none) (.none) (.none)
noncomputable def o41_1 : Obj := oFld (.type "code") [vs "and_" 215, vs "and_" 216, vs "/claim/cut.py" 217, vi 16 0, vi 2 0, vi 0 0, vi 0 0, vi 3 0, .ref 36, .bool true, vi 181 0, .ref 37, .none, .ref 38, .ref 39, .ref 40, vi 220 0, vi 16 0, vs "/claim/cut.py" 221]
noncomputable def o42_1 : Obj := oFn (.type "function") (stAt 5) "and_" 3 (.none) (vs "cpy313.operator" 205) (.ref 41) (.none)
noncomputable def o45_1 : Obj := oTup [vs "a" 226, vs "b" 227]
noncomputable def o47_1 : Obj := oFn (.none) (stAt 6) "floordiv" 0 (.none) (.none) (.none) (.none)
noncomputable def o48_1 : Obj := oFld (.type "code") [vs "floordiv" 223, vs "floordiv" 224, vs "/claim/cut.py" 225, vi 18 0, vi 2 0, vi 0 0, vi 0 0, vi 3 0, .ref 43, .bool true, vi 181 0, .ref 44, .none, .ref 45, .ref 46, .ref 47, vi 228 0, vi 18 0, vs "/claim/cut.py" 229]
noncomputable def o49_1 : Obj := oFn (.type "function") (stAt 6) "floordiv" 3 (.none) (vs "cpy313.operator" 205) (.ref 48) (.none)
noncomputable def o52_1 : Obj := oTup [vs "a" 234, vs "b" 235]
noncomputable def o54_1 : Obj := oFn (.none) (stAt 7) "mod" 0 (.none) (.none) (.none) (.none)
noncomputable def o55_1 : Obj := oFld (.type "code") [vs "mod" 231, vs "mod" 232, vs "/claim/cut.py" 233, vi 20 0, vi 2 0, vi 0 0, vi 0 0, vi 3 0, .ref 50, .bool true, vi 181 0, .ref 51, .none, .ref 52, .ref 53, .ref 54, vi 236 0, vi 20 0, vs "/claim/cut.py" 237]
noncomputable def o56_1 : Obj := oFn (.type "function") (stAt 7) "mod" 3 (.none) (vs "cpy313.operator" 205) (.ref 55) (.none)
noncomputable def o59_1 : Obj := oTup [vs "a" 242, vs "b" 243]
noncomputable def o61_1 : Obj := oFn (.none) (stAt 8) "mul" 0 (.none) (.none) (.none) (.none)
noncomputable def o62_1 : Obj := oFld (.type "code") [vs "mul" 239, vs "mul" 240, vs "/claim/cut.py" 241, vi 22 0, vi 2 0, vi 0 0, vi 0 0, vi 3 0, .ref 57, .bool true, vi 181 0, .ref 58, .none, .ref 59, .ref 60, .ref 61, vi 244 0, vi 22 0, vs "/claim/cut.py" 245]
noncomputable def o63_1 : Obj := oFn (.type "function") (stAt 8) "mul" 3 (.none) (vs "cpy313.operator" 205) (.ref 62) (.none)
noncomputable def o66_1 : Obj := oTup [vs "a" 250, vs "b" 251]
noncomputable def o68_1 : Obj := oFn (.none) (stAt 9) "or_" 0 (.none) (.none) (.none) (.none)
noncomputable def o69_1 : Obj := oFld (.type "code") [vs "or_" 247, vs "or_" 248, vs "/claim/cut.py" 249, vi 24 0, vi 2 0, vi 0 0, vi 0 0, vi 3 0, .ref 64, .bool true, vi 181 0, .ref 65, .none, .ref 66, .ref 67, .ref 68, vi 252 0, vi 24 0, vs "/claim/cut.py" 253]
noncomputable def o70_1 : Obj := oFn (.type "function") (stAt 9) "or_" 3 (.none) (vs "cpy313.operator" 205) (.ref 69) (.none)
noncomputable def o73_1 : Obj := oTup [vs "a" 258, vs "b" 259]
noncomputable def o75_1 : Obj := oFn (.none) (stAt 10) "sub" 0 (.none) (.none) (.none) (.none)
noncomputable def o76_1 : Obj := oFld (.type "code") [vs "sub" 255, vs "sub" 256, vs "/claim/cut.py" 257, vi 26 0, vi 2 0, vi 0 0, vi 0 0, vi 3 0, .ref 71, .bool true, vi 181 0, .ref 72, .none, .ref 73, .ref 74, .ref 75, vi 260 0, vi 26 0, vs "/claim/cut.py" 261]
noncomputable def o77_1 : Obj := oFn (.type "function") (stAt 10) "sub" 3 (.none) (vs "cpy313.operator" 205) (.ref 76) (.none)
noncomputable def o80_1 : Obj := oTup [vs "a" 266, vs "b" 267]
noncomputable def o82_1 : Obj := oFn (.none) (stAt 11) "xor" 0 (.none) (.none) (.none) (.none)
noncomputable def o83_1 : Obj := oFld (.type "code") [vs "xor" 263, vs "xor" 264, vs "/claim/cut.py" 265, vi 28 0, vi 2 0, vi 0 0, vi 0 0, vi 3 0, .ref 78, .bool true, vi 181 0, .ref 79, .none, .ref 80, .ref 81, .ref 82, vi 268 0, vi 28 0, vs "/claim/cut.py" 269]
noncomputable def o84_1 : Obj := oFn (.type "function") (stAt 11) "xor" 3 (.none) (vs "cpy313.operator" 205) (.ref 83) (.none)
noncomputable def o87_1 : Obj := oTup [vs "a" 274, vs "b" 275]
noncomputable def o89_1 : Obj := oFn (.none) (stAt 12) "contains" 0 (.none) (.none) (.none) (.none)
noncomputable def o90_1 : Obj := oFld (.type "code") [vs "contains" 271, vs "contains" 272, vs "/claim/cut.py" 273, vi 30 0, vi 2 0, vi 0 0, vi 0 0, vi 3 0, .ref 85, .bool true, vi 181 0, .ref 86, .none, .ref 87, .ref 88, .ref 89, vi 276 0, vi 30 0, vs "/claim/cut.py" 277]
noncomputable def o91_1 : Obj := oFn (.type "function") (stAt 12) "contains" 3 (.none) (vs "cpy313.operator" 205) (.ref 90) (.none)
noncomputable def o94_1 : Obj := oTup [vs "a" 282, vs "b" 283]
noncomputable def o96_1 : Obj := oFn (.none) (stAt 13) "getitem" 0 (.none) (.none) (.none) (.none)
noncomputable def o97_1 : Obj := oFld (.type "code") [vs "getitem" 279, vs "getitem" 280, vs "/claim/cut.py" 281, vi 32 0, vi 2 0, vi 0 0, vi 0 0, vi 3 0, .ref 92, .bool true, vi 181 0, .ref 93, .none, .ref 94, .ref 95, .ref 96, vi 284 0, vi 32 0, vs "/claim/cut.py" 285]
noncomputable def o98_1 : Obj := oFn (.type "function") (stAt 13) "getitem" 3 (.none) (vs "cpy313.operator" 205) (.ref 97) (.none)
noncomputable def tr_1 (P : Params) : BT := (tn (boot_o_0 P) (tn (boot_o_1 P) (tn (o3_1 P) (tn (boot_o_7 P) (tn (oT0) (tn (o31_1) (tn (o63_1) tz tz) (tn (oT0) tz tz)) (tn (o47_1) (tn (oF0) tz tz) tz)) (tn (oF0) (tn (oT0) (tn (oT0) tz tz) tz) (tn (o55_1) (tn (o87_1) tz tz) tz))) (tn (oT0) (tn (o19_1) (tn (o35_1) (tn (oT0) tz tz) tz) (tn (oF0) (tn (o83_1) tz tz) tz)) (tn (o27_1) (tn (oT0) (tn (o75_1) tz tz) tz) (tn (o59_1) (tn (o91_1) tz tz) tz)))) (tn (boot_o_5 P) (tn (boot_o_9 P) (tn (o17_1) (tn (o33_1) (tn (oF0) tz tz) (tn (o97_1) tz tz)) (tn (o49_1) (tn (oT0) tz tz) tz)) (tn (oT0) (tn (o41_1) (tn (o73_1) tz tz) tz) (tn (oT0) (tn (o89_1) tz tz) tz))) (tn (o13_a) (tn (o21_1) (tn (oF0) (tn (o69_1) tz tz) tz) (tn (oT0) (tn (oT0) tz tz) tz)) (tn (oT0) (tn (o45_1) (tn (o77_1) tz tz) tz) (tn (o61_1) (tn (oF0) tz tz) tz))))) (tn (boot_o_2 P) (tn (boot_o_4 P) (tn (boot_o_8 P) (tn (oF0) (tn (oT0) (tn (oT0) tz tz) (tn (o96_1) tz tz)) (tn (o48_1) (tn (o80_1) tz tz) tz)) (tn (o24_1) (tn (o40_1) (tn (oF0) tz tz) tz) (tn (o56_1) (tn (oT0) tz tz) tz))) (tn (o12_1) (tn (o20_1) (tn (oT0) (tn (o68_1) tz tz) tz) (tn (o52_1) (tn (o84_1) tz tz) tz)) (tn (o28_1) (tn (oF0) (tn (o76_1) tz tz) tz) (tn (oT0) (tn (oT0) tz tz) tz)))) (tn (boot_o_6 P) (tn (boot_o_10 P) (tn (oT0) (tn (o34_1) (tn (o66_1) tz tz) (tn (o98_1) tz tz)) (tn (oT0) (tn (o82_1) tz tz) tz)) (tn (o26_1) (tn (o42_1) (tn (oT0) tz tz) tz) (tn (oF0) (tn (o90_1) tz tz) tz))) (tn (o14_a) (tn (oT0) (tn (o38_1) (tn (o70_1) tz tz) tz) (tn (o54_1) (tn (oF0) tz tz) tz)) (tn (oF0) (tn (oT0) (tn (oT0) tz tz) tz) (tn (o62_1) (tn (o94_1) tz tz) tz))))))
noncomputable def o3_2 (P : Params) : Obj := oDct [de P "__name__" 165 (vs "cpy313.tabnanny" 287),
  de P "__doc__" 166 (.none),
  de P "__package__" 167 (.none),
  de P "__loader__" 168 (.builtin "__main__.__loader__#opaque"),
  de P "__spec__" 169 (.none),
  de P "__annotations__" 170 (.ref 6),
  de P "__builtins__" 171 (.ref 4),
  de P "__file__" 173 (vs "/claim/cut.py" 172),
  de P "__cached__" 174 (.none),
  de P "_wall" 193 (.ref 21),
  de P "_parse_varint" 204 (.ref 28),
  de P "add" 214 (.ref 35),
  de P "and_" 222 (.ref 42),
  de P "floordiv" 230 (.ref 49),
  de P "mod" 238 (.ref 56),
  de P "mul" 246 (.ref 63),
  de P "or_" 254 (.ref 70),
  de P "sub" 262 (.ref 77),
  de P "xor" 270 (.ref 84),
  de P "contains" 278 (.ref 91),
  de P "getitem" 286 (.ref 98),
  de P "Whitespace" 388 (.ref 160)] 22
noncomputable def o12_2 : Obj := oFld .none [vi 1 0, vi 0 0, .ref 20, vi 5 0, vi 0 0, .ref 27, vi 14 0, vi 0 0, .ref 34, vi 16 0, vi 0 0, .ref 41, vi 18 0, vi 0 0, .ref 48, vi 20 0, vi 0 0, .ref 55, vi 22 0, vi 0 0, .ref 62, vi 24 0, vi 0 0, .ref 69, vi 26 0, vi 0 0, .ref 76, vi 28 0, vi 0 0, .ref 83, vi 30 0, vi 0 0, .ref 90, vi 32 0, vi 0 0, .ref 97, vi 35 0, vi 0 0, .ref 104]
noncomputable def o100_2 : Obj := oFld (.type "builtin_function_or_method") [.builtin "type.__prepare__", .type "type"]
noncomputable def o101_2 (P : Params) : Obj := oDct [de P "__module__" 296 (vs "cpy313.tabnanny" 287),
  de P "__qualname__" 298 (vs "Whitespace" 297),
  de P "__firstlineno__" 300 (vi 35 299),
  de P "S" 304 (vs " " 302),
  de P "T" 305 (vs "\t" 303),
  de P "__init__" 320 (.ref 115),
  de P "longest_run_of_spaces" 329 (.ref 122),
  de P "indent_level" 341 (.ref 129),
  de P "equal" 349 (.ref 136),
  de P "not_equal_witness" 357 (.ref 143),
  de P "less" 367 (.ref 150),
  de P "not_less_witness" 375 (.ref 157),
  de P "__static_attributes__" 381 (.ref 158)] 13
noncomputable def o103_2 : Obj := oFld .none [vi 38 0, vi 4 0, .ref 114, vi 61 0, vi 4 0, .ref 121, vi 65 0, vi 4 0, .ref 128, vi 72 0, vi 4 0, .ref 135, vi 75 0, vi 4 0, .ref 142, vi 78 0, vi 4 0, .ref 149, vi 89 0, vi 4 0, .ref 156]
noncomputable def o104_2 : Obj := oFld (.type "code") [vs "Whitespace" 291, vs "Whitespace" 292, vs "/claim/cut.py" 293, vi 35 0, vi 0 0, vi 0 0, vi 0 0, vi 0 0, .ref 102, .bool false, vi 181 0, .ref 103, .none, .none, .none, .none, vi 294 0, vi 35 0, vs "/claim/cut.py" 295]
noncomputable def o105_2 : Obj := ⟨.type "frame", none, .plain, ⟨[some (.ref 104), some (.ref 3), some (.ref 101), none, some (vs "cpy313.tabnanny" 287), none, some (.ref 0)]⟩⟩
noncomputable def o106_2 : Obj := oFld (.type "str_ascii_iterator") [.none, vi 2 0]
noncomputable def o108_2 : Obj := oFld (.type "StopIteration") [.ref 107, .none, .none, .none, .bool false, .none]
noncomputable def o111_2 : Obj := oTup [vs "self" 309, vs "ws" 310, vs "S" 311, vs "T" 312, vs "count" 313, vs "b" 314, vs "n" 315, vs "nt" 316, vs "ch" 317]
noncomputable def o113_2 : Obj := oFn (.none) (nth (clBody (stAt 15)) 1) "Whitespace.__init__" 0 (.none) (.none) (.none) (.none)
noncomputable def o114_2 : Obj := oFld (.type "code") [vs "__init__" 306, vs "Whitespace.__init__" 307, vs "/claim/cut.py" 308, vi 38 0, vi 2 0, vi 0 0, vi 0 0, vi 3 0, .ref 109, .bool true, vi 181 0, .ref 110, .none, .ref 111, .ref 112, .ref 113, vi 318 0, vi 38 0, vs "/claim/cut.py" 319]
noncomputable def o115_2 : Obj := oFn (.type "function") (nth (clBody (stAt 15)) 1) "Whitespace.__init__" 3 (.none) (vs "cpy313.tabnanny" 287) (.ref 114) (.none)
noncomputable def o118_2 : Obj := oTup [vs "self" 324, vs "count" 325, vs "trailing" 326]
noncomputable def o120_2 : Obj := oFn (.none) (nth (clBody (stAt 15)) 2) "Whitespace.longest_run_of_spaces" 0 (.none) (.none) (.none) (.none)
noncomputable def o121_2 : Obj := oFld (.type "code") [vs "longest_run_of_spaces" 321, vs "Whitespace.longest_run_of_spaces" 322, vs "/claim/cut.py" 323, vi 61 0, vi 1 0, vi 0 0, vi 0 0, vi 3 0, .ref 116, .bool true, vi 181 0, .ref 117, .none, .ref 118, .ref 119, .ref 120, vi 327 0, vi 61 0, vs "/claim/cut.py" 328]
noncomputable def o122_2 : Obj := oFn (.type "function") (nth (clBody (stAt 15)) 2) "Whitespace.longest_run_of_spaces" 3 (.none) (vs "cpy313.tabnanny" 287) (.ref 121) (.none)
noncomputable def o125_2 : Obj := oTup [vs "self" 333, vs "tabsize" 334, vs "count" 335, vs "trailing" 336, vs "il" 337, vs "i" 338]
noncomputable def o127_2 : Obj := oFn (.none) (nth (clBody (stAt 15)) 3) "Whitespace.indent_level" 0 (.none) (.none) (.none) (.none)
noncomputable def o128_2 : Obj := oFld (.type "code") [vs "indent_level" 330, vs "Whitespace.indent_level" 331, vs "/claim/cut.py" 332, vi 65 0, vi 2 0, vi 0 0, vi 0 0, vi 3 0, .ref 123, .bool true, vi 181 0, .ref 124, .none, .ref 125, .ref 126, .ref 127, vi 339 0, vi 65 0, vs "/claim/cut.py" 340]
noncomputable def o129_2 : Obj := oFn (.type "function") (nth (clBody (stAt 15)) 3) "Whitespace.indent_level" 3 (.none) (vs "cpy313.tabnanny" 287) (.ref 128) (.none)
noncomputable def o132_2 : Obj := oTup [vs "self" 345, vs "other" 346]
noncomputable def o134_2 : Obj := oFn (.none) (nth (clBody (stAt 15)) 4) "Whitespace.equal" 0 (.none) (.none) (.none) (.none)
noncomputable def o135_2 : Obj := oFld (.type "code") [vs "equal" 342, vs "Whitespace.equal" 343, vs "/claim/cut.py" 344, vi 72 0, vi 2 0, vi 0 0, vi 0 0, vi 3 0, .ref 130, .bool true, vi 181 0, .ref 131, .none, .ref 132, .ref 133, .ref 134, vi 347 0, vi 72 0, vs "/claim/cut.py" 348]
noncomputable def o136_2 : Obj := oFn (.type "function") (nth (clBody (stAt 15)) 4) "Whitespace.equal" 3 (.none) (vs "cpy313.tabnanny" 287) (.ref 135) (.none)
noncomputable def o139_2 : Obj := oTup [vs "self" 353, vs "other" 354]
noncomputable def o141_2 : Obj := oFn (.none) (nth (clBody (stAt 15)) 5) "Whitespace.not_equal_witness" 0 (.none) (.none) (.none) (.none)
noncomputable def o142_2 : Obj := oFld (.type "code") [vs "not_equal_witness" 350, vs "Whitespace.not_equal_witness" 351, vs "/claim/cut.py" 352, vi 75 0, vi 2 0, vi 0 0, vi 0 0, vi 3 0, .ref 137, .bool true, vi 181 0, .ref 138, .none, .ref 139, .ref 140, .ref 141, vi 355 0, vi 75 0, vs "/claim/cut.py" 356]
noncomputable def o143_2 : Obj := oFn (.type "function") (nth (clBody (stAt 15)) 5) "Whitespace.not_equal_witness" 3 (.none) (vs "cpy313.tabnanny" 287) (.ref 142) (.none)
noncomputable def o146_2 : Obj := oTup [vs "self" 361, vs "other" 362, vs "n" 363, vs "ts" 364]
noncomputable def o148_2 : Obj := oFn (.none) (nth (clBody (stAt 15)) 6) "Whitespace.less" 0 (.none) (.none) (.none) (.none)
noncomputable def o149_2 : Obj := oFld (.type "code") [vs "less" 358, vs "Whitespace.less" 359, vs "/claim/cut.py" 360, vi 78 0, vi 2 0, vi 0 0, vi 0 0, vi 3 0, .ref 144, .bool true, vi 181 0, .ref 145, .none, .ref 146, .ref 147, .ref 148, vi 365 0, vi 78 0, vs "/claim/cut.py" 366]
noncomputable def o150_2 : Obj := oFn (.type "function") (nth (clBody (stAt 15)) 6) "Whitespace.less" 3 (.none) (vs "cpy313.tabnanny" 287) (.ref 149) (.none)
noncomputable def o153_2 : Obj := oTup [vs "self" 371, vs "other" 372]
noncomputable def o155_2 : Obj := oFn (.none) (nth (clBody (stAt 15)) 7) "Whitespace.not_less_witness" 0 (.none) (.none) (.none) (.none)
noncomputable def o156_2 : Obj := oFld (.type "code") [vs "not_less_witness" 368, vs "Whitespace.not_less_witness" 369, vs "/claim/cut.py" 370, vi 89 0, vi 2 0, vi 0 0, vi 0 0, vi 3 0, .ref 151, .bool true, vi 181 0, .ref 152, .none, .ref 153, .ref 154, .ref 155, vi 373 0, vi 89 0, vs "/claim/cut.py" 374]
noncomputable def o157_2 : Obj := oFn (.type "function") (nth (clBody (stAt 15)) 7) "Whitespace.not_less_witness" 3 (.none) (vs "cpy313.tabnanny" 287) (.ref 156) (.none)
noncomputable def o158_2 : Obj := oTup [vs "is_simple" 376, vs "n" 377, vs "norm" 378, vs "nt" 379, vs "raw" 380]
noncomputable def o159_2 (P : Params) : Obj := oDct [de P "__module__" 296 (vs "cpy313.tabnanny" 287),
  de P "__firstlineno__" 300 (vi 35 299),
  de P "S" 304 (vs " " 302),
  de P "T" 305 (vs "\t" 303),
  de P "__init__" 320 (.ref 115),
  de P "longest_run_of_spaces" 329 (.ref 122),
  de P "indent_level" 341 (.ref 129),
  de P "equal" 349 (.ref 136),
  de P "not_equal_witness" 357 (.ref 143),
  de P "less" 367 (.ref 150),
  de P "not_less_witness" 375 (.ref 157),
  de P "__static_attributes__" 381 (.ref 158),
  de P "__dict__" 383 (.ref 161),
  de P "__weakref__" 385 (.ref 162),
  de P "__doc__" 386 (.none)] 4
noncomputable def o160_2 : Obj := ⟨.type "type", none, .cls ⟨"Whitespace", [.type "object"], [.ref 160, .type "object"], 159, "Whitespace", true, [], [], false, none, false⟩, ⟨[none, none, some (vs "Whitespace" 289), some (vs "Whitespace" 297), some (.builtin "object.__new__"), some (.bool true)]⟩⟩
noncomputable def o161_2 : Obj := oFld (.type "getset_descriptor") [vs "__dict__" 382, .ref 160, .builtin "function.__dict__", .builtin "function.__dict__#set"]
noncomputable def o162_2 : Obj := oFld (.type "getset_descriptor") [vs "__weakref__" 384, .ref 160, .builtin "ExceptionGroup.__weakref__", .none]
noncomputable def o163_2 : Obj := oFld (.type "super") [.ref 160, .ref 160, .ref 160]
noncomputable def o164_2 : Obj := oFld (.type "builtin_function_or_method") [.builtin "object.__init_subclass__", .ref 160]
noncomputable def tr_2 (P : Params) : BT := (tn (boot_o_0 P) (tn (boot_o_1 P) (tn (o3_2 P) (tn (boot_o_7 P) (tn (oT0) (tn (o31_1) (tn (o63_1) (tn (o127_2) tz tz) tz) (tn (oT0) (tn (o159_2 P) tz tz) tz)) (tn (o47_1) (tn (oF0) (tn (o143_2) tz tz) tz) (tn (o111_2) tz tz))) (tn (oF0) (tn (oT0) (tn (oT0) (tn (o135_2) tz tz) tz) (tn (o103_2) tz tz)) (tn (o55_1) (tn (o87_1) (tn (oT0) tz tz) tz) (tn (oT0) tz tz)))) (tn (oT0) (tn (o19_1) (tn (o35_1) (tn (oT0) (tn (oF0) tz tz) tz) (tn (oT0) (tn (o163_2) tz tz) tz)) (tn (oF0) (tn (o83_1) (tn (oT0) tz tz) tz) (tn (o115_2) tz tz))) (tn (o27_1) (tn (oT0) (tn (o75_1) (tn (o139_2) tz tz) tz) (tn (oT0) tz tz)) (tn (o59_1) (tn (o91_1) (tn (o155_2) tz tz) tz) (tn (oT0) tz tz))))) (tn (boot_o_5 P) (tn (boot_o_9 P) (tn (o17_1) (tn (o33_1) (tn (oF0) (tn (o129_2) tz tz) tz) (tn (o97_1) (tn (o161_2) tz tz) tz)) (tn (o49_1) (tn (oT0) (tn (oF0) tz tz) tz) (tn (o113_2) tz tz))) (tn (oT0) (tn (o41_1) (tn (o73_1) (tn (oT0) tz tz) tz) (tn (o105_2) tz tz)) (tn (oT0) (tn (o89_1) (tn (o153_2) tz tz) tz) (tn (o121_2) tz tz)))) (tn (o13_a) (tn (o21_1) (tn (oF0) (tn (o69_1) (tn (oT0) tz tz) tz) (tn (o101_2 P) tz tz)) (tn (oT0) (tn (oT0) (tn (o149_2) tz tz) tz) (tn (oF0) tz tz))) (tn (oT0) (tn (o45_1) (tn (o77_1) (tn (o141_2) tz tz) tz) (tn (oT0) tz tz)) (tn (o61_1) (tn (oF0) (tn (o157_2) tz tz) tz) (tn (o125_2) tz tz)))))) (tn (boot_o_2 P) (tn (boot_o_4 P) (tn (boot_o_8 P) (tn (oF0) (tn (oT0) (tn (oT0) (tn (o128_2) tz tz) tz) (tn (o96_1) (tn (o160_2) tz tz) tz)) (tn (o48_1) (tn (o80_1) (tn (oT0) tz tz) tz) (tn (oT0) tz tz))) (tn (o24_1) (tn (o40_1) (tn (oF0) (tn (o136_2) tz tz) tz) (tn (o104_2) tz tz)) (tn (o56_1) (tn (oT0) (tn (oF0) tz tz) tz) (tn (o120_2) tz tz)))) (tn (o12_2) (tn (o20_1) (tn (oT0) (tn (o68_1) (tn (o132_2) tz tz) tz) (tn (o100_2) (tn (o164_2) tz tz) tz)) (tn (o52_1) (tn (o84_1) (tn (o148_2) tz tz) tz) (tn (oT0) tz tz))) (tn (o28_1) (tn (oF0) (tn (o76_1) (tn (oT0) tz tz) tz) (tn (o108_2) tz tz)) (tn (oT0) (tn (oT0) (tn (o156_2) tz tz) tz) (tn (oF0) tz tz))))) (tn (boot_o_6 P) (tn (boot_o_10 P) (tn (oT0) (tn (o34_1) (tn (o66_1) (tn (oT0) tz tz) tz) (tn (o98_1) (tn (o162_2) tz tz) tz)) (tn (oT0) (tn (o82_1) (tn (o146_2) tz tz) tz) (tn (o114_2) tz tz))) (tn (o26_1) (tn (o42_1) (tn (oT0) (tn (oF0) tz tz) tz) (tn (o106_2) tz tz)) (tn (oF0) (tn (o90_1) (tn (oT0) tz tz) tz) (tn (o122_2) tz tz)))) (tn (o14_a) (tn (oT0) (tn (o38_1) (tn (o70_1) (tn (o134_2) tz tz) tz) (tn (oT0) tz tz)) (tn (o54_1) (tn (oF0) (tn (o150_2) tz tz) tz) (tn (o118_2) tz tz))) (tn (oF0) (tn (oT0) (tn (oT0) (tn (o142_2) tz tz) tz) (tn (oF0) tz tz)) (tn (o62_1) (tn (o94_1) (tn (o158_2) tz tz) tz) (tn (oT0) tz tz)))))))
noncomputable def o3_3 (P : Params) : Obj := oDct [de P "__name__" 165 (vs "cpy313.token" 389),
  de P "__doc__" 166 (.none),
  de P "__package__" 167 (.none),
  de P "__loader__" 168 (.builtin "__main__.__loader__#opaque"),
  de P "__spec__" 169 (.none),
  de P "__annotations__" 170 (.ref 6),
  de P "__builtins__" 171 (.ref 4),
  de P "__file__" 173 (vs "/claim/cut.py" 172),
  de P "__cached__" 174 (.none),
  de P "_wall" 193 (.ref 21),
  de P "_parse_varint" 204 (.ref 28),
  de P "add" 214 (.ref 35),
  de P "and_" 222 (.ref 42),
  de P "floordiv" 230 (.ref 49),
  de P "mod" 238 (.ref 56),
  de P "mul" 246 (.ref 63),
  de P "or_" 254 (.ref 70),
  de P "sub" 262 (.ref 77),
  de P "xor" 270 (.ref 84),
  de P "contains" 278 (.ref 91),
  de P "getitem" 286 (.ref 98),
  de P "Whitespace" 388 (.ref 160),
  de P "LPAR" 392 (vi 7 391),
  de P "RPAR" 394 (vi 8 393),
  de P "LSQB" 396 (vi 9 395),
  de P "RSQB" 398 (vi 10 397),
  de P "COLON" 400 (vi 11 399),
  de P "COMMA" 402 (vi 12 401),
  de P "SEMI" 404 (vi 13 403),
  de P "PLUS" 406 (vi 14 405),
  de P "MINUS" 408 (vi 15 407),
  de P "STAR" 410 (vi 16 409),
  de P "SLASH" 412 (vi 17 411),
  de P "VBAR" 414 (vi 18 413),
  de P "AMPER" 416 (vi 19 415),
  de P "LESS" 418 (vi 20 417),
  de P "GREATER" 420 (vi 21 419),
  de P "EQUAL" 422 (vi 22 421),
  de P "DOT" 424 (vi 23 423),
  de P "PERCENT" 426 (vi 24 425),
  de P "LBRACE" 428 (vi 25 427),
  de P "RBRACE" 430 (vi 26 429),
  de P "EQEQUAL" 432 (vi 27 431),
  de P "NOTEQUAL" 434 (vi 28 433),
  de P "LESSEQUAL" 436 (vi 29 435),
  de P "GREATEREQUAL" 438 (vi 30 437),
  de P "TILDE" 440 (vi 31 439),
  de P "CIRCUMFLEX" 442 (vi 32 441),
  de P "LEFTSHIFT" 444 (vi 33 443),
  de P "RIGHTSHIFT" 446 (vi 34 445),
  de P "DOUBLESTAR" 448 (vi 35 447),
  de P "PLUSEQUAL" 450 (vi 36 449),
  de P "MINEQUAL" 452 (vi 37 451),
  de P "STAREQUAL" 454 (vi 38 453),
  de P "SLASHEQUAL" 456 (vi 39 455),
  de P "PERCENTEQUAL" 458 (vi 40 457),
  de P "AMPEREQUAL" 460 (vi 41 459),
  de P "VBAREQUAL" 462 (vi 42 461),
  de P "CIRCUMFLEXEQUAL" 464 (vi 43 463),
  de P "LEFTSHIFTEQUAL" 466 (vi 44 465),
  de P "RIGHTSHIFTEQUAL" 468 (vi 45 467),
  de P "DOUBLESTAREQUAL" 470 (vi 46 469),
  de P "DOUBLESLASH" 472 (vi 47 471),
  de P "DOUBLESLASHEQUAL" 474 (vi 48 473),
  de P "AT" 476 (vi 49 475),
  de P "ATEQUAL" 478 (vi 50 477),
  de P "RARROW" 480 (vi 51 479),
  de P "ELLIPSIS" 482 (vi 52 481),
  de P "COLONEQUAL" 484 (vi 53 483),
  de P "EXCLAMATION" 486 (vi 54 485),
  de P "NT_OFFSET" 488 (vi 256 487)] 71
noncomputable def tr_3 (P : Params) : BT := (tn (boot_o_0 P) (tn (boot_o_1 P) (tn (o3_3 P) (tn (boot_o_7 P) (tn (oT0) (tn (o31_1) (tn (o63_1) (tn (o127_2) tz tz) tz) (tn (oT0) (tn (o159_2 P) tz tz) tz)) (tn (o47_1) (tn (oF0) (tn (o143_2) tz tz) tz) (tn (o111_2) tz tz))) (tn (oF0) (tn (oT0) (tn (oT0) (tn (o135_2) tz tz) tz) (tn (o103_2) tz tz)) (tn (o55_1) (tn (o87_1) (tn (oT0) tz tz) tz) (tn (oT0) tz tz)))) (tn (oT0) (tn (o19_1) (tn (o35_1) (tn (oT0) (tn (oF0) tz tz) tz) (tn (oT0) (tn (o163_2) tz tz) tz)) (tn (oF0) (tn (o83_1) (tn (oT0) tz tz) tz) (tn (o115_2) tz tz))) (tn (o27_1) (tn (oT0) (tn (o75_1) (tn (o139_2) tz tz) tz) (tn (oT0) tz tz)) (tn (o59_1) (tn (o91_1) (tn (o155_2) tz tz) tz) (tn (oT0) tz tz))))) (tn (boot_o_5 P) (tn (boot_o_9 P) (tn (o17_1) (tn (o33_1) (tn (oF0) (tn (o129_2) tz tz) tz) (tn (o97_1) (tn (o161_2) tz tz) tz)) (tn (o49_1) (tn (oT0) (tn (oF0) tz tz) tz) (tn (o113_2) tz tz))) (tn (oT0) (tn (o41_1) (tn (o73_1) (tn (oT0) tz tz) tz) (tn (o105_2) tz tz)) (tn (oT0) (tn (o89_1) (tn (o153_2) tz tz) tz) (tn (o121_2) tz tz)))) (tn (o13_a) (tn (o21_1) (tn (oF0) (tn (o69_1) (tn (oT0) tz tz) tz) (tn (o101_2 P) tz tz)) (tn (oT0) (tn (oT0) (tn (o149_2) tz tz) tz) (tn (oF0) tz tz))) (tn (oT0) (tn (o45_1) (tn (o77_1) (tn (o141_2) tz tz) tz) (tn (oT0) tz tz)) (tn (o61_1) (tn (oF0) (tn (o157_2) tz tz) tz) (tn (o125_2) tz tz)))))) (tn (boot_o_2 P) (tn (boot_o_4 P) (tn (boot_o_8 P) (tn (oF0) (tn (oT0) (tn (oT0) (tn (o128_2) tz tz) tz) (tn (o96_1) (tn (o160_2) tz tz) tz)) (tn (o48_1) (tn (o80_1) (tn (oT0) tz tz) tz) (tn (oT0) tz tz))) (tn (o24_1) (tn (o40_1) (tn (oF0) (tn (o136_2) tz tz) tz) (tn (o104_2) tz tz)) (tn (o56_1) (tn (oT0) (tn (oF0) tz tz) tz) (tn (o120_2) tz tz)))) (tn (o12_2) (tn (o20_1) (tn (oT0) (tn (o68_1) (tn (o132_2) tz tz) tz) (tn (o100_2) (tn (o164_2) tz tz) tz)) (tn (o52_1) (tn (o84_1) (tn (o148_2) tz tz) tz) (tn (oT0) tz tz))) (tn (o28_1) (tn (oF0) (tn (o76_1) (tn (oT0) tz tz) tz) (tn (o108_2) tz tz)) (tn (oT0) (tn (oT0) (tn (o156_2) tz tz) tz) (tn (oF0) tz tz))))) (tn (boot_o_6 P) (tn (boot_o_10 P) (tn (oT0) (tn (o34_1) (tn (o66_1) (tn (oT0) tz tz) tz) (tn (o98_1) (tn (o162_2) tz tz) tz)) (tn (oT0) (tn (o82_1) (tn (o146_2) tz tz) tz) (tn (o114_2) tz tz))) (tn (o26_1) (tn (o42_1) (tn (oT0) (tn (oF0) tz tz) tz) (tn (o106_2) tz tz)) (tn (oF0) (tn (o90_1) (tn (oT0) tz tz) tz) (tn (o122_2) tz tz)))) (tn (o14_a) (tn (oT0) (tn (o38_1) (tn (o70_1) (tn (o134_2) tz tz) tz) (tn (oT0) tz tz)) (tn (o54_1) (tn (oF0) (tn (o150_2) tz tz) tz) (tn (o118_2) tz tz))) (tn (oF0) (tn (oT0) (tn (oT0) (tn (o142_2) tz tz) tz) (tn (oF0) tz tz)) (tn (o62_1) (tn (o94_1) (tn (o158_2) tz tz) tz) (tn (oT0) tz tz)))))))
noncomputable def o3_4 (P : Params) : Obj := oDct [de P "__name__" 165 (vs "cpy313.token" 389),
  de P "__doc__" 166 (.none),
  de P "__package__" 167 (.none),
  de P "__loader__" 168 (.builtin "__main__.__loader__#opaque"),
  de P "__spec__" 169 (.none),
  de P "__annotations__" 170 (.ref 6),
  de P "__builtins__" 171 (.ref 4),
  de P "__file__" 173 (vs "/claim/cut.py" 172),
  de P "__cached__" 174 (.none),
  de P "_wall" 193 (.ref 21),
  de P "_parse_varint" 204 (.ref 28),
  de P "add" 214 (.ref 35),
  de P "and_" 222 (.ref 42),
  de P "floordiv" 230 (.ref 49),
  de P "mod" 238 (.ref 56),
  de P "mul" 246 (.ref 63),
  de P "or_" 254 (.ref 70),
  de P "sub" 262 (.ref 77),
  de P "xor" 270 (.ref 84),
  de P "contains" 278 (.ref 91),
  de P "getitem" 286 (.ref 98),
  de P "Whitespace" 388 (.ref 160),
  de P "LPAR" 392 (vi 7 391),
  de P "RPAR" 394 (vi 8 393),
  de P "LSQB" 396 (vi 9 395),
  de P "RSQB" 398 (vi 10 397),
  de P "COLON" 400 (vi 11 399),
  de P "COMMA" 402 (vi 12 401),
  de P "SEMI" 404 (vi 13 403),
  de P "PLUS" 406 (vi 14 405),
  de P "MINUS" 408 (vi 15 407),
  de P "STAR" 410 (vi 16 409),
  de P "SLASH" 412 (vi 17 411),
  de P "VBAR" 414 (vi 18 413),
  de P "AMPER" 416 (vi 19 415),
  de P "LESS" 418 (vi 20 417),
  de P "GREATER" 420 (vi 21 419),
  de P "EQUAL" 422 (vi 22 421),
  de P "DOT" 424 (vi 23 423),
  de P "PERCENT" 426 (vi 24 425),
  de P "LBRACE" 428 (vi 25 427),
  de P "RBRACE" 430 (vi 26 429),
  de P "EQEQUAL" 432 (vi 27 431),
  de P "NOTEQUAL" 434 (vi 28 433),
  de P "LESSEQUAL" 436 (vi 29 435),
  de P "GREATEREQUAL" 438 (vi 30 437),
  de P "TILDE" 440 (vi 31 439),
  de P "CIRCUMFLEX" 442 (vi 32 441),
  de P "LEFTSHIFT" 444 (vi 33 443),
  de P "RIGHTSHIFT" 446 (vi 34 445),
  de P "DOUBLESTAR" 448 (vi 35 447),
  de P "PLUSEQUAL" 450 (vi 36 449),
  de P "MINEQUAL" 452 (vi 37 451),
  de P "STAREQUAL" 454 (vi 38 453),
  de P "SLASHEQUAL" 456 (vi 39 455),
  de P "PERCENTEQUAL" 458 (vi 40 457),
  de P "AMPEREQUAL" 460 (vi 41 459),
  de P "VBAREQUAL" 462 (vi 42 461),
  de P "CIRCUMFLEXEQUAL" 464 (vi 43 463),
  de P "LEFTSHIFTEQUAL" 466 (vi 44 465),
  de P "RIGHTSHIFTEQUAL" 468 (vi 45 467),
  de P "DOUBLESTAREQUAL" 470 (vi 46 469),
  de P "DOUBLESLASH" 472 (vi 47 471),
  de P "DOUBLESLASHEQUAL" 474 (vi 48 473),
  de P "AT" 476 (vi 49 475),
  de P "ATEQUAL" 478 (vi 50 477),
  de P "RARROW" 480 (vi 51 479),
  de P "ELLIPSIS" 482 (vi 52 481),
  de P "COLONEQUAL" 484 (vi 53 483),
  de P "EXCLAMATION" 486 (vi 54 485),
  de P "NT_OFFSET" 488 (vi 256 487),
  de P "EXACT_TOKEN_TYPES" 585 (.ref 165)] 72
noncomputable def o165_4 (P : Params) : Obj := oDct [de P "!" 489 (vi 54 485),
  de P "!=" 491 (vi 28 433),
  de P "%" 493 (vi 24 425),
  de P "%=" 495 (vi 40 457),
  de P "&" 497 (vi 19 415),
  de P "&=" 499 (vi 41 459),
  de P "(" 501 (vi 7 391),
  de P ")" 503 (vi 8 393),
  de P "*" 505 (vi 16 409),
  de P "**" 507 (vi 35 447),
  de P "**=" 509 (vi 46 469),
  de P "*=" 511 (vi 38 453),
  de P "+" 513 (vi 14 405),
  de P "+=" 515 (vi 36 449),
  de P "," 517 (vi 12 401),
  de P "-" 519 (vi 15 407),
  de P "-=" 521 (vi 37 451),
  de P "->" 523 (vi 51 479),
  de P "." 525 (vi 23 423),
  de P "..." 527 (vi 52 481),
  de P "/" 529 (vi 17 411),
  de P "//" 531 (vi 47 471),
  de P "//=" 533 (vi 48 473),
  de P "/=" 535 (vi 39 455),
  de P ":" 537 (vi 11 399),
  de P ":=" 539 (vi 53 483),
  de P ";" 541 (vi 13 403),
  de P "<" 543 (vi 20 417),
  de P "<<" 545 (vi 33 443),
  de P "<<=" 547 (vi 44 465),
  de P "<=" 549 (vi 29 435),
  de P "=" 551 (vi 22 421),
  de P "==" 553 (vi 27 431),
  de P ">" 555 (vi 21 419),
  de P ">=" 557 (vi 30 437),
  de P ">>" 558 (vi 34 445),
  de P ">>=" 559 (vi 45 467),
  de P "@" 560 (vi 49 475),
  de P "@=" 561 (vi 50 477),
  de P "[" 562 (vi 9 395),
  de P "]" 563 (vi 10 397),
  de P "^" 564 (vi 32 441),
  de P "^=" 565 (vi 43 463),
  de P "{" 566 (vi 25 427),
  de P "|" 567 (vi 18 413),
  de P "|=" 568 (vi 42 461),
  de P "}" 569 (vi 26 429),
  de P "~" 570 (vi 31 439)] 48
noncomputable def o166_4 (P : Params) : Obj := oDct [de P "->" 523 (vi 51 479),
  de P "." 525 (vi 23 423),
  de P "..." 527 (vi 52 481),
  de P "/" 529 (vi 17 411),
  de P "//" 531 (vi 47 471),
  de P "//=" 533 (vi 48 473),
  de P "/=" 535 (vi 39 455),
  de P ":" 537 (vi 11 399),
  de P ":=" 539 (vi 53 483),
  de P ";" 541 (vi 13 403),
  de P "<" 543 (vi 20 417),
  de P "<<" 545 (vi 33 443),
  de P "<<=" 547 (vi 44 465),
  de P "<=" 549 (vi 29 435),
  de P "=" 551 (vi 22 421),
  de P "==" 553 (vi 27 431),
  de P ">" 555 (vi 21 419)] 17
noncomputable def o167_4 (P : Params) : Obj := oDct [de P ">=" 557 (vi 30 437),
  de P ">>" 558 (vi 34 445),
  de P ">>=" 559 (vi 45 467),
  de P "@" 560 (vi 49 475),
  de P "@=" 561 (vi 50 477),
  de P "[" 562 (vi 9 395),
  de P "]" 563 (vi 10 397),
  de P "^" 564 (vi 32 441),
  de P "^=" 565 (vi 43 463),
  de P "{" 566 (vi 25 427),
  de P "|" 567 (vi 18 413),
  de P "|=" 568 (vi 42 461),
  de P "}" 569 (vi 26 429),
  de P "~" 570 (vi 31 439)] 14
noncomputable def tr_4 (P : Params) : BT := (tn (boot_o_0 P) (tn (boot_o_1 P) (tn (o3_4 P) (tn (boot_o_7 P) (tn (oT0) (tn (o31_1) (tn (o63_1) (tn (o127_2) tz tz) tz) (tn (oT0) (tn (o159_2 P) tz tz) tz)) (tn (o47_1) (tn (oF0) (tn (o143_2) tz tz) tz) (tn (o111_2) tz tz))) (tn (oF0) (tn (oT0) (tn (oT0) (tn (o135_2) tz tz) tz) (tn (o103_2) (tn (o167_4 P) tz tz) tz)) (tn (o55_1) (tn (o87_1) (tn (oT0) tz tz) tz) (tn (oT0) tz tz)))) (tn (oT0) (tn (o19_1) (tn (o35_1) (tn (oT0) (tn (oF0) tz tz) tz) (tn (oT0) (tn (o163_2) tz tz) tz)) (tn (oF0) (tn (o83_1) (tn (oT0) tz tz) tz) (tn (o115_2) tz tz))) (tn (o27_1) (tn (oT0) (tn (o75_1) (tn (o139_2) tz tz) tz) (tn (oT0) tz tz)) (tn (o59_1) (tn (o91_1) (tn (o155_2) tz tz) tz) (tn (oT0) tz tz))))) (tn (boot_o_5 P) (tn (boot_o_9 P) (tn (o17_1) (tn (o33_1) (tn (oF0) (tn (o129_2) tz tz) tz) (tn (o97_1) (tn (o161_2) tz tz) tz)) (tn (o49_1) (tn (oT0) (tn (oF0) tz tz) tz) (tn (o113_2) tz tz))) (tn (oT0) (tn (o41_1) (tn (o73_1) (tn (oT0) tz tz) tz) (tn (o105_2) tz tz)) (tn (oT0) (tn (o89_1) (tn (o153_2) tz tz) tz) (tn (o121_2) tz tz)))) (tn (o13_a) (tn (o21_1) (tn (oF0) (tn (o69_1) (tn (oT0) tz tz) tz) (tn (o101_2 P) (tn (o165_4 P) tz tz) tz)) (tn (oT0) (tn (oT0) (tn (o149_2) tz tz) tz) (tn (oF0) tz tz))) (tn (oT0) (tn (o45_1) (tn (o77_1) (tn (o141_2) tz tz) tz) (tn (oT0) tz tz)) (tn (o61_1) (tn (oF0) (tn (o157_2) tz tz) tz) (tn (o125_2) tz tz)))))) (tn (boot_o_2 P) (tn (boot_o_4 P) (tn (boot_o_8 P) (tn (oF0) (tn (oT0) (tn (oT0) (tn (o128_2) tz tz) tz) (tn (o96_1) (tn (o160_2) tz tz) tz)) (tn (o48_1) (tn (o80_1) (tn (oT0) tz tz) tz) (tn (oT0) tz tz))) (tn (o24_1) (tn (o40_1) (tn (oF0) (tn (o136_2) tz tz) tz) (tn (o104_2) tz tz)) (tn (o56_1) (tn (oT0) (tn (oF0) tz tz) tz) (tn (o120_2) tz tz)))) (tn (o12_2) (tn (o20_1) (tn (oT0) (tn (o68_1) (tn (o132_2) tz tz) tz) (tn (o100_2) (tn (o164_2) tz tz) tz)) (tn (o52_1) (tn (o84_1) (tn (o148_2) tz tz) tz) (tn (oT0) tz tz))) (tn (o28_1) (tn (oF0) (tn (o76_1) (tn (oT0) tz tz) tz) (tn (o108_2) tz tz)) (tn (oT0) (tn (oT0) (tn (o156_2) tz tz) tz) (tn (oF0) tz tz))))) (tn (boot_o_6 P) (tn (boot_o_10 P) (tn (oT0) (tn (o34_1) (tn (o66_1) (tn (oT0) tz tz) tz) (tn (o98_1) (tn (o162_2) tz tz) tz)) (tn (oT0) (tn (o82_1) (tn (o146_2) tz tz) tz) (tn (o114_2) tz tz))) (tn (o26_1) (tn (o42_1) (tn (oT0) (tn (oF0) tz tz) tz) (tn (o106_2) tz tz)) (tn (oF0) (tn (o90_1) (tn (oT0) tz tz) tz) (tn (o122_2) tz tz)))) (tn (o14_a) (tn (oT0) (tn (o38_1) (tn (o70_1) (tn (o134_2) tz tz) tz) (tn (oT0) (tn (o166_4 P) tz tz) tz)) (tn (o54_1) (tn (oF0) (tn (o150_2) tz tz) tz) (tn (o118_2) tz tz))) (tn (oF0) (tn (oT0) (tn (oT0) (tn (o142_2) tz tz) tz) (tn (oF0) tz tz)) (tn (o62_1) (tn (o94_1) (tn (o158_2) tz tz) tz) (tn (oT0) tz tz)))))))
noncomputable def o3_5 (P : Params) : Obj := oDct [de P "__name__" 165 (vs "law_tc0045_01" 600),
  de P "__doc__" 166 (.none),
  de P "__package__" 167 (.none),
  de P "__loader__" 168 (.builtin "__main__.__loader__#opaque"),
  de P "__spec__" 169 (.none),
  de P "__annotations__" 170 (.ref 6),
  de P "__builtins__" 171 (.ref 4),
  de P "__file__" 173 (vs "/claim/cut.py" 172),
  de P "__cached__" 174 (.none),
  de P "_wall" 193 (.ref 21),
  de P "_parse_varint" 204 (.ref 28),
  de P "add" 214 (.ref 35),
  de P "and_" 222 (.ref 42),
  de P "floordiv" 230 (.ref 49),
  de P "mod" 238 (.ref 56),
  de P "mul" 246 (.ref 63),
  de P "or_" 254 (.ref 70),
  de P "sub" 262 (.ref 77),
  de P "xor" 270 (.ref 84),
  de P "contains" 278 (.ref 91),
  de P "getitem" 286 (.ref 98),
  de P "Whitespace" 388 (.ref 160),
  de P "LPAR" 392 (vi 7 391),
  de P "RPAR" 394 (vi 8 393),
  de P "LSQB" 396 (vi 9 395),
  de P "RSQB" 398 (vi 10 397),
  de P "COLON" 400 (vi 11 399),
  de P "COMMA" 402 (vi 12 401),
  de P "SEMI" 404 (vi 13 403),
  de P "PLUS" 406 (vi 14 405),
  de P "MINUS" 408 (vi 15 407),
  de P "STAR" 410 (vi 16 409),
  de P "SLASH" 412 (vi 17 411),
  de P "VBAR" 414 (vi 18 413),
  de P "AMPER" 416 (vi 19 415),
  de P "LESS" 418 (vi 20 417),
  de P "GREATER" 420 (vi 21 419),
  de P "EQUAL" 422 (vi 22 421),
  de P "DOT" 424 (vi 23 423),
  de P "PERCENT" 426 (vi 24 425),
  de P "LBRACE" 428 (vi 25 427),
  de P "RBRACE" 430 (vi 26 429),
  de P "EQEQUAL" 432 (vi 27 431),
  de P "NOTEQUAL" 434 (vi 28 433),
  de P "LESSEQUAL" 436 (vi 29 435),
  de P "GREATEREQUAL" 438 (vi 30 437),
  de P "TILDE" 440 (vi 31 439),
  de P "CIRCUMFLEX" 442 (vi 32 441),
  de P "LEFTSHIFT" 444 (vi 33 443),
  de P "RIGHTSHIFT" 446 (vi 34 445),
  de P "DOUBLESTAR" 448 (vi 35 447),
  de P "PLUSEQUAL" 450 (vi 36 449),
  de P "MINEQUAL" 452 (vi 37 451),
  de P "STAREQUAL" 454 (vi 38 453),
  de P "SLASHEQUAL" 456 (vi 39 455),
  de P "PERCENTEQUAL" 458 (vi 40 457),
  de P "AMPEREQUAL" 460 (vi 41 459),
  de P "VBAREQUAL" 462 (vi 42 461),
  de P "CIRCUMFLEXEQUAL" 464 (vi 43 463),
  de P "LEFTSHIFTEQUAL" 466 (vi 44 465),
  de P "RIGHTSHIFTEQUAL" 468 (vi 45 467),
  de P "DOUBLESTAREQUAL" 470 (vi 46 469),
  de P "DOUBLESLASH" 472 (vi 47 471),
  de P "DOUBLESLASHEQUAL" 474 (vi 48 473),
  de P "AT" 476 (vi 49 475),
  de P "ATEQUAL" 478 (vi 50 477),
  de P "RARROW" 480 (vi 51 479),
  de P "ELLIPSIS" 482 (vi 52 481),
  de P "COLONEQUAL" 484 (vi 53 483),
  de P "EXCLAMATION" 486 (vi 54 485),
  de P "NT_OFFSET" 488 (vi 256 487),
  de P "EXACT_TOKEN_TYPES" 585 (.ref 165),
  de P "ISTERMINAL" 592 (.ref 174),
  de P "ISNONTERMINAL" 599 (.ref 181),
  de P "_law_draws" 615 (.ref 188),
  de P "_law_columns" 626 (.ref 195),
  de P "_law_left" 632 (.ref 200),
  de P "_law_parents" 638 (.ref 205),
  de P "_law_laid" 644 (.ref 210),
  de P "_law_ring" 650 (.ref 215),
  de P "_law_page_read" 667 (.ref 222),
  de P "_law_ring_read" 673 (.ref 227),
  de P "_law_values" 688 (.ref 234),
  de P "_law_deed" 697 (.ref 241),
  de P "_law_worth" 708 (.ref 248),
  de P "law" 714 (.ref 253)] 86
noncomputable def o12_5 : Obj := oFld .none [vi 1 0, vi 0 0, .ref 20, vi 5 0, vi 0 0, .ref 27, vi 14 0, vi 0 0, .ref 34, vi 16 0, vi 0 0, .ref 41, vi 18 0, vi 0 0, .ref 48, vi 20 0, vi 0 0, .ref 55, vi 22 0, vi 0 0, .ref 62, vi 24 0, vi 0 0, .ref 69, vi 26 0, vi 0 0, .ref 76, vi 28 0, vi 0 0, .ref 83, vi 30 0, vi 0 0, .ref 90, vi 32 0, vi 0 0, .ref 97, vi 35 0, vi 0 0, .ref 104, vi 142 0, vi 0 0, .ref 173, vi 144 0, vi 0 0, .ref 180, vi 147 0, vi 0 0, .ref 187, vi 157 0, vi 0 0, .ref 194, vi 165 0, vi 0 0, .ref 199, vi 167 0, vi 0 0, .ref 204, vi 176 0, vi 0 0, .ref 209, vi 183 0, vi 0 0, .ref 214, vi 194 0, vi 0 0, .ref 221, vi 212 0, vi 0 0, .ref 226, vi 222 0, vi 0 0, .ref 233, vi 242 0, vi 0 0, .ref 240, vi 258 0, vi 0 0, .ref 247, vi 264 0, vi 0 0, .ref 252]
noncomputable def o170_5 : Obj := oTup [vs "x" 589]
noncomputable def o172_5 : Obj := oFn (.none) (stAt 67) "ISTERMINAL" 0 (.none) (.none) (.none) (.none)
noncomputable def o173_5 : Obj := oFld (.type "code") [vs "ISTERMINAL" 586, vs "ISTERMINAL" 587, vs "/claim/cut.py" 588, vi 142 0, vi 1 0, vi 0 0, vi 0 0, vi 3 0, .ref 168, .bool true, vi 181 0, .ref 169, .none, .ref 170, .ref 171, .ref 172, vi 590 0, vi 142 0, vs "/claim/cut.py" 591]
noncomputable def o174_5 : Obj := oFn (.type "function") (stAt 67) "ISTERMINAL" 3 (.none) (vs "cpy313.token" 389) (.ref 173) (.none)
noncomputable def o177_5 : Obj := oTup [vs "x" 596]
noncomputable def o179_5 : Obj := oFn (.none) (stAt 68) "ISNONTERMINAL" 0 (.none) (.none) (.none) (.none)
noncomputable def o180_5 : Obj := oFld (.type "code") [vs "ISNONTERMINAL" 593, vs "ISNONTERMINAL" 594, vs "/claim/cut.py" 595, vi 144 0, vi 1 0, vi 0 0, vi 0 0, vi 3 0, .ref 175, .bool true, vi 181 0, .ref 176, .none, .ref 177, .ref 178, .ref 179, vi 597 0, vi 144 0, vs "/claim/cut.py" 598]
noncomputable def o181_5 : Obj := oFn (.type "function") (stAt 68) "ISNONTERMINAL" 3 (.none) (vs "cpy313.token" 389) (.ref 180) (.none)
noncomputable def o184_5 : Obj := oTup [vs "script" 605, vs "drawn" 606, vs "k" 607, vs "x" 608, vs "leads" 609, vs "signs" 610, vs "page" 611, vs "w" 612]
noncomputable def o186_5 : Obj := oFn (.none) (stAt 70) "_law_draws" 0 (.none) (.none) (.none) (.none)
noncomputable def o187_5 : Obj := oFld (.type "code") [vs "_law_draws" 602, vs "_law_draws" 603, vs "/claim/cut.py" 604, vi 147 0, vi 1 0, vi 0 0, vi 0 0, vi 3 0, .ref 182, .bool true, vi 181 0, .ref 183, .none, .ref 184, .ref 185, .ref 186, vi 613 0, vi 147 0, vs "/claim/cut.py" 614]
noncomputable def o188_5 : Obj := oFn (.type "function") (stAt 70) "_law_draws" 3 (.none) (vs "law_tc0045_01" 600) (.ref 187) (.none)
noncomputable def o191_5 : Obj := oTup [vs "lead" 619, vs "columns" 620, vs "size" 621, vs "column" 622, vs "sign" 623]
noncomputable def o193_5 : Obj := oFn (.none) (stAt 71) "_law_columns" 0 (.none) (.none) (.none) (.none)
noncomputable def o194_5 : Obj := oFld (.type "code") [vs "_law_columns" 616, vs "_law_columns" 617, vs "/claim/cut.py" 618, vi 157 0, vi 1 0, vi 0 0, vi 0 0, vi 3 0, .ref 189, .bool true, vi 181 0, .ref 190, .none, .ref 191, .ref 192, .ref 193, vi 624 0, vi 157 0, vs "/claim/cut.py" 625]
noncomputable def o195_5 : Obj := oFn (.type "function") (stAt 71) "_law_columns" 3 (.none) (vs "law_tc0045_01" 600) (.ref 194) (.none)
noncomputable def o198_5 : Obj := oFn (.none) (stAt 72) "_law_left" 0 (.none) (.none) (.none) (.none)
noncomputable def o199_5 : Obj := oFld (.type "code") [vs "_law_left" 627, vs "_law_left" 628, vs "/claim/cut.py" 629, vi 165 0, vi 2 0, vi 0 0, vi 0 0, vi 3 0, .ref 196, .bool true, vi 181 0, .ref 197, .none, .none, .none, .ref 198, vi 630 0, vi 165 0, vs "/claim/cut.py" 631]
noncomputable def o200_5 : Obj := oFn (.type "function") (stAt 72) "_law_left" 3 (.none) (vs "law_tc0045_01" 600) (.ref 199) (.none)
noncomputable def o203_5 : Obj := oFn (.none) (stAt 73) "_law_parents" 0 (.none) (.none) (.none) (.none)
noncomputable def o204_5 : Obj := oFld (.type "code") [vs "_law_parents" 633, vs "_law_parents" 634, vs "/claim/cut.py" 635, vi 167 0, vi 1 0, vi 0 0, vi 0 0, vi 3 0, .ref 201, .bool true, vi 181 0, .ref 202, .none, .none, .none, .ref 203, vi 636 0, vi 167 0, vs "/claim/cut.py" 637]
noncomputable def o205_5 : Obj := oFn (.type "function") (stAt 73) "_law_parents" 3 (.none) (vs "law_tc0045_01" 600) (.ref 204) (.none)
noncomputable def o208_5 : Obj := oFn (.none) (stAt 74) "_law_laid" 0 (.none) (.none) (.none) (.none)
noncomputable def o209_5 : Obj := oFld (.type "code") [vs "_law_laid" 639, vs "_law_laid" 640, vs "/claim/cut.py" 641, vi 176 0, vi 2 0, vi 0 0, vi 0 0, vi 3 0, .ref 206, .bool true, vi 181 0, .ref 207, .none, .none, .none, .ref 208, vi 642 0, vi 176 0, vs "/claim/cut.py" 643]
noncomputable def o210_5 : Obj := oFn (.type "function") (stAt 74) "_law_laid" 3 (.none) (vs "law_tc0045_01" 600) (.ref 209) (.none)
noncomputable def o213_5 : Obj := oFn (.none) (stAt 75) "_law_ring" 0 (.none) (.none) (.none) (.none)
noncomputable def o214_5 : Obj := oFld (.type "code") [vs "_law_ring" 645, vs "_law_ring" 646, vs "/claim/cut.py" 647, vi 183 0, vi 3 0, vi 0 0, vi 0 0, vi 3 0, .ref 211, .bool true, vi 181 0, .ref 212, .none, .none, .none, .ref 213, vi 648 0, vi 183 0, vs "/claim/cut.py" 649]
noncomputable def o215_5 : Obj := oFn (.type "function") (stAt 75) "_law_ring" 3 (.none) (vs "law_tc0045_01" 600) (.ref 214) (.none)
noncomputable def o218_5 : Obj := oTup [vs "lines" 654, vs "waiting" 655, vs "words" 656, vs "counts" 657, vs "line" 658, vs "here" 659, vs "behind" 660, vs "row" 661, vs "word" 662, vs "own" 663, vs "count" 664]
noncomputable def o220_5 : Obj := oFn (.none) (stAt 76) "_law_page_read" 0 (.none) (.none) (.none) (.none)
noncomputable def o221_5 : Obj := oFld (.type "code") [vs "_law_page_read" 651, vs "_law_page_read" 652, vs "/claim/cut.py" 653, vi 194 0, vi 1 0, vi 0 0, vi 0 0, vi 3 0, .ref 216, .bool true, vi 181 0, .ref 217, .none, .ref 218, .ref 219, .ref 220, vi 665 0, vi 194 0, vs "/claim/cut.py" 666]
noncomputable def o222_5 : Obj := oFn (.type "function") (stAt 76) "_law_page_read" 3 (.none) (vs "law_tc0045_01" 600) (.ref 221) (.none)
noncomputable def o225_5 : Obj := oFn (.none) (stAt 77) "_law_ring_read" 0 (.none) (.none) (.none) (.none)
noncomputable def o226_5 : Obj := oFld (.type "code") [vs "_law_ring_read" 668, vs "_law_ring_read" 669, vs "/claim/cut.py" 670, vi 212 0, vi 1 0, vi 0 0, vi 0 0, vi 3 0, .ref 223, .bool true, vi 181 0, .ref 224, .none, .none, .none, .ref 225, vi 671 0, vi 212 0, vs "/claim/cut.py" 672]
noncomputable def o227_5 : Obj := oFn (.type "function") (stAt 77) "_law_ring_read" 3 (.none) (vs "law_tc0045_01" 600) (.ref 226) (.none)
noncomputable def o230_5 : Obj := oTup [vs "row" 677, vs "deeds" 678, vs "done" 679, vs "k" 680, vs "kinds_told" 681, vs "value" 682, vs "count" 683, vs "turn" 684, vs "other" 685]
noncomputable def o232_5 : Obj := oFn (.none) (stAt 78) "_law_values" 0 (.none) (.none) (.none) (.none)
noncomputable def o233_5 : Obj := oFld (.type "code") [vs "_law_values" 674, vs "_law_values" 675, vs "/claim/cut.py" 676, vi 222 0, vi 1 0, vi 0 0, vi 0 0, vi 3 0, .ref 228, .bool true, vi 181 0, .ref 229, .none, .ref 230, .ref 231, .ref 232, vi 686 0, vi 222 0, vs "/claim/cut.py" 687]
noncomputable def o234_5 : Obj := oFn (.type "function") (stAt 78) "_law_values" 3 (.none) (vs "law_tc0045_01" 600) (.ref 233) (.none)
noncomputable def o237_5 : Obj := oTup [vs "sign" 692, vs "one" 693, vs "other" 694]
noncomputable def o239_5 : Obj := oFn (.none) (stAt 79) "_law_deed" 0 (.none) (.none) (.none) (.none)
noncomputable def o240_5 : Obj := oFld (.type "code") [vs "_law_deed" 689, vs "_law_deed" 690, vs "/claim/cut.py" 691, vi 242 0, vi 3 0, vi 0 0, vi 0 0, vi 3 0, .ref 235, .bool true, vi 181 0, .ref 236, .none, .ref 237, .ref 238, .ref 239, vi 695 0, vi 242 0, vs "/claim/cut.py" 696]
noncomputable def o241_5 : Obj := oFn (.type "function") (stAt 79) "_law_deed" 3 (.none) (vs "law_tc0045_01" 600) (.ref 240) (.none)
noncomputable def o244_5 : Obj := oTup [vs "place" 701, vs "page" 702, vs "parents" 703, vs "worth" 704, vs "k" 705]
noncomputable def o246_5 : Obj := oFn (.none) (stAt 80) "_law_worth" 0 (.none) (.none) (.none) (.none)
noncomputable def o247_5 : Obj := oFld (.type "code") [vs "_law_worth" 698, vs "_law_worth" 699, vs "/claim/cut.py" 700, vi 258 0, vi 3 0, vi 0 0, vi 0 0, vi 3 0, .ref 242, .bool true, vi 181 0, .ref 243, .none, .ref 244, .ref 245, .ref 246, vi 706 0, vi 258 0, vs "/claim/cut.py" 707]
noncomputable def o248_5 : Obj := oFn (.type "function") (stAt 80) "_law_worth" 3 (.none) (vs "law_tc0045_01" 600) (.ref 247) (.none)
noncomputable def o251_5 : Obj := oFn (.none) (stAt 81) "law" 0 (.none) (.none) (.none) (.none)
noncomputable def o252_5 : Obj := oFld (.type "code") [vs "law" 709, vs "law" 710, vs "/claim/cut.py" 711, vi 264 0, vi 1 0, vi 0 0, vi 0 0, vi 3 0, .ref 249, .bool true, vi 181 0, .ref 250, .none, .none, .none, .ref 251, vi 712 0, vi 264 0, vs "/claim/cut.py" 713]
noncomputable def o253_5 : Obj := oFn (.type "function") (stAt 81) "law" 3 (.none) (vs "law_tc0045_01" 600) (.ref 252) (.none)
noncomputable def hp_5 (P : Params) : Heap := ⟨⟨[boot_o_0 P, boot_o_1 P, boot_o_2 P, o3_5 P, boot_o_4 P, boot_o_5 P, boot_o_6 P, boot_o_7 P, boot_o_8 P, boot_o_9 P, boot_o_10 P, oT0, o12_5, o13_a, o14_a, oT0, oF0, o17_1, oT0, o19_1, o20_1, o21_1, oT0, oF0, o24_1, oT0, o26_1, o27_1, o28_1, oT0, oF0, o31_1, oT0, o33_1, o34_1, o35_1, oT0, oF0, o38_1, oT0, o40_1, o41_1, o42_1, oT0, oF0, o45_1, oT0, o47_1, o48_1, o49_1, oT0, oF0, o52_1, oT0, o54_1, o55_1, o56_1, oT0, oF0, o59_1, oT0, o61_1, o62_1, o63_1, oT0, oF0, o66_1, oT0, o68_1, o69_1, o70_1, oT0, oF0, o73_1, oT0, o75_1, o76_1, o77_1, oT0, oF0, o80_1, oT0, o82_1, o83_1, o84_1, oT0, oF0, o87_1, oT0, o89_1, o90_1, o91_1, oT0, oF0, o94_1, oT0, o96_1, o97_1, o98_1, oT0, o100_2, o101_2 P, oT0, o103_2, o104_2, o105_2, o106_2, oT0, o108_2, oT0, oF0, o111_2, oT0, o113_2, o114_2, o115_2, oT0, oF0, o118_2, oT0, o120_2, o121_2, o122_2, oT0, oF0, o125_2, oT0, o127_2, o128_2, o129_2, oT0, oF0, o132_2, oT0, o134_2, o135_2, o136_2, oT0, oF0, o139_2, oT0, o141_2, o142_2, o143_2, oT0, oF0, o146_2, oT0, o148_2, o149_2, o150_2, oT0, oF0, o153_2, oT0, o155_2, o156_2, o157_2, o158_2, o159_2 P, o160_2, o161_2, o162_2, o163_2, o164_2, o165_4 P, o166_4 P, o167_4 P, oT0, oF0, o170_5, oT0, o172_5, o173_5, o174_5, oT0, oF0, o177_5, oT0, o179_5, o180_5, o181_5, oT0, oF0, o184_5, oT0, o186_5, o187_5, o188_5, oT0, oF0, o191_5, oT0, o193_5, o194_5, o195_5, oT0, oF0, o198_5, o199_5, o200_5, oT0, oF0, o203_5, o204_5, o205_5, oT0, oF0, o208_5, o209_5, o210_5, oT0, oF0, o213_5, o214_5, o215_5, oT0, oF0, o218_5, oT0, o220_5, o221_5, o222_5, oT0, oF0, o225_5, o226_5, o227_5, oT0, oF0, o230_5, oT0, o232_5, o233_5, o234_5, oT0, oF0, o237_5, oT0, o239_5, o240_5, o241_5, oT0, oF0, o244_5, oT0, o246_5, o247_5, o248_5, oT0, oF0, o251_5, o252_5, o253_5]⟩, lifeT⟩
noncomputable def tr_5 (P : Params) : BT := (tn (boot_o_0 P) (tn (boot_o_1 P) (tn (o3_5 P) (tn (boot_o_7 P) (tn (oT0) (tn (o31_1) (tn (o63_1) (tn (o127_2) tz tz) (tn (o191_5) tz tz)) (tn (oT0) (tn (o159_2 P) tz tz) (tn (oT0) tz tz))) (tn (o47_1) (tn (oF0) (tn (o143_2) tz tz) (tn (oF0) tz tz)) (tn (o111_2) (tn (oT0) tz tz) (tn (o239_5) tz tz)))) (tn (oF0) (tn (oT0) (tn (oT0) (tn (o135_2) tz tz) (tn (o199_5) tz tz)) (tn (o103_2) (tn (o167_4 P) tz tz) (tn (oT0) tz tz))) (tn (o55_1) (tn (o87_1) (tn (oT0) tz tz) (tn (o215_5) tz tz)) (tn (oT0) (tn (oF0) tz tz) (tn (o247_5) tz tz))))) (tn (oT0) (tn (o19_1) (tn (o35_1) (tn (oT0) (tn (oF0) tz tz) (tn (o195_5) tz tz)) (tn (oT0) (tn (o163_2) tz tz) (tn (o227_5) tz tz))) (tn (oF0) (tn (o83_1) (tn (oT0) tz tz) (tn (oT0) tz tz)) (tn (o115_2) (tn (o179_5) tz tz) (tn (oF0) tz tz)))) (tn (o27_1) (tn (oT0) (tn (o75_1) (tn (o139_2) tz tz) (tn (o203_5) tz tz)) (tn (oT0) (tn (oT0) tz tz) (tn (oT0) tz tz))) (tn (o59_1) (tn (o91_1) (tn (o155_2) tz tz) (tn (oT0) tz tz)) (tn (oT0) (tn (o187_5) tz tz) (tn (o251_5) tz tz)))))) (tn (boot_o_5 P) (tn (boot_o_9 P) (tn (o17_1) (tn (o33_1) (tn (oF0) (tn (o129_2) tz tz) (tn (o193_5) tz tz)) (tn (o97_1) (tn (o161_2) tz tz) (tn (o225_5) tz tz))) (tn (o49_1) (tn (oT0) (tn (oF0) tz tz) (tn (o209_5) tz tz)) (tn (o113_2) (tn (o177_5) tz tz) (tn (o241_5) tz tz)))) (tn (oT0) (tn (o41_1) (tn (o73_1) (tn (oT0) tz tz) (tn (oT0) tz tz)) (tn (o105_2) (tn (oF0) tz tz) (tn (o233_5) tz tz))) (tn (oT0) (tn (o89_1) (tn (o153_2) tz tz) (tn (oF0) tz tz)) (tn (o121_2) (tn (oT0) tz tz) (tn (oT0) tz tz))))) (tn (o13_a) (tn (o21_1) (tn (oF0) (tn (o69_1) (tn (oT0) tz tz) (tn (oF0) tz tz)) (tn (o101_2 P) (tn (o165_4 P) tz tz) (tn (oF0) tz tz))) (tn (oT0) (tn (oT0) (tn (o149_2) tz tz) (tn (o213_5) tz tz)) (tn (oF0) (tn (o181_5) tz tz) (tn (oT0) tz tz)))) (tn (oT0) (tn (o45_1) (tn (o77_1) (tn (o141_2) tz tz) (tn (o205_5) tz tz)) (tn (oT0) (tn (o173_5) tz tz) (tn (o237_5) tz tz))) (tn (o61_1) (tn (oF0) (tn (o157_2) tz tz) (tn (o221_5) tz tz)) (tn (o125_2) (tn (oT0) tz tz) (tn (o253_5) tz tz))))))) (tn (boot_o_2 P) (tn (boot_o_4 P) (tn (boot_o_8 P) (tn (oF0) (tn (oT0) (tn (oT0) (tn (o128_2) tz tz) (tn (oT0) tz tz)) (tn (o96_1) (tn (o160_2) tz tz) (tn (oF0) tz tz))) (tn (o48_1) (tn (o80_1) (tn (oT0) tz tz) (tn (o208_5) tz tz)) (tn (oT0) (tn (oF0) tz tz) (tn (o240_5) tz tz)))) (tn (o24_1) (tn (o40_1) (tn (oF0) (tn (o136_2) tz tz) (tn (o200_5) tz tz)) (tn (o104_2) (tn (oT0) tz tz) (tn (o232_5) tz tz))) (tn (o56_1) (tn (oT0) (tn (oF0) tz tz) (tn (oT0) tz tz)) (tn (o120_2) (tn (o184_5) tz tz) (tn (o248_5) tz tz))))) (tn (o12_5) (tn (o20_1) (tn (oT0) (tn (o68_1) (tn (o132_2) tz tz) (tn (oT0) tz tz)) (tn (o100_2) (tn (o164_2) tz tz) (tn (oT0) tz tz))) (tn (o52_1) (tn (o84_1) (tn (o148_2) tz tz) (tn (oF0) tz tz)) (tn (oT0) (tn (o180_5) tz tz) (tn (o244_5) tz tz)))) (tn (o28_1) (tn (oF0) (tn (o76_1) (tn (oT0) tz tz) (tn (o204_5) tz tz)) (tn (o108_2) (tn (o172_5) tz tz) (tn (oF0) tz tz))) (tn (oT0) (tn (oT0) (tn (o156_2) tz tz) (tn (o220_5) tz tz)) (tn (oF0) (tn (o188_5) tz tz) (tn (o252_5) tz tz)))))) (tn (boot_o_6 P) (tn (boot_o_10 P) (tn (oT0) (tn (o34_1) (tn (o66_1) (tn (oT0) tz tz) (tn (o194_5) tz tz)) (tn (o98_1) (tn (o162_2) tz tz) (tn (o226_5) tz tz))) (tn (oT0) (tn (o82_1) (tn (o146_2) tz tz) (tn (o210_5) tz tz)) (tn (o114_2) (tn (oT0) tz tz) (tn (oT0) tz tz)))) (tn (o26_1) (tn (o42_1) (tn (oT0) (tn (oF0) tz tz) (tn (oF0) tz tz)) (tn (o106_2) (tn (o170_5) tz tz) (tn (o234_5) tz tz))) (tn (oF0) (tn (o90_1) (tn (oT0) tz tz) (tn (o218_5) tz tz)) (tn (o122_2) (tn (o186_5) tz tz) (tn (oF0) tz tz))))) (tn (o14_a) (tn (oT0) (tn (o38_1) (tn (o70_1) (tn (o134_2) tz tz) (tn (o198_5) tz tz)) (tn (oT0) (tn (o166_4 P) tz tz) (tn (o230_5) tz tz))) (tn (o54_1) (tn (oF0) (tn (o150_2) tz tz) (tn (o214_5) tz tz)) (tn (o118_2) (tn (oT0) tz tz) (tn (o246_5) tz tz)))) (tn (oF0) (tn (oT0) (tn (oT0) (tn (o142_2) tz tz) (tn (oT0) tz tz)) (tn (oF0) (tn (o174_5) tz tz) (tn (oT0) tz tz))) (tn (o62_1) (tn (o94_1) (tn (o158_2) tz tz) (tn (o222_5) tz tz)) (tn (oT0) (tn (oF0) tz tz) tz)))))))
noncomputable def envT : Env := { scope := pwL.main.scope, locals := mainNs, globals := mainNs, cells := [], code := .ref 13, frame := some 14 }
noncomputable def bodyT : List Stmt := behindTheImports pwL
noncomputable def cT : Code := .body bodyT envT
noncomputable def annT : Option Value := some (.ref 6)
noncomputable def stT (tr : Params → BT) (n k : Nat) (w : World) (os : OsState) : SharedT := ⟨tr w.params, n, lifeT, ⟨[]⟩, boot_drawn, k, os⟩
noncomputable def grp (i n : Nat) : List Stmt := (bodyT.drop i).take n
end
section
/-! the run of the top, in pieces -/
theorem preL (w : World) (os : OsState) : topGo treeTable pwL w 11 annT 12 ⟨boot_heap w.params, Array.mk [], boot_drawn, boot_toks, os⟩ (topStub pwL) = some (⟨hp_a w.params, ⟨[]⟩, boot_drawn, 187, os⟩, ⟨denote treeTable cT, cT, posA, [topFrame posF]⟩) := by
  kernel_rfl
theorem blockL (w : World) (os : OsState) : segRun treeTable pwL w 11 annT 1 1 ⟨hp_a w.params, ⟨[]⟩, boot_drawn, 187, os⟩ (blockOf bodyT envT cT posA [topFrame posF]) = some (.next, (stT tr_a 15 187 w os).abs, cT, posB) := by
  try rw [PySem.W.Fast.te14374325043358763698]
  try rw [PySem.W.Fast.te14364793385576792824]
  kernel_rfl
theorem finL (w : World) (os : OsState) : topRun treeTable pwL w 11 annT 2 (stT tr_5 254 715 w os).abs ⟨doneF .next, cT, pos5, [topFrame posF]⟩ = some ⟨hp_5 w.params, ⟨[]⟩, boot_drawn, 715, os⟩ := by
  try rw [PySem.W.Fast.te14082659384304107361]
  try rw [PySem.W.Fast.te14364793385576792824]
  kernel_rfl
set_option maxHeartbeats 0 in
theorem g1L (w : World) (os : OsState) : segRunT treeTable pwL w 11 annT 1 388 (stT tr_a 15 187 w os) (piecesOf (grp 0 15) envT cT posB [topFrame posF]) = some (.next, stT tr_1 99 289 w os, cT, pos1) := by
  try rw [PySem.W.Fast.te10110043849684766642]
  try rw [PySem.W.Fast.te14364793385576792824]
  kernel_rfl
noncomputable def g2P (w : World) : Prop := ∀ os, segRunT treeTable pwL w 11 annT 1 493 (stT tr_1 99 289 w os) (piecesOf (grp 15 1) envT cT pos1 [topFrame posF]) = some (.next, stT tr_2 165 389 w os, cT, pos2)
set_option maxHeartbeats 0 in
theorem g2f (w : World) : g2P (w.withFollow "special-get-raises" false) := by
  intro os
  try rw [PySem.W.Fast.te10110043849684766642]
  try rw [PySem.W.Fast.te14364793385576792824]
  kernel_rfl
set_option maxHeartbeats 0 in
theorem g2t (w : World) : g2P (w.withFollow "special-get-raises" true) := by
  intro os
  try rw [PySem.W.Fast.te10110043849684766642]
  try rw [PySem.W.Fast.te14364793385576792824]
  kernel_rfl
theorem g2L (w : World) : g2P w := byRow2 "special-get-raises" g2f g2t w
set_option maxHeartbeats 0 in
theorem g3L (w : World) (os : OsState) : segRunT treeTable pwL w 11 annT 1 451 (stT tr_2 165 389 w os) (piecesOf (grp 16 50) envT cT pos2 [topFrame posF]) = some (.next, stT tr_3 165 489 w os, cT, pos3) := by
  try rw [PySem.W.Fast.te10110043849684766642]
  try rw [PySem.W.Fast.te14364793385576792824]
  kernel_rfl
noncomputable def g4P (w : World) : Prop := ∀ os, segRunT treeTable pwL w 11 annT 1 979 (stT tr_3 165 489 w os) (piecesOf (grp 66 1) envT cT pos3 [topFrame posF]) = some (.next, stT tr_4 168 586 w os, cT, pos4)
set_option maxHeartbeats 0 in
theorem g4f (w : World) : g4P (w.withFollow "special-get-raises" false) := by
  intro os
  try rw [PySem.W.Fast.te10110043849684766642]
  try rw [PySem.W.Fast.te14364793385576792824]
  kernel_rfl
set_option maxHeartbeats 0 in
theorem g4t (w : World) : g4P (w.withFollow "special-get-raises" true) := by
  intro os
  try rw [PySem.W.Fast.te10110043849684766642]
  try rw [PySem.W.Fast.te14364793385576792824]
  kernel_rfl
theorem g4L (w : World) : g4P w := byRow2 "special-get-raises" g4f g4t w
set_option maxHeartbeats 0 in
theorem g5L (w : World) (os : OsState) : segRunT treeTable pwL w 11 annT 1 433 (stT tr_4 168 586 w os) (piecesOf (grp 67 15) envT cT pos4 [topFrame posF]) = some (.next, stT tr_5 254 715 w os, cT, pos5) := by
  try rw [PySem.W.Fast.te10110043849684766642]
  try rw [PySem.W.Fast.te14364793385576792824]
  kernel_rfl
end
section
/-! the looks at what the top leaves; the run and the looks together -/
noncomputable def sT (w : World) (os : OsState) : Shared := ⟨hp_5 w.params, ⟨[]⟩, boot_drawn, 715, os⟩
theorem lk1 (w : World) : staticsOk (importedModules pwL.main.body) (boot_heap w.params) (hp_5 w.params) = true := by kernel_rfl
theorem lk2 (w : World) : namesBound pwL (hp_5 w.params) = true := by kernel_rfl
theorem lk3 (w : World) (os : OsState) : gensDone (sT w os) = true := by kernel_rfl
theorem lk4 (w : World) : laidKept (boot_heap w.params) (hp_5 w.params) = true := by kernel_rfl
set_option maxHeartbeats 0 in
theorem obsT (w : World) (os : OsState) : obsL (sT w os) = valL w := by kernel_rfl
set_option maxHeartbeats 0 in
theorem seenT (w : World) (os : OsState) : openSeen qv looseN (importedModules pwL.main.body) XtL true (sT w os) = openGood qv looseN := by
  rw [PySem.W.Fast.te4187177175401517315]
  kernel_rfl
theorem grps : bodyT = grp 0 15 ++ (grp 15 1 ++ (grp 16 50 ++ (grp 66 1 ++ (grp 67 15 ++ [])))) := by kernel_rfl
theorem runT (w : World) (os : OsState) : topRun treeTable pwL w 11 annT (12 + (1 + (388 + (493 + (451 + (979 + (433 + 2))))))) ⟨boot_heap w.params, ⟨[]⟩, boot_drawn, boot_toks, os⟩ (topStub pwL) = some ⟨hp_5 w.params, ⟨[]⟩, boot_drawn, 715, os⟩ := by
  refine go_top (preL w os) (piece_block (blockL w os) ?_)
  rw [grps]
  exact piece_app (segRun_of (g1L w os)) (piece_app (segRun_of (g2L w os)) (piece_app (segRun_of (g3L w os)) (piece_app (segRun_of (g4L w os)) (piece_app (segRun_of (g5L w os)) (piece_nil (finL w os))))))
theorem sizeT (w : World) : ((boot_heap w.params).isNs mainGlobals && (Array.size (⟨[]⟩ : Array GenState)) == 0, (boot_heap w.params).objs.size, (boot_heap w.params).nsMap mainGlobals "__annotations__") = (true, 11, annT) := by kernel_rfl
theorem leftL : LeftO pwL qv looseN XtL obsL valL 5600 :=
  LeftO.of_pieces (H₀ := boot_heap) (H₁ := hp_5) (boot_open rfl rfl (fun _ => rfl)) sizeT runT (by decide) fun w => funext fun os => by
    refine Prod.ext ?_ (Prod.ext (seenT w os) (obsT w os))
    exact look_both (look_both (look_both (lk1 w) (lk2 w)) (lk3 w os)) (lk4 w)
end
section
/-! the call -/
noncomputable def fnPos : Stmt → Pos
  | .FunctionDef (pos := p) .. => p
  | _ => default
noncomputable def dL : DefRec := { name := fnName (stAt 81), params := fnArgs (stAt 81), body := fnBody (stAt 81), scope := fnScope (stAt 81), pos := fnPos (stAt 81) }
theorem no_fz (b : Addr) : ¬ fz callerA b := fun h => by
  obtain ⟨out, h1, e, he, _⟩ := h
  cases h1
  cases he
theorem rds_ints {W : Wd} {P : Params} {h : Heap} : ∀ (xs : List Int) (vs : List Value), WellAll P h vs (xs.map .int) → RDs W h.get? vs (xs.map D.int)
  | [], _, x => by cases x; exact .nil
  | i :: xs, _, x => by
    cases x with
    | cons hv hr =>
      cases hv with
      | int i t => exact .cons (.int i t) (rds_ints xs _ hr)
theorem weight_ints : ∀ xs : List Int, xs.length ≤ WData.weightAll (xs.map .int)
  | [] => Nat.le_refl _
  | x :: xs => by
    have := weight_ints xs
    rw [List.map_cons, WData.weightAll, List.length_cons]
    omega
theorem lay_len {xs : List Int} (h : WData.layableAll [.list (xs.map .int)] = true) : xs.length ≤ 1048576 := by
  have := weight_ints xs
  have h1 := List.all_eq_true.mp h _ (.head _)
  unfold WData.layable at h1
  have h2 : WData.weightAll (xs.map .int) ≤ 2 ^ 20 := of_decide_eq_true (Bool.and_eq_true_iff.mp h1).2
  exact Nat.le_trans this (Nat.le_trans h2 (by decide))
theorem post_t (ds : List WData) : WTm.value ([] : WRecords) (.eq .res (.lit (.bool true))) { args := ds, res := some (WData.bool true), after := ds } = some (.bool true) := by
  first | kernel_rfl | rfl | simp [WTm.value]
theorem walkL : WalkO qv looseN (fun _ _ => True) YPL PySem.Challenge.rw_tc0045_01.row.toRowW dL [] (fun f vs => PySem.call f vs) := by
  intro w s₀ s₁ mg mb G Y a o pm cd doc dV kV h1 h2 h3 h4 h5 hgens args vals as hpre hlay hrd hwl hlo
  obtain ⟨mg', y⟩ := Y
  obtain rfl := ns_same G.T.g y.g
  have Gl : Glo (wdL w mg mb s₁.heap G.T.g G.T.b G.T.builtins G.T.nolimit) := glo_of y
  have Gw : WsOk (wdL w mg mb s₁.heap G.T.g G.T.b G.T.builtins G.T.nolimit) := wsok_of y
  obtain ⟨p1, p2⟩ := pre_splitW hpre
  obtain ⟨d, r, rfl, q1, q2⟩ := hasAllW_cons (e := .list .int) (es := []) p1
  obtain rfl := hasAllW_nil q2
  obtain ⟨ds, rfl, q3⟩ := hasW_list q1
  obtain ⟨xs, rfl⟩ := items_int q3
  have F := fn_law_all (n := 0) Gl Gw xs (lay_len hlay)
  obtain ⟨a', o', fd, e1, e2, e3, C⟩ := F.ex
  have ea : a = a' := by
    have : mg "law" = some (.ref a) := h5
    rw [show mg "law" = some (.ref a') from e1] at this
    cases this; rfl
  subst ea
  cases hwl with
  | cons hv hr =>
    cases hr
    cases hv with
    | list ha hvs =>
      have rs := rds_ints (W := wdL w mg mb s₁.heap G.T.g G.T.b G.T.builtins G.T.nolimit) xs _ hvs
      refine C callerA s₁.heap.get? s₁ _ ⟨⟨rfl, by decide, by decide⟩, fun _ _ e => e, fun _ _ e => e, ⟨[], below_caller _⟩, fun b hb => absurd hb (no_fz b)⟩ (RDs.cons (.list _ _ _ _ ha rs.1 rs.2) RDs.nil) _ _ (fun v s' g' X r => ?_)
      cases r with
      | bool b =>
        obtain ⟨h', tk, rfl⟩ := X.same
        exact ⟨.inl ⟨.bool true, .bool true, [], rfl, fun cls => rfl, .bool _, postC_of (X := true) (by rfl) (post_t _) rfl, fun _ => ⟨.nil, fun a h => by cases h⟩⟩, .of_keep (fun b o e => (X.keep b o e).exact (no_fz b)), rfl, .of_eq hgens⟩
theorem looksL : looksOpen PySem.Challenge.rw_tc0045_01.row.prog = true := by
  rw [PySem.W.Fast.te12908688711261696721]
  delta PySem.W.Fast.tw12908688711261696721
  iterate 5 (refine look_both ?_ ?_)
  all_goals decide +kernel
theorem rowL : PySem.Challenge.rw_tc0045_01.row.wellSaid = true := by
  delta OpenRow.wellSaid OpenRow.partSaid
  iterate 15 (refine look_both ?_ ?_)
  · exact looksL
  all_goals decide +kernel
theorem saidL : PySem.Challenge.rw_tc0045_01.wellSaid = true := by
  rw [PySem.W.Fast.te9446332074065402090]
  delta PySem.W.Fast.tw9446332074065402090
  rw [← PySem.W.Fast.te17960256430627541270, ← PySem.W.Fast.te2368527892694137696]
  iterate 18 (refine look_both ?_ ?_)
  · exact rowL
  all_goals decide +kernel
theorem okL : (chainsOk qv && opensWell PySem.Challenge.rw_tc0045_01.row.prog && (frees PySem.Challenge.rw_tc0045_01.row.toRowW && PySem.Challenge.rw_tc0045_01.row.within.isEmpty)) = true := by decide +kernel
theorem module_of (m : Module) (h1 : TablesWhole.wSs TablesWhole.gather m.scope ⟨m.scope, [], [], [], none⟩ m.scope m.body = []) (h2 : TablesWhole.noTwice m.scope = true)
    (h3 : TablesWhole.wSs TablesWhole.holds m.scope ⟨m.scope, [], [], [], none⟩ m.scope m.body = true) : TablesWhole.wModule TablesWhole.holds m = true := by
  show (true && (TablesWhole.noTwice m.scope && (TablesWhole.wSs TablesWhole.holds m.scope ⟨m.scope, [], TablesWhole.wSs TablesWhole.gather m.scope ⟨m.scope, [], [], [], none⟩ m.scope m.body, [], none⟩ m.scope m.body && true))) = true
  rw [h1, h2, h3]; rfl
theorem whole_of (p : Program) (e1 : p.modules = []) (e2 : p.parses = []) (e3 : p.harvested = []) (h : TablesWhole.wModule TablesWhole.holds p.main = true) : p.tablesWhole = true := by
  show TablesWhole.wProgram TablesWhole.holds p = true
  unfold TablesWhole.wProgram
  rw [e1, e2, e3, h]; rfl
theorem told1 : TablesWhole.wSs TablesWhole.gather pwL.main.scope ⟨pwL.main.scope, [], [], [], none⟩ pwL.main.scope pwL.main.body = [] := by decide +kernel
theorem told2 : TablesWhole.noTwice pwL.main.scope = true := by decide +kernel
theorem told3 : TablesWhole.wSs TablesWhole.holds pwL.main.scope ⟨pwL.main.scope, [], [], [], none⟩ pwL.main.scope pwL.main.body = true := by decide +kernel
theorem bareL : PySem.Challenge.rw_tc0045_01.row.prog.bare := ⟨rfl, rfl, rfl, rfl, rfl, whole_of pwL rfl rfl rfl (module_of pwL.main told1 told2 told3)⟩
theorem witL : PySem.Challenge.rw_tc0045_01.row.toRowW.promised := ⟨[.list []], by kernel_rfl, by decide +kernel⟩
theorem open_of (left : LeftO pwL qv looseN XtL obsL valL 5600) : PySem.Challenge.rw_tc0045_01.Holds :=
  holds_law saidL (fun k1 => holds_open (q := qv) (loose := looseN) (Xt := XtL) (XP := fun _ _ => True) (Yf := obsL) (Ya := valL) (YP := YPL) (d := dL) (kwd := []) (N := 5600) left ypl_of ypl_keeps (fun _ _ => trivial) (fun _ _ _ _ _ => trivial) (by rfl) (by rfl) (by rfl) (fun _ _ => recFacts_nil rfl) (by rfl) k1 okL bareL witL walkL)
end
end Mine
theorem PySem.Challenge.cw_tc0045_01_holds : PySem.Challenge.rw_tc0045_01.Holds :=
  Mine.open_of Mine.leftL
