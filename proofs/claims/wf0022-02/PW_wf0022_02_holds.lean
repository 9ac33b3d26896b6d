import PyProof.Rows.All
import Wide.All
import OpenK.AllK
import Wide.FinOn
import KE.KSortTup
import PySem.Challenge.RW_wf0022_02
open PySem PySem.W PyProof.Rows PySem.Calls
set_option Elab.async false
set_option linter.unusedVariables false
set_option linter.unusedSimpArgs false
namespace Py

/-- abstract values -/
inductive PV where
  | none
  | bool (b : Bool)
  | int (i : Int)
  | str (s : Str)
  | list (xs : List PV)
  | tup (xs : List PV)

noncomputable def Kp (h h' : Heap) : Prop := ∀ b o, h.get? b = some o → h'.get? b = some o
theorem Kp.refl (h : Heap) : Kp h h := fun _ _ e => e
theorem Kp.trans {a b c : Heap} (x : Kp a b) (y : Kp b c) : Kp a c := fun _ _ e => y _ _ (x _ _ e)

mutual
noncomputable def Rep (h : Heap) (Z : Addr → Prop) : PV → Value → Prop
  | .none, v => v = .none
  | .bool b, v => v = .bool b
  | .int i, v => ∃ t, v = .int i t
  | .str s, v => ∃ t, v = .str s t
  | .list xs, v => ∃ a vs, v = .ref a ∧ h.PlainList a vs.toArray ∧ ¬ Z a ∧ Reps h Z xs vs
  | .tup xs, v => ∃ a vs, v = .ref a ∧ IsTup h a vs.toArray ∧ ¬ Z a ∧ Reps h Z xs vs
noncomputable def Reps (h : Heap) (Z : Addr → Prop) : List PV → List Value → Prop
  | [], vs => vs = []
  | x :: xs, vs => ∃ v r, vs = v :: r ∧ Rep h Z x v ∧ Reps h Z xs r
end

noncomputable def SeqObj (o : Obj) : Prop := ∃ vs n, o.data = .seq vs n

mutual
theorem Rep.chg {h h' : Heap} {Z Z' : Addr → Prop} (H : ∀ a o, h.get? a = some o → SeqObj o → ¬ Z a → h'.get? a = some o ∧ ¬ Z' a) : ∀ (p : PV) (v : Value), Rep h Z p v → Rep h' Z' p v
  | .none, _, x => by simpa only [Rep] using x
  | .bool _, _, x => by simpa only [Rep] using x
  | .int _, _, x => by simpa only [Rep] using x
  | .str _, _, x => by simpa only [Rep] using x
  | .list xs, v, x => by
    simp only [Rep] at x ⊢
    obtain ⟨a, vs, rfl, ⟨n, e⟩, hz, r⟩ := x
    have q := H a _ e ⟨_, _, rfl⟩ hz
    exact ⟨a, vs, rfl, ⟨n, q.1⟩, q.2, Reps.chg H xs vs r⟩
  | .tup xs, v, x => by
    simp only [Rep] at x ⊢
    obtain ⟨a, vs, rfl, ⟨o, e, hc, n, hd⟩, hz, r⟩ := x
    have q := H a _ e ⟨_, _, hd⟩ hz
    exact ⟨a, vs, rfl, ⟨o, q.1, hc, n, hd⟩, q.2, Reps.chg H xs vs r⟩
theorem Reps.chg {h h' : Heap} {Z Z' : Addr → Prop} (H : ∀ a o, h.get? a = some o → SeqObj o → ¬ Z a → h'.get? a = some o ∧ ¬ Z' a) : ∀ (p : List PV) (v : List Value), Reps h Z p v → Reps h' Z' p v
  | [], _, x => by simpa only [Reps] using x
  | p :: ps, vs, x => by
    simp only [Reps] at x ⊢
    obtain ⟨v, r, rfl, h1, h2⟩ := x
    exact ⟨v, r, rfl, Rep.chg H p v h1, Reps.chg H ps r h2⟩
end

theorem Rep.kp {h h' : Heap} {Z : Addr → Prop} (k : Kp h h') {p : PV} {v : Value} (x : Rep h Z p v) : Rep h' Z p v := Rep.chg (fun a o e _ z => ⟨k a o e, z⟩) p v x
theorem Reps.kp {h h' : Heap} {Z : Addr → Prop} (k : Kp h h') {p : List PV} {v : List Value} (x : Reps h Z p v) : Reps h' Z p v := Reps.chg (fun a o e _ z => ⟨k a o e, z⟩) p v x

theorem Reps.length {h : Heap} {Z : Addr → Prop} : ∀ {ps : List PV} {vs : List Value}, Reps h Z ps vs → vs.length = ps.length
  | [], _, x => by simp only [Reps] at x; subst x; rfl
  | _ :: ps, _, x => by simp only [Reps] at x; obtain ⟨v, r, rfl, _, h2⟩ := x; simp [Reps.length h2]
theorem Reps.get {h : Heap} {Z : Addr → Prop} : ∀ {ps : List PV} {vs : List Value}, Reps h Z ps vs → ∀ (i : Nat) {p : PV}, ps[i]? = some p → ∃ v, vs[i]? = some v ∧ Rep h Z p v
  | [], _, _, i, _, e => by simp at e
  | q :: ps, _, x, 0, p, e => by simp only [Reps] at x; obtain ⟨v, r, rfl, h1, _⟩ := x; simp at e; subst e; exact ⟨v, rfl, h1⟩
  | q :: ps, _, x, i + 1, p, e => by simp only [Reps] at x; obtain ⟨v, r, rfl, _, h2⟩ := x; simp at e; obtain ⟨w, h3, h4⟩ := Reps.get h2 i e; exact ⟨w, by simpa using h3, h4⟩
theorem Reps.append {h : Heap} {Z : Addr → Prop} : ∀ {ps qs : List PV} {vs ws : List Value}, Reps h Z ps vs → Reps h Z qs ws → Reps h Z (ps ++ qs) (vs ++ ws)
  | [], _, _, _, x, y => by simp only [Reps] at x; subst x; simpa using y
  | _ :: ps, _, _, _, x, y => by simp only [Reps] at x; obtain ⟨v, r, rfl, h1, h2⟩ := x; simp only [List.cons_append, Reps]; exact ⟨v, _, rfl, h1, Reps.append h2 y⟩
theorem Reps.one {h : Heap} {Z : Addr → Prop} {p : PV} {v : Value} (x : Rep h Z p v) : Reps h Z [p] [v] := by simp only [Reps]; exact ⟨v, [], rfl, x, rfl⟩
theorem Reps.nil {h : Heap} {Z : Addr → Prop} : Reps h Z [] [] := by simp only [Reps]
theorem Reps.cons {h : Heap} {Z : Addr → Prop} {p : PV} {v : Value} {ps : List PV} {vs : List Value} (x : Rep h Z p v) (y : Reps h Z ps vs) : Reps h Z (p :: ps) (v :: vs) := by simp only [Reps]; exact ⟨v, vs, rfl, x, y⟩
theorem Reps.set {h : Heap} {Z : Addr → Prop} : ∀ {ps : List PV} {vs : List Value} (i : Nat) {p : PV} {v : Value}, Reps h Z ps vs → Rep h Z p v → Reps h Z (ps.set i p) (vs.set i v)
  | [], _, _, _, _, x, _ => by simp only [Reps] at x; subst x; simp [Reps]
  | _ :: ps, _, 0, _, _, x, y => by simp only [Reps] at x; obtain ⟨v, r, rfl, _, h2⟩ := x; exact .cons y h2
  | _ :: ps, _, i + 1, _, _, x, y => by simp only [Reps] at x; obtain ⟨v, r, rfl, h1, h2⟩ := x; exact .cons h1 (Reps.set i h2 y)

/-- a value that holds no address -/
noncomputable def Scal : PV → Prop
  | .list _ => False
  | .tup _ => False
  | _ => True
noncomputable def Scals (ps : List PV) : Prop := ∀ p ∈ ps, Scal p
theorem Rep.scal {h h' : Heap} {Z Z' : Addr → Prop} {p : PV} {v : Value} (sc : Scal p) (x : Rep h Z p v) : Rep h' Z' p v := by
  cases p with
  | list => exact sc.elim
  | tup => exact sc.elim
  | none => simpa only [Rep] using x
  | bool _ => simpa only [Rep] using x
  | int _ => simpa only [Rep] using x
  | str _ => simpa only [Rep] using x
theorem Reps.scal {h h' : Heap} {Z Z' : Addr → Prop} : ∀ {ps : List PV} {vs : List Value}, Scals ps → Reps h Z ps vs → Reps h' Z' ps vs
  | [], _, _, x => by simpa only [Reps] using x
  | p :: ps, _, sc, x => by
    simp only [Reps] at x ⊢
    obtain ⟨v, r, rfl, h1, h2⟩ := x
    exact ⟨v, r, rfl, h1.scal (sc p (by simp)), Reps.scal (fun q hq => sc q (by simp [hq])) h2⟩

/-- a list that may be one of the mutable ones; its items are not -/
noncomputable def RepB (h : Heap) (Z : Addr → Prop) : PV → Value → Prop
  | .list xs, v => ∃ a vs, v = .ref a ∧ h.PlainList a vs.toArray ∧ Reps h Z xs vs
  | p, v => Rep h Z p v
theorem Rep.b {h : Heap} {Z : Addr → Prop} : ∀ {p : PV} {v : Value}, Rep h Z p v → RepB h Z p v
  | .none, _, x => x
  | .bool _, _, x => x
  | .int _, _, x => x
  | .str _, _, x => x
  | .list _, _, x => by simp only [Rep] at x; obtain ⟨a, vs, e, l, _, r⟩ := x; exact ⟨a, vs, e, l, r⟩
  | .tup _, _, x => x
theorem PlainList.kp {h h' : Heap} (k : Kp h h') {a : Addr} {its : Array Value} (x : h.PlainList a its) : h'.PlainList a its := x.at fun o e => k a o e
theorem RepB.kp {h h' : Heap} {Z : Addr → Prop} (k : Kp h h') : ∀ {p : PV} {v : Value}, RepB h Z p v → RepB h' Z p v
  | .none, _, x => Rep.kp (Z := Z) k (p := .none) x
  | .bool b, _, x => Rep.kp (Z := Z) k (p := .bool b) x
  | .int i, _, x => Rep.kp (Z := Z) k (p := .int i) x
  | .str s, _, x => Rep.kp (Z := Z) k (p := .str s) x
  | .list _, _, ⟨a, vs, e, l, r⟩ => ⟨a, vs, e, PlainList.kp k l, r.kp k⟩
  | .tup xs, _, x => Rep.kp k (p := .tup xs) x

inductive RK where | b | f | n

noncomputable def Res (k : RK) (Z : Addr → Prop) (h h' : Heap) (p : PV) (v : Value) : Prop := match k with
  | .b => RepB h' Z p v
  | .f => Rep h' Z p v
  | .n => Rep h' Z p v ∧ ∀ a, v = .ref a → h.get? a = none
theorem Res.toB {k : RK} {Z : Addr → Prop} {h h' : Heap} {p : PV} {v : Value} (x : Res k Z h h' p v) : RepB h' Z p v := by
  cases k with
  | b => exact x
  | f => exact Rep.b x
  | n => exact Rep.b x.1
theorem none_kp {h h' : Heap} (k : Kp h h') {a : Addr} (e : h'.get? a = none) : h.get? a = none := by
  cases q : h.get? a with
  | none => rfl
  | some o => rw [k a o q] at e; cases e
theorem Res.kpL {k : RK} {Z : Addr → Prop} {h₁ h h' : Heap} {p : PV} {v : Value} (q : Kp h₁ h) (x : Res k Z h h' p v) : Res k Z h₁ h' p v := by
  cases k with
  | b => exact x
  | f => exact x
  | n => exact ⟨x.1, fun a e => none_kp q (x.2 a e)⟩

noncomputable def GK (g g' : Array GenState) : Prop := g.size ≤ g'.size ∧ (∀ i, i < g.size → g'[i]? = g[i]?) ∧ (AllBare g → AllBare g')
theorem GK.refl (g : Array GenState) : GK g g := ⟨Nat.le_refl _, fun _ _ => rfl, fun x => x⟩
theorem GK.trans {a b c : Array GenState} (x : GK a b) (y : GK b c) : GK a c :=
  ⟨Nat.le_trans x.1 y.1, fun i hi => (y.2.1 i (Nat.lt_of_lt_of_le hi x.1)).trans (x.2.1 i hi), fun z => y.2.2 (x.2.2 z)⟩

/-- what a pure piece of the run does to the state -/
structure Ext (s s' : Shared) : Prop where
  kp : Kp s.heap s'.heap
  gk : GK s.gens s'.gens
  dr : s'.drawn = s.drawn
  os : s'.os = s.os
theorem Ext.refl (s : Shared) : Ext s s := ⟨.refl _, .refl _, rfl, rfl⟩
theorem Ext.trans {a b c : Shared} (x : Ext a b) (y : Ext b c) : Ext a c := ⟨x.kp.trans y.kp, x.gk.trans y.gk, y.dr.trans x.dr, y.os.trans x.os⟩
theorem Ext.toks (s : Shared) (t : Nat) : Ext s { s with toks := t } := ⟨.refl _, .refl _, rfl, rfl⟩
theorem Ext.heap {s : Shared} {h : Heap} (k : Kp s.heap h) (t : Nat) : Ext s { s with heap := h, toks := t } := ⟨k, .refl _, rfl, rfl⟩
theorem Ext.heap' {s : Shared} {h : Heap} (k : Kp s.heap h) : Ext s { s with heap := h } := ⟨k, .refl _, rfl, rfl⟩
theorem Ext.push (s : Shared) (o : Obj) : Ext s { s with heap := s.heap.push o } := ⟨fun _ _ e => Heap.get?_push_of_some _ e, .refl _, rfl, rfl⟩

/-- what a local name holds -/
inductive LV where
  | unb
  | v (p : PV)
  | own (a : Addr) (xs : List PV)

structure Cx where
  prog : Program
  w : World
  W : Heap → Prop
  env : Env
  vs : List Str
  h₀ : Heap
noncomputable abbrev Cx.M (C : Cx) : Model := model C.prog C.w

structure Cx.Ok (C : Cx) : Prop where
  mono : ∀ h h', C.W h → Kp h h' → C.W h'
  w0 : C.W C.h₀
  lim : ∀ h, C.W h → h.NoLimit
  fk : C.env.scope.kind = .function
  nodup : C.vs.Nodup
  nodbg : ∀ x ∈ C.vs, (x == ("__debug__" : Str)) = false
  loc : ∀ x ∈ C.vs, C.env.kindOf x = some .local ∨ ∃ c, C.env.cells.lookup x = some c ∧ (C.env.kindOf x = some .cell ∨ (C.env.kindOf x = some .free ∧ (x == ("__classdict__" : Str)) = false))
  apart : C.env.cells.Pairwise fun x y => x.2 ≠ y.2
  newL : C.h₀.get? C.env.locals = none
  newC : ∀ x ∈ C.env.cells, C.h₀.get? x.2 = none
  cov : ∀ x ∈ C.env.cells, x.1 ∈ C.vs ∧ C.env.kindOf x.1 ≠ some .local ∧ C.env.cells.lookup x.1 = some x.2

noncomputable def VarAt (env : Env) (h : Heap) (m : Str → Option Value) (x : Str) (v : Value) : Prop :=
  (env.kindOf x = some .local ∧ m x = some v) ∨ (env.kindOf x ≠ some .local ∧ ∃ c, env.cells.lookup x = some c ∧ h.IsCell c (some v))

noncomputable def VarIs (env : Env) (h : Heap) (Z : Addr → Prop) (m : Str → Option Value) (x : Str) : LV → Prop
  | .unb => env.kindOf x ≠ some .local → ∀ c, env.cells.lookup x = some c → ∃ v, h.IsCell c v
  | .v p => ∃ v, VarAt env h m x v ∧ Rep h Z p v
  | .own a xs => VarAt env h m x (.ref a) ∧ Z a ∧ ∃ vs, h.PlainList a vs.toArray ∧ Reps h Z xs vs

noncomputable def Vars (env : Env) (h : Heap) (Z : Addr → Prop) (m : Str → Option Value) : List Str → List LV → Prop
  | [], [] => True
  | x :: xs, l :: ls => VarIs env h Z m x l ∧ Vars env h Z m xs ls
  | _, _ => False

noncomputable def owns : List LV → List Addr
  | [] => []
  | .own a _ :: r => a :: owns r
  | _ :: r => owns r

structure St (C : Cx) (Z : Addr → Prop) (σ : List LV) (s : Shared) : Prop where
  keep : Kp C.h₀ s.heap
  zf : ∀ a, Z a → C.h₀.get? a = none
  zl : ∀ a, Z a → ∃ o, s.heap.get? a = some o ∧ SeqObj o
  nd : (owns σ).Nodup
  vars : ∃ m, s.heap.Ns C.env.locals m ∧ Vars C.env s.heap Z m C.vs σ

/-- the place of a name -/
inductive At : List Str → Nat → Str → Prop
  | here {x : Str} {l : List Str} : At (x :: l) 0 x
  | there {x y : Str} {l : List Str} {n : Nat} : At l n x → At (y :: l) (n + 1) x
theorem At.mem {l : List Str} {n : Nat} {x : Str} (a : At l n x) : x ∈ l := by
  induction a with
  | here => exact .head _
  | there _ ih => exact .tail _ ih

theorem Vars.get {env : Env} {h : Heap} {Z : Addr → Prop} {m : Str → Option Value} : ∀ {xs : List Str} {ls : List LV} {i : Nat} {x : Str} {l : LV}, Vars env h Z m xs ls → At xs i x → ls[i]? = some l → VarIs env h Z m x l := by
  intro xs ls i x l V a e
  induction a generalizing ls with
  | here => cases ls with
    | nil => cases e
    | cons k ls => cases e; exact V.1
  | there _ ih => cases ls with
    | nil => cases e
    | cons k ls => exact ih V.2 e

theorem VarAt.keep {env : Env} {h h' : Heap} {m : Str → Option Value} {x : Str} {v : Value} (k : ∀ c w, h.IsCell c w → h'.IsCell c w) (V : VarAt env h m x v) : VarAt env h' m x v := by
  rcases V with h1 | ⟨h1, c, h2, h3⟩
  · exact .inl h1
  · exact .inr ⟨h1, c, h2, k _ _ h3⟩
/-- the general change of what the names hold -/
theorem VarIs.chg {env : Env} {h h' : Heap} {Z Z' : Addr → Prop} {m : Str → Option Value} {x : Str} (hc : ∀ c w, h.IsCell c w → h'.IsCell c w)
    (H : ∀ a o, h.get? a = some o → SeqObj o → ¬ Z a → h'.get? a = some o ∧ ¬ Z' a) :
    ∀ {l : LV}, (∀ a xs, l = .own a xs → Z' a ∧ ∀ o, h.get? a = some o → h'.get? a = some o) → VarIs env h Z m x l → VarIs env h' Z' m x l
  | .unb, _, V => fun hk c e => let ⟨v, q⟩ := V hk c e; ⟨v, hc _ _ q⟩
  | .v p, _, ⟨v, h1, h2⟩ => ⟨v, h1.keep hc, Rep.chg H p v h2⟩
  | .own a xs, ho, ⟨h1, _, vs, h3, h4⟩ => ⟨h1.keep hc, (ho a xs rfl).1, vs, h3.at (ho a xs rfl).2, Reps.chg H xs vs h4⟩
theorem owns_mem {a : Addr} {xs : List PV} : ∀ {ls : List LV}, .own a xs ∈ ls → a ∈ owns ls
  | .own b _ :: r, h => by
    simp only [List.mem_cons, owns] at h ⊢
    rcases h with h | h
    · cases h; exact .inl rfl
    · exact .inr (owns_mem h)
  | .unb :: r, h => by simp only [List.mem_cons, owns, reduceCtorEq, false_or] at h ⊢; exact owns_mem h
  | .v _ :: r, h => by simp only [List.mem_cons, owns, reduceCtorEq, false_or] at h ⊢; exact owns_mem h
theorem Vars.chg {env : Env} {h h' : Heap} {Z Z' : Addr → Prop} {m : Str → Option Value} (hc : ∀ c w, h.IsCell c w → h'.IsCell c w)
    (H : ∀ a o, h.get? a = some o → SeqObj o → ¬ Z a → h'.get? a = some o ∧ ¬ Z' a) :
    ∀ {xs : List Str} {ls : List LV}, (∀ a ys, .own a ys ∈ ls → Z' a ∧ ∀ o, h.get? a = some o → h'.get? a = some o) → Vars env h Z m xs ls → Vars env h' Z' m xs ls
  | [], [], _, _ => trivial
  | _ :: xs, l :: ls, ho, V => ⟨V.1.chg hc H (fun a ys e => ho a ys (by simp [e])), Vars.chg hc H (fun a ys e => ho a ys (by simp [e])) V.2⟩
theorem Vars.ownZ {env : Env} {h : Heap} {Z : Addr → Prop} {m : Str → Option Value} : ∀ {xs : List Str} {ls : List LV}, Vars env h Z m xs ls → ∀ a ys, .own a ys ∈ ls → Z a
  | [], [], _, _, _, h => by cases h
  | _ :: xs, l :: ls, V, a, ys, h => by
    rcases List.mem_cons.mp h with h | h
    · subst h; exact V.1.2.1
    · exact Vars.ownZ V.2 a ys h
theorem IsCell.kp {h h' : Heap} (k : Kp h h') (c : Addr) (w : Option Value) (x : h.IsCell c w) : h'.IsCell c w := x.keeps k

theorem St.kp {C : Cx} {Z : Addr → Prop} {σ : List LV} {s s' : Shared} (S : St C Z σ s) (k : Kp s.heap s'.heap) : St C Z σ s' := by
  obtain ⟨m, hn, V⟩ := S.vars
  exact ⟨S.keep.trans k, S.zf, fun a z => let ⟨o, e, q⟩ := S.zl a z; ⟨o, k _ _ e, q⟩, S.nd, m, hn.keeps k,
    V.chg (IsCell.kp k) (fun a o e _ z => ⟨k _ _ e, z⟩) fun a ys e => ⟨V.ownZ a ys e, fun o => k a o⟩⟩
theorem St.ext {C : Cx} {Z : Addr → Prop} {σ : List LV} {s s' : Shared} (S : St C Z σ s) (x : Ext s s') : St C Z σ s' := S.kp x.kp

/-- an expression: evaluates, changes nothing old, gives p -/
noncomputable def Ev (C : Cx) (A : Around) (Z : Addr → Prop) (σ : List LV) (e : Expr) (k : RK) (p : PV) : Prop :=
  ∀ (s : Shared) (Q : Value → Shared → Prop) (E : Value → Shared → Prop), St C Z σ s → (∀ v s', Ext s s' → Res k Z s.heap s'.heap p v → Q v s') → wpAny C.M A (eval e C.env) Q E s
/-- a test -/
noncomputable def Tst (C : Cx) (A : Around) (Z : Addr → Prop) (σ : List LV) (e : Expr) (b : Bool) : Prop :=
  ∀ (s : Shared) (Q : Bool → Shared → Prop) (E : Value → Shared → Prop), St C Z σ s → (∀ s', Ext s s' → Q b s') → wpAny C.M A (isTrue e C.env (eval e C.env)) Q E s

theorem Ev.toF {C : Cx} {A : Around} {Z : Addr → Prop} {σ : List LV} {e : Expr} {p : PV} (x : Ev C A Z σ e .n p) : Ev C A Z σ e .f p :=
  fun s Q E S h => x s Q E S fun v s' e' r => h v s' e' r.1
theorem Ev.toFS {C : Cx} {A : Around} {Z : Addr → Prop} {σ : List LV} {e : Expr} {k : RK} {p : PV} (hs : Scal p) (x : Ev C A Z σ e k p) : Ev C A Z σ e .f p :=
  fun s Q E S h => x s Q E S fun v s' e' r => h v s' e' (by
    cases k with
    | b => cases p <;> first | exact r | exact hs.elim
    | f => exact r
    | n => exact r.1)

structure OkA (b : Nat) (A : Around) : Prop where
  h : A.handled = none
  d : A.depth + b < recursionLimit
  u : A.units + 4 * b + 16 < cLine
theorem OkA.in1 {b : Nat} {A : Around} (x : OkA (b + 1) A) : OkA b A.in1 := ⟨x.h, by have := x.d; show A.depth + b < _; omega, by have := x.u; show A.units + 1 + 4 * b + 16 < _; omega⟩
theorem OkA.deeper {b : Nat} {A : Around} {env : Env} (x : OkA (b + 1) A) : OkA b (A.deeper env) := ⟨x.h, by have := x.d; show A.depth + 1 + b < _; omega, by have := x.u; show A.units + 3 + 4 * b + 16 < _; omega⟩
theorem OkA.le {b c : Nat} {A : Around} (x : OkA b A) (h : c ≤ b) : OkA c A := ⟨x.h, by have := x.d; omega, by have := x.u; omega⟩

section
variable {C : Cx} {A : Around} {Z : Addr → Prop} {σ : List LV}

theorem loadVar {E : Value → Shared → Prop} {s : Shared} {x : Str} {v : Value} {m : Str → Option Value} {Q : Value → Shared → Prop} (ok : C.Ok) (hx : x ∈ C.vs) (hn : s.heap.Ns C.env.locals m) (V : VarAt C.env s.heap m x v) (h : Q v s) : wpAny C.M A (loadName C.env x) Q E s := by
  rcases V with ⟨h1, h2⟩ | ⟨h1, c, h2, h3⟩
  · exact wpAny_loadName_local ok.fk h1 hn h2 h
  · rcases ok.loc x hx with q | ⟨c', q1, q2 | ⟨q2, q3⟩⟩
    · exact absurd q h1
    · exact wpAny_loadName_cell ok.fk q2 h2 h3 h
    · exact wpAny_loadName_free ok.fk q2 h2 h3 h q3

theorem ev_name {x : Str} {pos : Pos} {i : Nat} {p : PV} (ok : C.Ok) (hi : At C.vs i x) (hv : σ[i]? = some (.v p)) : Ev C A Z σ (.Name x pos) .f p := by
  intro s Q E S h
  obtain ⟨m, hn, V⟩ := S.vars
  obtain ⟨v, h1, h2⟩ := V.get hi hv
  exact wpAny_Name (loadVar ok hi.mem hn h1 (h v s (.refl s) h2)) (ok.nodbg x hi.mem)
theorem ev_own {x : Str} {pos : Pos} {i : Nat} {a : Addr} {xs : List PV} (ok : C.Ok) (hi : At C.vs i x) (hv : σ[i]? = some (.own a xs)) : Ev C A Z σ (.Name x pos) .b (.list xs) := by
  intro s Q E S h
  obtain ⟨m, hn, V⟩ := S.vars
  obtain ⟨h1, h2, vs, h3, h4⟩ := V.get hi hv
  exact wpAny_Name (loadVar ok hi.mem hn h1 (h _ s (.refl s) ⟨a, vs, rfl, h3, h4⟩)) (ok.nodbg x hi.mem)

theorem ev_int {i : Int} {k : Nat} {pos : Pos} : Ev C A Z σ (.Constant (.int i) k pos) .f (.int i) := fun s _ _ _ h => wpAny_Constant_int (h _ _ (Ext.toks s _) ⟨_, rfl⟩)
theorem ev_str {x : Str} {k : Nat} {pos : Pos} : Ev C A Z σ (.Constant (.str x) k pos) .f (.str x) := fun s _ _ _ h => wpAny_Constant_str (h _ _ (Ext.toks s _) ⟨_, rfl⟩)
theorem ev_bool {b : Bool} {k : Nat} {pos : Pos} : Ev C A Z σ (.Constant (.bool b) k pos) .f (.bool b) := fun s _ _ _ h => wpAny_Constant_bool (h _ _ (Ext.refl s) rfl)
theorem ev_none {k : Nat} {pos : Pos} : Ev C A Z σ (.Constant .none k pos) .f .none := fun s _ _ _ h => wpAny_Constant_none (h _ _ (Ext.refl s) rfl)
end

end Py

namespace Py

noncomputable def Priv (C : Cx) (Z : Addr → Prop) (b : Addr) : Prop := Z b ∨ b = C.env.locals ∨ ∃ x ∈ C.env.cells, x.2 = b

structure Frame (C : Cx) (Z : Addr → Prop) (s : Shared) (Z' : Addr → Prop) (s' : Shared) : Prop where
  kp : ∀ b o, s.heap.get? b = some o → ¬ Priv C Z b → s'.heap.get? b = some o
  zz : ∀ a, Z' a → Z a ∨ s.heap.get? a = none
  gk : GK s.gens s'.gens
  dr : s'.drawn = s.drawn
  os : s'.os = s.os
theorem Frame.ofExt {C : Cx} {Z : Addr → Prop} {s s' : Shared} (x : Ext s s') : Frame C Z s Z s' := ⟨fun b o e _ => x.kp b o e, fun _ z => .inl z, x.gk, x.dr, x.os⟩
theorem Frame.refl {C : Cx} {Z : Addr → Prop} {s : Shared} : Frame C Z s Z s := .ofExt (.refl s)
theorem Frame.trans {C : Cx} {Z Z1 Z2 : Addr → Prop} {s s1 s2 : Shared} (x : Frame C Z s Z1 s1) (y : Frame C Z1 s1 Z2 s2) (live : ∀ a, s1.heap.get? a = none → s.heap.get? a = none) : Frame C Z s Z2 s2 := by
  refine ⟨fun b o e n => ?_, fun a z => ?_, x.gk.trans y.gk, y.dr.trans x.dr, y.os.trans x.os⟩
  · refine y.kp b o (x.kp b o e n) fun q => ?_
    rcases q with q | q
    · rcases x.zz b q with q | q
      · exact n (.inl q)
      · rw [e] at q; cases q
    · exact n (.inr q)
  · rcases y.zz a z with q | q
    · exact x.zz a q
    · exact .inr (live a q)

/-- every object that was there is there (perhaps changed) -/
noncomputable def Lv (s s' : Shared) : Prop := ∀ a, s'.heap.get? a = none → s.heap.get? a = none
theorem Lv.ofKp {s s' : Shared} (k : Kp s.heap s'.heap) : Lv s s' := fun _ e => none_kp k e
theorem Lv.trans {a b c : Shared} (x : Lv a b) (y : Lv b c) : Lv a c := fun q e => x q (y q e)
theorem Lv.same {s s' : Shared} {a : Addr} (hs : Heap.SameBut a s.heap s'.heap) (h : ∃ o, s'.heap.get? a = some o) : Lv s s' := fun b e => by
  by_cases q : b = a
  · subst q; obtain ⟨o, h⟩ := h; rw [h] at e; cases e
  · rw [← hs.2 b q]; exact e

theorem RepB.scal {h h' : Heap} {Z Z' : Addr → Prop} {p : PV} {v : Value} (sc : Scal p) (x : RepB h Z p v) : Rep h' Z' p v := by
  cases p with
  | list => exact sc.elim
  | _ => exact Rep.scal (h := h) (Z := Z) sc x

inductive Fl where
  | next | brk | cont
  | ret (p : PV)
noncomputable def RepN (h₀ h : Heap) (p : PV) (v : Value) : Prop := Rep h (fun a => ∃ o, h₀.get? a = some o) p v
noncomputable def FlIs (C : Cx) (h : Heap) : Fl → Flow → Prop
  | .next, f => f = .next
  | .brk, f => f = .brk
  | .cont, f => f = .cont
  | .ret p, f => ∃ v, f = .ret v ∧ RepN C.h₀ h p v

noncomputable abbrev Post := Fl → (Addr → Prop) → List LV → Prop

noncomputable def W1 (C : Cx) (A : Around) (Z : Addr → Prop) (σ : List LV) (st : Stmt) (P : Post) : Prop :=
  ∀ (s : Shared) (Q : Flow → Shared → Prop) (E : Value → Shared → Prop), St C Z σ s →
    (∀ fl f Z' σ' s', P fl Z' σ' → St C Z' σ' s' → Frame C Z s Z' s' → Lv s s' → FlIs C s'.heap fl f → Q f s') → wpAny C.M A (exec st C.env) Q E s
noncomputable def WS (C : Cx) (A : Around) (Z : Addr → Prop) (σ : List LV) (ss : List Stmt) (P : Post) : Prop :=
  ∀ (s : Shared) (Q : Flow → Shared → Prop) (E : Value → Shared → Prop), St C Z σ s →
    (∀ fl f Z' σ' s', P fl Z' σ' → St C Z' σ' s' → Frame C Z s Z' s' → Lv s s' → FlIs C s'.heap fl f → Q f s') → wpAny C.M A (execs ss C.env) Q E s

section
variable {C : Cx} {A : Around} {Z : Addr → Prop} {σ : List LV} {P : Post}

theorem ws_nil (h : P .next Z σ) : WS C A Z σ [] P := fun s Q E S hQ => wpAny_execs_nil (hQ .next _ Z σ s h S .refl (fun _ e => e) rfl)

theorem ws_cons {st : Stmt} {rest : List Stmt} (h : W1 C A Z σ st fun fl Z' σ' => match fl with | .next => WS C A Z' σ' rest P | fl => P fl Z' σ') : WS C A Z σ (st :: rest) P := by
  intro s Q E S hQ
  refine wpAny_execs_cons (h s _ E S fun fl f Z' σ' s' hp S' F L hf => ?_)
  cases fl with
  | next =>
    simp only [FlIs] at hf; subst hf
    exact hp s' Q E S' fun fl f Z'' σ'' s'' hp' S'' F' L' hf' => hQ fl f Z'' σ'' s'' hp' S'' (F.trans F' L) (L.trans L') hf'
  | brk => simp only [FlIs] at hf; subst hf; exact hQ .brk _ _ _ _ hp S' F L rfl
  | cont => simp only [FlIs] at hf; subst hf; exact hQ .cont _ _ _ _ hp S' F L rfl
  | ret p => obtain ⟨v, rfl, r⟩ := hf; exact hQ (.ret p) _ _ _ _ hp S' F L ⟨v, rfl, r⟩

theorem ws_mono {ss : List Stmt} {P' : Post} (h : WS C A Z σ ss P) (hp : ∀ fl Z' σ', P fl Z' σ' → P' fl Z' σ') : WS C A Z σ ss P' :=
  fun s Q E S hQ => h s Q E S fun fl f Z' σ' s' p => hQ fl f Z' σ' s' (hp fl Z' σ' p)

theorem Vars.len {env : Env} {h : Heap} {m : Str → Option Value} : ∀ {xs : List Str} {ls : List LV}, Vars env h Z m xs ls → xs.length = ls.length
  | [], [], _ => rfl
  | _ :: xs, _ :: ls, V => by simp [Vars.len V.2]

theorem At.get {l : List Str} {n : Nat} {x : Str} (a : At l n x) : l[n]? = some x := by
  induction a with
  | here => rfl
  | there _ ih => exact ih

theorem owns_set : ∀ (ls : List LV) (i : Nat) {l : LV}, (∀ a xs, l ≠ .own a xs) → (owns (ls.set i l)).Sublist (owns ls)
  | [], _, _, _ => by simp [owns]
  | y :: r, 0, l, h => by
    have e : owns (l :: r) = owns r := by cases l with | own a xs => exact absurd rfl (h a xs) | _ => rfl
    rw [List.set_cons_zero, e]
    cases y with
    | own a _ => exact List.sublist_cons_self ..
    | _ => exact List.Sublist.refl _
  | y :: r, i + 1, l, h => by
    rw [List.set_cons_succ]
    cases y with
    | own a _ => exact (owns_set r i h).cons_cons a
    | _ => exact owns_set r i h
theorem mem_owns : ∀ {ls : List LV} {a : Addr}, a ∈ owns ls → ∃ xs, .own a xs ∈ ls
  | .own b ys :: r, a, h => by
    rcases List.mem_cons.mp h with h | h
    · subst h; exact ⟨ys, .head _⟩
    · obtain ⟨xs, q⟩ := mem_owns h; exact ⟨xs, .tail _ q⟩
  | .unb :: r, a, h => let ⟨xs, q⟩ := mem_owns (ls := r) h; ⟨xs, .tail _ q⟩
  | .v _ :: r, a, h => let ⟨xs, q⟩ := mem_owns (ls := r) h; ⟨xs, .tail _ q⟩
theorem owns_set_own : ∀ (ls : List LV) (i : Nat) {a : Addr} {xs : List PV}, a ∉ owns ls → (owns ls).Nodup → (owns (ls.set i (.own a xs))).Nodup
  | [], _, _, _, _, _ => by simp [owns]
  | y :: r, 0, a, xs, h, n => by
    rw [List.set_cons_zero]
    cases y with
    | own b _ =>
      simp only [owns, List.mem_cons, not_or, List.nodup_cons] at h n ⊢
      exact ⟨h.2, n.2⟩
    | _ => exact List.nodup_cons.mpr ⟨h, n⟩
  | y :: r, i + 1, a, xs, h, n => by
    rw [List.set_cons_succ]
    cases y with
    | own b ys =>
      simp only [owns, List.mem_cons, not_or, List.nodup_cons] at h n ⊢
      refine ⟨fun q => ?_, owns_set_own r i h.2 n.2⟩
      obtain ⟨zs, q⟩ := mem_owns q
      rcases List.mem_or_eq_of_mem_set q with q | q
      · exact n.1 (owns_mem q)
      · cases q; exact h.1 rfl
    | _ => exact owns_set_own r i h n
/-- the same address again -/
theorem owns_set_same : ∀ (ls : List LV) (i : Nat) {a : Addr} {xs ys : List PV}, ls[i]? = some (.own a xs) → owns (ls.set i (.own a ys)) = owns ls
  | [], _, _, _, _, h => by simp at h
  | y :: r, 0, a, xs, ys, h => by simp at h; subst h; rfl
  | y :: r, i + 1, a, xs, ys, h => by
    rw [List.set_cons_succ]
    have := owns_set_same r i (ys := ys) (by simpa using h : r[i]? = some (.own a xs))
    cases y with
    | own b _ => simp only [owns, this]
    | _ => simp only [owns, this]

theorem Vars.upd {env : Env} {h h' : Heap} {Z' : Addr → Prop} {m m' : Str → Option Value} : ∀ {xs : List Str} {ls : List LV} {i : Nat} {x : Str} {l : LV}, xs.Nodup → Vars env h Z m xs ls → At xs i x →
    VarIs env h' Z' m' x l → (∀ y k, y ∈ xs → y ≠ x → k ∈ ls → VarIs env h Z m y k → VarIs env h' Z' m' y k) → Vars env h' Z' m' xs (ls.set i l) := by
  intro xs ls i x l nd V a hl H
  induction a generalizing ls with
  | here =>
    rename_i x xs
    cases ls with
    | nil => exact V.elim
    | cons k ls =>
    rw [List.set_cons_zero]
    refine ⟨hl, ?_⟩
    have hx : x ∉ xs := (List.nodup_cons.mp nd).1
    have go : ∀ {ys : List Str} {ks : List LV}, (∀ y ∈ ys, y ∈ xs) → (∀ k ∈ ks, k ∈ ls) → Vars env h Z m ys ks → Vars env h' Z' m' ys ks := by
      intro ys
      induction ys with
      | nil => intro ks _ _ W; cases ks with | nil => trivial | cons => exact W.elim
      | cons y ys ih =>
        intro ks hy hk W
        cases ks with
        | nil => exact W.elim
        | cons k' ks => exact ⟨H y k' (.tail _ (hy y (.head _))) (fun e => hx (e ▸ hy y (.head _))) (.tail _ (hk k' (.head _))) W.1, ih (fun z hz => hy z (.tail _ hz)) (fun z hz => hk z (.tail _ hz)) W.2⟩
    exact go (fun _ h => h) (fun _ h => h) V.2
  | there a ih =>
    rename_i x y xs i
    cases ls with
    | nil => exact V.elim
    | cons k ls =>
    rw [List.set_cons_succ]
    have hyx : y ≠ x := fun e => (List.nodup_cons.mp nd).1 (e ▸ a.mem)
    exact ⟨H y k (.head _) hyx (.head _) V.1, ih (List.nodup_cons.mp nd).2 V.2 hl fun z k' hzm hz hk => H z k' (.tail _ hzm) hz (.tail _ hk)⟩

theorem cell_seq {h : Heap} {c : Addr} {w : Option Value} (x : h.IsCell c w) {o : Obj} (e : h.get? c = some o) (hs : SeqObj o) : False := by
  obtain ⟨o', e', d⟩ := x
  rw [e] at e'; cases e'
  obtain ⟨vs, n, q⟩ := hs
  rw [q] at d; cases d
theorem ns_seq {h : Heap} {c : Addr} {m : Str → Option Value} (x : h.Ns c m) {o : Obj} (e : h.get? c = some o) (hs : SeqObj o) : False := by
  obtain ⟨o', es, ep, e', d, _⟩ := x
  rw [e] at e'; cases e'
  obtain ⟨vs, n, q⟩ := hs
  rw [q] at d; cases d
theorem ns_cell {h : Heap} {c : Addr} {m : Str → Option Value} {w : Option Value} (x : h.Ns c m) (y : h.IsCell c w) : False := by
  obtain ⟨o', es, ep, e', d, _⟩ := x
  obtain ⟨o, e, d'⟩ := y
  rw [e] at e'; cases e'
  rw [d'] at d; cases d

mutual
theorem Rep.but {h h' : Heap} {a : Addr} (hs : Heap.SameBut a h h') (hn : ∀ o, h.get? a = some o → ¬ SeqObj o) : ∀ (p : PV) (v : Value), Rep h Z p v → Rep h' Z p v
  | .none, _, x => by simpa only [Rep] using x
  | .bool _, _, x => by simpa only [Rep] using x
  | .int _, _, x => by simpa only [Rep] using x
  | .str _, _, x => by simpa only [Rep] using x
  | .list xs, v, x => by
    simp only [Rep] at x ⊢
    obtain ⟨b, vs, rfl, ⟨n, e⟩, hz, r⟩ := x
    have hb : b ≠ a := fun q => hn _ (q ▸ e) ⟨_, _, rfl⟩
    exact ⟨b, vs, rfl, ⟨n, (hs.2 b hb).trans e⟩, hz, Reps.but hs hn xs vs r⟩
  | .tup xs, v, x => by
    simp only [Rep] at x ⊢
    obtain ⟨b, vs, rfl, ⟨o, e, hc, n, hd⟩, hz, r⟩ := x
    have hb : b ≠ a := fun q => hn _ (q ▸ e) ⟨_, _, hd⟩
    exact ⟨b, vs, rfl, ⟨o, (hs.2 b hb).trans e, hc, n, hd⟩, hz, Reps.but hs hn xs vs r⟩
theorem Reps.but {h h' : Heap} {a : Addr} (hs : Heap.SameBut a h h') (hn : ∀ o, h.get? a = some o → ¬ SeqObj o) : ∀ (p : List PV) (v : List Value), Reps h Z p v → Reps h' Z p v
  | [], _, x => by simpa only [Reps] using x
  | p :: ps, vs, x => by
    simp only [Reps] at x ⊢
    obtain ⟨v, r, rfl, h1, h2⟩ := x
    exact ⟨v, r, rfl, Rep.but hs hn p v h1, Reps.but hs hn ps r h2⟩
end
theorem RepB.but {h h' : Heap} {a : Addr} (hs : Heap.SameBut a h h') (hn : ∀ o, h.get? a = some o → ¬ SeqObj o) : ∀ {p : PV} {v : Value}, RepB h Z p v → RepB h' Z p v
  | .none, _, x => Rep.but (Z := Z) hs hn .none _ x
  | .bool b, _, x => Rep.but (Z := Z) hs hn (.bool b) _ x
  | .int i, _, x => Rep.but (Z := Z) hs hn (.int i) _ x
  | .str s, _, x => Rep.but (Z := Z) hs hn (.str s) _ x
  | .tup xs, _, x => Rep.but (Z := Z) hs hn (.tup xs) _ x
  | .list _, _, ⟨b, vs, e, ⟨n, l⟩, r⟩ => ⟨b, vs, e, ⟨n, (hs.2 b fun q => hn _ (q ▸ l) ⟨_, _, rfl⟩).trans l⟩, Reps.but hs hn _ _ r⟩

theorem VarIs.but {env : Env} {h h' : Heap} {a : Addr} {m m' : Str → Option Value} {y : Str} (hs : Heap.SameBut a h h') (hn : ∀ o, h.get? a = some o → ¬ SeqObj o)
    (hm : env.kindOf y = some .local → m' y = m y) (hc : ∀ c w, env.kindOf y ≠ some .local → env.cells.lookup y = some c → h.IsCell c w → c ≠ a) : ∀ {l : LV}, VarIs env h Z m y l → VarIs env h' Z m' y l := by
  have va : ∀ v, VarAt env h m y v → VarAt env h' m' y v := by
    intro v V
    rcases V with ⟨h1, h2⟩ | ⟨h1, c, h2, h3⟩
    · exact .inl ⟨h1, (hm h1).trans h2⟩
    · exact .inr ⟨h1, c, h2, h3.sameBut hs (hc c _ h1 h2 h3)⟩
  intro l V
  cases l with
  | unb => exact fun hk c e => let ⟨v, q⟩ := V hk c e; ⟨v, q.sameBut hs (hc c v hk e q)⟩
  | v p => obtain ⟨v, h1, h2⟩ := V; exact ⟨v, va v h1, Rep.but hs hn p v h2⟩
  | own b xs =>
    obtain ⟨h1, hz, vs, ⟨n, h3⟩, h4⟩ := V
    exact ⟨va _ h1, hz, vs, ⟨n, (hs.2 b fun q => hn _ (q ▸ h3) ⟨_, _, rfl⟩).trans h3⟩, Reps.but hs hn xs vs h4⟩

theorem lookup_ne : ∀ {cs : List (Str × Addr)}, (cs.Pairwise fun x y => x.2 ≠ y.2) → ∀ {x y : Str} {c d : Addr}, x ≠ y → cs.lookup x = some c → cs.lookup y = some d → c ≠ d := by
  intro cs hp x y c d hxy h1 h2 e
  subst e
  exact hxy (name_of_addr hp (mem_of_lookup h1) (mem_of_lookup h2))

noncomputable def Only (C : Cx) (x : Str) (s s' : Shared) : Prop := ∀ b o, s.heap.get? b = some o → b ≠ C.env.locals → C.env.cells.lookup x ≠ some b → s'.heap.get? b = some o

/-- a name is bound: the general fact. New list objects may be taken into Z. -/
theorem storeVar {E : Value → Shared → Prop} {s : Shared} {x : Str} {v : Value} {i : Nat} {Q : Unit → Shared → Prop} (ok : C.Ok) (S : St C Z σ s) (hi : At C.vs i x)
    (h : ∀ s' m', s'.heap.Ns C.env.locals m' → Lv s s' → Frame C Z s Z s' → VarAt C.env s'.heap m' x v → (∀ p w, RepB s.heap Z p w → RepB s'.heap Z p w) → (∀ p w, Rep s.heap Z p w → Rep s'.heap Z p w) → (∀ a o, s.heap.get? a = some o → SeqObj o → s'.heap.get? a = some o) →
      Only C x s s' → Kp C.h₀ s'.heap → (∀ y k, y ≠ x → k ∈ σ → y ∈ C.vs → (∃ m, s.heap.Ns C.env.locals m ∧ VarIs C.env s.heap Z m y k) → VarIs C.env s'.heap Z m' y k) → Q () s') :
    wpAny C.M A (storeName C.env x v) Q E s := by
  obtain ⟨m, hn, V⟩ := S.vars
  rcases ok.loc x hi.mem with hl | ⟨c, hc, hk⟩
  · have hp : (C.env.scope.kind == .class || (C.env.scope.kind == .module && C.env.locals != C.env.globals)) = false := by rw [ok.fk]; rfl
    refine wpAny_storeName_local hl hn (fun h' hn' hs => ?_) hp
    have nseq : ∀ o, s.heap.get? C.env.locals = some o → ¬ SeqObj o := fun o e q => ns_seq hn e q
    have there : ∃ o, h'.get? C.env.locals = some o := let ⟨o, _, _, e, _⟩ := hn'; ⟨o, e⟩
    refine h { s with heap := h', toks := s.toks + 1 } _ hn' (Lv.same (s' := { s with heap := h', toks := s.toks + 1 }) hs there) ⟨fun b o e n => (hs.2 b fun q => n (.inr (.inl q))).trans e, fun a z => .inl z, .refl _, rfl, rfl⟩ (.inl ⟨hl, by simp⟩)
      (fun p w => RepB.but hs nseq) (fun p w => Rep.but hs nseq p w) (fun a o e q => (hs.2 a fun z => nseq o (z ▸ e) q).trans e) (fun b o e n _ => (hs.2 b n).trans e) (fun b o e => ?_) fun y k hy _ hyv hV => ?_
    · refine (hs.2 b fun q => ?_).trans (S.keep b o e)
      have := ok.newL; rw [← q, e] at this; cases this
    · obtain ⟨m₁, hn₁, hV⟩ := hV
      have em : ∀ z, m₁ z = m z := fun z => by
        obtain ⟨o, es, ep, e1, d1, _, q1⟩ := hn
        obtain ⟨o', es', ep', e2, d2, _, q2⟩ := hn₁
        rw [e1] at e2; cases e2
        rw [d1] at d2; cases d2
        exact (q2 z).symm.trans (q1 z)
      refine hV.but hs nseq (fun _ => by simp [hy, em]) fun c w _ _ hc q => ?_
      subst q
      exact ns_cell hn hc
  · have hc' : C.env.kindOf x ≠ some .local := by rcases hk with q | ⟨q, _⟩ <;> rw [q] <;> decide
    have hcell : ∃ v₀, s.heap.IsCell c v₀ := by
      have hlen := Vars.len V
      have hlt : i < σ.length := by
        rw [← hlen]
        have := hi.get
        exact (List.getElem?_eq_some_iff.mp this).1
      have hV := V.get hi (List.getElem?_eq_getElem hlt)
      generalize σ[i] = l at hV
      cases l with
      | unb => exact hV hc' c hc
      | v p =>
        obtain ⟨v, q | ⟨_, c', q1, q2⟩, _⟩ := hV
        · exact absurd q.1 hc'
        · rw [hc] at q1; cases q1; exact ⟨_, q2⟩
      | own a xs =>
        obtain ⟨q | ⟨_, c', q1, q2⟩, _⟩ := hV
        · exact absurd q.1 hc'
        · rw [hc] at q1; cases q1; exact ⟨_, q2⟩
    obtain ⟨v₀, hv₀⟩ := hcell
    have free : C.env.kindOf x = some .cell ∨ C.env.kindOf x = some .free := by rcases hk with q | ⟨q, _⟩; exact .inl q; exact .inr q
    have st : wpAny C.M A (storeName C.env x v) Q E s := by
      have go : ∀ h', h'.IsCell c (some v) → Heap.SameBut c s.heap h' → Q () { s with heap := h' } := by
        intro h' hc1 hs
        have nseq : ∀ o, s.heap.get? c = some o → ¬ SeqObj o := fun o e q => cell_seq hv₀ e q
        have there : ∃ o, h'.get? c = some o := let ⟨o, e, _⟩ := hc1; ⟨o, e⟩
        have hcm := mem_of_lookup hc
        have ncl : c ≠ C.env.locals := fun q => ns_cell hn (q ▸ hv₀)
        refine h { s with heap := h' } m (hn.sameBut hs (Ne.symm ncl)) (Lv.same (s' := { s with heap := h' }) hs there) ⟨fun b o e n => (hs.2 b fun q => n (.inr (.inr ⟨_, hcm, q.symm⟩))).trans e, fun a z => .inl z, .refl _, rfl, rfl⟩ (.inr ⟨hc', c, hc, hc1⟩)
          (fun p w => RepB.but hs nseq) (fun p w => Rep.but hs nseq p w) (fun a o e q => (hs.2 a fun z => nseq o (z ▸ e) q).trans e) (fun b o e _ n => (hs.2 b fun q => n (q ▸ hc)).trans e) (fun b o e => ?_) fun y k hy _ hyv hV => ?_
        · refine (hs.2 b fun q => ?_).trans (S.keep b o e)
          have := ok.newC _ hcm; rw [show (x, c).2 = b from q.symm, e] at this; cases this
        · obtain ⟨m₁, hn₁, hV⟩ := hV
          have em : ∀ z, m₁ z = m z := fun z => by
            obtain ⟨o, es, ep, e1, d1, _, q1⟩ := hn
            obtain ⟨o', es', ep', e2, d2, _, q2⟩ := hn₁
            rw [e1] at e2; cases e2
            rw [d1] at d2; cases d2
            exact (q2 z).symm.trans (q1 z)
          refine hV.but hs nseq (fun _ => (em y).symm) fun d w _ hd _ q => ?_
          exact lookup_ne ok.apart hy hd hc q
      rcases free with q | q
      · exact wpAny_storeName_cell ok.fk q hc hv₀ go
      · unfold storeName
        simp only [q, ok.fk]
        exact wpAny_bind (wpAny_cellOf hc (wpAny_cellSet hv₀ go))
    exact st

theorem store_v {E : Value → Shared → Prop} {s : Shared} {x : Str} {v : Value} {i : Nat} {p : PV} {Q : Unit → Shared → Prop} (ok : C.Ok) (S : St C Z σ s) (hi : At C.vs i x) (hr : Rep s.heap Z p v)
    (h : ∀ s', St C Z (σ.set i (.v p)) s' → Frame C Z s Z s' → Lv s s' → Only C x s s' → (∀ q w, Rep s.heap Z q w → Rep s'.heap Z q w) → (∀ q w, RepB s.heap Z q w → RepB s'.heap Z q w) → Q () s') : wpAny C.M A (storeName C.env x v) Q E s := by
  refine storeVar ok S hi fun s' m' hn L F hv hB hR hO hOn hK hV => h s' ⟨hK, S.zf, fun a z => ?_, ?_, m', hn, ?_⟩ F L hOn hR hB
  · obtain ⟨o, e, q⟩ := S.zl a z
    exact ⟨o, hO a o e q, q⟩
  · exact List.Nodup.sublist (owns_set σ i (by intro a xs q; cases q)) S.nd
  · obtain ⟨m, hm, V⟩ := S.vars
    exact Vars.upd (h := s.heap) ok.nodup V hi ⟨v, hv, hR p v hr⟩ fun y k hyv hy hk hVk => hV y k hy hk hyv ⟨m, hm, hVk⟩

noncomputable def ins (a : Addr) (Z : Addr → Prop) : Addr → Prop := fun b => b = a ∨ Z b

theorem St.ins {s₀ s : Shared} {a : Addr} (S : St C Z σ s₀) (k : Kp s₀.heap s.heap) (ha : s₀.heap.get? a = none) (hl : ∃ o, s.heap.get? a = some o ∧ SeqObj o) : St C (ins a Z) σ s := by
  obtain ⟨m, hn, V⟩ := S.vars
  refine ⟨S.keep.trans k, fun b z => ?_, fun b z => ?_, S.nd, m, hn.keeps k, ?_⟩
  · rcases z with rfl | z
    · cases q : C.h₀.get? b with
      | none => rfl
      | some o => rw [S.keep b o q] at ha; cases ha
    · exact S.zf b z
  · rcases z with rfl | z
    · exact hl
    · obtain ⟨o, e, q⟩ := S.zl b z; exact ⟨o, k _ _ e, q⟩
  · refine V.chg (IsCell.kp k) (fun b o e _ z => ⟨k _ _ e, ?_⟩) fun b ys e => ⟨.inr (V.ownZ b ys e), fun o => k b o⟩
    rintro (rfl | q)
    · rw [ha] at e; cases e
    · exact z q

theorem Frame.ins {s₀ s : Shared} {a : Addr} (x : Ext s₀ s) (ha : s₀.heap.get? a = none) : Frame C Z s₀ (ins a Z) s :=
  ⟨fun b o e _ => x.kp b o e, fun b z => z.elim (fun q => .inr (q ▸ ha)) .inl, x.gk, x.dr, x.os⟩

/-- a new list of scalars becomes a name's own -/
theorem store_own {E : Value → Shared → Prop} {s₀ s : Shared} {x : Str} {v : Value} {i : Nat} {xs : List PV} {Q : Unit → Shared → Prop} (ok : C.Ok) (S₀ : St C Z σ s₀) (X : Ext s₀ s) (hi : At C.vs i x) (sc : Scals xs) (hr : Res .n Z s₀.heap s.heap (.list xs) v)
    (h : ∀ a s', St C (ins a Z) (σ.set i (.own a xs)) s' → Frame C Z s₀ (ins a Z) s' → Lv s₀ s' → Q () s') : wpAny C.M A (storeName C.env x v) Q E s := by
  obtain ⟨hr, hf⟩ := hr
  simp only [Rep] at hr
  obtain ⟨a, vs, rfl, hl, hz, rs⟩ := hr
  have ha := hf a rfl
  obtain ⟨n, hg⟩ := hl
  have S := S₀.ins X.kp ha ⟨_, hg, _, _, rfl⟩
  refine storeVar (Z := ins a Z) ok S hi fun s' m' hn L F hv hB hR hO _ hK hV => h a s' ⟨hK, S.zf, fun b z => ?_, ?_, m', hn, ?_⟩ ((Frame.ins X ha).trans F (fun b e => L2 X.kp e)) (Lv.trans (Lv.ofKp X.kp) L)
  · obtain ⟨o, e, q⟩ := S.zl b z
    exact ⟨o, hO b o e q, q⟩
  · refine owns_set_own σ i (fun q => ?_) S.nd
    obtain ⟨ys, q⟩ := mem_owns q
    obtain ⟨m, _, V⟩ := S₀.vars
    obtain ⟨o, e, _⟩ := S₀.zl a (V.ownZ a ys q)
    rw [ha] at e; cases e
  · obtain ⟨m, hm, V⟩ := S.vars
    exact Vars.upd (h := s.heap) ok.nodup V hi ⟨hv, .inl rfl, vs, ⟨n, hO a _ hg ⟨_, _, rfl⟩⟩, Reps.scal sc rs⟩ fun y k hyv hy hk hVk => hV y k hy hk hyv ⟨m, hm, hVk⟩
where
  L2 {s₀ s : Shared} {b : Addr} (k : Kp s₀.heap s.heap) (e : s.heap.get? b = none) : s₀.heap.get? b = none := none_kp k e

/-- the list of an own name is changed in place -/
theorem upd_own {s : Shared} {x : Str} {i : Nat} {a : Addr} {xs xs' : List PV} {vs' : List Value} {h' : Heap} (ok : C.Ok) (S : St C Z σ s) (hi : At C.vs i x) (hx : σ[i]? = some (.own a xs)) (hs : Heap.SameBut a s.heap h') (hl : h'.PlainList a vs'.toArray) (hr : Reps s.heap Z xs' vs') (t : Tok) :
    St C Z (σ.set i (.own a xs')) { s with heap := h', toks := t } ∧ Frame C Z s Z { s with heap := h', toks := t } ∧ Lv s { s with heap := h', toks := t } := by
  obtain ⟨m, hn, V⟩ := S.vars
  obtain ⟨hva, hza, vs, hla, hra⟩ := V.get hi hx
  have hag : ∃ o, s.heap.get? a = some o ∧ SeqObj o := let ⟨n, e⟩ := hla; ⟨_, e, _, _, rfl⟩
  have ncell : ∀ c w, s.heap.IsCell c w → c ≠ a := by
    rintro c w hc rfl
    obtain ⟨o, e, q⟩ := hag
    exact cell_seq hc e q
  have nL : C.env.locals ≠ a := by
    intro q
    obtain ⟨o, e, q'⟩ := hag
    exact ns_seq hn (q ▸ e) q'
  have hc : ∀ c w, s.heap.IsCell c w → h'.IsCell c w := fun c w q => q.sameBut hs (ncell c w q)
  have H : ∀ b o, s.heap.get? b = some o → SeqObj o → ¬ Z b → h'.get? b = some o ∧ ¬ Z b := fun b o e _ z => ⟨(hs.2 b fun q => z (q ▸ hza)).trans e, z⟩
  have there : ∃ o, h'.get? a = some o := let ⟨n, e⟩ := hl; ⟨_, e⟩
  refine ⟨⟨fun b o e => (hs.2 b fun q => ?_).trans (S.keep b o e), S.zf, fun b z => ?_, ?_, m, hn.sameBut hs nL, ?_⟩, ⟨fun b o e n => (hs.2 b fun q => n (.inl (q ▸ hza))).trans e, fun _ z => .inl z, .refl _, rfl, rfl⟩, Lv.same (s' := { s with heap := h', toks := t }) hs there⟩
  · have := S.zf a hza; rw [← q, e] at this; cases this
  · by_cases q : b = a
    · subst q; obtain ⟨n, e⟩ := hl; exact ⟨_, e, _, _, rfl⟩
    · obtain ⟨o, e, q'⟩ := S.zl b z; exact ⟨o, (hs.2 b q).trans e, q'⟩
  · rw [owns_set_same σ i hx]; exact S.nd
  · have key : ∀ {ys : List Str} {ks : List LV} {j : Nat}, (owns ks).Nodup → Vars C.env s.heap Z m ys ks → At ys j x → ks[j]? = some (.own a xs) → Vars C.env h' Z m ys (ks.set j (.own a xs')) := by
      have rest : ∀ {ys : List Str} {ks : List LV}, a ∉ owns ks → Vars C.env s.heap Z m ys ks → Vars C.env h' Z m ys ks := by
        intro ys ks hno W
        exact W.chg hc H fun b zs hb => ⟨W.ownZ b zs hb, fun o e => (hs.2 b fun q => hno (q ▸ owns_mem hb)).trans e⟩
      intro ys
      induction ys with
      | nil => intro ks j _ _ ha; cases ha
      | cons y ys ih =>
        intro ks j nd W ha e
        cases ks with
        | nil => exact W.elim
        | cons k ks =>
          cases ha with
          | here =>
            simp at e; subst e
            rw [List.set_cons_zero]
            have nd' := List.nodup_cons.mp nd
            exact ⟨⟨hva.keep hc, hza, vs', hl, Reps.chg H _ _ hr⟩, rest nd'.1 W.2⟩
          | @there _ _ _ j' ha =>
            rw [List.set_cons_succ]
            have e' : ks[j']? = some (LV.own a xs) := by simpa using e
            have hin : a ∈ owns ks := owns_mem (List.mem_of_getElem? e')
            have hk : ∀ b zs, k = .own b zs → b ≠ a := by
              rintro b zs rfl rfl
              exact (List.nodup_cons.mp nd).1 hin
            refine ⟨W.1.chg hc H fun b zs hb => ⟨by subst hb; exact W.1.2.1, fun o e => (hs.2 b (hk b zs hb)).trans e⟩, ih ?_ W.2 ha e'⟩
            cases k with
            | own b zs => exact (List.nodup_cons.mp nd).2
            | _ => exact nd
    exact key S.nd V hi hx

-- statements
theorem w1_assign {x : Str} {px pos : Pos} {e : Expr} {i : Nat} {p : PV} (ok : C.Ok) (hi : At C.vs i x) (he : Ev C A Z σ e .f p) (h : P .next Z (σ.set i (.v p)))
    (hs : swapsWith e (some (.Name x px)) pos.line C.env = pure false := by rfl) : W1 C A Z σ (.Assign [.Name x px] e pos) P := by
  intro s Q E S hQ
  refine wpAny_Assign_Name (he s _ E S fun v s1 X r => ?_) hs
  exact store_v ok (S.ext X) hi r fun s' S' F L _ _ _ => hQ .next _ _ _ s' h S' ((Frame.ofExt X).trans F fun a e => none_kp X.kp e) (Lv.trans (Lv.ofKp X.kp) L) rfl

theorem w1_assign_own {x : Str} {px pos : Pos} {e : Expr} {i : Nat} {xs : List PV} (ok : C.Ok) (hi : At C.vs i x) (he : Ev C A Z σ e .n (.list xs)) (sc : Scals xs) (h : ∀ a, P .next (ins a Z) (σ.set i (.own a xs)))
    (hs : swapsWith e (some (.Name x px)) pos.line C.env = pure false := by rfl) : W1 C A Z σ (.Assign [.Name x px] e pos) P := by
  intro s Q E S hQ
  refine wpAny_Assign_Name (he s _ E S fun v s1 X r => ?_) hs
  exact store_own ok S X hi sc r fun a s' S' F L => hQ .next _ _ _ s' (h a) S' F L rfl

theorem w1_ret {pos : Pos} {e : Expr} {k : RK} {p : PV} (sc : Scal p) (he : Ev C A Z σ e k p) (h : P (.ret p) Z σ) : W1 C A Z σ (.Return (some e) pos) P := by
  intro s Q E S hQ
  refine wpAny_Return_some (he s _ E S fun v s1 X r => ?_)
  refine hQ (.ret p) _ _ _ s1 h (S.ext X) (.ofExt X) (Lv.ofKp X.kp) ⟨v, rfl, ?_⟩
  exact RepB.scal sc r.toB

theorem w1_ret_n {pos : Pos} {e : Expr} {xs : List PV} (sc : Scals xs) (he : Ev C A Z σ e .n (.list xs)) (h : P (.ret (.list xs)) Z σ) : W1 C A Z σ (.Return (some e) pos) P := by
  intro s Q E S hQ
  refine wpAny_Return_some (he s _ E S fun v s1 X r => ?_)
  refine hQ (.ret (.list xs)) _ _ _ s1 h (S.ext X) (.ofExt X) (Lv.ofKp X.kp) ⟨v, rfl, ?_⟩
  obtain ⟨r, hf⟩ := r
  simp only [Rep] at r
  obtain ⟨a, vs, rfl, hl, _, rs⟩ := r
  unfold RepN
  simp only [Rep]
  refine ⟨a, vs, rfl, hl, ?_, Reps.scal sc rs⟩
  rintro ⟨o, e⟩
  have := hf a rfl
  rw [S.keep a o e] at this; cases this

theorem w1_ret_own {x : Str} {px pos : Pos} {i : Nat} {a : Addr} {xs : List PV} (ok : C.Ok) (hi : At C.vs i x) (hx : σ[i]? = some (.own a xs)) (sc : Scals xs) (h : P (.ret (.list xs)) Z σ) : W1 C A Z σ (.Return (some (.Name x px)) pos) P := by
  intro s Q E S hQ
  obtain ⟨m, hn, V⟩ := S.vars
  obtain ⟨hva, hza, vs, hla, hra⟩ := V.get hi hx
  refine wpAny_Return_some (wpAny_Name (loadVar ok hi.mem hn hva ?_) (ok.nodbg x hi.mem))
  refine hQ (.ret (.list xs)) _ _ _ s h S .refl (fun _ e => e) ⟨_, rfl, ?_⟩
  unfold RepN
  simp only [Rep]
  refine ⟨a, vs, rfl, hla, ?_, Reps.scal sc hra⟩
  rintro ⟨o, e⟩
  rw [S.zf a hza] at e; cases e

theorem w1_if {test : Expr} {body orelse : List Stmt} {pos : Pos} {b : Bool} (ht : Tst C A Z σ test b) (h : if b then WS C A Z σ body P else WS C A Z σ orelse P) : W1 C A Z σ (.If test body orelse pos) P := by
  intro s Q E S hQ
  refine wpAny_If (ht s _ E S fun s1 X => ?_)
  have k : ∀ fl f Z' σ' s', P fl Z' σ' → St C Z' σ' s' → Frame C Z s1 Z' s' → Lv s1 s' → FlIs C s'.heap fl f → Q f s' :=
    fun fl f Z' σ' s' p S' F L hf => hQ fl f Z' σ' s' p S' ((Frame.ofExt X).trans F fun a e => none_kp X.kp e) (Lv.trans (Lv.ofKp X.kp) L) hf
  cases b with
  | true => rw [if_pos rfl] at h ⊢; exact h s1 Q E (S.ext X) k
  | false => rw [if_neg Bool.false_ne_true] at h ⊢; exact h s1 Q E (S.ext X) k

theorem w1_break {pos : Pos} (h : P .brk Z σ) : W1 C A Z σ (.Break pos) P := fun s _ _ S hQ => wpAny_Break (hQ .brk _ _ _ s h S .refl (fun _ e => e) rfl)

theorem At.len {l : List Str} {n : Nat} {x : Str} (a : At l n x) : n < l.length := (List.getElem?_eq_some_iff.mp a.get).1

theorem w1_append {x : Str} {px apos cpos pos : Pos} {e : Expr} {i : Nat} {a : Addr} {xs : List PV} {p : PV} (ok : C.Ok) (hi : At C.vs i x) (hx : σ[i]? = some (.own a xs)) (he : Ev C A Z σ e .f p) (h : P .next Z (σ.set i (.own a (xs ++ [p]))))
    (hsz : xs.length ≤ sizeLine) (hline : (apos.endLine == cpos.line) = true := by rfl) (htrees : ∀ env, backTo cpos (starEach [e] env) = [(false, eval e env)] := by intro _; rfl) (hi' : interactive C.env = false := by rfl)
    (hsw : swapsWith (.Call (.Attribute (.Name x px) (Str.ofString "append") apos) [e] [] cpos) none pos.line C.env = pure false := by rfl) :
    W1 C A Z σ (.Expr (.Call (.Attribute (.Name x px) (Str.ofString "append") apos) [e] [] cpos) pos) P := by
  intro s Q E S hQ
  refine wpAny_Expr (wpAny_Call_append (by rfl) (by rw [htrees]; rfl) hline (htrees _) ?_) hi' hsw
  obtain ⟨m, hn, V⟩ := S.vars
  obtain ⟨hva, hza, vs, hla, hra⟩ := V.get hi hx
  refine wpAny_Name (loadVar ok hi.mem hn hva ⟨a, vs.toArray, rfl, (let ⟨n, e⟩ := hla; ⟨_, n, e, rfl, rfl, rfl⟩), he s _ _ S fun v s1 X r => ?_⟩) (ok.nodbg x hi.mem)
  have S1 := S.ext X
  obtain ⟨m1, hn1, V1⟩ := S1.vars
  obtain ⟨_, _, vs1, hla1, hra1⟩ := V1.get hi hx
  refine wpAny_list_append_plain hla1 (fun h' hl' hs' => ?_) (by rw [List.size_toArray, hra1.length]; exact hsz)
  have := upd_own (vs' := vs1 ++ [v]) ok S1 hi hx hs' (by simpa using hl') (hra1.append (.one r)) s1.toks
  exact hQ .next _ _ _ _ h this.1 ((Frame.ofExt X).trans this.2.1 fun a e => none_kp X.kp e) (Lv.trans (Lv.ofKp X.kp) this.2.2) rfl
end
end Py

namespace Py

structure Here (C : Cx) (b : Nat) (A : Around) (Z : Addr → Prop) (s : Shared) : Prop where
  a : OkA b A
  w : C.W s.heap
  lim : s.heap.NoLimit
  zl : ∀ a, Z a → ∃ o, s.heap.get? a = some o
theorem St.here {C : Cx} {b : Nat} {A : Around} {Z : Addr → Prop} {σ : List LV} {s : Shared} (ok : C.Ok) (hA : OkA b A) (S : St C Z σ s) : Here C b A Z s :=
  have w := ok.mono _ _ ok.w0 S.keep
  ⟨hA, w, ok.lim _ w, fun a z => let ⟨o, e, _⟩ := S.zl a z; ⟨o, e⟩⟩

/-- an operation on one value, on two -/
noncomputable def Op1 (C : Cx) (b : Nat) (f : Value → Sem Value) (p : PV) (k : RK) (r : PV) : Prop :=
  ∀ (A : Around) (Z : Addr → Prop) (s : Shared) (Q : Value → Shared → Prop) (E : Value → Shared → Prop) (u : Value), Here C b A Z s → RepB s.heap Z p u →
    (∀ x s', Ext s s' → Res k Z s.heap s'.heap r x → Q x s') → wpAny C.M A (f u) Q E s
noncomputable def Op2 (C : Cx) (b : Nat) (f : Value → Value → Sem Value) (p q : PV) (k : RK) (r : PV) : Prop :=
  ∀ (A : Around) (Z : Addr → Prop) (s : Shared) (Q : Value → Shared → Prop) (E : Value → Shared → Prop) (u v : Value), Here C b A Z s → RepB s.heap Z p u → RepB s.heap Z q v →
    (∀ x s', Ext s s' → Res k Z s.heap s'.heap r x → Q x s') → wpAny C.M A (f u v) Q E s
noncomputable def Tr (C : Cx) (b0 : Nat) (p : PV) (b : Bool) : Prop :=
  ∀ (A : Around) (Z : Addr → Prop) (s : Shared) (Q : Bool → Shared → Prop) (E : Value → Shared → Prop) (u : Value), Here C b0 A Z s → RepB s.heap Z p u → (∀ s', Ext s s' → Q b s') → wpAny C.M A (truthy u) Q E s

section
variable {C : Cx} {A : Around} {Z : Addr → Prop} {σ : List LV} {k0 : Nat}

theorem ev_bin {l r : Expr} {op : Operator} {pos : Pos} {k1 k2 k : RK} {p q x : PV} (ok : C.Ok) {n : Nat} (hA : OkA n A) (h1 : Ev C A Z σ l k1 p) (h2 : Ev C A Z σ r k2 q) (h : Op2 C n (binaryOp op) p q k x) : Ev C A Z σ (.BinOp l op r pos) k x := by
  intro s Q E S hQ
  refine wpAny_BinOp (h1 s _ E S fun u s1 X1 r1 => h2 s1 _ E (S.ext X1) fun v s2 X2 r2 => ?_)
  exact h A Z s2 _ E u v (((S.ext X1).ext X2).here ok hA) (r1.toB.kp X2.kp) r2.toB fun x s3 X3 r3 => hQ x s3 ((X1.trans X2).trans X3) (r3.kpL (X1.trans X2).kp)

theorem ev_cmp {l r : Expr} {op : CmpOp} {pos : Pos} {k1 k2 k : RK} {p q x : PV} (ok : C.Ok) {n : Nat} (hA : OkA n A) (h1 : Ev C A Z σ l k1 p) (h2 : Ev C A Z σ r k2 q) (h : Op2 C n (compareOp op) p q k x) (hm : behindInMarks op r = false := by with_unfolding_all rfl) : Ev C A Z σ (.Compare l [op] [r] pos) k x := by
  intro s Q E S hQ
  refine wpAny_Compare1 (h1 s _ E S fun u s1 X1 r1 => h2 s1 _ E (S.ext X1) fun v s2 X2 r2 => ?_) hm
  exact h A Z s2 _ E u v (((S.ext X1).ext X2).here ok hA) (r1.toB.kp X2.kp) r2.toB fun x s3 X3 r3 => hQ x s3 ((X1.trans X2).trans X3) (r3.kpL (X1.trans X2).kp)

theorem tst_cmp {l r : Expr} {op : CmpOp} {pos : Pos} {k1 k2 : RK} {p q : PV} {b : Bool} (ok : C.Ok) {n : Nat} (hA : OkA n A) (h1 : Ev C A Z σ l k1 p) (h2 : Ev C A Z σ r k2 q) (h : Op2 C n (compareOp op) p q .f (.bool b)) (hm : behindInMarks op r = false := by with_unfolding_all rfl) : Tst C A Z σ (.Compare l [op] [r] pos) b := by
  intro s Q E S hQ
  refine wpAny_isTrue_Compare1 (h1 s _ E S fun u s1 X1 r1 => h2 s1 _ E (S.ext X1) fun v s2 X2 r2 => ?_) hm
  refine h A Z s2 _ E u v (((S.ext X1).ext X2).here ok hA) (r1.toB.kp X2.kp) r2.toB fun x s3 X3 r3 => ?_
  have r3' : x = .bool b := r3
  subst r3'
  exact wpAny_truthy_bool (hQ s3 ((X1.trans X2).trans X3))

theorem tst_val {e : Expr} {k : RK} {p : PV} {b : Bool} (ok : C.Ok) {n : Nat} (hA : OkA n A) (h : Ev C A Z σ e k p) (ht : Tr C n p b) (he : ∀ whole, isTrue e C.env whole = (do let v ← whole; standAt e.pos; holding [v] (truthy v)) := by intro _; rfl) : Tst C A Z σ e b := by
  intro s Q E S hQ
  exact wpAny_isTrue_value (h s _ E S fun v s1 X r => ht A Z s1 Q E v ((S.ext X).here ok hA) r.toB fun s2 X2 => hQ s2 (X.trans X2)) (he _)

theorem tst_not {e : Expr} {pos : Pos} {b : Bool} (h : Tst C A Z σ e b) : Tst C A Z σ (.UnaryOp .Not e pos) (!b) :=
  fun s Q E S hQ => wpAny_isTrue_Not (h s _ E S fun s1 X => hQ s1 X)

theorem tst_and {e f : Expr} {pos : Pos} {b c : Bool} (h1 : Tst C A Z σ e b) (h2 : b = true → Tst C A Z σ f c) (hb : b = false → c = false) : Tst C A Z σ (.BoolOp .And [e, f] pos) c := by
  intro s Q E S hQ
  refine wpAny_isTrue_BoolOp (wpAny_allTrue_And_cons (h1 s _ E S fun s1 X => ?_))
  cases b with
  | false => have := hb rfl; subst this; exact hQ s1 X
  | true =>
    refine wpAny_allTrue_And_cons (h2 rfl s1 _ E (S.ext X) fun s2 X2 => ?_)
    cases c with
    | false => exact hQ s2 (X.trans X2)
    | true => exact wpAny_allTrue_And_nil (hQ s2 (X.trans X2))
theorem tst_or {e f : Expr} {pos : Pos} {b c : Bool} (h1 : Tst C A Z σ e b) (h2 : b = false → Tst C A Z σ f c) (hb : b = true → c = true) : Tst C A Z σ (.BoolOp .Or [e, f] pos) c := by
  intro s Q E S hQ
  refine wpAny_isTrue_BoolOp (wpAny_allTrue_Or_cons (h1 s _ E S fun s1 X => ?_))
  cases b with
  | true => have := hb rfl; subst this; exact hQ s1 X
  | false =>
    refine wpAny_allTrue_Or_cons (h2 rfl s1 _ E (S.ext X) fun s2 X2 => ?_)
    cases c with
    | true => exact hQ s2 (X.trans X2)
    | false => exact wpAny_allTrue_Or_nil (hQ s2 (X.trans X2))

theorem ev_ifexp {t e f : Expr} {pos : Pos} {b : Bool} {k : RK} {p : PV} (ht : Tst C A Z σ t b) (h : if b then Ev C A Z σ e k p else Ev C A Z σ f k p) : Ev C A Z σ (.IfExp t e f pos) k p := by
  intro s Q E S hQ
  refine wpAny_IfExp (ht s _ E S fun s1 X => ?_)
  cases b with
  | true => exact h s1 Q E (S.ext X) fun v s2 X2 r => hQ v s2 (X.trans X2) (r.kpL X.kp)
  | false => exact h s1 Q E (S.ext X) fun v s2 X2 r => hQ v s2 (X.trans X2) (r.kpL X.kp)

theorem ev_neg {e : Expr} {pos : Pos} {k : RK} {i : Int} (h : Ev C A Z σ e k (.int i)) : Ev C A Z σ (.UnaryOp .USub e pos) .f (.int (-i)) := by
  intro s Q E S hQ
  refine wpAny_UnaryOp (h s _ E S fun v s1 X r => ?_)
  obtain ⟨t, rfl⟩ := r.toB
  exact P.neg_int (hQ _ _ (X.trans (Ext.toks _ _)) ⟨_, rfl⟩)

theorem size_none (h : Heap) : h.get? h.objs.size = none := by
  cases q : h.get? h.objs.size with
  | none => rfl
  | some o => exact absurd (Heap.lt_size q) (Nat.lt_irrefl _)
theorem res_list {s : Shared} {xs : List PV} {vs : List Value} (zl : ∀ a, Z a → ∃ o, s.heap.get? a = some o) (r : Reps s.heap Z xs vs) : Res .n Z s.heap (s.heap.push { cls := .type "list", data := .seq vs.toArray }) (.list xs) (.ref s.heap.objs.size) := by
  refine ⟨?_, fun a e => by cases e; exact size_none _⟩
  simp only [Rep]
  refine ⟨_, vs, rfl, ⟨0, Heap.get?_push_size _ rfl⟩, fun z => ?_, r.kp fun b o e => Heap.get?_push_of_some _ e⟩
  obtain ⟨o, e⟩ := zl _ z
  rw [size_none] at e; cases e
theorem res_tup {s : Shared} {xs : List PV} {vs : List Value} (zl : ∀ a, Z a → ∃ o, s.heap.get? a = some o) (r : Reps s.heap Z xs vs) : Res .n Z s.heap (s.heap.push { cls := .type "tuple", data := .seq vs.toArray }) (.tup xs) (.ref s.heap.objs.size) := by
  refine ⟨?_, fun a e => by cases e; exact size_none _⟩
  simp only [Rep]
  refine ⟨_, vs, rfl, ⟨_, Heap.get?_push_size _ rfl, rfl, 0, rfl⟩, fun z => ?_, r.kp fun b o e => Heap.get?_push_of_some _ e⟩
  obtain ⟨o, e⟩ := zl _ z
  rw [size_none] at e; cases e

-- ints
theorem op_add {a b : Int} : Op2 C k0 (binaryOp .Add) (.int a) (.int b) .f (.int (a + b)) := by
  rintro A Z s Q E u v H ⟨t, rfl⟩ ⟨t', rfl⟩ hQ
  exact P.add_int (hQ _ _ (Ext.toks _ _) ⟨_, rfl⟩)
theorem op_sub {a b : Int} : Op2 C k0 (binaryOp .Sub) (.int a) (.int b) .f (.int (a - b)) := by
  rintro A Z s Q E u v H ⟨t, rfl⟩ ⟨t', rfl⟩ hQ
  exact P.sub_int (hQ _ _ (Ext.toks _ _) ⟨_, rfl⟩)
theorem op_mul {a b : Int} (h : IntMulOk a b) : Op2 C k0 (binaryOp .Mult) (.int a) (.int b) .f (.int (a * b)) := by
  rintro A Z s Q E u v H ⟨t, rfl⟩ ⟨t', rfl⟩ hQ
  exact P.mul_int (hQ _ _ (Ext.toks _ _) ⟨_, rfl⟩) h
theorem op_mod {a b : Int} (h : 0 < b) : Op2 C k0 (binaryOp .Mod) (.int a) (.int b) .f (.int (a % b)) := by
  rintro A Z s Q E u v H ⟨t, rfl⟩ ⟨t', rfl⟩ hQ
  refine AutoIntOps.mod_1 (by simp; omega) ?_
  exact hQ _ _ (Ext.toks _ _) ⟨_, by rw [Int.fmod_eq_emod_of_nonneg _ (by omega)]⟩
theorem op_div {a b : Int} (h : 0 < b) (hs : b < 2 ^ 30) : Op2 C k0 (binaryOp .FloorDiv) (.int a) (.int b) .f (.int (a / b)) := by
  rintro A Z s Q E u v H ⟨t, rfl⟩ ⟨t', rfl⟩ hQ
  refine floordiv_int (by omega) (hQ _ _ (Ext.toks _ _) ⟨_, by rw [Int.fdiv_eq_ediv_of_nonneg _ (by omega)]⟩) (.inl (PyProof.noPylong_small (by omega)))
theorem op_and {a b : Int} : Op2 C k0 (binaryOp .BitAnd) (.int a) (.int b) .f (.int (Builtin.bitAnd a b)) := by
  rintro A Z s Q E u v H ⟨t, rfl⟩ ⟨t', rfl⟩ hQ
  exact and_int (hQ _ _ (Ext.toks _ _) ⟨_, rfl⟩)
theorem op_ixor {a b : Int} : Op2 C k0 (inplaceOp .BitXor) (.int a) (.int b) .f (.int (Builtin.bitXor a b)) := by
  rintro A Z s Q E u v H ⟨t, rfl⟩ ⟨t', rfl⟩ hQ
  exact ixor_int (hQ _ _ (Ext.toks _ _) ⟨_, rfl⟩)
theorem op_iadd {a b : Int} : Op2 C k0 (inplaceOp .Add) (.int a) (.int b) .f (.int (a + b)) := by
  rintro A Z s Q E u v H ⟨t, rfl⟩ ⟨t', rfl⟩ hQ
  exact P.iadd_int (hQ _ _ (Ext.toks _ _) ⟨_, rfl⟩)
theorem op_isub {a b : Int} : Op2 C k0 (inplaceOp .Sub) (.int a) (.int b) .f (.int (a - b)) := by
  rintro A Z s Q E u v H ⟨t, rfl⟩ ⟨t', rfl⟩ hQ
  exact P.isub_int (hQ _ _ (Ext.toks _ _) ⟨_, rfl⟩)
theorem op_shl {a n : Int} (h0 : 0 ≤ n) (h1 : n ≤ 2 ^ 20) (ha : Builtin.Int.intBits a ≤ 2 ^ 20) : Op2 C k0 (binaryOp .LShift) (.int a) (.int n) .f (.int (a * 2 ^ n.toNat)) := by
  rintro A Z s Q E u v H ⟨t, rfl⟩ ⟨t', rfl⟩ hQ
  exact lshift_int h0 (by omega) (hQ _ _ (Ext.toks _ _) ⟨_, rfl⟩)
theorem op_pow {a n : Int} (h0 : 0 ≤ n) (h : (Builtin.Int.intBits a : Int) * n ≤ 2 ^ 27) : Op2 C k0 (binaryOp .Pow) (.int a) (.int n) .f (.int (a ^ n.toNat)) := by
  rintro A Z s Q E u v H ⟨t, rfl⟩ ⟨t', rfl⟩ hQ
  exact pow_int h0 h (hQ _ _ (Ext.toks _ _) ⟨_, rfl⟩)
theorem op_eq {a b : Int} : Op2 C k0 (compareOp .Eq) (.int a) (.int b) .f (.bool (a == b)) := by
  rintro A Z s Q E u v H ⟨t, rfl⟩ ⟨t', rfl⟩ hQ
  exact P.eq_int (hQ _ _ (.refl _) rfl)
theorem op_ne {a b : Int} : Op2 C k0 (compareOp .NotEq) (.int a) (.int b) .f (.bool (a != b)) := by
  rintro A Z s Q E u v H ⟨t, rfl⟩ ⟨t', rfl⟩ hQ
  exact P.ne_int (hQ _ _ (.refl _) rfl)
theorem op_lt {a b : Int} : Op2 C k0 (compareOp .Lt) (.int a) (.int b) .f (.bool (decide (a < b))) := by
  rintro A Z s Q E u v H ⟨t, rfl⟩ ⟨t', rfl⟩ hQ
  exact P.lt_int (hQ _ _ (.refl _) rfl)
theorem op_le {a b : Int} : Op2 C k0 (compareOp .LtE) (.int a) (.int b) .f (.bool (decide (a ≤ b))) := by
  rintro A Z s Q E u v H ⟨t, rfl⟩ ⟨t', rfl⟩ hQ
  exact P.le_int (hQ _ _ (.refl _) rfl)
theorem op_ge {a b : Int} : Op2 C k0 (compareOp .GtE) (.int a) (.int b) .f (.bool (decide (a ≥ b))) := by
  rintro A Z s Q E u v H ⟨t, rfl⟩ ⟨t', rfl⟩ hQ
  exact P.ge_int (hQ _ _ (.refl _) rfl)
theorem tr_int {a : Int} : Tr C k0 (.int a) (a != 0) := by
  rintro A Z s Q E u H ⟨t, rfl⟩ hQ
  exact P.truthy_int (hQ _ (.refl _))
theorem tr_bool {b : Bool} : Tr C k0 (.bool b) b := by
  rintro A Z s Q E u H hu hQ
  have hu' : u = .bool b := hu
  subst hu'
  exact wpAny_truthy_bool (hQ _ (.refl _))

-- texts
theorem op_cat {a b : Str} (h : a.length + b.length ≤ sizeLine) : Op2 C k0 (binaryOp .Add) (.str a) (.str b) .f (.str (a ++ b)) := by
  rintro A Z s Q E u v H ⟨t, rfl⟩ ⟨t', rfl⟩ hQ
  exact SB.add (fun t' k => hQ _ _ (Ext.toks _ _) ⟨_, rfl⟩) h
theorem op_rep {a : Str} {n : Int} (h : MulOk a n) : Op2 C k0 (binaryOp .Mult) (.str a) (.int n) .f (.str (Txt.mul a n)) := by
  rintro A Z s Q E u v H ⟨t, rfl⟩ ⟨t', rfl⟩ hQ
  exact SB.mul h fun t' k => hQ _ _ (Ext.toks _ _) ⟨_, rfl⟩
end
end Py

namespace Py

noncomputable abbrev LI (ns : List Int) : PV := .list (ns.map .int)
noncomputable abbrev LS (ss : List Str) : PV := .list (ss.map .str)

theorem Reps.ints {h : Heap} {Z : Addr → Prop} : ∀ {ns : List Int} {vs : List Value}, Reps h Z (ns.map .int) vs → IntsAre vs ns
  | [], _, x => by simp only [List.map_nil, Reps] at x; subst x; exact .nil
  | n :: ns, _, x => by
    simp only [List.map_cons, Reps, Rep] at x
    obtain ⟨v, r, rfl, ⟨t, rfl⟩, h2⟩ := x
    exact .cons n t (Reps.ints h2)
theorem Reps.strs {h : Heap} {Z : Addr → Prop} : ∀ {ns : List Str} {vs : List Value}, Reps h Z (ns.map .str) vs → StrsAre vs ns
  | [], _, x => by simp only [List.map_nil, Reps] at x; subst x; exact .nil
  | n :: ns, _, x => by
    simp only [List.map_cons, Reps, Rep] at x
    obtain ⟨v, r, rfl, ⟨t, rfl⟩, h2⟩ := x
    exact .cons n t (Reps.strs h2)
theorem IntsAre.reps {h : Heap} {Z : Addr → Prop} {ns : List Int} {vs : List Value} (x : IntsAre vs ns) : Reps h Z (ns.map .int) vs := by
  induction x with
  | nil => exact .nil
  | cons n t _ ih => exact .cons (by simp only [Rep]; exact ⟨t, rfl⟩) ih
theorem StrsAre.reps {h : Heap} {Z : Addr → Prop} {ns : List Str} {vs : List Value} (x : StrsAre vs ns) : Reps h Z (ns.map .str) vs := by
  induction x with
  | nil => exact .nil
  | cons n t _ ih => exact .cons (by simp only [Rep]; exact ⟨t, rfl⟩) ih
theorem scals_ints (ns : List Int) : Scals (ns.map .int) := fun p hp => by obtain ⟨n, _, rfl⟩ := List.mem_map.mp hp; exact trivial
theorem scals_strs (ns : List Str) : Scals (ns.map .str) := fun p hp => by obtain ⟨n, _, rfl⟩ := List.mem_map.mp hp; exact trivial
theorem Reps.take {h : Heap} {Z : Addr → Prop} : ∀ {ps : List PV} {vs : List Value} (n : Nat), Reps h Z ps vs → Reps h Z (ps.take n) (vs.take n)
  | [], _, n, x => by simp only [Reps] at x; subst x; simp [Reps]
  | _ :: _, _, 0, _ => by simp [Reps]
  | _ :: ps, _, n + 1, x => by simp only [Reps] at x; obtain ⟨v, r, rfl, h1, h2⟩ := x; exact .cons h1 (Reps.take n h2)
theorem Reps.drop {h : Heap} {Z : Addr → Prop} : ∀ {ps : List PV} {vs : List Value} (n : Nat), Reps h Z ps vs → Reps h Z (ps.drop n) (vs.drop n)
  | [], _, n, x => by simp only [Reps] at x; subst x; simp [Reps]
  | _ :: _, _, 0, x => by simpa using x
  | _ :: ps, _, n + 1, x => by simp only [Reps] at x; obtain ⟨v, r, rfl, h1, h2⟩ := x; exact Reps.drop n h2
section
variable {C : Cx} {A : Around} {Z : Addr → Prop} {σ : List LV} {k0 : Nat}

-- lists
theorem op_lcat {xs ys : List PV} (h : xs.length + ys.length ≤ sizeLine) : Op2 C k0 (binaryOp .Add) (.list xs) (.list ys) .n (.list (xs ++ ys)) := by
  rintro A Z s Q E u v H ⟨a, vs, rfl, ⟨n, ha⟩, ra⟩ ⟨b, ws, rfl, ⟨m, hb⟩, rb⟩ hQ
  have e : vs.toArray ++ ws.toArray = (vs ++ ws).toArray := by simp
  refine concat_meets ⟨_, ha, rfl⟩ ⟨_, hb, rfl⟩ noFill_list_add seq_list_add PySem.F.slot_list_add PySem.F.entry_list_add (PySem.F.args_list_add_2 _ _) (list_addW a b vs.toArray ws.toArray n m none none #[] #[] (by simp [ra.length, rb.length]; exact h)) ⟨ha, hb, ?_⟩
  rw [e]
  exact hQ _ _ (Ext.push _ _) (res_list H.zl (ra.append rb))

theorem op_in_ints {k : Int} {ns : List Int} : Op2 C k0 (compareOp .In) (.int k) (LI ns) .f (.bool (ns.any (· == k))) := by
  rintro A Z s Q E u v H ⟨t, rfl⟩ ⟨a, vs, rfl, ha, ra⟩ hQ
  exact in_list_ints ha.isList ra.ints (hQ _ _ (.refl _) rfl)
theorem op_notin_ints {k : Int} {ns : List Int} : Op2 C k0 (compareOp .NotIn) (.int k) (LI ns) .f (.bool (!ns.any (· == k))) := by
  rintro A Z s Q E u v H ⟨t, rfl⟩ ⟨a, vs, rfl, ha, ra⟩ hQ
  have hI := ra.ints
  refine PySem.SeqInW.notIn_listW (fun y => match y with | .int i _ => i == k | _ => false) (fun y hy => ?_) ha.isList ?_
  · obtain ⟨i, t', rfl⟩ := mem_ints hI (by simpa using hy)
    exact .int i k t' t
  · have : vs.toArray.any (fun y => match y with | .int i _ => i == k | _ => false) = ns.any (· == k) := any_ints hI
    rw [this]
    exact hQ _ _ (.refl _) rfl
where
  mem_ints : ∀ {vs : List Value} {ns : List Int}, IntsAre vs ns → ∀ {y : Value}, y ∈ vs → ∃ i t, y = .int i t := by
    intro vs ns x y hy
    induction x with
    | nil => cases hy
    | cons n t h ih =>
      rcases List.mem_cons.mp hy with rfl | hy
      · exact ⟨n, t, rfl⟩
      · exact ih hy
  any_ints {k : Int} : ∀ {vs : List Value} {ns : List Int}, IntsAre vs ns → vs.toArray.any (fun y => match y with | .int i _ => i == k | _ => false) = ns.any (· == k) := by
    intro vs ns x
    induction x with
    | nil => simp
    | cons n t h this =>
      simp only [List.any_toArray, List.any_cons] at this ⊢
      rw [this]

theorem eqs_ints : ∀ {vs ws : List Value} {ns ms : List Int}, IntsAre vs ns → IntsAre ws ms → vs.length = ws.length → ∃ e : Nat → Bool, (∀ j (h1 : j < vs.length) (h2 : j < ws.length), MeetsSeq.EqGives vs[j] ws[j] (e j)) ∧ (List.range vs.length).all e = (ns == ms)
  := by
  intro vs ws ns ms x y hl
  induction x generalizing ws ms with
  | nil => cases y with
    | nil => exact ⟨fun _ => true, fun j h => absurd h (Nat.not_lt_zero _), rfl⟩
    | cons m u h' => cases hl
  | cons n t h ih => cases y with
   | nil => cases hl
   | cons m u h' =>
    obtain ⟨e, he, hall⟩ := ih h' (Nat.succ.inj hl)
    refine ⟨fun j => match j with | 0 => n == m | j + 1 => e j, fun j h1 h2 => ?_, ?_⟩
    · cases j with
      | zero => exact .int n m t u
      | succ j => exact he j (by simpa using h1) (by simpa using h2)
    · rw [List.length_cons, List.range_succ_eq_map, List.all_cons, List.all_map]
      show ((n == m) && (List.range _).all e) = _
      rw [hall]
      rfl
theorem eqs_strs : ∀ {vs ws : List Value} {ns ms : List Str}, StrsAre vs ns → StrsAre ws ms → vs.length = ws.length → ∃ e : Nat → Bool, (∀ j (h1 : j < vs.length) (h2 : j < ws.length), MeetsSeq.EqGives vs[j] ws[j] (e j)) ∧ (List.range vs.length).all e = (ns == ms)
  := by
  intro vs ws ns ms x y hl
  induction x generalizing ws ms with
  | nil => cases y with
    | nil => exact ⟨fun _ => true, fun j h => absurd h (Nat.not_lt_zero _), rfl⟩
    | cons m u h' => cases hl
  | cons n t h ih => cases y with
   | nil => cases hl
   | cons m u h' =>
    obtain ⟨e, he, hall⟩ := ih h' (Nat.succ.inj hl)
    refine ⟨fun j => match j with | 0 => n == m | j + 1 => e j, fun j h1 h2 => ?_, ?_⟩
    · cases j with
      | zero => exact eqGives_str n m t u
      | succ j => exact he j (by simpa using h1) (by simpa using h2)
    · rw [List.length_cons, List.range_succ_eq_map, List.all_cons, List.all_map]
      show ((n == m) && (List.range _).all e) = _
      rw [hall]
      rfl
theorem beq_len {α : Type} [BEq α] : ∀ {a b : List α}, a.length ≠ b.length → (a == b) = false
  | [], [], h => absurd rfl h
  | [], _ :: _, _ => rfl
  | _ :: _, [], _ => rfl
  | x :: a, y :: b, h => by
    show (x == y && a == b) = false
    rw [beq_len (a := a) (b := b) (by simpa using h), Bool.and_false]

theorem op_eq_lists {xs ys : List PV} {b : Bool} (h : ∀ (h : Heap) (Z : Addr → Prop) (vs ws : List Value), Reps h Z xs vs → Reps h Z ys ws → vs.length = ws.length → ∃ e : Nat → Bool, (∀ j (h1 : j < vs.length) (h2 : j < ws.length), MeetsSeq.EqGives vs[j] ws[j] (e j)) ∧ (List.range vs.length).all e = b)
    (hn : xs.length ≠ ys.length → b = false) : Op2 C k0 (compareOp .Eq) (.list xs) (.list ys) .f (.bool b) := by
  rintro A Z s Q E u v H ⟨a, vs, rfl, ⟨n, ha⟩, ra⟩ ⟨c, ws, rfl, ⟨m, hb⟩, rb⟩ hQ
  have hu : A.units < cLine := by have := H.a.u; omega
  by_cases hl : vs.length = ws.length
  · obtain ⟨e, he, hall⟩ := h s.heap Z vs ws ra rb hl
    refine PySem.P.eq_list ha hb (by simpa using hl) (fun j h1 h2 => by simpa using he j (by simpa using h1) (by simpa using h2)) hu ?_
    rw [List.size_toArray, hall]
    exact hQ _ _ (.refl _) rfl
  · refine PySem.P.eq_list_lengths ha hb (by simpa using hl) hu ?_
    have := hn (by rw [← ra.length, ← rb.length]; exact hl)
    subst this
    exact hQ _ _ (.refl _) rfl
theorem op_eq_ints {ns ms : List Int} : Op2 C k0 (compareOp .Eq) (LI ns) (LI ms) .f (.bool (ns == ms)) :=
  op_eq_lists (fun h Z vs ws r r' hl => eqs_ints r.ints r'.ints hl) fun h => beq_len (by simpa using h)
theorem op_eq_strs {ns ms : List Str} : Op2 C k0 (compareOp .Eq) (LS ns) (LS ms) .f (.bool (ns == ms)) :=
  op_eq_lists (fun h Z vs ws r r' hl => eqs_strs r.strs r'.strs hl) fun h => beq_len (by simpa using h)

theorem op_eqs {a b : Str} : Op2 C k0 (compareOp .Eq) (.str a) (.str b) .f (.bool (a == b)) := by
  rintro A Z s Q E u v H ⟨t, rfl⟩ ⟨t', rfl⟩ hQ
  exact PyProof.Rows.eq_str (hQ _ _ (.refl _) rfl)
theorem op_hasnt {x y : Str} : Op2 C k0 (compareOp .NotIn) (.str y) (.str x) .f (.bool (!Txt.contains x y)) := by
  rintro A Z s Q E u v H ⟨t, rfl⟩ ⟨t', rfl⟩ hQ
  exact SB.notContains (hQ _ _ (.refl _) rfl)

-- items
theorem ev_item {l i : Expr} {pos : Pos} {k1 k2 : RK} {xs : List PV} {j : Int} {p : PV} (h1 : Ev C A Z σ l k1 (.list xs)) (h2 : Ev C A Z σ i k2 (.int j)) (h0 : 0 ≤ j) (hj : j < 2 ^ 62) (hx : xs[j.toNat]? = some p)
    (hs : ∀ o x, subscripted i false o x = operate [o, x] (getItem o x) := by intro _ _; rfl) : Ev C A Z σ (.Subscript l i pos) .f p := by
  intro s Q E S hQ
  refine Subscript_ (h1 s _ E S fun u s1 X1 r1 => h2 s1 _ E (S.ext X1) fun v s2 X2 r2 => ?_)
  obtain ⟨a, vs, rfl, ha, ra⟩ := r1.toB.kp X2.kp
  obtain ⟨t, rfl⟩ := r2.toB
  obtain ⟨v, hv, rv⟩ := ra.get _ hx
  exact tail_any ha.isList.typeIs F.slot_list_getitem.lookup (wpAny_getItem_list ha.isList h0 (by omega) (by simpa using hv) (hQ v s2 (X1.trans X2) rv)) (hs _ _)
theorem ev_item_neg {l i : Expr} {pos : Pos} {k1 k2 : RK} {xs : List PV} {j : Int} {p : PV} (h1 : Ev C A Z σ l k1 (.list xs)) (h2 : Ev C A Z σ i k2 (.int j)) (h0 : j < 0) (hj : -(xs.length : Int) ≤ j) (hl : xs.length ≤ 2 ^ 24) (hx : xs[(j + xs.length).toNat]? = some p)
    (hs : ∀ o x, subscripted i false o x = operate [o, x] (getItem o x) := by intro _ _; rfl) : Ev C A Z σ (.Subscript l i pos) .f p := by
  intro s Q E S hQ
  refine Subscript_ (h1 s _ E S fun u s1 X1 r1 => h2 s1 _ E (S.ext X1) fun v s2 X2 r2 => ?_)
  obtain ⟨a, vs, rfl, ha, ra⟩ := r1.toB.kp X2.kp
  obtain ⟨t, rfl⟩ := r2.toB
  obtain ⟨v, hv, rv⟩ := ra.get _ hx
  exact tail_any ha.isList.typeIs F.slot_list_getitem.lookup (wpAny_getItem_list_neg ha.isList h0 (by rw [List.size_toArray, ra.length]; exact hj) (by omega) (by simpa [ra.length] using hv) (hQ v s2 (X1.trans X2) rv)) (hs _ _)
theorem ev_stritem {l i : Expr} {pos : Pos} {k1 k2 : RK} {x : Str} {j : Int} (h1 : Ev C A Z σ l k1 (.str x)) (h2 : Ev C A Z σ i k2 (.int j)) (hf : fitsSsize j = true) (hx : (Txt.charAt x j).isSome = true)
    (hs : ∀ o x, subscripted i false o x = operate [o, x] (getItem o x) := by intro _ _; rfl) : Ev C A Z σ (.Subscript l i pos) .f (.str (Txt.item x j)) := by
  intro s Q E S hQ
  refine Subscript_ (h1 s _ E S fun u s1 X1 r1 => h2 s1 _ E (S.ext X1) fun v s2 X2 r2 => ?_)
  obtain ⟨t', rfl⟩ := r1.toB
  obtain ⟨t, rfl⟩ := r2.toB
  exact tail_any (T := "str") (id := "str.__getitem__") (typeIs_str _ _ _) F.slot_str_getitem.lookup (SB.getItem hf hx (hQ _ _ ((X1.trans X2).trans (Ext.toks _ _)) ⟨_, rfl⟩)) (hs _ _)

-- cuts
noncomputable def EvP (C : Cx) (A : Around) (Z : Addr → Prop) (σ : List LV) (x : Option Expr) (o : Option Int) : Prop := match x, o with
  | none, none => True
  | some e, some i => ∃ k, Ev C A Z σ e k (.int i)
  | _, _ => False
theorem evP {e : Expr} {k : RK} {i : Int} (h : Ev C A Z σ e k (.int i)) : EvP C A Z σ (some e) (some i) := ⟨k, h⟩
theorem evPart {x : Option Expr} {o : Option Int} {E : Value → Shared → Prop} {s : Shared} {Q : Value → Shared → Prop} (h : EvP C A Z σ x o) (S : St C Z σ s) (hQ : ∀ v s', Ext s s' → IsPart v o → Q v s') : wpAny C.M A (evalPart x C.env) Q E s := by
  cases x with
  | none => cases o with
    | none => exact wpAny_pure (hQ _ s (.refl s) .none)
    | some => exact h.elim
  | some e => cases o with
    | none => exact h.elim
    | some i =>
      obtain ⟨k, h⟩ := h
      exact h s Q E S fun v s' X r => by obtain ⟨t, rfl⟩ := r.toB; exact hQ _ s' X (.int i t)

/-- a list cut by two bounds -/
noncomputable def pick (xs : List PV) (lo hi : Option Int) : List PV := (xs.drop (lo.elim 0 (clipAt xs.length))).take (hi.elim xs.length (clipAt xs.length) - lo.elim 0 (clipAt xs.length))

theorem slice_any {l : Expr} {lower upper : Option Expr} {p pos : Pos} {k : RK} {q : PV} {lo hi : Option Int} {E : Value → Shared → Prop} {s : Shared} {Q : Value → Shared → Prop} (h1 : Ev C A Z σ l k q) (hl : EvP C A Z σ lower lo) (hu : EvP C A Z σ upper hi) (S : St C Z σ s)
    (hQ : ∀ u a v w s', Ext s s' → RepB s'.heap Z q u → IsPart v lo → IsPart w hi → s'.heap.IsSliceOf a v w .none → ∃ T id, s'.TypeIs u T ∧ typeLookup (.type T) "__getitem__" = pure (some (.builtin id)) ∧ wpAny C.M A (getItem u (.ref a)) Q E s') :
    wpAny C.M A (eval (.Subscript l (.Slice lower upper none p) pos) C.env) Q E s := by
  refine Subscript_ (h1 s _ E S fun u s1 X1 r1 => wpAny_Slice (evPart hl (S.ext X1) fun v s2 X2 p2 => evPart hu ((S.ext X1).ext X2) fun w s3 X3 p3 => wpAny_pure ?_))
  have X4 := (((X1.trans X2).trans X3).trans (Ext.push s3 { cls := .type "slice", data := .fields #[v, w, .none] }))
  obtain ⟨T, id, hT, hg, h⟩ := hQ u s3.heap.objs.size v w _ X4 (r1.toB.kp ((X2.trans X3).trans (Ext.push s3 _)).kp) p2 p3 ⟨_, Heap.get?_push_size _ rfl, rfl, rfl⟩
  exact tail_any (ops := [.ref s3.heap.objs.size, u]) hT hg h rfl

theorem ev_slice {l : Expr} {lower upper : Option Expr} {p pos : Pos} {k : RK} {xs : List PV} {lo hi : Option Int} (ok : C.Ok) {n : Nat} (hA : OkA n A) (h1 : Ev C A Z σ l k (.list xs)) (hl : EvP C A Z σ lower lo) (hu : EvP C A Z σ upper hi) (hsz : xs.length ≤ sizeLine) :
    Ev C A Z σ (.Subscript l (.Slice lower upper none p) pos) .n (.list (pick xs lo hi)) := by
  intro s Q E S hQ
  refine slice_any h1 hl hu S fun u a v w s' X r pv pw hs => ?_
  obtain ⟨b, vs, rfl, hb, rb⟩ := r
  refine ⟨"list", "list.__getitem__", hb.isList.typeIs, F.slot_list_getitem.lookup, wpAny_getItem_list_slice hb.isList hs pv pw .none (by simp) ?_ (by rw [List.size_toArray, rb.length]; exact hsz)⟩
  have H := (S.ext X).here ok hA
  rw [slicePick_plain]
  have e : (vs.toArray.toList.drop (lo.elim 0 (clipAt vs.toArray.size))).take (hi.elim vs.toArray.size (clipAt vs.toArray.size) - lo.elim 0 (clipAt vs.toArray.size)) = (vs.drop (lo.elim 0 (clipAt xs.length))).take (hi.elim xs.length (clipAt xs.length) - lo.elim 0 (clipAt xs.length)) := by
    rw [List.size_toArray, rb.length]
  rw [e]
  exact hQ _ _ (X.trans (Ext.push _ _)) ((res_list H.zl ((rb.drop _).take _)).kpL X.kp)

theorem ev_slice_str {l : Expr} {lower upper : Option Expr} {p pos : Pos} {k : RK} {x : Str} {lo hi : Option Int} (h1 : Ev C A Z σ l k (.str x)) (hl : EvP C A Z σ lower lo) (hu : EvP C A Z σ upper hi) (hsz : x.length ≤ sizeLine) :
    Ev C A Z σ (.Subscript l (.Slice lower upper none p) pos) .f (.str (Txt.slice x lo hi)) := by
  intro s Q E S hQ
  refine slice_any h1 hl hu S fun u a v w s' X r pv pw hs => ?_
  obtain ⟨t, rfl⟩ := r
  refine ⟨"str", "str.__getitem__", typeIs_str _ _ _, F.slot_str_getitem.lookup, ?_⟩
  have fin : ∀ (l u : Option (Int × Tok)), l.map (·.1) = lo → u.map (·.1) = hi → s'.heap.IsSlice a l u none → wpAny C.M A (getItem (.str x t) (.ref a)) Q E s' := by
    intro l u e1 e2 hsl
    refine wpAny_getItem_str_slice hsl rfl (post_val_or_str ⟨?_, fun t' k => ?_⟩)
    · subst e1 e2; exact Nat.le_trans (Txt.slice_le x _ _) hsz
    · subst e1 e2; exact hQ _ _ (X.trans (Ext.toks _ _)) ⟨_, rfl⟩
  obtain ⟨o, ho, hc, hd⟩ := hs
  cases pv with
  | none => cases pw with
    | none => exact fin none none rfl rfl ⟨o, ho, hc, hd⟩
    | int j t' => exact fin none (some (j, t')) rfl rfl ⟨o, ho, hc, hd⟩
  | int i t1 => cases pw with
    | none => exact fin (some (i, t1)) none rfl rfl ⟨o, ho, hc, hd⟩
    | int j t' => exact fin (some (i, t1)) (some (j, t')) rfl rfl ⟨o, ho, hc, hd⟩
end
end Py

namespace Py

noncomputable def RepBs (h : Heap) (Z : Addr → Prop) : List PV → List Value → Prop
  | [], vs => vs = []
  | p :: ps, vs => ∃ v r, vs = v :: r ∧ RepB h Z p v ∧ RepBs h Z ps r
/-- an operation on the arguments of a call -/
noncomputable def OpN (C : Cx) (b : Nat) (f : List Value → Sem Value) (ps : List PV) (k : RK) (r : PV) : Prop :=
  ∀ (A : Around) (Z : Addr → Prop) (s : Shared) (Q : Value → Shared → Prop) (E : Value → Shared → Prop) (vs : List Value), Here C b A Z s → RepBs s.heap Z ps vs →
    (∀ x s', Ext s s' → Res k Z s.heap s'.heap r x → Q x s') → wpAny C.M A (f vs) Q E s

/-- a global name -/
noncomputable def GV (C : Cx) (x : Str) (v : Value) : Prop := ∀ (A : Around) (s : Shared) (Q : Value → Shared → Prop) (E : Value → Shared → Prop) (pos : Pos), C.W s.heap → Q v s → wpAny C.M A (eval (.Name x pos) C.env) Q E s
/-- what may stand as a callee -/
noncomputable def Callee (C : Cx) (v : Value) : Prop := (∃ id, v = .builtin id) ∨ (∃ T, v = .type T) ∨ ∃ a o fd, v = .ref a ∧ o.data = .func fd ∧ ∀ h, C.W h → h.get? a = some o

section
variable {C : Cx} {A : Around} {Z : Addr → Prop} {σ : List LV} {k0 : Nat}

inductive EvL (C : Cx) (A : Around) (Z : Addr → Prop) (σ : List LV) : List Expr → List PV → Prop
  | nil : EvL C A Z σ [] []
  | cons {e : Expr} {es : List Expr} {p : PV} {ps : List PV} (h : Ev C A Z σ e .f p) (t : EvL C A Z σ es ps) (he : ∀ rest env, starEach (e :: rest) env = (false, eval e env) :: starEach rest env := by intro _ _; rfl) : EvL C A Z σ (e :: es) (p :: ps)
inductive EvA (C : Cx) (A : Around) (Z : Addr → Prop) (σ : List LV) : List Expr → List PV → Prop
  | nil : EvA C A Z σ [] []
  | cons {e : Expr} {es : List Expr} {k : RK} {p : PV} {ps : List PV} (h : Ev C A Z σ e k p) (t : EvA C A Z σ es ps) (he : ∀ rest env, starEach (e :: rest) env = (false, eval e env) :: starEach rest env := by intro _ _; rfl) : EvA C A Z σ (e :: es) (p :: ps)

theorem backTo_cons {pos : Pos} {t : Sem Value} {r : List (Bool × Sem Value)} : backTo pos ((false, t) :: r) = (false, t) :: backTo pos r := rfl

theorem evl {pos : Pos} : ∀ {es : List Expr} {ps : List PV}, EvL C A Z σ es ps → ∀ {s : Shared} {Q : List Value → Shared → Prop} {E : Value → Shared → Prop}, St C Z σ s →
    (∀ vs s', Ext s s' → Reps s'.heap Z ps vs → Q vs s') → wpAny C.M A (spliced (backTo pos (starEach es C.env))) Q E s := by
  intro es ps x
  induction x with
  | nil => intro s Q E S h; exact spliced_nil (h [] s (.refl s) .nil)
  | cons he t hs ih =>
    intro s Q E S h
    rw [hs, backTo_cons]
    exact spliced_cons (he s _ E S fun v s1 X1 r1 => ih (S.ext X1) fun vs s2 X2 r2 => h (v :: vs) s2 (X1.trans X2) (.cons (r1.kp X2.kp) r2))
theorem eva {pos : Pos} : ∀ {es : List Expr} {ps : List PV}, EvA C A Z σ es ps → ∀ {s : Shared} {Q : List Value → Shared → Prop} {E : Value → Shared → Prop}, St C Z σ s →
    (∀ vs s', Ext s s' → RepBs s'.heap Z ps vs → Q vs s') → wpAny C.M A (spliced (backTo pos (starEach es C.env))) Q E s := by
  intro es ps x
  induction x with
  | nil => intro s Q E S h; exact spliced_nil (h [] s (.refl s) rfl)
  | cons he t hs ih =>
    intro s Q E S h
    rw [hs, backTo_cons]
    exact spliced_cons (he s _ E S fun v s1 X1 r1 => ih (S.ext X1) fun vs s2 X2 r2 => h (v :: vs) s2 (X1.trans X2) ⟨v, vs, rfl, r1.toB.kp X2.kp, r2⟩)

theorem ev_list {es : List Expr} {pos : Pos} {ps : List PV} (ok : C.Ok) {n : Nat} (hA : OkA n A) (h : EvL C A Z σ es ps) (hl : ps.length ≤ sizeLine) : Ev C A Z σ (.List es pos) .n (.list ps) := by
  intro s Q E S hQ
  refine wpAny_List (evl h S fun vs s1 X r => ⟨by rw [r.length]; exact hl, ?_⟩)
  exact hQ _ _ (X.trans (Ext.push _ _)) ((res_list ((S.ext X).here ok hA).zl r).kpL X.kp)
theorem ev_tuple {es : List Expr} {n0 : Nat} {pos : Pos} {ps : List PV} (ok : C.Ok) {n : Nat} (hA : OkA n A) (h : EvL C A Z σ es ps) (hl : ps.length ≤ sizeLine) : Ev C A Z σ (.Tuple es n0 pos) .n (.tup ps) := by
  intro s Q E S hQ
  refine wpAny_Tuple (evl h S fun vs s1 X r => ⟨by rw [r.length]; exact hl, ?_⟩)
  exact hQ _ _ (X.trans (Ext.push _ _)) ((res_tup ((S.ext X).here ok hA).zl r).kpL X.kp)

theorem evArgs {pos : Pos} {f : Value} : ∀ {es : List Expr} {ps : List PV}, EvA C A Z σ es ps → ∀ {s : Shared} {Q : Args → Shared → Prop} {E : Value → Shared → Prop}, St C Z σ s →
    (∀ vs s', Ext s s' → RepBs s'.heap Z ps vs → Q ⟨vs, []⟩ s') → wpAny C.M A (evalArgs f true (backTo pos (starEach es C.env)) []) Q E s := by
  intro es ps x s Q E S hQ
  have := fun Q' => eva x (pos := pos) (Q := Q') (E := E) S
  cases x with
  | nil => exact evalArgs_nil3 (hQ [] s (.refl s) rfl)
  | cons he t hs =>
    rw [hs, backTo_cons]
    refine evalArgs_plain ?_
    rw [← backTo_cons (pos := pos), ← hs]
    exact this _ hQ
theorem eva_plain {pos : Pos} : ∀ {es : List Expr} {ps : List PV}, EvA C A Z σ es ps → (backTo pos (starEach es C.env)).any (·.1) = false := by
  intro es ps x
  induction x with
  | nil => rfl
  | cons he t hs ih => rw [hs, backTo_cons, List.any_cons]; exact ih

theorem ev_call {x : Str} {p pos : Pos} {fv : Value} {es : List Expr} {ps : List PV} {k : RK} {r : PV} (ok : C.Ok) {n : Nat} (hA : OkA n A) (g : GV C x fv) (hc : Callee C fv) (ha : EvA C A Z σ es ps) (h : OpN C n (fun vs => call fv vs) ps k r) : Ev C A Z σ (.Call (.Name x p) es [] pos) k r := by
  intro s Q E S hQ
  have W : ∀ {s'}, St C Z σ s' → C.W s'.heap := fun S' => ok.mono _ _ ok.w0 S'.keep
  refine wpAny_Call_NameR (g _ _ _ _ _ (W S) ?_)
  have fin : ∀ vs s1, Ext s s1 → RepBs s1.heap Z ps vs → wpAny C.M A (call fv vs) Q E s1 := fun vs s1 X r1 =>
    h A Z s1 Q E vs ((S.ext X).here ok hA) r1 fun x s2 X2 r2 => hQ x s2 (X.trans X2) (r2.kpL X.kp)
  rcases hc with ⟨id, rfl⟩ | ⟨T, rfl⟩ | ⟨a, o, fd, rfl, hd, ho⟩
  · exact callWith_builtin (eva_plain ha) (evArgs ha S fun vs s1 X r1 => fin vs s1 X r1)
  · exact PySem.callWith_type (eva_plain ha) (evArgs ha S fun vs s1 X r1 => fin vs s1 X r1)
  · exact callWith_function (evArgs ha S fun vs s1 X r1 => ⟨⟨ho _ (W (S.ext X)), hd⟩, fin vs s1 X r1⟩)

/-- a method of a built-in type -/
structure Meth (name : Str) (T id : String) : Prop where
  pa : PlainAttrs T
  slot : Slot T name id
  ty : typeOf (.builtin id) = pure (.type "method_descriptor")
noncomputable def TypB (p : PV) (T : String) : Prop := (∃ xs, p = .list xs ∧ T = "list") ∨ (∃ x, p = .str x ∧ T = "str")
theorem ev_meth {o : Expr} {name : Str} {apos pos : Pos} {es : List Expr} {ps : List PV} {k k1 : RK} {p r : PV} {T id : String} (ok : C.Ok) {n : Nat} (hA : OkA n A) (ho : Ev C A Z σ o k1 p) (ht : TypB p T) (m : Meth name T id) (ha : EvA C A Z σ es ps) (h : OpN C n (fun vs => call (.builtin id) vs) (p :: ps) k r)
    (hline : (apos.endLine == pos.line) = true := by rfl) (hbase : attributeBase o name C.env (eval o C.env) = eval o C.env := by rfl) (hfew : decide (es.length + 0 + 0 < 30) = true := by rfl) : Ev C A Z σ (.Call (.Attribute o name apos) es [] pos) k r := by
  intro s Q E S hQ
  have hf : ((backTo pos (starEach es C.env)).all (fun x => !x.1) && (backToKw pos (keywordEach [] C.env)).all (fun x => x.1.isSome) && decide (es.length + ([] : List Keyword).length + (if ([] : List Keyword).isEmpty then 0 else 1) < 30)) = true := by
    have h1 : (backTo pos (starEach es C.env)).all (fun x => !x.1) = true := by
      have := eva_plain (pos := pos) ha
      rw [List.all_eq_not_any_not]
      simpa using this
    rw [h1]
    exact hfew
  refine wpAny_Call_method_late hbase hf hline rfl (ho s _ E S fun u s1 X1 r1 => ⟨T, id, m.pa, m.slot, m.ty, ?_, ?_, ?_⟩)
  · rcases ht with ⟨xs, rfl, rfl⟩ | ⟨x, rfl, rfl⟩
    · obtain ⟨a, vs, rfl, hl, _⟩ := r1.toB; exact hl.isList.typeIs
    · obtain ⟨t, rfl⟩ := r1.toB; exact typeIs_str _ _ _
  · rcases ht with ⟨xs, rfl, rfl⟩ | ⟨x, rfl, rfl⟩
    · obtain ⟨a, vs, rfl, ⟨n, hl⟩, _⟩ := r1.toB; intro b e; cases e; exact ⟨_, hl, rfl⟩
    · obtain ⟨t, rfl⟩ := r1.toB; intro b e; cases e
  · refine callWith_builtin (eva_plain ha) (evArgs ha (S.ext X1) fun vs s2 X2 r2 => ?_)
    exact h A Z s2 Q E (u :: vs) (((S.ext X1).ext X2).here ok hA) ⟨u, vs, rfl, r1.toB.kp X2.kp, r2⟩ fun x s3 X3 r3 => hQ x s3 ((X1.trans X2).trans X3) (r3.kpL (X1.trans X2).kp)

-- built-in calls
theorem fn_len {xs : List PV} (h : xs.length ≤ sizeLine) : OpN C k0 (fun vs => call (.builtin "len") vs) [.list xs] .f (.int xs.length) := by
  rintro A Z s Q E vs H ⟨v, r, rfl, ⟨a, ws, rfl, hl, rs⟩, rfl⟩ hQ
  refine call_len_list hl.isList (by rw [List.size_toArray, rs.length]; have : sizeLine = 2 ^ 24 := rfl; omega) (hQ _ _ (Ext.toks _ _) ⟨s.toks + 1, by rw [List.size_toArray, rs.length]⟩)
theorem fn_lens {x : Str} (h : x.length ≤ sizeLine) : OpN C k0 (fun vs => call (.builtin "len") vs) [.str x] .f (.int x.length) := by
  rintro A Z s Q E vs H ⟨v, r, rfl, ⟨t, rfl⟩, rfl⟩ hQ
  exact P.len_str (by have : sizeLine = 2 ^ 24 := rfl; omega) (hQ _ _ (Ext.toks _ _) ⟨_, rfl⟩)

theorem items_of_ints : ∀ {vs : List Value} {ns : List Int}, IntsAre vs ns → ∃ xs : List (Int × Tok), vs.toArray = intItems xs.toArray ∧ xs.map (·.1) = ns := by
  intro vs ns x
  induction x with
  | nil => exact ⟨[], by simp [intItems], rfl⟩
  | cons n t h ih =>
    obtain ⟨xs, e1, e2⟩ := ih
    refine ⟨(n, t) :: xs, ?_, by simp [e2]⟩
    have : _ = (intItems xs.toArray).toList := congrArg Array.toList e1
    simp [intItems] at this ⊢
    exact this
theorem fn_sum {ns : List Int} : OpN C k0 (fun vs => call (.builtin "sum") vs) [LI ns] .f (.int ns.sum) := by
  rintro A Z s Q E vs H ⟨v, r, rfl, ⟨a, ws, rfl, hl, rs⟩, rfl⟩ hQ
  obtain ⟨xs, e1, e2⟩ := items_of_ints rs.ints
  have hl' := hl.isList
  rw [e1] at hl'
  refine sum_intListG H.a.h hl' fun h' tk t' hk => ?_
  refine hQ _ _ (Ext.heap hk tk) ⟨t', ?_⟩
  rw [preSum_eq, List.take_of_length_le (by simp)]
  simp [e2]
theorem fn_join {x : Str} {ys : List Str} (h : (ys.map (·.length)).sum + ys.length * x.length ≤ 16777216) : OpN C k0 (fun vs => call (.builtin "str.join") vs) [.str x, LS ys] .f (.str (Txt.join x ys)) := by
  rintro A Z s Q E vs H ⟨v, r, rfl, ⟨t, rfl⟩, ⟨v', r', rfl, ⟨a, ws, rfl, hl, rs⟩, rfl⟩⟩ hQ
  exact join_list hl.isList (by simpa using rs.strs) h fun t' k => hQ _ _ (Ext.toks _ _) ⟨_, rfl⟩
theorem meth_join : Meth "join" "str" "str.join" := ⟨F.plainAttrs_str, F.slot_str_join, F.type_str_join⟩
end
end Py

namespace Py

/-- generators below n are as they were -/
noncomputable def GKn (n : Nat) (a b : Array GenState) : Prop := a.size ≤ b.size ∧ (∀ i, i < n → b[i]? = a[i]?) ∧ (AllBare a → AllBare b)
theorem GKn.refl (n : Nat) (a : Array GenState) : GKn n a a := ⟨Nat.le_refl _, fun _ _ => rfl, fun x => x⟩
theorem GKn.trans {n : Nat} {a b c : Array GenState} (x : GKn n a b) (y : GKn n b c) : GKn n a c := ⟨Nat.le_trans x.1 y.1, fun i hi => (y.2.1 i hi).trans (x.2.1 i hi), fun z => y.2.2 (x.2.2 z)⟩
theorem GK.n {n : Nat} {a b : Array GenState} (x : GK a b) (h : n ≤ a.size) : GKn n a b := ⟨x.1, fun i hi => x.2.1 i (Nat.lt_of_lt_of_le hi h), x.2.2⟩
theorem GKn.gk {a b c : Array GenState} (x : GK a b) (y : GKn a.size b c) : GK a c := ⟨Nat.le_trans x.1 y.1, fun i hi => (y.2.1 i hi).trans (x.2.1 i hi), fun z => y.2.2 (x.2.2 z)⟩

/-- a step of an iterator: its own objects alone change -/
structure Mv (wr : Addr → Prop) (n : Nat) (s s' : Shared) : Prop where
  kp : ∀ b o, ¬ wr b → s.heap.get? b = some o → s'.heap.get? b = some o
  lv : ∀ a, ¬ wr a → s'.heap.get? a = none → s.heap.get? a = none
  gk : GKn n s.gens s'.gens
  dr : s'.drawn = s.drawn
  os : s'.os = s.os

noncomputable def ZOk (hs : Heap) (Z₀ Z : Addr → Prop) (s : Shared) : Prop := (∀ a, Z a → Z₀ a ∨ hs.get? a = none) ∧ ∀ a, Z a → ∃ o, s.heap.get? a = some o

/-- where the items of a loop come from -/
structure Src (M : Model) (A : Around) (target : Expr) (it : Value) (fp wr : Addr → Prop) (n : Nat) (hs : Heap) (Z₀ : Addr → Prop) {ι : Type} (nx : ι → Option (PV × ι)) (I : ι → Shared → Prop) : Prop where
  sub : ∀ b, wr b → fp b
  plain : ∀ i s b o, I i s → wr b → s.heap.get? b = some o → (SeqObj o → Z₀ b) ∧ ∀ w, o.data ≠ .cell w
  frame : ∀ i s s', I i s → (∀ b o, fp b → s.heap.get? b = some o → s'.heap.get? b = some o) → GK s.gens s'.gens → I i s'
  next : ∀ i s (Qn : Shared → Prop) (Qs : Value → Shared → Prop) (E : Value → Shared → Prop) Z, I i s → ZOk hs Z₀ Z s → n ≤ s.gens.size →
    (nx i = none → ∀ s', Mv wr n s s' → Qn s') →
    (∀ p j, nx i = some (p, j) → ∀ v s', Mv wr n s s' → Lv s s' → (∀ b, wr b → Z₀ b → ∃ o, s'.heap.get? b = some o ∧ SeqObj o) → Rep s'.heap Z p v → I j s' → Qs v s') →
    wpAny M A (pyNext it) (fun r s1 => match r with | none => Qn s1 | some v => wpAny M A (letOwnedTupleGo target it v) (fun _ s2 => Qs v s2) E s1) E s

section
variable {C : Cx} {A : Around} {Z : Addr → Prop} {σ : List LV} {P : Post}

theorem St.mv {s s' : Shared} (S : St C Z σ s) (keep : Kp C.h₀ s'.heap) (H : ∀ b o, s.heap.get? b = some o → (SeqObj o ∨ (∃ w, o.data = .cell w) ∨ b = C.env.locals) → s'.heap.get? b = some o) : St C Z σ s' := by
  obtain ⟨m, hn, V⟩ := S.vars
  have hc : ∀ c w, s.heap.IsCell c w → s'.heap.IsCell c w := fun c w ⟨o, e, d⟩ => ⟨o, H c o e (.inr (.inl ⟨w, d⟩)), d⟩
  refine ⟨keep, S.zf, fun a z => let ⟨o, e, q⟩ := S.zl a z; ⟨o, H a o e (.inl q), q⟩, S.nd, m, ?_, V.chg hc (fun a o e q z => ⟨H a o e (.inl q), z⟩) fun a ys e => ⟨V.ownZ a ys e, fun o eo => ?_⟩⟩
  · obtain ⟨o, es, ep, e, r⟩ := hn; exact ⟨o, es, ep, H _ o e (.inr (.inr rfl)), r⟩
  · obtain ⟨o', e', q⟩ := S.zl a (V.ownZ a ys e)
    rw [eo] at e'; cases e'
    exact H a o eo (.inl q)

noncomputable def tnames : Expr → List Str
  | .Name x _ => [x]
  | .Tuple es _ _ => es.flatMap fun e => match e with | .Name x _ => [x] | _ => []
  | _ => []
noncomputable def OnlyT (C : Cx) (t : Expr) (s s' : Shared) : Prop := ∀ b o, s.heap.get? b = some o → b ≠ C.env.locals → (∀ x ∈ tnames t, C.env.cells.lookup x ≠ some b) → s'.heap.get? b = some o

/-- how a target takes an item -/
inductive Tgt (C : Cx) : Expr → PV → List LV → List LV → Prop
  | name {x : Str} {pos : Pos} {i : Nat} {p : PV} {σ : List LV} : At C.vs i x → Tgt C (.Name x pos) p σ (σ.set i (.v p))
  | pair {x y : Str} {p1 p2 pos : Pos} {k i j : Nat} {p q : PV} {σ : List LV} : At C.vs i x → At C.vs j y → Tgt C (.Tuple [.Name x p1, .Name y p2] k pos) (.tup [p, q]) σ ((σ.set i (.v p)).set j (.v q))

theorem assign_tgt {E : Value → Shared → Prop} {t : Expr} {p : PV} {σ' : List LV} {s : Shared} {v : Value} {Q : Unit → Shared → Prop} (ok : C.Ok) (hA : A.handled = none) (T : Tgt C t p σ σ') (S : St C Z σ s) (hr : Rep s.heap Z p v)
    (h : ∀ s', St C Z σ' s' → Frame C Z s Z s' → Lv s s' → OnlyT C t s s' → Q () s') : wpAny C.M A (assign t C.env v) Q E s := by
  cases T with
  | name hi => exact wpAny_assign_Name (wpAny_bindName' (store_v ok S hi hr fun s' S' F L O _ _ => h s' S' F L fun b o e n m => O b o e n (m _ (.head _))))
  | pair hi hj =>
    simp only [Rep] at hr
    obtain ⟨a, vs, rfl, ht, hz, rs⟩ := hr
    simp only [Reps] at rs
    obtain ⟨v1, r1, rfl, h1, v2, r2, rfl, h2, rfl⟩ := rs
    refine wpAny_assign_Tuple hA ht rfl (by rfl) fun h' hx => ?_
    have k : Kp s.heap h' := fun b o e => hx b o (Nat.ne_of_lt (Heap.lt_size e)) e
    have S1 := S.kp (s' := { s with heap := h' }) k
    refine wpAny_assignInOrder_more (wpAny_assign_Name (store_v ok S1 hi (h1.kp k) fun s2 S2 F2 L2 O2 hR2 _ => ?_))
    refine wpAny_assignInOrder_more (wpAny_assign_Name (store_v ok S2 hj (hR2 _ _ (h2.kp k)) fun s3 S3 F3 L3 O3 _ _ => ?_))
    refine wpAny_assignInOrder_none ?_
    have L1 : Lv s { s with heap := h' } := Lv.ofKp k
    have L12 : Lv s s2 := L1.trans L2
    exact h s3 S3 (((Frame.ofExt (Ext.heap' k)).trans F2 L1).trans F3 L12) (L12.trans L3) fun b o e n m => O3 b o (O2 b o (k b o e) n (m _ (.head _))) n (m _ (.tail _ (.head _)))
where
  wpAny_bindName' {M : Model} {A : Around} {E : Value → Shared → Prop} {s : Shared} {t : Sem Unit} {Q : Unit → Shared → Prop} (h : wpAny M A t Q E s) : wpAny M A t Q E s := h

/-- a loop's turns -/
noncomputable def WL (C : Cx) (A : Around) (t : Expr) (body orelse : List Stmt) (P : Post) {ι : Type} (nx : ι → Option (PV × ι)) : Nat → ι → (Addr → Prop) → List LV → Prop
  | 0, _, _, _ => False
  | n + 1, i, Z, σ => match nx i with
    | none => WS C A Z σ orelse P
    | some (p, j) => ∃ σ', Tgt C t p σ σ' ∧ WS C A Z σ' body fun fl Z' σ'' => match fl with
      | .next => WL C A t body orelse P nx n j Z' σ''
      | .cont => WL C A t body orelse P nx n j Z' σ''
      | .brk => P .next Z' σ''
      | .ret p => P (.ret p) Z' σ''

theorem loop_code {R : Result → Shared → Prop} {t : Expr} {it : Value} {body orelse : List Stmt} {fp wr : Addr → Prop} {hs : Heap} {ι : Type} {nx : ι → Option (PV × ι)} {I : ι → Shared → Prop} {s₀ s : Shared} {i : ι} {n : Nat} (ok : C.Ok) (hA : A.handled = none)
    (D : Src C.M A t it fp wr s₀.gens.size hs Z nx I) (hfp : ∀ b, fp b → ¬ Priv C Z b ∧ ∃ o, hs.get? b = some o) (hwr : ∀ b, wr b → s₀.heap.get? b = none) (S₀ : St C Z σ s₀) (X : Ext s₀ s) (hsn : ∀ a, hs.get? a = none → s₀.heap.get? a = none) (hsl : hs = s.heap) (h0 : I i s) (hw : WL C A t body orelse P nx n i Z σ)
    (hR : ∀ fl f Z' σ' s', P fl Z' σ' → St C Z' σ' s' → Frame C Z s₀ Z' s' → Lv s₀ s' → FlIs C s'.heap fl f → R (.ok f) s') : codeAny C.M A (.forLoop t it body orelse C.env) R s := by
  refine codeAny_forLoop_any (fun n s => ∃ i Z' σ', I i s ∧ St C Z' σ' s ∧ Frame C Z s₀ Z' s ∧ Lv s₀ s ∧ ZOk hs Z Z' s ∧ (∀ a, hs.get? a ≠ none → s.heap.get? a ≠ none) ∧ WL C A t body orelse P nx n i Z' σ') ?_ n ⟨i, Z, σ, h0, S₀.ext X, .ofExt X, Lv.ofKp X.kp, ⟨fun a z => .inl z, fun a z => let ⟨o, e, _⟩ := (S₀.ext X).zl a z; ⟨o, e⟩⟩, fun a h => hsl ▸ h, hw⟩
  rintro n s ⟨i, Z', σ', hI, S, F, L, hZ, hlive, hw⟩
  have hloc : ∀ b, wr b → b ≠ C.env.locals := by
    rintro b hb rfl
    obtain ⟨m, ⟨o, _, _, e, _⟩, _⟩ := S₀.vars
    rw [hwr _ hb] at e; cases e
  have lv1 : ∀ {s1}, Mv wr s₀.gens.size s s1 → Lv s₀ s1 := by
    intro s1 m a e
    by_cases hb : wr a
    · exact hwr a hb
    · exact L a (m.lv a hb e)
  have step : ∀ {s1}, Mv wr s₀.gens.size s s1 → St C Z' σ' s1 ∧ Frame C Z s₀ Z' s1 ∧ Lv s₀ s1 := by
    intro s1 m
    refine ⟨S.mv (fun b o e => ?_) (fun b o e q => ?_), ⟨fun b o e n => m.kp b o (fun hb => ?_) (F.kp b o e n), F.zz, m.gk.gk F.gk, m.dr.trans F.dr, m.os.trans F.os⟩, lv1 m⟩
    · refine m.kp b o (fun hb => ?_) (S.keep b o e)
      have := S₀.keep b o e
      rw [hwr b hb] at this; cases this
    · refine m.kp b o (fun hb => ?_) e
      have := D.plain i s b o hI hb e
      rcases q with q | ⟨w, q⟩ | q
      · obtain ⟨o', e', _⟩ := S₀.zl b (this.1 q); rw [hwr b hb] at e'; cases e'
      · exact this.2 w q
      · exact hloc b hb q
    · rw [hwr b hb] at e; cases e
  cases n with
  | zero => exact hw.elim
  | succ n =>
    unfold WL at hw
    refine wpAny_mono (D.next i s (fun s1 => wpAny C.M A (execs orelse C.env) (fun f s₃ => R (.ok f) s₃) (notedBy C.M A C.env fun e s' => R (.error e) s') s1)
      (fun v s1 => wpAny C.M A (assign t C.env v) (fun _ s₂ => wpAny C.M A (execs body C.env) (fun f s₃ => match f with
            | .next | .cont => ∃ m, m < n + 1 ∧ (∃ i Z' σ', I i s₃ ∧ St C Z' σ' s₃ ∧ Frame C Z s₀ Z' s₃ ∧ Lv s₀ s₃ ∧ ZOk hs Z Z' s₃ ∧ (∀ a, hs.get? a ≠ none → s₃.heap.get? a ≠ none) ∧ WL C A t body orelse P nx m i Z' σ')
            | .brk => R (.ok .next) s₃
            | .ret v => R (.ok (.ret v)) s₃) (notedBy C.M A C.env fun e s' => R (.error e) s') s₂) (notedBy C.M A C.env fun e s' => R (.error e) s') s1) _ Z' hI hZ F.gk.1 ?_ ?_) (fun r s1 h => ?_) fun _ _ x => x
    · intro e s1 m
      rw [e] at hw
      obtain ⟨S1, F1, L1⟩ := step m
      exact hw s1 _ _ S1 fun fl f Z'' σ'' s' hp S' F' L' hf => hR fl f Z'' σ'' s' hp S' (F1.trans F' L1) (L1.trans L') hf
    · intro p j e v s1 m lv _ hr hI1
      rw [e] at hw
      obtain ⟨σ1, T, hw⟩ := hw
      obtain ⟨S1, F1, L1⟩ := step m
      refine assign_tgt ok hA T S1 hr fun s2 S2 F2 L2 _ => ?_
      refine hw s2 _ _ S2 fun fl f Z'' σ'' s3 hp S3 F3 L3 hf => ?_
      have F13 := F2.trans F3 L2
      have L13 := L2.trans L3
      have FF := F1.trans F13 L1
      have LL := L1.trans L13
      have lz : ∀ a, hs.get? a ≠ none → s3.heap.get? a ≠ none := fun a h q => hlive a h (lv a (L13 a q))
      have hfp' : ∀ b o, fp b → s1.heap.get? b = some o → s3.heap.get? b = some o := by
        intro b o hb e
        refine F13.kp b o e fun q => ?_
        obtain ⟨n1, o', e'⟩ := hfp b hb
        rcases q with q | q
        · rcases hZ.1 b q with q | q
          · exact n1 (.inl q)
          · rw [q] at e'; cases e'
        · exact n1 (.inr q)
      have hI3 : I j s3 := D.frame j s1 s3 hI1 hfp' F13.gk
      have hZ3 : ZOk hs Z Z'' s3 := ⟨fun a z => by
        rcases F13.zz a z with q | q
        · exact hZ.1 a q
        · refine .inr ?_
          cases h : hs.get? a with
          | none => rfl
          | some o => exact absurd (lv a q) (hlive a (by rw [h]; simp)), fun a z => let ⟨o, e, _⟩ := S3.zl a z; ⟨o, e⟩⟩
      cases fl with
      | next => simp only [FlIs] at hf; subst hf; exact ⟨n, Nat.lt_succ_self n, j, Z'', σ'', hI3, S3, FF, LL, hZ3, lz, hp⟩
      | cont => simp only [FlIs] at hf; subst hf; exact ⟨n, Nat.lt_succ_self n, j, Z'', σ'', hI3, S3, FF, LL, hZ3, lz, hp⟩
      | brk => simp only [FlIs] at hf; subst hf; exact hR .next _ _ _ _ hp S3 FF LL rfl
      | ret q => obtain ⟨v, rfl, r⟩ := hf; exact hR (.ret q) _ _ _ _ hp S3 FF LL ⟨v, rfl, r⟩
    · cases r with
      | none => exact h
      | some v => exact h

noncomputable def fpAll (C : Cx) (Z : Addr → Prop) (hs : Heap) (b : Addr) : Prop := ¬ Priv C Z b ∧ ∃ o, hs.get? b = some o
/-- an iterator that has just been made, between s and s' -/
noncomputable def SrcAt (C : Cx) (A : Around) (Z Z₁ : Addr → Prop) (t : Expr) (s : Shared) (it : Value) (s' : Shared) {ι : Type} (nx : ι → Option (PV × ι)) (i : ι) : Prop :=
  ∃ (wr : Addr → Prop) (I : ι → Shared → Prop), Ext s s' ∧ Src C.M A t it (fpAll C Z s'.heap) wr s.gens.size s'.heap Z₁ nx I ∧ (∀ b, wr b → s.heap.get? b = none ∧ ∃ o, s'.heap.get? b = some o) ∧ I i s' ∧
    ∀ i s (Q : Value → Shared → Prop) (E : Value → Shared → Prop), I i s → Q it s → wpAny C.M A (pyIter it) Q E s
noncomputable def Iter (C : Cx) (A : Around) (Z : Addr → Prop) (σ : List LV) (t iter : Expr) {ι : Type} (nx : ι → Option (PV × ι)) (i : ι) : Prop :=
  ∀ (s : Shared) (Q : Value → Shared → Prop) (E : Value → Shared → Prop), St C Z σ s → (∀ it s', SrcAt C A Z Z t s it s' nx i → Q it s') →
    wpAny C.M A (eval iter C.env) (fun x s₁ => wpAny C.M A (pyIter x) Q E s₁) E s
noncomputable def IterZ (C : Cx) (A : Around) (Z : Addr → Prop) (σ : List LV) (t iter : Expr) {ι : Type} (nx : ι → Option (PV × ι)) (i : ι) : Prop :=
  ∀ (s : Shared) (Q : Value → Shared → Prop) (E : Value → Shared → Prop), St C Z σ s →
    (∀ it s' Z₁, (∀ a, Z a → Z₁ a) → (∀ a, Z₁ a → Z a ∨ s.heap.get? a = none) → St C Z₁ σ s' → SrcAt C A Z Z₁ t s it s' nx i → Q it s') →
    wpAny C.M A (eval iter C.env) (fun x s₁ => wpAny C.M A (pyIter x) Q E s₁) E s
theorem Iter.z {t iter : Expr} {ι : Type} {nx : ι → Option (PV × ι)} {i : ι} (h : Iter C A Z σ t iter nx i) : IterZ C A Z σ t iter nx i :=
  fun s Q E S hQ => h s Q E S fun it s' D => hQ it s' Z (fun _ z => z) (fun _ z => .inl z) (let ⟨_, _, X, _⟩ := D; S.ext X) D

/-- a for statement over a source -/
theorem w1_for {t iter : Expr} {body orelse : List Stmt} {pos : Pos} {ι : Type} {nx : ι → Option (PV × ι)} {i : ι} {n : Nat} (ok : C.Ok) (hA : A.handled = none)
    (hsrc : Iter C A Z σ t iter nx i) (hw : WL C A t body orelse P nx n i Z σ) (hf : ∀ x, foldedSetIterable iter C.env x = pure x := by intro _; rfl) : W1 C A Z σ (.For t iter body orelse pos) P := by
  intro s Q E S hQ
  refine wpAny_For (hsrc s _ _ S fun it s' D => ?_) hf
  obtain ⟨wr, I, X, D, hwr, hI, _⟩ := D
  exact loop_code ok hA D (fun _ h => h) (fun b hb => (hwr b hb).1) S X (fun a e => none_kp X.kp e) rfl hI hw fun fl f Z' σ' s'' hp S' F L hf => hQ fl f Z' σ' s'' hp S' F L hf
end

-- lists as sources
noncomputable def uncons : List PV → Option (PV × List PV)
  | [] => none
  | p :: ps => some (p, ps)

section
variable {C : Cx} {A : Around} {Z : Addr → Prop} {σ : List LV} {P : Post}
/-- a loop's turns, over a list of items -/
noncomputable def WLs (C : Cx) (A : Around) (t : Expr) (body orelse : List Stmt) (P : Post) : List PV → (Addr → Prop) → List LV → Prop
  | [], Z, σ => WS C A Z σ orelse P
  | p :: ps, Z, σ => ∃ σ', Tgt C t p σ σ' ∧ WS C A Z σ' body fun fl Z' σ'' => match fl with
      | .next => WLs C A t body orelse P ps Z' σ''
      | .cont => WLs C A t body orelse P ps Z' σ''
      | .brk => P .next Z' σ''
      | .ret p => P (.ret p) Z' σ''
theorem WLs.wl {t : Expr} {body orelse : List Stmt} : ∀ {ps : List PV} {Z : Addr → Prop} {σ : List LV}, WLs C A t body orelse P ps Z σ → WL C A t body orelse P uncons (ps.length + 1) ps Z σ
  | [], _, _, h => h
  | p :: ps, _, _, ⟨σ', T, h⟩ => ⟨σ', T, ws_mono h fun fl Z' σ'' h => by
      cases fl with
      | next => exact WLs.wl h
      | cont => exact WLs.wl h
      | brk => exact h
      | ret => exact h⟩
theorem w1_fors {t iter : Expr} {body orelse : List Stmt} {pos : Pos} {ps : List PV} (ok : C.Ok) (hA : A.handled = none)
    (hsrc : Iter C A Z σ t iter uncons ps) (hw : WLs C A t body orelse P ps Z σ) (hf : ∀ x, foldedSetIterable iter C.env x = pure x := by intro _; rfl) : W1 C A Z σ (.For t iter body orelse pos) P :=
  w1_for ok hA hsrc hw.wl hf
end
end Py

namespace Py

section
variable {C : Cx} {A : Around} {Z Z₁ : Addr → Prop} {σ : List LV}

theorem At.of_mem : ∀ {l : List Str} {x : Str}, x ∈ l → ∃ n, At l n x
  | y :: l, x, h => by
    rcases List.mem_cons.mp h with rfl | h
    · exact ⟨0, .here⟩
    · obtain ⟨n, q⟩ := At.of_mem h; exact ⟨n + 1, .there q⟩

theorem VarIs.cell {env : Env} {h : Heap} {Z : Addr → Prop} {m : Str → Option Value} {x : Str} {l : LV} {c : Addr} (hk : env.kindOf x ≠ some .local) (hc : env.cells.lookup x = some c) (V : VarIs env h Z m x l) : ∃ w, h.IsCell c w := by
  cases l with
  | unb => exact V hk c hc
  | v p =>
    obtain ⟨v, q | ⟨_, c', q1, q2⟩, _⟩ := V
    · exact absurd q.1 hk
    · rw [hc] at q1; cases q1; exact ⟨_, q2⟩
  | own a xs =>
    obtain ⟨q | ⟨_, c', q1, q2⟩, _⟩ := V
    · exact absurd q.1 hk
    · rw [hc] at q1; cases q1; exact ⟨_, q2⟩

theorem St.cells {s : Shared} (ok : C.Ok) (S : St C Z σ s) : ∀ x ∈ C.env.cells, ∃ w, s.heap.IsCell x.2 w := by
  intro x hx
  obtain ⟨h1, h2, h3⟩ := ok.cov x hx
  obtain ⟨m, hn, V⟩ := S.vars
  obtain ⟨n, hi⟩ := At.of_mem h1
  have hlt : n < σ.length := by rw [← Vars.len V]; exact hi.len
  exact (V.get hi (List.getElem?_eq_getElem hlt)).cell h2 h3

theorem St.priv_live {s : Shared} {b : Addr} (ok : C.Ok) (S : St C Z σ s) (h : Priv C Z b) : ∃ o, s.heap.get? b = some o := by
  rcases h with h | rfl | ⟨x, hx, rfl⟩
  · obtain ⟨o, e, _⟩ := S.zl b h; exact ⟨o, e⟩
  · obtain ⟨m, ⟨o, _, _, e, _⟩, _⟩ := S.vars; exact ⟨o, e⟩
  · obtain ⟨w, o, e, _⟩ := S.cells ok x hx; exact ⟨o, e⟩
theorem St.npriv {s : Shared} {b : Addr} (ok : C.Ok) (S : St C Z σ s) (h : s.heap.get? b = none) : ¬ Priv C Z b := fun q => by
  obtain ⟨o, e⟩ := S.priv_live ok q; rw [h] at e; cases e
theorem St.seq_npriv {s : Shared} {b : Addr} {o : Obj} (ok : C.Ok) (S : St C Z σ s) (e : s.heap.get? b = some o) (q : SeqObj o) (z : ¬ Z b) : ¬ Priv C Z b := by
  rintro (h | rfl | ⟨x, hx, rfl⟩)
  · exact z h
  · obtain ⟨m, hn, _⟩ := S.vars; exact ns_seq hn e q
  · obtain ⟨w, hc⟩ := S.cells ok x hx; exact cell_seq hc e q

noncomputable def Base (C : Cx) (Z : Addr → Prop) (wr : List Addr) (hs : Heap) (s : Shared) : Prop := ∀ b o, ¬ Priv C Z b → b ∉ wr → hs.get? b = some o → s.heap.get? b = some o

theorem rep_chg {sh : Shared} {s' : Heap} {wr : List Addr} {Z' : Addr → Prop} (ok : C.Ok) (S : St C Z₁ σ sh) (hZ : ∀ a, Z a → Z₁ a) (base : ∀ b o, ¬ Priv C Z b → b ∉ wr → sh.heap.get? b = some o → s'.get? b = some o)
    (zok : ∀ a, Z' a → Z₁ a ∨ sh.heap.get? a = none) (hpl : ∀ b ∈ wr, ∀ o, sh.heap.get? b = some o → SeqObj o → Z₁ b) :
    ∀ a o, sh.heap.get? a = some o → SeqObj o → ¬ Z₁ a → s'.get? a = some o ∧ ¬ Z' a := by
  intro a o e q nz
  refine ⟨base a o (fun p => S.seq_npriv ok e q nz ?_) (fun h => nz (hpl a h o e q)) e, fun z => ?_⟩
  · rcases p with p | p
    · exact .inl (hZ a p)
    · exact .inr p
  · rcases zok a z with z | z
    · exact nz z
    · rw [e] at z; cases z

theorem src_walks {sh : Shared} {I : Addr} {fp wr : List Addr} {n N : Nat} {P : Nat → Value → Prop} {St' : Nat → Heap → Prop} {t : Expr} (ok : C.Ok) (S : St C Z₁ σ sh) (hZ : ∀ a, Z a → Z₁ a) (W : Walks C.prog C.w A I fp wr n P St')
    (go : ∀ i (s : Shared) v (Q : Unit → Shared → Prop) (E : Value → Shared → Prop), St' i s.heap → Q () s → wpAny C.M A (letOwnedTupleGo t (.ref I) v) Q E s)
    (ps : List PV) (hn : ps.length = n) (hP : ∀ i v p, ps[i]? = some p → P i v → Rep sh.heap Z₁ p v)
    (hfp : ∀ b ∈ fp, fpAll C Z sh.heap b) (hlo : ∀ i h b, St' i h → b ∈ wr → ∃ o, h.get? b = some o ∧ ¬ SeqObj o ∧ ∀ w, o.data ≠ .cell w) (h0 : St' 0 sh.heap) :
    Src C.M A t (.ref I) (fpAll C Z sh.heap) (· ∈ wr) N sh.heap Z₁ uncons (fun l s => ∃ i, i ≤ n ∧ l = ps.drop i ∧ St' i s.heap ∧ Base C Z wr sh.heap s) where
  sub := fun b hb => hfp b (W.sub b hb)
  plain := by
    rintro l s b o ⟨i, _, _, hs, _⟩ hb e
    obtain ⟨o', e', q1, q2⟩ := hlo i _ b hs hb
    rw [e] at e'; cases e'
    exact ⟨fun q => absurd q q1, q2⟩
  frame := by
    rintro l s s' ⟨i, hi, hl, hs, B⟩ hk _
    exact ⟨i, hi, hl, W.frame i _ _ hs fun b hb o e => hk b o (hfp b hb) e, fun b o np nw e => hk b o ⟨np, o, e⟩ (B b o np nw e)⟩
  next := by
    rintro l s Qn Qs E Z' ⟨i, hi, rfl, hs, B⟩ zok hN hn' hs'
    by_cases h : i < n
    · have hi' : i < ps.length := by omega
      have e : ps.drop i = ps[i] :: ps.drop (i + 1) := List.drop_eq_getElem_cons hi'
      refine W.item i s _ E h hs fun v h' tk hp hst hk => ?_
      refine go (i + 1) _ v _ _ hst ?_
      refine hs' ps[i] (ps.drop (i + 1)) (by rw [e]; rfl) v _ ⟨fun b o nb eb => hk b o nb eb, fun a na ea => ?_, .refl _ _, rfl, rfl⟩ (fun a ea => ?_) (fun b hb hz => ?_) ?_ ⟨i + 1, by omega, rfl, hst, fun b o np nw eb => hk b o nw (B b o np nw eb)⟩
      · cases q : s.heap.get? a with
        | none => rfl
        | some o => rw [show h'.get? a = some o from hk a o na q] at ea; cases ea
      · by_cases hb : a ∈ wr
        · obtain ⟨o, e1, _⟩ := hlo _ _ a hst hb
          rw [show h'.get? a = some o from e1] at ea; cases ea
        · cases q : s.heap.get? a with
          | none => rfl
          | some o => rw [show h'.get? a = some o from hk a o hb q] at ea; cases ea
      · obtain ⟨o1, e1, q1⟩ := S.zl b hz
        obtain ⟨o2, e2, q2, _⟩ := hlo _ _ b h0 hb
        rw [e1] at e2; cases e2
        exact absurd q1 q2
      · refine Rep.chg (rep_chg (wr := wr) ok S hZ (fun b o np nw e => hk b o nw (B b o np nw e)) zok.1 fun b hb o e q => ?_) _ _ (hP i v ps[i] (List.getElem?_eq_getElem hi') hp)
        obtain ⟨o', e', q1, _⟩ := hlo 0 _ b h0 hb
        rw [e] at e'; cases e'
        exact absurd q q1
    · have : i = n := by omega
      subst this
      refine W.done s _ E hs fun h' tk hk => ?_
      refine hn' (by rw [List.drop_eq_nil_of_le (by omega)]; rfl) _ ⟨fun b o nb eb => hk b o nb eb, fun a na ea => ?_, .refl _ _, rfl, rfl⟩
      cases q : s.heap.get? a with
      | none => rfl
      | some o => rw [show h'.get? a = some o from hk a o na q] at ea; cases ea

theorem src_walksT {sh : Shared} {I : Addr} {fp wr : List Addr} {n N : Nat} {Pt : Nat → Array Value → Prop} {St' : Nat → Heap → Prop} {Mid : Nat → Addr → Heap → Prop} {es : List Expr} {k : Nat} {pos : Pos} (ok : C.Ok) (S : St C Z₁ σ sh) (hZ : ∀ a, Z a → Z₁ a) (W : WalksT C.prog C.w A I fp wr n Pt St' Mid)
    (ps : List PV) (hn : ps.length = n) (hP : ∀ i vals p, ps[i]? = some p → Pt i vals → ∃ qs, p = .tup qs ∧ Reps sh.heap Z₁ qs vals.toList)
    (hfp : ∀ b ∈ fp, fpAll C Z sh.heap b) (hlo : ∀ i h b, St' i h → b ∈ wr → ∃ o, h.get? b = some o ∧ (SeqObj o ↔ Z₁ b) ∧ ∀ w, o.data ≠ .cell w) (h0 : St' 0 sh.heap) :
    Src C.M A (.Tuple es k pos) (.ref I) (fpAll C Z sh.heap) (· ∈ wr) N sh.heap Z₁ uncons (fun l s => ∃ i, i ≤ n ∧ l = ps.drop i ∧ St' i s.heap ∧ Base C Z wr sh.heap s) where
  sub := fun b hb => hfp b (W.sub b hb)
  plain := by
    rintro l s b o ⟨i, _, _, hs, _⟩ hb e
    obtain ⟨o', e', q1, q2⟩ := hlo i _ b hs hb
    rw [e] at e'; cases e'
    exact ⟨q1.mp, q2⟩
  frame := by
    rintro l s s' ⟨i, hi, hl, hs, B⟩ hk _
    exact ⟨i, hi, hl, W.frame i _ _ hs fun b hb o e => hk b o (hfp b hb) e, fun b o np nw e => hk b o ⟨np, o, e⟩ (B b o np nw e)⟩
  next := by
    rintro l s Qn Qs E Z' ⟨i, hi, rfl, hs, B⟩ zok hN hn' hs'
    by_cases h : i < n
    · have hi' : i < ps.length := by omega
      have e : ps.drop i = ps[i] :: ps.drop (i + 1) := List.drop_eq_getElem_cons hi'
      refine W.item i s _ E h hs fun T vals h' tk hp hT hit hmid hk => ?_
      refine W.go es k pos i T { s with heap := h', toks := tk } _ E hmid fun h2 hst hk2 => ?_
      have hk' : ∀ b o, b ∉ wr → s.heap.get? b = some o → h2.get? b = some o := fun b o nb eb => hk2 b o nb (hk b o nb eb)
      refine hs' ps[i] (ps.drop (i + 1)) (by rw [e]; rfl) (.ref T) _ ⟨fun b o nb eb => hk' b o nb eb, fun a na ea => ?_, .refl _ _, rfl, rfl⟩ (fun a ea => ?_) (fun b hb hz => ?_) ?_ ⟨i + 1, by omega, rfl, hst, fun b o np nw eb => hk' b o nw (B b o np nw eb)⟩
      · cases q : s.heap.get? a with
        | none => rfl
        | some o => rw [show h2.get? a = some o from hk' a o na q] at ea; cases ea
      · by_cases hb : a ∈ wr
        · obtain ⟨o, e1, _⟩ := hlo _ _ a hst hb
          rw [show h2.get? a = some o from e1] at ea; cases ea
        · cases q : s.heap.get? a with
          | none => rfl
          | some o => rw [show h2.get? a = some o from hk' a o hb q] at ea; cases ea
      · obtain ⟨o2, e2, q2, _⟩ := hlo _ _ b hst hb
        exact ⟨o2, e2, q2.mpr hz⟩
      · obtain ⟨qs, eq, hr⟩ := hP i vals ps[i] (List.getElem?_eq_getElem hi') hp
        rw [eq]
        simp only [Rep]
        obtain ⟨oT, eT, cT, nT, dT⟩ := hit
        refine ⟨T, vals.toList, rfl, ⟨oT, hk2 T oT (W.apart _ _ _ hmid) eT, cT, nT, by simpa using dT⟩, fun z => ?_, ?_⟩
        · obtain ⟨o, e⟩ := zok.2 T z
          exact absurd (Heap.lt_size e) (Nat.not_lt.mpr hT)
        · refine Reps.chg (rep_chg (wr := wr) ok S hZ (fun b o np nw e => hk' b o nw (B b o np nw e)) zok.1 fun b hb o e q => ?_) _ _ hr
          obtain ⟨o', e', q1, _⟩ := hlo 0 _ b h0 hb
          rw [e] at e'; cases e'
          exact q1.mp q
    · have : i = n := by omega
      subst this
      refine W.done s _ E hs fun h' tk hk => ?_
      refine hn' (by rw [List.drop_eq_nil_of_le (by omega)]; rfl) _ ⟨fun b o nb eb => hk b o nb eb, fun a na ea => ?_, .refl _ _, rfl, rfl⟩
      cases q : s.heap.get? a with
      | none => rfl
      | some o => rw [show h'.get? a = some o from hk a o na q] at ea; cases ea
end
end Py

namespace Py

section
variable {C : Cx} {A : Around} {Z Z₁ : Addr → Prop} {σ : List LV}

theorem evArgsL {pos : Pos} {f : Value} : ∀ {es : List Expr} {ps : List PV}, EvL C A Z σ es ps → ∀ {s : Shared} {Q : Args → Shared → Prop} {E : Value → Shared → Prop}, St C Z σ s →
    (∀ vs s', Ext s s' → Reps s'.heap Z ps vs → Q ⟨vs, []⟩ s') → wpAny C.M A (evalArgs f true (backTo pos (starEach es C.env)) []) Q E s := by
  intro es ps x s Q E S hQ
  have := fun Q' => evl x (pos := pos) (Q := Q') (E := E) S
  cases x with
  | nil => exact evalArgs_nil3 (hQ [] s (.refl s) .nil)
  | cons he t hs =>
    rw [hs, backTo_cons]
    refine evalArgs_plain ?_
    rw [← backTo_cons (pos := pos), ← hs]
    exact this _ hQ
theorem evl_plain {pos : Pos} : ∀ {es : List Expr} {ps : List PV}, EvL C A Z σ es ps → (backTo pos (starEach es C.env)).any (·.1) = false := by
  intro es ps x
  induction x with
  | nil => rfl
  | cons he t hs ih => rw [hs, backTo_cons, List.any_cons]; exact ih

theorem call_raw {x : Str} {p pos : Pos} {T : String} {es : List Expr} {ps : List PV} {s : Shared} {Q : Value → Shared → Prop} {E : Value → Shared → Prop} (ok : C.Ok) (g : GV C x (.type T)) (ha : EvL C A Z σ es ps) (S : St C Z σ s)
    (h : ∀ vs s1, Ext s s1 → Reps s1.heap Z ps vs → wpAny C.M A (call (.type T) vs) Q E s1) : wpAny C.M A (eval (.Call (.Name x p) es [] pos) C.env) Q E s :=
  wpAny_Call_NameR (g _ _ _ _ _ (ok.mono _ _ ok.w0 S.keep) (PySem.callWith_type (evl_plain ha) (evArgsL ha S fun vs s1 X r1 => h vs s1 X r1)))

/-- ints from a on -/
noncomputable def rangeP (a : Int) (n : Nat) : List PV := (List.range n).map fun (i : Nat) => PV.int (a + i)
theorem rangeP_get {a : Int} {n i : Nat} {p : PV} (h : (rangeP a n)[i]? = some p) : p = .int (a + i) := by
  unfold rangeP at h
  rw [List.getElem?_map] at h
  cases q : (List.range n)[i]? with
  | none => rw [q] at h; cases h
  | some j =>
    rw [q] at h
    obtain ⟨h1, h2⟩ := List.getElem?_eq_some_iff.mp q
    simp only [List.getElem_range] at h2
    subst h2
    simp only [Option.map_some] at h
    cases h; rfl

theorem fresh_size {s : Shared} {b : Addr} (h : s.heap.objs.size ≤ b) : s.heap.get? b = none := by
  cases e : s.heap.get? b with
  | none => rfl
  | some o => exact absurd (Heap.lt_size e) (Nat.not_lt.mpr h)

theorem range_at {s s2 : Shared} {a : Int} {n : Nat} {x : Str} {px : Pos} {I : Addr} (ok : C.Ok) (hh : A.handled = none) (S : St C Z σ s) (X : Ext s s2) (hI : s.heap.get? I = none) (hit : IsRangeIter s2.heap I a n 1) : SrcAt C A Z Z (.Name x px) s (.ref I) s2 uncons (rangeP a n) := by
  have h0 : IsRangeIter s2.heap I (a + ((0 : Nat) : Int) * 1) ((n : Int) - ((0 : Nat) : Int)) 1 := by simpa using hit
  have W := Walks.range (prog := C.prog) (w := C.w) hh I a 1 n
  refine ⟨_, _, X, src_walks ok (S.ext X) (fun _ z => z) W (fun _ _ _ _ _ _ h => wpAny_pure h) (rangeP a n) (by simp [rangeP]) (fun i v p e q => ?_) (fun b hb => ?_) (fun i h b st hb => ?_) h0, fun b hb => ?_, ⟨0, Nat.zero_le _, rfl, h0, fun _ _ _ _ e => e⟩, fun l s Q E ⟨i, _, _, st, _⟩ h => W.self i s Q E st h⟩
  · rw [rangeP_get e]
    obtain ⟨t, rfl⟩ := q
    exact ⟨t, by rw [Int.mul_one]⟩
  · rw [List.mem_singleton] at hb; subst hb
    exact ⟨S.npriv ok hI, _, hit⟩
  · rw [List.mem_singleton] at hb; subst hb
    exact ⟨_, st, (by rintro ⟨_, _, q⟩; cases q), (by intro w q; cases q)⟩
  · rw [List.mem_singleton] at hb; subst hb
    exact ⟨hI, _, hit⟩

theorem range_go {s s1 : Shared} {a b : Int} {n : Nat} {t u v : Tok} {r : Addr} {x : Str} {px : Pos} {Q : Value → Shared → Prop} {E : Value → Shared → Prop} (ok : C.Ok) (hh : A.handled = none) (S : St C Z σ s) (X : Ext s s1) (hr : IsRange s1.heap r a b 1 t u v) (hn : b = a + n) (ha : -(2 ^ 62) ≤ a) (hb : b < 2 ^ 62)
    (hQ : ∀ it s', SrcAt C A Z Z (.Name x px) s it s' uncons (rangeP a n) → Q it s') : wpAny C.M A (pyIter (.ref r)) Q E s1 := by
  refine wpAny_pyIter_range hr (small_one ha (by omega) (by omega) hb) (hQ _ _ ?_)
  refine range_at ok hh S (X.trans (Ext.push s1 _)) (none_kp X.kp (size_none _)) ?_
  have e : Builtin.Range.rangeSize a b 1 = n := by rw [rangeSize_one]; split <;> omega
  rw [e]
  exact Heap.get?_push_size _ rfl

theorem iter_range1 {e : Expr} {n : Int} {k : Nat} {x : Str} {px p pos : Pos} (ok : C.Ok) (hh : A.handled = none) (g : GV C "range" (.type "range")) (h : EvL C A Z σ [e] [.int n]) (hn : n = k) (h1 : n < 2 ^ 62) : Iter C A Z σ (.Name x px) (.Call (.Name "range" p) [e] [] pos) uncons (rangeP 0 k) := by
  intro s Q E S hQ
  refine call_raw ok g h S fun vs s1 X r => ?_
  simp only [Reps, Rep] at r
  obtain ⟨v, r, rfl, ⟨t, rfl⟩, rfl⟩ := r
  exact call_range_1 (range_go ok hh S (X.trans (Ext.heap (fun _ _ e => Heap.get?_push_of_some _ e) _)) (IsRange.new _ _ _ _ _ _ _) (by omega) (by decide) h1 hQ)
theorem iter_range2 {e f : Expr} {a b : Int} {k : Nat} {x : Str} {px p pos : Pos} (ok : C.Ok) (hh : A.handled = none) (g : GV C "range" (.type "range")) (h : EvL C A Z σ [e, f] [.int a, .int b]) (hn : b = a + k) (h0 : -(2 ^ 62) ≤ a) (h1 : b < 2 ^ 62) : Iter C A Z σ (.Name x px) (.Call (.Name "range" p) [e, f] [] pos) uncons (rangeP a k) := by
  intro s Q E S hQ
  refine call_raw ok g h S fun vs s1 X r => ?_
  simp only [Reps, Rep] at r
  obtain ⟨v, r, rfl, ⟨t, rfl⟩, v', r', rfl, ⟨t', rfl⟩, rfl⟩ := r
  exact call_range_2 (range_go ok hh S (X.trans (Ext.heap (fun _ _ e => Heap.get?_push_of_some _ e) _)) (IsRange.new _ _ _ _ _ _ _) hn h0 h1 hQ)

theorem iter_list {e t : Expr} {k : RK} {xs : List PV} (ok : C.Ok) (hh : A.handled = none) (h : Ev C A Z σ e k (.list xs)) (hk : k ≠ .b) : Iter C A Z σ t e uncons xs := by
  intro s Q E S hQ
  refine h s _ E S fun v s1 X r => ?_
  have r' : Rep s1.heap Z (.list xs) v := by
    cases k with
    | b => exact absurd rfl hk
    | f => exact r
    | n => exact r.1
  simp only [Rep] at r'
  obtain ⟨l, vs, rfl, hl, hz, rs⟩ := r'
  refine wpAny_pyIter_list hl.isList (hQ _ _ ?_)
  have X2 := X.trans (Ext.push s1 { cls := .type "list_iterator", data := .fields #[.ref l, .int 0 0] })
  have S2 := S.ext X2
  have hit : Heap.IsListIter (s1.heap.push { cls := .type "list_iterator", data := .fields #[.ref l, .int 0 0] }) s1.heap.objs.size l 0 := ⟨_, Heap.get?_push_size _ rfl, rfl, rfl⟩
  have hlt : l < s1.heap.objs.size := let ⟨n, e⟩ := hl; Heap.lt_size e
  have W := Walks.list (prog := C.prog) (w := C.w) hh s1.heap.objs.size l (Nat.ne_of_lt hlt) vs.toArray
  have hI : s.heap.get? s1.heap.objs.size = none := none_kp X.kp (size_none _)
  have hl2 : Heap.IsList (s1.heap.push { cls := .type "list_iterator", data := .fields #[.ref l, .int 0 0] }) l vs.toArray := hl.isList.push _
  have h0 := And.intro hit hl2
  refine ⟨_, _, X2, src_walks ok S2 (fun _ z => z) W (fun i s v Q E st h => letGo_listiter st.1 h) xs (by rw [List.size_toArray, rs.length]) (fun i v p e q => ?_) (fun b hb => ?_) (fun i h b st hb => ?_) h0, fun b hb => ?_, ⟨0, Nat.zero_le _, rfl, h0, fun _ _ _ _ e => e⟩, fun l s Q E ⟨i, _, _, st, _⟩ h => W.self i s Q E st h⟩
  · obtain ⟨w, hw, rw'⟩ := (rs.kp (Ext.push s1 _).kp).get i e
    have : vs[i]? = some v := by simpa using q
    rw [hw] at this; cases this
    exact rw'
  · simp only [List.mem_cons, List.not_mem_nil, or_false] at hb
    rcases hb with rfl | rfl
    · exact ⟨S.npriv ok hI, _, Heap.get?_push_size _ rfl⟩
    · obtain ⟨n, e⟩ := hl
      exact ⟨(S.ext X).seq_npriv ok e ⟨_, _, rfl⟩ hz, _, Heap.get?_push_of_some _ e⟩
  · rw [List.mem_singleton] at hb; subst hb
    obtain ⟨⟨o, e, _, d⟩, _⟩ := st
    exact ⟨o, e, (by rintro ⟨_, _, q⟩; rw [d] at q; cases q), (by intro w q; rw [d] at q; cases q)⟩
  · rw [List.mem_singleton] at hb; subst hb
    exact ⟨hI, _, Heap.get?_push_size _ rfl⟩

/-- items with their places -/
noncomputable def enumL : Nat → List PV → List PV
  | _, [] => []
  | k, p :: ps => .tup [.int k, p] :: enumL (k + 1) ps
theorem enumL_length : ∀ (ps : List PV) (k : Nat), (enumL k ps).length = ps.length
  | [], _ => rfl
  | p :: ps, k => by simp [enumL, enumL_length ps]
theorem enumL_get : ∀ (ps : List PV) (k i : Nat), (enumL k ps)[i]? = (ps[i]?).map fun p => .tup [.int ((k + i : Nat) : Int), p]
  | [], _, _ => by simp [enumL]
  | p :: ps, k, 0 => by simp [enumL]
  | p :: ps, k, i + 1 => by simp only [enumL, List.getElem?_cons_succ, enumL_get ps]; rw [show k + 1 + i = k + (i + 1) by omega]

theorem enum_at {s s2 : Shared} {it : Addr} {fp : List Addr} {n : Nat} {P : Nat → Value → Prop} {St' : Nat → Heap → Prop} {es : List Expr} {k : Nat} {pos : Pos} {e : Addr} {ps : List PV} (ok : C.Ok) (S : St C Z σ s) (X : Ext s s2) (D : Draws C.prog C.w A.in1 it fp n P St') (hei : e ≠ it) (hef : e ∉ fp) (hif : it ∈ fp)
    (he0 : s.heap.get? e = none) (hi0 : s.heap.get? it = none) (he : IsEnum s2.heap e it 0 .none) (h0 : St' 0 s2.heap) (hn : ps.length = n) (hP : ∀ i v p, ps[i]? = some p → P i v → Rep s2.heap Z p v) (hfp : ∀ b ∈ fp, fpAll C Z s2.heap b)
    (hlo : ∀ i h, St' i h → ∃ o, h.get? it = some o ∧ ¬ SeqObj o ∧ ∀ w, o.data ≠ .cell w) : SrcAt C A Z Z (.Tuple es k pos) s (.ref e) s2 uncons (enumL 0 ps) := by
  have W := WalksT.enumerateD D e hei hef hif
  have S2 := S.ext X
  have nz : ∀ a, s.heap.get? a = none → ¬ Z a := fun a h z => by obtain ⟨o, q, _⟩ := S.zl a z; rw [h] at q; cases q
  have hs0 : (∃ old, IsEnum s2.heap e it ((0 : Nat) : Int) old) ∧ St' 0 s2.heap := ⟨⟨.none, by simpa using he⟩, h0⟩
  refine ⟨_, _, X, src_walksT ok S2 (fun _ z => z) W (enumL 0 ps) (by rw [enumL_length]; exact hn) (fun i vals p ep q => ?_) (fun b hb => ?_) (fun i h b st hb => ?_) hs0, fun b hb => ?_, ⟨0, Nat.zero_le _, rfl, hs0, fun _ _ _ _ e => e⟩, fun l s Q E ⟨i, _, _, st, _⟩ h => W.self i s Q E st h⟩
  · rw [enumL_get] at ep
    obtain ⟨t, v, hp, rfl⟩ := q
    cases ei : ps[i]? with
    | none => rw [ei] at ep; cases ep
    | some p' =>
      rw [ei] at ep; simp only [Option.map_some] at ep; cases ep
      exact ⟨_, rfl, .cons ⟨t, by simp⟩ (.one (hP i v p' ei hp))⟩
  · rcases List.mem_cons.mp hb with rfl | hb
    · exact ⟨S.npriv ok he0, _, he⟩
    · exact hfp b hb
  · simp only [List.mem_cons, List.not_mem_nil, or_false] at hb
    rcases hb with rfl | rfl
    · obtain ⟨⟨old, q⟩, _⟩ := st
      exact ⟨_, q, ⟨(by rintro ⟨_, _, q⟩; cases q), fun z => absurd z (nz _ he0)⟩, (by intro w q; cases q)⟩
    · obtain ⟨o, q1, q2, q3⟩ := hlo i h st.2
      exact ⟨o, q1, ⟨fun z => absurd z q2, fun z => absurd z (nz _ hi0)⟩, q3⟩
  · simp only [List.mem_cons, List.not_mem_nil, or_false] at hb
    rcases hb with rfl | rfl
    · exact ⟨he0, _, he⟩
    · obtain ⟨o, q1, _⟩ := hlo 0 _ h0
      exact ⟨hi0, o, q1⟩

theorem iter_enum_list {e : Expr} {xs : List PV} {es : List Expr} {k : Nat} {pt p pos : Pos} (ok : C.Ok) (hh : A.handled = none) (g : GV C "enumerate" (.type "enumerate")) (h : EvL C A Z σ [e] [.list xs]) : Iter C A Z σ (.Tuple es k pt) (.Call (.Name "enumerate" p) [e] [] pos) uncons (enumL 0 xs) := by
  intro s Q E S hQ
  refine call_raw ok g h S fun vs s1 X r => ?_
  simp only [Reps, Rep] at r
  obtain ⟨v, r, rfl, ⟨l, vs, rfl, hl, hz, rs⟩, rfl⟩ := r
  refine call_enumerate_list hl.isList fun h' he hit hsz hk => ?_
  refine wpAny_pyIter_enum he (hQ _ _ ?_)
  have X2 : Ext s { s1 with heap := h' } := X.trans (Ext.heap' hk)
  have hlt : l < s1.heap.objs.size := let ⟨n, e⟩ := hl; Heap.lt_size e
  have hne : l ≠ s1.heap.objs.size := Nat.ne_of_lt hlt
  have n1 : s.heap.get? s1.heap.objs.size = none := none_kp X.kp (size_none _)
  have D := Draws.list (prog := C.prog) (w := C.w) (A := A.in1) hh s1.heap.objs.size l hne vs.toArray
  have hl2 : h'.IsList l vs.toArray := (hl.at fun o e => hk l o e).isList
  refine enum_at ok S X2 D (Nat.succ_ne_self _) (fun q => by rcases List.mem_cons.mp q with q | q; exact absurd q (Nat.succ_ne_self _); exact absurd (List.mem_singleton.mp q) (Nat.ne_of_gt (Nat.lt_succ_of_lt hlt))) (by simp) (none_kp X.kp (fresh_size (Nat.le_succ _))) n1 he (And.intro hit hl2) (by rw [List.size_toArray, rs.length]) (fun i v p ei q => ?_) (fun b hb => ?_) (fun i h st => ?_)
  · obtain ⟨w, hw, rw'⟩ := (rs.kp hk).get i ei
    have : vs[i]? = some v := by simpa using q
    rw [hw] at this; cases this
    exact rw'
  · simp only [List.mem_cons, List.not_mem_nil, or_false] at hb
    rcases hb with rfl | rfl
    · obtain ⟨o, e, _⟩ := hit; exact ⟨S.npriv ok n1, o, e⟩
    · obtain ⟨n, e⟩ := hl
      exact ⟨(S.ext X).seq_npriv ok e ⟨_, _, rfl⟩ hz, _, hk _ _ e⟩
  · obtain ⟨⟨o, e, _, d⟩, _⟩ := st
    exact ⟨o, e, (by rintro ⟨_, _, q⟩; rw [d] at q; cases q), (by intro w q; rw [d] at q; cases q)⟩

/-- the characters of a text -/
noncomputable def charsP (x : Str) : List PV := x.cps.toList.map fun c => PV.str ⟨#[c]⟩
end
end Py

namespace Py

theorem cells_mem {x : Str} {c : Addr} : ∀ {ns : List (Str × NameKind)} {n : Nat} {acc : List (Str × Addr)}, (x, c) ∈ cellsFrom n ns acc → ((x, .cell) ∈ ns ∧ n ≤ c) ∨ (x, c) ∈ acc
  | [], _, _, h => .inr h
  | (y, k) :: r, n, acc, h => by
    unfold cellsFrom at h
    split at h
    · rename_i hk
      rw [beq_iff_eq] at hk
      subst hk
      rcases cells_mem h with ⟨q, q2⟩ | q
      · exact .inl ⟨.tail _ q, by omega⟩
      · rcases List.mem_cons.mp q with q | q
        · cases q; exact .inl ⟨.head _, Nat.le_refl _⟩
        · exact .inr q
    · rcases cells_mem h with ⟨q, q2⟩ | q
      · exact .inl ⟨.tail _ q, q2⟩
      · exact .inr q
theorem cells_acc {y : Str × Addr} : ∀ {ns : List (Str × NameKind)} {n : Nat} {acc : List (Str × Addr)}, y ∈ acc → y ∈ cellsFrom n ns acc
  | [], _, _, h => h
  | (z, k) :: r, n, acc, h => by
    unfold cellsFrom
    split
    · exact cells_acc (.tail _ h)
    · exact cells_acc h
theorem cells_ex {x : Str} : ∀ {ns : List (Str × NameKind)} {n : Nat} {acc : List (Str × Addr)}, (x, .cell) ∈ ns → ∃ c, (x, c) ∈ cellsFrom n ns acc
  | (y, k) :: r, n, acc, h => by
    rcases List.mem_cons.mp h with h | h
    · cases h
      refine ⟨n, ?_⟩
      unfold cellsFrom
      rw [if_pos (by decide)]
      exact cells_acc (.head _)
    · unfold cellsFrom
      split
      · exact cells_ex h
      · exact cells_ex h
theorem cells_names : ∀ {ns : List (Str × NameKind)} {n : Nat} {acc : List (Str × Addr)}, (ns.map (·.1)).Nodup → (acc.map (·.1)).Nodup → (∀ y ∈ acc, (y.1, NameKind.cell) ∉ ns) → ((cellsFrom n ns acc).map (·.1)).Nodup
  | [], _, _, _, h, _ => h
  | (y, k) :: r, n, acc, h1, h2, h3 => by
    rw [List.map_cons, List.nodup_cons] at h1
    unfold cellsFrom
    split
    · rename_i hk
      rw [beq_iff_eq] at hk
      subst hk
      refine cells_names h1.2 ?_ fun z hz q => ?_
      · rw [List.map_cons, List.nodup_cons]
        refine ⟨fun q => ?_, h2⟩
        obtain ⟨z, hz, e⟩ := List.mem_map.mp q
        exact h3 z hz (by rw [e]; exact .head _)
      · rcases List.mem_cons.mp hz with rfl | hz
        · exact h1.1 (List.mem_map.mpr ⟨_, q, rfl⟩)
        · exact h3 z hz (.tail _ q)
    · exact cells_names h1.2 h2 fun z hz q => h3 z hz (.tail _ q)
theorem cells_apart : ∀ {ns : List (Str × NameKind)} {n : Nat} {acc : List (Str × Addr)}, (acc.Pairwise fun x y => x.2 ≠ y.2) → (∀ y ∈ acc, y.2 < n) → (cellsFrom n ns acc).Pairwise fun x y => x.2 ≠ y.2
  | [], _, _, h, _ => h
  | (y, k) :: r, n, acc, h1, h2 => by
    unfold cellsFrom
    split
    · refine cells_apart (List.pairwise_cons.mpr ⟨fun z hz => Nat.ne_of_gt (h2 z hz), h1⟩) fun z hz => ?_
      rcases List.mem_cons.mp hz with rfl | hz
      · exact Nat.lt_succ_self _
      · exact Nat.lt_succ_of_lt (h2 z hz)
    · exact cells_apart h1 h2
theorem lookup_of_mem {α : Type} {x : Str} {c : α} : ∀ {l : List (Str × α)}, (l.map (·.1)).Nodup → (x, c) ∈ l → l.lookup x = some c
  | (y, d) :: r, h, m => by
    rw [List.map_cons, List.nodup_cons] at h
    rcases List.mem_cons.mp m with q | q
    · cases q; simp
    · have : x ≠ y := fun e => h.1 (e ▸ List.mem_map.mpr ⟨_, q, rfl⟩)
      rw [List.lookup_cons, show (x == y) = false by simpa using this]
      exact lookup_of_mem h.2 q

/-- the cells that a comprehension takes from around it -/
noncomputable def closL (cs : List (Str × Addr)) : List (Str × NameKind) → List (Str × Addr) → List (Str × Addr)
  | [], acc => acc
  | (x, k) :: r, acc => if k == .free then closL cs r ((x, (cs.lookup x).getD 0) :: acc) else closL cs r acc
theorem clos_eq {scope : Scope} {env : Env} (h : ∀ x, (x, NameKind.free) ∈ scope.names → (env.cells.lookup x).isSome = true) : closureFor scope env = pure (closL env.cells scope.names []) := by
  unfold closureFor
  generalize ([] : List (Str × Addr)) = acc
  revert h
  generalize scope.names = ns
  intro h
  suffices H : ∀ (ns : List (Str × NameKind)) (acc : List (Str × Addr)), (∀ x, (x, NameKind.free) ∈ ns → (env.cells.lookup x).isSome = true) →
      (forIn ns acc fun (p : Str × NameKind) (cs : List (Str × Addr)) => do
        if p.2 == .free then
          let a ← cellOf env p.1
          pure (ForInStep.yield ((p.1, a) :: cs))
        else pure (ForInStep.yield cs) : Sem (List (Str × Addr))) = pure (closL env.cells ns acc) by
    have := H ns acc h
    simp only [bind_pure]
    exact this
  intro ns
  induction ns with
  | nil => intro acc _; rfl
  | cons p r ih =>
    obtain ⟨x, k⟩ := p
    intro acc h
    rw [List.forIn_cons]
    unfold closL
    cases hk : (k == NameKind.free) with
    | true =>
      have e : k = .free := by simpa using hk
      subst e
      have hs := h x (.head _)
      cases hl : env.cells.lookup x with
      | none => rw [hl] at hs; cases hs
      | some c =>
        have e2 : cellOf env x = pure c := by unfold cellOf; rw [hl]
        simp only [if_true, e2, pure_bind, Option.getD_some]
        exact ih _ fun y hy => h y (.tail _ hy)
    | false =>
      simp only [Bool.false_eq_true, if_false, pure_bind]
      exact ih _ fun y hy => h y (.tail _ hy)
theorem clos_mem {cs : List (Str × Addr)} {x : Str} {c : Addr} : ∀ {ns : List (Str × NameKind)} {acc : List (Str × Addr)}, (x, c) ∈ closL cs ns acc → ((x, .free) ∈ ns ∧ c = (cs.lookup x).getD 0) ∨ (x, c) ∈ acc
  | [], _, h => .inr h
  | (y, k) :: r, acc, h => by
    unfold closL at h
    split at h
    · rename_i hk
      rw [beq_iff_eq] at hk
      subst hk
      rcases clos_mem h with ⟨q, q2⟩ | q
      · exact .inl ⟨.tail _ q, q2⟩
      · rcases List.mem_cons.mp q with q | q
        · cases q; exact .inl ⟨.head _, rfl⟩
        · exact .inr q
    · rcases clos_mem h with ⟨q, q2⟩ | q
      · exact .inl ⟨.tail _ q, q2⟩
      · exact .inr q
theorem clos_acc {cs : List (Str × Addr)} {y : Str × Addr} : ∀ {ns : List (Str × NameKind)} {acc : List (Str × Addr)}, y ∈ acc → y ∈ closL cs ns acc
  | [], _, h => h
  | (z, k) :: r, acc, h => by
    unfold closL
    split
    · exact clos_acc (.tail _ h)
    · exact clos_acc h
theorem clos_ex {cs : List (Str × Addr)} {x : Str} : ∀ {ns : List (Str × NameKind)} {acc : List (Str × Addr)}, (x, .free) ∈ ns → (x, (cs.lookup x).getD 0) ∈ closL cs ns acc
  | (y, k) :: r, acc, h => by
    rcases List.mem_cons.mp h with h | h
    · cases h
      unfold closL
      rw [if_pos (by decide)]
      exact clos_acc (.head _)
    · unfold closL
      split
      · exact clos_ex h
      · exact clos_ex h
theorem clos_names {cs : List (Str × Addr)} : ∀ {ns : List (Str × NameKind)} {acc : List (Str × Addr)}, (ns.map (·.1)).Nodup → (acc.map (·.1)).Nodup → (∀ y ∈ acc, y.1 ∉ ns.map (·.1)) → ((closL cs ns acc).map (·.1)).Nodup
  | [], _, _, h, _ => h
  | (y, k) :: r, acc, h1, h2, h3 => by
    rw [List.map_cons, List.nodup_cons] at h1
    unfold closL
    split
    · refine clos_names h1.2 ?_ fun z hz q => ?_
      · rw [List.map_cons, List.nodup_cons]
        refine ⟨fun q => ?_, h2⟩
        obtain ⟨z, hz, e⟩ := List.mem_map.mp q
        exact h3 z hz (by rw [List.map_cons, e]; exact .head _)
      · rcases List.mem_cons.mp hz with rfl | hz
        · exact h1.1 q
        · exact h3 z hz (.tail _ q)
    · exact clos_names h1.2 h2 fun z hz q => h3 z hz (.tail _ q)
theorem clos_apart {cs : List (Str × Addr)} (hp : cs.Pairwise fun x y => x.2 ≠ y.2) : ∀ {ns : List (Str × NameKind)} {acc : List (Str × Addr)}, (ns.map (·.1)).Nodup → (∀ x, (x, NameKind.free) ∈ ns → (cs.lookup x).isSome = true) → (acc.Pairwise fun x y => x.2 ≠ y.2) → (∀ y ∈ acc, cs.lookup y.1 = some y.2 ∧ y.1 ∉ ns.map (·.1)) → (closL cs ns acc).Pairwise fun x y => x.2 ≠ y.2
  | [], _, _, _, h, _ => h
  | (y, k) :: r, acc, h1, hs, h2, h3 => by
    rw [List.map_cons, List.nodup_cons] at h1
    unfold closL
    split
    · rename_i hk
      rw [beq_iff_eq] at hk
      subst hk
      have hy := hs y (.head _)
      obtain ⟨c, hc⟩ := Option.isSome_iff_exists.mp hy
      refine clos_apart hp h1.2 (fun z hz => hs z (.tail _ hz)) (List.pairwise_cons.mpr ⟨fun z hz => ?_, h2⟩) fun z hz => ?_
      · rw [hc]
        exact lookup_ne hp (fun e => (h3 z hz).2 (by rw [← e]; exact .head _)) hc (h3 z hz).1
      · rcases List.mem_cons.mp hz with rfl | hz
        · exact ⟨by rw [hc]; rfl, h1.1⟩
        · exact ⟨(h3 z hz).1, fun q => (h3 z hz).2 (.tail _ q)⟩
    · exact clos_apart hp h1.2 (fun z hz => hs z (.tail _ hz)) h2 fun z hz => ⟨(h3 z hz).1, fun q => (h3 z hz).2 (.tail _ q)⟩
end Py

namespace Py

noncomputable def compEnv' (scope : Scope) (env : Env) (L : Addr) : Env := compEnvC scope (cellsFrom (L + 1) scope.names (closL env.cells scope.names [])) L env
noncomputable def compCx (C : Cx) (scope : Scope) (vs' : List Str) (L : Addr) : Cx := { C with env := compEnv' scope C.env L, vs := vs' }

noncomputable def compChk (scope : Scope) (env : Env) (ts fs : List Str) (t : Expr) : Bool :=
  scope.kind == .function && env.scope.kind == .function && decide ((ts ++ fs).Nodup) && (ts ++ fs).all (fun x => !(x == ("__debug__" : Str)))
  && ts.all (fun x => scope.names.lookup x == some .local || scope.names.lookup x == some .cell)
  && fs.all (fun x => scope.names.lookup x == some .free && env.kindOf x == some .cell)
  && scope.names.all (fun p => (p.2 != .cell || ts.contains p.1) && (p.2 != .free || fs.contains p.1))
  && decide (scope.names.map (·.1)).Nodup && (tnames t).all (fun x => ts.contains x)

structure CompChk (scope : Scope) (env : Env) (ts fs : List Str) (t : Expr) : Prop where
  k1 : scope.kind = .function
  k2 : env.scope.kind = .function
  nd : (ts ++ fs).Nodup
  nb : ∀ x ∈ ts ++ fs, (x == ("__debug__" : Str)) = false
  hts : ∀ x ∈ ts, scope.names.lookup x = some .local ∨ scope.names.lookup x = some .cell
  hfs : ∀ x ∈ fs, scope.names.lookup x = some .free ∧ env.kindOf x = some .cell
  n1 : ∀ x, (x, NameKind.cell) ∈ scope.names → x ∈ ts
  n2 : ∀ x, (x, NameKind.free) ∈ scope.names → x ∈ fs
  nn : (scope.names.map (·.1)).Nodup
  tn : ∀ x ∈ tnames t, x ∈ ts

theorem compChk_of {scope : Scope} {env : Env} {ts fs : List Str} {t : Expr} (h : compChk scope env ts fs t = true) : CompChk scope env ts fs t := by
  unfold compChk at h
  simp only [Bool.and_eq_true, List.all_eq_true, Bool.or_eq_true, beq_iff_eq, decide_eq_true_eq, bne_iff_ne, ne_eq, List.contains_iff_mem] at h
  obtain ⟨⟨⟨⟨⟨⟨⟨⟨h1, h2⟩, h3⟩, h4⟩, h5⟩, h6⟩, h7⟩, h8⟩, h9⟩ := h
  refine ⟨h1, h2, h3, fun x hx => by simpa using h4 x hx, h5, h6, fun x hx => ?_, fun x hx => ?_, h8, h9⟩
  · exact (h7 _ hx).1.resolve_left (by simp)
  · exact (h7 _ hx).2.resolve_left (by simp)

theorem lookup_map (f : Str → NameKind → NameKind) (x : Str) : ∀ ns : List (Str × NameKind), (ns.map fun p => (p.1, f p.1 p.2)).lookup x = (ns.lookup x).map (f x)
  | [] => rfl
  | (y, k) :: r => by
    rw [List.map_cons, List.lookup_cons, List.lookup_cons]
    cases h : x == y with
    | true => rw [beq_iff_eq] at h; subst h; rfl
    | false => exact lookup_map f x r
theorem relabel_kind {scope : Scope} {env : Env} (x : Str) : (relabel scope env).names.lookup x = (scope.names.lookup x).map fun k => if (k == .free && env.scope.kind == .function && env.kindOf x == some .cell) then .cell else k := by
  rw [← lookup_map (fun x k => if (k == .free && env.scope.kind == .function && env.kindOf x == some .cell) then NameKind.cell else k)]
  unfold relabel
  congr 1
  refine List.map_congr_left fun p _ => ?_
  obtain ⟨n, k⟩ := p
  dsimp only
  split <;> rfl

theorem clos_lookup {C : Cx} {scope : Scope} {ts fs : List Str} {t : Expr} (ok : C.Ok) (K : CompChk scope C.env ts fs t) (hfs : ∀ x ∈ fs, x ∈ C.vs) {x : Str} (hx : x ∈ fs) : ∃ c, C.env.cells.lookup x = some c := by
  rcases ok.loc x (hfs x hx) with q | ⟨c, q, _⟩
  · rw [(K.hfs x hx).2] at q; cases q
  · exact ⟨c, q⟩

section
variable {C : Cx} {scope : Scope} {ts fs : List Str} {t : Expr} {L : Addr}

theorem comp_cells (ok : C.Ok) (K : CompChk scope C.env ts fs t) (hfs : ∀ x ∈ fs, x ∈ C.vs) {x : Str} {c : Addr} (h : (x, c) ∈ (compEnv' scope C.env L).cells) :
    ((x, NameKind.cell) ∈ scope.names ∧ L + 1 ≤ c) ∨ (x ∈ fs ∧ C.env.cells.lookup x = some c) := by
  rcases cells_mem h with q | q
  · exact .inl q
  · rcases clos_mem q with ⟨q1, e1⟩ | q
    · have hx := K.n2 x q1
      obtain ⟨c', hc⟩ := clos_lookup ok K hfs hx
      rw [hc] at e1
      exact .inr ⟨hx, by rw [hc, e1]; rfl⟩
    · cases q
theorem comp_names (K : CompChk scope C.env ts fs t) : ((compEnv' scope C.env L).cells.map (·.1)).Nodup := by
  refine cells_names K.nn (clos_names K.nn List.nodup_nil (fun _ h => by cases h)) fun y hy q => ?_
  rcases clos_mem (x := y.1) (c := y.2) hy with ⟨q1, _⟩ | q1
  · have e1 := lookup_of_mem K.nn q
    have e2 := lookup_of_mem K.nn q1
    rw [e1] at e2; cases e2
  · cases q1

/-- the kinds of a comprehension's names -/
theorem comp_kind_t (K : CompChk scope C.env ts fs t) {x : Str} (hx : x ∈ ts) : (compEnv' scope C.env L).kindOf x = some .local ∨ ((compEnv' scope C.env L).kindOf x = some .cell ∧ (x, NameKind.cell) ∈ scope.names) := by
  have e : (compEnv' scope C.env L).kindOf x = _ := relabel_kind (scope := scope) (env := C.env) x
  rcases K.hts x hx with h | h
  · left; rw [e, h]; rfl
  · right; refine ⟨?_, mem_of_lookup h⟩; rw [e, h]; rfl
theorem comp_kind_f (K : CompChk scope C.env ts fs t) {x : Str} (hx : x ∈ fs) : (compEnv' scope C.env L).kindOf x = some .cell := by
  have e : (compEnv' scope C.env L).kindOf x = _ := relabel_kind (scope := scope) (env := C.env) x
  obtain ⟨h1, h2⟩ := K.hfs x hx
  rw [e, h1, K.k2, h2]; rfl
theorem comp_cell_f (ok : C.Ok) (K : CompChk scope C.env ts fs t) (hfs : ∀ x ∈ fs, x ∈ C.vs) {x : Str} {c : Addr} (hx : x ∈ fs) (hc : C.env.cells.lookup x = some c) : (compEnv' scope C.env L).cells.lookup x = some c := by
  refine lookup_of_mem (comp_names K) (cells_acc ?_)
  have := clos_ex (cs := C.env.cells) (acc := []) (mem_of_lookup (K.hfs x hx).1)
  rw [hc] at this
  exact this
theorem comp_cell_t (K : CompChk scope C.env ts fs t) {x : Str} (hx : (x, NameKind.cell) ∈ scope.names) : ∃ c, (compEnv' scope C.env L).cells.lookup x = some c ∧ L + 1 ≤ c := by
  obtain ⟨c, hc⟩ := cells_ex (n := L + 1) (acc := closL C.env.cells scope.names []) hx
  refine ⟨c, lookup_of_mem (comp_names K) hc, ?_⟩
  rcases cells_mem hc with ⟨_, q⟩ | q
  · exact q
  · rcases clos_mem q with ⟨q, _⟩ | q
    · have e1 := lookup_of_mem K.nn q
      have e2 := lookup_of_mem K.nn hx
      rw [e1] at e2; cases e2
    · cases q

theorem comp_ok (ok : C.Ok) (K : CompChk scope C.env ts fs t) (hfs : ∀ x ∈ fs, x ∈ C.vs) (hL : ∀ b, L ≤ b → C.h₀.get? b = none) (hC : ∀ x ∈ C.env.cells, x.2 < L) : (compCx C scope (ts ++ fs) L).Ok where
  mono := ok.mono
  w0 := ok.w0
  lim := ok.lim
  fk := K.k1
  nodup := K.nd
  nodbg := K.nb
  loc := fun x hx => by
    rcases List.mem_append.mp hx with h | h
    · rcases comp_kind_t (L := L) K h with q | ⟨q, q2⟩
      · exact .inl q
      · obtain ⟨c, hc, _⟩ := comp_cell_t (L := L) K q2
        exact .inr ⟨c, hc, .inl q⟩
    · obtain ⟨c, hc⟩ := clos_lookup ok K hfs h
      exact .inr ⟨c, comp_cell_f ok K hfs h hc, .inl (comp_kind_f K h)⟩
  apart := by
    refine cells_apart (clos_apart ok.apart K.nn (fun x hx => ?_) List.Pairwise.nil (fun _ h => by cases h)) fun y hy => ?_
    · obtain ⟨c, hc⟩ := clos_lookup ok K hfs (K.n2 x hx); rw [hc]; rfl
    · rcases clos_mem (x := y.1) (c := y.2) hy with ⟨q, e⟩ | q
      · obtain ⟨c, hc⟩ := clos_lookup ok K hfs (K.n2 _ q)
        rw [e, hc]
        exact Nat.lt_succ_of_lt (hC _ (mem_of_lookup hc))
      · cases q
  newL := hL _ (Nat.le_refl _)
  newC := fun x hx => by
    rcases comp_cells (x := x.1) (c := x.2) ok K hfs hx with ⟨_, q⟩ | ⟨_, q⟩
    · exact hL _ (Nat.le_of_succ_le q)
    · exact ok.newC _ (mem_of_lookup q)
  cov := fun x hx => by
    refine ⟨?_, ?_, lookup_of_mem (comp_names K) hx⟩
    · rcases comp_cells (x := x.1) (c := x.2) ok K hfs hx with ⟨q, _⟩ | ⟨q, _⟩
      · exact List.mem_append_left _ (K.n1 _ q)
      · exact List.mem_append_right _ q
    · rcases comp_cells (x := x.1) (c := x.2) ok K hfs hx with ⟨q, _⟩ | ⟨q, _⟩
      · have e : (compEnv' scope C.env L).kindOf x.1 = _ := relabel_kind (scope := scope) (env := C.env) x.1
        show (compEnv' scope C.env L).kindOf x.1 ≠ _
        rw [e, lookup_of_mem K.nn q]; simp
      · show (compEnv' scope C.env L).kindOf x.1 ≠ _
        rw [comp_kind_f K q]; decide
end

/-- what a comprehension takes from around it -/
inductive Caps (C : Cx) (σ : List LV) : List Str → List LV → Prop
  | nil : Caps C σ [] []
  | cons {x : Str} {j : Nat} {l : LV} {xs : List Str} {ls : List LV} : At C.vs j x → σ[j]? = some l → Caps C σ xs ls → Caps C σ (x :: xs) (l :: ls)
theorem Caps.mem {C : Cx} {σ : List LV} : ∀ {fs : List Str} {ls : List LV}, Caps C σ fs ls → ∀ x ∈ fs, x ∈ C.vs := by
  intro fs ls c x h
  induction c with
  | nil => cases h
  | cons a _ r ih =>
    rcases List.mem_cons.mp h with rfl | h
    · exact a.mem
    · exact ih h

theorem comp_st {C : Cx} {scope : Scope} {ts fs : List Str} {t : Expr} {L : Addr} {Z : Addr → Prop} {σ fls : List LV} {s : Shared} {m : Str → Option Value} (ok : C.Ok) (K : CompChk scope C.env ts fs t) (caps : Caps C σ fs fls) (hnd : (owns fls).Nodup)
    (S : St C Z σ s) (hn : s.heap.Ns L m) (hc : ∀ x c, (x, NameKind.cell) ∈ scope.names → (compEnv' scope C.env L).cells.lookup x = some c → ∃ w, s.heap.IsCell c w) :
    St (compCx C scope (ts ++ fs) L) Z (ts.map (fun _ => .unb) ++ fls) s := by
  have ow : owns (ts.map (fun _ => LV.unb) ++ fls) = owns fls := by
    clear K hc
    induction ts with
    | nil => rfl
    | cons x r ih => exact ih
  refine ⟨S.keep, S.zf, S.zl, by rw [ow]; exact hnd, m, hn, ?_⟩
  have hfs := caps.mem
  have F : ∀ {xs : List Str} {ls : List LV}, (∀ x ∈ xs, x ∈ fs) → Caps C σ xs ls → Vars (compEnv' scope C.env L) s.heap Z m xs ls := by
    intro xs
    induction xs with
    | nil => intro ls _ c; cases c; trivial
    | cons x xs ih =>
      intro ls hx c
      cases c with
      | @cons _ j l _ ls a e r =>
        refine ⟨?_, ih (fun y hy => hx y (.tail _ hy)) r⟩
        obtain ⟨m0, _, V⟩ := S.vars
        have V := V.get a e
        have hxf := hx x (.head _)
        have kc := comp_kind_f (L := L) K hxf
        have kn : (compEnv' scope C.env L).kindOf x ≠ some .local := by rw [kc]; decide
        have ko : C.env.kindOf x ≠ some .local := by rw [(K.hfs x hxf).2]; decide
        have va : ∀ v, VarAt C.env s.heap m0 x v → VarAt (compEnv' scope C.env L) s.heap m x v := by
          rintro v (⟨q, _⟩ | ⟨_, c, q1, q2⟩)
          · exact absurd q ko
          · exact .inr ⟨kn, c, comp_cell_f ok K hfs hxf q1, q2⟩
        cases l with
        | unb =>
          intro _ c hc
          obtain ⟨c', hc'⟩ := clos_lookup ok K hfs hxf
          have := comp_cell_f (L := L) ok K hfs hxf hc'
          rw [this] at hc; cases hc
          exact V ko c hc'
        | v p => obtain ⟨v, h1, h2⟩ := V; exact ⟨v, va v h1, h2⟩
        | own b xs => obtain ⟨h1, h2⟩ := V; exact ⟨va _ h1, h2⟩
  have G : ∀ {xs : List Str}, (∀ x ∈ xs, x ∈ ts) → Vars (compEnv' scope C.env L) s.heap Z m (xs ++ fs) (xs.map (fun _ => .unb) ++ fls) := by
    intro xs
    induction xs with
    | nil => intro _; exact F (fun _ h => h) caps
    | cons x xs ih =>
      intro hx
      refine ⟨fun hk c hcl => ?_, ih fun y hy => hx y (.tail _ hy)⟩
      rcases comp_kind_t (L := L) K (hx x (.head _)) with q | ⟨_, q⟩
      · exact absurd q hk
      · exact hc x c q hcl
  exact G fun _ h => h
end Py

namespace Py

section
variable {prog : Program} {w : World} {A : Around} {R : Result → Shared → Prop} {s : Shared}
theorem codeAny_compLoop_any {elt target iter : Expr} {ifs : List Expr} {scope : Scope} {pos : Pos} {it acc : Value} {env : Env} (I : Nat → Shared → Prop)
    (turn : ∀ n s, I n s → wpAny (model prog w) A (pyNext it) (fun r s₁ => match r with
      | none => R (.ok .next) s₁
      | some v => wpAny (model prog w) A (letOwnedTupleGo target it v) (fun _ s₁' => wpAny (model prog w) A (assign target env v) (fun _ s₂ =>
          wpAny (model prog w) A (forIn ifs true fun c r => if r = true then do let ok ← isTrue c env (eval c env); pure (ForInStep.yield ok) else pure (ForInStep.yield r)) (fun ok s₃ =>
            if ok = true then wpAny (model prog w) A (eval elt env) (fun x s₄ =>
              wpAny (model prog w) A (call (.builtin "list.append") [acc, x]) (fun _ s₅ => ∃ m, m < n ∧ I m s₅) (notedBy (model prog w) A env fun e s' => R (.error e) s') s₄) (notedBy (model prog w) A env fun e s' => R (.error e) s') s₃
            else ∃ m, m < n ∧ I m s₃) (notedBy (model prog w) A env fun e s' => R (.error e) s') s₂) (notedBy (model prog w) A env fun e s' => R (.error e) s') s₁') (notedBy (model prog w) A env fun e s' => R (.error e) s') s₁) (notedBy (model prog w) A env fun e s' => R (.error e) s') s)
    (n : Nat) (h : I n s) :
    codeAny (model prog w) A (.compLoop (.ListComp elt [⟨target, iter, ifs, 0⟩] scope pos) 0 it acc env) R s := by
  refine codeAny_loop rfl I (fun n s hI => ?_) n h
  show wpAny _ A ((compTurn (.ListComp elt [⟨target, iter, ifs, 0⟩] scope pos) 0 it acc env).onRaise (fun x => do noteFrame x env; theTreesLotGoes x)) _ _ s
  refine wpAny_noted ?_
  rw [compTurn_list]
  refine wpAny_bind (wpAny_standAt (wpAny_bind (wpAny_mono (turn n s hI) (fun r s₁ h₁ => ?_) fun _ _ h' => h')))
  cases r with
  | none => exact wpAny_pure h₁
  | some v =>
    refine wpAny_bind (wpAny_mono h₁ (fun _ s₁' h₁ => ?_) fun _ _ h' => h')
    refine wpAny_bind (wpAny_mono h₁ (fun _ s₂ h₂ => wpAny_bind (wpAny_mono h₂ (fun ok s₃ h₃ => ?_) fun _ _ h' => h')) fun _ _ h' => h')
    cases ok with
    | false => exact wpAny_pure ⟨rfl, h₃⟩
    | true =>
      exact wpAny_bind (wpAny_bind (wpAny_mono h₃ (fun x s₄ h₄ => wpAny_bind (wpAny_mono h₄ (fun _ s₅ h₅ => wpAny_pure (wpAny_pure ⟨rfl, h₅⟩)) fun _ _ h' => h')) fun _ _ h' => h'))

theorem newEnv_comp {M : Model} {E : Value → Shared → Prop} {scope : Scope} {G : Addr} {cl : List (Str × Addr)} {q : Str} {env : Env} {Q : Env → Shared → Prop}
    (h : Q { scope, locals := s.heap.objs.size, globals := G, cells := cellsFrom (s.heap.objs.size + 1) scope.names cl, qual := q, func := none, code := env.code, frame := env.frame, builtins := env.builtins } { s with heap := pushCells (s.heap.push { cls := .type "dict", data := .dict #[] }) scope.names }) :
    wpAny M A (newFunctionEnv scope G cl [] q none .none (some env)) Q E s := by
  simp only [newFunctionEnv, Option.isSome_some, if_true]
  refine wpAny_bind (wpAny_alloc ?_)
  refine wpAny_bind (wpAny_layCells _ (fun name kind cells => by cases hkc : kind == NameKind.cell <;> simp [hkc]) _ _ _ _ ?_)
  rw [show ({ s with heap := s.heap.push { cls := .type "dict", data := .dict #[] } } : Shared).heap.objs.size = s.heap.objs.size + 1 from Heap.size_push ..]
  rw [List.forIn_nil]
  exact wpAny_bind (wpAny_pure (wpAny_pure h))
end

theorem St.mv' {C : Cx} {Z : Addr → Prop} {σ : List LV} {s s' : Shared} (S : St C Z σ s) (keep : Kp C.h₀ s'.heap) (Hs : ∀ b o, s.heap.get? b = some o → SeqObj o → ¬ Z b → s'.heap.get? b = some o) (Hc : ∀ b o w, s.heap.get? b = some o → o.data = .cell w → s'.heap.get? b = some o)
    (Hl : ∀ o, s.heap.get? C.env.locals = some o → s'.heap.get? C.env.locals = some o) (Ho : ∀ b ∈ owns σ, ∀ o, s.heap.get? b = some o → s'.heap.get? b = some o) (Hz : ∀ a, Z a → ∃ o, s'.heap.get? a = some o ∧ SeqObj o) : St C Z σ s' := by
  obtain ⟨m, hn, V⟩ := S.vars
  have hc : ∀ c w, s.heap.IsCell c w → s'.heap.IsCell c w := fun c w ⟨o, e, d⟩ => ⟨o, Hc c o w e d, d⟩
  refine ⟨keep, S.zf, Hz, S.nd, m, ?_, V.chg hc (fun a o e q z => ⟨Hs a o e q z, z⟩) fun a ys e => ⟨V.ownZ a ys e, fun o eo => Ho a (owns_mem e) o eo⟩⟩
  obtain ⟨o, es, ep, e, r⟩ := hn; exact ⟨o, es, ep, Hl o e, r⟩

/-- the tests of a comprehension -/
noncomputable def Tsts (C : Cx) (A : Around) (Z : Addr → Prop) (σ : List LV) : List Expr → Bool → Prop
  | [], b => b = true
  | [c], b => Tst C A Z σ c b
  | _, _ => False
theorem tsts_run {C : Cx} {A : Around} {Z : Addr → Prop} {σ : List LV} {ifs : List Expr} {b : Bool} {s : Shared} {Q : Bool → Shared → Prop} {E : Value → Shared → Prop} (h : Tsts C A Z σ ifs b) (S : St C Z σ s) (hQ : ∀ s', Ext s s' → Q b s') :
    wpAny C.M A (forIn ifs true fun c r => if r = true then do let ok ← isTrue c C.env (eval c C.env); pure (ForInStep.yield ok) else pure (ForInStep.yield r)) Q E s := by
  match ifs, h with
  | [], h =>
    rw [List.forIn_nil]
    have h : b = true := h
    subst h
    exact wpAny_pure (hQ s (.refl s))
  | [c], h =>
    simp only [List.forIn_cons, List.forIn_nil, if_true]
    have h : Tst C A Z σ c b := h
    exact wpAny_bind (wpAny_bind (h s _ E S fun s1 X => wpAny_pure (wpAny_pure (hQ s1 X))))

/-- a comprehension's turns -/
noncomputable def WC (C : Cx) (A : Around) (t : Expr) (ifs : List Expr) (elt : Expr) (Z : Addr → Prop) : List PV → List LV → List PV → Prop
  | [], _, out => out = []
  | p :: ps, σ, out => ∃ σ', Tgt C t p σ σ' ∧ ∃ b, Tsts C A Z σ' ifs b ∧ (b = true → ∃ q r, Ev C A Z σ' elt .f q ∧ WC C A t ifs elt Z ps σ' r ∧ out = q :: r) ∧ (b = false → WC C A t ifs elt Z ps σ' out)

theorem Tgt.owns {C : Cx} {t : Expr} {p : PV} {σ σ' : List LV} (T : Tgt C t p σ σ') : ∀ a, a ∈ Py.owns σ' → a ∈ Py.owns σ := by
  cases T with
  | name hi => exact fun a h => (owns_set σ _ (by intro a xs q; cases q)).subset h
  | pair hi hj => exact fun a h => (owns_set σ _ (by intro a xs q; cases q)).subset ((owns_set _ _ (by intro a xs q; cases q)).subset h)

section
variable {C : Cx} {A : Around} {Z : Addr → Prop} {σ : List LV}

inductive CompInv (C C' : Cx) (A : Around) (Z₁ : Addr → Prop) (t elt : Expr) (ifs : List Expr) (D : Addr) (I : List PV → Shared → Prop) (wr : Addr → Prop) (s₀ : Shared) (hs : Heap) (out : List PV) (n : Nat) (s : Shared) : Prop
  | mk (ps : List PV) (σ' : List LV) (vs : Array Value) (o1 o2 : List PV) (e : n = ps.length) (hI : I ps s) (S : St C' (ins D Z₁) σ' s) (X : Ext s₀ s) (hk : ∀ b o, ¬ wr b → hs.get? b = some o → s.heap.get? b = some o) (hl : ∀ b, s.heap.get? b = none → hs.get? b = none) (how : ∀ a ∈ owns σ', ∃ o, s₀.heap.get? a = some o) (hacc : s.heap.PlainList D vs) (hr : Reps s.heap (ins D Z₁) o1 vs.toList)
    (hw : WC C' A t ifs elt (ins D Z₁) ps σ' o2) (ho : out = o1 ++ o2) : CompInv C C' A Z₁ t elt ifs D I wr s₀ hs out n s
theorem comp_loop {C' : Cx} {Z₁ : Addr → Prop} {t iter elt : Expr} {ifs : List Expr} {scope : Scope} {pos : Pos} {it : Value} {wr : Addr → Prop} {s₀ : Shared} {hs : Heap} {I : List PV → Shared → Prop} {D L : Addr} {R : Result → Shared → Prop} {ps out : List PV} {σ' : List LV} {s : Shared} (ok' : C'.Ok) (hA : A.handled = none) (eM : C'.M = C.M)
    (hL : C'.env.locals = L) (S₀ : St C Z σ s₀) (hZ : ∀ a, Z₁ a → Z a ∨ s₀.heap.get? a = none)
    (src : Src C.M A t it (fpAll C Z hs) wr s₀.gens.size hs Z₁ uncons I) (hwr : ∀ b, wr b → s₀.heap.get? b = none ∧ ∃ o, hs.get? b = some o) (hh : ∀ b, hs.get? b = none → s₀.heap.get? b = none)
    (hD : hs.get? D = none) (hLf : hs.get? L = none) (hDL : D ≠ L) (hcell : ∀ x ∈ tnames t, ∀ c, C'.env.cells.lookup x = some c → hs.get? c = none ∧ c ≠ D)
    (hk0 : Kp C'.h₀ s₀.heap) (how : ∀ a ∈ owns σ', ∃ o, s₀.heap.get? a = some o)
    (hI : I ps s) (S : St C' (ins D Z₁) σ' s) (X : Ext s₀ s) (hk : ∀ b o, ¬ wr b → hs.get? b = some o → s.heap.get? b = some o) (hlive : ∀ b, s.heap.get? b = none → hs.get? b = none) (hacc : s.heap.PlainList D #[])
    (hw : WC C' A t ifs elt (ins D Z₁) ps σ' out) (hsz : out.length ≤ sizeLine)
    (hR : ∀ s' m vs, Ext s₀ s' → s'.heap.Ns L m → s'.heap.PlainList D vs → Reps s'.heap (ins D Z₁) out vs.toList → R (.ok .next) s') :
    codeAny C.M A (.compLoop (.ListComp elt [⟨t, iter, ifs, 0⟩] scope pos) 0 it (.ref D) C'.env) R s := by
  subst hL
  suffices key : ∀ J : Nat → Shared → Prop, (∀ n s, CompInv C C' A Z₁ t elt ifs D I wr s₀ hs out n s ↔ J n s) → codeAny C.M A (.compLoop (.ListComp elt [⟨t, iter, ifs, 0⟩] scope pos) 0 it (.ref D) C'.env) R s from key _ fun _ _ => Iff.rfl
  intro J hJ
  refine codeAny_compLoop_any J ?_ ps.length ((hJ _ _).1 ⟨ps, σ', #[], [], out, rfl, hI, S, X, hk, hlive, how, hacc, .nil, hw, rfl⟩)
  clear hI S X hk hlive hacc hw how
  intro n s hj
  obtain ⟨ps, σ', vs, o1, o2, rfl, hI, S, X, hk, hlive, how, hacc, hr1, hw, ho⟩ := (hJ _ _).2 hj
  clear hj
  have zok : ZOk hs Z₁ (ins D Z₁) s := ⟨fun a z => by
    rcases z with rfl | z
    · exact .inr hD
    · exact .inl z, fun a z => let ⟨o, e, _⟩ := S.zl a z; ⟨o, e⟩⟩
  have nwr : ∀ b, hs.get? b = none → ¬ wr b := fun b e q => by obtain ⟨_, o, e'⟩ := hwr b q; rw [e] at e'; cases e'
  refine wpAny_mono (src.next ps s (fun s₁ => R (.ok .next) s₁) (fun v s₁ => wpAny C.M A (assign t C'.env v) (fun _ s₂ =>
          wpAny C.M A (forIn ifs true fun c r => if r = true then do let ok ← isTrue c C'.env (eval c C'.env); pure (ForInStep.yield ok) else pure (ForInStep.yield r)) (fun ok s₃ =>
            if ok = true then wpAny C.M A (eval elt C'.env) (fun x s₄ =>
              wpAny C.M A (call (.builtin "list.append") [.ref D, x]) (fun _ s₅ => ∃ m, m < ps.length ∧ J m s₅) (notedBy C.M A C'.env fun e s' => R (.error e) s') s₄) (notedBy C.M A C'.env fun e s' => R (.error e) s') s₃
            else ∃ m, m < ps.length ∧ J m s₃) (notedBy C.M A C'.env fun e s' => R (.error e) s') s₂) (notedBy C.M A C'.env fun e s' => R (.error e) s') s₁) _ (ins D Z₁) hI zok X.gk.1 ?_ ?_) (fun r s1 h => ?_) fun _ _ x => x
  rotate_left 2
  · cases r with
    | none => exact h
    | some v => exact h
  · -- the end
    intro e s1 m
    cases ps with
    | cons => cases e
    | nil =>
      have hw : o2 = [] := hw
      subst hw
      rw [List.append_nil] at ho
      subst ho
      obtain ⟨mm, hn, _⟩ := S.vars
      have kp1 : ∀ b o, s₀.heap.get? b = some o → s1.heap.get? b = some o := fun b o e => m.kp b o (fun q => by rw [(hwr b q).1] at e; cases e) (X.kp b o e)
      refine hR s1 mm vs ⟨kp1, m.gk.gk X.gk, m.dr.trans X.dr, m.os.trans X.os⟩ ?_ ?_ ?_
      · obtain ⟨o, es, ep, e, r⟩ := hn; exact ⟨o, es, ep, m.kp _ o (nwr _ hLf) e, r⟩
      · obtain ⟨k, e⟩ := hacc; exact ⟨k, m.kp _ _ (nwr _ hD) e⟩
      · exact Reps.chg (fun a o e q z => ⟨m.kp a o (fun hb => z (.inr ((src.plain _ _ a o hI hb e).1 q))) e, z⟩) _ _ hr1
  · -- a turn
    intro p j e v s1 m lv hz hr hI1
    cases ps with
    | nil => cases e
    | cons p' pso =>
      cases e
      obtain ⟨σ1, T, b, ht, hb1, hb0⟩ := hw
      have kp1 : ∀ b o, s₀.heap.get? b = some o → s1.heap.get? b = some o := fun b o e => m.kp b o (fun q => by rw [(hwr b q).1] at e; cases e) (X.kp b o e)
      have hk1 : ∀ b o, ¬ wr b → hs.get? b = some o → s1.heap.get? b = some o := fun b o q e => m.kp b o q (hk b o q e)
      have X1 : Ext s₀ s1 := ⟨kp1, m.gk.gk X.gk, m.dr.trans X.dr, m.os.trans X.os⟩
      have hacc1 : s1.heap.PlainList D vs := let ⟨k, e⟩ := hacc; ⟨k, m.kp _ _ (nwr _ hD) e⟩
      have zl1 : ∀ a, ins D Z₁ a → ∃ o, s1.heap.get? a = some o ∧ SeqObj o := by
        intro a z
        by_cases q : wr a
        · rcases z with rfl | z
          · exact absurd q (nwr _ hD)
          · exact hz a q z
        · obtain ⟨o, e, r⟩ := S.zl a z; exact ⟨o, m.kp a o q e, r⟩
      have chg1 : ∀ a o, s.heap.get? a = some o → SeqObj o → ¬ ins D Z₁ a → s1.heap.get? a = some o ∧ ¬ ins D Z₁ a := fun a o e q z => ⟨m.kp a o (fun hb => z (.inr ((src.plain _ _ a o hI hb e).1 q))) e, z⟩
      have hr11 := Reps.chg chg1 _ _ hr1
      have S1 : St C' (ins D Z₁) σ' s1 := by
        refine S.mv' (fun b o e => kp1 b o (hk0 b o e)) (fun b o e q z => (chg1 b o e q z).1) (fun b o w e d => m.kp b o (fun hb => (src.plain _ _ b o hI hb e).2 w d) e) (fun o e => m.kp _ o (nwr _ hLf) e) (fun b hb o e => ?_) zl1
        obtain ⟨o', e'⟩ := how b hb
        exact m.kp b o (fun q => by rw [(hwr b q).1] at e'; cases e') e
      rw [← eM]
      refine assign_tgt ok' hA T S1 hr fun s2 S2 F2 L2 O2 => ?_
      have old : ∀ b o, hs.get? b ≠ none → s1.heap.get? b = some o → s2.heap.get? b = some o := fun b o nb e => O2 b o e (fun q => nb (q ▸ hLf)) fun x hx q => nb (hcell x hx b q).1
      have hacc2 : s2.heap.PlainList D vs := by
        obtain ⟨k, e⟩ := hacc1
        exact ⟨k, O2 D _ e hDL fun x hx q => (hcell x hx D q).2 rfl⟩
      have kp2 : ∀ b o, s₀.heap.get? b = some o → s2.heap.get? b = some o := fun b o e => old b o (fun q => by rw [hh b q] at e; cases e) (kp1 b o e)
      have X2 : Ext s₀ s2 := ⟨kp2, X1.gk.trans F2.gk, F2.dr.trans X1.dr, F2.os.trans X1.os⟩
      have hk2 : ∀ b o, ¬ wr b → hs.get? b = some o → s2.heap.get? b = some o := fun b o q e => old b o (by rw [e]; simp) (hk1 b o q e)
      have hI2 : I j s2 := src.frame j s1 s2 hI1 (fun b o ⟨_, o', e'⟩ e => old b o (by rw [e']; simp) e) F2.gk
      have hl2 : ∀ b, s2.heap.get? b = none → hs.get? b = none := fun b e => hlive b (lv b (L2 b e))
      have hr2 : Reps s2.heap (ins D Z₁) o1 vs.toList := by
        refine Reps.chg (fun a o e q z => ⟨F2.kp a o e fun pz => ?_, z⟩) _ _ hr11
        exact S1.seq_npriv ok' e q z pz
      have ow2 : ∀ a ∈ owns σ1, ∃ o, s₀.heap.get? a = some o := fun a h => how a (T.owns a h)
      refine tsts_run ht S2 fun s3 X3 => ?_
      have S3 := S2.ext X3
      have X03 := X2.trans X3
      have hI3 : I j s3 := src.frame j s2 s3 hI2 (fun b o _ e => X3.kp b o e) X3.gk
      have hacc3 := PlainList.kp X3.kp hacc2
      have hk3 : ∀ b o, ¬ wr b → hs.get? b = some o → s3.heap.get? b = some o := fun b o q e => X3.kp b o (hk2 b o q e)
      have hl3 : ∀ b, s3.heap.get? b = none → hs.get? b = none := fun b e => hl2 b (none_kp X3.kp e)
      have hr3 := hr2.kp X3.kp
      cases b with
      | false =>
        rw [if_neg (by decide)]
        exact ⟨j.length, by simp, (hJ _ _).1 ⟨j, σ1, vs, o1, o2, rfl, hI3, S3, X03, hk3, hl3, ow2, hacc3, hr3, hb0 rfl, ho⟩⟩
      | true =>
        rw [if_pos rfl]
        obtain ⟨q, r, he, hw', rfl⟩ := hb1 rfl
        refine he s3 _ _ S3 fun y s4 X4 ry => ?_
        have S4 := S3.ext X4
        have X04 := X03.trans X4
        have hI4 : I j s4 := src.frame j s3 s4 hI3 (fun b o _ e => X4.kp b o e) X4.gk
        have hacc4 := PlainList.kp X4.kp hacc3
        have hr4 := hr3.kp X4.kp
        have hvs : vs.size = o1.length := by rw [← hr4.length]; simp
        refine wpAny_list_append_plain hacc4 (fun h5 hl5 hs5 => ?_) (by rw [hvs]; rw [ho, List.length_append] at hsz; omega)
        have nD : ∀ b, hs.get? b ≠ none → b ≠ D := fun b nb q => nb (q ▸ hD)
        have nD0 : ∀ b o, s₀.heap.get? b = some o → b ≠ D := fun b o e q => by
          subst q; rw [hh _ hD] at e; cases e
        have chg5 : ∀ a o, s4.heap.get? a = some o → SeqObj o → ¬ ins D Z₁ a → h5.get? a = some o ∧ ¬ ins D Z₁ a := fun a o e q z => ⟨(hs5.2 a fun q => z (.inl q)).trans e, z⟩
        refine ⟨j.length, by simp, (hJ _ _).1 ⟨j, σ1, vs.push y, o1 ++ [q], r, rfl, src.frame j s4 _ hI4 (fun b o ⟨_, o', e'⟩ e => (hs5.2 b (nD b (by rw [e']; simp))).trans e) (.refl _), ?_, ⟨fun b o e => (hs5.2 b (nD0 b o e)).trans (X04.kp b o e), X04.gk, X04.dr, X04.os⟩, fun b o q e => (hs5.2 b (nD b (by rw [e]; simp))).trans (X4.kp b o (hk3 b o q e)), fun b e => ?_, ow2, hl5, ?_, hw', by rw [ho]; simp⟩⟩
        · refine S4.mv' (fun b o e => (hs5.2 b (nD0 b o (hk0 b o e))).trans (X04.kp b o (hk0 b o e))) (fun b o e q z => (chg5 b o e q z).1) (fun b o w e d => (hs5.2 b fun q => ?_).trans e) (fun o e => (hs5.2 _ (Ne.symm hDL)).trans e) (fun b hb o e => ?_) fun a z => ?_
          · obtain ⟨k, e'⟩ := hacc4
            rw [q, e'] at e; cases e; cases d
          · obtain ⟨o', e'⟩ := ow2 b hb
            exact (hs5.2 b (nD0 b o' e')).trans e
          · by_cases q : a = D
            · subst q; obtain ⟨k, e⟩ := hl5; exact ⟨_, e, _, _, rfl⟩
            · obtain ⟨o, e, q'⟩ := S4.zl a z; exact ⟨o, (hs5.2 a q).trans e, q'⟩
        · by_cases q : b = D
          · exact q ▸ hD
          · exact hl3 b (none_kp X4.kp ((hs5.2 b q).symm.trans e))
        · rw [Array.toList_push]
          exact (Reps.chg chg5 _ _ hr4).append (.one (Rep.chg chg5 _ _ ry))
end
end Py

namespace Py

theorem cells_fresh {x : Str} {c : Addr} : ∀ {names : List (Str × NameKind)} {h : Heap} {acc : List (Str × Addr)}, (x, c) ∈ cellsFrom h.objs.size names acc → (pushCells h names).IsCell c none ∨ (x, c) ∈ acc
  | [], _, _, q => .inr q
  | (y, k) :: r, h, acc, q => by
    unfold cellsFrom at q
    unfold pushCells
    split at q
    · rename_i hk
      rw [if_pos hk]
      have e : (h.push { cls := .type "cell", data := .cell none }).objs.size = h.objs.size + 1 := Heap.size_push ..
      rw [← e] at q
      rcases cells_fresh q with q | q
      · exact .inl q
      · rcases List.mem_cons.mp q with q | q
        · cases q
          exact .inl ⟨_, pushCells_keeps _ _ _ _ (Heap.get?_push_size _ rfl), rfl⟩
        · exact .inr q
    · rename_i hk
      rw [if_neg hk]
      exact cells_fresh q

theorem caps_own {C : Cx} {Z : Addr → Prop} {σ : List LV} {s : Shared} (S : St C Z σ s) : ∀ {fs : List Str} {fls : List LV}, Caps C σ fs fls → ∀ a ∈ owns fls, Z a := by
  intro fs fls c a h
  induction c with
  | nil => cases h
  | cons _ e r ih =>
    rename_i l _ _ _
    cases l with
    | own b xs =>
      rcases List.mem_cons.mp h with rfl | h
      · obtain ⟨m, _, V⟩ := S.vars
        exact V.ownZ _ _ (List.mem_of_getElem? e)
      · exact ih h
    | unb => exact ih h
    | v p => exact ih h

section
variable {C : Cx} {A : Around} {Z : Addr → Prop} {σ : List LV}

theorem comp_core {t iter elt : Expr} {ifs : List Expr} {scope : Scope} {pos : Pos} {ts fs : List Str} {fls : List LV} {ps out : List PV} {s : Shared} {E : Value → Shared → Prop} {RR : Value → Addr → Result → Shared → Prop} (ok : C.Ok) (hA : A.handled = none)
    (K : CompChk scope C.env ts fs t) (hsrc : IterZ C A Z σ t iter uncons ps) (caps : Caps C σ fs fls) (hnd : (owns fls).Nodup)
    (hw : ∀ L Z', (compCx C scope (ts ++ fs) L).Ok → WC (compCx C scope (ts ++ fs) L) A t ifs elt Z' ps (ts.map (fun _ => .unb) ++ fls) out) (hsz : out.length ≤ sizeLine) (S : St C Z σ s)
    (hRR : ∀ D L s' m, Ext s s' → s.heap.get? L = none → L ≠ D → s'.heap.Ns L m → Res .n Z s.heap s'.heap (.list out) (.ref D) → RR (.ref D) L (.ok .next) s') :
    wpAny C.M A (eval iter C.env) (fun x s₁ => wpAny C.M A (pyIter x) (fun it s₂ => wpAny C.M A (newList []) (fun acc s₃ =>
      wpAny C.M A (newFunctionEnv scope C.env.globals (closL C.env.cells scope.names []) [] C.env.qual none .none (some C.env)) (fun cenv s₄ =>
        codeAny C.M A (.compStart (.ListComp elt [⟨t, iter, ifs, 0⟩] scope pos) 0 it acc { cenv with scope := relabel scope C.env }) (RR acc cenv.locals) s₄) E s₃) E s₂) E s₁) E s := by
  refine hsrc s _ E S fun it s2 Z₁ hz1 hz2 S2 ⟨wr, I, X, src, hwr, hI, hself⟩ => ?_
  refine wpAny_newObj_type (newEnv_comp ?_)
  dsimp only
  generalize hH3 : s2.heap.push { cls := .type "list", dict := none, data := .seq ([] : List Value).toArray } = H3
  have eL : H3.objs.size = s2.heap.objs.size + 1 := by rw [← hH3, Heap.size_push]
  have k3 : Kp s2.heap H3 := fun b o e => hH3 ▸ Heap.get?_push_of_some _ e
  have gD : H3.get? s2.heap.objs.size = some _ := hH3 ▸ Heap.get?_push_size _ rfl
  generalize hH4 : pushCells (H3.push { cls := .type "dict", data := .dict #[] }) scope.names = H4
  have k4 : Kp H3 H4 := fun b o e => hH4 ▸ pushCells_keeps _ _ _ _ (Heap.get?_push_of_some _ e)
  have nsL : H4.Ns H3.objs.size _ := hH4 ▸ (Heap.Ns.new H3 (.type "dict")).keeps (pushCells_keeps _ _)
  have hfs := caps.mem
  have lt3 : ∀ b o, H3.get? b = some o → b < H3.objs.size := fun b o e => Heap.lt_size e
  have okC := comp_ok (L := H3.objs.size) ok K hfs (fun b hb => by
      cases e : C.h₀.get? b with
      | none => rfl
      | some o => exact absurd (lt3 b o (k3 b o (S2.keep b o e))) (Nat.not_lt.mpr hb)) (fun x hx => by
      obtain ⟨w, hc⟩ := S2.cells ok x hx
      obtain ⟨o, e, _⟩ := hc
      exact lt3 _ o (k3 _ o e))
  have cc : ∀ {x c}, (x, c) ∈ (compEnv' scope C.env H3.objs.size).cells → (s2.heap.objs.size + 2 ≤ c) ∨ x ∈ fs := fun hm => by
    rcases comp_cells ok K hfs hm with ⟨_, q⟩ | ⟨q, _⟩
    · left; rw [eL] at q; exact q
    · exact .inr q
  have n2 : ∀ b, s2.heap.objs.size ≤ b → s2.heap.get? b = none := fun b h => fresh_size h
  have S4 : St C (ins s2.heap.objs.size Z₁) σ { s2 with heap := H4 } := S2.ins (s := { s2 with heap := H4 }) (k3.trans k4) (size_none _) ⟨_, k4 _ _ gD, _, _, rfl⟩
  have S4' : St (compCx C scope (ts ++ fs) H3.objs.size) (ins s2.heap.objs.size Z₁) (ts.map (fun _ => .unb) ++ fls) { s2 with heap := H4 } := by
    refine comp_st ok K caps hnd S4 nsL fun x c hx hc => ⟨none, ?_⟩
    have e : (H3.push { cls := .type "dict", data := .dict #[] }).objs.size = H3.objs.size + 1 := Heap.size_push ..
    have hm : (x, c) ∈ cellsFrom (H3.objs.size + 1) scope.names (closL C.env.cells scope.names []) := mem_of_lookup hc
    rw [← e] at hm
    rcases cells_fresh hm with q | q
    · exact hH4 ▸ q
    · rcases clos_mem q with ⟨q, _⟩ | q
      · have e1 := lookup_of_mem K.nn q
        have e2 := lookup_of_mem K.nn hx
        rw [e1] at e2; cases e2
      · cases q
  have nL : s2.heap.get? H3.objs.size = none := n2 _ (by rw [eL]; exact Nat.le_succ _)
  have nLD : s2.heap.objs.size ≠ H3.objs.size := by rw [eL]; exact Nat.ne_of_lt (Nat.lt_succ_self _)
  have go : ∀ s', s' = { s2 with heap := H4 } → codeAny C.M A (.compLoop (.ListComp elt [⟨t, iter, ifs, 0⟩] scope pos) 0 it (.ref s2.heap.objs.size) (compEnv' scope C.env H3.objs.size)) (RR (.ref s2.heap.objs.size) H3.objs.size) s' := by
    rintro s' rfl
    have ow : owns (ts.map (fun _ => LV.unb) ++ fls) = owns fls := by
      clear K hw okC S4'
      induction ts with
      | nil => rfl
      | cons x r ih => exact ih
    refine comp_loop (C' := compCx C scope (ts ++ fs) H3.objs.size) (hs := s2.heap) (D := s2.heap.objs.size) okC hA rfl rfl S hz2 src hwr (fun b e => none_kp X.kp e) (size_none _) nL nLD (fun x hx c hc => ?_) S.keep (fun a ha => ?_) (src.frame _ _ _ hI (fun b o _ e => k4 b o (k3 b o e)) (.refl _)) S4' ⟨fun b o e => k4 b o (k3 b o (X.kp b o e)), X.gk, X.dr, X.os⟩
      (fun b o _ e => k4 b o (k3 b o e)) (fun b e => none_kp (k3.trans k4) e) ⟨_, k4 _ _ gD⟩ (hw _ _ okC) hsz fun s' m vs X' hn hl hr => ?_
    · have hm := mem_of_lookup hc
      rcases cc hm with q | q
      · exact ⟨n2 c (Nat.le_of_succ_le (Nat.le_of_succ_le q)), Nat.ne_of_gt (Nat.lt_of_succ_le (Nat.le_of_succ_le q))⟩
      · exact absurd rfl ((List.nodup_append.mp K.nd).2.2 _ (K.tn x hx) _ q)
    · rw [ow] at ha
      obtain ⟨o, e, _⟩ := S.zl a (caps_own S caps a ha)
      exact ⟨o, e⟩
    · have sD : s.heap.get? s2.heap.objs.size = none := none_kp X.kp (size_none _)
      refine hRR _ _ s' m X' (none_kp X.kp nL) (Ne.symm nLD) hn ⟨?_, fun a e => by cases e; exact sD⟩
      simp only [Rep]
      refine ⟨_, vs.toList, rfl, by simpa using hl, fun z => ?_, Reps.chg (fun a o e q z => ⟨e, fun z' => z (.inr (hz1 a z'))⟩) _ _ hr⟩
      obtain ⟨o, e, _⟩ := S.zl _ z
      rw [sD] at e; cases e
  exact codeAny_compStart_list (go _ rfl) (hself _ _ _ _ (src.frame _ _ { s2 with heap := H4 } hI (fun b o _ e => k4 b o (k3 b o e)) (.refl _)) (go _ rfl))

theorem res_but {s s' : Shared} {L D : Addr} {h' : Heap} {m : Str → Option Value} {out : List PV} (hL : L ≠ D) (hn : s'.heap.Ns L m) (hs : Heap.SameBut L s'.heap h') (r : Res .n Z s.heap s'.heap (.list out) (.ref D)) : Res .n Z s.heap h' (.list out) (.ref D) :=
  ⟨Rep.but hs (fun o e q => ns_seq hn e q) _ _ r.1, r.2⟩

/-- a list comprehension -/
theorem ev_comp {t iter elt : Expr} {ifs : List Expr} {scope : Scope} {pos : Pos} (ts fs : List Str) {fls : List LV} {ps out : List PV} (ok : C.Ok) (hA : A.handled = none)
    (chk : compChk scope C.env ts fs t = true) (hsrc : IterZ C A Z σ t iter uncons ps) (caps : Caps C σ fs fls) (hnd : (owns fls).Nodup)
    (hw : ∀ L Z', (compCx C scope (ts ++ fs) L).Ok → WC (compCx C scope (ts ++ fs) L) A t ifs elt Z' ps (ts.map (fun _ => .unb) ++ fls) out) (hsz : out.length ≤ sizeLine)
    (hf : ∀ x, foldedSetIterable iter C.env x = pure x := by intro _; rfl) : Ev C A Z σ (.ListComp elt [⟨t, iter, ifs, 0⟩] scope pos) .n (.list out) := by
  intro s Q E S hQ
  have K := compChk_of chk
  rw [eval_ListComp]
  refine wpAny_comprehension_free (use := none) rfl hf (clos_eq fun x hx => ?_) K.k1 (fun x hx e => ?_) ?_
  · obtain ⟨c, hc⟩ := clos_lookup ok K caps.mem (K.n2 x hx); rw [hc]; rfl
  · obtain ⟨n, k⟩ := x
    simp only at e
    subst e
    exact lookup_of_mem K.nn hx
  · refine comp_core (RR := fun acc L => compPost C.M A E none Q acc L) ok hA K hsrc caps hnd hw hsz S fun D L s' m X hL hLD hn r => ?_
    refine ⟨m, hn, fun h' hs' => hQ _ _ ⟨fun b o e => (hs'.2 b fun q => ?_).trans (X.kp b o e), X.gk, X.dr, X.os⟩ (res_but hLD hn hs' r)⟩
    subst q; rw [hL] at e; cases e

theorem w1_assign_comp {t iter elt : Expr} {ifs : List Expr} {scope : Scope} {pos spos py : Pos} {y : Str} {i : Nat} {P : Post} (ts fs : List Str) {fls : List LV} {ps out : List PV} (ok : C.Ok) (hA : A.handled = none) (hi : At C.vs i y)
    (chk : compChk scope C.env ts fs t = true) (hsrc : IterZ C A Z σ t iter uncons ps) (caps : Caps C σ fs fls) (hnd : (owns fls).Nodup)
    (hw : ∀ L Z', (compCx C scope (ts ++ fs) L).Ok → WC (compCx C scope (ts ++ fs) L) A t ifs elt Z' ps (ts.map (fun _ => .unb) ++ fls) out) (hsz : out.length ≤ sizeLine)
    (h : P .next Z (σ.set i (.v (.list out))))
    (hsw : swapsWith (.ListComp elt [⟨t, iter, ifs, 0⟩] scope pos) (some (.Name y py)) spos.line C.env = pure true := by rfl)
    (hf : ∀ x, foldedSetIterable iter C.env x = pure x := by intro _; rfl) : W1 C A Z σ (.Assign [.Name y py] (.ListComp elt [⟨t, iter, ifs, 0⟩] scope pos) spos) P := by
  intro s Q E S hQ
  have K := compChk_of chk
  rw [exec_Assign_Name_used _ _ _ _ hsw]
  refine wpAny_bind (wpAny_standAt (wpAny_bind ?_))
  show wpAny _ A (do let _ ← comprehension (.ListComp elt [⟨t, iter, ifs, 0⟩] scope pos) scope C.env _ (newList []) false (eval iter C.env) (some (assign (.Name y py) C.env))) _ _ s
  refine wpAny_bind (wpAny_mono (wpAny_comprehension_free (use := some (assign (.Name y py) C.env)) (Q := fun _ s' => Q .next s') rfl hf (clos_eq fun x hx => ?_) K.k1 (fun x hx e => ?_) ?_) (fun _ s' hq => wpAny_pure (wpAny_pure hq)) fun _ _ e => e)
  · obtain ⟨c, hc⟩ := clos_lookup ok K caps.mem (K.n2 x hx); rw [hc]; rfl
  · obtain ⟨n, k⟩ := x
    simp only at e
    subst e
    exact lookup_of_mem K.nn hx
  · refine comp_core (RR := fun acc L => compPost C.M A E (some (assign (.Name y py) C.env)) (fun _ s' => Q .next s') acc L) ok hA K hsrc caps hnd hw hsz S fun D L s' m X hL hLD hn r => ?_
    show wpAny _ A (assign (.Name y py) C.env (.ref D)) _ _ _
    have S' := S.ext X
    refine wpAny_assign_Name (store_v ok S' hi r.1 fun s2 S2 F L2 O _ _ => ?_)
    have lv : ∀ b o, s.heap.get? b = some o → b ≠ L := fun b o e q => by subst q; rw [hL] at e; cases e
    have priv : ¬ Priv C Z L := S.npriv ok hL
    have hn2 : s2.heap.Ns L m := let ⟨o, es, ep, e, r⟩ := hn; ⟨o, es, ep, F.kp L o e priv, r⟩
    refine ⟨m, hn2, fun h' hs' => ?_⟩
    have k : ∀ b o, s2.heap.get? b = some o → b ≠ L → h'.get? b = some o := fun b o e n => (hs'.2 b n).trans e
    refine hQ .next _ Z _ _ h ?_ ⟨fun b o e n => k b o (F.kp b o (X.kp b o e) n) (lv b o e), F.zz' , X.gk.trans F.gk, F.dr.trans X.dr, F.os.trans X.os⟩ (fun b e => ?_) rfl
    · refine S2.mv' (fun b o e => k b o (S2.keep b o e) (lv b o (S.keep b o e))) (fun b o e q _ => k b o e fun w => ?_) (fun b o w e d => k b o e fun q => ?_) (fun o e => k _ o e fun q => priv (.inr (.inl q.symm))) (fun b hb o e => k b o e fun q => ?_) fun a z => ?_
      · subst w; exact ns_seq hn2 e q
      · subst q; exact ns_cell hn2 ⟨o, e, d⟩
      · obtain ⟨xs, hx⟩ := mem_owns hb
        obtain ⟨m2, _, V⟩ := S2.vars
        exact priv (.inl (q ▸ V.ownZ _ _ hx))
      · obtain ⟨o, e, q⟩ := S2.zl a z
        exact ⟨o, k a o e (fun w => priv (.inl (w ▸ z))), q⟩
    · by_cases q : b = L
      · subst q; exact hL
      · exact none_kp X.kp (L2 b ((hs'.2 b q).symm.trans e))
where
  F.zz' {Z : Addr → Prop} {s : Shared} : ∀ a, Z a → Z a ∨ s.heap.get? a = none := fun _ z => .inl z
end
end Py

namespace Py

section
variable {C : Cx} {A : Around} {Z : Addr → Prop} {σ : List LV} {P : Post} {k0 : Nat}

theorem W1.of_ext {st : Stmt} (h : ∀ (s : Shared) (Q : Flow → Shared → Prop) (E : Value → Shared → Prop), St C Z σ s →
    (∀ fl f Z' σ' s1 s', Ext s s1 → P fl Z' σ' → St C Z' σ' s' → Frame C Z s1 Z' s' → Lv s1 s' → FlIs C s'.heap fl f → Q f s') → wpAny C.M A (exec st C.env) Q E s) : W1 C A Z σ st P :=
  fun s Q E S hQ => h s Q E S fun fl f Z' σ' s1 s' X p S' F L hf => hQ fl f Z' σ' s' p S' ((Frame.ofExt X).trans F fun a e => none_kp X.kp e) (Lv.trans (Lv.ofKp X.kp) L) hf

/-- x op= e -/
theorem w1_aug {x : Str} {px pos : Pos} {op : Operator} {e : Expr} {i : Nat} {k : RK} {p q r : PV} (ok : C.Ok) {n : Nat} (hA : OkA n A) (hi : At C.vs i x) (hx : σ[i]? = some (.v p)) (he : Ev C A Z σ e k q) (hop : Op2 C n (inplaceOp op) p q .f r) (h : P .next Z (σ.set i (.v r))) :
    W1 C A Z σ (.AugAssign (.Name x px) op e pos) P := by
  refine W1.of_ext fun s Q E S hQ => ?_
  obtain ⟨m, hn, V⟩ := S.vars
  obtain ⟨v, h1, h2⟩ := V.get hi hx
  refine wpAny_AugAssign_Name (loadVar ok hi.mem hn h1 (he s _ E S fun w s1 X1 r1 => ?_))
  refine hop A Z s1 _ E v w ((S.ext X1).here ok hA) (h2.b.kp X1.kp) r1.toB fun y s2 X2 r2 => ?_
  exact store_v ok ((S.ext X1).ext X2) hi r2 fun s3 S3 F3 L3 _ _ _ => hQ .next _ _ _ s2 s3 (X1.trans X2) h S3 F3 L3 rfl

theorem ev_own_at {s : Shared} {x : Str} {px : Pos} {i : Nat} {a : Addr} {xs : List PV} {Q : Value → Shared → Prop} {E : Value → Shared → Prop} (ok : C.Ok) (S : St C Z σ s) (hi : At C.vs i x) (hx : σ[i]? = some (.own a xs)) (h : Q (.ref a) s) : wpAny C.M A (eval (.Name x px) C.env) Q E s := by
  obtain ⟨m, hn, V⟩ := S.vars
  obtain ⟨h1, _⟩ := V.get hi hx
  exact wpAny_Name (loadVar ok hi.mem hn h1 h) (ok.nodbg x hi.mem)
theorem own_list {s : Shared} {x : Str} {i : Nat} {a : Addr} {xs : List PV} (S : St C Z σ s) (hi : At C.vs i x) (hx : σ[i]? = some (.own a xs)) : ∃ vs, s.heap.PlainList a vs.toArray ∧ Reps s.heap Z xs vs := by
  obtain ⟨m, hn, V⟩ := S.vars
  obtain ⟨_, _, vs, h1, h2⟩ := V.get hi hx
  exact ⟨vs, h1, h2⟩

theorem upd_plain {h : Heap} {a : Addr} {items : Array Value} (x : h.PlainList a items) (f : Array Value → Array Value) : (h.update a (Obj.mapSeq f)).PlainList a (f items) := by
  obtain ⟨n, e⟩ := x
  exact ⟨_, PySem.IsL.update (n := n) e f⟩

theorem set_own {s : Shared} {x : Str} {i : Nat} {a : Addr} {xs : List PV} {j : Int} {t : Tok} {p : PV} {v : Value} {Q : Unit → Shared → Prop} {E : Value → Shared → Prop} (ok : C.Ok) (S : St C Z σ s) (hi : At C.vs i x) (hx : σ[i]? = some (.own a xs)) (h0 : 0 ≤ j) (hj : j < xs.length) (hl : xs.length ≤ 2 ^ 24) (hr : Rep s.heap Z p v)
    (h : ∀ s', St C Z (σ.set i (.own a (xs.set j.toNat p))) s' → Frame C Z s Z s' → Lv s s' → Q () s') : wpAny C.M A (setItem (.ref a) (.int j t) v) Q E s := by
  obtain ⟨vs, hla, hra⟩ := own_list S hi hx
  obtain ⟨n, hg⟩ := hla
  refine ki_setAt hg h0 (by omega) (by rw [List.size_toArray, hra.length]; exact hj) ?_
  have hl2 := upd_plain ⟨n, hg⟩ (·.setIfInBounds j.toNat v)
  rw [show vs.toArray.setIfInBounds j.toNat v = (vs.set j.toNat v).toArray by simp] at hl2
  have := upd_own (xs' := xs.set j.toNat p) ok S hi hx (Heap.SameBut.update ..) hl2 (hra.set _ hr) s.toks
  exact h _ this.1 this.2.1 this.2.2

/-- x[i] op= e -/
theorem w1_aug_item {x : Str} {px tpos pos : Pos} {op : Operator} {e ix : Expr} {i : Nat} {a : Addr} {xs : List PV} {j : Int} {k k' : RK} {p q r : PV} (ok : C.Ok) {n : Nat} (hA : OkA n A) (hi : At C.vs i x) (hx : σ[i]? = some (.own a xs)) (hix : Ev C A Z σ ix k' (.int j)) (h0 : 0 ≤ j) (hj : xs[j.toNat]? = some p) (hl : xs.length ≤ 2 ^ 24)
    (he : Ev C A Z σ e k q) (hop : Op2 C n (inplaceOp op) p q .f r) (h : P .next Z (σ.set i (.own a (xs.set j.toNat r)))) (hau : ∀ ov iv new, augStore ix ov iv new = (do holding [new, ov, iv] (setItem ov iv new); release [new, ov, iv] []; pure .next) := by intros; rfl) :
    W1 C A Z σ (.AugAssign (.Subscript (.Name x px) ix tpos) op e pos) P := by
  refine W1.of_ext fun s Q E S hQ => ?_
  refine wpAny_AugAssign_SubscriptAny (ev_own_at ok S hi hx (hix s _ E S fun iv s1 X1 r1 => ?_)) hau
  obtain ⟨t, rfl⟩ := r1.toB
  have S1 := S.ext X1
  obtain ⟨vs, hla, hra⟩ := own_list S1 hi hx
  obtain ⟨v, hv, rv⟩ := hra.get _ hj
  have hlt : j.toNat < xs.length := (List.getElem?_eq_some_iff.mp hj).1
  refine wpAny_getItem_list hla.isList h0 (by omega) (by simpa using hv) (he s1 _ E S1 fun w s2 X2 r2 => ?_)
  refine hop A Z s2 _ E v w ((S1.ext X2).here ok hA) (rv.b.kp X2.kp) r2.toB fun y s3 X3 r3 => ?_
  exact set_own ok ((S1.ext X2).ext X3) hi hx h0 (by omega) hl r3 fun s4 S4 F4 L4 => hQ .next _ _ _ s3 s4 ((X1.trans X2).trans X3) h S4 F4 L4 rfl

noncomputable def del (a : Addr) (Z : Addr → Prop) : Addr → Prop := fun b => Z b ∧ b ≠ a
/-- a method call, as it runs -/
theorem meth_raw {o : Expr} {name : Str} {apos pos : Pos} {es : List Expr} {ps : List PV} {T id : String} {s : Shared} {Q : Value → Shared → Prop} {E : Value → Shared → Prop} (m : Meth name T id) (ha : EvL C A Z σ es ps)
    (ho : wpAny C.M A (eval o C.env) (fun u s1 => St C Z σ s1 ∧ s1.TypeIs u T ∧ (∀ b, u = .ref b → ∃ ob, s1.heap.get? b = some ob ∧ ob.dict = none) ∧ ∀ vs s2, Ext s1 s2 → Reps s2.heap Z ps vs → wpAny C.M A (call (.builtin id) (u :: vs)) Q E s2) E s)
    (hline : (apos.endLine == pos.line) = true := by rfl) (hbase : attributeBase o name C.env (eval o C.env) = eval o C.env := by rfl) (hfew : decide (es.length + 0 + 0 < 30) = true := by rfl) : wpAny C.M A (eval (.Call (.Attribute o name apos) es [] pos) C.env) Q E s := by
  have hf : ((backTo pos (starEach es C.env)).all (fun x => !x.1) && (backToKw pos (keywordEach [] C.env)).all (fun x => x.1.isSome) && decide (es.length + ([] : List Keyword).length + (if ([] : List Keyword).isEmpty then 0 else 1) < 30)) = true := by
    have h1 : (backTo pos (starEach es C.env)).all (fun x => !x.1) = true := by
      have := evl_plain (pos := pos) ha
      rw [List.all_eq_not_any_not]
      simpa using this
    rw [h1]
    exact hfew
  refine wpAny_Call_method_late hbase hf hline rfl (wpAny_mono ho (fun u s1 h1 => ?_) fun _ _ e => e)
  obtain ⟨S1, hT, hd, h⟩ := h1
  exact ⟨T, id, m.pa, m.slot, m.ty, hT, hd, callWith_builtin (evl_plain ha) (evArgsL ha S1 fun vs s2 X2 r2 => h vs s2 X2 r2)⟩
theorem meth_extend : Meth "extend" "list" "list.extend" := ⟨F.plainAttrs_list, F.slot_list_extend, F.type_list_extend⟩

-- some more operations
theorem op_is_none_none : Op2 C k0 (compareOp .Is) .none .none .f (.bool true) := by
  rintro A Z s Q E u v H hu hv hQ
  have hu : u = .none := hu
  have hv : v = .none := hv
  subst hu hv
  exact is_none_none (hQ _ _ (.refl _) rfl)
theorem op_is_int_none {a : Int} : Op2 C k0 (compareOp .Is) (.int a) .none .f (.bool false) := by
  rintro A Z s Q E u v H ⟨t, rfl⟩ hv hQ
  have hv : v = .none := hv
  subst hv
  exact is_int_none (hQ _ _ (.refl _) rfl)

theorem op_ne_lists {xs ys : List PV} {b : Bool} (h : ∀ (h : Heap) (Z : Addr → Prop) (vs ws : List Value), Reps h Z xs vs → Reps h Z ys ws → vs.length = ws.length → ∃ e : Nat → Bool, (∀ j (h1 : j < vs.length) (h2 : j < ws.length), MeetsSeq.EqGives vs[j] ws[j] (e j)) ∧ (List.range vs.length).all e = b)
    (hn : xs.length ≠ ys.length → b = false) : Op2 C k0 (compareOp .NotEq) (.list xs) (.list ys) .f (.bool (!b)) := by
  rintro A Z s Q E u v H ⟨a, vs, rfl, ha, ra⟩ ⟨c, ws, rfl, hb, rb⟩ hQ
  have hu : A.units < cLine := by have := H.a.u; omega
  by_cases hl : vs.length = ws.length
  · obtain ⟨e, he, hall⟩ := h s.heap Z vs ws ra rb hl
    have r := PySem.SeqAt.RcNeAt.lists (s := s) ha.isList hb.isList (by simpa using hl) hu (e := e) fun j h1 h2 => ((he j (by simpa using h1) (by simpa using h2)).at _ _)
    rw [List.size_toArray, hall] at r
    exact r C.prog C.w E Q (hQ _ _ (.refl _) rfl)
  · have r := PySem.SeqAt.RcNeAt.lists_lengths (s := s) ha.isList hb.isList (by simpa using hl) hu
    have := hn (by rw [← ra.length, ← rb.length]; exact hl)
    subst this
    exact r C.prog C.w E Q (hQ _ _ (.refl _) rfl)
end
end Py

namespace Py

/-- what holds of the heap all the while -/
structure WW (K : Frag) (mg mb : Str → Option Value) (h : Heap) : Prop where
  inn : K.In h
  lim : h.NoLimit
  g : h.Ns mainGlobals mg
  b : h.Ns builtinsNs mb
theorem WW.mono {K : Frag} {mg mb : Str → Option Value} (h h' : Heap) (x : WW K mg mb h) (k : Kp h h') : WW K mg mb h' := ⟨x.inn.keeps k, x.lim.keeps k, x.g.keeps k, x.b.keeps k⟩

theorem gv_K {C : Cx} {K : Frag} {mg mb : Str → Option Value} {x : Str} {v : Value} (hW : C.W = WW K mg mb) (e : nsIn K mainGlobals x = some (some v)) (hk : C.env.scope.kind = .function) (hx : C.env.kindOf x = some .globalImplicit) (hg : C.env.globals = mainGlobals) (hd : (x == ("__debug__" : Str)) = false) : GV C x v := by
  intro A s Q E pos hw h
  rw [hW] at hw
  exact Name_function_global hk hx (loadGlobal_global (hg ▸ hw.g) (mg_of hw.inn hw.g e) h) hd
theorem gv_B {C : Cx} {K : Frag} {mg mb : Str → Option Value} {x : Str} {v : Value} (hW : C.W = WW K mg mb) (hB : ∀ x : Str, x ≠ "__name__" → mb x = bootBuiltins x) (e : nsIn K mainGlobals x = some none) (hv : bootBuiltins x = some v) (hn : x ≠ "__name__") (hk : C.env.scope.kind = .function) (hx : C.env.kindOf x = some .globalImplicit) (hg : C.env.globals = mainGlobals) (hb : C.env.builtins = builtinsNs) (hd : (x == ("__debug__" : Str)) = false) : GV C x v := by
  intro A s Q E pos hw h
  rw [hW] at hw
  exact Name_function_global hk hx (loadGlobal_builtin (hg ▸ hw.g) (mg_none_of hw.inn hw.g e) (hb ▸ hw.b) ((hB x hn).trans hv) h) hd

theorem bindL_miss {kindOf : Str → Option NameKind} {x : Str} : ∀ {bs : List (Str × Value)} {m : Str → Option Value}, x ∉ bs.map (·.1) → bindL kindOf bs m x = m x
  | [], _, _ => rfl
  | (n, v) :: r, m, h => by
    rw [List.map_cons, List.mem_cons, not_or] at h
    unfold bindL
    rw [bindL_miss h.2]
    split
    · exact if_neg h.1
    · rfl
theorem bindC_miss {kindOf : Str → Option NameKind} {x : Str} : ∀ {bs : List (Str × Value)} {m : Str → Option Value}, x ∉ bs.map (·.1) → bindC kindOf bs m x = m x
  | [], _, _ => rfl
  | (n, v) :: r, m, h => by
    rw [List.map_cons, List.mem_cons, not_or] at h
    unfold bindC
    rw [bindC_miss h.2]
    split
    · rfl
    · exact if_neg h.1
theorem bindL_hit {kindOf : Str → Option NameKind} {x : Str} {v : Value} (hk : kindOf x = some .local) : ∀ {bs : List (Str × Value)} {m : Str → Option Value}, (bs.map (·.1)).Nodup → (x, v) ∈ bs → bindL kindOf bs m x = some v
  | (n, u) :: r, m, hn, h => by
    rw [List.map_cons, List.nodup_cons] at hn
    unfold bindL
    rcases List.mem_cons.mp h with e | h
    · cases e
      rw [bindL_miss hn.1, if_pos hk]; exact if_pos rfl
    · exact bindL_hit hk hn.2 h
theorem bindC_hit {kindOf : Str → Option NameKind} {x : Str} {v : Value} (hk : kindOf x ≠ some .local) : ∀ {bs : List (Str × Value)} {m : Str → Option Value}, (bs.map (·.1)).Nodup → (x, v) ∈ bs → bindC kindOf bs m x = some v
  | (n, u) :: r, m, hn, h => by
    rw [List.map_cons, List.nodup_cons] at hn
    unfold bindC
    rcases List.mem_cons.mp h with e | h
    · cases e
      rw [bindC_miss hn.1, if_neg hk]; exact if_pos rfl
    · exact bindC_hit hk hn.2 h

noncomputable def fnCx (C : Cx) (fd : FuncData) (h : Heap) (a : Addr) (vs' : List Str) : Cx := { C with env := callEnvC fd h.objs.size a, vs := vs', h₀ := h }
noncomputable def fnChk (sc : Scope) (pn locs : List Str) : Bool :=
  sc.kind == .function && decide ((pn ++ locs).Nodup) && (pn ++ locs).all (fun x => !(x == ("__debug__" : Str))) && (pn ++ locs).all (fun x => sc.names.lookup x == some .local || sc.names.lookup x == some .cell)
  && sc.names.all (fun p => p.2 != .cell || (pn ++ locs).contains p.1) && decide (sc.names.map (·.1)).Nodup
structure FnChk (sc : Scope) (pn locs : List Str) : Prop where
  k1 : sc.kind = .function
  nd : (pn ++ locs).Nodup
  nb : ∀ x ∈ pn ++ locs, (x == ("__debug__" : Str)) = false
  hl : ∀ x ∈ pn ++ locs, sc.names.lookup x = some .local ∨ sc.names.lookup x = some .cell
  hc : ∀ x, (x, NameKind.cell) ∈ sc.names → x ∈ pn ++ locs
  nn : (sc.names.map (·.1)).Nodup
theorem fnChk_of {sc : Scope} {pn locs : List Str} (h : fnChk sc pn locs = true) : FnChk sc pn locs := by
  unfold fnChk at h
  simp only [Bool.and_eq_true, List.all_eq_true, Bool.or_eq_true, beq_iff_eq, decide_eq_true_eq, bne_iff_ne, ne_eq, List.contains_iff_mem] at h
  obtain ⟨⟨⟨⟨⟨h1, h2⟩, h3⟩, h4⟩, h5⟩, h6⟩ := h
  exact ⟨h1, h2, fun x hx => by simpa using h3 x hx, h4, fun x hx => (h5 _ hx).resolve_left (by simp), h6⟩

section
variable {C : Cx} {fd : FuncData} {pn locs : List Str} {h : Heap} {a : Addr}

theorem fn_cells {x : Str} {c : Addr} (hm : (x, c) ∈ (callEnvC fd h.objs.size a).cells) : (x, NameKind.cell) ∈ fd.scope.names ∧ h.objs.size + 1 ≤ c := by
  rcases cells_mem hm with q | q
  · exact q
  · cases q
theorem fn_names (K : FnChk fd.scope pn locs) : ((callEnvC fd h.objs.size a).cells.map (·.1)).Nodup := cells_names K.nn List.nodup_nil fun _ h => by cases h
theorem fn_lookup (K : FnChk fd.scope pn locs) {x : Str} (hx : (x, NameKind.cell) ∈ fd.scope.names) : ∃ c, (callEnvC fd h.objs.size a).cells.lookup x = some c := by
  obtain ⟨c, hc⟩ := cells_ex (n := h.objs.size + 1) (acc := []) hx
  exact ⟨c, lookup_of_mem (fn_names (h := h) (a := a) K) hc⟩
theorem get_none {b : Addr} (hb : h.objs.size ≤ b) : h.get? b = none := by
  cases e : h.get? b with
  | none => rfl
  | some o => exact absurd (Heap.lt_size e) (Nat.not_lt.mpr hb)

theorem fn_ok (hmono : ∀ h h', C.W h → Kp h h' → C.W h') (hlim : ∀ h, C.W h → h.NoLimit) (hw : C.W h) (K : FnChk fd.scope pn locs) : (fnCx C fd h a (pn ++ locs)).Ok where
  mono := hmono
  w0 := hw
  lim := hlim
  fk := K.k1
  nodup := K.nd
  nodbg := K.nb
  loc := fun x hx => by
    rcases K.hl x hx with q | q
    · exact .inl q
    · obtain ⟨c, hc⟩ := fn_lookup (h := h) (a := a) K (mem_of_lookup q)
      exact .inr ⟨c, hc, .inl q⟩
  apart := cells_apart List.Pairwise.nil fun _ h => by cases h
  newL := get_none (Nat.le_refl _)
  newC := fun x hx => get_none (Nat.le_of_succ_le (fn_cells (x := x.1) (c := x.2) hx).2)
  cov := fun x hx => by
    have q := (fn_cells (x := x.1) (c := x.2) hx).1
    refine ⟨K.hc _ q, ?_, lookup_of_mem (fn_names K) hx⟩
    show fd.scope.names.lookup x.1 ≠ some .local
    rw [lookup_of_mem K.nn q]; simp

theorem RepB.e {h' : Heap} {Z : Addr → Prop} {p : PV} {v : Value} (k : Kp h h') (r : RepB h Z p v) : Rep h' (fun _ => False) p v := by
  have r := r.kp k
  cases p with
  | list xs =>
    obtain ⟨b, vs, rfl, hl, rs⟩ := r
    simp only [Rep]
    exact ⟨b, vs, rfl, hl, id, Reps.chg (fun _ _ e _ _ => ⟨e, id⟩) _ _ rs⟩
  | _ => exact Rep.chg (Z := Z) (fun _ _ e _ _ => ⟨e, id⟩) _ _ r

theorem fn_vars {s₁ : Shared} {Z : Addr → Prop} {ps : List PV} {vals : List Value} (K : FnChk fd.scope pn locs) (k : Kp h s₁.heap) (hlen : pn.length = vals.length) (hr : RepBs h Z ps vals)
    (X : InCallC s₀ (callEnvC fd h.objs.size a).locals (bindL (callEnvC fd h.objs.size a).kindOf (pn.zip vals) fun _ => none) (callEnvC fd h.objs.size a).cells (bindC (callEnvC fd h.objs.size a).kindOf (pn.zip vals) fun _ => none) s₁) :
    Vars (callEnvC fd h.objs.size a) s₁.heap (fun _ => False) (bindL (callEnvC fd h.objs.size a).kindOf (pn.zip vals) fun _ => none) (pn ++ locs) (ps.map .v ++ locs.map fun _ => .unb) := by
  have hz : ((pn.zip vals).map (·.1)) = pn := by
    rw [List.map_fst_zip]; exact Nat.le_of_eq hlen
  have hnd : ((pn.zip vals).map (·.1)).Nodup := by rw [hz]; exact (List.nodup_append.mp K.nd).1
  have G : ∀ {xs : List Str}, (∀ x ∈ xs, x ∈ pn ++ locs) → Vars (callEnvC fd h.objs.size a) s₁.heap (fun _ => False) (bindL (callEnvC fd h.objs.size a).kindOf (pn.zip vals) fun _ => none) xs (xs.map fun _ => .unb) := by
    intro xs
    induction xs with
    | nil => intro _; trivial
    | cons x xs ih =>
      intro hx
      refine ⟨fun _ c hc => ⟨_, X.cell x c hc⟩, ih fun y hy => hx y (.tail _ hy)⟩
  have F : ∀ {xs : List Str} {qs : List PV} {us : List Value}, (∀ y ∈ xs.zip us, y ∈ pn.zip vals) → (∀ x ∈ xs, x ∈ pn) → xs.length = us.length → RepBs h Z qs us → Vars (callEnvC fd h.objs.size a) s₁.heap (fun _ => False) (bindL (callEnvC fd h.objs.size a).kindOf (pn.zip vals) fun _ => none) (xs ++ locs) (qs.map .v ++ locs.map fun _ => .unb) := by
    intro xs
    induction xs with
    | nil =>
      intro qs us _ _ hl hr
      cases us with
      | cons => simp at hl
      | nil => cases qs with
        | nil => exact G fun x hx => List.mem_append_right _ hx
        | cons => obtain ⟨_, _, q, _⟩ := hr; cases q
    | cons x xs ih =>
      intro qs us hm hx hl hr
      cases us with
      | nil => simp at hl
      | cons u us =>
        cases qs with
        | nil => cases hr
        | cons q qs =>
          obtain ⟨v, r, e, h1, h2⟩ := hr
          cases e
          refine ⟨⟨u, ?_, h1.e k⟩, ih (fun y hy => hm y (.tail _ hy)) (fun y hy => hx y (.tail _ hy)) (by simpa using hl) h2⟩
          have hin : (x, u) ∈ pn.zip vals := hm _ (.head _)
          have hxp : x ∈ pn ++ locs := List.mem_append_left _ (hx x (.head _))
          rcases K.hl x hxp with kl | kc
          · exact .inl ⟨kl, bindL_hit kl hnd hin⟩
          · have nk : (callEnvC fd h.objs.size a).kindOf x ≠ some .local := by
              show fd.scope.names.lookup x ≠ _
              rw [kc]; simp
            obtain ⟨c, hc⟩ := fn_lookup (h := h) (a := a) K (mem_of_lookup kc)
            refine .inr ⟨nk, c, hc, ?_⟩
            have := X.cell x c hc
            rw [bindC_hit nk hnd hin] at this
            exact this
  exact F (fun _ h => h) (fun _ h => h) hlen hr
theorem RepBs.length {Z : Addr → Prop} : ∀ {ps : List PV} {vs : List Value}, RepBs h Z ps vs → vs.length = ps.length
  | [], _, x => by cases x; rfl
  | _ :: ps, _, ⟨v, r, e, _, h2⟩ => by subst e; simp [RepBs.length h2]

theorem len1 {P : List Value → Prop} (h1 : ∀ a, P [a]) : ∀ vals : List Value, vals.length = 1 → P vals := fun vals h => by
  obtain ⟨a, rfl⟩ := List.length_eq_one_iff.mp h
  exact h1 a
theorem len2 {P : List Value → Prop} (h2 : ∀ a b, P [a, b]) : ∀ vals : List Value, vals.length = 2 → P vals := fun vals h => by
  cases vals with
  | nil => cases h
  | cons a r => exact len1 (P := fun r => P (a :: r)) (h2 a) r (Nat.succ.inj h)
theorem len3 {P : List Value → Prop} (h3 : ∀ a b c, P [a, b, c]) : ∀ vals : List Value, vals.length = 3 → P vals := fun vals h => by
  cases vals with
  | nil => cases h
  | cons a r => exact len2 (P := fun r => P (a :: r)) (h3 a) r (Nat.succ.inj h)

/-- how a function ends -/
noncomputable def Ends (r : PV) : Post := fun fl _ _ => fl = .ret r ∨ (fl = .next ∧ r = .none)

/-- a function, called -/
theorem fn_call {ps : List PV} {r : PV} {n : Nat} {o : Obj} {body : List Stmt} (hmono : ∀ h h', C.W h → Kp h h' → C.W h') (hlim : ∀ h, C.W h → h.NoLimit) (ho : ∀ h, C.W h → h.get? a = some o) (hdata : o.data = .func fd)
    (hbody : fd.body = .stmts body) (hcd : ∀ h, C.W h → h.CodeRec fd.code fd.qualname) (chk : fnChk fd.scope pn locs = true) (hbind : ∀ vals : List Value, vals.length = pn.length → bindArgs fd ⟨vals, []⟩ = pure (pn.zip vals)) (hps : ps.length = pn.length)
    (hrun : ∀ (h : Heap) (A : Around), OkA n A → (fnCx C fd h a (pn ++ locs)).Ok → WS (fnCx C fd h a (pn ++ locs)) A (fun _ => False) (ps.map .v ++ locs.map fun _ => .unb) body (Ends r))
    (hclo : fd.closure = [] := by rfl) (hco : fd.scope.isCoroutine = false := by rfl) (hgen : fd.scope.isGenerator = false := by rfl) : OpN C (n + 1) (fun vs => call (.ref a) vs) ps .n r := by
  intro A Z s Q E vs H hr hQ
  have K := fnChk_of chk
  have hlen : vs.length = pn.length := by rw [RepBs.length hr, hps]
  refine wpAny_call (codeAny_call_cells (o := o) (fd := fd) (by have := H.a.d; omega) (ho _ H.w) hdata H.lim (hcd _ H.w) hbody (hbind vs hlen) hclo (fun x hx => ?_) (fun s₁ X => ?_) hco hgen K.k1)
  · have hxp : x.1 ∈ pn ++ locs := List.mem_append_left _ (List.of_mem_zip (a := x.1) (b := x.2) hx).1
    rcases K.hl _ hxp with q | q
    · exact .inl q
    · obtain ⟨c, hc⟩ := fn_lookup (h := s.heap) (a := a) K (mem_of_lookup q)
      exact .inr ⟨q, by rw [show List.lookup x.1 (cellsFrom (s.heap.objs.size + 1) fd.scope.names []) = _ from hc]; rfl⟩
  · obtain ⟨h', tk, rfl, hk⟩ := X.done
    have ok' := fn_ok (a := a) hmono hlim H.w K
    have S : St (fnCx C fd s.heap a (pn ++ locs)) (fun _ => False) (ps.map .v ++ locs.map fun _ => .unb) { s with heap := h', toks := tk } := by
      refine ⟨hk, fun _ z => z.elim, fun _ z => z.elim, ?_, _, X.toInCall.ns, fn_vars K hk (by rw [hlen]) hr X⟩
      have : ∀ qs : List PV, owns (qs.map LV.v ++ locs.map fun _ => LV.unb) = [] := by
        intro qs
        induction qs with
        | nil =>
          clear hrun chk K ok'
          induction locs with
          | nil => rfl
          | cons x r ih => exact ih
        | cons x r ih => exact ih
      rw [this]; exact List.nodup_nil
    refine hrun s.heap (A.deeper (callEnvC fd s.heap.objs.size a)) H.a.deeper ok' _ _ _ S fun fl f Z' σ' s' hp S' F L hf => ?_
    have np : ∀ b o, s.heap.get? b = some o → ¬ Priv (fnCx C fd s.heap a (pn ++ locs)) (fun _ => False) b := by
      rintro b o e (q | q | ⟨x, hx, q⟩)
      · exact q
      · have := ok'.newL
        rw [← q] at this
        rw [show (fnCx C fd s.heap a (pn ++ locs)).h₀ = s.heap from rfl, e] at this; cases this
      · have := ok'.newC x hx
        rw [q, show (fnCx C fd s.heap a (pn ++ locs)).h₀ = s.heap from rfl, e] at this; cases this
    have X' : Ext s s' := ⟨fun b o e => F.kp b o (hk b o e) (np b o e), F.gk, F.dr, F.os⟩
    rcases hp with rfl | ⟨rfl, rfl⟩
    · obtain ⟨v, rfl, rv⟩ := hf
      refine hQ v s' X' ⟨Rep.chg (fun b o e q z => ⟨e, fun zz => z (H.zl b zz)⟩) _ _ rv, fun b e => ?_⟩
      subst e
      cases r with
      | list xs =>
        unfold RepN at rv
        simp only [Rep] at rv
        obtain ⟨b', vs', e, _, nz, _⟩ := rv
        cases e
        cases e : s.heap.get? b with
        | none => rfl
        | some o => exact absurd ⟨o, e⟩ nz
      | tup xs =>
        unfold RepN at rv
        simp only [Rep] at rv
        obtain ⟨b', vs', e, _, nz, _⟩ := rv
        cases e
        cases e : s.heap.get? b with
        | none => rfl
        | some o => exact absurd ⟨o, e⟩ nz
      | none => cases rv
      | bool b => cases rv
      | int i => obtain ⟨t, q⟩ := rv; cases q
      | str i => obtain ⟨t, q⟩ := rv; cases q
    · have hf : f = .next := hf
      subst hf
      exact hQ .none s' X' ⟨rfl, fun b e => by cases e⟩
end
end Py

namespace Py

-- plain sorting
noncomputable def insI (x : Int) : List Int → List Int
  | [] => [x]
  | y :: r => if x ≤ y then x :: y :: r else y :: insI x r
noncomputable def srt : List Int → List Int
  | [] => []
  | x :: r => insI x (srt r)
theorem insI_perm (x : Int) : ∀ l : List Int, (insI x l).Perm (x :: l)
  | [] => .refl _
  | y :: r => by
    unfold insI
    split
    · exact .refl _
    · exact ((insI_perm x r).cons y).trans (.swap x y r)
theorem srt_perm : ∀ l : List Int, (srt l).Perm l
  | [] => .refl _
  | x :: r => (insI_perm x (srt r)).trans ((srt_perm r).cons x)
theorem insI_sorted (x : Int) : ∀ {l : List Int}, l.Pairwise (· ≤ ·) → (insI x l).Pairwise (· ≤ ·)
  | [], _ => by simp [insI]
  | y :: r, h => by
    have h' := List.pairwise_cons.mp h
    unfold insI
    split
    · rename_i hxy
      refine List.pairwise_cons.mpr ⟨fun z hz => ?_, h⟩
      rcases List.mem_cons.mp hz with rfl | hz
      · exact hxy
      · exact Int.le_trans hxy (h'.1 z hz)
    · rename_i hxy
      refine List.pairwise_cons.mpr ⟨fun z hz => ?_, insI_sorted x h'.2⟩
      rcases List.mem_cons.mp ((insI_perm x r).mem_iff.mp hz) with rfl | hz
      · omega
      · exact h'.1 z hz
theorem srt_sorted : ∀ l : List Int, (srt l).Pairwise (· ≤ ·)
  | [] => .nil
  | x :: r => insI_sorted x (srt_sorted r)
theorem sorted_unique {le : Int → Int → Prop} (anti : ∀ a b, le a b → le b a → a = b) : ∀ {a b : List Int}, a.Perm b → a.Pairwise le → b.Pairwise le → a = b
  | [], b, hp, _, _ => by simpa using hp.symm
  | x :: a, b, hp, ha, hb => by
    cases b with
    | nil => simp at hp
    | cons y b =>
      have ha' := List.pairwise_cons.mp ha
      have hb' := List.pairwise_cons.mp hb
      have e : x = y := by
        rcases List.mem_cons.mp (hp.mem_iff.mp (.head _)) with e | hx
        · exact e
        · rcases List.mem_cons.mp (hp.mem_iff.mpr (.head _)) with e | hy
          · exact e.symm
          · exact anti _ _ (ha'.1 y hy) (hb'.1 x hx)
      subst e
      rw [sorted_unique anti hp.cons_inv ha'.2 hb'.2]
theorem eq_srt {a b : List Int} (hp : a.Perm b) (hs : a.Pairwise (· ≤ ·)) : a = srt b :=
  sorted_unique (fun _ _ h1 h2 => Int.le_antisymm h1 h2) (hp.trans (srt_perm b).symm) hs (srt_sorted b)
section
variable {C : Cx} {A : Around} {Z : Addr → Prop} {σ : List LV} {k0 : Nat}

theorem sorted_res {s : Shared} {vs : List Value} {out : Array Value} {ns : List Int} (zl : ∀ a, Z a → ∃ o, s.heap.get? a = some o) (h : IntsAre out.toList ns) : Ext s { s with heap := sortedAll s.heap vs out } ∧ Res .n Z s.heap (sortedAll s.heap vs out) (LI ns) (.ref (s.heap.objs.size + 1)) := by
  have k : Kp s.heap (sortedAll s.heap vs out) := fun b o e => sortedAll_old e
  have n : s.heap.get? (s.heap.objs.size + 1) = none := fresh_size (Nat.le_succ _)
  refine ⟨Ext.heap' k, ?_, fun a e => by cases e; exact n⟩
  simp only [Rep]
  obtain ⟨e, he⟩ := sortedAll_at s.heap vs out
  refine ⟨_, out.toList, rfl, ⟨e, by simpa using he⟩, fun z => ?_, IntsAre.reps h⟩
  obtain ⟨o, q⟩ := zl _ z
  rw [n] at q; cases q

/-- hex(int) -/
theorem fn_hex {i : Int} (h : (baseText "0x" 16 i).length ≤ sizeLine) : OpN C k0 (fun vs => call (.builtin "hex") vs) [.int i] .f (.str (baseText "0x" 16 i)) := by
  rintro A Z s Q E vs H ⟨v, r, rfl, ⟨t, rfl⟩, rfl⟩ hQ
  exact P.hex_of_int (hQ _ _ (Ext.toks _ _) ⟨_, rfl⟩) h

theorem strs_values : ∀ l : List (Str × Tok), StrsAre (strValues l) (l.map (·.1))
  | [] => .nil
  | (x, t) :: r => .cons x t (strs_values r)
theorem res_strs {s : Shared} {vs : List Value} {ss : List Str} (zl : ∀ a, Z a → ∃ o, s.heap.get? a = some o) (h : StrsAre vs ss) (tk : Tok) : Ext s { s with toks := tk, heap := s.heap.push { cls := .type "list", data := .seq vs.toArray } } ∧ Res .n Z s.heap (s.heap.push { cls := .type "list", data := .seq vs.toArray }) (LS ss) (.ref s.heap.objs.size) :=
  ⟨Ext.heap (fun _ _ e => Heap.get?_push_of_some _ e) _, res_list zl (StrsAre.reps h)⟩
/-- text.split(text) -/
theorem fn_split {x y : Str} (hy : (y.length == 0) = false) (hx : x.length ≤ sizeLine) (hn : (Builtin.Str.partsBetween x (Builtin.Str.occurrences x y 0 x.length (x.length + 1)) y.length).length ≤ sizeLine) :
    OpN C k0 (fun vs => call (.builtin "str.split") vs) [.str x, .str y] .n (LS (Txt.split x y)) := by
  rintro A Z s Q E vs H ⟨v, r, rfl, ⟨t, rfl⟩, ⟨v', r', rfl, ⟨u, rfl⟩, rfl⟩⟩ hQ
  cases h1 : (decide (x.length < y.length) || decide (Builtin.Str.strKind x < Builtin.Str.strKind y))
  · cases hf : (Builtin.Str.occurrences x y 0 x.length (x.length + 1)).isEmpty
    · refine call_meets F.slot_str_split (typeIs_str _ _ _) F.entry_str_split (F.args_str_split_2 _ _) (meets_str_split_sep x y t u h1 hy hf hx hn) ?_
      show wants Q E _ { s with toks := _, heap := s.heap.push { cls := .type "list", data := .seq (strsFrom s.toks (Builtin.Str.partsBetween x (Builtin.Str.occurrences x y 0 x.length (x.length + 1)) y.length)).toArray } }
      rw [strsFrom_eq]
      have e : (numbered s.toks (Builtin.Str.partsBetween x (Builtin.Str.occurrences x y 0 x.length (x.length + 1)) y.length)).map (·.1) = Txt.split x y := (numbered_texts _ _).trans ((if_neg (ne_true_of_eq_false h1)).trans (if_neg (ne_true_of_eq_false hf))).symm
      have q := strs_values (numbered s.toks (Builtin.Str.partsBetween x (Builtin.Str.occurrences x y 0 x.length (x.length + 1)) y.length))
      rw [e] at q
      obtain ⟨X, r⟩ := res_strs H.zl q (s.toks + (Builtin.Str.partsBetween x (Builtin.Str.occurrences x y 0 x.length (x.length + 1)) y.length).length)
      exact hQ _ _ X r
    · have e : Txt.split x y = [x] := (if_neg (ne_true_of_eq_false h1)).trans (if_pos hf)
      refine call_meets F.slot_str_split (typeIs_str _ _ _) F.entry_str_split (F.args_str_split_2 _ _) (meets_str_split_not_found x y t u h1 hy hf) ?_
      obtain ⟨X, r⟩ := res_strs H.zl (strs_values [(x, t)]) s.toks
      rw [e] at hQ
      exact hQ _ _ X r
  · have e : Txt.split x y = [x] := if_pos h1
    refine call_meets F.slot_str_split (typeIs_str _ _ _) F.entry_str_split (F.args_str_split_2 _ _) (meets_str_split_cannot_occur x y t u h1) ?_
    obtain ⟨X, r⟩ := res_strs H.zl (strs_values [(x, t)]) s.toks
    rw [e] at hQ
    exact hQ _ _ X r
theorem meth_split : Meth "split" "str" "str.split" := ⟨F.plainAttrs_str, F.slot_str_split, F.type_str_split⟩

/-- a global dict of texts by ints, asked with a text in hand -/
theorem dict_get {d : Addr} {es : Array DictEntry} {ep : Nat} {k : Int} {t : Tok} {dflt : Value} {s : Shared} {Q : Value → Shared → Prop} {E : Value → Shared → Prop} (ho : s.heap.get? d = some { cls := .type "dict", data := .dict es ep }) (hd : (d == sysModules) = false)
    (hk : ∀ e ∈ es.toList, ∃ k t, e.key = .int k t ∧ e.hash = hashInt k) (h : Q ((findBy Value.isInt es k).getD dflt) { s with toks := s.toks + 1 }) : wpAny C.M A (call (.builtin "dict.get") [.ref d, .int k t, dflt]) Q E s := by
  refine call_meetsIn F.slot_dict_get ⟨_, ho, rfl⟩ F.entry_dict_get (F.args_dict_get_3 _ _ _) (meets_dict_get_default (intKind C.prog C.w) (k := k) d (by simp [intKind, Value.isInt]) hd dflt) ⟨fun k => findBy Value.isInt es k, ⟨_, es, ep, ho, ⟨rfl, rfl, rfl⟩, rfl, fun e he => ?_, fun _ => rfl⟩, h⟩
  obtain ⟨k, t, h1, h2⟩ := hk e (by simpa using he)
  exact ⟨k, by rw [h1]; simp [intKind, Value.isInt], h2⟩
end
end Py

namespace Py

section
variable {prog : Program} {w : World} {A : Around} {R : GenEnd} {Y : Protocol} {n : Nat} {s₀ : Shared} {c : Code} {fs : List PySem.Frame} {s : Shared} {env : Env}
  {K : Flow → Sem Fin} {H : Value → Sem Fin} {gd : Bool → Bool} {lv : List Value → List Value}

noncomputable def ownRaise (env : Env) (x : Value) : Sem Unit := do
  if (← field x 1) == Value.none then unsupported "frame.own-activation:exception-without-traceback"
  setFlight x env.frame

theorem seg_For {target iter : Expr} {body orelse : List Stmt} {pos : Pos} (hs : ∀ x, foldedSetIterable iter env x = pure x)
    (h : wpAny (model prog w) (A.over c fs) (eval iter env) (fun x s₁ => wpAny (model prog w) (A.over c fs) (pyIter x) (fun it s₂ => ∀ p, Seg (model prog w) A R Y n s₀ (.forLoop target it body orelse env) ((model prog w).den (.forLoop target it body orelse env))
      (.ret (fun r => ((match r with | .ok f => (.pure f : Sem Flow) | .error e => .raise e).onRaise (ownRaise env)).wrap K H gd lv) none (gd false) (lv []) c p [] :: fs) s₂) (fun _ _ => False) s₁) (fun _ _ => False) s) :
    Seg (model prog w) A R Y n s₀ c ((exec (.For target iter body orelse pos) env).wrap K H gd lv) fs s := by
  rw [exec_For]
  rw [Sem.bind_eq_wrap', Sem.wrap_wrap]
  refine seg_wrap (wpAny_standAt ?_)
  rw [Sem.bind_eq_wrap', Sem.wrap_wrap]
  refine seg_wrap (wpAny_mono h (fun x s₁ h₁ => ?_) fun _ _ x => x.elim)
  rw [hs x, pure_bind]
  rw [Sem.bind_eq_wrap', Sem.wrap_wrap]
  refine seg_wrap (wpAny_standAt ?_)
  rw [Sem.bind_eq_wrap', Sem.wrap_wrap]
  refine seg_wrap (wpAny_holding (wpAny_mono h₁ (fun it s₂ h₂ => ?_) fun _ _ x => x.elim))
  exact seg_call h₂

theorem seg_forLoop {target : Expr} {it : Value} {body orelse : List Stmt} {G : Value → Sem Fin → Prop}
    (h : wpAny (model prog w) (A.over (.forLoop target it body orelse env) fs) (pyNext it) (fun r s₁ => match r with
      | none => Seg (model prog w) A R Y n s₀ (.block orelse env) ((model prog w).den (.block orelse env)) fs s₁
      | some v => wpAny (model prog w) (A.over (.forLoop target it body orelse env) fs) (letOwnedTupleGo target it v) (fun _ s₁' => wpAny (model prog w) (A.over (.forLoop target it body orelse env) fs) (assign target env v) (fun _ s₂ =>
          ∀ H' : Value → Sem Fin, Seg (model prog w) A R Y n s₀ (.forLoop target it body orelse env) ((execs body env).wrap (fun f => match f with
            | .next | .cont => .pure (.again (.forLoop target it body orelse env))
            | .brk => .pure (.done .next)
            | .ret v => .pure (.done (.ret v))) H' id id) fs s₂) (fun _ _ => False) s₁') (fun _ _ => False) s₁) (fun _ _ => False) s) :
    Seg (model prog w) A R Y n s₀ (.forLoop target it body orelse env) ((model prog w).den (.forLoop target it body orelse env)) fs s := by
  show Seg _ A R Y n s₀ _ ((forTurn target it body orelse env).onRaise (fun x => do noteFrame x env; theTreesLotGoes x)) fs s
  unfold forTurn
  rw [Sem.onRaise_eq_wrap, Sem.bind_eq_wrap', Sem.wrap_wrap]
  refine seg_wrap (wpAny_standAt ?_)
  rw [Sem.bind_eq_wrap', Sem.wrap_wrap]
  refine seg_wrap (wpAny_onRaise (wpAny_mono h (fun r s₁ h₁ => ?_) fun _ _ x => x.elim))
  cases r with
  | none => exact seg_again rfl h₁
  | some v =>
    show Seg _ A R Y n s₀ _ (Sem.wrap _ _ _ _ (letOwnedTupleGo target it v >>= _)) fs s₁
    rw [Sem.bind_eq_wrap', Sem.wrap_wrap]
    refine seg_wrap (wpAny_mono h₁ (fun _ s₂ h₂ => ?_) fun _ _ x => x.elim)
    rw [Sem.bind_eq_wrap', Sem.wrap_wrap]
    refine seg_wrap (wpAny_mono h₂ (fun _ s₃ h₃ => ?_) fun _ _ x => x.elim)
    rw [Sem.bind_eq_wrap', Sem.wrap_wrap]
    rw [Sem.wrap_congr (execs body env) _ _ (K' := fun f => match f with
            | .next | .cont => .pure (.again (.forLoop target it body orelse env))
            | .brk => .pure (.done .next)
            | .ret v => .pure (.done (.ret v))) (fun f => by cases f <;> rfl) (fun e => rfl)]
    exact h₃ _

theorem seg_block_nil {p : Pos} {k : Result → Sem Fin} {g : Bool} {l : List Value} (h : Seg (model prog w) A R Y n s₀ c (k (.ok .next)) fs s) :
    Seg (model prog w) A R Y n s₀ (.block [] env) ((model prog w).den (.block [] env)) (.ret k none g l c p [] :: fs) s :=
  seg_leaf (.ok .next) h
theorem seg_done {c' : Code} {p : Pos} {k : Result → Sem Fin} {g : Bool} {l : List Value} {f : Flow} (h : Seg (model prog w) A R Y n s₀ c (k (.ok f)) fs s) :
    Seg (model prog w) A R Y n s₀ c' (.pure (.done f)) (.ret k none g l c p [] :: fs) s :=
  seg_leaf (.ok f) h
end
end Py

namespace Py

noncomputable def noZ : Addr → Prop := fun _ => False

/-- what a generator's code may do between two stops: hb is the heap of the call -/
structure Mg (hb : Heap) (s s' : Shared) : Prop where
  kp : ∀ b o, s.heap.get? b = some o → (hb.get? b ≠ none ∨ SeqObj o ∨ ∃ w, o.data = .cell w) → s'.heap.get? b = some o
  gk : GK s.gens s'.gens
  dr : s'.drawn = s.drawn
  os : s'.os = s.os
theorem Mg.refl {hb : Heap} {s : Shared} : Mg hb s s := ⟨fun _ _ e _ => e, .refl _, rfl, rfl⟩
theorem Mg.trans {hb : Heap} {a b c : Shared} (x : Mg hb a b) (y : Mg hb b c) : Mg hb a c := ⟨fun q o e h => y.kp q o (x.kp q o e h) h, x.gk.trans y.gk, y.dr.trans x.dr, y.os.trans x.os⟩
theorem Mg.ext {hb : Heap} {a b : Shared} (x : Ext a b) : Mg hb a b := ⟨fun q o e _ => x.kp q o e, x.gk, x.dr, x.os⟩

/-- what others may do while it stands -/
noncomputable def Kg (hb h0 : Heap) (s s' : Shared) : Prop := ∀ b o, s.heap.get? b = some o → ((¬ SeqObj o ∧ hb.get? b = none) ∨ h0.get? b ≠ none) → s'.heap.get? b = some o
theorem Kg.trans {hb h0 : Heap} {a b c : Shared} (x : Kg hb h0 a b) (y : Kg hb h0 b c) : Kg hb h0 a c := fun q o e h => y q o (x q o e h) h

/-- a value that is new, or holds no address -/
noncomputable def RepS (h₀ h : Heap) (p : PV) (v : Value) : Prop := Rep h (fun a => ∃ o, h₀.get? a = some o ∧ SeqObj o) p v
noncomputable def Yg (hb h0 : Heap) (Yv : Nat → PV) (ends : Bool) : Protocol := fun n s₀ v s kap => RepS s₀.heap s.heap (Yv n) v ∧ Mg hb s₀ s ∧ ((0 < n ∨ ends = true) → ∀ s'', Kg hb h0 s s'' → kap (.send .none) s'')
noncomputable def Pg (hb : Heap) (ends : Bool) : Nat → Shared → Shared → Prop := fun n s₀ s => (n = 0 ∧ ends = true) ∧ Mg hb s₀ s
noncomputable def Rg (hb : Heap) (ends : Bool) : GenEnd := fun n s₀ r s => r = .ok (.ret .none) ∧ Pg hb ends n s₀ s

structure FsOk (b : Nat) (A : Around) (c : Code) (fs : List PySem.Frame) : Prop where
  a : OkA b (A.over c fs)
  sp : splitAtGen fs = none
  ng : fs.any PySem.Frame.guarded = false
theorem FsOk.push {b : Nat} {A : Around} {c c' : Code} {fs : List PySem.Frame} {k : Result → Sem Fin} {l : List Value} {p : Pos} (h : FsOk b A c fs) (hw : c'.weight = 0 := by rfl) (hu : c'.cUnits = 0 := by rfl) : FsOk b A c' (.ret k none false l c p [] :: fs) := by
  refine ⟨⟨h.a.h, ?_, ?_⟩, ?_, ?_⟩
  · have := h.a.d
    simp only [Around.over, List.map_cons, PySem.Frame.where_, frameCount_cons, hw] at this ⊢
    omega
  · have := h.a.u
    simp only [Around.over, List.map_cons, PySem.Frame.where_, unitsOf_cons, hu] at this ⊢
    omega
  · simp only [splitAtGen, h.sp, Option.map_none]
  · simp only [List.any_cons, PySem.Frame.guarded, h.ng, Bool.or_self]
theorem FsOk.func {b : Nat} {A : Around} {body : List Stmt} {env : Env} (h : OkA (b + 1) A) : FsOk b A (.func body env) [] := by
  refine ⟨⟨h.h, ?_, ?_⟩, rfl, rfl⟩
  · have := h.d
    show A.depth + 0 + 1 + b < recursionLimit
    omega
  · have := h.u
    show A.units + 0 + 3 + 4 * b + 16 < cLine
    omega

noncomputable def ScalS (σ : List LV) : Prop := ∀ l ∈ σ, l = .unb ∨ ∃ p, l = .v p ∧ Scal p

/-- a generator's own context, and what is known of it -/
structure GOk (C : Cx) (hb : Heap) : Prop where
  ok : C.Ok
  cells : C.env.cells = []
  nl : hb.get? C.env.locals = none
  sub : ∀ b o, C.h₀.get? b = some o → hb.get? b = some o
  co : C.env.scope.isCoroutine = false
  ia : interactive C.env = false

section
variable {C : Cx} {hb : Heap} {σ : List LV}

theorem locals_plain {s : Shared} {Z : Addr → Prop} (S : St C Z σ s) {o : Obj} (e : s.heap.get? C.env.locals = some o) : ¬ SeqObj o ∧ ∀ w, o.data ≠ .cell w := by
  obtain ⟨m, hn, _⟩ := S.vars
  exact ⟨ns_seq hn e, fun w d => ns_cell hn ⟨o, e, d⟩⟩

theorem St.kg {s s' : Shared} (G : GOk C hb) (hsc : ScalS σ) (S : St C noZ σ s) (k : Kg hb C.h₀ s s') : St C noZ σ s' := by
  obtain ⟨m, hn, V⟩ := S.vars
  refine ⟨fun b o e => k b o (S.keep b o e) (.inr (by rw [e]; simp)), S.zf, fun _ z => z.elim, S.nd, m, ?_, ?_⟩
  · obtain ⟨o, es, ep, e, r⟩ := hn
    exact ⟨o, es, ep, k _ o e (.inl ⟨(locals_plain S e).1, G.nl⟩), r⟩
  · have : ∀ {xs : List Str} {ls : List LV}, ScalS ls → Vars C.env s.heap noZ m xs ls → Vars C.env s'.heap noZ m xs ls := by
      intro xs
      induction xs with
      | nil => intro ls _ V; cases ls with | nil => trivial | cons => exact V.elim
      | cons x xs ih =>
        intro ls hs V
        cases ls with
        | nil => exact V.elim
        | cons l ls =>
          refine ⟨?_, ih (fun l hl => hs l (.tail _ hl)) V.2⟩
          rcases hs l (.head _) with rfl | ⟨p, rfl, hp⟩
          · intro _ c hc
            rw [G.cells] at hc; cases hc
          · obtain ⟨v, hv, hr⟩ := V.1
            refine ⟨v, ?_, hr.scal hp⟩
            rcases hv with q | ⟨_, c, hc, _⟩
            · exact .inl q
            · rw [G.cells] at hc; cases hc
    exact this hsc V

theorem Frame.mg {s s' : Shared} {Z' : Addr → Prop} (G : GOk C hb) (S : St C noZ σ s) (F : Frame C noZ s Z' s') : Mg hb s s' := by
  refine ⟨fun b o e h => F.kp b o e fun q => ?_, F.gk, F.dr, F.os⟩
  rcases q with q | rfl | ⟨x, hx, _⟩
  · exact q
  · rcases h with h | h | ⟨w, h⟩
    · exact h G.nl
    · exact (locals_plain S e).1 h
    · exact (locals_plain S e).2 w h
  · rw [G.cells] at hx; cases hx

/-- a fact that lasts -/
structure JFr (C : Cx) (J : Heap → Prop) : Prop where
  fr : ∀ h h' : Heap, J h → (∀ b o, h.get? b = some o → b ≠ C.env.locals → h'.get? b = some o) → J h'
structure JOk (C : Cx) (hb : Heap) (J : Heap → Prop) : Prop extends JFr C J where
  kg : ∀ s s', J s.heap → Kg hb C.h₀ s s' → J s'.heap
theorem JFr.frame {J : Heap → Prop} {s s' : Shared} {Z' : Addr → Prop} (G : GOk C hb) (hJ : JFr C J) (j : J s.heap) (F : Frame C noZ s Z' s') : J s'.heap :=
  hJ.fr _ _ j fun b o e n => F.kp b o e fun q => by
    rcases q with q | q | ⟨x, hx, _⟩
    · exact q
    · exact n q
    · rw [G.cells] at hx; cases hx

/-- statements of a generator, from stop to stop -/
noncomputable def SW (C : Cx) (b : Nat) (A : Around) (hb : Heap) (Yv : Nat → PV) (ends : Bool) (J J' : Heap → Prop) (n : Nat) (σ : List LV) (ss : List Stmt) (P : Nat → Flow → List LV → Prop) : Prop :=
  ∀ (s₀ : Shared) (c : Code) (fs : List PySem.Frame) (K : Flow → Sem Fin) (H : Value → Sem Fin) (s : Shared), FsOk b A c fs → St C noZ σ s → J s.heap → Mg hb s₀ s →
    (∀ n' s₀' s' f σ', P n' f σ' → St C noZ σ' s' → J' s'.heap → Mg hb s₀' s' → Seg C.M A (Rg hb ends) (Yg hb C.h₀ Yv ends) n' s₀' c (K f) fs s') →
    Seg C.M A (Rg hb ends) (Yg hb C.h₀ Yv ends) n s₀ c ((execs ss C.env).wrap K H id id) fs s

variable {b : Nat} {A : Around} {Yv : Nat → PV} {ends : Bool} {J J' : Heap → Prop} {n : Nat} {P : Nat → Flow → List LV → Prop}

theorem sw_nil (hj : ∀ h, J h → J' h) (h : P n .next σ) : SW C b A hb Yv ends J J' n σ [] P := fun _ _ _ _ _ s _ S j m k => seg_execs_nil (k n _ s .next σ h S (hj _ j) m)

noncomputable def PG (C : Cx) (b : Nat) (A : Around) (hb : Heap) (Yv : Nat → PV) (ends : Bool) (J J' : Heap → Prop) (n : Nat) (rest : List Stmt) (P : Nat → Flow → List LV → Prop) : Post := fun fl Z' σ' => Z' = noZ ∧ match fl with
  | .next => SW C b A hb Yv ends J J' n σ' rest P
  | .brk => P n .brk σ'
  | .cont => P n .cont σ'
  | .ret p => p = .none ∧ P n (.ret .none) σ'
theorem sw_plain {st : Stmt} {rest : List Stmt} (G : GOk C hb) (hj : ∀ h, J h → J' h) (hJ : JFr C J) (h : ∀ A', OkA b A' → W1 C A' noZ σ st (PG C b A hb Yv ends J J' n rest P)) : SW C b A hb Yv ends J J' n σ (st :: rest) P := by
  intro s₀ c fs K H s hfs S j m k
  refine seg_execs_cons (seg_wrap (h _ hfs.a s _ _ S fun fl f Z' σ' s' hp S' F L hf => ?_))
  obtain ⟨rfl, hp⟩ := hp
  have m' := m.trans (F.mg G S)
  have j' := hJ.frame G j F
  cases fl with
  | next =>
    have hf : f = .next := hf
    subst hf
    exact hp s₀ c fs K H s' hfs S' j' m' k
  | brk => have hf : f = .brk := hf; subst hf; exact k n _ s' .brk σ' hp S' (hj _ j') m'
  | cont => have hf : f = .cont := hf; subst hf; exact k n _ s' .cont σ' hp S' (hj _ j') m'
  | ret p =>
    obtain ⟨rfl, hp⟩ := hp
    obtain ⟨v, rfl, rv⟩ := hf
    have rv : v = .none := rv
    subst rv
    exact k n _ s' (.ret .none) σ' hp S' (hj _ j') m'

theorem exec_If' (test : Expr) (body orelse : List Stmt) (pos : Pos) (env : Env) : exec (.If test body orelse pos) env = (standAt pos >>= fun _ => isTrue test env (eval test env) >>= fun r => if r = true then execs body env else execs orelse env) := rfl
theorem sw_if {test : Expr} {body orelse rest : List Stmt} {pos : Pos} {bb : Bool} (ht : ∀ A', OkA b A' → Tst C A' noZ σ test bb) (hJ : JFr C J)
    (h : SW C b A hb Yv ends J J' n σ (if bb = true then body else orelse) fun n' f σ' => match f with | .next => SW C b A hb Yv ends J' J' n' σ' rest P | f => P n' f σ') (G : GOk C hb) : SW C b A hb Yv ends J J' n σ (.If test body orelse pos :: rest) P := by
  intro s₀ c fs K H s hfs S j m k
  refine seg_execs_cons ?_
  rw [exec_If', Sem.bind_eq_wrap', Sem.wrap_wrap]
  refine seg_wrap (wpAny_standAt ?_)
  rw [Sem.bind_eq_wrap', Sem.wrap_wrap]
  refine seg_wrap (ht _ hfs.a s _ _ S fun s1 X => ?_)
  have k' : ∀ (n' : Nat) (s₀' s' : Shared) (f : Flow) (σ' : List LV), (match f with | .next => SW C b A hb Yv ends J' J' n' σ' rest P | f => P n' f σ') → St C noZ σ' s' → J' s'.heap → Mg hb s₀' s' → Seg C.M A (Rg hb ends) (Yg hb C.h₀ Yv ends) n' s₀' c (match f with | .next => (execs rest C.env).wrap K H id id | f => K f) fs s' := by
    intro n' s₀' s' f σ' hp S' j' m'
    cases f with
    | next => exact hp s₀' c fs K H s' hfs S' j' m' k
    | brk => exact k n' _ s' _ σ' hp S' j' m'
    | cont => exact k n' _ s' _ σ' hp S' j' m'
    | ret v => exact k n' _ s' _ σ' hp S' j' m'
  have j1 := hJ.fr _ _ j fun b o e _ => X.kp b o e
  cases bb with
  | true => rw [if_pos rfl] at h ⊢; exact h s₀ c fs _ _ s1 hfs (S.ext X) j1 (m.trans (Mg.ext X)) k'
  | false => rw [if_neg (by decide)] at h ⊢; exact h s₀ c fs _ _ s1 hfs (S.ext X) j1 (m.trans (Mg.ext X)) k'

/-- a value that may be handed out -/
noncomputable def YOk (k : RK) (p : PV) : Prop := Scal p ∨ (k = .n ∧ ∃ xs, p = .tup xs ∧ Scals xs)
theorem YOk.rep {k : RK} {p : PV} {s₀ s s' : Shared} {v : Value} (h : YOk k p) (m : Mg hb s₀ s) (r : Res k noZ s.heap s'.heap p v) : RepS s₀.heap s'.heap p v := by
  rcases h with h | ⟨rfl, xs, rfl, h⟩
  · exact RepB.scal h r.toB
  · obtain ⟨r, f⟩ := r
    unfold RepS
    simp only [Rep] at r ⊢
    obtain ⟨a, vs, rfl, ht, _, rs⟩ := r
    refine ⟨a, vs, rfl, ht, ?_, Reps.scal h rs⟩
    rintro ⟨o, e, q⟩
    have := f a rfl
    rw [m.kp a o e (.inr (.inl q))] at this; cases this

theorem sw_yield {e : Expr} {ypos pos : Pos} {rest : List Stmt} {k : RK} {p : PV} (G : GOk C hb) (hJ : JOk C hb J) (he : ∀ A', OkA b A' → Ev C A' noZ σ e k p) (hp : YOk k p) (hv : Yv n = p) (hsc : ScalS σ) (h : (0 < n ∨ ends = true) → SW C b A hb Yv ends J J' n σ rest P) :
    SW C b A hb Yv ends J J' (n + 1) σ (.Expr (.Yield (some e) ypos) pos :: rest) P := by
  intro s₀ c fs K H s hfs S j m kk
  refine seg_execs_cons (seg_Expr_Yield hfs.sp rfl hfs.ng (he _ hfs.a s _ _ S fun v s1 X r => ?_) G.co G.ia)
  intro kap hkap
  refine ⟨hv ▸ hp.rep m r, m.trans (Mg.ext X), fun hl s'' hk => hkap .none s'' ?_⟩
  have S1 := S.ext X
  have j1 := hJ.fr _ _ j fun b o e _ => X.kp b o e
  exact h hl s'' c fs K H s'' hfs (S1.kg G hsc hk) (hJ.kg _ _ j1 hk) .refl kk

end
end Py

namespace Py

structure MvI (wr : Addr → Prop) (s s' : Shared) : Prop where
  kp : ∀ b o, ¬ wr b → s.heap.get? b = some o → s'.heap.get? b = some o
  gn : s'.gens = s.gens
  dr : s'.drawn = s.drawn
  os : s'.os = s.os
/-- an iterator within a generator -/
structure SrcI (M : Model) (A : Around) (t : Expr) (it : Value) (fp wr : Addr → Prop) (I : List PV → Heap → Prop) : Prop where
  sub : ∀ b, wr b → fp b
  frame : ∀ i h h', I i h → (∀ b o, fp b → h.get? b = some o → h'.get? b = some o) → I i h'
  plain : ∀ i h b o, I i h → wr b → h.get? b = some o → ¬ SeqObj o ∧ ∀ w, o.data ≠ .cell w
  next : ∀ i (s : Shared) (Qn : Shared → Prop) (Qs : Value → Shared → Prop) (E : Value → Shared → Prop), I i s.heap →
    (i = [] → ∀ s', MvI wr s s' → Qn s') → (∀ p j, i = p :: j → ∀ v s', MvI wr s s' → Rep s'.heap noZ p v → I j s'.heap → Qs v s') →
    wpAny M A (pyNext it) (fun r s1 => match r with | none => Qn s1 | some v => wpAny M A (letOwnedTupleGo t it v) (fun _ s2 => Qs v s2) E s1) E s

noncomputable def IterG (C : Cx) (b : Nat) (hb : Heap) (σ : List LV) (t iter : Expr) (ps : List PV) : Prop :=
  ∀ A, OkA b A → ∀ (s : Shared) (Q : Value → Shared → Prop) (E : Value → Shared → Prop), St C noZ σ s → (∀ x, s.heap.get? x = none → hb.get? x = none) →
    (∀ it s' (fp wr : Addr → Prop) (I : List PV → Heap → Prop), Ext s s' → (∀ A', OkA b A' → SrcI C.M A' t it fp wr I) → (∀ x, wr x → hb.get? x = none) → (∀ x, fp x → x ≠ C.env.locals) →
      (∀ i h x o, I i h → fp x → h.get? x = some o → (¬ SeqObj o ∧ hb.get? x = none) ∨ C.h₀.get? x ≠ none) → I ps s'.heap → Q it s') →
    wpAny C.M A (eval iter C.env) (fun x s1 => wpAny C.M A (pyIter x) Q E s1) E s

section
variable {C : Cx} {hb : Heap} {σ : List LV} {b : Nat} {A : Around} {Yv : Nat → PV} {ends : Bool} {n : Nat} {P : Nat → Flow → List LV → Prop}

/-- what was there is there -/
noncomputable def LiveJ (hb : Heap) : Heap → Prop := fun h => ∀ x, h.get? x = none → hb.get? x = none
theorem live_ok (G : GOk C hb) : JFr C (LiveJ hb) := ⟨fun h h' j fr x e => by
  by_cases q : x = C.env.locals
  · rw [q]; exact G.nl
  · refine j x ?_
    cases q' : h.get? x with
    | none => rfl
    | some o => rw [fr x o q' q] at e; cases e⟩
noncomputable def JT : Heap → Prop := fun _ => True
theorem jt_ok : JOk C hb JT := ⟨⟨fun _ _ _ _ => trivial⟩, fun _ _ _ _ => trivial⟩

/-- a loop's turns, within a generator -/
noncomputable def WG (C : Cx) (b : Nat) (A : Around) (hb : Heap) (Yv : Nat → PV) (ends : Bool) (t : Expr) (body rest : List Stmt) (P : Nat → Flow → List LV → Prop) : List PV → Nat → List LV → Prop
  | [], n, σ => SW C b A hb Yv ends JT JT n σ rest P
  | p :: ps, n, σ => ∃ σ', Tgt C t p σ σ' ∧ ∀ J, JOk C hb J → SW C b A hb Yv ends J J n σ' body fun n' f σ'' => match f with
    | .next => WG C b A hb Yv ends t body rest P ps n' σ''
    | .cont => WG C b A hb Yv ends t body rest P ps n' σ''
    | .brk => SW C b A hb Yv ends JT JT n' σ'' rest P
    | .ret v => P n' (.ret v) σ''

/-- assigning, with no list in sight -/
theorem assign_noZ {E : Value → Shared → Prop} {t : Expr} {p : PV} {σ' : List LV} {s : Shared} {v : Value} {Q : Unit → Shared → Prop} (G : GOk C hb) (hA : A.handled = none) (T : Tgt C t p σ σ') (S : St C noZ σ s) (hr : Rep s.heap noZ p v)
    (h : ∀ s', St C noZ σ' s' → Frame C noZ s noZ s' → Q () s') : wpAny C.M A (assign t C.env v) Q E s := assign_tgt G.ok hA T S hr fun s' S' F _ _ => h s' S' F

theorem MvI.mg {M : Model} {t : Expr} {it : Value} {fp wr : Addr → Prop} {I : List PV → Heap → Prop} {i : List PV} {s s' : Shared} (src : SrcI M A t it fp wr I) (hwr : ∀ x, wr x → hb.get? x = none) (hI : I i s.heap) (m : MvI wr s s') : Mg hb s s' := by
  refine ⟨fun x o e h => m.kp x o (fun q => ?_) e, by rw [m.gn]; exact .refl _, m.dr, m.os⟩
  have := src.plain _ _ x o hI q e
  rcases h with h | h | ⟨w, h⟩
  · exact h (hwr x q)
  · exact this.1 h
  · exact this.2 w h
theorem St.mvi {t : Expr} {it : Value} {fp wr : Addr → Prop} {I : List PV → Heap → Prop} {i : List PV} {s s' : Shared} (G : GOk C hb) (S : St C noZ σ s) (src : SrcI C.M A t it fp wr I) (hwr : ∀ x, wr x → hb.get? x = none) (hfl : ∀ x, fp x → x ≠ C.env.locals) (hI : I i s.heap) (m : MvI wr s s') : St C noZ σ s' := by
  refine S.mv (fun x o e => m.kp x o (fun q => ?_) (S.keep x o e)) fun x o e h => m.kp x o (fun q => ?_) e
  · have := G.sub x o e; rw [hwr x q] at this; cases this
  · have := src.plain _ _ x o hI q e
    rcases h with h | ⟨w, h⟩ | h
    · exact this.1 h
    · exact this.2 w h
    · exact hfl x (src.sub x q) h

theorem wg_loop {t : Expr} {it : Value} {body rest : List Stmt} {fp wr : Addr → Prop} {I : List PV → Heap → Prop} {k : Result → Sem PySem.Fin} {l : List Value} {p : Pos} {c : Code} {fs : List PySem.Frame} {K : Flow → Sem PySem.Fin} {H : Value → Sem PySem.Fin} (G : GOk C hb)
    (src : ∀ A', OkA b A' → SrcI C.M A' t it fp wr I) (hwr : ∀ x, wr x → hb.get? x = none) (hfl : ∀ x, fp x → x ≠ C.env.locals) (hst : ∀ i h x o, I i h → fp x → h.get? x = some o → (¬ SeqObj o ∧ hb.get? x = none) ∨ C.h₀.get? x ≠ none)
    (hfs : FsOk b A c fs) (hK : ∀ f : Flow, k (.ok f) = (match f with | Flow.next => (execs rest C.env).wrap K H id id | f => K f))
    (kont : ∀ (n' : Nat) (s₀' s' : Shared) (f : Flow) (σ' : List LV), P n' f σ' → St C noZ σ' s' → Mg hb s₀' s' → Seg C.M A (Rg hb ends) (Yg hb C.h₀ Yv ends) n' s₀' c (K f) fs s') :
    ∀ (ps : List PV) (n : Nat) (σ : List LV) (s₀ s : Shared), WG C b A hb Yv ends t body rest P ps n σ → St C noZ σ s → I ps s.heap → Mg hb s₀ s →
      Seg C.M A (Rg hb ends) (Yg hb C.h₀ Yv ends) n s₀ (.forLoop t it body [] C.env) (C.M.den (.forLoop t it body [] C.env)) (.ret k none false l c p [] :: fs) s := by
  have hfs' := hfs.push (c' := .forLoop t it body [] C.env) (k := k) (l := l) (p := p)
  have jok : ∀ j, JOk C hb (I j) := fun j => ⟨⟨fun h h' i fr => (src _ hfs.a).frame _ _ _ i fun x o hx e => fr x o e (hfl x hx)⟩, fun s s' i kg => (src _ hfs.a).frame _ _ _ i fun x o hx e => kg x o e (hst _ _ _ _ i hx e)⟩
  have out : ∀ (n : Nat) (σ : List LV) (s₀ s : Shared), SW C b A hb Yv ends JT JT n σ rest P → St C noZ σ s → Mg hb s₀ s → Seg C.M A (Rg hb ends) (Yg hb C.h₀ Yv ends) n s₀ c (k (.ok .next)) fs s := by
    intro n σ s₀ s h S m
    rw [hK]
    exact h s₀ c fs K H s hfs S trivial m fun n' s₀' s' f σ' hp S' _ m' => kont n' s₀' s' f σ' hp S' m'
  intro ps
  induction ps with
  | nil =>
    intro n σ s₀ s hw S hI m
    refine seg_forLoop (G := fun _ _ => True) (wpAny_mono ((src _ hfs'.a).next [] s (fun s2 => Seg C.M A (Rg hb ends) (Yg hb C.h₀ Yv ends) n s₀ (.block [] C.env) (C.M.den (.block [] C.env)) (.ret k none false l c p [] :: fs) s2) (fun _ _ => False) (fun _ _ => False) hI (fun _ s2 mv => ?_) fun p j e => by cases e) (fun r s2 h => ?_) fun _ _ x => x)
    · exact seg_block_nil (out n σ s₀ s2 hw (S.mvi G (src _ hfs'.a) hwr hfl hI mv) (m.trans (mv.mg (src _ hfs'.a) hwr hI)))
    · cases r with
      | none => exact h
      | some v => exact wpAny_mono h (fun _ _ x => x.elim) fun _ _ x => x
  | cons q ps ih =>
    intro n σ s₀ s hw S hI m
    obtain ⟨σ', T, hbody⟩ := hw
    refine seg_forLoop (G := fun _ _ => True) (wpAny_mono ((src _ hfs'.a).next (q :: ps) s (fun _ => False) (fun v s1' => wpAny C.M (A.over (.forLoop t it body [] C.env) (.ret k none false l c p [] :: fs)) (assign t C.env v) (fun _ s₂ =>
          ∀ H' : Value → Sem PySem.Fin, Seg C.M A (Rg hb ends) (Yg hb C.h₀ Yv ends) n s₀ (.forLoop t it body [] C.env) ((execs body C.env).wrap (fun f => match f with
            | .next | .cont => .pure (.again (.forLoop t it body [] C.env))
            | .brk => .pure (.done .next)
            | .ret v => .pure (.done (.ret v))) H' id id) (.ret k none false l c p [] :: fs) s₂) (fun _ _ => False) s1') (fun _ _ => False) hI (fun e => by cases e) fun p' j e v s1 mv hr hI1 => ?_) (fun r s2 h => ?_) fun _ _ x => x)
    · cases e
      have S1 := S.mvi G (src _ hfs'.a) hwr hfl hI mv
      have m1 := m.trans (mv.mg (src _ hfs'.a) hwr hI)
      refine assign_noZ G hfs'.a.h T S1 hr fun s2 S2 F2 H' => ?_
      have m2 := m1.trans (F2.mg G S1)
      have I2 := (jok ps).toJFr.frame G hI1 F2
      refine hbody _ (jok ps) s₀ _ _ _ H' s2 hfs' S2 I2 m2 fun n' s₀' s' f σ'' hp S' I' m' => ?_
      cases f with
      | next => exact seg_again rfl (ih n' σ'' s₀' s' hp S' I' m')
      | cont => exact seg_again rfl (ih n' σ'' s₀' s' hp S' I' m')
      | brk => exact seg_done (out n' σ'' s₀' s' hp S' m')
      | ret v =>
        refine seg_done ?_
        rw [hK]
        exact kont n' s₀' s' (.ret v) σ'' hp S' m'
    · cases r with
      | none => exact h.elim
      | some v => exact h

theorem sw_for {t iter : Expr} {body rest : List Stmt} {pos : Pos} {ps : List PV} (G : GOk C hb) (hsrc : IterG C b hb σ t iter ps) (hw : WG C b A hb Yv ends t body rest P ps n σ)
    (hf : ∀ x, foldedSetIterable iter C.env x = pure x := by intro _; rfl) : SW C b A hb Yv ends (LiveJ hb) JT n σ (.For t iter body [] pos :: rest) P := by
  intro s₀ c fs K H s hfs S j m k
  refine seg_execs_cons (seg_For hf (hsrc _ hfs.a s _ _ S j fun it s1 fp wr I X src hwr hfl hst hI p => ?_))
  exact wg_loop G src hwr hfl hst hfs (fun f => by cases f <;> rfl) (fun n' s₀' s' f σ' hp S' m' => k n' s₀' s' f σ' hp S' trivial m') ps n σ s₀ s1 hw (S.ext X) hI (m.trans (Mg.ext X))

theorem while_seg {test : Expr} {body : List Stmt} {J : Heap → Prop} {fs : List PySem.Frame} (hJ : JFr C J) (ht : ∀ A', OkA b A' → Tst C A' noZ σ test true) (hfs' : FsOk b A (.whileLoop test body [] C.env) fs) :
    ∀ (n : Nat) (s₀ s : Shared), (∀ m, m ≤ n → SW C b A hb Yv ends J J (m + 1) σ body fun n' f σ' => n' = m ∧ 0 < m ∧ f = .next ∧ σ' = σ) → St C noZ σ s → J s.heap → Mg hb s₀ s →
    Seg C.M A (Rg hb ends) (Yg hb C.h₀ Yv ends) (n + 1) s₀ (.whileLoop test body [] C.env) (C.M.den (.whileLoop test body [] C.env)) fs s := by
  intro n
  induction n with
  | zero =>
    intro s₀ s hbody S j m
    refine seg_whileLoop (ht _ hfs'.a s _ _ S fun s1 X => ?_)
    rw [if_pos rfl]
    refine hbody 0 (Nat.le_refl _) s₀ _ _ _ _ s1 hfs' (S.ext X) (hJ.fr _ _ j fun x o e _ => X.kp x o e) (m.trans (Mg.ext X)) fun n' s₀' s' f σ' hp _ _ _ => ?_
    exact absurd hp.2.1 (Nat.lt_irrefl _)
  | succ n ih =>
    intro s₀ s hbody S j m
    refine seg_whileLoop (ht _ hfs'.a s _ _ S fun s1 X => ?_)
    rw [if_pos rfl]
    refine hbody (n + 1) (Nat.le_refl _) s₀ _ _ _ _ s1 hfs' (S.ext X) (hJ.fr _ _ j fun x o e _ => X.kp x o e) (m.trans (Mg.ext X)) fun n' s₀' s' f σ' hp S' j' m' => ?_
    obtain ⟨rfl, _, rfl, rfl⟩ := hp
    exact seg_again rfl (ih s₀' s' (fun q hq => hbody q (Nat.le_succ_of_le hq)) S' j' m')
theorem sw_while {test : Expr} {body rest : List Stmt} {pos : Pos} {J : Heap → Prop} (hJ : JFr C J) (ht : ∀ A', OkA b A' → Tst C A' noZ σ test true)
    (hbody : ∀ m, m ≤ n → SW C b A hb Yv ends J J (m + 1) σ body fun n' f σ' => n' = m ∧ 0 < m ∧ f = .next ∧ σ' = σ) : SW C b A hb Yv ends J J (n + 1) σ (.While test body [] pos :: rest) P := by
  intro s₀ c fs K H s hfs S j m k
  exact seg_execs_cons (seg_While fun p => while_seg hJ ht hfs.push n s₀ s hbody S j m)
end
end Py

namespace Py

section
variable {prog : Program} {w : World} {A : Around} {E : Value → Shared → Prop} {s : Shared}

/-- the next item of a generator function's object -/
theorem pyNext_gen {a : Addr} {g n : Nat} {gs : GenState} {P : Nat → Shared → Shared → Prop} {Y : Protocol} {Q : Option Value → Shared → Prop} (hh : A.handled = none)
    (hl : s.heap.NoLimit) (hroom : A.depth < recursionLimit)
    (hg : s.heap.IsGen a g) (hgs : s.gens[g]? = some gs)
    (hgo : gs.Goes (model prog w) A.in1 (fun n s₀ r s₁ => r = .ok (.ret .none) ∧ P n s₀ s₁) Y n (.send .none) (s.setGen g .running))
    (hY : ∀ v s₁ gs', gs'.bare = true → Y (n - 1) (s.setGen g .running) v s₁ (fun r' s'' => match n with
        | 0 => False
        | m + 1 => gs'.Goes (model prog w) A.in1 (fun n s₀ r s₁ => r = .ok (.ret .none) ∧ P n s₀ s₁) Y m r' s'') → Q (some v) (s₁.setGen g gs'))
    (hP : ∀ s₁, P n (s.setGen g .running) s₁ → ∀ h', (∀ b o, s₁.heap.get? b = some o → h'.get? b = some o) → Q none { s₁.setGen g .finished with heap := h' }) :
    wpAny (model prog w) A (pyNext (.ref a)) Q E s := by
  unfold pyNext
  refine wpAny_bind (wpAny_attempt (wpAny_callSpecial?_slot (name := Str.ofString "__next__") hg.typeIs slot_gen_next
    (wpAny_call_entry slot_gen_next hg.typeIs entry_gen_next ?_ (args_gen_next _))))
  show wpAny _ A.in1 (Builtin.Generator.genWake (.ref a) (.send .none)) _ _ s
  unfold Builtin.Generator.genWake
  refine wpAny_bind (wpAny_holding (wpAny_genNumber hg (wpAny_bind (wpAny_genState hgs ?_))))
  cases gs with
  | running => exact hgo.elim
  | finished => exact hgo.elim
  | _ =>
    refine wpAny_bind (wpAny_roomToWake hl hroom ?_)
    show wpAny _ A.in1 (.resume g (.send .none) [] _) _ _ s
    refine wpAny_resumeQ hgs hgo (fun x s₁ hx => ?_) (fun v s₁ gs' hb hv => ?_)
    · obtain ⟨rfl, hp⟩ := hx
      show wpAny _ A.in1 (newExc (.type "StopIteration") [] >>= _) _ _ _
      refine wpAny_bind ?_
      simp only [newExc, newTuple]
      refine wpAny_bind (wpAny_newObj_type ?_ (by size_fits))
      refine wpAny_bind (m := firstArgMember _ _) (wpAny_of_eq (a := Value.none) (by first | rfl | (simp only [firstArgMember]; rfl)) ?_)
      refine wpAny_newObj_type ?_ (by size_fits)
      simp only [raiseNew]
      refine wpAny_bind (wpAny_bind (wpAny_handled ?_))
      first | rw [show A.in1.handled = none from hh] | rw [hh]
      refine wpAny_throw ?_
      refine wpAny_bind (wpAny_isInstance (T := "StopIteration") (b := true) ⟨_, Heap.get?_push_size _ rfl, rfl⟩ isSubtype_stop ?_)
      exact wpAny_pure (hP s₁ hp _ fun b o hb => Heap.get?_push_of_some _ (Heap.get?_push_of_some _ hb))
    · exact wpAny_pure ⟨v, rfl, wpAny_pure (hY v s₁ gs' hb hv)⟩
end

/-- a part of a heap -/
theorem part_heap (h : Heap) (p : Addr → Prop) : ∃ h0 : Heap, (∀ b o, h0.get? b = some o → h.get? b = some o ∧ ¬ p b) ∧ ∀ b o, h.get? b = some o → ¬ p b → h0.get? b = some o := by
  classical
  refine ⟨hideAll h ((List.range h.objs.size).filter fun b => decide (p b)), fun b o e => ?_, fun b o e n => ?_⟩
  · have e' := of_hideAll _ e
    refine ⟨e', fun hp => ?_⟩
    have hm : b ∈ (List.range h.objs.size).filter fun b => decide (p b) := List.mem_filter.mpr ⟨List.mem_range.mpr (Heap.lt_size e'), by simpa using hp⟩
    rw [hideAll_none _ hm] at e; cases e
  · refine hideAll_get _ e fun hm => n ?_
    simpa using (List.mem_filter.mp hm).2

/-- what a move of a generator leaves alone, seen from outside -/
structure MvG (s₀ s s' : Shared) : Prop where
  kp : ∀ b o, s.heap.get? b = some o → (s₀.heap.get? b ≠ none ∨ SeqObj o ∨ ∃ w, o.data = .cell w) → s'.heap.get? b = some o
  gk : GKn s₀.gens.size s.gens s'.gens
  dr : s'.drawn = s.drawn
  os : s'.os = s.os

/-- items that a generator hands out -/
structure SrcG (C : Cx) (A : Around) (t : Expr) (it : Value) (s₀ : Shared) (ends : Bool) (I : List PV → (Addr → Prop) → Shared → Prop) : Prop where
  frame : ∀ i Z Z' σ s s', I i Z s → St C Z σ s → Frame C Z s Z' s' → Lv s s' → I i Z' s'
  next : ∀ i Z σ s (Qn : Shared → Prop) (Qs : Value → Shared → Prop) (E : Value → Shared → Prop), I i Z s → St C Z σ s → (i = [] → ends = true) →
    (i = [] → ∀ s', MvG s₀ s s' → Qn s') → (∀ p j, i = p :: j → ∀ v s', MvG s₀ s s' → Rep s'.heap Z p v → I j Z s' → Qs v s') →
    wpAny C.M A (pyNext it) (fun r s1 => match r with | none => Qn s1 | some v => wpAny C.M A (letOwnedTupleGo t it v) (fun _ s2 => Qs v s2) E s1) E s

/-- a loop's turns, over a generator -/
noncomputable def WLE (C : Cx) (A : Around) (t : Expr) (body orelse : List Stmt) (P : Post) (ends : Bool) : List PV → (Addr → Prop) → List LV → Prop
  | [], Z, σ => ends = true ∧ WS C A Z σ orelse P
  | p :: ps, Z, σ => ∃ σ', Tgt C t p σ σ' ∧ WS C A Z σ' body fun fl Z' σ'' => match fl with
      | .next => WLE C A t body orelse P ends ps Z' σ''
      | .cont => WLE C A t body orelse P ends ps Z' σ''
      | .brk => P .next Z' σ''
      | .ret p => P (.ret p) Z' σ''

noncomputable def IterE (C : Cx) (A : Around) (Z : Addr → Prop) (σ : List LV) (t iter : Expr) (ends : Bool) (ps : List PV) : Prop :=
  ∀ (s : Shared) (Q : Value → Shared → Prop) (E : Value → Shared → Prop), St C Z σ s → (∀ it s' I, Ext s s' → SrcG C A t it s ends I → I ps Z s' → Q it s') →
    wpAny C.M A (eval iter C.env) (fun x s₁ => wpAny C.M A (pyIter x) Q E s₁) E s

section
variable {C : Cx} {A : Around} {Z : Addr → Prop} {σ : List LV} {P : Post}

theorem loop_codeE {R : Result → Shared → Prop} {t : Expr} {it : Value} {body orelse : List Stmt} {ends : Bool} {I : List PV → (Addr → Prop) → Shared → Prop} {s₀ s : Shared} {ps : List PV} (ok : C.Ok) (hA : A.handled = none)
    (D : SrcG C A t it s₀ ends I) (S₀ : St C Z σ s₀) (X : Ext s₀ s) (h0 : I ps Z s) (hw : WLE C A t body orelse P ends ps Z σ)
    (hR : ∀ fl f Z' σ' s', P fl Z' σ' → St C Z' σ' s' → Frame C Z s₀ Z' s' → Lv s₀ s' → FlIs C s'.heap fl f → R (.ok f) s') : codeAny C.M A (.forLoop t it body orelse C.env) R s := by
  refine codeAny_forLoop_any (fun n s => ∃ i Z' σ', n = i.length ∧ I i Z' s ∧ St C Z' σ' s ∧ Frame C Z s₀ Z' s ∧ Lv s₀ s ∧ WLE C A t body orelse P ends i Z' σ') ?_ ps.length ⟨ps, Z, σ, rfl, h0, S₀.ext X, .ofExt X, Lv.ofKp X.kp, hw⟩
  rintro n s ⟨i, Z', σ', rfl, hI, S, F, L, hw⟩
  have live : ∀ b, s₀.heap.get? b ≠ none → ∃ o, s.heap.get? b = some o := by
    intro b h
    cases q : s.heap.get? b with
    | none => exact absurd (L b q) h
    | some o => exact ⟨o, rfl⟩
  have step : ∀ {s1}, MvG s₀ s s1 → St C Z' σ' s1 ∧ Frame C Z s₀ Z' s1 ∧ Lv s₀ s1 := by
    intro s1 m
    refine ⟨S.mv (fun b o e => ?_) (fun b o e q => ?_), ⟨fun b o e n => m.kp b o (F.kp b o e n) (.inl (by rw [e]; simp)), F.zz, m.gk.gk F.gk, m.dr.trans F.dr, m.os.trans F.os⟩, fun b e => ?_⟩
    · exact m.kp b o (S.keep b o e) (.inl (by rw [S₀.keep b o e]; simp))
    · rcases q with q | q | rfl
      · exact m.kp b o e (.inr (.inl q))
      · exact m.kp b o e (.inr (.inr q))
      · obtain ⟨mm, ⟨o', _, _, e', _⟩, _⟩ := S₀.vars
        exact m.kp _ o e (.inl (by rw [e']; simp))
    · cases q : s₀.heap.get? b with
      | none => rfl
      | some o0 =>
        obtain ⟨o, e'⟩ := live b (by rw [q]; simp)
        rw [m.kp b o e' (.inl (by rw [q]; simp))] at e; cases e
  refine wpAny_mono (D.next i Z' σ' s (fun s1 => wpAny C.M A (execs orelse C.env) (fun f s₃ => R (.ok f) s₃) (notedBy C.M A C.env fun e s' => R (.error e) s') s1)
      (fun v s1 => wpAny C.M A (assign t C.env v) (fun _ s₂ => wpAny C.M A (execs body C.env) (fun f s₃ => match f with
            | .next | .cont => ∃ m, m < i.length ∧ (∃ i Z' σ', m = i.length ∧ I i Z' s₃ ∧ St C Z' σ' s₃ ∧ Frame C Z s₀ Z' s₃ ∧ Lv s₀ s₃ ∧ WLE C A t body orelse P ends i Z' σ')
            | .brk => R (.ok .next) s₃
            | .ret v => R (.ok (.ret v)) s₃) (notedBy C.M A C.env fun e s' => R (.error e) s') s₂) (notedBy C.M A C.env fun e s' => R (.error e) s') s1) _ hI S ?_ ?_ ?_) (fun r s1 h => ?_) fun _ _ x => x
  · rintro rfl; exact hw.1
  · rintro rfl s1 m
    obtain ⟨S1, F1, L1⟩ := step m
    exact hw.2 s1 _ _ S1 fun fl f Z'' σ'' s' hp S' F' L' hf => hR fl f Z'' σ'' s' hp S' (F1.trans F' L1) (L1.trans L') hf
  · rintro p j rfl v s1 m hr hI1
    obtain ⟨σ1, T, hw⟩ := hw
    obtain ⟨S1, F1, L1⟩ := step m
    refine assign_tgt ok hA T S1 hr fun s2 S2 F2 L2 _ => ?_
    refine hw s2 _ _ S2 fun fl f Z'' σ'' s3 hp S3 F3 L3 hf => ?_
    have F13 := F2.trans F3 L2
    have L13 := L2.trans L3
    have FF := F1.trans F13 L1
    have LL := L1.trans L13
    have hI3 : I j Z'' s3 := D.frame j Z' Z'' _ s1 s3 hI1 S1 F13 L13
    cases fl with
    | next => simp only [FlIs] at hf; subst hf; exact ⟨j.length, by simp, j, Z'', σ'', rfl, hI3, S3, FF, LL, hp⟩
    | cont => simp only [FlIs] at hf; subst hf; exact ⟨j.length, by simp, j, Z'', σ'', rfl, hI3, S3, FF, LL, hp⟩
    | brk => simp only [FlIs] at hf; subst hf; exact hR .next _ _ _ _ hp S3 FF LL rfl
    | ret q => obtain ⟨v, rfl, r⟩ := hf; exact hR (.ret q) _ _ _ _ hp S3 FF LL ⟨v, rfl, r⟩
  · cases r with
    | none => exact h
    | some v => exact h

theorem w1_forE {t iter : Expr} {body orelse : List Stmt} {pos : Pos} {ends : Bool} {ps : List PV} (ok : C.Ok) (hA : A.handled = none)
    (hsrc : IterE C A Z σ t iter ends ps) (hw : WLE C A t body orelse P ends ps Z σ) (hf : ∀ x, foldedSetIterable iter C.env x = pure x := by intro _; rfl) : W1 C A Z σ (.For t iter body orelse pos) P := by
  intro s Q E S hQ
  refine wpAny_For (hsrc s _ _ S fun it s' I X D hI => ?_) hf
  exact loop_codeE ok hA D S X hI hw fun fl f Z' σ' s'' hp S' F L hf => hQ fl f Z' σ' s'' hp S' F L hf
end
end Py

namespace Py

noncomputable def gCx (C : Cx) (fd : FuncData) (L : Addr) (h0 : Heap) (a : Addr) (vs' : List Str) : Cx := { C with env := callEnvC fd L a, vs := vs', h₀ := h0 }

/-- a generator that has not begun -/
structure Fr0 (C : Cx) (hb : Heap) (σ : List LV) (s : Shared) : Prop where
  ns : ∃ m, s.heap.Ns C.env.locals m ∧ Vars C.env C.h₀ noZ m C.vs σ
  kp : Kp C.h₀ s.heap
  live : LiveJ hb s.heap

section
variable {C : Cx} {hb : Heap} {σ : List LV} {b : Nat} {A : Around} {Yv : Nat → PV} {ends : Bool} {n : Nat}

theorem Fr0.st {s : Shared} (G : GOk C hb) (f : Fr0 C hb σ s) (ho : owns σ = []) : St C noZ σ s := by
  obtain ⟨m, hn, V⟩ := f.ns
  refine ⟨f.kp, fun _ z => z.elim, fun _ z => z.elim, by rw [ho]; exact List.nodup_nil, m, hn, ?_⟩
  refine V.chg (fun c w ⟨o, e, d⟩ => ⟨o, f.kp c o e, d⟩) (fun a o e _ z => ⟨f.kp a o e, z⟩) fun a ys h => ?_
  have := owns_mem h
  rw [ho] at this; cases this

theorem gen_run {body : List Stmt} {s : Shared} (G : GOk C hb) (hA : OkA (b + 1) A) (f : Fr0 C hb σ s) (ho : owns σ = []) (h : SW C b A hb Yv ends (LiveJ hb) JT n σ body fun n' f _ => (f = .next ∨ f = .ret .none) ∧ n' = 0 ∧ ends = true) :
    Seg C.M A (Rg hb ends) (Yg hb C.h₀ Yv ends) n s (.func body C.env) (C.M.den (.func body C.env)) [] s := by
  refine seg_func (h s _ _ _ _ s (FsOk.func hA) (f.st G ho) f.live .refl fun n' s₀' s' f σ' hp S' _ m => ?_)
  obtain ⟨hf, rfl, he⟩ := hp
  rcases hf with rfl | rfl
  · exact seg_end (.ok (.ret .none)) ⟨rfl, ⟨rfl, he⟩, m⟩
  · exact seg_end (.ok (.ret .none)) ⟨rfl, ⟨rfl, he⟩, m⟩
end

theorem letGo_gen {prog : Program} {w : World} {A : Around} {E : Value → Shared → Prop} {s : Shared} {t : Expr} {ga : Addr} {g : Nat} {v : Value} {Q : Unit → Shared → Prop} (hg : s.heap.IsGen ga g) (h : Q () s) : wpAny (model prog w) A (letOwnedTupleGo t (.ref ga) v) Q E s := by
  obtain ⟨⟨c, d, dt, sl⟩, nm, qn, ho, hc, hd, hs⟩ := hg
  simp only at hc hd hs
  subst hc hd hs
  unfold letOwnedTupleGo
  have go : wpAny (model prog w) A (do
      let (.ref r, .ref a) := (Value.ref ga, v) | pure ()
      let o ← load r
      match o.cls, o.data with
      | .type n, .fields vs =>
        if ["enumerate", "zip", "dict_itemiterator", "dict_reverseitemiterator", "odict_iterator", "itertools.zip_longest", "itertools.pairwise"].contains n && vs[0]? == some (rawInt a) then
          rule "for.unpacks-the-owned-tuple"
          updateField r 0 .none
      | _, _ => pure ()) Q E s := by
    cases v with
    | ref a =>
      refine wpAny_bind (wpAny_load ho ?_)
      exact wpAny_pure h
    | _ => exact wpAny_pure h
  cases t with
  | Tuple => exact go
  | List => exact go
  | _ => exact wpAny_pure h

theorem bare_set {gs : Array GenState} {g : Nat} {x : GenState} (h : AllBare gs) (hx : x.bare = true) : AllBare (gs.setIfInBounds g x) := by
  intro y hy
  rcases Array.mem_or_eq_of_mem_setIfInBounds hy with q | rfl
  · exact h y q
  · exact hx
end Py

namespace Py

/-- a generator, between two items -/
noncomputable def GI (C : Cx) (A : Around) (hb h0 : Heap) (Yv : Nat → PV) (ends : Bool) (ga : Addr) (g : Nat) (i : List PV) (Z : Addr → Prop) (s : Shared) : Prop :=
  ∃ gs m, i = (List.range m).reverse.map Yv ∧ s.heap.IsGen ga g ∧ s.gens[g]? = some gs ∧ LiveJ hb s.heap ∧ Kp h0 s.heap ∧ (∀ b, h0.get? b ≠ none → ¬ Z b) ∧
    ((0 < m ∨ ends = true) → ∀ s'', Kg hb h0 s s'' → LiveJ hb s''.heap → gs.Goes C.M A.in1 (Rg hb ends) (Yg hb h0 Yv ends) m (.send .none) s'')

structure GSt (C : Cx) (hb h0 : Heap) (s₀ : Shared) (ga : Addr) (g : Nat) : Prop where
  hs : ∀ b, s₀.heap.get? b ≠ none → hb.get? b ≠ none
  ha : hb.get? ga ≠ none
  gl : ga ≠ C.env.locals
  gc : ∀ x ∈ C.env.cells, x.2 ≠ ga
  pl : hb.get? C.env.locals ≠ none ∧ h0.get? C.env.locals = none
  pc : ∀ x ∈ C.env.cells, hb.get? x.2 ≠ none ∧ h0.get? x.2 = none
  hg : s₀.gens.size ≤ g
  sub : ∀ b o, h0.get? b = some o → hb.get? b ≠ none

section
variable {C : Cx} {A : Around} {hb h0 : Heap} {Yv : Nat → PV} {ends : Bool} {ga : Addr} {g : Nat} {s₀ : Shared}

theorem srcG_of {t : Expr} {n : Nat} (ok : C.Ok) (hA : OkA (n + 1) A) (st : GSt C hb h0 s₀ ga g) : SrcG C A t (.ref ga) s₀ ends (GI C A hb h0 Yv ends ga g) where
  frame := by
    rintro i Z Z' σ s s' ⟨gs, m, hi, hg, hgs, hl, hk0, hz, hgo⟩ S F L
    have kg : Kg hb h0 s s' := by
      intro b o e h
      refine F.kp b o e fun q => ?_
      rcases q with q | rfl | ⟨x, hx, rfl⟩
      · rcases h with h | h
        · obtain ⟨o', e', q'⟩ := S.zl b q
          rw [e] at e'; cases e'
          exact h.1 q'
        · exact hz b h q
      · rcases h with h | h
        · exact st.pl.1 h.2
        · exact h st.pl.2
      · rcases h with h | h
        · exact (st.pc x hx).1 h.2
        · exact h (st.pc x hx).2
    have hlt : g < s.gens.size := (Array.getElem?_eq_some_iff.mp hgs).1
    refine ⟨gs, m, hi, ?_, (F.gk.2.1 g hlt).trans hgs, fun b e => hl b (L b e), fun b o e => kg b o (hk0 b o e) (.inr (by rw [e]; simp)), fun b h z => ?_, fun hlive s'' k' l' => hgo hlive s'' (kg.trans k') l'⟩
    · obtain ⟨o, nm, qn, ho, hc, hd, hsl⟩ := hg
      refine ⟨o, nm, qn, F.kp ga o ho fun q => ?_, hc, hd, hsl⟩
      rcases q with q | q | ⟨x, hx, q⟩
      · obtain ⟨o', e', vs, k, q'⟩ := S.zl ga q
        rw [ho] at e'; cases e'
        rw [hd] at q'; cases q'
      · exact st.gl q
      · exact st.gc x hx q
    · rcases F.zz b z with q | q
      · exact hz b h q
      · cases e : h0.get? b with
        | none => exact h e
        | some o => rw [hk0 b o e] at q; cases q
  next := by
    rintro i Z σ s Qn Qs E ⟨gs, m, rfl, hg, hgs, hl, hk0, hz, hgo⟩ S hends hN hS
    have live : 0 < m ∨ ends = true := by
      cases m with
      | zero => exact .inr (hends rfl)
      | succ m => exact .inl (Nat.succ_pos m)
    have H := S.here ok hA
    have hlt : g < s.gens.size := (Array.getElem?_eq_some_iff.mp hgs).1
    have sg0 : GKn s₀.gens.size s.gens (s.setGen g .running).gens := by
      refine ⟨by simp [Shared.setGen], fun i hi => ?_, fun hb => bare_set hb rfl⟩
      show (s.gens.setIfInBounds g _)[i]? = _
      rw [Array.getElem?_setIfInBounds, if_neg (by have := st.hg; omega)]
    have fin : ∀ (s₁ : Shared) (x : GenState), x.bare = true → Mg hb (s.setGen g .running) s₁ → MvG s₀ s (s₁.setGen g x) := by
      intro s₁ x hx m
      refine ⟨fun b o e h => m.kp b o e ?_, sg0.trans ((m.gk.n (by show _ ≤ (s.gens.setIfInBounds g _).size; simp; have := st.hg; omega)).trans ⟨by simp [Shared.setGen], fun i hi => ?_, fun hb => bare_set hb hx⟩), m.dr, m.os⟩
      · rcases h with h | h
        · exact .inl (st.hs b h)
        · exact .inr h
      · show (s₁.gens.setIfInBounds g _)[i]? = _
        rw [Array.getElem?_setIfInBounds, if_neg (by have := st.hg; omega)]
    have live1 : ∀ s₁, Mg hb (s.setGen g .running) s₁ → LiveJ hb s₁.heap := by
      intro s₁ m x e
      cases q : hb.get? x with
      | none => rfl
      | some o =>
        cases q' : s.heap.get? x with
        | none => rw [hl x q'] at q; cases q
        | some o' => rw [m.kp x o' q' (.inl (by rw [q]; simp))] at e; cases e
    refine pyNext_gen (P := Pg hb ends) (Y := Yg hb h0 Yv ends) (n := m) H.a.h H.lim (by have := H.a.d; omega) hg hgs (hgo live _ (fun b o e _ => e) hl) (fun v s₁ gs' hbare hy => ?_) (fun s₁ hp h' hk => ?_)
    · obtain ⟨hr, hm, hkap⟩ := hy
      cases m with
      | zero => exact (hkap (live.imp (fun h => absurd h (Nat.lt_irrefl _)) id) s₁ fun b o e _ => e).elim
      | succ m =>
        have mv := fin s₁ gs' hbare hm
        have hg1 : (s₁.setGen g gs').heap.IsGen ga g := by
          obtain ⟨o, nm, qn, ho, r⟩ := hg
          exact ⟨o, nm, qn, hm.kp ga o ho (.inl st.ha), r⟩
        refine letGo_gen hg1 (hS (Yv m) ((List.range m).reverse.map Yv) (by rw [List.range_succ, List.reverse_append]; rfl) v _ mv ?_ ⟨gs', m, rfl, hg1, setGen_self (gs := .running) ?_, live1 s₁ hm, fun b o e => ?_, hz, fun hlive s'' k' l' => hkap hlive s'' k'⟩)
        · exact Rep.chg (fun a o e q nz => ⟨e, fun z => nz (let ⟨o', e', q'⟩ := S.zl a z; ⟨o', e', q'⟩)⟩) _ _ hr
        · have e1 := hm.gk.2.1 g (by show g < (s.gens.setIfInBounds g _).size; simpa using hlt)
          rw [e1]
          exact setGen_self hgs
        · refine hm.kp b o (hk0 b o e) (.inl (st.sub b o e))
    · obtain ⟨⟨rfl, he⟩, hm⟩ := hp
      refine hN rfl _ ?_
      have mv := fin s₁ .finished rfl hm
      exact ⟨fun b o e h => hk b o (mv.kp b o e h), mv.gk, mv.dr, mv.os⟩
end

theorem GK.push {g : Array GenState} {c : Code} : GK g (g.push (.fresh c)) := by
  refine ⟨by simp, fun i hi => ?_, fun hb => ?_⟩
  · rw [Array.getElem?_push, if_neg (by omega)]
  · intro y hy
    rcases Array.mem_push.mp hy with q | rfl
    · exact hb y q
    · rfl

theorem cells_none : ∀ {ns : List (Str × NameKind)} {n : Nat}, (∀ p ∈ ns, p.2 ≠ .cell) → cellsFrom n ns [] = []
  | [], _, _ => rfl
  | (x, k) :: r, n, h => by
    unfold cellsFrom
    rw [if_neg (by simpa using h _ (.head _))]
    exact cells_none fun p hp => h p (.tail _ hp)

section
variable {C : Cx} {fd : FuncData} {pn locs : List Str} {a L : Addr}

theorem fn_vars0 {h0 : Heap} {ps : List PV} {vals : List Value} (K : FnChk fd.scope pn locs) (hnc : ∀ p ∈ fd.scope.names, p.2 ≠ NameKind.cell) (hlen : pn.length = vals.length) (hr : Reps h0 noZ ps vals) :
    Vars (callEnvC fd L a) h0 noZ (bindL (callEnvC fd L a).kindOf (pn.zip vals) fun _ => none) (pn ++ locs) (ps.map .v ++ locs.map fun _ => .unb) := by
  have hcs : (callEnvC fd L a).cells = [] := cells_none hnc
  have hz : ((pn.zip vals).map (·.1)) = pn := by
    rw [List.map_fst_zip]; exact Nat.le_of_eq hlen
  have hnd : ((pn.zip vals).map (·.1)).Nodup := by rw [hz]; exact (List.nodup_append.mp K.nd).1
  have G : ∀ {xs : List Str}, Vars (callEnvC fd L a) h0 noZ (bindL (callEnvC fd L a).kindOf (pn.zip vals) fun _ => none) xs (xs.map fun _ => .unb) := by
    intro xs
    induction xs with
    | nil => trivial
    | cons x xs ih => exact ⟨fun _ c hc => (by rw [hcs] at hc; exact nomatch hc), ih⟩
  have F : ∀ {xs : List Str} {qs : List PV} {us : List Value}, (∀ y ∈ xs.zip us, y ∈ pn.zip vals) → (∀ x ∈ xs, x ∈ pn) → xs.length = us.length → Reps h0 noZ qs us → Vars (callEnvC fd L a) h0 noZ (bindL (callEnvC fd L a).kindOf (pn.zip vals) fun _ => none) (xs ++ locs) (qs.map .v ++ locs.map fun _ => .unb) := by
    intro xs
    induction xs with
    | nil =>
      intro qs us _ _ hl hr
      cases us with
      | cons => simp at hl
      | nil => cases qs with
        | nil => exact G
        | cons => simp only [Reps] at hr; obtain ⟨_, _, q, _⟩ := hr; cases q
    | cons x xs ih =>
      intro qs us hm hx hl hr
      cases us with
      | nil => simp at hl
      | cons u us =>
        cases qs with
        | nil => simp only [Reps] at hr; cases hr
        | cons q qs =>
          simp only [Reps] at hr
          obtain ⟨v, r, e, h1, h2⟩ := hr
          cases e
          refine ⟨⟨u, ?_, h1⟩, ih (fun y hy => hm y (.tail _ hy)) (fun y hy => hx y (.tail _ hy)) (by simpa using hl) h2⟩
          have hin : (x, u) ∈ pn.zip vals := hm _ (.head _)
          rcases K.hl x (List.mem_append_left _ (hx x (.head _))) with kl | kc
          · exact .inl ⟨kl, bindL_hit kl hnd hin⟩
          · exact absurd rfl (hnc _ (mem_of_lookup kc))
  exact F (fun _ h => h) (fun _ h => h) hlen hr

theorem gen_iter {A : Around} {Z : Addr → Prop} {σ : List LV} {t : Expr} {x : Str} {p pos : Pos} {o : Obj} {body : List Stmt} {es : List Expr} {ps : List PV} {N b : Nat} {ends : Bool} {Yv : Nat → PV} (ok : C.Ok) (hA : OkA (b + 2) A) (gv : GV C x (.ref a)) (ho : ∀ h, C.W h → h.get? a = some o) (hdata : o.data = .func fd)
    (hbody : fd.body = .stmts body) (hcd : ∀ h, C.W h → h.CodeRec fd.code fd.qualname) (chk : fnChk fd.scope pn locs = true) (hnc0 : (fd.scope.names.all fun p => p.2 != .cell) = true) (hbind : ∀ vals : List Value, vals.length = pn.length → bindArgs fd ⟨vals, []⟩ = pure (pn.zip vals)) (hps : ps.length = pn.length)
    (ha : EvL C A Z σ es ps)
    (hrun : ∀ (hb : Heap) (L : Addr) (h0 : Heap) (A0 : Around) (s : Shared), OkA (b + 1) A0 → GOk (gCx C fd L h0 a (pn ++ locs)) hb → Fr0 (gCx C fd L h0 a (pn ++ locs)) hb (ps.map .v ++ locs.map fun _ => .unb) s →
      Seg C.M A0 (Rg hb ends) (Yg hb h0 Yv ends) N s (.func body (callEnvC fd L a)) (C.M.den (.func body (callEnvC fd L a))) [] s)
    (hclo : fd.closure = [] := by rfl) (hco : fd.scope.isCoroutine = false := by rfl) (hgen : fd.scope.isGenerator = true := by rfl) : IterE C A Z σ t (.Call (.Name x p) es [] pos) ends ((List.range N).reverse.map Yv) := by
  intro s Q E S hQ
  have K := fnChk_of chk
  have hnc : ∀ p ∈ fd.scope.names, p.2 ≠ NameKind.cell := fun p hp => by simpa using List.all_eq_true.mp hnc0 p hp
  have W : ∀ {s'}, St C Z σ s' → C.W s'.heap := fun S' => ok.mono _ _ ok.w0 S'.keep
  refine wpAny_Call_NameR (gv _ _ _ _ _ (W S) ?_)
  refine callWith_function (evArgsL ha S fun vs s1 X r1 => ⟨⟨ho _ (W (S.ext X)), hdata⟩, ?_⟩)
  have S1 := S.ext X
  have hlen : vs.length = pn.length := by rw [r1.length, hps]
  have H := S1.here ok hA
  refine wpAny_call (codeAny_call_generator (by have := hA.d; omega) (ho _ (W S1)) hdata hco hgen hbody (hcd _ (W S1)) ?_)
  show wpAny C.M A.in1 (bindArgs fd ⟨[] ++ vs, []⟩) _ _ s1
  rw [List.nil_append, hbind vs hlen, hclo]
  refine wpAny_pure (wpAny_newFunctionEnv_cells K.k1 (fun x hx => ?_) fun env he s' ic => ?_)
  · have hxp : x.1 ∈ pn ++ locs := List.mem_append_left _ (List.of_mem_zip (a := x.1) (b := x.2) hx).1
    rcases K.hl _ hxp with q | q
    · exact .inl q
    · exact absurd rfl (hnc _ (mem_of_lookup q))
  subst he
  obtain ⟨h', tk, rfl, hk⟩ := ic.done
  refine ⟨H.lim.keeps hk, ?_⟩
  generalize eL : s1.heap.objs.size = L at ic ⊢
  have eEnv : newEnv fd.scope L fd.globals (cellsFrom (L + 1) fd.scope.names []) (fd.qualname ++ ".<locals>.") (some a) fd.code none fd.builtins = callEnvC fd L a := rfl
  rw [eEnv] at ic ⊢
  have nsL : h'.Ns L (bindL (callEnvC fd L a).kindOf (pn.zip vs) fun _ => none) := ic.toInCall.ns
  have hLlt : L < h'.objs.size := nsL.lt
  have nL : s1.heap.get? L = none := get_none (by omega)
  dsimp only
  generalize eo : ({ cls := .type "generator", data := .fields #[.int s1.gens.size 0, .str fd.name tk, .str fd.qualname (tk + 1)] } : Obj) = go
  have kpush : Kp h' (h'.push go) := fun b o e => Heap.get?_push_of_some _ e
  have gga : (h'.push go).get? h'.objs.size = some go := Heap.get?_push_size _ (by subst eo; rfl)
  have hgen1 : (h'.push go).IsGen h'.objs.size s1.gens.size := ⟨go, _, _, gga, by subst eo; rfl, by subst eo; rfl, by subst eo; rfl⟩
  obtain ⟨hb, hb1, hb2⟩ := part_heap (h'.push go) (· = L)
  obtain ⟨h0, h01, h02⟩ := part_heap s1.heap (Priv C Z)
  have k2 : Kp s1.heap (h'.push go) := fun b o e => kpush b o (hk b o e)
  have lt1 : ∀ b o, s1.heap.get? b = some o → b ≠ L := fun b o e q => by rw [q, nL] at e; cases e
  have s1b : ∀ b o, s1.heap.get? b = some o → hb.get? b = some o := fun b o e => hb2 b o (k2 b o e) (lt1 b o e)
  have gok : GOk (gCx C fd L h0 a (pn ++ locs)) hb := by
    refine ⟨⟨ok.mono, ok.mono _ _ ok.w0 fun b o e => h02 b o (S1.keep b o e) fun q => ?_, ok.lim, K.k1, K.nd, K.nb, fun x hx => ?_, ?_, ?_, ?_, ?_⟩, cells_none hnc, ?_, fun b o e => s1b b o (h01 b o e).1, hco, ?_⟩
    · rcases q with q | rfl | ⟨y, hy, rfl⟩
      · rw [S1.zf b q] at e; cases e
      · rw [ok.newL] at e; cases e
      · rw [ok.newC y hy] at e; cases e
    · rcases K.hl x hx with q | q
      · exact .inl q
      · exact absurd rfl (hnc _ (mem_of_lookup q))
    · show (callEnvC fd L a).cells.Pairwise _
      rw [show (callEnvC fd L a).cells = [] from cells_none hnc]; exact .nil
    · show h0.get? L = none
      cases e : h0.get? L with
      | none => rfl
      | some o => exact absurd rfl (lt1 L o (h01 L o e).1)
    · intro y hy
      rw [show (gCx C fd L h0 a (pn ++ locs)).env.cells = [] from cells_none hnc] at hy; cases hy
    · intro y hy
      rw [show (gCx C fd L h0 a (pn ++ locs)).env.cells = [] from cells_none hnc] at hy; cases hy
    · show hb.get? L = none
      cases e : hb.get? L with
      | none => rfl
      | some o => exact absurd rfl (hb1 L o e).2
    · show (fd.scope.kind == .module && _) = false
      rw [K.k1]; rfl
  have x2 : Ext s { s1 with gens := s1.gens.push (.fresh (.func body (callEnvC fd L a))), toks := tk + 1 + 1, heap := h'.push go } :=
    X.trans ⟨k2, .push, rfl, rfl⟩
  have none0 : ∀ b, Priv C Z b → h0.get? b = none := fun b q => by
    cases e : h0.get? b with
    | none => rfl
    | some o => exact absurd q (h01 b o e).2
  have inb : ∀ b, Priv C Z b → hb.get? b ≠ none := fun b q => by
    obtain ⟨o, e⟩ := S1.priv_live ok q
    rw [s1b b o e]; simp
  have gane : ∀ b, Priv C Z b → h'.objs.size ≠ b := fun b q => by
    obtain ⟨o, e⟩ := S1.priv_live ok q
    exact Nat.ne_of_gt (Heap.lt_size (hk b o e))
  have gst : GSt C hb h0 s h'.objs.size s1.gens.size := by
    refine ⟨fun b h => ?_, ?_, gane _ (.inr (.inl rfl)), fun x hx q => gane x.2 (.inr (.inr ⟨x, hx, rfl⟩)) q.symm, ⟨inb _ (.inr (.inl rfl)), none0 _ (.inr (.inl rfl))⟩, fun x hx => ⟨inb _ (.inr (.inr ⟨x, hx, rfl⟩)), none0 _ (.inr (.inr ⟨x, hx, rfl⟩))⟩, X.gk.1, fun b o e => ?_⟩
    · cases e : s.heap.get? b with
      | none => exact absurd e h
      | some o => rw [s1b b o (X.kp b o e)]; simp
    · rw [hb2 _ go gga (Nat.ne_of_gt hLlt)]; simp
    · rw [s1b b o (h01 b o e).1]; simp
  refine wpAny_pyIter_gen hgen1 (hQ _ _ _ x2 (srcG_of (n := b + 1) ok hA gst) ⟨.fresh (.func body (callEnvC fd L a)), N, rfl, hgen1, by simp, fun y e => ?_, fun b o e => k2 b o (h01 b o e).1, fun b h z => h (none0 b (.inl z)), fun _ s'' kg hl => ⟨rfl, hrun hb L h0 A.in1 s'' hA.in1 gok ⟨⟨_, ?_, fn_vars0 K hnc (by rw [hlen]) ?_⟩, ?_, hl⟩⟩⟩)
  · cases q : hb.get? y with
    | none => rfl
    | some o => rw [show (h'.push go).get? y = some o from (hb1 y o q).1] at e; cases e
  · obtain ⟨oL, es, ep, e, r⟩ := nsL
    refine ⟨oL, es, ep, kg L oL (kpush L oL e) (.inl ⟨?_, gok.nl⟩), r⟩
    rintro ⟨_, _, q⟩
    rw [r.1] at q; cases q
  · exact Reps.chg (fun b o e q z => ⟨h02 b o e (S1.seq_npriv ok e q z), id⟩) _ _ r1
  · intro b o e
    exact kg b o (k2 b o (h01 b o e).1) (.inr (by rw [show (gCx C fd L h0 a (pn ++ locs)).h₀ = h0 from rfl] at e; rw [e]; simp))
end
end Py

namespace Py

section
variable {prog : Program} {w : World} {A : Around}

theorem srcI_T {I : Addr} {fp wr : List Addr} {n : Nat} {Pt : Nat → Array Value → Prop} {St' : Nat → Heap → Prop} {Mid : Nat → Addr → Heap → Prop} {es : List Expr} {k : Nat} {pos : Pos} (W : WalksT prog w A I fp wr n Pt St' Mid) (ps : List PV) (hn : ps.length = n)
    (hP : ∀ i vals p, ps[i]? = some p → Pt i vals → ∃ qs, p = .tup qs ∧ ∀ h, Reps h noZ qs vals.toList) (hlo : ∀ i h b, St' i h → b ∈ wr → ∃ o, h.get? b = some o ∧ ¬ SeqObj o ∧ ∀ w, o.data ≠ .cell w) :
    SrcI (model prog w) A (.Tuple es k pos) (.ref I) (· ∈ fp) (· ∈ wr) (fun l h => ∃ i, i ≤ n ∧ l = ps.drop i ∧ St' i h) where
  sub := fun b hb => W.sub b hb
  frame := fun l h h' ⟨i, hi, hl, hs⟩ hk => ⟨i, hi, hl, W.frame i h h' hs fun b hb o e => hk b o hb e⟩
  plain := fun l h b o ⟨i, _, _, hs⟩ hb e => by
    obtain ⟨o', e', q1, q2⟩ := hlo i _ b hs hb
    rw [e] at e'; cases e'
    exact ⟨q1, q2⟩
  next := by
    rintro l s Qn Qs E ⟨i, hi, rfl, hs⟩ hn' hs'
    by_cases h : i < n
    · have hi' : i < ps.length := by omega
      have e : ps.drop i = ps[i] :: ps.drop (i + 1) := List.drop_eq_getElem_cons hi'
      refine W.item i s _ E h hs fun T vals h' tk hp hT hit hmid hk => ?_
      refine W.go es k pos i T { s with heap := h', toks := tk } _ E hmid fun h2 hst hk2 => ?_
      refine hs' ps[i] (ps.drop (i + 1)) e (.ref T) _ ⟨fun b o nb eb => hk2 b o nb (hk b o nb eb), rfl, rfl, rfl⟩ ?_ ⟨i + 1, by omega, rfl, hst⟩
      obtain ⟨qs, eq, hr⟩ := hP i vals ps[i] (List.getElem?_eq_getElem hi') hp
      rw [eq]
      simp only [Rep]
      obtain ⟨oT, eT, cT, nT, dT⟩ := hit
      exact ⟨T, vals.toList, rfl, ⟨oT, hk2 T oT (W.apart _ _ _ hmid) eT, cT, nT, by simpa using dT⟩, id, hr _⟩
    · have : i = n := by omega
      subst this
      refine W.done s _ E hs fun h' tk hk => ?_
      exact hn' (List.drop_eq_nil_of_le (by omega)) _ ⟨fun b o nb eb => hk b o nb eb, rfl, rfl, rfl⟩

theorem srcI_L {I : Addr} {fp wr : List Addr} {n : Nat} {P : Nat → Value → Prop} {St' : Nat → Heap → Prop} {t : Expr} (W : Walks prog w A I fp wr n P St') (ps : List PV) (hn : ps.length = n)
    (go : ∀ i (s : Shared) v (Q : Unit → Shared → Prop) (E : Value → Shared → Prop), St' i s.heap → Q () s → wpAny (model prog w) A (letOwnedTupleGo t (.ref I) v) Q E s)
    (hP : ∀ i v p, ps[i]? = some p → P i v → ∀ h, Rep h noZ p v) (hlo : ∀ i h b, St' i h → b ∈ wr → ∃ o, h.get? b = some o ∧ ¬ SeqObj o ∧ ∀ w, o.data ≠ .cell w) :
    SrcI (model prog w) A t (.ref I) (· ∈ fp) (· ∈ wr) (fun l h => ∃ i, i ≤ n ∧ l = ps.drop i ∧ St' i h) where
  sub := fun b hb => W.sub b hb
  frame := fun l h h' ⟨i, hi, hl, hs⟩ hk => ⟨i, hi, hl, W.frame i h h' hs fun b hb o e => hk b o hb e⟩
  plain := fun l h b o ⟨i, _, _, hs⟩ hb e => by
    obtain ⟨o', e', q1, q2⟩ := hlo i _ b hs hb
    rw [e] at e'; cases e'
    exact ⟨q1, q2⟩
  next := by
    rintro l s Qn Qs E ⟨i, hi, rfl, hs⟩ hn' hs'
    by_cases h : i < n
    · have hi' : i < ps.length := by omega
      have e : ps.drop i = ps[i] :: ps.drop (i + 1) := List.drop_eq_getElem_cons hi'
      refine W.item i s _ E h hs fun v h' tk hp hst hk => ?_
      refine go (i + 1) _ v _ _ hst ?_
      exact hs' ps[i] (ps.drop (i + 1)) e v _ ⟨fun b o nb eb => hk b o nb eb, rfl, rfl, rfl⟩ (hP i v ps[i] (List.getElem?_eq_getElem hi') hp _) ⟨i + 1, by omega, rfl, hst⟩
    · have : i = n := by omega
      subst this
      refine W.done s _ E hs fun h' tk hk => ?_
      exact hn' (List.drop_eq_nil_of_le (by omega)) _ ⟨fun b o nb eb => hk b o nb eb, rfl, rfl, rfl⟩
end

section
variable {C : Cx} {b : Nat} {hb : Heap} {σ : List LV}

theorem iterG_enum_str {e : Expr} {x : Str} {es : List Expr} {k : Nat} {pt p pos : Pos} (G : GOk C hb) (g : GV C "enumerate" (.type "enumerate")) (h : ∀ A, OkA b A → EvL C A noZ σ [e] [.str x]) : IterG C b hb σ (.Tuple es k pt) (.Call (.Name "enumerate" p) [e] [] pos) (enumL 0 (charsP x)) := by
  intro A hA s Q E S hl hQ
  refine call_raw G.ok g (h A hA) S fun vs s1 X r => ?_
  simp only [Reps, Rep] at r
  obtain ⟨v, r, rfl, ⟨t, rfl⟩, rfl⟩ := r
  refine call_enumerate_str fun h' he hit hsz hk => ?_
  have X2 : Ext s { s1 with heap := h' } := X.trans (Ext.heap' hk)
  have S1 := S.ext X
  have n1 : hb.get? s1.heap.objs.size = none := hl _ (none_kp X.kp (size_none _))
  have n2 : hb.get? (s1.heap.objs.size + 1) = none := hl _ (none_kp X.kp (fresh_size (Nat.le_succ _)))
  have nl : ∀ y, s1.heap.get? y = none → y ≠ C.env.locals := fun y e q => by
    obtain ⟨m, ⟨o, _, _, e', _⟩, _⟩ := S1.vars
    rw [q, e'] at e; cases e
  have key : ∀ ty, h'.IsStrIter s1.heap.objs.size ty x t 0 → (∀ A', A'.handled = none → Draws C.prog C.w A' s1.heap.objs.size [s1.heap.objs.size] x.cps.size (fun i v => ∃ (c : Nat) (u : Tok), x.cps[i]? = some c ∧ v = .str ⟨#[c]⟩ u) (fun i h => h.IsStrIter s1.heap.objs.size ty x t i)) → wpAny C.M A (pyIter (.ref (s1.heap.objs.size + 1))) Q E { s1 with heap := h' } := by
    intro ty hit D
    have lo : ∀ i (h : Heap), h.IsStrIter s1.heap.objs.size ty x t i → ∃ o, h.get? s1.heap.objs.size = some o ∧ ¬ SeqObj o ∧ ∀ w, o.data ≠ .cell w := by
      rintro i h ⟨o, e, _, d⟩
      exact ⟨o, e, (by rintro ⟨_, _, q⟩; rw [d] at q; cases q), (by intro w q; rw [d] at q; cases q)⟩
    have lo2 : ∀ (i : Nat) (h : Heap) y, ((∃ old, IsEnum h (s1.heap.objs.size + 1) s1.heap.objs.size i old) ∧ h.IsStrIter s1.heap.objs.size ty x t i) → y ∈ [s1.heap.objs.size + 1, s1.heap.objs.size] → ∃ o, h.get? y = some o ∧ ¬ SeqObj o ∧ ∀ w, o.data ≠ .cell w := by
      intro i h y hs hy
      simp only [List.mem_cons, List.not_mem_nil, or_false] at hy
      rcases hy with rfl | rfl
      · obtain ⟨⟨old, q⟩, _⟩ := hs
        exact ⟨_, q, (by rintro ⟨_, _, q⟩; cases q), (by intro w q; cases q)⟩
      · exact lo i h hs.2
    have W : ∀ A', A'.handled = none → WalksT C.prog C.w A' (s1.heap.objs.size + 1) [s1.heap.objs.size + 1, s1.heap.objs.size] [s1.heap.objs.size + 1, s1.heap.objs.size] x.cps.size _ _ _ := fun A' hA' =>
      WalksT.enumerateD (A := A') (D A'.in1 hA') (s1.heap.objs.size + 1) (Nat.succ_ne_self _) (by simp) (by simp)
    have hs0 : (∃ old, IsEnum h' (s1.heap.objs.size + 1) s1.heap.objs.size ((0 : Nat) : Int) old) ∧ h'.IsStrIter s1.heap.objs.size ty x t 0 := ⟨⟨.none, by simpa using he⟩, hit⟩
    refine wpAny_pyIter_enum he (hQ _ _ _ _ _ X2 (fun A' hA' => srcI_T (W A' hA'.h) (enumL 0 (charsP x)) (by rw [enumL_length]; simp [charsP]) (fun i vals p ep q => ?_) lo2) (fun y hy => ?_) (fun y hy => ?_) (fun i h y o hI hy e => ?_) ⟨0, Nat.zero_le _, rfl, hs0⟩)
    · rw [enumL_get] at ep
      obtain ⟨tk, v, ⟨c, u, hc, rfl⟩, rfl⟩ := q
      unfold charsP at ep
      rw [List.getElem?_map, Array.getElem?_toList, hc] at ep
      cases ep
      exact ⟨_, rfl, fun h => .cons ⟨tk, by simp⟩ (.one ⟨u, rfl⟩)⟩
    · simp only [List.mem_cons, List.not_mem_nil, or_false] at hy
      rcases hy with rfl | rfl
      · exact n2
      · exact n1
    · simp only [List.mem_cons, List.not_mem_nil, or_false] at hy
      rcases hy with rfl | rfl
      · exact nl _ (fresh_size (Nat.le_succ _))
      · exact nl _ (size_none _)
    · obtain ⟨j, _, _, hs⟩ := hI
      obtain ⟨o', e', q, _⟩ := lo2 j h y hs hy
      rw [e] at e'; cases e'
      refine .inl ⟨q, ?_⟩
      simp only [List.mem_cons, List.not_mem_nil, or_false] at hy
      rcases hy with rfl | rfl
      · exact n2
      · exact n1
  by_cases asc : x.cps.all (· < 128) = true
  · have ety : strIterType x = "str_ascii_iterator" := by unfold strIterType; rw [if_pos asc]
    rw [ety] at hit
    exact key _ hit fun A' hA' => Draws.strAscii hA' s1.heap.objs.size x t
  · have ety : strIterType x = "str_iterator" := by unfold strIterType; rw [if_neg asc]
    rw [ety] at hit
    exact key _ hit fun A' hA' => Draws.strWide hA' s1.heap.objs.size x t
end
end Py

namespace Py

theorem A0 {a : Str} {l : List Str} : At (a :: l) 0 a := .here
theorem A1 {a b : Str} {l : List Str} : At (a :: b :: l) 1 b := .there .here
theorem A2 {a b c : Str} {l : List Str} : At (a :: b :: c :: l) 2 c := .there A1
theorem A3 {a b c d : Str} {l : List Str} : At (a :: b :: c :: d :: l) 3 d := .there A2
theorem A4 {a b c d e : Str} {l : List Str} : At (a :: b :: c :: d :: e :: l) 4 e := .there A3
theorem A5 {a b c d e f : Str} {l : List Str} : At (a :: b :: c :: d :: e :: f :: l) 5 f := .there A4
theorem A6 {a b c d e f g : Str} {l : List Str} : At (a :: b :: c :: d :: e :: f :: g :: l) 6 g := .there A5
theorem A7 {a b c d e f g h : Str} {l : List Str} : At (a :: b :: c :: d :: e :: f :: g :: h :: l) 7 h := .there A6

section
variable {C : Cx} {A : Around} {Z : Addr → Prop} {σ : List LV} {P : Post}
/-- a loop, by what holds ahead of each turn -/
theorem WLs.inv {t : Expr} {body orelse : List Stmt} (Inv : List PV → (Addr → Prop) → List LV → Prop) (hend : ∀ Z σ, Inv [] Z σ → WS C A Z σ orelse P)
    (hstep : ∀ p ps Z σ, Inv (p :: ps) Z σ → ∃ σ', Tgt C t p σ σ' ∧ WS C A Z σ' body fun fl Z' σ'' => match fl with
      | .next => Inv ps Z' σ''
      | .cont => Inv ps Z' σ''
      | .brk => P .next Z' σ''
      | .ret p => P (.ret p) Z' σ'') : ∀ (ps : List PV) (Z : Addr → Prop) (σ : List LV), Inv ps Z σ → WLs C A t body orelse P ps Z σ
  | [], Z, σ, h => hend Z σ h
  | p :: ps, Z, σ, h => by
    obtain ⟨σ', T, hb⟩ := hstep p ps Z σ h
    refine ⟨σ', T, ws_mono hb fun fl Z' σ'' q => ?_⟩
    cases fl with
    | next => exact WLs.inv Inv hend hstep ps Z' σ'' q
    | cont => exact WLs.inv Inv hend hstep ps Z' σ'' q
    | brk => exact q
    | ret p => exact q
theorem WLE.inv {t : Expr} {body orelse : List Stmt} {ends : Bool} (Inv : List PV → (Addr → Prop) → List LV → Prop) (hend : ∀ Z σ, Inv [] Z σ → ends = true ∧ WS C A Z σ orelse P)
    (hstep : ∀ p ps Z σ, Inv (p :: ps) Z σ → ∃ σ', Tgt C t p σ σ' ∧ WS C A Z σ' body fun fl Z' σ'' => match fl with
      | .next => Inv ps Z' σ''
      | .cont => Inv ps Z' σ''
      | .brk => P .next Z' σ''
      | .ret p => P (.ret p) Z' σ'') : ∀ (ps : List PV) (Z : Addr → Prop) (σ : List LV), Inv ps Z σ → WLE C A t body orelse P ends ps Z σ
  | [], Z, σ, h => hend Z σ h
  | p :: ps, Z, σ, h => by
    obtain ⟨σ', T, hb⟩ := hstep p ps Z σ h
    refine ⟨σ', T, ws_mono hb fun fl Z' σ'' q => ?_⟩
    cases fl with
    | next => exact WLE.inv Inv hend hstep ps Z' σ'' q
    | cont => exact WLE.inv Inv hend hstep ps Z' σ'' q
    | brk => exact q
    | ret p => exact q
theorem WC.of {α : Type} {C' : Cx} {t elt : Expr} {ifs : List Expr} {σ₀ : List LV} (item g : α → PV) (keep : α → Bool) : ∀ (xs : List α) (l : LV), (∀ a ∈ xs, ∀ l, ∃ σ', Tgt C' t (item a) (l :: σ₀) σ' ∧ σ' = .v (item a) :: σ₀ ∧ Tsts C' A Z σ' ifs (keep a) ∧ (keep a = true → Ev C' A Z σ' elt .f (g a))) →
    WC C' A t ifs elt Z (xs.map item) (l :: σ₀) ((xs.filter keep).map g)
  | [], _, _ => rfl
  | a :: xs, l, h => by
    obtain ⟨σ', T, rfl, ht, he⟩ := h a (.head _) l
    have ih := WC.of item g keep xs (.v (item a)) fun q hq => h q (.tail _ hq)
    refine ⟨_, T, keep a, ht, fun hk => ⟨g a, (xs.filter keep).map g, he hk, ih, ?_⟩, fun hk => ?_⟩
    · rw [List.filter_cons, if_pos hk]; rfl
    · rw [List.filter_cons, if_neg (by rw [hk]; decide)]; exact ih
theorem ev_list0 {pos : Pos} (ok : C.Ok) {n : Nat} (hA : OkA n A) : Ev C A Z σ (.List [] pos) .n (.list []) := ev_list ok hA .nil (Nat.zero_le _)
theorem Ev.cast {e : Expr} {k : RK} {p q : PV} (h : Ev C A Z σ e k p) (e' : p = q) : Ev C A Z σ e k q := e' ▸ h
theorem Tst.cast {e : Expr} {b c : Bool} (h : Tst C A Z σ e b) (e' : b = c) : Tst C A Z σ e c := e' ▸ h
theorem op_ne_strs {n : Nat} {ns ms : List Str} : Op2 C n (compareOp .NotEq) (LS ns) (LS ms) .f (.bool (ns != ms)) :=
  op_ne_lists (b := ns == ms) (fun h Z vs ws r r' hl => eqs_strs r.strs r'.strs hl) fun h => beq_len (by simpa using h)
theorem op_ne_ints {n : Nat} {ns ms : List Int} : Op2 C n (compareOp .NotEq) (LI ns) (LI ms) .f (.bool (ns != ms)) :=
  op_ne_lists (b := ns == ms) (fun h Z vs ws r r' hl => eqs_ints r.ints r'.ints hl) fun h => beq_len (by simpa using h)
end
end Py

namespace Py

noncomputable def keyOk (e : DictEntry) : Bool := match e.key with
  | .int k _ => e.hash == hashInt k
  | _ => false
theorem keyOk_spec {es : Array DictEntry} (h : es.toList.all keyOk = true) : ∀ e ∈ es.toList, ∃ k t, e.key = .int k t ∧ e.hash = hashInt k := by
  intro e he
  have := List.all_eq_true.mp h e he
  unfold keyOk at this
  split at this
  · rename_i k t hk
    exact ⟨k, t, hk, by simpa using this⟩
  · cases this

section
variable {C : Cx} {A : Around} {Z : Addr → Prop} {σ : List LV}

theorem ev_dict_get {x : Str} {d : Addr} {es : Array DictEntry} {ep : Nat} {p apos pos : Pos} {e1 e2 : Expr} {k : Int} {q r : PV} (ok : C.Ok) {n : Nat} (hA : OkA n A) (g : GV C x (.ref d)) (ho : ∀ h, C.W h → h.get? d = some { cls := .type "dict", data := .dict es ep }) (hd : (d == sysModules) = false)
    (hk : es.toList.all keyOk = true) (h1 : Ev C A Z σ e1 .f (.int k)) (h2 : Ev C A Z σ e2 .f q) (hr : (∃ s t, findBy Value.isInt es k = some (.str s t) ∧ r = .str s) ∨ (findBy Value.isInt es k = none ∧ r = q))
    (hse1 : ∀ rest env, starEach (e1 :: rest) env = (false, eval e1 env) :: starEach rest env := by intro _ _; rfl) (hse2 : ∀ rest env, starEach (e2 :: rest) env = (false, eval e2 env) :: starEach rest env := by intro _ _; rfl)
    (hline : (apos.endLine == pos.line) = true := by rfl) (hbase : attributeBase (.Name x p) "get" C.env (eval (.Name x p) C.env) = eval (.Name x p) C.env := by rfl) : Ev C A Z σ (.Call (.Attribute (.Name x p) "get" apos) [e1, e2] [] pos) .f r := by
  intro s Q E S hQ
  have w := ok.mono _ _ ok.w0 S.keep
  refine meth_raw (T := "dict") (id := "dict.get") ⟨F.plainAttrs_dict, F.slot_dict_get, F.type_dict_get⟩ (.cons h1 (.cons h2 .nil hse2) hse1) (g _ _ _ _ _ w ⟨S, ⟨_, ho _ w, rfl⟩, fun b e => ?_, fun vs s2 X2 r2 => ?_⟩) hline hbase
  · cases e; exact ⟨_, ho _ w, rfl⟩
  · simp only [Reps, Rep] at r2
    obtain ⟨v, l, rfl, ⟨t, rfl⟩, v', l', rfl, hv, rfl⟩ := r2
    refine dict_get (C := C) (ho _ (ok.mono _ _ ok.w0 (S.ext X2).keep)) hd (keyOk_spec hk) (hQ _ _ (X2.trans (Ext.toks _ _)) ?_)
    rcases hr with ⟨x, t', e, rfl⟩ | ⟨e, rfl⟩
    · rw [e]; exact ⟨t', rfl⟩
    · rw [e]; exact hv
end

-- what pretty_flags says, in plain words
noncomputable def flagNames : List Str := ["OPTIMIZED", "NEWLOCALS", "VARARGS", "VARKEYWORDS", "NESTED", "GENERATOR", "NOFREE", "COROUTINE", "ITERABLE_COROUTINE", "ASYNC_GENERATOR"]
noncomputable def pfName (i : Nat) : Str := (flagNames[i]?).getD (baseText "0x" 16 ((2 ^ i : Nat) : Int))
noncomputable def pfGo : Nat → Nat → Nat → List Str → List Str
  | 0, _, f, names => names ++ [baseText "0x" 16 (f : Int)]
  | m + 1, i, f, names => if f &&& 2 ^ i != 0 then (if f ^^^ 2 ^ i == 0 then names ++ [pfName i] else pfGo m (i + 1) (f ^^^ 2 ^ i) (names ++ [pfName i])) else pfGo m (i + 1) f names
noncomputable def pfText (f : Nat) : Str := Txt.join ", " (pfGo 32 0 f [])

theorem hex_le {f : Nat} (h : f < 2 ^ 32) : (baseText "0x" 16 (f : Int)).length ≤ 12 := by
  unfold baseText
  rw [Str.length_append, Str.length_append, ofString_ofList_length]
  have h1 := toDigits_len_pow (b := 16) (k := 8) (n := (f : Int).natAbs) (by decide) (by decide) (by simpa using h)
  have h3 : (Str.ofString (if (f : Int) < 0 then "-" else "")).length ≤ 1 := by
    split <;> (rw [PyProof.Rows.ofString_len]; decide)
  have h4 : (Str.ofString "0x").length = 2 := by decide
  have h5 : (Str.ofString (String.ofList (Nat.toDigits 16 (f : Int).natAbs))).length = _ := ofString_ofList_length _
  rw [h5]
  simp only [List.length_cons, List.length_nil]
  omega
theorem pfName_le {i : Nat} (h : i < 32) : (pfName i).length ≤ 20 := by
  unfold pfName
  cases e : flagNames[i]? with
  | none => exact Nat.le_trans (hex_le (Nat.pow_lt_pow_right (by decide) h)) (by decide)
  | some x =>
    have hm := List.mem_of_getElem? e
    have : ∀ x ∈ flagNames, x.length ≤ 20 := by decide +kernel
    exact this x hm
theorem nat_xor_and (m : Nat) : ∀ n : Nat, (m ^^^ n) + 2 * (m &&& n) = m + n := by
  induction m using Nat.strongRecOn with
  | ind m ih =>
    intro n
    by_cases h0 : m = 0
    · subst h0; simp
    · have ih' := ih (m / 2) (by omega) (n / 2)
      rw [← Nat.xor_div_two, ← Nat.and_div_two] at ih'
      have o1 := @Nat.xor_mod_two_eq_one m n
      have a1 := @Nat.and_mod_two_eq_one m n
      have zx : ∀ {a : Nat} {p : Prop}, (a % 2 = 1 ↔ p) → ¬ p → a % 2 = 0 := fun h n => (Nat.mod_two_eq_zero_or_one _).resolve_right fun q => n (h.mp q)
      rcases Nat.mod_two_eq_zero_or_one m with hm | hm <;> rcases Nat.mod_two_eq_zero_or_one n with hn | hn <;> rw [hm, hn] at o1 a1
      · have e1 := zx o1 (by decide)
        have e2 := zx a1 (by decide)
        clear o1 a1 ih zx
        omega
      · have e1 := o1.mpr (by decide)
        have e2 := zx a1 (by decide)
        clear o1 a1 ih zx
        omega
      · have e1 := o1.mpr (by decide)
        have e2 := zx a1 (by decide)
        clear o1 a1 ih zx
        omega
      · have e1 := zx o1 (by decide)
        have e2 := a1.mpr (by decide)
        clear o1 a1 ih zx
        omega
theorem pow_cast (i : Nat) : (1 * 2 ^ i : Int) = ((2 ^ i : Nat) : Int) := by rw [Int.one_mul]; norm_cast
theorem and_nat' (f g : Nat) : Builtin.bitAnd (f : Int) (g : Int) = ((f &&& g : Nat) : Int) := by
  rw [bitAnd_pp (by omega) (by omega)]
  simp
theorem xor_nat' (f g : Nat) : Builtin.bitXor (f : Int) (g : Int) = ((f ^^^ g : Nat) : Int) := by
  rw [bitXor_and, and_nat']
  have := nat_xor_and f g
  omega
theorem and_nat (f i : Nat) : Builtin.bitAnd (f : Int) (1 * 2 ^ i) = ((f &&& 2 ^ i : Nat) : Int) := by rw [pow_cast, and_nat']
theorem xor_nat (f i : Nat) : Builtin.bitXor (f : Int) (1 * 2 ^ i) = ((f ^^^ 2 ^ i : Nat) : Int) := by rw [pow_cast, xor_nat']

section
variable {C : Cx} {A : Around} {Z : Addr → Prop} {σ : List LV} {P : Post}
theorem w1_rets {pos : Pos} {e : Expr} {k : RK} {x : Str} (he : Ev C A Z σ e k (.str x)) (h : P (.ret (.str x)) Z σ) : W1 C A Z σ (.Return (some e) pos) P := w1_ret (p := .str x) trivial he h
theorem w1_retb {pos : Pos} {e : Expr} {k : RK} {x : Bool} (he : Ev C A Z σ e k (.bool x)) (h : P (.ret (.bool x)) Z σ) : W1 C A Z σ (.Return (some e) pos) P := w1_ret (p := .bool x) trivial he h
theorem Op2.cast {n : Nat} {f : Value → Value → Sem Value} {p q r r' : PV} {k : RK} (h : Op2 C n f p q k r) (e : r = r') : Op2 C n f p q k r' := e ▸ h
end
end Py

namespace Py
/-- what a generator hands out, by what is left -/
noncomputable def yv (items : List PV) (n : Nat) : PV := (items.reverse[n]?).getD .none
theorem yv_head {items pre r : List PV} {p : PV} (h : items = pre ++ p :: r) : yv items r.length = p := by
  subst h
  unfold yv
  rw [List.reverse_append, List.reverse_cons, List.append_assoc, List.getElem?_append_right (by simp)]
  simp
theorem yv_list (items : List PV) : (List.range items.length).reverse.map (yv items) = items := by
  rw [← List.reverse_inj, ← List.map_reverse, List.reverse_reverse]
  apply List.ext_getElem?
  intro i
  rw [List.getElem?_map]
  by_cases h : i < items.length
  · rw [List.getElem?_range h]
    simp only [Option.map_some, yv]
    rw [List.getElem?_eq_getElem (by simpa using h)]
    simp
  · rw [List.getElem?_eq_none (by simpa using h), List.getElem?_eq_none (by simpa using h)]; rfl

/-- the pieces of a text, with their places -/
noncomputable def escL : Nat → Bool → List Nat → List PV
  | k, e, [] => if e then [.tup [.int ((k : Int) - 1), .str "\\"]] else []
  | k, e, c :: cs => if e then .tup [.int (k : Nat), .str ("\\" ++ ⟨#[c]⟩)] :: escL (k + 1) false cs
    else if (⟨#[c]⟩ : Str) == "\\" then escL (k + 1) true cs else .tup [.int (k : Nat), .str ⟨#[c]⟩] :: escL (k + 1) false cs
noncomputable def chs (cs : List Nat) : List PV := cs.map fun c => PV.str ⟨#[c]⟩

section
variable {C : Cx} {hb : Heap} {b : Nat} {A : Around} {Yv : Nat → PV} {ends : Bool}
theorem sw_mono {J J' : Heap → Prop} {n : Nat} {σ : List LV} {ss : List Stmt} {P P' : Nat → Flow → List LV → Prop} (h : SW C b A hb Yv ends J J' n σ ss P) (hp : ∀ n f σ, P n f σ → P' n f σ) : SW C b A hb Yv ends J J' n σ ss P' :=
  fun s₀ c fs K H s hfs S j m k => h s₀ c fs K H s hfs S j m fun n' s₀' s' f σ' p => k n' s₀' s' f σ' (hp _ _ _ p)
theorem WG.inv {t : Expr} {body rest : List Stmt} {P : Nat → Flow → List LV → Prop} (Inv : List PV → Nat → List LV → Prop) (hend : ∀ n σ, Inv [] n σ → SW C b A hb Yv ends JT JT n σ rest P)
    (hstep : ∀ p ps n σ, Inv (p :: ps) n σ → ∃ σ', Tgt C t p σ σ' ∧ ∀ J, JOk C hb J → SW C b A hb Yv ends J J n σ' body fun n' f σ'' => match f with
      | .next => Inv ps n' σ''
      | .cont => Inv ps n' σ''
      | .brk => SW C b A hb Yv ends JT JT n' σ'' rest P
      | .ret v => P n' (.ret v) σ'') : ∀ (ps : List PV) (n : Nat) (σ : List LV), Inv ps n σ → WG C b A hb Yv ends t body rest P ps n σ
  | [], n, σ, h => hend n σ h
  | p :: ps, n, σ, h => by
    obtain ⟨σ', T, hb⟩ := hstep p ps n σ h
    refine ⟨σ', T, fun J hJ => sw_mono (hb J hJ) fun n' f σ'' q => ?_⟩
    cases f with
    | next => exact WG.inv Inv hend hstep ps n' σ'' q
    | cont => exact WG.inv Inv hend hstep ps n' σ'' q
    | brk => exact q
    | ret v => exact q
noncomputable def ScalL (l : LV) : Prop := l = .unb ∨ ∃ p, l = .v p ∧ Scal p
theorem scal4 {a b c d : LV} (h1 : ScalL a) (h2 : ScalL b) (h3 : ScalL c) (h4 : ScalL d) : ScalS [a, b, c, d] := by
  intro l hl
  simp only [List.mem_cons, List.not_mem_nil, or_false] at hl
  rcases hl with rfl | rfl | rfl | rfl
  · exact h1
  · exact h2
  · exact h3
  · exact h4
theorem scalV {p : PV} (h : Scal p) : ScalL (.v p) := .inr ⟨p, rfl, h⟩
end

noncomputable def escT : Nat → Bool → List Nat → List (Int × Str)
  | k, e, [] => if e then [((k : Int) - 1, "\\")] else []
  | k, e, c :: cs => if e then ((k : Nat), "\\" ++ ⟨#[c]⟩) :: escT (k + 1) false cs
    else if (⟨#[c]⟩ : Str) == "\\" then escT (k + 1) true cs else ((k : Nat), ⟨#[c]⟩) :: escT (k + 1) false cs
noncomputable def tupIS (p : Int × Str) : PV := .tup [.int p.1, .str p.2]
theorem escL_eq : ∀ (cs : List Nat) (k : Nat) (e : Bool), escL k e cs = (escT k e cs).map tupIS
  | [], k, e => by cases e <;> rfl
  | c :: cs, k, e => by
    unfold escL escT
    cases e with
    | true => rw [if_pos rfl, if_pos rfl, List.map_cons, escL_eq cs]; rfl
    | false =>
      simp only [Bool.false_eq_true, if_false]
      by_cases h : ((⟨#[c]⟩ : Str) == "\\") = true
      · rw [if_pos h, if_pos h]; exact escL_eq cs _ _
      · rw [if_neg h, if_neg h, List.map_cons, escL_eq cs]; rfl
theorem escT_len : ∀ (cs : List Nat) (k : Nat) (e : Bool), (escT k e cs).length ≤ cs.length + 1
  | [], k, e => by cases e <;> simp [escT]
  | c :: cs, k, e => by
    unfold escT
    cases e with
    | true => rw [if_pos rfl]; have := escT_len cs (k + 1) false; simp only [List.length_cons]; omega
    | false =>
      rw [if_neg (by decide)]
      split
      · have := escT_len cs (k + 1) true; simp only [List.length_cons]; omega
      · have := escT_len cs (k + 1) false; simp only [List.length_cons]; omega

noncomputable def stripGo (x : Str) : List (Int × Str) → Int → Option Int → List Str → Int × List Str
  | [], st, _, res => (st, res)
  | (p, c) :: r, st, op, res => if c == "\"" then (match op with
      | none => stripGo x r st (some p) res
      | some q => stripGo x r (p + 1) none (if st != q then res ++ [Txt.slice x (some st) (some q)] else res)) else stripGo x r st op res
noncomputable def stripRes (x : Str) (r : Int × List Str) : List Str := if r.1 < (x.length : Int) then r.2 ++ [Txt.slice x (some r.1) none] else r.2
noncomputable def strip (x : Str) : Str := if !Txt.contains x "\"" then x else Txt.join "" (stripRes x (stripGo x (escT 0 false x.cps.toList) 0 none []))
noncomputable def parenGo : List (Int × Str) → Int → Bool
  | [], o => o == 0
  | (_, c) :: r, o => if c == "(" then parenGo r (o + 1) else if c == ")" then (if o - 1 < 0 then false else parenGo r (o - 1)) else parenGo r o
noncomputable def parens (x : Str) : Bool := parenGo (escT 0 false (strip x).cps.toList) 0
noncomputable def validate (xs : List Str) : List Str := xs.map fun x => if parens x then x else "('', '')"

section
variable {C : Cx} {A : Around} {Z : Addr → Prop} {σ : List LV} {P : Post}
theorem WLs.monoP {t : Expr} {body orelse : List Stmt} {P P' : Post} (hp : ∀ fl Z σ, P fl Z σ → P' fl Z σ) : ∀ {ps : List PV} {Z : Addr → Prop} {σ : List LV}, WLs C A t body orelse P ps Z σ → WLs C A t body orelse P' ps Z σ
  | [], _, _, h => ws_mono h hp
  | p :: ps, _, _, ⟨σ', T, h⟩ => ⟨σ', T, ws_mono h fun fl Z' σ'' h => by
      cases fl with
      | next => exact WLs.monoP hp h
      | cont => exact WLs.monoP hp h
      | brk => exact hp _ _ _ h
      | ret => exact hp _ _ _ h⟩
theorem WLE.monoP {t : Expr} {body orelse : List Stmt} {ends : Bool} {P P' : Post} (hp : ∀ fl Z σ, P fl Z σ → P' fl Z σ) : ∀ {ps : List PV} {Z : Addr → Prop} {σ : List LV}, WLE C A t body orelse P ends ps Z σ → WLE C A t body orelse P' ends ps Z σ
  | [], _, _, h => ⟨h.1, ws_mono h.2 hp⟩
  | p :: ps, _, _, ⟨σ', T, h⟩ => ⟨σ', T, ws_mono h fun fl Z' σ'' h => by
      cases fl with
      | next => exact WLE.monoP hp h
      | cont => exact WLE.monoP hp h
      | brk => exact hp _ _ _ h
      | ret => exact hp _ _ _ h⟩
noncomputable def PM (Mid : (Addr → Prop) → List LV → Prop) (P : Post) : Post := fun fl Z' σ' => match fl with | .next => Mid Z' σ' | fl => P fl Z' σ'
/-- a loop, and what holds behind it -/
theorem ws_fors {t iter : Expr} {body orelse rest : List Stmt} {pos : Pos} {ps : List PV} (Mid : (Addr → Prop) → List LV → Prop) (ok : C.Ok) (hA : A.handled = none) (hsrc : Iter C A Z σ t iter uncons ps)
    (hrest : ∀ Z' σ', Mid Z' σ' → WS C A Z' σ' rest P) (hw : WLs C A t body orelse (PM Mid P) ps Z σ) (hf : ∀ x, foldedSetIterable iter C.env x = pure x := by intro _; rfl) : WS C A Z σ (.For t iter body orelse pos :: rest) P :=
  ws_cons (w1_fors ok hA hsrc (hw.monoP fun fl Z σ h => by
    cases fl with
    | next => exact hrest _ _ h
    | brk => exact h
    | cont => exact h
    | ret => exact h) hf)
theorem ws_forE {t iter : Expr} {body orelse rest : List Stmt} {pos : Pos} {ends : Bool} {ps : List PV} (Mid : (Addr → Prop) → List LV → Prop) (ok : C.Ok) (hA : A.handled = none) (hsrc : IterE C A Z σ t iter ends ps)
    (hrest : ∀ Z' σ', Mid Z' σ' → WS C A Z' σ' rest P) (hw : WLE C A t body orelse (PM Mid P) ends ps Z σ) (hf : ∀ x, foldedSetIterable iter C.env x = pure x := by intro _; rfl) : WS C A Z σ (.For t iter body orelse pos :: rest) P :=
  ws_cons (w1_forE ok hA hsrc (hw.monoP fun fl Z σ h => by
    cases fl with
    | next => exact hrest _ _ h
    | brk => exact h
    | cont => exact h
    | ret => exact h) hf)
end

section
variable {A : Around} {Z : Addr → Prop}
/-- a comprehension with no test -/
theorem WC.all {α : Type} {C' : Cx} {t elt : Expr} {σ₀ : List LV} (item g : α → PV) (xs : List α) (l : LV) (h : ∀ a ∈ xs, ∀ l, ∃ σ', Tgt C' t (item a) (l :: σ₀) σ' ∧ σ' = .v (item a) :: σ₀ ∧ Ev C' A Z σ' elt .f (g a)) :
    WC C' A t [] elt Z (xs.map item) (l :: σ₀) (xs.map g) := by
  have := WC.of (C' := C') (t := t) (elt := elt) (ifs := []) (A := A) (Z := Z) (σ₀ := σ₀) item g (fun _ => true) xs l fun a ha l => by
    obtain ⟨σ', T, e, he⟩ := h a ha l
    exact ⟨σ', T, e, rfl, fun _ => he⟩
  rwa [List.filter_eq_self.mpr (fun _ _ => rfl)] at this
end
end Py

namespace Py

section
variable {C : Cx} {hb : Heap} {b : Nat} {A : Around} {Yv : Nat → PV} {ends : Bool} {n : Nat}

noncomputable def PEnd (ends : Bool) : Nat → Flow → List LV → Prop := fun n' f _ => (f = .next ∨ f = .ret .none) ∧ n' = 0 ∧ ends = true

/-- a generator that begins so: x = None; for t in y -/
theorem gen_list {x y z : Str} {p1 p2 p3 p4 pc : Pos} {kc : Nat} {t : Expr} {body : List Stmt} {ns : List Int} {s : Shared} (G : GOk C hb) (hA : OkA (b + 1) A) (hvs : C.vs = [y, x, z]) (ky : C.env.kindOf y = some .local) (kx : C.env.kindOf x = some .local) (hne : y ≠ x) (hyd : (y == ("__debug__" : Str)) = false)
    (f : Fr0 C hb [.v (LI ns), .unb, .unb] s) (hw : WG C b A hb Yv ends t body [] (PEnd ends) (ns.map .int) n [.unb, .v .none, .unb])
    (go : ∀ (s : Shared) (I l : Addr) (i : Nat) v (Q : Unit → Shared → Prop) (E : Value → Shared → Prop), s.heap.IsListIter I l i → Q () s → ∀ A', wpAny C.M A' (letOwnedTupleGo t (.ref I) v) Q E s)
    (hs : swapsWith (.Constant .none kc pc) (some (.Name x p1)) p2.line C.env = pure false := by rfl) (hff : ∀ x, foldedSetIterable (.Name y p3) C.env x = pure x := by intro _; rfl) :
    Seg C.M A (Rg hb ends) (Yg hb C.h₀ Yv ends) n s (.func (.Assign [.Name x p1] (.Constant .none kc pc) p2 :: .For t (.Name y p3) body [] p4 :: []) C.env) (C.M.den (.func (.Assign [.Name x p1] (.Constant .none kc pc) p2 :: .For t (.Name y p3) body [] p4 :: []) C.env)) [] s := by
  have S := f.st G rfl
  have ok := G.ok
  have live0 := f.live
  have kp0 := f.kp
  obtain ⟨m, hn, V⟩ := f.ns
  rw [hvs] at V
  obtain ⟨v, hv, hr⟩ := V.1
  have hmy : m y = some v := by
    rcases hv with q | q
    · exact q.2
    · exact absurd ky q.1
  simp only [Rep] at hr
  obtain ⟨l, vs, rfl, hl, _, rs⟩ := hr
  have nlock : ∀ b o, s.heap.get? b = some o → (hb.get? b ≠ none ∨ SeqObj o ∨ ∃ w, o.data = .cell w) → b ≠ C.env.locals := by
    rintro b o e h rfl
    rcases h with h | h | ⟨w, h⟩
    · exact h G.nl
    · exact (locals_plain S e).1 h
    · exact (locals_plain S e).2 w h
  refine seg_func (seg_execs_cons (seg_wrap (wpAny_Assign_Name (wpAny_Constant_none ?_) hs)))
  refine wpAny_storeName_local kx hn (fun h' hn' hsb => ?_) (by rw [ok.fk]; rfl)
  have h0l : ∀ b o, C.h₀.get? b = some o → b ≠ C.env.locals := fun b o e q => by
    have := ok.newL
    rw [← q, e] at this; cases this
  have kp1 : Kp C.h₀ h' := fun b o e => (hsb.2 b (h0l b o e)).trans (kp0 b o e)
  have live1 : LiveJ hb h' := (live_ok G).fr _ _ live0 fun b o e q => (hsb.2 b q).trans e
  have S1 : St C noZ [.unb, .v .none, .unb] { s with heap := h', toks := s.toks + 1 } := by
    refine ⟨kp1, fun _ z => z.elim, fun _ z => z.elim, List.nodup_nil, _, hn', ?_⟩
    rw [hvs]
    have un : ∀ w, VarIs C.env h' noZ (fun q => if q = x then some Value.none else m q) w .unb := fun w _ c hc => by rw [G.cells] at hc; cases hc
    exact ⟨un y, ⟨.none, .inl ⟨kx, if_pos rfl⟩, rfl⟩, un z, trivial⟩
  have m1 : Mg hb s { s with heap := h', toks := s.toks + 1 } := ⟨fun b o e h => (hsb.2 b (nlock b o e h)).trans e, .refl _, rfl, rfl⟩
  refine seg_execs_cons (seg_For hff (wpAny_Name (wpAny_loadName_local ok.fk ky hn' (by rw [if_neg hne]; exact hmy) ?_) hyd))
  have hl1 : h'.PlainList l vs.toArray := hl.at fun o e => kp1 l o e
  refine wpAny_pyIter_list hl1.isList fun p => ?_
  have X2 := Ext.push { s with heap := h', toks := s.toks + 1 } { cls := .type "list_iterator", data := .fields #[.ref l, .int 0 0] }
  have hit : Heap.IsListIter (h'.push { cls := .type "list_iterator", data := .fields #[.ref l, .int 0 0] }) h'.objs.size l 0 := ⟨_, Heap.get?_push_size _ rfl, rfl, rfl⟩
  have hlt : l < h'.objs.size := let ⟨n, e⟩ := hl1; Heap.lt_size e
  have hl2 : Heap.IsList (h'.push { cls := .type "list_iterator", data := .fields #[.ref l, .int 0 0] }) l vs.toArray := hl1.isList.push _
  have lo : ∀ (i : Nat) (h : Heap) q, (Heap.IsListIter h h'.objs.size l i ∧ h.IsList l vs.toArray) → q ∈ [h'.objs.size] → ∃ o, h.get? q = some o ∧ ¬ SeqObj o ∧ ∀ w, o.data ≠ .cell w := by
    rintro i h q ⟨⟨o, e, _, d⟩, _⟩ hq
    simp only [List.mem_cons, List.not_mem_nil, or_false] at hq
    subst hq
    exact ⟨o, e, (by rintro ⟨_, _, q⟩; rw [d] at q; cases q), (by intro w q; rw [d] at q; cases q)⟩
  have nh : hb.get? h'.objs.size = none := live1 _ (size_none _)
  refine wg_loop (I := fun ls h => ∃ i, i ≤ vs.toArray.size ∧ ls = (ns.map PV.int).drop i ∧ (Heap.IsListIter h h'.objs.size l i ∧ h.IsList l vs.toArray)) (fp := (· ∈ [h'.objs.size, l])) (wr := (· ∈ [h'.objs.size])) (P := PEnd ends) (rest := []) G (fun A' hA' => srcI_L (Walks.list (prog := C.prog) (w := C.w) hA'.h h'.objs.size l (Nat.ne_of_lt hlt) vs.toArray) (ns.map .int) (by rw [List.size_toArray, rs.length]) (fun i s v Q E st h => go s _ _ _ v Q E st.1 h A') (fun i v p e q h => ?_) lo) (fun q hq => ?_) (fun q hq => ?_) (fun i h q o hI hq e => ?_)
    (FsOk.func hA) (fun f => by cases f <;> rfl) (fun n' s₀' s' f σ' hp S' m' => ?_) _ n _ _ _ hw (S1.ext X2) ⟨0, Nat.zero_le _, rfl, hit, hl2⟩ (m1.trans (Mg.ext X2))
  · obtain ⟨w, hw, rw'⟩ := rs.get i e
    have : vs[i]? = some v := by simpa using q
    rw [hw] at this; cases this
    rw [List.getElem?_map] at e
    obtain ⟨k, _, rfl⟩ := Option.map_eq_some_iff.mp e
    exact rw'
  · simp only [List.mem_cons, List.not_mem_nil, or_false] at hq
    rw [hq]; exact nh
  · simp only [List.mem_cons, List.not_mem_nil, or_false] at hq
    rcases hq with rfl | rfl
    · obtain ⟨oL, _, _, e, _⟩ := hn'
      exact fun h => Nat.lt_irrefl _ (h ▸ Heap.lt_size e)
    · obtain ⟨k, e⟩ := hl
      exact h0l _ _ e
  · obtain ⟨j, _, _, st⟩ := hI
    simp only [List.mem_cons, List.not_mem_nil, or_false] at hq
    rcases hq with rfl | rfl
    · obtain ⟨o', e', q1, _⟩ := lo j h h'.objs.size st (.head _)
      rw [e] at e'; cases e'
      exact .inl ⟨q1, nh⟩
    · obtain ⟨k, e⟩ := hl
      exact .inr (by rw [e]; simp)
  · obtain ⟨hf, rfl, he⟩ := hp
    rcases hf with rfl | rfl
    · exact seg_end (.ok (.ret .none)) ⟨rfl, ⟨rfl, he⟩, m'⟩
    · exact seg_end (.ok (.ret .none)) ⟨rfl, ⟨rfl, he⟩, m'⟩
end
end Py

namespace Py

section
variable {C : Cx} {A : Around} {Z : Addr → Prop} {σ : List LV} {k0 : Nat}

theorem fn_max2 {a b : Int} : OpN C k0 (fun vs => call (.builtin "max") vs) [.int a, .int b] .f (.int (if b > a then b else a)) := by
  rintro A Z s Q E vs H ⟨v, r, rfl, ⟨t, rfl⟩, v', r', rfl, ⟨t', rfl⟩, rfl⟩ hQ
  refine max_two_ints H.a.h fun h' tk hk => ?_
  refine hQ _ _ (Ext.heap hk tk) ?_
  split
  · exact ⟨_, rfl⟩
  · exact ⟨_, rfl⟩
theorem fn_sorted {ns : List Int} (h64 : ns.length < 64) : OpN C k0 (fun vs => call (.builtin "sorted") vs) [LI ns] .n (LI (srt ns)) := by
  rintro A Z s Q E vs H ⟨v, r, rfl, ⟨a, ws, rfl, hl, rs⟩, rfl⟩ hQ
  refine sorted_ints hl.isList rs.ints (by rw [rs.length]; simpa using h64) fun out ns' h1 h2 h3 => ?_
  have e : ns' = srt ns := eq_srt h2 h3
  subst e
  obtain ⟨X3, r3⟩ := sorted_res (vs := ws) H.zl h1
  exact hQ _ _ X3 r3
theorem meth_index : Meth "index" "list" "list.index" := ⟨F.plainAttrs_list, F.slot_list_index, F.type_list_index⟩
theorem ints_at {vs : List Value} {ns : List Int} (h : IntsAre vs ns) : ∀ i (hi : i < vs.length), ∃ t, vs[i] = .int (ns.getD i 0) t := by
  induction h with
  | nil => intro i hi; exact absurd hi (Nat.not_lt_zero _)
  | cons n t _ ih =>
    intro i hi
    cases i with
    | zero => exact ⟨t, rfl⟩
    | succ i => exact ih i (by simpa using hi)
theorem fn_index {ns : List Int} {k : Int} {j : Nat} (hj : j < ns.length) (hl : ns.length ≤ 2 ^ 24) (hit : ns.getD j 0 = k) (hno : ∀ m, m < j → ns.getD m 0 ≠ k) : OpN C k0 (fun vs => call (.builtin "list.index") vs) [LI ns, .int k] .f (.int j) := by
  rintro A Z s Q E vs H ⟨v, r, rfl, ⟨a, ws, rfl, ⟨n, hl'⟩, rs⟩, v', r', rfl, ⟨t, rfl⟩, rfl⟩ hQ
  have hI := rs.ints
  have hlen : ws.length = ns.length := by rw [rs.length, List.length_map]
  refine call_meets F.slot_list_index ⟨_, hl', rfl⟩ F.entry_list_index (F.args_list_index_2 _ _) (PySem.SeqAt.list_indexAt a ws.toArray n none #[] (.int k t) (fun y => match y with | .int i _ => i == k | _ => false) j (by rw [List.size_toArray, hlen]; exact hj) (by omega) ?_ (fun m hm hmj => ?_)) ⟨hl', fun y hy => ?_, ?_⟩
  · obtain ⟨u, e⟩ := ints_at hI j (by omega)
    simp only [List.getElem_toArray]
    rw [e, hit]
    exact beq_self_eq_true k
  · have hm' : m < ws.length := by simpa using hm
    obtain ⟨u, e⟩ := ints_at hI m hm'
    simp only [List.getElem_toArray]
    rw [e]
    exact beq_eq_false_iff_ne.mpr (hno m hmj)
  · obtain ⟨i, hi, rfl⟩ := List.mem_iff_getElem.mp (by simpa using hy : y ∈ ws)
    obtain ⟨u, e⟩ := ints_at hI i hi
    rw [e]
    exact (MeetsSeq.EqGives.int _ _ _ _).at _ _
  · exact hQ _ _ (Ext.toks s _) ⟨_, rfl⟩

noncomputable def zipP (xs ys : List PV) : List PV := List.zipWith (fun a b => PV.tup [a, b]) xs ys
theorem iter_zip {e f : Expr} {xs ys : List PV} {es : List Expr} {k : Nat} {pt p pos : Pos} (ok : C.Ok) (hh : A.handled = none) (g : GV C "zip" (.type "zip")) (h : EvL C A Z σ [e, f] [.list xs, .list ys]) : IterZ C A Z σ (.Tuple es k pt) (.Call (.Name "zip" p) [e, f] [] pos) uncons (zipP xs ys) := by
  intro s Q E S hQ
  refine call_raw ok g h S fun vs s1 X r => ?_
  simp only [Reps, Rep] at r
  obtain ⟨v1, r1, rfl, ⟨l1, vs1, rfl, hl1, hz1, rs1⟩, v2, r2, rfl, ⟨l2, vs2, rfl, hl2, hz2, rs2⟩, rfl⟩ := r
  refine call_zip_2 hl1.isList hl2.isList fun h' hz hTI hTO hi1 hi2 hsz hk => ?_
  obtain ⟨n, hn⟩ : ∃ n : Nat, s1.heap.objs.size = n := ⟨_, rfl⟩
  rw [hn] at hz hTI hTO hi1 hi2 hsz
  have X2 : Ext s { s1 with heap := h' } := X.trans (Ext.heap' hk)
  have lt1 : @LT.lt Nat _ l1 n := hn ▸ (let ⟨_, e⟩ := hl1; Heap.lt_size e)
  have lt2 : @LT.lt Nat _ l2 n := hn ▸ (let ⟨_, e⟩ := hl2; Heap.lt_size e)
  have nw : ∀ i : Nat, n ≤ i → s.heap.get? i = none := fun i hi => none_kp X.kp (fresh_size (by omega))
  have nw1 : ∀ i : Nat, n ≤ i → s1.heap.get? i = none := fun i hi => fresh_size (by omega)
  have nz : ∀ i : Nat, n ≤ i → ¬ Z i := fun i hi z => by
    obtain ⟨o, e, _⟩ := S.zl i z
    rw [nw i hi] at e; cases e
  have S1 : St C (ins (n + 3) Z) σ { s1 with heap := h' } := S.ins (s := { s1 with heap := h' }) X2.kp (nw _ (by omega)) ⟨_, hTO, _, _, rfl⟩
  have D : ZipApart (n + 4) (n + 2) (n + 3) n (n + 1) l1 l2 := by constructor <;> (show @Ne Nat _ _) <;> omega
  have W := WalksT.zip2 (prog := C.prog) (w := C.w) (A := A) hh (n + 4) (n + 2) (n + 3) n (n + 1) l1 l2 D vs1.toArray vs2.toArray
  have hl1' : h'.IsList l1 vs1.toArray := (hl1.at fun o e => hk l1 o e).isList
  have hl2' : h'.IsList l2 vs2.toArray := (hl2.at fun o e => hk l2 o e).isList
  have st0 : IsZip h' (n + 4) (n + 2) (n + 3) .none ∧ IsPair h' (n + 2) (.ref n) (.ref (n + 1)) ∧ (∃ a b, IsPair h' (n + 3) a b) ∧ h'.IsListIter n l1 0 ∧ h'.IsListIter (n + 1) l2 0 ∧ h'.IsList l1 vs1.toArray ∧ h'.IsList l2 vs2.toArray := ⟨hz, hTI, ⟨_, _, hTO⟩, hi1, hi2, hl1', hl2'⟩
  have src := src_walksT (N := s.gens.size) (es := es) (k := k) (pos := pt) (Z := Z) (Z₁ := ins (n + 3) Z) (σ := σ) (sh := { s1 with heap := h' }) ok S1 (fun a z => .inr z) W (zipP xs ys) (by
    unfold zipP; rw [List.length_zipWith, List.size_toArray, List.size_toArray, rs1.length, rs2.length]) (fun i vals q hq hp => ?_) (fun b hb => ?_) (fun i h b st hb => ?_) st0
  rotate_left
  · obtain ⟨x, y, hx, hy, rfl⟩ := hp
    unfold zipP at hq
    rw [List.getElem?_zipWith] at hq
    cases e1 : xs[i]? with
    | none => rw [e1] at hq; simp at hq
    | some a =>
      cases e2 : ys[i]? with
      | none => rw [e1, e2] at hq; simp at hq
      | some b =>
        rw [e1, e2] at hq
        simp at hq
        subst hq
        obtain ⟨u, hu, ru⟩ := rs1.get i e1
        obtain ⟨w, hw, rw'⟩ := rs2.get i e2
        have ex : u = x := by
          have : vs1[i]? = some x := by simpa using hx
          rw [hu] at this; exact Option.some.inj this
        have ey : w = y := by
          have : vs2[i]? = some y := by simpa using hy
          rw [hw] at this; exact Option.some.inj this
        subst ex ey
        have up : ∀ {p : PV} {v : Value}, Rep s1.heap Z p v → Rep h' (ins (n + 3) Z) p v := fun {p v} r => Rep.chg (fun a o e _ z => ⟨hk a o e, fun q => by
          rcases q with q | q
          · rw [q, nw1 _ (by omega)] at e; cases e
          · exact z q⟩) p v r
        exact ⟨[a, b], rfl, .cons (up ru) (.cons (up rw') .nil)⟩
  · simp only [List.mem_cons, List.not_mem_nil, or_false] at hb
    rcases hb with rfl | rfl | rfl | rfl | rfl | rfl | rfl
    · exact ⟨S.npriv ok (nw _ (by omega)), _, hz⟩
    · exact ⟨S.npriv ok (nw _ (by omega)), _, hTI⟩
    · exact ⟨S.npriv ok (nw _ (by omega)), _, hTO⟩
    · obtain ⟨o, e, _⟩ := hi1; exact ⟨S.npriv ok (nw _ (by omega)), o, e⟩
    · obtain ⟨o, e, _⟩ := hi2; exact ⟨S.npriv ok (nw _ (by omega)), o, e⟩
    · obtain ⟨c, e⟩ := hl1; exact ⟨(S.ext X).seq_npriv ok e ⟨_, _, rfl⟩ hz1, _, hk _ _ e⟩
    · obtain ⟨c, e⟩ := hl2; exact ⟨(S.ext X).seq_npriv ok e ⟨_, _, rfl⟩ hz2, _, hk _ _ e⟩
  · obtain ⟨a1, _, ⟨_, _, a3⟩, a4, a5, _⟩ := st
    simp only [List.mem_cons, List.not_mem_nil, or_false] at hb
    have nin : ∀ j : Nat, n ≤ j → j ≠ n + 3 → ¬ ins (n + 3) Z j := fun j h1 h2 q => q.elim h2 (nz j h1)
    rcases hb with rfl | rfl | rfl | rfl
    · exact ⟨_, a1, ⟨(by rintro ⟨_, _, q⟩; cases q), fun q => absurd q (nin _ (by omega) (by omega))⟩, (by intro w q; cases q)⟩
    · exact ⟨_, a3, ⟨fun _ => .inl rfl, fun _ => ⟨_, _, rfl⟩⟩, (by intro w q; cases q)⟩
    · obtain ⟨o, e, _, d⟩ := a4
      exact ⟨o, e, ⟨(by rintro ⟨_, _, q⟩; rw [d] at q; cases q), fun q => absurd q (nin _ (by omega) (by omega))⟩, (by intro w q; rw [d] at q; cases q)⟩
    · obtain ⟨o, e, _, d⟩ := a5
      exact ⟨o, e, ⟨(by rintro ⟨_, _, q⟩; rw [d] at q; cases q), fun q => absurd q (nin _ (by omega) (by omega))⟩, (by intro w q; rw [d] at q; cases q)⟩
  · refine wpAny_pyIter_zip (hn ▸ hz) ?_
    rw [hn]
    refine hQ _ _ (ins (n + 3) Z) (fun a z => .inr z) (fun a z => z.elim (fun q => .inr (q ▸ nw _ (by omega))) .inl) S1 ⟨_, _, X2, src, fun b hb => ?_, ⟨0, Nat.zero_le _, rfl, st0, fun b o _ _ e => e⟩, fun i s2 Q2 E2 hI hq => ?_⟩
    · have hb' : b = n + 4 ∨ b = n + 3 ∨ b = n ∨ b = n + 1 := by simpa using hb
      rcases hb' with rfl | rfl | rfl | rfl
      · exact ⟨nw _ (by omega), _, hz⟩
      · exact ⟨nw _ (by omega), _, hTO⟩
      · obtain ⟨o, e, _⟩ := hi1; exact ⟨nw _ (by omega), o, e⟩
      · obtain ⟨o, e, _⟩ := hi2; exact ⟨nw _ (by omega), o, e⟩
    · obtain ⟨j, _, _, st, _⟩ := hI
      exact wpAny_pyIter_zip st.1 hq
end
end Py

namespace Py

section
variable {prog : Program} {w : World} {A : Around} {R : Result → Shared → Prop}
/-- a list is lengthened by what a range's iterator hands out -/
theorem ext_loop (hh : A.handled = none) (I S : Addr) (hIS : S ≠ I) (a c : Int) (n : Nat) (res : Value) : ∀ (k i : Nat) (s : Shared) (vs : Array Value) (c0 : Nat), n - i = k → i ≤ n → IsRangeIter s.heap I (a + (i : Int) * c) ((n : Int) - (i : Int)) c →
    s.heap.get? S = some { cls := .type "list", data := .seq vs c0 } → vs.size + k ≤ 2 ^ 20 →
    (∀ s' ws c', (∀ b o, b ≠ S → b ≠ I → s.heap.get? b = some o → s'.heap.get? b = some o) → s'.heap.get? S = some { cls := .type "list", data := .seq (vs ++ ws) c' } → IntsAre ws.toList ((List.range' i k).map fun (j : Nat) => a + (j : Int) * c) → s'.gens = s.gens → s'.drawn = s.drawn → s'.os = s.os → R (.ok (.ret res)) s') →
    codeAny (model prog w) A (.builtin "list.extend.loop" ⟨[.ref S, .ref I, res], []⟩) R s := by
  have W := Walks.range (prog := prog) (w := w) (A := A.in1) hh I a c n
  intro k
  induction k with
  | zero =>
    intro i s vs c0 hk hi hit hS hsz hR
    have hin : i = n := by omega
    subst hin
    refine codeAny_builtin F.entry_extend_loop ?_
    rw [Around.under_plainId F.plain_extend_loop _]
    show wpAny _ A.in1 (pyNext (.ref I) >>= _) _ _ s
    refine wpAny_bind (W.done s _ _ hit fun h' tk hk => ?_)
    refine wpAny_pure (hR { s with heap := h', toks := tk } #[] c0 (fun b o h1 h2 e => hk b o (by simpa using h2) e) ?_ .nil rfl rfl rfl)
    rw [Array.append_empty]
    exact hk S _ (by simpa using hIS) hS
  | succ k ih =>
    intro i s vs c0 hk hi hit hS hsz hR
    have hlt : i < n := by omega
    refine codeAny_builtin F.entry_extend_loop ?_
    rw [Around.under_plainId F.plain_extend_loop _]
    show wpAny _ A.in1 (pyNext (.ref I) >>= _) _ _ s
    refine wpAny_bind (W.item i s _ _ hlt hit fun v h' tk hP hst' hkk => ?_)
    obtain ⟨t, rfl⟩ := hP
    have hS' : h'.get? S = some { cls := .type "list", data := .seq vs c0 } := hkk S _ (by simpa using hIS) hS
    show wpAny _ A.in1 (updateSeq S (·.push (.int (a + (i : Int) * c) t)) >>= _) _ _ _
    refine wpAny_bind ?_
    refine wpAny_updateSeq (s := { s with heap := h', toks := tk }) hS' rfl (wpAny_pure ⟨plainId_quiet F.plain_extend_loop _, ih (i + 1) _ (vs.push (.int (a + (i : Int) * c) t)) _ (by omega) hlt ?_ (Heap.get?_update_self _ hS' rfl) (by rw [Array.size_push]; omega) fun s'' ws c' hk2 hS2 hI e1 e2 e3 => ?_⟩)
      (by have : sizeLine = 2 ^ 24 := rfl; omega) (by show (vs.push _).size ≤ sizeLine + 1; rw [Array.size_push]; have : sizeLine = 2 ^ 24 := rfl; omega)
    · exact (Heap.get?_update_other _ _ hIS).trans hst'
    · refine hR s'' (#[.int (a + (i : Int) * c) t] ++ ws) c' (fun b o h1 h2 e => hk2 b o h1 h2 ((Heap.get?_update_other _ _ (Ne.symm h1)).trans (hkk b o (by simpa using h2) e))) ?_ ?_ e1 e2 e3
      · rw [← Array.append_assoc]
        have : vs ++ #[Value.int (a + (i : Int) * c) t] = vs.push (.int (a + (i : Int) * c) t) := by simp
        rw [this]; exact hS2
      · rw [List.range'_succ, List.map_cons, Array.toList_append]
        exact .cons _ _ hI

theorem ext_range {s : Shared} {r S : Addr} {a b c : Int} {t u v : Tok} {n : Nat} {vs : Array Value} {c0 : Nat} (hh : A.handled = none) (hr : IsRange s.heap r a b c t u v) (hsmall : Builtin.Range.small a b c = true)
    (hn : Builtin.Range.rangeSize a b c = n) (hlen : vs.size + n + 1 ≤ 2 ^ 20) (res : Value) (hS : s.heap.get? S = some { cls := .type "list", data := .seq vs c0 })
    (hR : ∀ s' ws c', (∀ b o, b ≠ S → s.heap.get? b = some o → s'.heap.get? b = some o) → s'.heap.get? S = some { cls := .type "list", data := .seq (vs ++ ws) c' } → IntsAre ws.toList ((List.range n).map fun (j : Nat) => a + (j : Int) * c) → s'.gens = s.gens → s'.drawn = s.drawn → s'.os = s.os → R (.ok (.ret res)) s') :
    wpAny (model prog w) A.in1 (Builtin.List.listExtendWith (.ref S) (.ref r) res)
      (fun fin s' => match fin with | .done f => R (.ok f) s' | .again c' => c'.quiet = true ∧ codeAny (model prog w) A c' R s') (fun e s' => R (.error e) s') s := by
  have hSr : S ≠ r := fun e => by rw [e, hr] at hS; simp at hS
  have hSI : S ≠ s.heap.objs.size := Nat.ne_of_lt (Heap.lt_size hS)
  have key : ∀ (h : Heap) (c₁ tk : Nat), IsRangeIter h s.heap.objs.size a n c → (∀ b o, b ≠ S → s.heap.get? b = some o → h.get? b = some o) → h.get? S = some { cls := .type "list", data := .seq vs c₁ } →
      codeAny (model prog w) A (.builtin "list.extend.loop" ⟨[.ref S, .ref s.heap.objs.size, res], []⟩) R { s with heap := h, toks := tk } := by
    intro h c₁ tk hit hk hS₁
    refine ext_loop hh s.heap.objs.size S hSI a c n res n 0 _ vs c₁ (Nat.sub_zero n) (Nat.zero_le _) (by simpa using hit) hS₁ (by omega) fun s' ws c' k1 k2 k3 e1 e2 e3 => ?_
    refine hR s' ws c' (fun b o hb e => k1 b o hb (Nat.ne_of_lt (Heap.lt_size e)) (hk b o hb e)) k2 (by rw [List.range_eq_range']; exact k3) e1 e2 e3
  unfold Builtin.List.listExtendWith
  refine wpAny_bind (wpAny_typeOf (T := "range") ⟨_, hr, rfl⟩ ?_)
  have h1 : Builtin.List.listSameRef (.ref S) (.ref r) = false := by simp [Builtin.List.listSameRef, hSr]
  have h2 : (Value.type "range" == Value.type "list") = false := by decide
  have h3 : (Value.type "range" == Value.type "tuple") = false := by decide
  simp only [h1, h2, h3, Bool.or_false, Bool.false_eq_true, if_false]
  refine wpAny_bind (wpAny_pyIter_range hr hsmall ?_)
  refine wpAny_bind (wpAny_holding (wpAny_hint_range (n := n) (Heap.get?_push_of_some _ hr) hn (by omega) ?_))
  have it1 : IsRangeIter (s.heap.push { cls := .type "range_iterator", data := .fields #[rawInt a, rawInt (Builtin.Range.rangeSize a b c), rawInt c] }) s.heap.objs.size a n c := by
    show IsRangeIter _ _ _ _ _
    rw [hn]
    exact Heap.get?_push_size _ rfl
  have s1 := Heap.get?_push_of_some { cls := .type "range_iterator", data := .fields #[rawInt a, rawInt (Builtin.Range.rangeSize a b c), rawInt c] } hS
  refine wpAny_ite_split (fun _ => ?_) (fun _ => wpAny_pure ⟨plainId_quiet F.plain_extend_loop _, key _ c0 _ it1 (fun b o _ e => Heap.get?_push_of_some _ e) s1⟩)
  refine wpAny_bind (wpAny_rule (wpAny_bind ?_))
  show wpAny _ _ (updateSeq S (·.push .none) >>= fun _ => updateSeq S (·.pop)) _ _ _
  refine wpAny_bind (wpAny_updateSeq s1 rfl ?_ (by have : sizeLine = 2 ^ 24 := rfl; omega) (by show (vs.push _).size ≤ sizeLine + 1; rw [Array.size_push]; have : sizeLine = 2 ^ 24 := rfl; omega))
  have s2 := Heap.get?_update_self (Obj.mapSeq (·.push Value.none)) s1 rfl
  refine wpAny_updateSeq s2 rfl ?_ (by rw [Array.size_push]; have : sizeLine = 2 ^ 24 := rfl; omega) (by rw [Array.pop_push]; have : sizeLine = 2 ^ 24 := rfl; omega)
  have s3 := Heap.get?_update_self (Obj.mapSeq (·.pop)) s2 rfl
  rw [show Obj.mapSeq (·.pop) (Obj.mapSeq (·.push Value.none) { cls := .type "list", data := .seq vs c0 }) = { cls := .type "list", data := .seq ((vs.push .none).pop) _ } from rfl, Array.pop_push] at s3
  refine wpAny_pure ⟨plainId_quiet F.plain_extend_loop _, key _ _ _ ?_ (fun b o hb e => ?_) s3⟩
  · exact (Heap.get?_update_other _ _ hSI).trans ((Heap.get?_update_other _ _ hSI).trans it1)
  · exact (Heap.get?_update_other _ _ (Ne.symm hb)).trans ((Heap.get?_update_other _ _ (Ne.symm hb)).trans (Heap.get?_push_of_some _ e))
end
end Py

namespace Py

-- texts as lists of codes
theorem cps_append (a b : Str) : (a ++ b).cps.toList = a.cps.toList ++ b.cps.toList := by
  show (a.cps ++ b.cps).toList = _
  simp
theorem cps_len (x : Str) : x.length = x.cps.toList.length := by simp [Str.length]
theorem cps_mul_fold (c : Array Nat) : ∀ (n : Nat) (acc : Array Nat), ((List.replicate n c).foldl (· ++ ·) acc).toList = acc.toList ++ (List.replicate n c.toList).flatten
  | 0, acc => by simp
  | n + 1, acc => by
    rw [List.replicate_succ, List.foldl_cons, cps_mul_fold c n, List.replicate_succ, List.flatten_cons]
    simp
theorem cps_mul (x : Str) (n : Int) : (Txt.mul x n).cps.toList = (List.replicate n.toNat x.cps.toList).flatten := by
  unfold Txt.mul
  split
  · rename_i h
    rw [show n.toNat = 0 by omega]; rfl
  · rename_i h
    split
    · rename_i h2
      rw [Bool.or_eq_true] at h2
      rcases h2 with h2 | h2
      · have : n = 1 := by simpa using h2
        subst this
        simp
      · have : x.cps.toList = [] := by
          have : x.length = 0 := by simpa using h2
          rw [cps_len] at this
          exact List.length_eq_zero_iff.mp this
        rw [this]; simp
    · rw [cps_mul_fold]; simp
theorem cps_mul_one {x : Str} {c : Nat} (h : x.cps.toList = [c]) (n : Int) : (Txt.mul x n).cps.toList = List.replicate n.toNat c := by
  rw [cps_mul, h]
  generalize n.toNat = k
  induction k with
  | zero => rfl
  | succ k ih => rw [List.replicate_succ, List.flatten_cons, ih, List.replicate_succ]; rfl
theorem cps_join0 : ∀ (ys : List Str), (Txt.join "" ys).cps.toList = ys.flatMap fun y => y.cps.toList := by
  have go : ∀ (ys : List Str) (acc : Array Nat), (ys.foldl (fun acc p => acc ++ ("" : Str).cps ++ p.cps) acc).toList = acc.toList ++ ys.flatMap fun y => y.cps.toList := by
    intro ys
    induction ys with
    | nil => intro acc; simp
    | cons y r ih =>
      intro acc
      rw [List.foldl_cons, ih, List.flatMap_cons]
      have : ("" : Str).cps = #[] := by decide
      rw [this]; simp
  intro ys
  unfold Txt.join Builtin.Str.glued
  cases ys with
  | nil => rfl
  | cons y r =>
    show (r.foldl _ y.cps).toList = _
    rw [go, List.flatMap_cons]

theorem range_filterMap (l : Array Nat) (a n : Nat) : ((List.range n).map fun (k : Nat) => a + k).filterMap (l[·]?) = (l.toList.drop a).take n := by
  induction n generalizing a with
  | zero => simp
  | succ n ih =>
    rw [List.range_succ_eq_map, List.map_cons, List.map_map]
    have e : ((List.range n).map ((fun (k : Nat) => a + k) ∘ Nat.succ)) = (List.range n).map fun (k : Nat) => (a + 1) + k := by
      refine List.map_congr_left fun k _ => ?_
      show a + (k + 1) = a + 1 + k
      omega
    rw [e, List.filterMap_cons, ih (a + 1), Nat.add_zero]
    cases h : l[a]? with
    | none =>
      have : l.size ≤ a := by simpa using h
      rw [List.drop_eq_nil_of_le (i := a + 1) (by simp; omega), List.drop_eq_nil_of_le (i := a) (by simpa using this)]
      simp
    | some v =>
      obtain ⟨h1, h2⟩ := Array.getElem?_eq_some_iff.mp h
      rw [List.drop_eq_getElem_cons (i := a) (by simpa using h1), List.take_succ_cons]
      congr 1
      simpa using h2.symm

/-- a cut from i on, of n signs -/
theorem slice_core (x : Str) (l u : Option Int) (i n : Nat) (h : Builtin.Str.strSliceIndices l u 1 x.length = (List.range n).map fun (k : Nat) => i + k) (hi : i ≤ x.length) (hn : i + n ≤ x.length) : (Txt.slice x l u).cps.toList = (x.cps.toList.drop i).take n := by
  unfold Txt.slice
  rw [h]
  split
  · rename_i hc
    have hlen : n = x.length := by
      have := (Bool.and_eq_true_iff.mp hc).2
      simpa using this
    have hi0 : i = 0 := by omega
    subst hi0
    rw [List.drop_zero, hlen, cps_len, List.take_length]
  · simp only [List.toList_toArray]
    exact range_filterMap _ _ _
theorem clip1 {i n : Nat} (h : i ≤ n) : max (0 : Int) (min (i : Int) (n : Int)) = i := by
  rw [Int.min_eq_left (Int.ofNat_le.mpr h), Int.max_eq_right (Int.natCast_nonneg i)]
theorem cnt1 {i j : Nat} (h : i ≤ j) : (if (i : Int) < (j : Int) then ((j : Int) - i + 1 - 1) / 1 else 0).toNat = j - i := by
  rw [Int.ediv_one, Int.add_sub_cancel]
  by_cases q : i < j
  · rw [if_pos (Int.ofNat_lt.mpr q)]; exact Int.toNat_sub j i
  · rw [if_neg (fun z => q (Int.ofNat_lt.mp z)), Nat.sub_eq_zero_of_le (Nat.le_of_not_lt q)]; rfl
theorem idx1 (i k : Nat) : ((i : Int) + 1 * (k : Int)).toNat = i + k := by
  rw [Int.one_mul, ← Int.natCast_add]; exact Int.toNat_natCast _
theorem neg1 (i : Nat) : ¬ ((i : Int) < 0) := Int.not_lt.mpr (Int.natCast_nonneg i)
theorem slice_two {x : Str} {i j : Nat} (hij : i ≤ j) (hj : j ≤ x.length) : (Txt.slice x (some (i : Int)) (some (j : Int))).cps.toList = (x.cps.toList.drop i).take (j - i) := by
  refine slice_core x _ _ i (j - i) ?_ (by omega) (by omega)
  unfold Builtin.Str.strSliceIndices sliceRange
  simp only [neg1 i, neg1 j, show (1 : Int) > 0 by decide, if_true, if_false]
  rw [clip1 (Nat.le_trans hij hj), clip1 hj, cnt1 hij]
  exact List.map_congr_left fun k _ => idx1 i k
theorem slice_from {x : Str} {i : Nat} (hi : i ≤ x.length) : (Txt.slice x (some (i : Int)) none).cps.toList = x.cps.toList.drop i := by
  have := slice_core x (some (i : Int)) none i (x.length - i) ?_ hi (by omega)
  · rw [this, List.take_of_length_le]
    rw [List.length_drop, ← cps_len]
    exact Nat.le_refl _
  unfold Builtin.Str.strSliceIndices sliceRange
  simp only [neg1 i, show (1 : Int) > 0 by decide, if_true, if_false]
  rw [clip1 hi, cnt1 hi]
  exact List.map_congr_left fun k _ => idx1 i k

-- brackets and shields
inductive Tk where | op | cl | s1 | s2 | s3
noncomputable def Tk.enc : Tk → List Nat
  | .op => [40]
  | .cl => [41]
  | .s1 => [92, 41]
  | .s2 => [34, 40, 34]
  | .s3 => [34, 92, 34, 41, 34]
noncomputable def encs (ts : List Tk) : List Nat := ts.flatMap Tk.enc
noncomputable def Tk.plain : Tk → Bool
  | .s2 => false
  | .s3 => false
  | _ => true
noncomputable def balT : List Tk → Int → Bool
  | [], o => o == 0
  | .op :: r, o => balT r (o + 1)
  | .cl :: r, o => if o - 1 < 0 then false else balT r (o - 1)
  | _ :: r, o => balT r o
theorem balT_filter : ∀ (ts : List Tk) (o : Int), balT (ts.filter Tk.plain) o = balT ts o
  | [], _ => rfl
  | .op :: r, o => balT_filter r (o + 1)
  | .cl :: r, o => by
    show (if o - 1 < 0 then false else balT (r.filter Tk.plain) (o - 1)) = if o - 1 < 0 then false else balT r (o - 1)
    rw [balT_filter r]
  | .s1 :: r, o => balT_filter r o
  | .s2 :: r, o => balT_filter r o
  | .s3 :: r, o => balT_filter r o
theorem paren_tok : ∀ (ts : List Tk) (k : Nat) (o : Int), (∀ t ∈ ts, t.plain = true) → parenGo (escT k false (encs ts)) o = balT ts o
  | [], _, _, _ => rfl
  | .op :: r, k, o, h => paren_tok r (k + 1) (o + 1) fun t ht => h t (.tail _ ht)
  | .cl :: r, k, o, h => by
    show (if o - 1 < 0 then false else parenGo (escT (k + 1) false (encs r)) (o - 1)) = if o - 1 < 0 then false else balT r (o - 1)
    rw [paren_tok r (k + 1) (o - 1) fun t ht => h t (.tail _ ht)]
  | .s1 :: r, k, o, h => paren_tok r (k + 2) o fun t ht => h t (.tail _ ht)
  | .s2 :: r, k, o, h => by have := h _ (.head _); cases this
  | .s3 :: r, k, o, h => by have := h _ (.head _); cases this

noncomputable def outOf (res : List Str) : List Nat := res.flatMap fun y => y.cps.toList
theorem outOf_app (a b : List Str) : outOf (a ++ b) = outOf a ++ outOf b := by unfold outOf; rw [List.flatMap_append]
theorem outOf_one (a : Str) : outOf [a] = a.cps.toList := by unfold outOf; simp
theorem strip_cut {x : Str} {res : List Str} {st k : Nat} {pre rest : List Nat} (hx : x.cps.toList = pre ++ rest) (hk : pre.length = k) (hst : st ≤ k) :
    outOf (if ((st : Int) != (k : Int)) = true then res ++ [Txt.slice x (some (st : Int)) (some (k : Int))] else res) = outOf res ++ pre.drop st := by
  split
  · rw [outOf_app, outOf_one, slice_two hst (by rw [cps_len, hx, List.length_append]; omega), hx, List.drop_append_of_le_length (by omega), List.take_append_of_le_length (by rw [List.length_drop]; omega), List.take_of_length_le (by rw [List.length_drop]; omega)]
  · rename_i h
    have : st = k := by
      have : (st : Int) = k := by simpa using h
      omega
    rw [List.drop_eq_nil_of_le (by omega), List.append_nil]
theorem strip_tok (x : Str) : ∀ (ts : List Tk) (pre : List Nat) (st : Nat) (res : List Str), x.cps.toList = pre ++ encs ts → st ≤ pre.length →
    outOf (stripRes x (stripGo x (escT pre.length false (encs ts)) (st : Int) none res)) = outOf res ++ pre.drop st ++ encs (ts.filter Tk.plain)
  | [], pre, st, res, hx, hst => by
    have hx' : x.cps.toList = pre := by rw [hx]; simp [encs]
    show outOf (if (st : Int) < (x.length : Int) then res ++ [Txt.slice x (some (st : Int)) none] else res) = _
    have hl : x.length = pre.length := by rw [cps_len, hx']
    split
    · rw [outOf_app, outOf_one, slice_from (by omega), hx']
      simp [encs]
    · rw [List.drop_eq_nil_of_le (by omega)]
      simp [encs]
  | .op :: r, pre, st, res, hx, hst => by
    have := strip_tok x r (pre ++ [40]) st res (by rw [hx]; simp [encs, Tk.enc]) (by simp; omega)
    rw [List.drop_append_of_le_length hst] at this
    rw [List.length_append] at this
    show outOf (stripRes x (stripGo x (escT (pre.length + 1) false (encs r)) st none res)) = outOf res ++ pre.drop st ++ ([40] ++ encs (r.filter Tk.plain))
    rw [← List.append_assoc, List.append_assoc (outOf res)]
    exact this
  | .cl :: r, pre, st, res, hx, hst => by
    have := strip_tok x r (pre ++ [41]) st res (by rw [hx]; simp [encs, Tk.enc]) (by simp; omega)
    rw [List.drop_append_of_le_length hst] at this
    rw [List.length_append] at this
    show outOf (stripRes x (stripGo x (escT (pre.length + 1) false (encs r)) st none res)) = outOf res ++ pre.drop st ++ ([41] ++ encs (r.filter Tk.plain))
    rw [← List.append_assoc, List.append_assoc (outOf res)]
    exact this
  | .s1 :: r, pre, st, res, hx, hst => by
    have := strip_tok x r (pre ++ [92, 41]) st res (by rw [hx]; simp [encs, Tk.enc]) (by simp; omega)
    rw [List.drop_append_of_le_length hst] at this
    rw [List.length_append] at this
    show outOf (stripRes x (stripGo x (escT (pre.length + 2) false (encs r)) st none res)) = outOf res ++ pre.drop st ++ ([92, 41] ++ encs (r.filter Tk.plain))
    rw [← List.append_assoc, List.append_assoc (outOf res)]
    exact this
  | .s2 :: r, pre, st, res, hx, hst => by
    have := strip_tok x r (pre ++ [34, 40, 34]) (pre.length + 3) (if ((st : Int) != (pre.length : Int)) = true then res ++ [Txt.slice x (some (st : Int)) (some (pre.length : Int))] else res) (by rw [hx]; simp [encs, Tk.enc]) (by simp)
    rw [strip_cut hx rfl hst, List.drop_eq_nil_of_le (as := pre ++ _) (by simp), List.append_nil, List.length_append] at this
    show outOf (stripRes x (stripGo x (escT (pre.length + 3) false (encs r)) (((pre.length + 2 : Nat) : Int) + 1) none _)) = outOf res ++ pre.drop st ++ encs (r.filter Tk.plain)
    exact this
  | .s3 :: r, pre, st, res, hx, hst => by
    have := strip_tok x r (pre ++ [34, 92, 34, 41, 34]) (pre.length + 5) (if ((st : Int) != (pre.length : Int)) = true then res ++ [Txt.slice x (some (st : Int)) (some (pre.length : Int))] else res) (by rw [hx]; simp [encs, Tk.enc]) (by simp)
    rw [strip_cut hx rfl hst, List.drop_eq_nil_of_le (as := pre ++ _) (by simp), List.append_nil, List.length_append] at this
    show outOf (stripRes x (stripGo x (escT (pre.length + 5) false (encs r)) (((pre.length + 4 : Nat) : Int) + 1) none _)) = outOf res ++ pre.drop st ++ encs (r.filter Tk.plain)
    exact this
theorem strip_enc {x : Str} {ts : List Tk} (hx : x.cps.toList = encs ts) : (strip x).cps.toList = encs (ts.filter Tk.plain) := by
  unfold strip
  have hc : Txt.contains x "\"" = decide (34 ∈ x.cps.toList) := StrLaws.found_one x 34
  split
  · rename_i h
    rw [hc] at h
    have h34 : 34 ∉ encs ts := by rw [← hx]; simpa using h
    have : ts.filter Tk.plain = ts := by
      refine List.filter_eq_self.mpr fun t ht => ?_
      cases t with
      | s2 => exact absurd (List.mem_flatMap.mpr ⟨_, ht, .head _⟩) h34
      | s3 => exact absurd (List.mem_flatMap.mpr ⟨_, ht, .head _⟩) h34
      | _ => rfl
    rw [this]; exact hx
  · rw [cps_join0, hx]
    have := strip_tok x ts [] 0 [] (by rw [hx]; rfl) (Nat.le_refl _)
    simpa [outOf] using this
/-- shields do not count -/
theorem parens_enc {x : Str} {ts : List Tk} (hx : x.cps.toList = encs ts) : parens x = balT ts 0 := by
  unfold parens
  rw [strip_enc hx, paren_tok _ _ _ fun t ht => (List.mem_filter.mp ht).2, balT_filter]
end Py

set_option maxRecDepth 100000
set_option maxHeartbeats 8000000
namespace Py
open_top hd for PySem.Challenge.rw_wf0022_02
end Py

set_option maxRecDepth 100000
set_option maxHeartbeats 8000000
namespace Py

structure Gd (C : Cx) (P : Params) (mg mb : Str → Option Value) : Prop where
  hW : C.W = WW (hd.heap_39 P) mg mb
  hB : ∀ x : Str, x ≠ "__name__" → mb x = bootBuiltins x

section
variable {C : Cx} {P : Params} {mg mb : Str → Option Value}

theorem Gd.mono (G : Gd C P mg mb) : ∀ h h', C.W h → Kp h h' → C.W h' := by rw [G.hW]; exact fun h h' x k => WW.mono h h' x k
theorem Gd.lim (G : Gd C P mg mb) : ∀ h, C.W h → h.NoLimit := by rw [G.hW]; exact fun h x => x.lim
theorem Gd.obj (G : Gd C P mg mb) {a : Addr} {o : Obj} (e : (hd.heap_39 P).lookup a = some o) : ∀ h, C.W h → h.get? a = some o := by rw [G.hW]; exact fun h x => x.inn _ _ e
theorem Gd.code (G : Gd C P mg mb) {cd : Value} {q : Str} (e : codeIn (hd.heap_39 P) cd q = true) : ∀ h, C.W h → h.CodeRec cd q := by rw [G.hW]; exact fun h x => codeRec_of x.inn e


-- names
theorem ns_range : nsIn (hd.heap_39 P) mainGlobals "range" = some none := by kernel_rfl
theorem bt_range : bootBuiltins "range" = some (.type "range") := by kernel_rfl
theorem g_range {C : Cx} (hW : C.W = WW (hd.heap_39 P) mg mb) (hB : ∀ x : Str, x ≠ "__name__" → mb x = bootBuiltins x) (hk : C.env.scope.kind = .function := by rfl) (hx : C.env.kindOf "range" = some .globalImplicit := by rfl) (hg : C.env.globals = mainGlobals := by rfl) (hb : C.env.builtins = builtinsNs := by rfl) : GV C "range" (.type "range") := gv_B hW hB ns_range bt_range (by decide) hk hx hg hb (by decide)
theorem ns_enumerate : nsIn (hd.heap_39 P) mainGlobals "enumerate" = some none := by kernel_rfl
theorem bt_enumerate : bootBuiltins "enumerate" = some (.type "enumerate") := by kernel_rfl
theorem g_enumerate {C : Cx} (hW : C.W = WW (hd.heap_39 P) mg mb) (hB : ∀ x : Str, x ≠ "__name__" → mb x = bootBuiltins x) (hk : C.env.scope.kind = .function := by rfl) (hx : C.env.kindOf "enumerate" = some .globalImplicit := by rfl) (hg : C.env.globals = mainGlobals := by rfl) (hb : C.env.builtins = builtinsNs := by rfl) : GV C "enumerate" (.type "enumerate") := gv_B hW hB ns_enumerate bt_enumerate (by decide) hk hx hg hb (by decide)
theorem ns_zip : nsIn (hd.heap_39 P) mainGlobals "zip" = some none := by kernel_rfl
theorem bt_zip : bootBuiltins "zip" = some (.type "zip") := by kernel_rfl
theorem g_zip {C : Cx} (hW : C.W = WW (hd.heap_39 P) mg mb) (hB : ∀ x : Str, x ≠ "__name__" → mb x = bootBuiltins x) (hk : C.env.scope.kind = .function := by rfl) (hx : C.env.kindOf "zip" = some .globalImplicit := by rfl) (hg : C.env.globals = mainGlobals := by rfl) (hb : C.env.builtins = builtinsNs := by rfl) : GV C "zip" (.type "zip") := gv_B hW hB ns_zip bt_zip (by decide) hk hx hg hb (by decide)
theorem ns_len : nsIn (hd.heap_39 P) mainGlobals "len" = some none := by kernel_rfl
theorem bt_len : bootBuiltins "len" = some (.builtin "len") := by kernel_rfl
theorem g_len {C : Cx} (hW : C.W = WW (hd.heap_39 P) mg mb) (hB : ∀ x : Str, x ≠ "__name__" → mb x = bootBuiltins x) (hk : C.env.scope.kind = .function := by rfl) (hx : C.env.kindOf "len" = some .globalImplicit := by rfl) (hg : C.env.globals = mainGlobals := by rfl) (hb : C.env.builtins = builtinsNs := by rfl) : GV C "len" (.builtin "len") := gv_B hW hB ns_len bt_len (by decide) hk hx hg hb (by decide)
theorem ns_hex : nsIn (hd.heap_39 P) mainGlobals "hex" = some none := by kernel_rfl
theorem bt_hex : bootBuiltins "hex" = some (.builtin "hex") := by kernel_rfl
theorem g_hex {C : Cx} (hW : C.W = WW (hd.heap_39 P) mg mb) (hB : ∀ x : Str, x ≠ "__name__" → mb x = bootBuiltins x) (hk : C.env.scope.kind = .function := by rfl) (hx : C.env.kindOf "hex" = some .globalImplicit := by rfl) (hg : C.env.globals = mainGlobals := by rfl) (hb : C.env.builtins = builtinsNs := by rfl) : GV C "hex" (.builtin "hex") := gv_B hW hB ns_hex bt_hex (by decide) hk hx hg hb (by decide)
theorem ns_sorted : nsIn (hd.heap_39 P) mainGlobals "sorted" = some none := by kernel_rfl
theorem bt_sorted : bootBuiltins "sorted" = some (.builtin "sorted") := by kernel_rfl
theorem g_sorted {C : Cx} (hW : C.W = WW (hd.heap_39 P) mg mb) (hB : ∀ x : Str, x ≠ "__name__" → mb x = bootBuiltins x) (hk : C.env.scope.kind = .function := by rfl) (hx : C.env.kindOf "sorted" = some .globalImplicit := by rfl) (hg : C.env.globals = mainGlobals := by rfl) (hb : C.env.builtins = builtinsNs := by rfl) : GV C "sorted" (.builtin "sorted") := gv_B hW hB ns_sorted bt_sorted (by decide) hk hx hg hb (by decide)
theorem ns_sum : nsIn (hd.heap_39 P) mainGlobals "sum" = some none := by kernel_rfl
theorem bt_sum : bootBuiltins "sum" = some (.builtin "sum") := by kernel_rfl
theorem g_sum {C : Cx} (hW : C.W = WW (hd.heap_39 P) mg mb) (hB : ∀ x : Str, x ≠ "__name__" → mb x = bootBuiltins x) (hk : C.env.scope.kind = .function := by rfl) (hx : C.env.kindOf "sum" = some .globalImplicit := by rfl) (hg : C.env.globals = mainGlobals := by rfl) (hb : C.env.builtins = builtinsNs := by rfl) : GV C "sum" (.builtin "sum") := gv_B hW hB ns_sum bt_sum (by decide) hk hx hg hb (by decide)
theorem ns_max : nsIn (hd.heap_39 P) mainGlobals "max" = some none := by kernel_rfl
theorem bt_max : bootBuiltins "max" = some (.builtin "max") := by kernel_rfl
theorem g_max {C : Cx} (hW : C.W = WW (hd.heap_39 P) mg mb) (hB : ∀ x : Str, x ≠ "__name__" → mb x = bootBuiltins x) (hk : C.env.scope.kind = .function := by rfl) (hx : C.env.kindOf "max" = some .globalImplicit := by rfl) (hg : C.env.globals = mainGlobals := by rfl) (hb : C.env.builtins = builtinsNs := by rfl) : GV C "max" (.builtin "max") := gv_B hW hB ns_max bt_max (by decide) hk hx hg hb (by decide)
theorem ns_grouping_intervals : nsIn (hd.heap_39 P) mainGlobals "_grouping_intervals" = some (some (.ref 21)) := by kernel_rfl
theorem g_grouping_intervals {C : Cx} (hW : C.W = WW (hd.heap_39 P) mg mb) (hk : C.env.scope.kind = .function := by rfl) (hx : C.env.kindOf "_grouping_intervals" = some .globalImplicit := by rfl) (hg : C.env.globals = mainGlobals := by rfl) : GV C "_grouping_intervals" (.ref 21) := gv_K hW ns_grouping_intervals hk hx hg (by decide)
theorem nspretty_flags : nsIn (hd.heap_39 P) mainGlobals "pretty_flags" = some (some (.ref 29)) := by kernel_rfl
theorem gpretty_flags {C : Cx} (hW : C.W = WW (hd.heap_39 P) mg mb) (hk : C.env.scope.kind = .function := by rfl) (hx : C.env.kindOf "pretty_flags" = some .globalImplicit := by rfl) (hg : C.env.globals = mainGlobals := by rfl) : GV C "pretty_flags" (.ref 29) := gv_K hW nspretty_flags hk hx hg (by decide)
theorem ns_iter_escaped_chars : nsIn (hd.heap_39 P) mainGlobals "_iter_escaped_chars" = some (some (.ref 36)) := by kernel_rfl
theorem g_iter_escaped_chars {C : Cx} (hW : C.W = WW (hd.heap_39 P) mg mb) (hk : C.env.scope.kind = .function := by rfl) (hx : C.env.kindOf "_iter_escaped_chars" = some .globalImplicit := by rfl) (hg : C.env.globals = mainGlobals := by rfl) : GV C "_iter_escaped_chars" (.ref 36) := gv_K hW ns_iter_escaped_chars hk hx hg (by decide)
theorem ns_strip_quoted_realnames : nsIn (hd.heap_39 P) mainGlobals "_strip_quoted_realnames" = some (some (.ref 43)) := by kernel_rfl
theorem g_strip_quoted_realnames {C : Cx} (hW : C.W = WW (hd.heap_39 P) mg mb) (hk : C.env.scope.kind = .function := by rfl) (hx : C.env.kindOf "_strip_quoted_realnames" = some .globalImplicit := by rfl) (hg : C.env.globals = mainGlobals := by rfl) : GV C "_strip_quoted_realnames" (.ref 43) := gv_K hW ns_strip_quoted_realnames hk hx hg (by decide)
theorem ns_check_parenthesis : nsIn (hd.heap_39 P) mainGlobals "_check_parenthesis" = some (some (.ref 50)) := by kernel_rfl
theorem g_check_parenthesis {C : Cx} (hW : C.W = WW (hd.heap_39 P) mg mb) (hk : C.env.scope.kind = .function := by rfl) (hx : C.env.kindOf "_check_parenthesis" = some .globalImplicit := by rfl) (hg : C.env.globals = mainGlobals := by rfl) : GV C "_check_parenthesis" (.ref 50) := gv_K hW ns_check_parenthesis hk hx hg (by decide)
theorem ns_pre_parse_validation : nsIn (hd.heap_39 P) mainGlobals "_pre_parse_validation" = some (some (.ref 57)) := by kernel_rfl
theorem g_pre_parse_validation {C : Cx} (hW : C.W = WW (hd.heap_39 P) mg mb) (hk : C.env.scope.kind = .function := by rfl) (hx : C.env.kindOf "_pre_parse_validation" = some .globalImplicit := by rfl) (hg : C.env.globals = mainGlobals := by rfl) : GV C "_pre_parse_validation" (.ref 57) := gv_K hW ns_pre_parse_validation hk hx hg (by decide)
theorem ns_law_cells : nsIn (hd.heap_39 P) mainGlobals "_law_cells" = some (some (.ref 64)) := by kernel_rfl
theorem g_law_cells {C : Cx} (hW : C.W = WW (hd.heap_39 P) mg mb) (hk : C.env.scope.kind = .function := by rfl) (hx : C.env.kindOf "_law_cells" = some .globalImplicit := by rfl) (hg : C.env.globals = mainGlobals := by rfl) : GV C "_law_cells" (.ref 64) := gv_K hW ns_law_cells hk hx hg (by decide)
theorem ns_law_firsts : nsIn (hd.heap_39 P) mainGlobals "_law_firsts" = some (some (.ref 69)) := by kernel_rfl
theorem g_law_firsts {C : Cx} (hW : C.W = WW (hd.heap_39 P) mg mb) (hk : C.env.scope.kind = .function := by rfl) (hx : C.env.kindOf "_law_firsts" = some .globalImplicit := by rfl) (hg : C.env.globals = mainGlobals := by rfl) : GV C "_law_firsts" (.ref 69) := gv_K hW ns_law_firsts hk hx hg (by decide)
theorem ns_law_gaps : nsIn (hd.heap_39 P) mainGlobals "_law_gaps" = some (some (.ref 76)) := by kernel_rfl
theorem g_law_gaps {C : Cx} (hW : C.W = WW (hd.heap_39 P) mg mb) (hk : C.env.scope.kind = .function := by rfl) (hx : C.env.kindOf "_law_gaps" = some .globalImplicit := by rfl) (hg : C.env.globals = mainGlobals := by rfl) : GV C "_law_gaps" (.ref 76) := gv_K hW ns_law_gaps hk hx hg (by decide)
theorem ns_law_sizes : nsIn (hd.heap_39 P) mainGlobals "_law_sizes" = some (some (.ref 83)) := by kernel_rfl
theorem g_law_sizes {C : Cx} (hW : C.W = WW (hd.heap_39 P) mg mb) (hk : C.env.scope.kind = .function := by rfl) (hx : C.env.kindOf "_law_sizes" = some .globalImplicit := by rfl) (hg : C.env.globals = mainGlobals := by rfl) : GV C "_law_sizes" (.ref 83) := gv_K hW ns_law_sizes hk hx hg (by decide)
theorem ns_law_marks : nsIn (hd.heap_39 P) mainGlobals "_law_marks" = some (some (.ref 90)) := by kernel_rfl
theorem g_law_marks {C : Cx} (hW : C.W = WW (hd.heap_39 P) mg mb) (hk : C.env.scope.kind = .function := by rfl) (hx : C.env.kindOf "_law_marks" = some .globalImplicit := by rfl) (hg : C.env.globals = mainGlobals := by rfl) : GV C "_law_marks" (.ref 90) := gv_K hW ns_law_marks hk hx hg (by decide)
theorem ns_law_parts : nsIn (hd.heap_39 P) mainGlobals "_law_parts" = some (some (.ref 95)) := by kernel_rfl
theorem g_law_parts {C : Cx} (hW : C.W = WW (hd.heap_39 P) mg mb) (hk : C.env.scope.kind = .function := by rfl) (hx : C.env.kindOf "_law_parts" = some .globalImplicit := by rfl) (hg : C.env.globals = mainGlobals := by rfl) : GV C "_law_parts" (.ref 95) := gv_K hW ns_law_parts hk hx hg (by decide)
theorem ns_law_words : nsIn (hd.heap_39 P) mainGlobals "_law_words" = some (some (.ref 100)) := by kernel_rfl
theorem g_law_words {C : Cx} (hW : C.W = WW (hd.heap_39 P) mg mb) (hk : C.env.scope.kind = .function := by rfl) (hx : C.env.kindOf "_law_words" = some .globalImplicit := by rfl) (hg : C.env.globals = mainGlobals := by rfl) : GV C "_law_words" (.ref 100) := gv_K hW ns_law_words hk hx hg (by decide)
theorem ns_law_signs : nsIn (hd.heap_39 P) mainGlobals "_law_signs" = some (some (.ref 107)) := by kernel_rfl
theorem g_law_signs {C : Cx} (hW : C.W = WW (hd.heap_39 P) mg mb) (hk : C.env.scope.kind = .function := by rfl) (hx : C.env.kindOf "_law_signs" = some .globalImplicit := by rfl) (hg : C.env.globals = mainGlobals := by rfl) : GV C "_law_signs" (.ref 107) := gv_K hW ns_law_signs hk hx hg (by decide)
theorem ns_law_text : nsIn (hd.heap_39 P) mainGlobals "_law_text" = some (some (.ref 114)) := by kernel_rfl
theorem g_law_text {C : Cx} (hW : C.W = WW (hd.heap_39 P) mg mb) (hk : C.env.scope.kind = .function := by rfl) (hx : C.env.kindOf "_law_text" = some .globalImplicit := by rfl) (hg : C.env.globals = mainGlobals := by rfl) : GV C "_law_text" (.ref 114) := gv_K hW ns_law_text hk hx hg (by decide)
theorem ns_law_broken : nsIn (hd.heap_39 P) mainGlobals "_law_broken" = some (some (.ref 121)) := by kernel_rfl
theorem g_law_broken {C : Cx} (hW : C.W = WW (hd.heap_39 P) mg mb) (hk : C.env.scope.kind = .function := by rfl) (hx : C.env.kindOf "_law_broken" = some .globalImplicit := by rfl) (hg : C.env.globals = mainGlobals := by rfl) : GV C "_law_broken" (.ref 121) := gv_K hW ns_law_broken hk hx hg (by decide)

end
end Py

set_option maxRecDepth 100000
set_option maxHeartbeats 8000000
namespace Py
section
variable {C : Cx} {P : Params} {mg mb : Str → Option Value} {A : Around} {Z : Addr → Prop} {σ : List LV}

inductive I21 (x : Str) (items : List PV) (ps : List PV) (n : Nat) (σ : List LV) : Prop
  | mk (cs : List Nat) (k : Nat) (e : Bool) (pre : List PV) (z : Int) (l : LV) (hp : ps = enumL k (chs cs)) (hn : n = (escL k e cs).length) (hi : items = pre ++ escL k e cs) (hz : e = true → z = (k : Int) - 1) (hl : ScalL l) (hs : σ = [.v (.str x), .v (.int z), .v (.bool e), l]) : I21 x items ps n σ
theorem it21 {t : Expr} {p pos : Pos} {es : List Expr} {x : Str} (G : Gd C P mg mb) (ok : C.Ok) (hA : OkA 2 A) (hn : GV C "_iter_escaped_chars" (.ref 36)) (ha : EvL C A Z σ es [.str x]) :
    IterE C A Z σ t (.Call (.Name "_iter_escaped_chars" p) es [] pos) true (escL 0 false x.cps.toList) := by
  generalize hit : escL 0 false x.cps.toList = items
  rw [← yv_list items]
  refine gen_iter (pn := ["addr"]) (locs := ["pos", "escape", "ch"]) (b := 0) (hclo := ?a1) (hco := ?a2) (hgen := ?a3) ok hA hn (G.obj (show List.lookup 36 (hd.heap_39 P) = some _ from rfl)) rfl rfl (G.code ?a4) ?a5 ?a8 ?a6 rfl ha ?a7
  case a1 => rfl
  case a2 => rfl
  case a3 => rfl
  case a4 => kernel_rfl
  case a5 => kernel_rfl
  case a8 => kernel_rfl
  case a6 => exact len1 fun _ => rfl
  case a7 =>
    intro hb L h0 B0 s hB0 gok fr0
    have ok' := gok.ok
    refine gen_run gok hB0 fr0 rfl ?_
    refine sw_plain gok (fun _ _ => trivial) (live_ok gok) fun A' hA' => w1_assign ok' A1 ev_int ⟨rfl, ?_⟩
    refine sw_plain gok (fun _ _ => trivial) (live_ok gok) fun A' hA' => w1_assign ok' A2 ev_bool ⟨rfl, ?_⟩
    refine sw_for gok (iterG_enum_str gok (g_enumerate G.hW G.hB) fun A' hA' => .cons (ev_name ok' A0 rfl) .nil) ?_
    refine WG.inv (fun ps n σ => I21 x items ps n σ) ?_ ?_ _ _ _ ⟨x.cps.toList, 0, false, [], 0, _, rfl, by rw [hit], by rw [hit]; rfl, (fun h => by cases h), .inl rfl, rfl⟩
    · rintro n σ ⟨cs, k, e, pre, z, l, hp, rfl, hi, hz, hl, rfl⟩
      cases cs with
      | cons => cases hp
      | nil =>
        refine sw_if (bb := e) (fun A' hA' => tst_val ok' hA' (ev_name ok' A2 rfl) tr_bool) (jt_ok (hb := hb)).toJFr ?_ gok
        cases e with
        | false => exact sw_nil (fun _ h => h) (sw_nil (fun _ h => h) ⟨.inl rfl, rfl, rfl⟩)
        | true =>
          have hz := hz rfl
          subst hz
          refine sw_yield gok jt_ok (fun A' hA' => ev_tuple ok' hA' (.cons (ev_name ok' A1 rfl) (.cons ev_str .nil)) (show 2 ≤ sizeLine by decide)) (.inr ⟨rfl, _, rfl, ?_⟩) (yv_head hi) (scal4 (scalV trivial) (scalV trivial) (scalV trivial) hl) fun _ => ?_
          · intro p hp
            simp only [List.mem_cons, List.not_mem_nil, or_false] at hp
            rcases hp with rfl | rfl <;> exact trivial
          · exact sw_nil (fun _ h => h) (sw_nil (fun _ h => h) ⟨.inl rfl, rfl, rfl⟩)
    · rintro p ps n σ ⟨cs, k, e, pre, z, l, hp, rfl, hi, hz, hl, rfl⟩
      cases cs with
      | nil => cases hp
      | cons c cs =>
        cases hp
        refine ⟨_, .pair A1 A3, fun J hJ => ?_⟩
        have sc2 : ∀ (a b : PV), Scal a → Scal b → Scals [a, b] := fun a b ha hb p hp => by
          simp only [List.mem_cons, List.not_mem_nil, or_false] at hp
          rcases hp with rfl | rfl
          · exact ha
          · exact hb
        have hcat : ("\\" : Str).length + (⟨#[c]⟩ : Str).length ≤ sizeLine := by
          rw [show ("\\" : Str).length = 1 by decide]
          exact (show 1 + 1 ≤ sizeLine by decide)
        refine sw_if (bb := e) (fun A' hA' => tst_val ok' hA' (ev_name ok' A2 rfl) tr_bool) hJ.toJFr ?_ gok
        cases e with
        | true =>
          have e1 : escL k true (c :: cs) = .tup [.int (k : Nat), .str ("\\" ++ ⟨#[c]⟩)] :: escL (k + 1) false cs := rfl
          rw [e1] at hi ⊢
          rw [if_pos rfl]
          refine sw_yield gok hJ (fun A' hA' => ev_tuple ok' hA' (.cons (ev_name ok' A1 rfl) (.cons (ev_bin ok' hA' ev_str (ev_name ok' A3 rfl) (op_cat hcat)) .nil)) (show 2 ≤ sizeLine by decide)) (.inr ⟨rfl, _, rfl, sc2 _ _ trivial trivial⟩) (by simpa using yv_head hi) (scal4 (scalV trivial) (scalV trivial) (scalV trivial) (scalV trivial)) fun _ => ?_
          refine sw_plain gok (fun _ h => h) hJ.toJFr fun A' hA' => w1_assign ok' A2 ev_bool ⟨rfl, ?_⟩
          refine sw_nil (fun _ h => h) (sw_nil (fun _ h => h) ⟨cs, k + 1, false, pre ++ [_], _, _, rfl, rfl, by rw [hi]; exact List.append_cons pre _ _, (fun h => by cases h), scalV (p := .str ⟨#[c]⟩) trivial, rfl⟩)
        | false =>
          rw [if_neg (by decide)]
          refine sw_if (bb := (⟨#[c]⟩ : Str) == "\\") (fun A' hA' => tst_cmp ok' hA' (ev_name ok' A3 rfl) ev_str op_eqs) hJ.toJFr ?_ gok
          have e1 : escL k false (c :: cs) = if (⟨#[c]⟩ : Str) == "\\" then escL (k + 1) true cs else .tup [.int (k : Nat), .str ⟨#[c]⟩] :: escL (k + 1) false cs := rfl
          rw [e1] at hi ⊢
          cases eq : ((⟨#[c]⟩ : Str) == "\\") with
          | true =>
            rw [eq, if_pos rfl] at hi
            rw [if_pos rfl, if_pos rfl]
            refine sw_plain gok (fun _ h => h) hJ.toJFr fun A' hA' => w1_assign ok' A2 ev_bool ⟨rfl, ?_⟩
            exact sw_nil (fun _ h => h) (sw_nil (fun _ h => h) (sw_nil (fun _ h => h) ⟨cs, k + 1, true, pre, _, _, rfl, rfl, hi, fun _ => by simp, scalV (p := .str ⟨#[c]⟩) trivial, rfl⟩))
          | false =>
            rw [eq, if_neg (by decide)] at hi
            rw [if_neg (by decide), if_neg (by decide)]
            refine sw_yield gok hJ (fun A' hA' => ev_tuple ok' hA' (.cons (ev_name ok' A1 rfl) (.cons (ev_name ok' A3 rfl) .nil)) (show 2 ≤ sizeLine by decide)) (.inr ⟨rfl, _, rfl, sc2 _ _ trivial trivial⟩) (by simpa using yv_head hi) (scal4 (scalV trivial) (scalV trivial) (scalV trivial) (scalV trivial)) fun _ => ?_
            exact sw_nil (fun _ h => h) (sw_nil (fun _ h => h) (sw_nil (fun _ h => h) ⟨cs, k + 1, false, pre ++ [_], _, _, rfl, rfl, by rw [hi]; exact List.append_cons pre _ _, (fun h => by cases h), scalV (p := .str ⟨#[c]⟩) trivial, rfl⟩))
end
end Py

set_option maxRecDepth 100000
set_option maxHeartbeats 8000000
namespace Py
section
variable {C : Cx} {P : Params} {mg mb : Str → Option Value}

noncomputable def openLV : Option Int → LV
  | none => .v .none
  | some q => .v (.int q)

inductive I28 (x : Str) (fin : Int × List Str) (a : Addr) (ps : List PV) (σ : List LV) : Prop
  | mk (its : List (Int × Str)) (st : Int) (op : Option Int) (res : List Str) (l4 l5 : LV) (hp : ps = its.map tupIS) (hr : stripGo x its st op res = fin) (hs : σ = [.v (.str x), .v (.int st), openLV op, .own a (res.map .str), l4, l5])
    (hl : res.length + its.length ≤ x.cps.toList.length + 1) (hy : ∀ y ∈ res, y.length ≤ x.length) : I28 x fin a ps σ
theorem le_a {r i n : Nat} (h : r + i + 1 ≤ n) : r + i ≤ n := Nat.le_of_succ_le h
theorem le_b {r i n : Nat} (h : r + i + 1 ≤ n) : r + 1 + i ≤ n := by omega
theorem le_c {r i n x : Nat} (h : r + i + 1 ≤ n + 1) (e : n = x) (hx : x ≤ 2 ^ 10) : r ≤ 2 ^ 10 + 1 := by omega
theorem le_d {r x : Nat} (h : r ≤ x + 1) (hx : x ≤ 2 ^ 10) : r ≤ 2 ^ 10 + 1 := by omega
theorem le_e {r x : Nat} (h : r ≤ x + 1) (hx : x ≤ 2 ^ 10) : r + 1 ≤ 2 ^ 10 + 2 := by omega
theorem sum_le {n : Nat} : ∀ ws : List Str, (∀ y ∈ ws, y.length ≤ n) → (ws.map (·.length)).sum ≤ ws.length * n := by
  intro ws
  induction ws with
  | nil => intro _; simp
  | cons y r ih =>
    intro h
    have := ih fun z hz => h z (.tail _ hz)
    have := h y (.head _)
    simp only [List.map_cons, List.sum_cons, List.length_cons, Nat.add_mul, Nat.one_mul]
    omega
theorem join_le {n : Nat} (hx : n ≤ 2 ^ 10) {ws : List Str} (h1 : ws.length ≤ 2 ^ 10 + 2) (h2 : ∀ y ∈ ws, y.length ≤ n) : (ws.map (·.length)).sum + ws.length * ("" : Str).length ≤ 16777216 := by
  have h4 := sum_le ws h2
  have h5 : ("" : Str).length = 0 := by decide
  have h6 : ws.length * n ≤ (2 ^ 10 + 2) * 2 ^ 10 := Nat.mul_le_mul h1 hx
  rw [h5, Nat.mul_zero, Nat.add_zero]
  exact Nat.le_trans (Nat.le_trans h4 h6) (by decide)

theorem f28 (G : Gd C P mg mb) {x : Str} (hx : x.length ≤ 2 ^ 10) : OpN C (3 + 1) (fun vs => call (.ref 43) vs) [.str x] .n (.str (strip x)) := by
  refine fn_call (pn := ["addr"]) (locs := ["start", "open_pos", "result", "pos", "ch"]) (hclo := ?a1) (hco := ?a2) (hgen := ?a3) G.mono G.lim (G.obj (show List.lookup 43 (hd.heap_39 P) = some _ from rfl)) rfl rfl (G.code ?a4) ?a5 ?a6 rfl ?a7
  case a1 => rfl
  case a2 => rfl
  case a3 => rfl
  case a4 => kernel_rfl
  case a5 => kernel_rfl
  case a6 => exact len1 fun _ => rfl
  case a7 =>
    intro h A hA ok
    have hxs : x.length ≤ sizeLine := Nat.le_trans hx (by decide)
    refine ws_cons (w1_if (b := !Txt.contains x "\"") (tst_cmp ok hA ev_str (ev_name ok A0 rfl) op_hasnt) ?_)
    unfold strip
    cases hc : (!Txt.contains x "\"") with
    | true =>
      rw [if_pos rfl]
      exact ws_cons (w1_rets (ev_name ok A0 rfl) (.inl rfl))
    | false =>
      rw [if_neg (by decide), if_neg (by decide)]
      refine ws_nil ?_
      refine ws_cons (w1_assign ok A1 ev_int ?_)
      refine ws_cons (w1_assign ok A2 ev_none ?_)
      refine ws_cons (w1_assign_own (xs := []) ok A3 (ev_list0 ok hA) (fun _ h => by cases h) fun a => ?_)
      refine ws_cons (w1_forE ok hA.h (it21 (C := fnCx C _ h 43 _) (P := P) (mg := mg) (mb := mb) ⟨G.hW, G.hB⟩ ok (hA.le (by decide)) (g_iter_escaped_chars G.hW) (.cons (ev_name ok A0 rfl) .nil)) ?_)
      obtain ⟨fin, hfin⟩ : ∃ r, r = stripGo x (escT 0 false x.cps.toList) 0 none [] := ⟨_, rfl⟩
      have hcnt := escT_len x.cps.toList 0 false
      refine WLE.inv (fun ps _ σ => I28 x fin a ps σ) ?_ ?_ _ _ _ ⟨escT 0 false x.cps.toList, 0, none, [], _, _, escL_eq _ _ _, hfin.symm, rfl, by simpa using hcnt, fun _ h => by cases h⟩
      · rintro Z σ ⟨its, st, op, res, l4, l5, hp, hr, rfl, hl, hy⟩
        have : its = [] := by simpa using hp.symm
        subst this
        refine ⟨rfl, ws_nil ?_⟩
        have hfin2 : fin = (st, res) := hr.symm
        rw [← hfin, hfin2]
        have hxc : x.cps.toList.length = x.length := by simp [Str.length]
        have hlr : res.length ≤ x.length + 1 := by rw [List.length_nil, Nat.add_zero, hxc] at hl; exact hl
        refine ws_cons (w1_if (b := decide (st < (x.length : Int))) (tst_cmp ok hA (ev_name ok A1 rfl) (ev_call ok hA (g_len G.hW G.hB) (.inl ⟨_, rfl⟩) (.cons (ev_name ok A0 rfl) .nil) (fn_lens hxs)) op_lt) ?_)
        unfold stripRes
        by_cases hlt : st < (x.length : Int)
        · rw [if_pos hlt, if_pos (by simpa using hlt)]
          refine ws_cons (w1_append ok A3 rfl (ev_slice_str (hi := none) (ev_name ok A0 rfl) (evP (ev_name ok A1 rfl)) trivial hxs) ?_ (by rw [List.length_map]; exact Nat.le_trans (le_d hlr hx) (by decide)))
          have e : res.map PV.str ++ [PV.str (Txt.slice x (some st) none)] = (res ++ [Txt.slice x (some st) none]).map .str := by simp
          refine ws_nil (ws_cons (w1_rets (ev_meth ok hA ev_str (.inr ⟨_, rfl, rfl⟩) meth_join (.cons (ev_own ok A3 (by rw [e]; rfl)) .nil) (fn_join (join_le hx (by rw [List.length_append, List.length_singleton]; exact le_e hlr hx) fun y hy' => ?_))) (.inl rfl)))
          rcases List.mem_append.mp hy' with q | q
          · exact hy y q
          · rw [List.mem_singleton.mp q]; exact Txt.slice_le x _ _
        · rw [if_neg hlt, if_neg (by simpa using hlt)]
          exact ws_nil (ws_cons (w1_rets (ev_meth ok hA ev_str (.inr ⟨_, rfl, rfl⟩) meth_join (.cons (ev_own ok A3 rfl) .nil) (fn_join (join_le hx (Nat.le_succ_of_le (le_d hlr hx)) hy))) (.inl rfl)))
      · rintro p ps Z σ ⟨its, st, op, res, l4, l5, hp, hr, rfl, hl, hy⟩
        cases its with
        | nil => cases hp
        | cons it its =>
          obtain ⟨q, c⟩ := it
          cases hp
          refine ⟨_, .pair A4 A5, ?_⟩
          have hl' : res.length + its.length + 1 ≤ x.cps.toList.length + 1 := by simpa [Nat.add_assoc] using hl
          have hxc : x.cps.toList.length = x.length := by simp [Str.length]
          refine ws_cons (w1_if (b := c == "\"") (tst_cmp ok hA (ev_name ok A5 rfl) ev_str op_eqs) ?_)
          unfold stripGo at hr
          cases ec : (c == ("\"" : Str)) with
          | false =>
            rw [ec, if_neg (by decide)] at hr
            rw [if_neg (by decide)]
            exact ws_nil (ws_nil ⟨its, st, op, res, _, _, rfl, hr, rfl, le_a hl', hy⟩)
          | true =>
            rw [ec, if_pos rfl] at hr
            rw [if_pos rfl]
            cases op with
            | none =>
              refine ws_cons (w1_if (b := true) (tst_cmp ok hA (ev_name ok A2 rfl) ev_none op_is_none_none) ?_)
              rw [if_pos rfl]
              refine ws_cons (w1_assign ok A2 (ev_name ok A4 rfl) ?_)
              exact ws_nil (ws_nil (ws_nil ⟨its, st, some q, res, _, _, rfl, hr, rfl, le_a hl', hy⟩))
            | some o =>
              refine ws_cons (w1_if (b := false) (tst_cmp ok hA (ev_name ok A2 rfl) ev_none op_is_int_none) ?_)
              rw [if_neg (by decide)]
              refine ws_cons (w1_if (b := st != o) (tst_cmp ok hA (ev_name ok A1 rfl) (ev_name ok A2 rfl) op_ne) ?_)
              dsimp only at hr
              cases es : (st != o) with
              | false =>
                rw [es, if_neg (by decide)] at hr
                rw [if_neg (by decide)]
                refine ws_nil (ws_cons (w1_assign ok A1 (ev_bin ok hA (ev_name ok A4 rfl) ev_int op_add) ?_))
                refine ws_cons (w1_assign ok A2 ev_none ?_)
                exact ws_nil (ws_nil (ws_nil ⟨its, q + 1, none, res, _, _, rfl, hr, rfl, le_a hl', hy⟩))
              | true =>
                rw [es, if_pos rfl] at hr
                rw [if_pos rfl]
                refine ws_cons (w1_append ok A3 rfl (ev_slice_str (ev_name ok A0 rfl) (evP (ev_name ok A1 rfl)) (evP (ev_name ok A2 rfl)) hxs) ?_ (by rw [List.length_map]; exact Nat.le_trans (le_c hl' hxc hx) (by decide)))
                have e : res.map PV.str ++ [PV.str (Txt.slice x (some st) (some o))] = (res ++ [Txt.slice x (some st) (some o)]).map .str := by simp
                refine ws_nil (ws_cons (w1_assign ok A1 (ev_bin ok hA (ev_name ok A4 rfl) ev_int op_add) ?_))
                refine ws_cons (w1_assign ok A2 ev_none ?_)
                refine ws_nil (ws_nil (ws_nil ⟨its, q + 1, none, res ++ [Txt.slice x (some st) (some o)], _, _, rfl, hr, by rw [e]; rfl, by rw [List.length_append, List.length_singleton]; exact le_b hl', fun y hy' => ?_⟩))
                rcases List.mem_append.mp hy' with q' | q'
                · exact hy y q'
                · rw [List.mem_singleton.mp q']; exact Txt.slice_le x _ _

inductive I35 (x : Str) (ps : List PV) (σ : List LV) : Prop
  | mk (its : List (Int × Str)) (o : Int) (l2 l3 : LV) (hp : ps = its.map tupIS) (hr : parenGo its o = parens x) (hs : σ = [.v (.str (strip x)), .v (.int o), l2, l3]) : I35 x ps σ
theorem f35 (G : Gd C P mg mb) {x : Str} (hx : x.length ≤ 2 ^ 10) : OpN C (4 + 1) (fun vs => call (.ref 50) vs) [.str x] .n (.bool (parens x)) := by
  refine fn_call (pn := ["addr"]) (locs := ["opens", "pos", "ch"]) (hclo := ?a1) (hco := ?a2) (hgen := ?a3) G.mono G.lim (G.obj (show List.lookup 50 (hd.heap_39 P) = some _ from rfl)) rfl rfl (G.code ?a4) ?a5 ?a6 rfl ?a7
  case a1 => rfl
  case a2 => rfl
  case a3 => rfl
  case a4 => kernel_rfl
  case a5 => kernel_rfl
  case a6 => exact len1 fun _ => rfl
  case a7 =>
    intro h A hA ok
    refine ws_cons (w1_assign ok A0 (Ev.toF (ev_call ok hA (g_strip_quoted_realnames G.hW) (.inr (.inr ⟨_, _, _, rfl, rfl, G.obj (show List.lookup 43 (hd.heap_39 P) = some _ from rfl)⟩)) (.cons (ev_name ok A0 rfl) .nil) (f28 (C := fnCx C _ h 50 _) ⟨G.hW, G.hB⟩ hx))) ?_)
    refine ws_cons (w1_assign ok A1 ev_int ?_)
    refine ws_cons (w1_forE ok hA.h (it21 (C := fnCx C _ h 50 _) (P := P) (mg := mg) (mb := mb) ⟨G.hW, G.hB⟩ ok (hA.le (by decide)) (g_iter_escaped_chars G.hW) (.cons (ev_name ok A0 rfl) .nil)) ?_)
    refine WLE.inv (fun ps _ σ => I35 x ps σ) ?_ ?_ _ _ _ ⟨escT 0 false (strip x).cps.toList, 0, _, _, escL_eq _ _ _, rfl, rfl⟩
    · rintro Z σ ⟨its, o, l2, l3, hp, hr, rfl⟩
      have : its = [] := by simpa using hp.symm
      subst this
      refine ⟨rfl, ws_nil (ws_cons (w1_retb (ev_cmp ok hA (ev_name ok A1 rfl) ev_int op_eq) (.inl ?_)))⟩
      rw [← hr]; rfl
    · rintro p ps Z σ ⟨its, o, l2, l3, hp, hr, rfl⟩
      cases its with
      | nil => cases hp
      | cons it its =>
        obtain ⟨q, c⟩ := it
        cases hp
        refine ⟨_, .pair A2 A3, ?_⟩
        unfold parenGo at hr
        refine ws_cons (w1_if (b := c == "(") (tst_cmp ok hA (ev_name ok A3 rfl) ev_str op_eqs) ?_)
        cases e1 : (c == ("(" : Str)) with
        | true =>
          rw [e1, if_pos rfl] at hr
          rw [if_pos rfl]
          refine ws_cons (w1_aug ok hA A1 rfl ev_int op_iadd ?_)
          exact ws_nil (ws_nil ⟨its, o + 1, _, _, rfl, hr, rfl⟩)
        | false =>
          rw [e1, if_neg (by decide)] at hr
          rw [if_neg (by decide)]
          refine ws_cons (w1_if (b := c == ")") (tst_cmp ok hA (ev_name ok A3 rfl) ev_str op_eqs) ?_)
          cases e2 : (c == (")" : Str)) with
          | false =>
            rw [e2, if_neg (by decide)] at hr
            rw [if_neg (by decide)]
            exact ws_nil (ws_nil (ws_nil ⟨its, o, _, _, rfl, hr, rfl⟩))
          | true =>
            rw [e2, if_pos rfl] at hr
            rw [if_pos rfl]
            refine ws_cons (w1_aug ok hA A1 rfl ev_int op_isub ?_)
            refine ws_cons (w1_if (b := decide (o - 1 < 0)) (tst_cmp ok hA (ev_name ok A1 rfl) ev_int op_lt) ?_)
            by_cases h0 : o - 1 < 0
            · rw [if_pos h0] at hr
              rw [if_pos (by simpa using h0)]
              exact ws_cons (w1_retb ev_bool (.inl (by rw [← hr])))
            · rw [if_neg h0] at hr
              rw [if_neg (by simpa using h0)]
              exact ws_nil (ws_nil (ws_nil (ws_nil ⟨its, o - 1, _, _, rfl, hr, rfl⟩)))

inductive I42 (xs : List Str) (a : Addr) (ps : List PV) (σ : List LV) : Prop
  | mk (ys acc : List Str) (l2 : LV) (hp : ps = ys.map PV.str) (hr : acc ++ validate ys = validate xs) (hy : ∀ y ∈ ys, y.length ≤ 2 ^ 10) (hl : acc.length + ys.length ≤ 2 ^ 10) (hs : σ = [.v (LS xs), .own a (acc.map .str), l2]) : I42 xs a ps σ
theorem f42 (G : Gd C P mg mb) {xs : List Str} (hx : ∀ x ∈ xs, x.length ≤ 2 ^ 10) (hl : xs.length ≤ 2 ^ 10) : OpN C (5 + 1) (fun vs => call (.ref 57) vs) [LS xs] .n (LS (validate xs)) := by
  refine fn_call (pn := ["email_header_fields"]) (locs := ["accepted_values", "v"]) (hclo := ?a1) (hco := ?a2) (hgen := ?a3) G.mono G.lim (G.obj (show List.lookup 57 (hd.heap_39 P) = some _ from rfl)) rfl rfl (G.code ?a4) ?a5 ?a6 rfl ?a7
  case a1 => rfl
  case a2 => rfl
  case a3 => rfl
  case a4 => kernel_rfl
  case a5 => kernel_rfl
  case a6 => exact len1 fun _ => rfl
  case a7 =>
    intro h A hA ok
    refine ws_cons (w1_assign_own (xs := []) ok A1 (ev_list0 ok hA) (fun _ h => by cases h) fun a => ?_)
    refine ws_cons (w1_fors ok hA.h (iter_list ok hA.h (ev_name ok A0 rfl) (fun q => by cases q)) ?_)
    refine WLs.inv (fun ps _ σ => I42 xs a ps σ) ?_ ?_ _ _ _ ⟨xs, [], _, rfl, rfl, hx, by simpa using hl, rfl⟩
    · rintro Z σ ⟨ys, acc, l2, hp, hr, hy, hlen, rfl⟩
      have : ys = [] := by simpa using hp.symm
      subst this
      refine ws_nil (ws_cons (w1_ret_own ok A1 rfl (scals_strs _) (.inl ?_)))
      rw [← hr]; simp [validate]
    · rintro p ps Z σ ⟨ys, acc, l2, hp, hr, hy, hlen, rfl⟩
      cases ys with
      | nil => cases hp
      | cons y ys =>
        cases hp
        refine ⟨_, .name A2, ?_⟩
        have hacc : (acc.map PV.str).length ≤ sizeLine := by rw [List.length_map]; exact Nat.le_trans (show acc.length ≤ 2 ^ 10 by simp at hlen; omega) (by decide)
        refine ws_cons (w1_if (b := !parens y) (tst_not (tst_val ok hA (ev_call ok hA (g_check_parenthesis G.hW) (.inr (.inr ⟨_, _, _, rfl, rfl, G.obj (show List.lookup 50 (hd.heap_39 P) = some _ from rfl)⟩)) (.cons (ev_name ok A2 rfl) .nil) (f35 (C := fnCx C _ h 57 _) ⟨G.hW, G.hB⟩ (hy y (.head _)))) tr_bool)) ?_)
        have ev : validate (y :: ys) = (if parens y then y else "('', '')") :: validate ys := rfl
        rw [ev] at hr
        cases e : parens y with
        | true =>
          rw [e, if_pos rfl] at hr
          rw [if_neg (by decide)]
          refine ws_nil (ws_cons (w1_append ok A1 rfl (ev_name ok A2 rfl) ?_ hacc))
          exact ws_nil ⟨ys, acc ++ [y], _, rfl, by rw [← hr]; simp, fun z hz => hy z (.tail _ hz), by simp at hlen ⊢; omega, by rw [List.map_append]; rfl⟩
        | false =>
          rw [e, if_neg (by decide)] at hr
          rw [if_pos (by decide)]
          refine ws_cons (w1_assign ok A2 ev_str ?_)
          refine ws_nil (ws_cons (w1_append ok A1 rfl (ev_name ok A2 rfl) ?_ hacc))
          exact ws_nil ⟨ys, acc ++ [("('', '')" : Str)], _, rfl, by rw [← hr]; simp, fun z hz => hy z (.tail _ hz), by simp at hlen ⊢; omega, by rw [List.map_append]; rfl⟩
end
end Py

set_option maxRecDepth 100000
set_option maxHeartbeats 8000000
namespace Py

section
variable {C : Cx} {A : Around} {Z : Addr → Prop} {σ : List LV} {P : Post}
theorem w1_ret0 {pos : Pos} (h : P (.ret .none) Z σ) : W1 C A Z σ (.Return none pos) P := fun s _ _ S hQ => wpAny_Return_none (hQ (.ret .none) _ _ _ s h S .refl (fun _ e => e) ⟨_, rfl, rfl⟩)
theorem ev_gint {x : Str} {i : Int} {t : Tok} {pos : Pos} (ok : C.Ok) (g : GV C x (.int i t)) : Ev C A Z σ (.Name x pos) .f (.int i) := fun s _ _ S h => g _ _ _ _ _ (ok.mono _ _ ok.w0 S.keep) (h _ _ (.refl s) ⟨t, rfl⟩)
end

section
variable {C : Cx} {P : Params} {mg mb : Str → Option Value} {A : Around} {Z : Addr → Prop} {σ : List LV}
theorem nsCHAR_MAX : nsIn (hd.heap_39 P) mainGlobals "CHAR_MAX" = some (some (.int 127 189)) := by kernel_rfl
theorem gCHAR_MAX {C : Cx} (hW : C.W = WW (hd.heap_39 P) mg mb) (hk : C.env.scope.kind = .function := by rfl) (hx : C.env.kindOf "CHAR_MAX" = some .globalImplicit := by rfl) (hg : C.env.globals = mainGlobals := by rfl) : GV C "CHAR_MAX" (.int 127 189) := gv_K hW nsCHAR_MAX hk hx hg (by decide)

noncomputable def groupGo : Int → List Int → List Int × Bool
  | _, [] => ([], true)
  | last, s :: r => if s == 127 then ([], true) else if s == 0 then (List.replicate 13 last, false) else (s :: (groupGo s r).1, (groupGo s r).2)
theorem scal3 {a b c : LV} (h1 : ScalL a) (h2 : ScalL b) (h3 : ScalL c) : ScalS [a, b, c] := by
  intro l hl
  simp only [List.mem_cons, List.not_mem_nil, or_false] at hl
  rcases hl with rfl | rfl | rfl
  · exact h1
  · exact h2
  · exact h3

inductive I57 (items : List PV) (ends : Bool) (ps : List PV) (n : Nat) (σ : List LV) : Prop
  | mk (ms : List Int) (last : Int) (pre : List PV) (lp : PV) (l : LV) (hp : ps = ms.map PV.int) (hn : n = (groupGo last ms).1.length) (hi : items = pre ++ (groupGo last ms).1.map .int) (he : (groupGo last ms).2 = ends) (hl : lp = .int last ∨ lp = .none ∧ ∀ s r, ms = s :: r → s ≠ 0) (hc : ScalL l) (hs : σ = [.unb, .v lp, l]) : I57 items ends ps n σ
theorem it57 {t : Expr} {p pos : Pos} {es : List Expr} {ns : List Int} (G : Gd C P mg mb) (ok : C.Ok) (hA : OkA 2 A) (hn : GV C "_grouping_intervals" (.ref 21)) (ha : EvL C A Z σ es [LI ns]) (hh : ∀ s r, ns = s :: r → s ≠ 0) :
    IterE C A Z σ t (.Call (.Name "_grouping_intervals" p) es [] pos) (groupGo 0 ns).2 ((groupGo 0 ns).1.map .int) := by
  generalize hit : (groupGo 0 ns).1.map PV.int = items
  generalize hen : (groupGo 0 ns).2 = ends
  rw [← yv_list items]
  refine gen_iter (pn := ["grouping"]) (locs := ["last_interval", "interval"]) (b := 0) (hclo := ?a1) (hco := ?a2) (hgen := ?a3) ok hA hn (G.obj (show List.lookup 21 (hd.heap_39 P) = some _ from rfl)) rfl rfl (G.code ?a4) ?a5 ?a8 ?a6 rfl ha ?a7
  case a1 => rfl
  case a2 => rfl
  case a3 => rfl
  case a4 => kernel_rfl
  case a5 => kernel_rfl
  case a8 => kernel_rfl
  case a6 => exact len1 fun _ => rfl
  case a7 =>
    intro hb L h0 B0 s hB0 gok fr0
    have ok' := gok.ok
    refine gen_list gok hB0 rfl rfl rfl (by decide) (by decide) fr0 ?_ fun s I l i v Q E hI h A' => letGo_listiter hI h
    refine WG.inv (fun ps n σ => I57 items ends ps n σ) ?_ ?_ _ _ _ ⟨ns, 0, [], .none, .unb, rfl, by rw [← hit, List.length_map], hit.symm, hen, .inr ⟨rfl, hh⟩, .inl rfl, rfl⟩
    · rintro n σ ⟨ms, last, pre, lp, l, hp, rfl, hi, he, hlp, hl, rfl⟩
      have : ms = [] := by simpa using hp.symm
      subst this
      exact sw_nil (fun _ h => h) ⟨.inl rfl, rfl, he.symm⟩
    · rintro p ps n σ ⟨ms, last, pre, lp, l, hp, rfl, hi, he, hlp, hl, rfl⟩
      cases ms with
      | nil => cases hp
      | cons m ms =>
        cases hp
        refine ⟨_, .name A2, fun J hJ => ?_⟩
        have slp : Scal lp := by rcases hlp with rfl | ⟨rfl, _⟩ <;> trivial
        refine sw_if (bb := m == 127) (fun A' hA' => tst_cmp ok' hA' (ev_name ok' A2 rfl) (ev_gint ok' (gCHAR_MAX G.hW)) op_eq) hJ.toJFr ?_ gok
        unfold groupGo at he hi
        cases e0 : (m == (127 : Int)) with
        | true =>
          rw [if_pos e0] at he hi
          rw [if_pos rfl]
          refine sw_plain gok (fun _ h => h) hJ.toJFr fun A' hA' => w1_ret0 ⟨rfl, rfl, ⟨.inr rfl, ?_, he.symm⟩⟩
          unfold groupGo
          rw [if_pos e0]
          rfl
        | false =>
          rw [if_neg (ne_true_of_eq_false e0)] at he hi
          rw [if_neg (by decide)]
          refine sw_nil (fun _ h => h) (sw_if (bb := m == 0) (fun A' hA' => tst_cmp ok' hA' (ev_name ok' A2 rfl) ev_int op_eq) hJ.toJFr ?_ gok)
          cases e1 : (m == (0 : Int)) with
          | true =>
            rw [if_pos e1] at he hi
            rw [if_pos rfl]
            have hlp : lp = .int last := by
              rcases hlp with q | ⟨_, q⟩
              · exact q
              · exact absurd (by simpa using e1) (q m ms rfl)
            subst hlp
            have en : (groupGo last (m :: ms)).1.length = 12 + 1 := by
              unfold groupGo
              rw [if_neg (ne_true_of_eq_false e0), if_pos e1]
              simp
            rw [en]
            refine sw_if (bb := false) (fun A' hA' => tst_cmp ok' hA' (ev_name ok' A1 rfl) ev_none op_is_int_none) hJ.toJFr ?_ gok
            rw [if_neg (by decide)]
            refine sw_nil (fun _ h => h) (sw_while hJ.toJFr (fun A' hA' => tst_val ok' hA' ev_bool tr_bool) fun k hk => ?_)
            refine sw_yield gok hJ (fun A' hA' => ev_name ok' A1 rfl) (.inl trivial) ?_ (scal3 (.inl rfl) (scalV trivial) (scalV trivial)) fun hl => ?_
            · have : items = (pre ++ List.replicate (12 - k) (.int last)) ++ .int last :: List.replicate k (.int last) := by
                rw [hi, List.append_assoc, List.map_replicate]
                congr 1
                rw [← List.replicate_succ, List.replicate_append_replicate, show 12 - k + (k + 1) = 13 by omega]
              have := yv_head this
              rwa [List.length_replicate] at this
            · refine sw_nil (fun _ h => h) ⟨rfl, ?_, rfl, rfl⟩
              rcases hl with q | q
              · exact q
              · rw [← he] at q; cases q
          | false =>
            rw [if_neg (ne_true_of_eq_false e1)] at he hi
            rw [if_neg (by decide)]
            have en : (groupGo last (m :: ms)).1.length = (groupGo m ms).1.length + 1 := by
              conv => lhs; unfold groupGo
              rw [if_neg (ne_true_of_eq_false e0), if_neg (ne_true_of_eq_false e1)]
              rfl
            rw [en]
            refine sw_nil (fun _ h => h) (sw_yield gok hJ (fun A' hA' => ev_name ok' A2 rfl) (.inl trivial) ?_ (scal3 (.inl rfl) (scalV slp) (scalV trivial)) fun _ => ?_)
            · have := yv_head hi
              rwa [List.length_map] at this
            · refine sw_plain gok (fun _ h => h) hJ.toJFr fun A' hA' => w1_assign ok' A1 (ev_name ok' A2 rfl) ⟨rfl, ?_⟩
              exact sw_nil (fun _ h => h) ⟨ms, m, pre ++ [.int m], .int m, .v (.int m), rfl, rfl, by rw [hi]; exact List.append_cons pre _ _, he, .inl rfl, scalV trivial, rfl⟩
end
end Py

set_option maxRecDepth 100000
set_option maxHeartbeats 8000000
namespace Py
section
variable {C : Cx} {P : Params} {mg mb : Str → Option Value}

theorem nsCOMPILER_FLAG_NAMES : nsIn (hd.heap_39 P) mainGlobals "COMPILER_FLAG_NAMES" = some (some (.ref 22)) := by kernel_rfl
noncomputable def dictE (P : Params) : Array DictEntry := match (hd.heap_39 P).lookup 22 with
  | some ⟨_, _, .dict es _, _⟩ => es
  | _ => #[]
theorem dict_obj : ∃ ep, (hd.heap_39 P).lookup 22 = some { cls := .type "dict", data := .dict (dictE P) ep } := ⟨_, rfl⟩
theorem dict_keys : (dictE P).toList.all keyOk = true := by kernel_rfl
noncomputable def dictAt (P : Params) (i : Nat) : Bool := match findBy Value.isInt (dictE P) ((2 ^ i : Nat) : Int), flagNames[i]? with
  | some (.str s _), some x => s == x
  | none, none => true
  | _, _ => false
theorem dict_all : (List.range 32).all (dictAt P) = true := by kernel_rfl
theorem dict_find {i : Nat} (h : i < 32) : (∃ t, findBy Value.isInt (dictE P) (1 * 2 ^ i) = some (.str (pfName i) t)) ∨ (findBy Value.isInt (dictE P) (1 * 2 ^ i) = none ∧ pfName i = baseText "0x" 16 (1 * 2 ^ i)) := by
  have := List.all_eq_true.mp (dict_all (P := P)) i (List.mem_range.mpr h)
  rw [pow_cast]
  unfold dictAt at this
  unfold pfName
  split at this
  · rename_i s t x e1 e2
    rw [e1, e2]
    left
    have : s = x := by simpa using this
    exact ⟨t, by rw [this]; rfl⟩
  · rename_i e1 e2
    rw [e1, e2]
    right
    exact ⟨rfl, rfl⟩
  · cases this

inductive I50 (res : List Str) (a : Addr) (ps : List PV) (σ : List LV) : Prop
  | mk (k m f' : Nat) (names : List Str) (l2 l3 : LV) (hp : ps = (List.range' k m).map (fun (i : Nat) => PV.int (0 + i))) (hk : k + m = 32) (hs : σ = [.v (.int ((f' : Nat) : Int)), .own a (names.map .str), l2, l3]) (hr : pfGo m k f' names = res) (hf : f' < 2 ^ 32) (hn : names.length ≤ k) (hx : ∀ x ∈ names, x.length ≤ 20) : I50 res a ps σ
theorem f50 (G : Gd C P mg mb) {f : Nat} (hf : f < 2 ^ 32) : OpN C (1 + 1) (fun vs => call (.ref 29) vs) [.int f] .n (.str (pfText f)) := by
  refine fn_call (pn := ["flags"]) (locs := ["names", "i", "flag"]) (hclo := ?a1) (hco := ?a2) (hgen := ?a3) G.mono G.lim (G.obj (show List.lookup 29 (hd.heap_39 P) = some _ from rfl)) rfl rfl (G.code ?a4) ?a5 ?a6 rfl ?a7
  case a1 => rfl
  case a2 => rfl
  case a3 => rfl
  case a4 => kernel_rfl
  case a5 => kernel_rfl
  case a6 => exact len1 fun _ => rfl
  case a7 =>
    intro h A hA ok
    obtain ⟨ep, hdo⟩ := dict_obj (P := P)
    refine ws_cons (w1_assign_own (xs := []) ok A1 (ev_list0 ok hA) (fun _ h => by cases h) fun a => ?_)
    refine ws_cons (w1_fors ok hA.h (iter_range1 (k := 32) ok hA.h (g_range G.hW G.hB) (.cons ev_int .nil) (by decide) (by decide)) ?_)
    obtain ⟨res, hres⟩ : ∃ r, r = pfGo 32 0 f [] := ⟨_, rfl⟩
    have hlen : ∀ names : List Str, names.length ≤ 33 → (∀ x ∈ names, x.length ≤ 20) → (names.map (·.length)).sum + names.length * (", " : Str).length ≤ 16777216 := by
      intro names h1 h2
      have h3 : ∀ ws : List Str, (∀ x ∈ ws, x.length ≤ 20) → (ws.map (·.length)).sum ≤ ws.length * 20 := by
        intro ws
        induction ws with
        | nil => intro _; simp
        | cons x r ih =>
          intro h
          have := ih fun y hy => h y (.tail _ hy)
          have := h x (.head _)
          simp only [List.map_cons, List.sum_cons, List.length_cons]
          omega
      have h4 := h3 names h2
      have h5 : (", " : Str).length = 2 := by decide
      rw [h5]
      omega
    refine WLs.inv (fun ps _ σ => I50 res a ps σ) ?_ ?_ _ _ _ ⟨0, 32, f, [], _, _, by unfold rangeP; rw [List.range_eq_range'], rfl, rfl, hres.symm, hf, Nat.le_refl _, fun _ h => by cases h⟩
    · rintro Z σ ⟨k, m, f', names, l2, l3, hp, hk, rfl, hr, hf', hn, hx⟩
      cases m with
      | succ m => simp [List.range'_succ] at hp
      | zero =>
        have hfit : (baseText "0x" 16 (f' : Int)).length ≤ 20 := Nat.le_trans (hex_le hf') (by decide)
        refine ws_cons (w1_append ok A1 rfl (ev_call ok hA (g_hex G.hW G.hB) (.inl ⟨_, rfl⟩) (.cons (ev_name ok A0 rfl) .nil) (fn_hex (Nat.le_trans hfit (by decide)))) ?_ (by rw [List.length_map]; exact Nat.le_trans hn (by rw [show k = 32 by omega]; decide)))
        have e : names.map PV.str ++ [PV.str (baseText "0x" 16 (f' : Int))] = (names ++ [baseText "0x" 16 (f' : Int)]).map .str := by simp
        refine ws_nil (ws_cons (w1_rets (ev_meth ok hA ev_str (.inr ⟨_, rfl, rfl⟩) meth_join (.cons (ev_own ok A1 (by rw [e]; rfl)) .nil) (fn_join (hlen _ (by simp; omega) fun x hx' => ?_))) (.inl ?_)))
        · rcases List.mem_append.mp hx' with q | q
          · exact hx x q
          · rw [List.mem_singleton.mp q]; exact hfit
        · unfold pfText
          rw [← hres, ← hr]; rfl
    · rintro p ps Z σ ⟨k, m, f', names, l2, l3, hp, hk, rfl, hr, hf', hn, hx⟩
      cases m with
      | zero => simp at hp
      | succ m =>
        rw [List.range'_succ, List.map_cons] at hp
        cases hp
        have hk32 : k < 32 := by omega
        have e2 : (1 : Int) * 2 ^ (0 + (k : Int)).toNat = 1 * 2 ^ k := by rw [show (0 + (k : Int)).toNat = k by omega]
        refine ⟨_, .name A2, ?_⟩
        refine ws_cons (w1_assign ok A3 (Ev.cast (ev_bin ok hA ev_int (ev_name ok A2 rfl) (op_shl (by omega) (by omega) (by decide))) (congrArg PV.int e2)) ?_)
        refine ws_cons (w1_if (b := f' &&& 2 ^ k != 0) (Tst.cast (tst_val ok hA (ev_bin ok hA (ev_name ok A0 rfl) (ev_name ok A3 rfl) op_and) tr_int) ?_) ?_)
        · rw [and_nat]
          cases e : (f' &&& 2 ^ k != 0) with
          | true => simp at e ⊢; omega
          | false => simp at e ⊢; omega
        · unfold pfGo at hr
          cases e : (f' &&& 2 ^ k != 0) with
          | false =>
            rw [e, if_neg (by decide)] at hr
            rw [if_neg (by decide)]
            exact ws_nil (ws_nil ⟨k + 1, m, f', names, _, _, rfl, by omega, rfl, hr, hf', by omega, hx⟩)
          | true =>
            rw [e, if_pos rfl] at hr
            rw [if_pos rfl]
            have hname : (pfName k).length ≤ 20 := pfName_le hk32
            have hf2 : f' ^^^ 2 ^ k < 2 ^ 32 := Nat.xor_lt_two_pow hf' (Nat.pow_lt_pow_right (by decide) hk32)
            have hfit : (baseText "0x" 16 (1 * 2 ^ k)).length ≤ sizeLine := by
              rw [pow_cast]; exact Nat.le_trans (hex_le (Nat.pow_lt_pow_right (by decide) hk32)) (by decide)
            have hx2 : ∀ x ∈ names ++ [pfName k], x.length ≤ 20 := fun x hx' => by
              rcases List.mem_append.mp hx' with q | q
              · exact hx x q
              · rw [List.mem_singleton.mp q]; exact hname
            have e3 : names.map PV.str ++ [PV.str (pfName k)] = (names ++ [pfName k]).map .str := by simp
            refine ws_cons (w1_append ok A1 rfl (ev_dict_get (r := .str (pfName k)) ok hA (gv_K G.hW nsCOMPILER_FLAG_NAMES rfl rfl rfl (by decide)) (G.obj hdo) (by decide) dict_keys (ev_name ok A3 rfl) (ev_call ok hA (g_hex G.hW G.hB) (.inl ⟨_, rfl⟩) (.cons (ev_name ok A3 rfl) .nil) (fn_hex hfit)) ?_) ?_ (by rw [List.length_map]; exact Nat.le_trans hn (Nat.le_trans (Nat.le_of_lt hk32) (by decide))))
            · rcases dict_find (P := P) hk32 with ⟨t, e⟩ | ⟨e, e'⟩
              · exact .inl ⟨_, t, e, rfl⟩
              · exact .inr ⟨e, by rw [e']⟩
            refine ws_cons (w1_aug ok hA A0 rfl (ev_name ok A3 rfl) (Op2.cast op_ixor (congrArg PV.int (xor_nat f' k))) ?_)
            refine ws_cons (w1_if (b := f' ^^^ 2 ^ k == 0) (Tst.cast (tst_not (tst_val ok hA (ev_name ok A0 rfl) tr_int)) ?_) ?_)
            · cases e : (f' ^^^ 2 ^ k == 0) with
              | true => simp at e ⊢; omega
              | false => simp at e ⊢; omega
            · cases e : (f' ^^^ 2 ^ k == 0) with
              | true =>
                rw [e, if_pos rfl] at hr
                rw [if_pos rfl]
                refine ws_cons (w1_break ?_)
                refine ws_cons (w1_rets (ev_meth ok hA ev_str (.inr ⟨_, rfl, rfl⟩) meth_join (.cons (ev_own ok A1 (by rw [e3]; rfl)) .nil) (fn_join (hlen _ (by simp; omega) hx2))) (.inl ?_))
                unfold pfText
                rw [← hres, ← hr]
              | false =>
                rw [e, if_neg (by decide)] at hr
                rw [if_neg (by decide)]
                exact ws_nil (ws_nil (ws_nil ⟨k + 1, m, f' ^^^ 2 ^ k, names ++ [pfName k], _, _, rfl, by omega, by rw [e3]; rfl, hr, hf2, by simp; omega, hx2⟩))
end
end Py

set_option maxRecDepth 100000
set_option maxHeartbeats 8000000
namespace Py
section
variable {C : Cx} {A : Around} {Z : Addr → Prop} {σ : List LV}
theorem pick_to {xs : List PV} {k : Nat} (h : k < 2 ^ 60) : pick xs none (some (k : Int)) = xs.take k := by
  have e : clipAt xs.length (k : Int) = min k xs.length := by
    unfold clipAt
    simp only [show ¬ ((k : Int) < 0) by omega, if_false]
    omega
  unfold pick
  simp only [Option.elim, List.drop_zero, Nat.sub_zero]
  rw [e]
  by_cases hk : k ≤ xs.length
  · rw [Nat.min_eq_left hk]
  · rw [Nat.min_eq_right (by omega), List.take_length, List.take_of_length_le (by omega)]
theorem pick_from {xs : List PV} {k : Nat} (h : k < 2 ^ 60) : pick xs (some (k : Int)) none = xs.drop k := by
  have e : clipAt xs.length (k : Int) = min k xs.length := by
    unfold clipAt
    simp only [show ¬ ((k : Int) < 0) by omega, if_false]
    omega
  unfold pick
  simp only [Option.elim]
  rw [e]
  by_cases hk : k ≤ xs.length
  · rw [Nat.min_eq_left hk, List.take_of_length_le (by rw [List.length_drop]; exact Nat.le_refl _)]
  · rw [Nat.min_eq_right (by omega), List.drop_eq_nil_of_le (Nat.le_refl _), List.drop_eq_nil_of_le (by omega), List.take_nil]
theorem get_mapI {α : Type} (f : α → PV) (l : List α) {j : Int} (d : α) (h : j.toNat < l.length) : (l.map f)[j.toNat]? = some (f (l.getD j.toNat d)) := by
  rw [List.getElem?_map, List.getElem?_eq_getElem h]
  simp [List.getD_eq_getElem?_getD, List.getElem?_eq_getElem h]
theorem mulOk_one {x : Str} {n : Int} (hx : x.length ≤ 4) (h0 : 0 ≤ n) (h1 : n ≤ 100) : MulOk x n := by
  have hm : x.length * n.toNat ≤ 4 * 100 := Nat.mul_le_mul hx (by omega)
  unfold MulOk
  refine ⟨by simp; omega, fun h _ => ?_, fun _ _ => ?_⟩
  · have hn : 0 < n := by omega
    have : (x.length : Int) ≤ (2 ^ 63 - 1) / n := by
      rw [Int.le_ediv_iff_mul_le hn]
      have e : (x.length : Int) * n = ((x.length * n.toNat : Nat) : Int) := by
        rw [Int.natCast_mul, Int.toNat_of_nonneg h0]
      rw [e]
      omega
    omega
  · unfold Builtin.Str.tooLong
    rw [decide_eq_false_iff_not]
    have : sizeLine = 2 ^ 24 := rfl
    omega
theorem mul_le {x : Str} {n : Int} (hx : x.length ≤ 1) (h1 : n ≤ 100) : (Txt.mul x n).length ≤ 100 := by
  have := len_mul_leN (N := 100) hx h1
  omega
theorem OpN.le {C : Cx} {m n : Nat} {f : List Value → Sem Value} {ps : List PV} {k : RK} {r : PV} (h : OpN C m f ps k r) (hmn : m ≤ n) : OpN C n f ps k r := fun A Z s Q E vs H => h A Z s Q E vs ⟨H.a.le hmn, H.w, H.lim, H.zl⟩
theorem OpN.up {C : Cx} {m n : Nat} {f : List Value → Sem Value} {ps : List PV} {k : RK} {r : PV} (hmn : m ≤ n) (h : OpN C m f ps k r) : OpN C n f ps k r := h.le hmn
theorem OpN.castP {C : Cx} {m : Nat} {f : List Value → Sem Value} {ps : List PV} {k : RK} {r r' : PV} (h : OpN C m f ps k r) (e : r = r') : OpN C m f ps k r' := e ▸ h
theorem sz_small {n : Nat} (h : n ≤ 100000) : n ≤ sizeLine := Nat.le_trans h (by decide)
/-- x.extend(range(a, b, c)) -/
theorem w1_extend_range {x : Str} {px apos cpos pos p rpos : Pos} {e f d : Expr} {i : Nat} {a : Addr} {xs : List PV} {lo hi c : Int} {n : Nat} {P : Post} (ok : C.Ok) (hh : A.handled = none) (hi' : At C.vs i x) (hx : σ[i]? = some (.own a xs)) (g : GV C "range" (.type "range")) (ha : EvL C A Z σ [e, f, d] [.int lo, .int hi, .int c])
    (hsmall : Builtin.Range.small lo hi c = true) (hc : 0 < c) (hc2 : c < 2 ^ 30) (hn : Builtin.Range.rangeSize lo hi c = n) (h : P .next Z (σ.set i (.own a (xs ++ ((List.range n).map fun (j : Nat) => lo + (j : Int) * c).map .int))))
    (hsz : xs.length + n + 1 ≤ 2 ^ 20) (hline : (apos.endLine == cpos.line) = true := by rfl) (hia : interactive C.env = false := by rfl)
    (hsw : swapsWith (.Call (.Attribute (.Name x px) (Str.ofString "extend") apos) [.Call (.Name "range" p) [e, f, d] [] rpos] [] cpos) none pos.line C.env = pure false := by rfl) :
    W1 C A Z σ (.Expr (.Call (.Attribute (.Name x px) (Str.ofString "extend") apos) [.Call (.Name "range" p) [e, f, d] [] rpos] [] cpos) pos) P := by
  refine W1.of_ext fun s Q E S hQ => ?_
  have hse : starEach [Expr.Call (.Name "range" p) [e, f, d] [] rpos] C.env = [(false, eval (.Call (.Name "range" p) [e, f, d] [] rpos) C.env)] := rfl
  refine wpAny_Expr (wpAny_Call_method_late rfl (by rw [hse]; rfl) hline rfl (ev_own_at ok S hi' hx ⟨"list", "list.extend", meth_extend.pa, meth_extend.slot, meth_extend.ty, ?_, ?_, callWith_builtin (by rw [hse]; rfl) ?_⟩)) hia hsw
  · obtain ⟨vs, hla, _⟩ := own_list S hi' hx; exact hla.isList.typeIs
  · obtain ⟨vs, ⟨n, e⟩, _⟩ := own_list S hi' hx; intro b q; cases q; exact ⟨_, e, rfl⟩
  rw [hse, backTo_cons]
  refine evalArgs_plain (spliced_cons (call_raw ok g ha S fun vs s1 X r => ?_))
  simp only [Reps, Rep] at r
  obtain ⟨v, r, rfl, ⟨t, rfl⟩, v', r', rfl, ⟨t', rfl⟩, v'', r'', rfl, ⟨t'', rfl⟩, rfl⟩ := r
  refine call_range_3 (by omega) (spliced_nil ?_) (.inl (PyProof.noPylong_small (by omega)))
  generalize hr : s1.heap.objs.size = r
  generalize hs2 : ({ s1 with heap := s1.heap.push { cls := .type "range", data := .fields #[.int lo t, .int hi t', .int c t''] }, toks := s1.toks } : Shared) = s2
  have X2 : Ext s s2 := X.trans (hs2 ▸ Ext.heap (fun _ _ e => Heap.get?_push_of_some _ e) _)
  have hrange : IsRange s2.heap r lo hi c t t' t'' := by
    subst hs2 hr
    exact IsRange.new _ _ _ _ _ _ _
  have S2 := S.ext X2
  obtain ⟨vs, ⟨m, hg⟩, hra⟩ := own_list S2 hi' hx
  have hvl : vs.length = xs.length := hra.length
  refine call_meets (S := fun A R s => A.handled = none ∧ s.heap = s2.heap ∧ s.gens = s2.gens ∧ s.drawn = s2.drawn ∧ s.os = s2.os ∧ (∀ s' ws c', (∀ b o, b ≠ a → s2.heap.get? b = some o → s'.heap.get? b = some o) → s'.heap.get? a = some { cls := .type "list", data := .seq (vs.toArray ++ ws) c' } → IntsAre ws.toList ((List.range n).map fun (j : Nat) => lo + (j : Int) * c) → s'.gens = s2.gens → s'.drawn = s2.drawn → s'.os = s2.os → R (.ok (.ret .none)) s')) PySem.F.slot_list_extend ⟨_, hg, rfl⟩ PySem.F.entry_list_extend (PySem.F.args_list_extend_2 _ _) ?_ ⟨hh, rfl, rfl, rfl, rfl, fun s' ws c' k1 k2 k3 e1 e2 e3 => ?_⟩
  · rintro prog w A R s3 ⟨h1, h2, h3, h4, h5, h6⟩
    show wpAny _ A.in1 (Builtin.List.listExtendWith (.ref a) (.ref r) .none) _ _ s3
    refine ext_range (n := n) h1 (by rw [h2]; exact hrange) hsmall hn (by rw [List.size_toArray, hvl]; exact hsz) .none (by rw [h2]; exact hg) fun s' ws c' k1 k2 k3 e1 e2 e3 => h6 s' ws c' (by rw [← h2]; exact k1) k2 k3 (e1.trans h3) (e2.trans h4) (e3.trans h5)
  · obtain ⟨o3, ho3⟩ : ∃ o : Obj, o = { cls := .type "list", data := .seq vs.toArray m } := ⟨_, rfl⟩
    have hf3 : o3.isFreed = false := by rw [ho3]; rfl
    generalize eh3 : s'.heap.update a (fun _ => o3) = h3
    have ga : h3.get? a = some o3 := by
      rw [← eh3]
      exact Heap.get?_update_self (fun _ => o3) k2 hf3
    have sb : Heap.SameBut a s'.heap h3 := eh3 ▸ Heap.SameBut.update ..
    have kp3 : Kp s2.heap h3 := fun b o e => by
      by_cases hb : b = a
      · subst hb
        rw [hg] at e
        cases e
        rw [ga, ho3]
      · exact (sb.2 b hb).trans (k1 b o hb e)
    have S3 : St C Z σ { s' with heap := h3 } := S2.kp (s' := { s' with heap := h3 }) kp3
    have X3 : Ext s2 { s' with heap := h3 } := ⟨kp3, (by rw [show ({ s' with heap := h3 } : Shared).gens = s2.gens from e1]; exact .refl _), e2, e3⟩
    have hr3 : Reps h3 Z (xs ++ ((List.range n).map fun (j : Nat) => lo + (j : Int) * c).map .int) (vs ++ ws.toList) := (hra.kp kp3).append (IntsAre.reps k3)
    have hl3 : s'.heap.PlainList a (vs ++ ws.toList).toArray := ⟨c', by rw [k2]; simp⟩
    have := upd_own (s := { s' with heap := h3 }) (h' := s'.heap) ok S3 hi' hx ⟨sb.1.symm, fun b n => (sb.2 b n).symm⟩ hl3 hr3 s'.toks
    have X4 := X2.trans X3
    exact hQ .next _ _ _ { s' with heap := h3 } s' X4 h this.1 this.2.1 this.2.2 rfl
end
end Py

set_option maxRecDepth 100000
set_option maxHeartbeats 8000000
namespace Py
section
variable {C : Cx} {P : Params} {mg mb : Str → Option Value}

noncomputable def cellsGo : Nat → List Int → List Int → List Int
  | _, [], cs => cs
  | k, n :: ns, cs => cellsGo (k + 1) ns (cs.set (k % 6) (cs.getD (k % 6) 0 + (n % 1000000 + 1)))
noncomputable def cellsF (ns : List Int) : List Int := cellsGo 0 ns [1, 5, 6, 8, 7, 11577]
theorem cellsGo_len : ∀ (k : Nat) (ns cs : List Int), (cellsGo k ns cs).length = cs.length
  | _, [], _ => rfl
  | k, n :: ns, cs => by
    unfold cellsGo
    rw [cellsGo_len]; simp
theorem cellsF_len (ns : List Int) : (cellsF ns).length = 6 := by unfold cellsF; rw [cellsGo_len]; rfl

inductive I64 (ns : List Int) (a : Addr) (ps : List PV) (σ : List LV) : Prop
  | mk (ms : List Int) (k : Nat) (cs : List Int) (l2 l3 : LV) (hp : ps = enumL k (ms.map .int)) (hr : cellsGo k ms cs = cellsF ns) (hl : cs.length = 6) (hs : σ = [.v (LI ns), .own a (cs.map .int), l2, l3]) : I64 ns a ps σ
theorem f64 (G : Gd C P mg mb) {ns : List Int} (hn : ns.length ≤ 63) : OpN C (1 + 1) (fun vs => call (.ref 64) vs) [LI ns] .n (LI (cellsF ns)) := by
  refine fn_call (pn := ["script"]) (locs := ["cells", "place", "number"]) (hclo := ?a1) (hco := ?a2) (hgen := ?a3) G.mono G.lim (G.obj (show List.lookup 64 (hd.heap_39 P) = some _ from rfl)) rfl rfl (G.code ?a4) ?a5 ?a6 rfl ?a7
  case a1 => rfl
  case a2 => rfl
  case a3 => rfl
  case a4 => kernel_rfl
  case a5 => kernel_rfl
  case a6 => exact len1 fun _ => rfl
  case a7 =>
    intro h A hA ok
    have hsz : (ns.map PV.int).length ≤ sizeLine := by rw [List.length_map]; exact Nat.le_trans hn (by decide)
    have hpick : pick (ns.map PV.int) none (some ((63 : Nat) : Int)) = ns.map .int := by rw [pick_to (by decide), List.take_of_length_le (by rw [List.length_map]; exact hn)]
    refine ws_cons (w1_assign_own (xs := ([1, 5, 6, 8, 7, 11577] : List Int).map .int) ok A1 (ev_list ok hA (.cons ev_int (.cons ev_int (.cons ev_int (.cons ev_int (.cons ev_int (.cons ev_int .nil)))))) (show 6 ≤ sizeLine by decide)) (scals_ints _) fun a => ?_)
    refine ws_cons (w1_fors (ps := enumL 0 (ns.map .int)) ok hA.h (iter_enum_list ok hA.h (g_enumerate G.hW G.hB) (.cons (Ev.toF (Ev.cast (ev_slice (lo := none) ok hA (ev_name ok A0 rfl) trivial (evP ev_int) hsz) (congrArg PV.list hpick))) .nil)) ?_)
    refine WLs.inv (fun ps _ σ => I64 ns a ps σ) ?_ ?_ _ _ _ ⟨ns, 0, _, _, _, rfl, rfl, rfl, rfl⟩
    · rintro Z σ ⟨ms, k, cs, l2, l3, hp, hr, hl, rfl⟩
      cases ms with
      | cons => cases hp
      | nil => exact ws_nil (ws_cons (w1_ret_own ok A1 rfl (scals_ints _) (.inl (by rw [← hr]; rfl))))
    · rintro p ps Z σ ⟨ms, k, cs, l2, l3, hp, hr, hl, rfl⟩
      cases ms with
      | nil => cases hp
      | cons m ms =>
        cases hp
        refine ⟨_, .pair A2 A3, ?_⟩
        have hlt : k % 6 < cs.length := by rw [hl]; exact Nat.mod_lt _ (by decide)
        have ek : ((k : Int) % 6).toNat = k % 6 := by omega
        have hget : (cs.map PV.int)[((k : Int) % 6).toNat]? = some (.int (cs.getD (k % 6) 0)) := by
          rw [ek, List.getElem?_map, List.getElem?_eq_getElem hlt]
          simp [List.getD_eq_getElem?_getD, List.getElem?_eq_getElem hlt]
        refine ws_cons (w1_aug_item ok hA A1 rfl (ev_bin ok hA (ev_name ok A2 rfl) ev_int (op_mod (by decide))) (by omega) hget (by rw [List.length_map, hl]; decide) (ev_bin ok hA (ev_bin ok hA (ev_name ok A3 rfl) ev_int (op_mod (by decide))) ev_int op_add) op_iadd ?_)
        refine ws_nil ⟨ms, k + 1, cs.set (k % 6) (cs.getD (k % 6) 0 + (m % 1000000 + 1)), .v (.int k), .v (.int m), rfl, hr, by rw [List.length_set]; exact hl, ?_⟩
        rw [List.map_set, ek]
        rfl

noncomputable def stepF (cells : List Int) : Int := 3 + cells.getD 0 0 % 3
noncomputable def firstF (cells : List Int) (rest : Nat) : Int := (rest : Int) + stepF cells * (1 + cells.getD rest 0 % (8 - stepF cells))
noncomputable def firstsF (cells : List Int) : List Int := stepF cells :: (List.range' 1 ((stepF cells).toNat - 1)).map (firstF cells)
theorem step_bound (cells : List Int) : 3 ≤ stepF cells ∧ stepF cells ≤ 5 := by unfold stepF; omega
theorem step_mul (cells : List Int) (b : Int) : IntMulOk (stepF cells) b := by
  refine IntMulOk.of_left ?_
  have h := step_bound cells
  have : stepF cells = 3 ∨ stepF cells = 4 ∨ stepF cells = 5 := by omega
  rcases this with e | e | e <;> rw [e] <;> decide

theorem f69 (G : Gd C P mg mb) {cells : List Int} (hn : cells.length = 6) : OpN C (1 + 1) (fun vs => call (.ref 69) vs) [LI cells] .n (LI (firstsF cells)) := by
  refine fn_call (pn := ["cells"]) (locs := ["step"]) (hclo := ?a1) (hco := ?a2) (hgen := ?a3) G.mono G.lim (G.obj (show List.lookup 69 (hd.heap_39 P) = some _ from rfl)) rfl rfl (G.code ?a4) ?a5 ?a6 rfl ?a7
  case a1 => rfl
  case a2 => rfl
  case a3 => rfl
  case a4 => kernel_rfl
  case a5 => kernel_rfl
  case a6 => exact len1 fun _ => rfl
  case a7 =>
    intro h A hA ok
    have sb := step_bound cells
    have hk : (stepF cells) = 1 + (((stepF cells).toNat - 1 : Nat) : Int) := by omega
    refine ws_cons (w1_assign ok A1 (Ev.cast (q := .int (stepF cells)) (ev_bin ok hA ev_int (ev_bin ok hA (ev_item (ev_name ok A0 rfl) ev_int (by decide) (by decide) (get_mapI PV.int cells (j := 0) 0 (by rw [hn]; decide))) ev_int (op_mod (by decide))) op_add) rfl) ?_)
    have hol : (((List.range' 1 ((stepF cells).toNat - 1)).map (firstF cells)).map PV.int).length ≤ 10 := by rw [List.length_map, List.length_map, List.length_range']; omega
    refine ws_cons (w1_ret_n (xs := (firstsF cells).map .int) (scals_ints _) (Ev.cast (ev_bin ok hA (ev_list (ps := [.int (stepF cells)]) ok hA (.cons (ev_name ok A1 rfl) .nil) (show 1 ≤ sizeLine by decide)) (ev_comp ["rest"] ["step", "cells"] (ps := rangeP 1 ((stepF cells).toNat - 1)) (out := ((List.range' 1 ((stepF cells).toNat - 1)).map (firstF cells)).map PV.int) ok hA.h (by kernel_rfl) (iter_range2 ok hA.h (g_range G.hW G.hB) (.cons ev_int (.cons (ev_name ok A1 rfl) .nil)) hk (by decide) (by omega)).z (.cons A1 rfl (.cons A0 rfl .nil)) (by simp [owns]) (fun L Z' ok' => ?cx) (sz_small (by omega))) (op_lcat (sz_small (show 1 + _ ≤ 100000 by omega)))) rfl) (.inl rfl))
    case cx =>
      have er : rangeP 1 ((stepF cells).toNat - 1) = (List.range' 1 ((stepF cells).toNat - 1)).map fun (i : Nat) => PV.int (i : Int) := by
        unfold rangeP
        rw [List.range'_eq_map_range, List.map_map]
        refine List.map_congr_left fun i _ => ?_
        show PV.int (1 + (i : Int)) = PV.int ((1 + i : Nat) : Int)
        congr 1
      rw [er, List.map_map]
      refine WC.all (fun (i : Nat) => PV.int (i : Int)) _ _ _ fun i hi l => ⟨_, .name A0, rfl, ?_⟩
      have hi5 : 1 ≤ i ∧ i < 6 := by
        have := List.mem_range'_1.mp hi
        omega
      refine Ev.cast (ev_bin ok' hA (ev_name ok' A0 rfl) (ev_bin ok' hA (ev_name ok' A1 rfl) (ev_bin ok' hA ev_int (ev_bin ok' hA (ev_item (ev_name ok' A2 rfl) (ev_name ok' A0 rfl) (by omega) (by omega) (get_mapI PV.int cells 0 (by rw [hn]; omega))) (ev_bin ok' hA ev_int (ev_name ok' A1 rfl) op_sub) (op_mod (by omega))) op_add) (op_mul ?_)) op_add) ?_
      · exact step_mul cells _
      · have e0 : ((i : Nat) : Int).toNat = i := Int.toNat_natCast i
        show PV.int _ = PV.int (firstF cells i)
        unfold firstF
        rw [e0]

noncomputable def rng (a b c : Int) : List Int := (List.range (Builtin.Range.rangeSize a b c).toNat).map fun (j : Nat) => a + (j : Int) * c
noncomputable def gapPiece (firsts : List Int) (rest : Nat) : List Int := rng rest (firsts.getD rest 0) firsts.length
noncomputable def gapsRaw (firsts : List Int) : List Int := (List.range' 1 (firsts.length - 1)).flatMap (gapPiece firsts)
noncomputable def gapsF (firsts : List Int) : List Int := srt (gapsRaw firsts)
theorem rangeSize_nonneg {a b c : Int} (hc : 0 < c) : 0 ≤ Builtin.Range.rangeSize a b c := by
  unfold Builtin.Range.rangeSize
  rw [if_pos hc]
  split
  · have := Int.ediv_nonneg (a := b - a - 1) (b := c) (by omega) (by omega)
    omega
  · exact Int.le_refl _

inductive I76 (firsts : List Int) (a : Addr) (ps : List PV) (σ : List LV) : Prop
  | mk (k m : Nat) (acc : List Int) (l2 : LV) (hp : ps = (List.range' k m).map (fun (i : Nat) => PV.int (i : Int))) (hk : k + m = firsts.length) (hk1 : 1 ≤ k) (hr : acc ++ (List.range' k m).flatMap (gapPiece firsts) = gapsRaw firsts) (hs : σ = [.v (LI firsts), .own a (acc.map .int), l2]) : I76 firsts a ps σ
theorem f76 (G : Gd C P mg mb) {firsts : List Int} (h1 : 1 ≤ firsts.length) (h5 : firsts.length ≤ 5) (hsm : ∀ rest : Nat, 1 ≤ rest → rest < firsts.length → Builtin.Range.small rest (firsts.getD rest 0) firsts.length = true) (hgl : (gapsRaw firsts).length ≤ 40) : OpN C (1 + 1) (fun vs => call (.ref 76) vs) [LI firsts] .n (LI (gapsF firsts)) := by
  refine fn_call (pn := ["firsts"]) (locs := ["gaps", "rest"]) (hclo := ?a1) (hco := ?a2) (hgen := ?a3) G.mono G.lim (G.obj (show List.lookup 76 (hd.heap_39 P) = some _ from rfl)) rfl rfl (G.code ?a4) ?a5 ?a6 rfl ?a7
  case a1 => rfl
  case a2 => rfl
  case a3 => rfl
  case a4 => kernel_rfl
  case a5 => kernel_rfl
  case a6 => exact len1 fun _ => rfl
  case a7 =>
    intro h A hA ok
    have hfs : (firsts.map PV.int).length ≤ sizeLine := by rw [List.length_map]; exact sz_small (by omega)
    have elen : ((firsts.map PV.int).length : Int) = (firsts.length : Int) := by rw [List.length_map]
    refine ws_cons (w1_assign_own (xs := []) ok A1 (ev_list0 ok hA) (fun _ h => by cases h) fun a => ?_)
    refine ws_fors (fun _ σ => ∃ l2, σ = [.v (LI firsts), .own a ((gapsRaw firsts).map .int), l2]) ok hA.h (iter_range2 (k := firsts.length - 1) ok hA.h (g_range G.hW G.hB) (.cons ev_int (.cons (Ev.toFS (k := .f) trivial (Ev.cast (ev_call ok hA (g_len G.hW G.hB) (.inl ⟨_, rfl⟩) (.cons (ev_name ok A0 rfl) .nil) (fn_len hfs)) (congrArg PV.int elen))) .nil)) (by omega) (by decide) (by omega)) ?_ ?_
    · rintro Z' σ' ⟨l2, rfl⟩
      exact ws_cons (w1_ret_n (scals_ints (gapsF firsts)) (ev_call ok hA (g_sorted G.hW G.hB) (.inl ⟨_, rfl⟩) (.cons (ev_own ok A1 rfl) .nil) (fn_sorted (by omega))) (.inl rfl))
    · refine WLs.inv (fun ps _ σ => I76 firsts a ps σ) ?_ ?_ _ _ _ ⟨1, firsts.length - 1, [], _, ?_, by omega, by omega, rfl, rfl⟩
      · rintro Z σ ⟨k, m, acc, l2, hp, hk, hk1, hr, rfl⟩
        cases m with
        | succ m => simp [List.range'_succ] at hp
        | zero =>
          rw [List.range'_zero, List.flatMap_nil, List.append_nil] at hr
          exact ws_nil ⟨l2, by rw [hr]⟩
      · rintro p ps Z σ ⟨k, m, acc, l2, hp, hk, hk1, hr, rfl⟩
        cases m with
        | zero => simp at hp
        | succ m =>
          rw [List.range'_succ, List.map_cons] at hp
          cases hp
          have ek : ((k : Nat) : Int).toNat = k := Int.toNat_natCast k
          rw [List.range'_succ, List.flatMap_cons] at hr
          have hlen : acc.length + (gapPiece firsts k).length ≤ 40 := by
            have := congrArg List.length hr
            rw [List.length_append, List.length_append] at this
            omega
          have hpl : (gapPiece firsts k).length = (Builtin.Range.rangeSize k (firsts.getD k 0) firsts.length).toNat := by
            unfold gapPiece rng
            rw [List.length_map, List.length_range]
          refine ⟨_, .name A2, ?_⟩
          refine ws_cons (w1_extend_range (n := (Builtin.Range.rangeSize k (firsts.getD k 0) firsts.length).toNat) ok hA.h A1 rfl (g_range G.hW G.hB) (.cons (ev_name ok A2 rfl) (.cons (ev_item (p := .int (firsts.getD k 0)) (ev_name ok A0 rfl) (ev_name ok A2 rfl) (by omega) (by omega) (by have := get_mapI PV.int firsts (j := (k : Int)) 0 (by rw [ek]; omega); rwa [ek] at this ⊢)) (.cons (Ev.toFS (k := .f) trivial (Ev.cast (ev_call ok hA (g_len G.hW G.hB) (.inl ⟨_, rfl⟩) (.cons (ev_name ok A0 rfl) .nil) (fn_len hfs)) (congrArg PV.int elen))) .nil))) (hsm k hk1 (by omega)) (by omega) (by omega) (by rw [Int.toNat_of_nonneg (rangeSize_nonneg (by omega))]) ?_ (by rw [List.length_map]; omega))
          refine ws_nil ⟨k + 1, m, acc ++ gapPiece firsts k, .v (.int (k : Int)), rfl, by omega, by omega, by rw [List.append_assoc]; exact hr, ?_⟩
          rw [List.map_append]
          rfl
      · unfold rangeP
        rw [List.range'_eq_map_range, List.map_map]
        refine List.map_congr_left fun i _ => ?_
        show PV.int (1 + (i : Int)) = PV.int ((1 + i : Nat) : Int)
        congr 1
end
end Py

set_option maxRecDepth 100000
set_option maxHeartbeats 8000000
namespace Py
section
variable {C : Cx} {P : Params} {mg mb : Str → Option Value}

theorem rangeP1 (n : Nat) : rangeP 1 n = (List.range' 1 n).map fun (i : Nat) => PV.int (i : Int) := by
  unfold rangeP
  rw [List.range'_eq_map_range, List.map_map]
  refine List.map_congr_left fun i _ => ?_
  show PV.int (1 + (i : Int)) = PV.int ((1 + i : Nat) : Int)
  congr 1
theorem getLast_map {α : Type} (f : α → PV) (l : List α) (d : α) (h : l ≠ []) : (l.map f)[((-1 : Int) + (l.map f).length).toNat]? = some (f (l.getLastD d)) := by
  have hp : 0 < l.length := List.length_pos_iff.mpr h
  rw [List.length_map, show ((-1 : Int) + (l.length : Nat)).toNat = l.length - 1 by omega, List.getElem?_map, ← List.getLast?_eq_getElem?]
  cases l with
  | nil => exact absurd rfl h
  | cons x r => simp [List.getLast?_eq_some_getLast, List.getLastD]

noncomputable def sizesGo (gaps : List Int) : Nat → Nat → Int → List Int → List Int
  | 0, _, _, acc => acc
  | m + 1, p, last, acc => if !gaps.any (· == (p : Int)) then sizesGo gaps m (p + 1) p (acc ++ [(p : Int) - last]) else sizesGo gaps m (p + 1) last acc
noncomputable def sizesF (gaps : List Int) : List Int := sizesGo gaps (gaps.getLastD 0 + 1).toNat 1 0 []

inductive I83 (gaps : List Int) (a : Addr) (ps : List PV) (σ : List LV) : Prop
  | mk (k m : Nat) (last : Int) (acc : List Int) (l3 : LV) (hp : ps = (List.range' k m).map (fun (i : Nat) => PV.int (i : Int))) (hr : sizesGo gaps m k last acc = sizesF gaps) (ha : acc.length ≤ k) (hk : k + m ≤ 1002) (hs : σ = [.v (LI gaps), .own a (acc.map .int), .v (.int last), l3]) : I83 gaps a ps σ
theorem f83 (G : Gd C P mg mb) {gaps : List Int} (hne : gaps ≠ []) (hl : gaps.length ≤ 40) (h0 : 0 ≤ gaps.getLastD 0) (h1 : gaps.getLastD 0 ≤ 1000) : OpN C (1 + 1) (fun vs => call (.ref 83) vs) [LI gaps] .n (LI (sizesF gaps)) := by
  refine fn_call (pn := ["gaps"]) (locs := ["sizes", "last", "place"]) (hclo := ?a1) (hco := ?a2) (hgen := ?a3) G.mono G.lim (G.obj (show List.lookup 83 (hd.heap_39 P) = some _ from rfl)) rfl rfl (G.code ?a4) ?a5 ?a6 rfl ?a7
  case a1 => rfl
  case a2 => rfl
  case a3 => rfl
  case a4 => kernel_rfl
  case a5 => kernel_rfl
  case a6 => exact len1 fun _ => rfl
  case a7 =>
    intro h A hA ok
    have hp : 0 < gaps.length := List.length_pos_iff.mpr hne
    refine ws_cons (w1_assign_own (xs := []) ok A1 (ev_list0 ok hA) (fun _ h => by cases h) fun a => ?_)
    refine ws_cons (w1_assign ok A2 ev_int ?_)
    refine ws_fors (fun _ σ => ∃ l2 l3, σ = [.v (LI gaps), .own a ((sizesF gaps).map .int), l2, l3]) ok hA.h (iter_range2 (b := gaps.getLastD 0 + 2) (k := (gaps.getLastD 0 + 1).toNat) ok hA.h (g_range G.hW G.hB) (.cons ev_int (.cons (ev_bin ok hA (ev_item_neg (ev_name ok A0 rfl) (ev_neg ev_int) (by decide) (by rw [List.length_map]; omega) (by rw [List.length_map]; omega) (getLast_map PV.int gaps 0 hne)) ev_int op_add) .nil)) (by omega) (by decide) (by omega)) ?_ ?_
    · rintro Z' σ' ⟨l2, l3, rfl⟩
      exact ws_cons (w1_ret_own ok A1 rfl (scals_ints _) (.inl rfl))
    · rw [rangeP1]
      refine WLs.inv (fun ps _ σ => I83 gaps a ps σ) ?_ ?_ _ _ _ ⟨1, _, 0, [], _, rfl, rfl, Nat.zero_le _, by omega, rfl⟩
      · rintro Z σ ⟨k, m, last, acc, l3, hp, hr, ha, hk, rfl⟩
        cases m with
        | succ m => simp [List.range'_succ] at hp
        | zero => exact ws_nil ⟨_, _, by rw [← hr]; rfl⟩
      · rintro p ps Z σ ⟨k, m, last, acc, l3, hp, hr, ha, hk, rfl⟩
        cases m with
        | zero => simp at hp
        | succ m =>
          rw [List.range'_succ, List.map_cons] at hp
          cases hp
          refine ⟨_, .name A3, ?_⟩
          refine ws_cons (w1_if (b := !gaps.any (· == (k : Int))) (tst_cmp ok hA (ev_name ok A3 rfl) (ev_name ok A0 rfl) op_notin_ints) ?_)
          unfold sizesGo at hr
          cases e : (!gaps.any (· == (k : Int))) with
          | true =>
            rw [e, if_pos rfl] at hr
            rw [if_pos rfl]
            refine ws_cons (w1_append ok A1 rfl (ev_bin ok hA (ev_name ok A3 rfl) (ev_name ok A2 rfl) op_sub) ?_ (by rw [List.length_map]; exact sz_small (by omega)))
            refine ws_cons (w1_assign ok A2 (ev_name ok A3 rfl) ?_)
            exact ws_nil (ws_nil ⟨k + 1, m, (k : Int), acc ++ [(k : Int) - last], _, rfl, hr, by rw [List.length_append]; exact Nat.succ_le_succ ha, by omega, by rw [List.map_append]; rfl⟩)
          | false =>
            rw [e, if_neg (by decide)] at hr
            rw [if_neg (by decide)]
            exact ws_nil (ws_nil ⟨k + 1, m, last, acc, _, rfl, hr, Nat.le_succ_of_le ha, by omega, rfl⟩)

noncomputable def marksGo (stop : Int) : List Int → Int → List Int → List Int
  | [], _, acc => acc
  | s :: r, reach, acc => if reach + s ≥ stop then acc ++ [reach + s] else marksGo stop r (reach + s) (acc ++ [reach + s])
noncomputable def marksF (ruler : List Int) (stop : Int) : List Int := marksGo stop (groupGo 0 ruler).1 0 []
noncomputable def breaks (stop : Int) : List Int → Int → Bool
  | [], _ => false
  | s :: r, reach => decide (reach + s ≥ stop) || breaks stop r (reach + s)

inductive I90 (ruler : List Int) (stop : Int) (a : Addr) (ps : List PV) (σ : List LV) : Prop
  | mk (ms : List Int) (reach : Int) (acc : List Int) (l4 : LV) (hp : ps = ms.map PV.int) (hr : marksGo stop ms reach acc = marksF ruler stop) (hb : (groupGo 0 ruler).2 = true ∨ breaks stop ms reach = true) (hl : acc.length + ms.length ≤ 1000) (hs : σ = [.v (LI ruler), .v (.int stop), .own a (acc.map .int), .v (.int reach), l4]) : I90 ruler stop a ps σ
theorem f90 (G : Gd C P mg mb) {ruler : List Int} {stop : Int} (hh : ∀ s r, ruler = s :: r → s ≠ 0) (hl : (groupGo 0 ruler).1.length ≤ 1000) (hb : (groupGo 0 ruler).2 = true ∨ breaks stop (groupGo 0 ruler).1 0 = true) : OpN C (2 + 1) (fun vs => call (.ref 90) vs) [LI ruler, .int stop] .n (LI (marksF ruler stop)) := by
  refine fn_call (pn := ["ruler", "end"]) (locs := ["marks", "reach", "size"]) (hclo := ?a1) (hco := ?a2) (hgen := ?a3) G.mono G.lim (G.obj (show List.lookup 90 (hd.heap_39 P) = some _ from rfl)) rfl rfl (G.code ?a4) ?a5 ?a6 rfl ?a7
  case a1 => rfl
  case a2 => rfl
  case a3 => rfl
  case a4 => kernel_rfl
  case a5 => kernel_rfl
  case a6 => exact len2 fun _ _ => rfl
  case a7 =>
    intro h A hA ok
    refine ws_cons (w1_assign_own (xs := []) ok A2 (ev_list0 ok hA) (fun _ h => by cases h) fun a => ?_)
    refine ws_cons (w1_assign ok A3 ev_int ?_)
    refine ws_forE (fun _ σ => ∃ l3 l4, σ = [.v (LI ruler), .v (.int stop), .own a ((marksF ruler stop).map .int), l3, l4]) ok hA.h (it57 (C := fnCx C _ h 90 _) (P := P) (mg := mg) (mb := mb) ⟨G.hW, G.hB⟩ ok (hA.le (by decide)) (g_grouping_intervals G.hW) (.cons (ev_name ok A0 rfl) .nil) hh) ?_ ?_
    · rintro Z' σ' ⟨l3, l4, rfl⟩
      exact ws_cons (w1_ret_own ok A2 rfl (scals_ints _) (.inl rfl))
    · refine WLE.inv (fun ps _ σ => I90 ruler stop a ps σ) ?_ ?_ _ _ _ ⟨_, 0, [], _, rfl, rfl, hb, by simpa using hl, rfl⟩
      · rintro Z σ ⟨ms, reach, acc, l4, hp, hr, hb, hl, rfl⟩
        have : ms = [] := by simpa using hp.symm
        subst this
        exact ⟨hb.resolve_right (by simp [breaks]), ws_nil ⟨_, _, by rw [← hr]; rfl⟩⟩
      · rintro p ps Z σ ⟨ms, reach, acc, l4, hp, hr, hb, hl, rfl⟩
        cases ms with
        | nil => cases hp
        | cons m ms =>
          cases hp
          refine ⟨_, .name A4, ?_⟩
          have hl' : acc.length + ms.length + 1 ≤ 1000 := by rw [List.length_cons] at hl; exact hl
          refine ws_cons (w1_aug ok hA A3 rfl (ev_name ok A4 rfl) op_iadd ?_)
          refine ws_cons (w1_append ok A2 rfl (ev_name ok A3 rfl) ?_ (by rw [List.length_map]; exact sz_small (by omega)))
          refine ws_cons (w1_if (b := decide (reach + m ≥ stop)) (tst_cmp ok hA (ev_name ok A3 rfl) (ev_name ok A1 rfl) op_ge) ?_)
          unfold marksGo at hr
          by_cases q : reach + m ≥ stop
          · rw [if_pos q] at hr
            rw [if_pos (by simpa using q)]
            exact ws_cons (w1_break ⟨_, _, by rw [← hr, List.map_append]; rfl⟩)
          · rw [if_neg q] at hr
            rw [if_neg (by simpa using q)]
            refine ws_nil (ws_nil ⟨ms, reach + m, acc ++ [reach + m], _, rfl, hr, ?_, ?_, by rw [List.map_append]; rfl⟩)
            · rcases hb with hb | hb
              · exact .inl hb
              · unfold breaks at hb
                rw [decide_eq_false q, Bool.false_or] at hb
                exact .inr hb
            · rw [List.length_append]; show acc.length + 1 + ms.length ≤ 1000; omega

noncomputable def partsF (gaps : List Int) (gap : Int) : List Int := gaps.filter fun p => gaps.any (· == gap - p)
theorem f95 (G : Gd C P mg mb) {gaps : List Int} {gap : Int} (hl : gaps.length ≤ 40) : OpN C (1 + 1) (fun vs => call (.ref 95) vs) [LI gaps, .int gap] .n (LI (partsF gaps gap)) := by
  refine fn_call (pn := ["gaps", "gap"]) (locs := []) (hclo := ?a1) (hco := ?a2) (hgen := ?a3) G.mono G.lim (G.obj (show List.lookup 95 (hd.heap_39 P) = some _ from rfl)) rfl rfl (G.code ?a4) ?a5 ?a6 rfl ?a7
  case a1 => rfl
  case a2 => rfl
  case a3 => rfl
  case a4 => kernel_rfl
  case a5 => kernel_rfl
  case a6 => exact len2 fun _ _ => rfl
  case a7 =>
    intro h A hA ok
    refine ws_cons (w1_ret_n (scals_ints (partsF gaps gap)) (ev_comp ["part"] ["gap", "gaps"] (ps := gaps.map .int) (out := (partsF gaps gap).map .int) ok hA.h (by kernel_rfl) (iter_list (k := .f) ok hA.h (ev_name ok A0 rfl) (fun q => by cases q)).z (.cons A1 rfl (.cons A0 rfl .nil)) (by simp [owns]) (fun L Z' ok' => ?cx) ?csz) (.inl rfl))
    case cx => exact WC.of PV.int PV.int (fun p => gaps.any (· == gap - p)) gaps _ fun p _ l => ⟨_, .name A0, rfl, tst_cmp ok' hA (ev_bin ok' hA (ev_name ok' A1 rfl) (ev_name ok' A0 rfl) op_sub) (ev_name ok' A2 rfl) op_in_ints, fun _ => ev_name ok' A0 rfl⟩
    case csz => rw [List.length_map]; exact sz_small (Nat.le_trans (List.length_filter_le _ _) (by omega))
end
end Py

set_option maxRecDepth 100000
set_option maxHeartbeats 8000000
namespace Py
section
variable {C : Cx} {P : Params} {mg mb : Str → Option Value}

theorem sum_len {n : Nat} : ∀ ws : List Str, (∀ x ∈ ws, x.length ≤ n) → (ws.map (·.length)).sum ≤ ws.length * n
  | [], _ => by simp
  | x :: r, h => by
    have := sum_len r fun y hy => h y (.tail _ hy)
    have := h x (.head _)
    simp only [List.map_cons, List.sum_cons, List.length_cons, Nat.add_mul, Nat.one_mul]
    omega

noncomputable def names9 : List Str := ["NEWLOCALS", "VARARGS", "VARKEYWORDS", "NESTED", "GENERATOR", "NOFREE", "COROUTINE", "ITERABLE_COROUTINE", "ASYNC_GENERATOR"]
noncomputable def wordOne (p : Int) : Str := if p < 10 then names9.getD (p - 1).toNat Str.empty else ("0x" ++ Txt.item "1248" (p % 4)) ++ Txt.mul "0" (p / 4)
noncomputable def wordsF (parts : List Int) : Str := if parts.map wordOne != [] then Txt.join ", " (parts.map wordOne) else "0x0"
noncomputable def wordOk (p : Nat) : Bool := decide ((wordOne p).length ≤ 20) && fitsSsize ((p : Int) % 4) && (Txt.charAt "1248" ((p : Int) % 4)).isSome && decide ((Txt.item "1248" ((p : Int) % 4)).length ≤ 1) && decide ((Txt.mul "0" ((p : Int) / 4)).length ≤ 10)
theorem word_ok : (List.range 31).all wordOk = true := by decide +kernel
theorem word_facts {p : Int} (h : 1 ≤ p ∧ p ≤ 30) : (wordOne p).length ≤ 20 ∧ fitsSsize (p % 4) = true ∧ (Txt.charAt "1248" (p % 4)).isSome = true ∧ (Txt.item "1248" (p % 4)).length ≤ 1 ∧ (Txt.mul "0" (p / 4)).length ≤ 10 := by
  have := List.all_eq_true.mp word_ok p.toNat (List.mem_range.mpr (by omega))
  have e : ((p.toNat : Nat) : Int) = p := Int.toNat_of_nonneg (by omega)
  unfold wordOk at this
  rw [e] at this
  simp only [Bool.and_eq_true, decide_eq_true_iff] at this
  exact ⟨this.1.1.1.1, this.1.1.1.2, this.1.1.2, this.1.2, this.2⟩

theorem f100 (G : Gd C P mg mb) {parts : List Int} (hl : parts.length ≤ 40) (hb : ∀ p ∈ parts, 1 ≤ p ∧ p ≤ 30) : OpN C (1 + 1) (fun vs => call (.ref 100) vs) [LI parts] .n (.str (wordsF parts)) := by
  refine fn_call (pn := ["parts"]) (locs := ["names", "words"]) (hclo := ?a1) (hco := ?a2) (hgen := ?a3) G.mono G.lim (G.obj (show List.lookup 100 (hd.heap_39 P) = some _ from rfl)) rfl rfl (G.code ?a4) ?a5 ?a6 rfl ?a7
  case a1 => rfl
  case a2 => rfl
  case a3 => rfl
  case a4 => kernel_rfl
  case a5 => kernel_rfl
  case a6 => exact len1 fun _ => rfl
  case a7 =>
    intro h A hA ok
    refine ws_cons (w1_assign (p := LS names9) ok A1 (Ev.toF (ev_list ok hA (.cons ev_str (.cons ev_str (.cons ev_str (.cons ev_str (.cons ev_str (.cons ev_str (.cons ev_str (.cons ev_str (.cons ev_str .nil))))))))) (show 9 ≤ sizeLine by decide))) ?_)
    have wl : (parts.map wordOne).length ≤ 40 := by rw [List.length_map]; exact hl
    refine ws_cons (w1_assign_comp ["part"] ["names"] (ps := parts.map .int) (out := (parts.map wordOne).map .str) ok hA.h A2 (by kernel_rfl) (iter_list (k := .f) ok hA.h (ev_name ok A0 rfl) (fun q => by cases q)).z (.cons A1 rfl .nil) (by simp [owns]) (fun L Z' ok' => ?cx) (by rw [List.length_map]; exact sz_small (Nat.le_trans wl (by decide))) ?_)
    case cx =>
      rw [List.map_map]
      refine WC.all PV.int _ _ _ fun p hp l => ⟨_, .name A0, rfl, ?_⟩
      have hpb := hb p hp
      obtain ⟨w1, w2, w3, w4, w5⟩ := word_facts hpb
      refine ev_ifexp (b := decide (p < 10)) (tst_cmp ok' hA (ev_name ok' A0 rfl) ev_int op_lt) ?_
      by_cases q : p < 10
      · rw [if_pos (by simpa using q)]
        refine Ev.cast (ev_item (p := .str (names9.getD (p - 1).toNat Str.empty)) (ev_name ok' A1 rfl) (ev_bin ok' hA (ev_name ok' A0 rfl) ev_int op_sub) (by omega) (by omega) (get_mapI PV.str names9 Str.empty (show (p - 1).toNat < 9 by omega))) ?_
        show _ = PV.str (wordOne p)
        unfold wordOne
        rw [if_pos q]
      · rw [if_neg (by simpa using q)]
        have l2 : ("0x" : Str).length = 2 := by decide
        refine Ev.cast (ev_bin ok' hA (ev_bin ok' hA ev_str (ev_stritem ev_str (ev_bin ok' hA (ev_name ok' A0 rfl) ev_int (op_mod (by decide))) w2 w3) (op_cat (sz_small (by rw [l2]; exact Nat.le_trans (Nat.add_le_add_left w4 2) (by decide))))) (ev_bin ok' hA ev_str (ev_bin ok' hA (ev_name ok' A0 rfl) ev_int (op_div (by decide) (by decide))) (op_rep (mulOk_one (show ("0" : Str).length ≤ 4 by decide) (by omega) (by omega)))) (op_cat (sz_small (by rw [Str.length_append, l2]; omega)))) ?_
        show _ = PV.str (wordOne p)
        unfold wordOne
        rw [if_neg q]
    · refine ws_cons (w1_rets (k := .f) (ev_ifexp (b := parts.map wordOne != []) (tst_cmp ok hA (ev_name ok A2 rfl) (ev_list0 ok hA) (op_ne_strs (ms := []))) ?_) (.inl rfl))
      unfold wordsF
      cases e : (parts.map wordOne != []) with
      | true =>
        refine Ev.toFS trivial (ev_meth ok hA ev_str (.inr ⟨_, rfl, rfl⟩) meth_join (.cons (ev_name ok A2 rfl) .nil) (fn_join (ys := parts.map wordOne) ?_))
        have h1 := sum_len (n := 20) (parts.map wordOne) fun x hx => by
          obtain ⟨p, hp, rfl⟩ := List.mem_map.mp hx
          exact (word_facts (hb p hp)).1
        have h2 : (", " : Str).length = 2 := by decide
        rw [h2]
        omega
      | false => exact ev_str

noncomputable def shields4 : List Str := ["", "\\)", "\"(\"", "\"\\\")\""]
noncomputable def shieldAt (dress : Int) (k : Nat) : Str := shields4.getD (dress / 4 ^ k % 4).toNat Str.empty
noncomputable def signOne (marks : List Int) (dress : Int) (p : Nat) : Str := (if p % 3 == 0 then shieldAt dress (p / 3) else "") ++ (if marks.any (· == (p : Int)) then (")" : Str) else "(")
noncomputable def signsF (marks : List Int) (stop : Nat) (dress : Int) : List Str := (List.range' 1 stop).map (signOne marks dress)
theorem shield_le (dress : Int) (k : Nat) : (shieldAt dress k).length ≤ 5 := by
  unfold shieldAt
  have h : (dress / 4 ^ k % 4).toNat < 4 := by omega
  generalize (dress / 4 ^ k % 4).toNat = j at h
  match j, h with
  | 0, _ | 1, _ | 2, _ | 3, _ => decide
theorem sign_le (marks : List Int) (dress : Int) (p : Nat) : (signOne marks dress p).length ≤ 6 := by
  unfold signOne
  rw [Str.length_append]
  have h1 : (if p % 3 == 0 then shieldAt dress (p / 3) else ("" : Str)).length ≤ 5 := by
    split
    · exact shield_le _ _
    · decide
  have h2 : (if marks.any (· == (p : Int)) then (")" : Str) else "(").length = 1 := by split <;> decide
  omega
theorem p4c {k : Nat} (h : k ≤ 14) : 0 < (4 : Int) ^ k ∧ (4 : Int) ^ k < 2 ^ 30 := by
  have h1 : 0 < (4 : Nat) ^ k := Nat.pow_pos (by decide)
  have h2 : (4 : Nat) ^ k ≤ 4 ^ 14 := Nat.pow_le_pow_right (by decide) h
  have e : (4 : Int) ^ k = ((4 ^ k : Nat) : Int) := by norm_cast
  rw [e]
  omega

theorem q107a {a b n : Nat} (h : a + b = n) (hs : n ≤ 40) : a ≤ 41 := by omega
theorem q107b {k m n : Nat} (h : k + (m + 1) = n + 1) (hs : n ≤ 40) : k ≤ 40 := by omega
theorem q107c (k : Nat) : ((k : Int) / 3).toNat = k / 3 := by omega
theorem q107d {k : Nat} (h : k ≤ 40) : k / 3 ≤ 14 := by omega
theorem q107e {k m n : Nat} (h : k + (m + 1) = n + 1) : k + 1 + m = n + 1 := by omega
theorem q107f {k : Nat} (h : k % 3 = 0) : (k : Int) % 3 = 0 := by omega
theorem q107g {k : Nat} (h : ¬ k % 3 = 0) : (k : Int) % 3 ≠ 0 := by omega
inductive I107 (marks : List Int) (stop : Nat) (dress : Int) (a : Addr) (ps : List PV) (σ : List LV) : Prop
  | mk (k m : Nat) (acc : List Str) (l5 l6 : LV) (hp : ps = (List.range' k m).map (fun (i : Nat) => PV.int (i : Int))) (hr : acc ++ (List.range' k m).map (signOne marks dress) = signsF marks stop dress) (hk : k + m = stop + 1) (hs : σ = [.v (LI marks), .v (.int (stop : Int)), .v (.int dress), .v (LS shields4), .own a (acc.map .str), l5, l6]) : I107 marks stop dress a ps σ
theorem f107 (G : Gd C P mg mb) {marks : List Int} {stop : Nat} {dress : Int} (hs : stop ≤ 40) : OpN C (1 + 1) (fun vs => call (.ref 107) vs) [LI marks, .int (stop : Int), .int dress] .n (LS (signsF marks stop dress)) := by
  refine fn_call (pn := ["marks", "end", "dress"]) (locs := ["shields", "signs", "place", "shield"]) (hclo := ?a1) (hco := ?a2) (hgen := ?a3) G.mono G.lim (G.obj (show List.lookup 107 (hd.heap_39 P) = some _ from rfl)) rfl rfl (G.code ?a4) ?a5 ?a6 rfl ?a7
  case a1 => rfl
  case a2 => rfl
  case a3 => rfl
  case a4 => kernel_rfl
  case a5 => kernel_rfl
  case a6 => exact len3 fun _ _ _ => rfl
  case a7 =>
    intro h A hA ok
    refine ws_cons (w1_assign (p := LS shields4) ok A3 (Ev.toF (ev_list ok hA (.cons ev_str (.cons ev_str (.cons ev_str (.cons ev_str .nil)))) (show 4 ≤ sizeLine by decide))) ?_)
    refine ws_cons (w1_assign_own (xs := []) ok A4 (ev_list0 ok hA) (fun _ h => by cases h) fun a => ?_)
    refine ws_fors (fun _ σ => ∃ l5 l6, σ = [.v (LI marks), .v (.int (stop : Int)), .v (.int dress), .v (LS shields4), .own a ((signsF marks stop dress).map .str), l5, l6]) ok hA.h (iter_range2 (b := (stop : Int) + 1) (k := stop) ok hA.h (g_range G.hW G.hB) (.cons ev_int (.cons (ev_bin ok hA (ev_name ok A1 rfl) ev_int op_add) .nil)) (by omega) (by decide) (by omega)) ?_ ?_
    · rintro Z' σ' ⟨l5, l6, rfl⟩
      exact ws_cons (w1_ret_own ok A4 rfl (scals_strs _) (.inl rfl))
    · rw [rangeP1]
      refine WLs.inv (fun ps _ σ => I107 marks stop dress a ps σ) ?_ ?_ _ _ _ ⟨1, stop, [], _, _, rfl, rfl, by omega, rfl⟩
      · rintro Z σ ⟨k, m, acc, l5, l6, hp, hr, hk, rfl⟩
        cases m with
        | succ m => simp [List.range'_succ] at hp
        | zero =>
          rw [List.range'_zero, List.map_nil, List.append_nil] at hr
          exact ws_nil ⟨_, _, by rw [hr]⟩
      · rintro p ps Z σ ⟨k, m, acc, l5, l6, hp, hr, hk, rfl⟩
        cases m with
        | zero => simp at hp
        | succ m =>
          rw [List.range'_succ, List.map_cons] at hp
          cases hp
          rw [List.range'_succ, List.map_cons] at hr
          have hal : acc.length ≤ 41 := by
            have := congrArg List.length hr
            unfold signsF at this
            rw [List.length_append, List.length_map, List.length_range'] at this
            exact q107a this hs
          have hk41 : k ≤ 40 := q107b hk hs
          have k3 : ((k : Int) / 3).toNat = k / 3 := q107c k
          have hk3 : k / 3 ≤ 14 := q107d hk41
          have p4 := p4c hk3
          have d4 : 0 ≤ dress / 4 ^ (k / 3) % 4 ∧ dress / 4 ^ (k / 3) % 4 < 2 ^ 62 ∧ (dress / 4 ^ (k / 3) % 4).toNat < 4 := by
            generalize dress / 4 ^ (k / 3) = z
            omega
          refine ⟨_, .name A5, ?_⟩
          refine ws_cons (w1_assign (p := .str (if k % 3 == 0 then shieldAt dress (k / 3) else "")) ok A6 (ev_ifexp (b := k % 3 == 0) (Tst.cast (tst_cmp ok hA (ev_bin ok hA (ev_name ok A5 rfl) ev_int (op_mod (by decide))) ev_int op_eq) ?_) ?_) ?_)
          · by_cases q : k % 3 = 0
            · rw [q, show (k : Int) % 3 = 0 from q107f q]; rfl
            · rw [beq_eq_false_iff_ne.mpr q, beq_eq_false_iff_ne.mpr (show (k : Int) % 3 ≠ 0 from q107g q)]
          · cases e : (k % 3 == 0) with
            | true =>
              rw [if_pos rfl, if_pos rfl]
              refine Ev.cast (ev_item (p := .str (shieldAt dress (k / 3))) (ev_name ok A3 rfl) (ev_bin ok hA (ev_bin ok hA (ev_name ok A2 rfl) (Ev.cast (q := .int (4 ^ (k / 3))) (ev_bin ok hA ev_int (ev_bin ok hA (ev_name ok A5 rfl) ev_int (op_div (by decide) (by decide))) (op_pow (by omega) ?_)) (by rw [k3])) (op_div p4.1 p4.2)) ev_int (op_mod (by decide))) d4.1 d4.2.1 (get_mapI PV.str shields4 Str.empty d4.2.2)) rfl
              have : Builtin.Int.intBits 4 = 3 := by decide
              rw [this]; omega
            | false => rw [if_neg (by decide), if_neg (by decide)]; exact ev_str
          · have sl : (if k % 3 == 0 then shieldAt dress (k / 3) else ("" : Str)).length ≤ 5 := by
              split
              · exact shield_le _ _
              · decide
            have bl : (if marks.any (· == (k : Int)) then (")" : Str) else "(").length = 1 := by split <;> decide
            refine ws_cons (w1_append (p := .str (signOne marks dress k)) ok A4 rfl (ev_bin ok hA (ev_name ok A6 rfl) (ev_ifexp (p := .str (if marks.any (· == (k : Int)) then (")" : Str) else "(")) (k := .f) (tst_cmp ok hA (ev_name ok A5 rfl) (ev_name ok A0 rfl) op_in_ints) ?_) (op_cat (sz_small (Nat.le_trans (Nat.add_le_add sl (Nat.le_of_eq bl)) (by decide))))) ?_ (by rw [List.length_map]; exact sz_small (by omega)))
            · cases marks.any (· == (k : Int)) with
              | true => exact ev_str
              | false => exact ev_str
            · exact ws_nil ⟨k + 1, m, acc ++ [signOne marks dress k], _, _, rfl, by rw [← hr]; simp, q107e hk, by rw [List.map_append]; rfl⟩

noncomputable def textF (signs : List Str) (gap : Int) (words : Str) : Str := Txt.join "" (signs.take (gap - 1).toNat) ++ Txt.mul ")" (if words == "0x0" then 0 else ((Txt.split words ", ").length : Int))
theorem f114 (G : Gd C P mg mb) {signs : List Str} {gap : Int} {words : Str} (h1 : 1 ≤ gap) (h2 : gap ≤ 60) (hs : signs.length ≤ 60) (hsl : ∀ x ∈ signs, x.length ≤ 6) (hw : words.length ≤ 1000)
    (hn : (Builtin.Str.partsBetween words (Builtin.Str.occurrences words (", " : Str) 0 words.length (words.length + 1)) (", " : Str).length).length ≤ sizeLine) (hc : (Txt.split words ", ").length ≤ 100) : OpN C (1 + 1) (fun vs => call (.ref 114) vs) [LS signs, .int gap, .str words] .n (.str (textF signs gap words)) := by
  refine fn_call (pn := ["signs", "gap", "words"]) (locs := []) (hclo := ?a1) (hco := ?a2) (hgen := ?a3) G.mono G.lim (G.obj (show List.lookup 114 (hd.heap_39 P) = some _ from rfl)) rfl rfl (G.code ?a4) ?a5 ?a6 rfl ?a7
  case a1 => rfl
  case a2 => rfl
  case a3 => rfl
  case a4 => kernel_rfl
  case a5 => kernel_rfl
  case a6 => exact len3 fun _ _ _ => rfl
  case a7 =>
    intro h A hA ok
    have hg : gap - 1 = (((gap - 1).toNat : Nat) : Int) := by omega
    have ep : pick (signs.map PV.str) none (some (gap - 1)) = (signs.take (gap - 1).toNat).map .str := by
      rw [hg, pick_to (by omega), ← List.map_take]; rfl
    have hsz : (signs.map PV.str).length ≤ sizeLine := by rw [List.length_map]; exact sz_small (by omega)
    have tl : (signs.take (gap - 1).toNat).length ≤ 60 := Nat.le_trans (by rw [List.length_take]; exact Nat.min_le_right _ _) hs
    have js := sum_len (n := 6) (signs.take (gap - 1).toNat) fun x hx => hsl x (List.mem_of_mem_take hx)
    have j0 : ("" : Str).length = 0 := by decide
    have jl : (Txt.join "" (signs.take (gap - 1).toNat)).length ≤ 1000 := by
      have := StrLaws.join_length_le "" (signs.take (gap - 1).toNat)
      rw [← StrLaws.glued_eq_join] at this
      rw [j0] at this
      show (Builtin.Str.glued "" _).length ≤ 1000
      omega
    have n0 : 0 ≤ (if words == "0x0" then (0 : Int) else ((Txt.split words ", ").length : Int)) ∧ (if words == "0x0" then (0 : Int) else ((Txt.split words ", ").length : Int)) ≤ 100 := by
      split <;> omega
    have ml := mul_le (x := ")") (n := if words == "0x0" then (0 : Int) else ((Txt.split words ", ").length : Int)) (show (")" : Str).length ≤ 1 by decide) n0.2
    refine ws_cons (w1_rets (x := textF signs gap words) (ev_bin ok hA (ev_meth (k := .f) ok hA ev_str (.inr ⟨_, rfl, rfl⟩) meth_join (.cons (Ev.cast (ev_slice (lo := none) ok hA (ev_name ok A0 rfl) (by exact trivial) (evP (ev_bin ok hA (ev_name ok A1 rfl) ev_int op_sub)) hsz) (congrArg PV.list ep)) .nil) (fn_join (ys := signs.take (gap - 1).toNat) (by rw [j0]; omega))) (ev_bin ok hA ev_str (ev_ifexp (p := .int (if words == "0x0" then (0 : Int) else ((Txt.split words ", ").length : Int))) (k := .f) (tst_cmp ok hA (ev_name ok A2 rfl) ev_str op_eqs) ?_) (op_rep (mulOk_one (show (")" : Str).length ≤ 4 by decide) n0.1 n0.2))) (op_cat (sz_small (by omega)))) (.inl rfl))
    cases e : (words == ("0x0" : Str)) with
    | true => exact ev_int
    | false =>
      rw [if_neg (by decide), if_neg (by decide)]
      refine Ev.cast (ev_call ok hA (g_len G.hW G.hB) (.inl ⟨_, rfl⟩) (.cons (ev_meth ok hA (ev_name ok A2 rfl) (.inr ⟨_, rfl, rfl⟩) meth_split (.cons ev_str .nil) (fn_split (by decide) (sz_small (by omega)) hn)) .nil) (fn_len (by rw [List.length_map]; exact sz_small (by omega)))) (by rw [List.length_map])
end
end Py

set_option maxRecDepth 100000
set_option maxHeartbeats 8000000
namespace Py
section
variable {C : Cx} {P : Params} {mg mb : Str → Option Value}

noncomputable def brkOne (firsts : List Int) (one two : Nat) : Bool := ((one + two) % firsts.length != 0) && decide (firsts.getD one 0 + firsts.getD two 0 < firsts.getD ((one + two) % firsts.length) 0)
noncomputable def brkIn (firsts : List Int) (one k n : Nat) : List Int := ((List.range' k n).filter (brkOne firsts one)).map fun two => firsts.getD one 0 + firsts.getD two 0
noncomputable def brokenRaw (firsts : List Int) : List Int := (List.range' 1 (firsts.length - 1)).flatMap fun one => brkIn firsts one one (firsts.length - one)
noncomputable def brokenF (firsts : List Int) : List Int := srt (brokenRaw firsts)
theorem rangePk (k n : Nat) : rangeP (k : Int) n = (List.range' k n).map fun (i : Nat) => PV.int (i : Int) := by
  unfold rangeP
  rw [List.range'_eq_map_range, List.map_map]
  refine List.map_congr_left fun i _ => ?_
  show PV.int ((k : Int) + (i : Int)) = PV.int ((k + i : Nat) : Int)
  congr 1

theorem raw_le {firsts : List Int} (h5 : firsts.length ≤ 5) : (brokenRaw firsts).length ≤ 40 := by
  have h2 : ∀ l : List Nat, (∀ x ∈ l, x < firsts.length) → (l.flatMap fun one => brkIn firsts one one (firsts.length - one)).length ≤ l.length * 5 := by
    intro l
    induction l with
    | nil => intro _; simp
    | cons x r ih =>
      intro hx
      have := ih fun y hy => hx y (.tail _ hy)
      have h3 : (brkIn firsts x x (firsts.length - x)).length ≤ 5 := by
        unfold brkIn
        rw [List.length_map]
        refine Nat.le_trans (List.length_filter_le _ _) ?_
        rw [List.length_range']
        omega
      rw [List.flatMap_cons, List.length_append, List.length_cons]
      omega
  have := h2 (List.range' 1 (firsts.length - 1)) fun x hx => by have := List.mem_range'_1.mp hx; omega
  rw [List.length_range'] at this
  unfold brokenRaw
  omega
theorem lt5 {k n : Nat} (h : k < n) (h5 : n ≤ 5) : (k : Int) < 2 ^ 62 := by omega
theorem lt5' {n : Nat} (h5 : n ≤ 5) : (n : Int) < 2 ^ 62 := by omega
theorem pos5 {n : Nat} (h : 1 ≤ n) : (0 : Int) < (n : Int) := by omega
theorem add5 {k n : Nat} (h : k < n) : (n : Int) = (k : Int) + ((n - k : Nat) : Int) := by omega
theorem add1 {n : Nat} (h : 1 ≤ n) : (n : Int) = 1 + ((n - 1 : Nat) : Int) := by omega
theorem neg5 (k : Nat) : -(2 ^ 62) ≤ (k : Int) := by omega
theorem suc5 {k m n : Nat} (h : k + (m + 1) = n) : k + 1 + m = n := by omega
theorem low5 {k m n : Nat} (h : k + (m + 1) = n) : k < n := by omega
theorem sub5 {k n : Nat} (h : k < n) : k + (n - k) = n := by omega
theorem len5 {α : Type} {a b c : List α} (h : a ++ b = c) {n : Nat} (hc : c.length ≤ n) : a.length ≤ n := by
  rw [← h, List.length_append] at hc; omega
inductive J121 (firsts : List Int) (a : Addr) (ps : List PV) (σ : List LV) : Prop
  | mk (k m : Nat) (acc : List Int) (l3 l4 : LV) (hp : ps = (List.range' k m).map (fun (i : Nat) => PV.int (i : Int))) (hk : k + m = firsts.length) (hk1 : 1 ≤ k) (hr : acc ++ ((List.range' k m).flatMap fun one => brkIn firsts one one (firsts.length - one)) = brokenRaw firsts) (hs : σ = [.v (LI firsts), .v (.int (firsts.length : Int)), .own a (acc.map .int), l3, l4]) : J121 firsts a ps σ
inductive I121 (firsts acc : List Int) (k : Nat) (a : Addr) (ps : List PV) (σ : List LV) : Prop
  | mk (j n : Nat) (acc2 : List Int) (l4 : LV) (hp : ps = (List.range' j n).map (fun (i : Nat) => PV.int (i : Int))) (hj : j + n = firsts.length) (hr : acc2 ++ brkIn firsts k j n = acc ++ brkIn firsts k k (firsts.length - k)) (hs : σ = [.v (LI firsts), .v (.int (firsts.length : Int)), .own a (acc2.map .int), .v (.int (k : Int)), l4]) : I121 firsts acc k a ps σ
theorem f121 (G : Gd C P mg mb) {firsts : List Int} (h1 : 1 ≤ firsts.length) (h5 : firsts.length ≤ 5) : OpN C (1 + 1) (fun vs => call (.ref 121) vs) [LI firsts] .n (LI (brokenF firsts)) := by
  refine fn_call (pn := ["firsts"]) (locs := ["step", "broken", "one", "two"]) (hclo := ?a1) (hco := ?a2) (hgen := ?a3) G.mono G.lim (G.obj (show List.lookup 121 (hd.heap_39 P) = some _ from rfl)) rfl rfl (G.code ?a4) ?a5 ?a6 rfl ?a7
  case a1 => rfl
  case a2 => rfl
  case a3 => rfl
  case a4 => kernel_rfl
  case a5 => kernel_rfl
  case a6 => exact len1 fun _ => rfl
  case a7 =>
    intro h A hA ok
    have hfs : (firsts.map PV.int).length ≤ sizeLine := by rw [List.length_map]; exact sz_small (Nat.le_trans h5 (by decide))
    have rawlen := raw_le h5
    refine ws_cons (w1_assign ok A1 (Ev.cast (q := .int (firsts.length : Int)) (ev_call ok hA (g_len G.hW G.hB) (.inl ⟨_, rfl⟩) (.cons (ev_name ok A0 rfl) .nil) (fn_len hfs)) (by rw [List.length_map])) ?_)
    refine ws_cons (w1_assign_own (xs := []) ok A2 (ev_list0 ok hA) (fun _ h => by cases h) fun a => ?_)
    refine ws_fors (fun _ σ => ∃ l3 l4, σ = [.v (LI firsts), .v (.int (firsts.length : Int)), .own a ((brokenRaw firsts).map .int), l3, l4]) ok hA.h (iter_range2 (k := firsts.length - 1) ok hA.h (g_range G.hW G.hB) (.cons ev_int (.cons (ev_name ok A1 rfl) .nil)) (add1 h1) (by decide) (lt5' h5)) ?_ ?_
    · rintro Z' σ' ⟨l3, l4, rfl⟩
      exact ws_cons (w1_ret_n (scals_ints (brokenF firsts)) (ev_call ok hA (g_sorted G.hW G.hB) (.inl ⟨_, rfl⟩) (.cons (ev_own ok A2 rfl) .nil) (fn_sorted (Nat.lt_of_le_of_lt rawlen (by decide)))) (.inl rfl))
    · rw [rangeP1]
      refine WLs.inv (fun ps _ σ => J121 firsts a ps σ) ?_ ?_ _ _ _ ⟨1, firsts.length - 1, [], _, _, rfl, Nat.add_sub_cancel' h1, Nat.le_refl 1, rfl, rfl⟩
      · rintro Z σ ⟨k, m, acc, l3, l4, hp, hk, hk1, hr, rfl⟩
        cases m with
        | succ m => simp [List.range'_succ] at hp
        | zero =>
          rw [List.range'_zero, List.flatMap_nil, List.append_nil] at hr
          exact ws_nil ⟨_, _, by rw [hr]⟩
      · rintro p ps Z σ ⟨k, m, acc, l3, l4, hp, hk, hk1, hr, rfl⟩
        cases m with
        | zero => simp at hp
        | succ m =>
          rw [List.range'_succ, List.map_cons] at hp
          cases hp
          rw [List.range'_succ, List.flatMap_cons] at hr
          have hkl : k < firsts.length := low5 hk
          have hlen : (acc ++ brkIn firsts k k (firsts.length - k)).length ≤ 40 := len5 (by rw [List.append_assoc]; exact hr) rawlen
          refine ⟨_, .name A3, ?_⟩
          have geti : ∀ i : Nat, i < firsts.length → (firsts.map PV.int)[((i : Nat) : Int).toNat]? = some (.int (firsts.getD i 0)) := fun i hi => by
            have := get_mapI PV.int firsts (j := (i : Int)) 0 (by rw [Int.toNat_natCast]; exact hi)
            rwa [Int.toNat_natCast] at this ⊢
          refine ws_fors (fun _ σ => ∃ l4, σ = [.v (LI firsts), .v (.int (firsts.length : Int)), .own a ((acc ++ brkIn firsts k k (firsts.length - k)).map .int), .v (.int (k : Int)), l4]) ok hA.h (iter_range2 (k := firsts.length - k) ok hA.h (g_range G.hW G.hB) (.cons (ev_name ok A3 rfl) (.cons (ev_name ok A1 rfl) .nil)) (add5 hkl) (neg5 k) (lt5' h5)) ?_ ?_
          · rintro Z' σ' ⟨l4, rfl⟩
            exact ws_nil ⟨k + 1, m, acc ++ brkIn firsts k k (firsts.length - k), _, _, rfl, suc5 hk, Nat.succ_le_succ (Nat.zero_le _), by rw [List.append_assoc]; exact hr, rfl⟩
          · rw [rangePk]
            refine WLs.inv (fun ps _ σ => I121 firsts acc k a ps σ) ?_ ?_ _ _ _ ⟨k, firsts.length - k, acc, _, rfl, sub5 hkl, rfl, rfl⟩
            · rintro Z σ ⟨j, n, acc2, l4, hp, hj, hr2, rfl⟩
              cases n with
              | succ n => simp [List.range'_succ] at hp
              | zero =>
                have e0 : brkIn firsts k j 0 = [] := rfl
                rw [e0, List.append_nil] at hr2
                exact ws_nil ⟨_, by rw [hr2]⟩
            · rintro p ps Z σ ⟨j, n, acc2, l4, hp, hj, hr2, rfl⟩
              cases n with
              | zero => simp at hp
              | succ n =>
                rw [List.range'_succ, List.map_cons] at hp
                cases hp
                have hjl : j < firsts.length := low5 hj
                have hml : (k + j) % firsts.length < firsts.length := Nat.mod_lt _ h1
                have hmod : ((k : Int) + (j : Int)) % (firsts.length : Int) = (((k + j) % firsts.length : Nat) : Int) := by norm_cast
                have ha2 : acc2.length ≤ 40 := len5 hr2 hlen
                refine ⟨_, .name A4, ?_⟩
                refine ws_cons (w1_if (b := brkOne firsts k j) (tst_and (b := (k + j) % firsts.length != 0) (Tst.cast (tst_cmp ok hA (ev_bin ok hA (ev_bin ok hA (ev_name ok A3 rfl) (ev_name ok A4 rfl) op_add) (ev_name ok A1 rfl) (op_mod (pos5 h1))) ev_int op_ne) ?_) (fun hb => Tst.cast (tst_cmp ok hA (ev_bin ok hA (ev_item (ev_name ok A0 rfl) (ev_name ok A3 rfl) (Int.natCast_nonneg _) (lt5 hkl h5) (geti k hkl)) (ev_item (ev_name ok A0 rfl) (ev_name ok A4 rfl) (Int.natCast_nonneg _) (lt5 hjl h5) (geti j hjl)) op_add) (ev_item (ev_name ok A0 rfl) (Ev.cast (q := .int (((k + j) % firsts.length : Nat) : Int)) (ev_bin ok hA (ev_bin ok hA (ev_name ok A3 rfl) (ev_name ok A4 rfl) op_add) (ev_name ok A1 rfl) (op_mod (pos5 h1))) (by rw [hmod])) (Int.natCast_nonneg _) (lt5 hml h5) (geti _ hml)) op_lt) ?_) (fun hb => ?_)) ?_)
                · rw [hmod]
                  by_cases q : (k + j) % firsts.length = 0
                  · rw [q]; rfl
                  · rw [bne_iff_ne.mpr q, bne_iff_ne.mpr (show (((k + j) % firsts.length : Nat) : Int) ≠ 0 by omega)]
                · unfold brkOne; rw [hb, Bool.true_and]
                · unfold brkOne; rw [hb, Bool.false_and]
                · have eb : brkIn firsts k j (n + 1) = (if brkOne firsts k j then [firsts.getD k 0 + firsts.getD j 0] else []) ++ brkIn firsts k (j + 1) n := by
                    unfold brkIn
                    rw [List.range'_succ, List.filter_cons]
                    split <;> rfl
                  rw [eb] at hr2
                  cases e : brkOne firsts k j with
                  | true =>
                    rw [e, if_pos rfl] at hr2
                    rw [if_pos rfl]
                    refine ws_cons (w1_append ok A2 rfl (ev_bin ok hA (ev_item (ev_name ok A0 rfl) (ev_name ok A3 rfl) (Int.natCast_nonneg _) (lt5 hkl h5) (geti k hkl)) (ev_item (ev_name ok A0 rfl) (ev_name ok A4 rfl) (Int.natCast_nonneg _) (lt5 hjl h5) (geti j hjl)) op_add) ?_ (by rw [List.length_map]; exact sz_small (Nat.le_trans ha2 (by decide))))
                    exact ws_nil (ws_nil ⟨j + 1, n, acc2 ++ [firsts.getD k 0 + firsts.getD j 0], _, rfl, suc5 hj, by rw [List.append_assoc]; exact hr2, by rw [List.map_append]; rfl⟩)
                  | false =>
                    rw [e, if_neg (by decide), List.nil_append] at hr2
                    rw [if_neg (by decide)]
                    exact ws_nil (ws_nil ⟨j + 1, n, acc2, _, rfl, suc5 hj, hr2, rfl⟩)
end
end Py

set_option maxRecDepth 100000
set_option maxHeartbeats 8000000
namespace Py

-- all the first tuples that the law can meet
noncomputable def tails (st : Nat) : Nat → Nat → List (List Int)
  | _, 0 => [[]]
  | rest, n + 1 => (List.range (8 - st)).flatMap fun (q : Nat) => (tails st (rest + 1) n).map fun t => ((rest : Int) + (st : Int) * (1 + (q : Int))) :: t
noncomputable def allFirsts : List (List Int) := ([3, 4, 5] : List Nat).flatMap fun st => (tails st 1 (st - 1)).map fun t => (st : Int) :: t
theorem tails_mem {cells : List Int} {st : Nat} (hs : stepF cells = st) (h5 : st ≤ 5) : ∀ (n rest : Nat), (List.range' rest n).map (firstF cells) ∈ tails st rest n
  | 0, _ => .head _
  | n + 1, rest => by
    rw [List.range'_succ, List.map_cons]
    unfold tails
    have h0 : (8 : Int) - st > 0 := by omega
    have h1 := Int.emod_nonneg (cells.getD rest 0) (Int.ne_of_gt h0)
    have h2 := Int.emod_lt_of_pos (cells.getD rest 0) h0
    refine List.mem_flatMap.mpr ⟨(cells.getD rest 0 % (8 - (st : Int))).toNat, ?_, ?_⟩
    · rw [List.mem_range]; omega
    · refine List.mem_map.mpr ⟨_, tails_mem hs h5 n (rest + 1), ?_⟩
      unfold firstF
      rw [hs, Int.toNat_of_nonneg h1]
theorem firsts_mem (cells : List Int) : firstsF cells ∈ allFirsts := by
  have hb := step_bound cells
  obtain ⟨st, hs⟩ := Int.eq_ofNat_of_zero_le (show 0 ≤ stepF cells by omega)
  unfold firstsF allFirsts
  refine List.mem_flatMap.mpr ⟨st, ?_, List.mem_map.mpr ⟨_, tails_mem hs (by omega) (st - 1) 1, ?_⟩⟩
  · have : st = 3 ∨ st = 4 ∨ st = 5 := by omega
    rcases this with rfl | rfl | rfl <;> simp
  · rw [hs]; rfl

-- what is to be seen of one tuple
noncomputable def stopF (gaps : List Int) : Nat := max (gaps.getLastD 0 + 4).toNat (2 * gaps.length)
noncomputable def membersF (gaps : List Int) : List Int := ((List.range' 1 (stopF gaps)).map fun (i : Nat) => (i : Int)).filter fun p => !gaps.any (· == p)
noncomputable def mask1 (parts : List Int) : Nat := parts.foldl (fun a p => a + 2 ^ p.toNat) 0
noncomputable def bitsOf (m : Nat) : List Int := ((List.range 31).filter fun i => m.testBit i).map fun (i : Nat) => (i : Int)
noncomputable def masks : List Nat := [0,2,4,6,8,12,14,16,18,24,28,32,36,42,64,66,72,84,90,96,102,128,132,136,144,146,168,192,204,214,258,264,272,288,292,320,330,336,390,408,448,462,516,520,528,544,546,576,584,612,660,672,682,720,780,792,856,924,1026,1032,1056,1122,1168,1170,1224,1632,1638,2052,2056,2114,2184,2244,2340,2376,2386,2504,2580,2634,2728,2772,2906,3276,4098,4228,4290,4548,4626,4818,6284,6342,6604,6870,8194,8196,8322,8514,8642,8738,8772,8866,9362,9828,10570,10698,10922,12422,12742,14798,16386,17442,18018,26214]
noncomputable def balN : List Bool → Nat → Bool
  | [], o => o == 0
  | false :: r, o => balN r (o + 1)
  | true :: _, 0 => false
  | true :: r, o + 1 => balN r o

noncomputable def okA (f : List Int) : Bool := decide (1 ≤ f.length) && decide (f.length ≤ 5) && (List.range' 1 (f.length - 1)).all fun r => Builtin.Range.small r (f.getD r 0) f.length
noncomputable def okG (g : List Int) : Bool := g != [] && decide (g.length ≤ 30) && decide (0 ≤ g.getLastD 0) && decide (g.getLastD 0 ≤ 26) && decide (stopF g ≤ 40) && g.all fun p => decide (1 ≤ p ∧ p ≤ 30)
noncomputable def okM (g m s : List Int) : Bool := marksF (s ++ [1, 0, 5]) (stopF g) == m && marksF (s ++ [127, 1]) (stopF g) == m.take s.length && breaks (stopF g) (groupGo 0 (s ++ [1, 0, 5])).1 0 && decide ((groupGo 0 (s ++ [1, 0, 5])).1.length ≤ 1000) && (groupGo 0 (s ++ [127, 1])).2 && decide ((groupGo 0 (s ++ [127, 1])).1.length ≤ 1000) && (match s with | [] => true | x :: _ => x != 0)
noncomputable def okP (g : List Int) : Bool := g.all fun p => (fun (ps : List Int) => masks.contains (mask1 ps) && bitsOf (mask1 ps) == ps) (partsF g p)
noncomputable def tbl : List (List Int × List Int × List Int × List Int) := [
  ([3, 4, 5], [1, 2], [3, 4, 5, 6], [3]),
  ([3, 4, 8], [1, 2, 5], [3, 4, 6, 7, 8, 9], [3, 1, 2]),
  ([3, 4, 11], [1, 2, 5, 8], [3, 4, 6, 7, 9, 10, 11, 12], [3, 1, 2, 1, 2]),
  ([3, 4, 14], [1, 2, 5, 8, 11], [3, 4, 6, 7, 9, 10, 12, 13, 14, 15], [3, 1, 2, 1, 2, 1, 2]),
  ([3, 4, 17], [1, 2, 5, 8, 11, 14], [3, 4, 6, 7, 9, 10, 12, 13, 15, 16, 17, 18], [3, 1, 2, 1, 2, 1, 2, 1, 2]),
  ([3, 7, 5], [1, 2, 4], [3, 5, 6, 7, 8], [3, 2]),
  ([3, 7, 8], [1, 2, 4, 5], [3, 6, 7, 8, 9], [3, 3]),
  ([3, 7, 11], [1, 2, 4, 5, 8], [3, 6, 7, 9, 10, 11, 12], [3, 3, 1, 2]),
  ([3, 7, 14], [1, 2, 4, 5, 8, 11], [3, 6, 7, 9, 10, 12, 13, 14, 15], [3, 3, 1, 2, 1, 2]),
  ([3, 7, 17], [1, 2, 4, 5, 8, 11, 14], [3, 6, 7, 9, 10, 12, 13, 15, 16, 17, 18], [3, 3, 1, 2, 1, 2, 1, 2]),
  ([3, 10, 5], [1, 2, 4, 7], [3, 5, 6, 8, 9, 10, 11], [3, 2, 1, 2]),
  ([3, 10, 8], [1, 2, 4, 5, 7], [3, 6, 8, 9, 10, 11], [3, 3, 2]),
  ([3, 10, 11], [1, 2, 4, 5, 7, 8], [3, 6, 9, 10, 11, 12], [3, 3, 3]),
  ([3, 10, 14], [1, 2, 4, 5, 7, 8, 11], [3, 6, 9, 10, 12, 13, 14, 15], [3, 3, 3, 1, 2]),
  ([3, 10, 17], [1, 2, 4, 5, 7, 8, 11, 14], [3, 6, 9, 10, 12, 13, 15, 16, 17, 18], [3, 3, 3, 1, 2, 1, 2]),
  ([3, 13, 5], [1, 2, 4, 7, 10], [3, 5, 6, 8, 9, 11, 12, 13, 14], [3, 2, 1, 2, 1, 2]),
  ([3, 13, 8], [1, 2, 4, 5, 7, 10], [3, 6, 8, 9, 11, 12, 13, 14], [3, 3, 2, 1, 2]),
  ([3, 13, 11], [1, 2, 4, 5, 7, 8, 10], [3, 6, 9, 11, 12, 13, 14], [3, 3, 3, 2]),
  ([3, 13, 14], [1, 2, 4, 5, 7, 8, 10, 11], [3, 6, 9, 12, 13, 14, 15, 16], [3, 3, 3, 3]),
  ([3, 13, 17], [1, 2, 4, 5, 7, 8, 10, 11, 14], [3, 6, 9, 12, 13, 15, 16, 17, 18], [3, 3, 3, 3, 1, 2]),
  ([3, 16, 5], [1, 2, 4, 7, 10, 13], [3, 5, 6, 8, 9, 11, 12, 14, 15, 16, 17], [3, 2, 1, 2, 1, 2, 1, 2]),
  ([3, 16, 8], [1, 2, 4, 5, 7, 10, 13], [3, 6, 8, 9, 11, 12, 14, 15, 16, 17], [3, 3, 2, 1, 2, 1, 2]),
  ([3, 16, 11], [1, 2, 4, 5, 7, 8, 10, 13], [3, 6, 9, 11, 12, 14, 15, 16, 17], [3, 3, 3, 2, 1, 2]),
  ([3, 16, 14], [1, 2, 4, 5, 7, 8, 10, 11, 13], [3, 6, 9, 12, 14, 15, 16, 17, 18], [3, 3, 3, 3, 2]),
  ([3, 16, 17], [1, 2, 4, 5, 7, 8, 10, 11, 13, 14], [3, 6, 9, 12, 15, 16, 17, 18, 19, 20], [3, 3, 3, 3, 3]),
  ([4, 5, 6, 7], [1, 2, 3], [4, 5, 6, 7], [4]),
  ([4, 5, 6, 11], [1, 2, 3, 7], [4, 5, 6, 8, 9, 10, 11], [4, 1, 1, 2]),
  ([4, 5, 6, 15], [1, 2, 3, 7, 11], [4, 5, 6, 8, 9, 10, 12, 13, 14, 15], [4, 1, 1, 2, 1, 1, 2]),
  ([4, 5, 6, 19], [1, 2, 3, 7, 11, 15], [4, 5, 6, 8, 9, 10, 12, 13, 14, 16, 17, 18, 19], [4, 1, 1, 2, 1, 1, 2, 1, 1, 2]),
  ([4, 5, 10, 7], [1, 2, 3, 6], [4, 5, 7, 8, 9, 10], [4, 1, 2]),
  ([4, 5, 10, 11], [1, 2, 3, 6, 7], [4, 5, 8, 9, 10, 11], [4, 1, 3]),
  ([4, 5, 10, 15], [1, 2, 3, 6, 7, 11], [4, 5, 8, 9, 10, 12, 13, 14, 15], [4, 1, 3, 1, 1, 2]),
  ([4, 5, 10, 19], [1, 2, 3, 6, 7, 11, 15], [4, 5, 8, 9, 10, 12, 13, 14, 16, 17, 18, 19], [4, 1, 3, 1, 1, 2, 1, 1, 2]),
  ([4, 5, 14, 7], [1, 2, 3, 6, 10], [4, 5, 7, 8, 9, 11, 12, 13, 14], [4, 1, 2, 1, 1, 2]),
  ([4, 5, 14, 11], [1, 2, 3, 6, 7, 10], [4, 5, 8, 9, 11, 12, 13, 14], [4, 1, 3, 1, 2]),
  ([4, 5, 14, 15], [1, 2, 3, 6, 7, 10, 11], [4, 5, 8, 9, 12, 13, 14, 15], [4, 1, 3, 1, 3]),
  ([4, 5, 14, 19], [1, 2, 3, 6, 7, 10, 11, 15], [4, 5, 8, 9, 12, 13, 14, 16, 17, 18, 19], [4, 1, 3, 1, 3, 1, 1, 2]),
  ([4, 5, 18, 7], [1, 2, 3, 6, 10, 14], [4, 5, 7, 8, 9, 11, 12, 13, 15, 16, 17, 18], [4, 1, 2, 1, 1, 2, 1, 1, 2]),
  ([4, 5, 18, 11], [1, 2, 3, 6, 7, 10, 14], [4, 5, 8, 9, 11, 12, 13, 15, 16, 17, 18], [4, 1, 3, 1, 2, 1, 1, 2]),
  ([4, 5, 18, 15], [1, 2, 3, 6, 7, 10, 11, 14], [4, 5, 8, 9, 12, 13, 15, 16, 17, 18], [4, 1, 3, 1, 3, 1, 2]),
  ([4, 5, 18, 19], [1, 2, 3, 6, 7, 10, 11, 14, 15], [4, 5, 8, 9, 12, 13, 16, 17, 18, 19], [4, 1, 3, 1, 3, 1, 3]),
  ([4, 9, 6, 7], [1, 2, 3, 5], [4, 6, 7, 8, 9], [4, 2]),
  ([4, 9, 6, 11], [1, 2, 3, 5, 7], [4, 6, 8, 9, 10, 11], [4, 2, 2]),
  ([4, 9, 6, 15], [1, 2, 3, 5, 7, 11], [4, 6, 8, 9, 10, 12, 13, 14, 15], [4, 2, 2, 1, 1, 2]),
  ([4, 9, 6, 19], [1, 2, 3, 5, 7, 11, 15], [4, 6, 8, 9, 10, 12, 13, 14, 16, 17, 18, 19], [4, 2, 2, 1, 1, 2, 1, 1, 2]),
  ([4, 9, 10, 7], [1, 2, 3, 5, 6], [4, 7, 8, 9, 10], [4, 3]),
  ([4, 9, 10, 11], [1, 2, 3, 5, 6, 7], [4, 8, 9, 10, 11, 12], [4, 4]),
  ([4, 9, 10, 15], [1, 2, 3, 5, 6, 7, 11], [4, 8, 9, 10, 12, 13, 14, 15], [4, 4, 1, 1, 2]),
  ([4, 9, 10, 19], [1, 2, 3, 5, 6, 7, 11, 15], [4, 8, 9, 10, 12, 13, 14, 16, 17, 18, 19], [4, 4, 1, 1, 2, 1, 1, 2]),
  ([4, 9, 14, 7], [1, 2, 3, 5, 6, 10], [4, 7, 8, 9, 11, 12, 13, 14], [4, 3, 1, 1, 2]),
  ([4, 9, 14, 11], [1, 2, 3, 5, 6, 7, 10], [4, 8, 9, 11, 12, 13, 14], [4, 4, 1, 2]),
  ([4, 9, 14, 15], [1, 2, 3, 5, 6, 7, 10, 11], [4, 8, 9, 12, 13, 14, 15, 16], [4, 4, 1, 3]),
  ([4, 9, 14, 19], [1, 2, 3, 5, 6, 7, 10, 11, 15], [4, 8, 9, 12, 13, 14, 16, 17, 18, 19], [4, 4, 1, 3, 1, 1, 2]),
  ([4, 9, 18, 7], [1, 2, 3, 5, 6, 10, 14], [4, 7, 8, 9, 11, 12, 13, 15, 16, 17, 18], [4, 3, 1, 1, 2, 1, 1, 2]),
  ([4, 9, 18, 11], [1, 2, 3, 5, 6, 7, 10, 14], [4, 8, 9, 11, 12, 13, 15, 16, 17, 18], [4, 4, 1, 2, 1, 1, 2]),
  ([4, 9, 18, 15], [1, 2, 3, 5, 6, 7, 10, 11, 14], [4, 8, 9, 12, 13, 15, 16, 17, 18], [4, 4, 1, 3, 1, 2]),
  ([4, 9, 18, 19], [1, 2, 3, 5, 6, 7, 10, 11, 14, 15], [4, 8, 9, 12, 13, 16, 17, 18, 19, 20], [4, 4, 1, 3, 1, 3]),
  ([4, 13, 6, 7], [1, 2, 3, 5, 9], [4, 6, 7, 8, 10, 11, 12, 13], [4, 2, 1, 1, 2]),
  ([4, 13, 6, 11], [1, 2, 3, 5, 7, 9], [4, 6, 8, 10, 11, 12, 13], [4, 2, 2, 2]),
  ([4, 13, 6, 15], [1, 2, 3, 5, 7, 9, 11], [4, 6, 8, 10, 12, 13, 14, 15], [4, 2, 2, 2, 2]),
  ([4, 13, 6, 19], [1, 2, 3, 5, 7, 9, 11, 15], [4, 6, 8, 10, 12, 13, 14, 16, 17, 18, 19], [4, 2, 2, 2, 2, 1, 1, 2]),
  ([4, 13, 10, 7], [1, 2, 3, 5, 6, 9], [4, 7, 8, 10, 11, 12, 13], [4, 3, 1, 2]),
  ([4, 13, 10, 11], [1, 2, 3, 5, 6, 7, 9], [4, 8, 10, 11, 12, 13, 14], [4, 4, 2]),
  ([4, 13, 10, 15], [1, 2, 3, 5, 6, 7, 9, 11], [4, 8, 10, 12, 13, 14, 15, 16], [4, 4, 2, 2]),
  ([4, 13, 10, 19], [1, 2, 3, 5, 6, 7, 9, 11, 15], [4, 8, 10, 12, 13, 14, 16, 17, 18, 19], [4, 4, 2, 2, 1, 1, 2]),
  ([4, 13, 14, 7], [1, 2, 3, 5, 6, 9, 10], [4, 7, 8, 11, 12, 13, 14], [4, 3, 1, 3]),
  ([4, 13, 14, 11], [1, 2, 3, 5, 6, 7, 9, 10], [4, 8, 11, 12, 13, 14, 15, 16], [4, 4, 3]),
  ([4, 13, 14, 15], [1, 2, 3, 5, 6, 7, 9, 10, 11], [4, 8, 12, 13, 14, 15, 16, 17, 18], [4, 4, 4]),
  ([4, 13, 14, 19], [1, 2, 3, 5, 6, 7, 9, 10, 11, 15], [4, 8, 12, 13, 14, 16, 17, 18, 19, 20], [4, 4, 4, 1, 1, 2]),
  ([4, 13, 18, 7], [1, 2, 3, 5, 6, 9, 10, 14], [4, 7, 8, 11, 12, 13, 15, 16, 17, 18], [4, 3, 1, 3, 1, 1, 2]),
  ([4, 13, 18, 11], [1, 2, 3, 5, 6, 7, 9, 10, 14], [4, 8, 11, 12, 13, 15, 16, 17, 18], [4, 4, 3, 1, 1, 2]),
  ([4, 13, 18, 15], [1, 2, 3, 5, 6, 7, 9, 10, 11, 14], [4, 8, 12, 13, 15, 16, 17, 18, 19, 20], [4, 4, 4, 1, 2]),
  ([4, 13, 18, 19], [1, 2, 3, 5, 6, 7, 9, 10, 11, 14, 15], [4, 8, 12, 13, 16, 17, 18, 19, 20, 21, 22], [4, 4, 4, 1, 3]),
  ([4, 17, 6, 7], [1, 2, 3, 5, 9, 13], [4, 6, 7, 8, 10, 11, 12, 14, 15, 16, 17], [4, 2, 1, 1, 2, 1, 1, 2]),
  ([4, 17, 6, 11], [1, 2, 3, 5, 7, 9, 13], [4, 6, 8, 10, 11, 12, 14, 15, 16, 17], [4, 2, 2, 2, 1, 1, 2]),
  ([4, 17, 6, 15], [1, 2, 3, 5, 7, 9, 11, 13], [4, 6, 8, 10, 12, 14, 15, 16, 17], [4, 2, 2, 2, 2, 2]),
  ([4, 17, 6, 19], [1, 2, 3, 5, 7, 9, 11, 13, 15], [4, 6, 8, 10, 12, 14, 16, 17, 18, 19], [4, 2, 2, 2, 2, 2, 2]),
  ([4, 17, 10, 7], [1, 2, 3, 5, 6, 9, 13], [4, 7, 8, 10, 11, 12, 14, 15, 16, 17], [4, 3, 1, 2, 1, 1, 2]),
  ([4, 17, 10, 11], [1, 2, 3, 5, 6, 7, 9, 13], [4, 8, 10, 11, 12, 14, 15, 16, 17], [4, 4, 2, 1, 1, 2]),
  ([4, 17, 10, 15], [1, 2, 3, 5, 6, 7, 9, 11, 13], [4, 8, 10, 12, 14, 15, 16, 17, 18], [4, 4, 2, 2, 2]),
  ([4, 17, 10, 19], [1, 2, 3, 5, 6, 7, 9, 11, 13, 15], [4, 8, 10, 12, 14, 16, 17, 18, 19, 20], [4, 4, 2, 2, 2, 2]),
  ([4, 17, 14, 7], [1, 2, 3, 5, 6, 9, 10, 13], [4, 7, 8, 11, 12, 14, 15, 16, 17], [4, 3, 1, 3, 1, 2]),
  ([4, 17, 14, 11], [1, 2, 3, 5, 6, 7, 9, 10, 13], [4, 8, 11, 12, 14, 15, 16, 17, 18], [4, 4, 3, 1, 2]),
  ([4, 17, 14, 15], [1, 2, 3, 5, 6, 7, 9, 10, 11, 13], [4, 8, 12, 14, 15, 16, 17, 18, 19, 20], [4, 4, 4, 2]),
  ([4, 17, 14, 19], [1, 2, 3, 5, 6, 7, 9, 10, 11, 13, 15], [4, 8, 12, 14, 16, 17, 18, 19, 20, 21, 22], [4, 4, 4, 2, 2]),
  ([4, 17, 18, 7], [1, 2, 3, 5, 6, 9, 10, 13, 14], [4, 7, 8, 11, 12, 15, 16, 17, 18], [4, 3, 1, 3, 1, 3]),
  ([4, 17, 18, 11], [1, 2, 3, 5, 6, 7, 9, 10, 13, 14], [4, 8, 11, 12, 15, 16, 17, 18, 19, 20], [4, 4, 3, 1, 3]),
  ([4, 17, 18, 15], [1, 2, 3, 5, 6, 7, 9, 10, 11, 13, 14], [4, 8, 12, 15, 16, 17, 18, 19, 20, 21, 22], [4, 4, 4, 3]),
  ([4, 17, 18, 19], [1, 2, 3, 5, 6, 7, 9, 10, 11, 13, 14, 15], [4, 8, 12, 16, 17, 18, 19, 20, 21, 22, 23, 24], [4, 4, 4, 4]),
  ([5, 6, 7, 8, 9], [1, 2, 3, 4], [5, 6, 7, 8], [5]),
  ([5, 6, 7, 8, 14], [1, 2, 3, 4, 9], [5, 6, 7, 8, 10, 11, 12, 13], [5, 1, 1, 1, 2]),
  ([5, 6, 7, 8, 19], [1, 2, 3, 4, 9, 14], [5, 6, 7, 8, 10, 11, 12, 13, 15, 16, 17, 18], [5, 1, 1, 1, 2, 1, 1, 1, 2]),
  ([5, 6, 7, 13, 9], [1, 2, 3, 4, 8], [5, 6, 7, 9, 10, 11, 12], [5, 1, 1, 2]),
  ([5, 6, 7, 13, 14], [1, 2, 3, 4, 8, 9], [5, 6, 7, 10, 11, 12, 13], [5, 1, 1, 3]),
  ([5, 6, 7, 13, 19], [1, 2, 3, 4, 8, 9, 14], [5, 6, 7, 10, 11, 12, 13, 15, 16, 17, 18], [5, 1, 1, 3, 1, 1, 1, 2]),
  ([5, 6, 7, 18, 9], [1, 2, 3, 4, 8, 13], [5, 6, 7, 9, 10, 11, 12, 14, 15, 16, 17], [5, 1, 1, 2, 1, 1, 1, 2]),
  ([5, 6, 7, 18, 14], [1, 2, 3, 4, 8, 9, 13], [5, 6, 7, 10, 11, 12, 14, 15, 16, 17], [5, 1, 1, 3, 1, 1, 2]),
  ([5, 6, 7, 18, 19], [1, 2, 3, 4, 8, 9, 13, 14], [5, 6, 7, 10, 11, 12, 15, 16, 17, 18], [5, 1, 1, 3, 1, 1, 3]),
  ([5, 6, 12, 8, 9], [1, 2, 3, 4, 7], [5, 6, 8, 9, 10, 11], [5, 1, 2]),
  ([5, 6, 12, 8, 14], [1, 2, 3, 4, 7, 9], [5, 6, 8, 10, 11, 12, 13], [5, 1, 2, 2]),
  ([5, 6, 12, 8, 19], [1, 2, 3, 4, 7, 9, 14], [5, 6, 8, 10, 11, 12, 13, 15, 16, 17, 18], [5, 1, 2, 2, 1, 1, 1, 2]),
  ([5, 6, 12, 13, 9], [1, 2, 3, 4, 7, 8], [5, 6, 9, 10, 11, 12], [5, 1, 3]),
  ([5, 6, 12, 13, 14], [1, 2, 3, 4, 7, 8, 9], [5, 6, 10, 11, 12, 13, 14], [5, 1, 4]),
  ([5, 6, 12, 13, 19], [1, 2, 3, 4, 7, 8, 9, 14], [5, 6, 10, 11, 12, 13, 15, 16, 17, 18], [5, 1, 4, 1, 1, 1, 2]),
  ([5, 6, 12, 18, 9], [1, 2, 3, 4, 7, 8, 13], [5, 6, 9, 10, 11, 12, 14, 15, 16, 17], [5, 1, 3, 1, 1, 1, 2]),
  ([5, 6, 12, 18, 14], [1, 2, 3, 4, 7, 8, 9, 13], [5, 6, 10, 11, 12, 14, 15, 16, 17], [5, 1, 4, 1, 1, 2]),
  ([5, 6, 12, 18, 19], [1, 2, 3, 4, 7, 8, 9, 13, 14], [5, 6, 10, 11, 12, 15, 16, 17, 18], [5, 1, 4, 1, 1, 3]),
  ([5, 6, 17, 8, 9], [1, 2, 3, 4, 7, 12], [5, 6, 8, 9, 10, 11, 13, 14, 15, 16], [5, 1, 2, 1, 1, 1, 2]),
  ([5, 6, 17, 8, 14], [1, 2, 3, 4, 7, 9, 12], [5, 6, 8, 10, 11, 13, 14, 15, 16], [5, 1, 2, 2, 1, 2]),
  ([5, 6, 17, 8, 19], [1, 2, 3, 4, 7, 9, 12, 14], [5, 6, 8, 10, 11, 13, 15, 16, 17, 18], [5, 1, 2, 2, 1, 2, 2]),
  ([5, 6, 17, 13, 9], [1, 2, 3, 4, 7, 8, 12], [5, 6, 9, 10, 11, 13, 14, 15, 16], [5, 1, 3, 1, 1, 2]),
  ([5, 6, 17, 13, 14], [1, 2, 3, 4, 7, 8, 9, 12], [5, 6, 10, 11, 13, 14, 15, 16], [5, 1, 4, 1, 2]),
  ([5, 6, 17, 13, 19], [1, 2, 3, 4, 7, 8, 9, 12, 14], [5, 6, 10, 11, 13, 15, 16, 17, 18], [5, 1, 4, 1, 2, 2]),
  ([5, 6, 17, 18, 9], [1, 2, 3, 4, 7, 8, 12, 13], [5, 6, 9, 10, 11, 14, 15, 16, 17], [5, 1, 3, 1, 1, 3]),
  ([5, 6, 17, 18, 14], [1, 2, 3, 4, 7, 8, 9, 12, 13], [5, 6, 10, 11, 14, 15, 16, 17, 18], [5, 1, 4, 1, 3]),
  ([5, 6, 17, 18, 19], [1, 2, 3, 4, 7, 8, 9, 12, 13, 14], [5, 6, 10, 11, 15, 16, 17, 18, 19, 20], [5, 1, 4, 1, 4]),
  ([5, 11, 7, 8, 9], [1, 2, 3, 4, 6], [5, 7, 8, 9, 10], [5, 2]),
  ([5, 11, 7, 8, 14], [1, 2, 3, 4, 6, 9], [5, 7, 8, 10, 11, 12, 13], [5, 2, 1, 2]),
  ([5, 11, 7, 8, 19], [1, 2, 3, 4, 6, 9, 14], [5, 7, 8, 10, 11, 12, 13, 15, 16, 17, 18], [5, 2, 1, 2, 1, 1, 1, 2]),
  ([5, 11, 7, 13, 9], [1, 2, 3, 4, 6, 8], [5, 7, 9, 10, 11, 12], [5, 2, 2]),
  ([5, 11, 7, 13, 14], [1, 2, 3, 4, 6, 8, 9], [5, 7, 10, 11, 12, 13, 14], [5, 2, 3]),
  ([5, 11, 7, 13, 19], [1, 2, 3, 4, 6, 8, 9, 14], [5, 7, 10, 11, 12, 13, 15, 16, 17, 18], [5, 2, 3, 1, 1, 1, 2]),
  ([5, 11, 7, 18, 9], [1, 2, 3, 4, 6, 8, 13], [5, 7, 9, 10, 11, 12, 14, 15, 16, 17], [5, 2, 2, 1, 1, 1, 2]),
  ([5, 11, 7, 18, 14], [1, 2, 3, 4, 6, 8, 9, 13], [5, 7, 10, 11, 12, 14, 15, 16, 17], [5, 2, 3, 1, 1, 2]),
  ([5, 11, 7, 18, 19], [1, 2, 3, 4, 6, 8, 9, 13, 14], [5, 7, 10, 11, 12, 15, 16, 17, 18], [5, 2, 3, 1, 1, 3]),
  ([5, 11, 12, 8, 9], [1, 2, 3, 4, 6, 7], [5, 8, 9, 10, 11, 12], [5, 3]),
  ([5, 11, 12, 8, 14], [1, 2, 3, 4, 6, 7, 9], [5, 8, 10, 11, 12, 13, 14], [5, 3, 2]),
  ([5, 11, 12, 8, 19], [1, 2, 3, 4, 6, 7, 9, 14], [5, 8, 10, 11, 12, 13, 15, 16, 17, 18], [5, 3, 2, 1, 1, 1, 2]),
  ([5, 11, 12, 13, 9], [1, 2, 3, 4, 6, 7, 8], [5, 9, 10, 11, 12, 13, 14], [5, 4]),
  ([5, 11, 12, 13, 14], [1, 2, 3, 4, 6, 7, 8, 9], [5, 10, 11, 12, 13, 14, 15, 16], [5, 5]),
  ([5, 11, 12, 13, 19], [1, 2, 3, 4, 6, 7, 8, 9, 14], [5, 10, 11, 12, 13, 15, 16, 17, 18], [5, 5, 1, 1, 1, 2]),
  ([5, 11, 12, 18, 9], [1, 2, 3, 4, 6, 7, 8, 13], [5, 9, 10, 11, 12, 14, 15, 16, 17], [5, 4, 1, 1, 1, 2]),
  ([5, 11, 12, 18, 14], [1, 2, 3, 4, 6, 7, 8, 9, 13], [5, 10, 11, 12, 14, 15, 16, 17, 18], [5, 5, 1, 1, 2]),
  ([5, 11, 12, 18, 19], [1, 2, 3, 4, 6, 7, 8, 9, 13, 14], [5, 10, 11, 12, 15, 16, 17, 18, 19, 20], [5, 5, 1, 1, 3]),
  ([5, 11, 17, 8, 9], [1, 2, 3, 4, 6, 7, 12], [5, 8, 9, 10, 11, 13, 14, 15, 16], [5, 3, 1, 1, 1, 2]),
  ([5, 11, 17, 8, 14], [1, 2, 3, 4, 6, 7, 9, 12], [5, 8, 10, 11, 13, 14, 15, 16], [5, 3, 2, 1, 2]),
  ([5, 11, 17, 8, 19], [1, 2, 3, 4, 6, 7, 9, 12, 14], [5, 8, 10, 11, 13, 15, 16, 17, 18], [5, 3, 2, 1, 2, 2]),
  ([5, 11, 17, 13, 9], [1, 2, 3, 4, 6, 7, 8, 12], [5, 9, 10, 11, 13, 14, 15, 16], [5, 4, 1, 1, 2]),
  ([5, 11, 17, 13, 14], [1, 2, 3, 4, 6, 7, 8, 9, 12], [5, 10, 11, 13, 14, 15, 16, 17, 18], [5, 5, 1, 2]),
  ([5, 11, 17, 13, 19], [1, 2, 3, 4, 6, 7, 8, 9, 12, 14], [5, 10, 11, 13, 15, 16, 17, 18, 19, 20], [5, 5, 1, 2, 2]),
  ([5, 11, 17, 18, 9], [1, 2, 3, 4, 6, 7, 8, 12, 13], [5, 9, 10, 11, 14, 15, 16, 17, 18], [5, 4, 1, 1, 3]),
  ([5, 11, 17, 18, 14], [1, 2, 3, 4, 6, 7, 8, 9, 12, 13], [5, 10, 11, 14, 15, 16, 17, 18, 19, 20], [5, 5, 1, 3]),
  ([5, 11, 17, 18, 19], [1, 2, 3, 4, 6, 7, 8, 9, 12, 13, 14], [5, 10, 11, 15, 16, 17, 18, 19, 20, 21, 22], [5, 5, 1, 4]),
  ([5, 16, 7, 8, 9], [1, 2, 3, 4, 6, 11], [5, 7, 8, 9, 10, 12, 13, 14, 15], [5, 2, 1, 1, 1, 2]),
  ([5, 16, 7, 8, 14], [1, 2, 3, 4, 6, 9, 11], [5, 7, 8, 10, 12, 13, 14, 15], [5, 2, 1, 2, 2]),
  ([5, 16, 7, 8, 19], [1, 2, 3, 4, 6, 9, 11, 14], [5, 7, 8, 10, 12, 13, 15, 16, 17, 18], [5, 2, 1, 2, 2, 1, 2]),
  ([5, 16, 7, 13, 9], [1, 2, 3, 4, 6, 8, 11], [5, 7, 9, 10, 12, 13, 14, 15], [5, 2, 2, 1, 2]),
  ([5, 16, 7, 13, 14], [1, 2, 3, 4, 6, 8, 9, 11], [5, 7, 10, 12, 13, 14, 15, 16], [5, 2, 3, 2]),
  ([5, 16, 7, 13, 19], [1, 2, 3, 4, 6, 8, 9, 11, 14], [5, 7, 10, 12, 13, 15, 16, 17, 18], [5, 2, 3, 2, 1, 2]),
  ([5, 16, 7, 18, 9], [1, 2, 3, 4, 6, 8, 11, 13], [5, 7, 9, 10, 12, 14, 15, 16, 17], [5, 2, 2, 1, 2, 2]),
  ([5, 16, 7, 18, 14], [1, 2, 3, 4, 6, 8, 9, 11, 13], [5, 7, 10, 12, 14, 15, 16, 17, 18], [5, 2, 3, 2, 2]),
  ([5, 16, 7, 18, 19], [1, 2, 3, 4, 6, 8, 9, 11, 13, 14], [5, 7, 10, 12, 15, 16, 17, 18, 19, 20], [5, 2, 3, 2, 3]),
  ([5, 16, 12, 8, 9], [1, 2, 3, 4, 6, 7, 11], [5, 8, 9, 10, 12, 13, 14, 15], [5, 3, 1, 1, 2]),
  ([5, 16, 12, 8, 14], [1, 2, 3, 4, 6, 7, 9, 11], [5, 8, 10, 12, 13, 14, 15, 16], [5, 3, 2, 2]),
  ([5, 16, 12, 8, 19], [1, 2, 3, 4, 6, 7, 9, 11, 14], [5, 8, 10, 12, 13, 15, 16, 17, 18], [5, 3, 2, 2, 1, 2]),
  ([5, 16, 12, 13, 9], [1, 2, 3, 4, 6, 7, 8, 11], [5, 9, 10, 12, 13, 14, 15, 16], [5, 4, 1, 2]),
  ([5, 16, 12, 13, 14], [1, 2, 3, 4, 6, 7, 8, 9, 11], [5, 10, 12, 13, 14, 15, 16, 17, 18], [5, 5, 2]),
  ([5, 16, 12, 13, 19], [1, 2, 3, 4, 6, 7, 8, 9, 11, 14], [5, 10, 12, 13, 15, 16, 17, 18, 19, 20], [5, 5, 2, 1, 2]),
  ([5, 16, 12, 18, 9], [1, 2, 3, 4, 6, 7, 8, 11, 13], [5, 9, 10, 12, 14, 15, 16, 17, 18], [5, 4, 1, 2, 2]),
  ([5, 16, 12, 18, 14], [1, 2, 3, 4, 6, 7, 8, 9, 11, 13], [5, 10, 12, 14, 15, 16, 17, 18, 19, 20], [5, 5, 2, 2]),
  ([5, 16, 12, 18, 19], [1, 2, 3, 4, 6, 7, 8, 9, 11, 13, 14], [5, 10, 12, 15, 16, 17, 18, 19, 20, 21, 22], [5, 5, 2, 3]),
  ([5, 16, 17, 8, 9], [1, 2, 3, 4, 6, 7, 11, 12], [5, 8, 9, 10, 13, 14, 15, 16], [5, 3, 1, 1, 3]),
  ([5, 16, 17, 8, 14], [1, 2, 3, 4, 6, 7, 9, 11, 12], [5, 8, 10, 13, 14, 15, 16, 17, 18], [5, 3, 2, 3]),
  ([5, 16, 17, 8, 19], [1, 2, 3, 4, 6, 7, 9, 11, 12, 14], [5, 8, 10, 13, 15, 16, 17, 18, 19, 20], [5, 3, 2, 3, 2]),
  ([5, 16, 17, 13, 9], [1, 2, 3, 4, 6, 7, 8, 11, 12], [5, 9, 10, 13, 14, 15, 16, 17, 18], [5, 4, 1, 3]),
  ([5, 16, 17, 13, 14], [1, 2, 3, 4, 6, 7, 8, 9, 11, 12], [5, 10, 13, 14, 15, 16, 17, 18, 19, 20], [5, 5, 3]),
  ([5, 16, 17, 13, 19], [1, 2, 3, 4, 6, 7, 8, 9, 11, 12, 14], [5, 10, 13, 15, 16, 17, 18, 19, 20, 21, 22], [5, 5, 3, 2]),
  ([5, 16, 17, 18, 9], [1, 2, 3, 4, 6, 7, 8, 11, 12, 13], [5, 9, 10, 14, 15, 16, 17, 18, 19, 20], [5, 4, 1, 4]),
  ([5, 16, 17, 18, 14], [1, 2, 3, 4, 6, 7, 8, 9, 11, 12, 13], [5, 10, 14, 15, 16, 17, 18, 19, 20, 21, 22], [5, 5, 4]),
  ([5, 16, 17, 18, 19], [1, 2, 3, 4, 6, 7, 8, 9, 11, 12, 13, 14], [5, 10, 15, 16, 17, 18, 19, 20, 21, 22, 23, 24], [5, 5, 5])]

theorem all_cut {α : Type} {p : α → Bool} {l : List α} {n k : Nat} (h1 : ((l.drop n).take k).all p = true) (h2 : (l.drop (n + k)).all p = true) : (l.drop n).all p = true := by
  rw [← List.take_append_drop k (l.drop n), List.all_append, h1, List.drop_drop, h2]; rfl
theorem tbl_firsts : allFirsts = tbl.map (·.1) := by decide +kernel
noncomputable def eqs1 (r : List Int × List Int × List Int × List Int) : Bool := gapsF r.1 == r.2.1 && membersF r.2.1 == r.2.2.1 && sizesF r.2.1 == r.2.2.2
theorem t_eqs : tbl.all eqs1 = true := by decide +kernel
theorem t_okA : tbl.all (fun r => okA r.1) = true := by decide +kernel
theorem t_okG : tbl.all (fun r => okG r.2.1) = true := by decide +kernel
theorem t_okM : tbl.all (fun r => okM r.2.1 r.2.2.1 r.2.2.2) = true := by decide +kernel
noncomputable def okPr (r : List Int × List Int × List Int × List Int) : Bool := okP r.2.1
theorem t_P0 : ((tbl.drop 0).take 45).all okPr = true := by decide +kernel
theorem t_P1 : ((tbl.drop 45).take 44).all okPr = true := by decide +kernel
theorem t_P2 : ((tbl.drop 89).take 40).all okPr = true := by decide +kernel
theorem t_P3 : ((tbl.drop 129).take 21).all okPr = true := by decide +kernel
theorem t_P4 : (tbl.drop 150).all okPr = true := by decide +kernel
theorem t_okP : tbl.all okPr = true := by
  have := all_cut t_P0 (all_cut t_P1 (all_cut t_P2 (all_cut t_P3 t_P4)))
  rwa [List.drop_zero] at this

-- the masks
noncomputable def maskA (m : Nat) : Bool := decide (m < 2 ^ 32) && ((bitsOf m).map fun p => (1 : Int) * 2 ^ p.toNat).sum == (m : Int) && (pfGo 32 0 m [] == (if (bitsOf m).map wordOne != [] then (bitsOf m).map wordOne else ["0x0"])) && decide ((bitsOf m).length ≤ 31) && (bitsOf m).all fun p => decide (1 ≤ p ∧ p ≤ 30)
theorem m_A : masks.all maskA = true := by decide +kernel
noncomputable def cntOf (w : Str) : Nat := if w == "0x0" then 0 else (Txt.split w ", ").length
noncomputable def maskB (m : Nat) : Bool := cntOf (wordsF (bitsOf m)) == (bitsOf m).length && decide ((wordsF (bitsOf m)).length ≤ 1000) && decide ((Txt.split (wordsF (bitsOf m)) ", ").length ≤ 100)
theorem m_B0 : ((masks.drop 0).take 30).all maskB = true := by decide +kernel
theorem m_B1 : ((masks.drop 30).take 13).all maskB = true := by decide +kernel
theorem m_B2 : ((masks.drop 43).take 12).all maskB = true := by decide +kernel
theorem m_B3 : ((masks.drop 55).take 9).all maskB = true := by decide +kernel
theorem m_B4 : ((masks.drop 64).take 8).all maskB = true := by decide +kernel
theorem m_B5 : ((masks.drop 72).take 8).all maskB = true := by decide +kernel
theorem m_B6 : ((masks.drop 80).take 6).all maskB = true := by decide +kernel
theorem m_B7 : ((masks.drop 86).take 6).all maskB = true := by decide +kernel
theorem m_B8 : ((masks.drop 92).take 6).all maskB = true := by decide +kernel
theorem m_B9 : ((masks.drop 98).take 7).all maskB = true := by decide +kernel
theorem m_Ba : (masks.drop 105).all maskB = true := by decide +kernel
theorem m_B : masks.all maskB = true := by
  have := all_cut m_B0 (all_cut m_B1 (all_cut m_B2 (all_cut m_B3 (all_cut m_B4 (all_cut m_B5 (all_cut m_B6 (all_cut m_B7 (all_cut m_B8 (all_cut m_B9 m_Ba)))))))))
  rwa [List.drop_zero] at this

-- the brackets
noncomputable def brs (m : List Int) (n : Nat) : List Bool := (List.range' 1 n).map fun (p : Nat) => m.any (· == (p : Int))
noncomputable def txtB (g : List Int) (b : List Bool) (p : Int) (k : Nat) : List Bool := b.take (p - 1).toNat ++ (List.replicate (partsF g p).length true ++ List.replicate k false)
noncomputable def even (g : List Int) (cut : Nat) : Bool := 2 * (g.filter fun p => decide (p ≤ (cut : Int))).length == cut
noncomputable def cutOk (g : List Int) (w : List Bool) (c : Nat) : Bool := balN (w.take (c + 1)) 0 == even g (c + 1) && balN (w.drop (c + 1) ++ w.take (c + 1)) 0 == even g (c + 1)
noncomputable def lackF (m : List Int) (q : Int) : Nat := (m.filter fun p => m.any (· == q - p)).length
noncomputable def brkOk (g m : List Int) (b : List Bool) : List Int → Bool
  | [] => (g.all fun p => balN (txtB g b p 0) 0) && balN (b.take (2 * g.length)) 0 && (List.range (2 * g.length - 1)).all (cutOk g (b.take (2 * g.length)))
  | q :: _ => (fun i : Nat => g.getD i 0 == q && decide (i < g.length) && ((g.take i).all fun p => p != q && balN (txtB g b p 0) 0) && !balN (txtB g b q 0) 0 && !balN (txtB g b q (lackF m q)) 0 && decide (lackF m q ≤ 40)) (g.idxOf q)
noncomputable def okB (r : List Int × List Int × List Int × List Int) : Bool := brkOk r.2.1 r.2.2.1 (brs r.2.2.1 (stopF r.2.1)) (brokenF r.1)
theorem t_B0 : ((tbl.drop 0).take 45).all okB = true := by decide +kernel
theorem t_B1 : ((tbl.drop 45).take 44).all okB = true := by decide +kernel
theorem t_B2 : ((tbl.drop 89).take 40).all okB = true := by decide +kernel
theorem t_B3 : ((tbl.drop 129).take 21).all okB = true := by decide +kernel
theorem t_B4 : (tbl.drop 150).all okB = true := by decide +kernel
theorem t_okB : tbl.all okB = true := by
  have := all_cut t_B0 (all_cut t_B1 (all_cut t_B2 (all_cut t_B3 t_B4)))
  rwa [List.drop_zero] at this
end Py

set_option maxRecDepth 100000
set_option maxHeartbeats 8000000
namespace Py

-- the signs as tokens
noncomputable def shTk (dress : Int) (k : Nat) : List Tk := match (dress / 4 ^ k % 4).toNat with
  | 1 => [.s1]
  | 2 => [.s2]
  | 3 => [.s3]
  | _ => []
noncomputable def isM (m : List Int) (p : Nat) : Bool := m.any (· == (p : Int))
noncomputable def sgTk (m : List Int) (dress : Int) (p : Nat) : List Tk := (if p % 3 == 0 then shTk dress (p / 3) else []) ++ [if isM m p then .cl else .op]
theorem encs_app (a b : List Tk) : encs (a ++ b) = encs a ++ encs b := by unfold encs; rw [List.flatMap_append]
theorem encs_rep (t : Tk) (c : Nat) (h : t.enc = [c]) (n : Nat) : encs (List.replicate n t) = List.replicate n c := by
  induction n with
  | zero => rfl
  | succ n ih =>
    rw [List.replicate_succ, List.replicate_succ]
    show t.enc ++ encs (List.replicate n t) = _
    rw [h, ih]; rfl
theorem shield_enc (dress : Int) (k : Nat) : (shieldAt dress k).cps.toList = encs (shTk dress k) := by
  unfold shieldAt shTk
  have h : (dress / 4 ^ k % 4).toNat < 4 := by omega
  generalize (dress / 4 ^ k % 4).toNat = j at h
  match j, h with
  | 0, _ | 1, _ | 2, _ | 3, _ => decide
theorem sign_enc (m : List Int) (dress : Int) (p : Nat) : (signOne m dress p).cps.toList = encs (sgTk m dress p) := by
  unfold signOne sgTk isM
  rw [cps_append, encs_app]
  congr 1
  · split
    · exact shield_enc dress _
    · decide
  · split <;> decide
theorem join_enc (m : List Int) (dress : Int) (L : List Nat) : (Txt.join "" (L.map (signOne m dress))).cps.toList = encs (L.flatMap (sgTk m dress)) := by
  rw [cps_join0]
  induction L with
  | nil => rfl
  | cons p r ih => rw [List.map_cons, List.flatMap_cons, List.flatMap_cons, encs_app, ih, sign_enc]
noncomputable def tkB : Tk → Option Bool
  | .op => some false
  | .cl => some true
  | _ => none
theorem balT_B : ∀ (ts : List Tk) (o : Nat), balT ts (o : Int) = balN (ts.filterMap tkB) o
  | [], o => by
    show ((o : Int) == 0) = (o == 0)
    cases o with
    | zero => rfl
    | succ o => exact Bool.eq_false_iff.mpr fun h => by have := eq_of_beq h; omega
  | .op :: r, o => balT_B r (o + 1)
  | .cl :: r, 0 => rfl
  | .cl :: r, o + 1 => by
    show (if ((o + 1 : Nat) : Int) - 1 < 0 then false else balT r (((o + 1 : Nat) : Int) - 1)) = balN (r.filterMap tkB) o
    have e : ((o + 1 : Nat) : Int) - 1 = (o : Int) := by omega
    rw [e, if_neg (by omega)]
    exact balT_B r o
  | .s1 :: r, o => balT_B r o
  | .s2 :: r, o => balT_B r o
  | .s3 :: r, o => balT_B r o
theorem sh_B (dress : Int) (k : Nat) : (shTk dress k).filterMap tkB = [] := by unfold shTk; split <;> rfl
theorem sg_B (m : List Int) (dress : Int) (p : Nat) : (sgTk m dress p).filterMap tkB = [isM m p] := by
  unfold sgTk
  rw [List.filterMap_append]
  have : (if (p % 3 == 0) = true then shTk dress (p / 3) else []).filterMap tkB = [] := by
    split
    · exact sh_B _ _
    · rfl
  rw [this]
  cases isM m p <;> rfl
theorem flat_B (m : List Int) (dress : Int) (L : List Nat) : (L.flatMap (sgTk m dress)).filterMap tkB = L.map (isM m) := by
  induction L with
  | nil => rfl
  | cons p r ih => rw [List.flatMap_cons, List.filterMap_append, sg_B, ih]; rfl
theorem rep_B (t : Tk) (b : Bool) (h : tkB t = some b) (n : Nat) : (List.replicate n t).filterMap tkB = List.replicate n b := by
  induction n with
  | zero => rfl
  | succ n ih => rw [List.replicate_succ, List.filterMap_cons, h, ih]; rfl

/-- a text of signs, then n ')' and k '(' -/
theorem parens_signs {m : List Int} {dress : Int} {L : List Nat} {n k : Nat} {x : Str} (hx : x.cps.toList = encs (L.flatMap (sgTk m dress) ++ (List.replicate n .cl ++ List.replicate k .op))) :
    parens x = balN (L.map (isM m) ++ (List.replicate n true ++ List.replicate k false)) 0 := by
  rw [parens_enc hx]
  have := balT_B (L.flatMap (sgTk m dress) ++ (List.replicate n .cl ++ List.replicate k .op)) 0
  rw [List.filterMap_append, List.filterMap_append, flat_B, rep_B .cl true rfl, rep_B .op false rfl] at this
  exact this
theorem parens_join (m : List Int) (dress : Int) (L : List Nat) : parens (Txt.join "" (L.map (signOne m dress))) = balN (L.map (isM m)) 0 := by
  have := parens_signs (n := 0) (k := 0) (x := Txt.join "" (L.map (signOne m dress))) (m := m) (dress := dress) (L := L) (by rw [join_enc]; simp)
  simpa using this
theorem parens_text (m : List Int) (dress : Int) (L : List Nat) (n : Nat) : parens (Txt.join "" (L.map (signOne m dress)) ++ Txt.mul ")" (n : Int)) = balN (L.map (isM m) ++ List.replicate n true) 0 := by
  have := parens_signs (n := n) (k := 0) (x := Txt.join "" (L.map (signOne m dress)) ++ Txt.mul ")" (n : Int)) (m := m) (dress := dress) (L := L) (by
    rw [cps_append, join_enc, encs_app, encs_app, encs_rep .cl 41 rfl, cps_mul_one (c := 41) (by decide)]
    simp [encs])
  simpa using this
theorem parens_more (m : List Int) (dress : Int) (L : List Nat) (n k : Nat) : parens ((Txt.join "" (L.map (signOne m dress)) ++ Txt.mul ")" (n : Int)) ++ Txt.mul "(" (k : Int)) = balN (L.map (isM m) ++ (List.replicate n true ++ List.replicate k false)) 0 :=
  parens_signs (by
    rw [cps_append, cps_append, join_enc, encs_app, encs_app, encs_rep .cl 41 rfl, encs_rep .op 40 rfl, cps_mul_one (c := 41) (by decide), cps_mul_one (c := 40) (by decide), List.append_assoc]
    rfl)
theorem join_le6 {L : List Str} (h : ∀ x ∈ L, x.length ≤ 6) : (Txt.join "" L).length ≤ 6 * L.length := by
  rw [cps_len, cps_join0]
  induction L with
  | nil => exact Nat.le_refl _
  | cons x r ih =>
    have h1 := ih fun y hy => h y (.tail _ hy)
    have h2 := h x (.head _)
    rw [cps_len] at h2
    rw [List.flatMap_cons, List.length_append, List.length_cons]; omega
theorem mul_len {x : Str} {c : Nat} (h : x.cps.toList = [c]) (n : Nat) : (Txt.mul x (n : Int)).length = n := by
  rw [cps_len, cps_mul_one h]; simp
end Py

set_option maxRecDepth 100000
set_option maxHeartbeats 8000000
namespace Py

structure Facts (f g m s : List Int) : Prop where
  hg : gapsF f = g
  hs : sizesF g = s
  mem : membersF g = m
  ha : okA f = true
  hG : okG g = true
  hM : okM g m s = true
  hP : okP g = true
  hB : brkOk g m (brs m (stopF g)) (brokenF f) = true
  sl : s.length ≤ 100
theorem t_sl : tbl.all (fun r => decide (r.2.2.2.length ≤ 100)) = true := by decide +kernel
theorem facts (cells : List Int) : ∃ g m s, Facts (firstsF cells) g m s := by
  have h := firsts_mem cells
  rw [tbl_firsts] at h
  obtain ⟨r, hr, e⟩ := List.mem_map.mp h
  have h1 := List.all_eq_true.mp t_eqs r hr
  simp only [eqs1, Bool.and_eq_true, beq_iff_eq] at h1
  refine ⟨r.2.1, r.2.2.1, r.2.2.2, ?_⟩
  rw [← e]
  exact ⟨h1.1.1, h1.2, h1.1.2, List.all_eq_true.mp t_okA r hr, List.all_eq_true.mp t_okG r hr, List.all_eq_true.mp t_okM r hr, List.all_eq_true.mp t_okP r hr, List.all_eq_true.mp t_okB r hr, of_decide_eq_true (List.all_eq_true.mp t_sl r hr)⟩

section
variable {f g m s : List Int} (F : Facts f g m s)
include F
theorem Facts.f1 : 1 ≤ f.length := by have := F.ha; simp only [okA, Bool.and_eq_true, decide_eq_true_eq] at this; exact this.1.1
theorem Facts.f5 : f.length ≤ 5 := by have := F.ha; simp only [okA, Bool.and_eq_true, decide_eq_true_eq] at this; exact this.1.2
theorem Facts.sm (r : Nat) (h1 : 1 ≤ r) (h2 : r < f.length) : Builtin.Range.small r (f.getD r 0) f.length = true := by
  have := F.ha
  simp only [okA, Bool.and_eq_true] at this
  exact List.all_eq_true.mp this.2 r (List.mem_range'_1.mpr ⟨h1, by omega⟩)
theorem Facts.gs : g ≠ [] ∧ g.length ≤ 30 ∧ 0 ≤ g.getLastD 0 ∧ g.getLastD 0 ≤ 26 ∧ stopF g ≤ 40 ∧ ∀ p ∈ g, 1 ≤ p ∧ p ≤ 30 := by
  have := F.hG
  simp only [okG, Bool.and_eq_true, decide_eq_true_eq, bne_iff_ne, List.all_eq_true] at this
  exact ⟨this.1.1.1.1.1, this.1.1.1.1.2, this.1.1.1.2, this.1.1.2, this.1.2, this.2⟩
theorem Facts.raw : (gapsRaw f).length ≤ 40 := by
  have h := F.gs.2.1
  rw [← F.hg] at h
  unfold gapsF at h
  rw [(srt_perm _).length_eq] at h
  omega
theorem Facts.ms : marksF (s ++ [1, 0, 5]) (stopF g) = m ∧ marksF (s ++ [127, 1]) (stopF g) = m.take s.length ∧ breaks (stopF g) (groupGo 0 (s ++ [1, 0, 5])).1 0 = true ∧ (groupGo 0 (s ++ [1, 0, 5])).1.length ≤ 1000 ∧ (groupGo 0 (s ++ [127, 1])).2 = true ∧ (groupGo 0 (s ++ [127, 1])).1.length ≤ 1000 := by
  have := F.hM
  simp only [okM, Bool.and_eq_true, decide_eq_true_eq, beq_iff_eq] at this
  exact ⟨this.1.1.1.1.1.1, this.1.1.1.1.1.2, this.1.1.1.1.2, this.1.1.1.2, this.1.1.2, this.1.2⟩
theorem Facts.head {c : Int} {r : List Int} (hc : c ≠ 0) (x : Int) (q : List Int) (e : s ++ c :: r = x :: q) : x ≠ 0 := by
  have := F.hM
  simp only [okM, Bool.and_eq_true] at this
  have h := this.2
  cases s with
  | nil => cases e; exact hc
  | cons y t => cases e; simpa using h
theorem Facts.ml : m.length ≤ 40 := by
  rw [← F.mem]
  unfold membersF
  refine Nat.le_trans (List.length_filter_le _ _) ?_
  rw [List.length_map, List.length_range']
  exact F.gs.2.2.2.2.1
theorem Facts.parts {p : Int} (hp : p ∈ g) : mask1 (partsF g p) ∈ masks ∧ bitsOf (mask1 (partsF g p)) = partsF g p := by
  have := List.all_eq_true.mp F.hP p hp
  simp only [Bool.and_eq_true, beq_iff_eq, List.contains_iff_mem] at this
  exact this
end
theorem mask_facts {k : Nat} (h : k ∈ masks) : k < 2 ^ 32 ∧ ((bitsOf k).map fun p => (1 : Int) * 2 ^ p.toNat).sum = (k : Int) ∧ pfText k = wordsF (bitsOf k) ∧ (bitsOf k).length ≤ 31 ∧ (∀ p ∈ bitsOf k, 1 ≤ p ∧ p ≤ 30) ∧ cntOf (wordsF (bitsOf k)) = (bitsOf k).length ∧ (wordsF (bitsOf k)).length ≤ 1000 ∧ (Txt.split (wordsF (bitsOf k)) ", ").length ≤ 100 := by
  have h1 := List.all_eq_true.mp m_A k h
  have h2 := List.all_eq_true.mp m_B k h
  simp only [maskA, maskB, Bool.and_eq_true, decide_eq_true_eq, beq_iff_eq, List.all_eq_true] at h1 h2
  obtain ⟨⟨⟨⟨a1, a2⟩, a3⟩, a4⟩, a5⟩ := h1
  obtain ⟨⟨b1, b2⟩, b3⟩ := h2
  refine ⟨a1, a2, ?_, a4, a5, b1, b2, b3⟩
  unfold pfText wordsF
  rw [a3]
  split
  · rfl
  · decide

noncomputable def txt (g m : List Int) (dress : Int) (p : Int) : Str := textF (signsF m (stopF g) dress) p (wordsF (partsF g p))
theorem brs_eq (m : List Int) (n : Nat) : brs m n = (List.range' 1 n).map (isM m) := rfl
section
variable {f g m s : List Int} (F : Facts f g m s) (dress : Int)
include F
theorem Facts.txt_eq {p : Int} (hp : p ∈ g) : txt g m dress p = Txt.join "" (((List.range' 1 (stopF g)).take (p - 1).toNat).map (signOne m dress)) ++ Txt.mul ")" (((partsF g p).length : Nat) : Int) := by
  obtain ⟨h1, h2⟩ := F.parts hp
  have h3 := (mask_facts h1).2.2.2.2.2.1
  rw [h2] at h3
  unfold txt textF signsF
  rw [List.map_take, ← h3]
  unfold cntOf
  congr 2
  split <;> rfl
theorem Facts.txt_par {p : Int} (hp : p ∈ g) (k : Nat) : parens (txt g m dress p ++ Txt.mul "(" (k : Int)) = balN (txtB g (brs m (stopF g)) p k) 0 := by
  rw [F.txt_eq dress hp, parens_more]
  unfold txtB
  rw [brs_eq, List.map_take]
theorem Facts.txt_par0 {p : Int} (hp : p ∈ g) : parens (txt g m dress p) = balN (txtB g (brs m (stopF g)) p 0) 0 := by
  rw [F.txt_eq dress hp, parens_text]
  unfold txtB
  rw [brs_eq, List.map_take]
  simp
theorem Facts.txt_len {p : Int} (hp : p ∈ g) : (txt g m dress p).length ≤ 300 := by
  rw [F.txt_eq dress hp, Str.length_append, mul_len (c := 41) (by decide)]
  have h1 := join_le6 (L := ((List.range' 1 (stopF g)).take (p - 1).toNat).map (signOne m dress)) fun x hx => by
    obtain ⟨q, _, rfl⟩ := List.mem_map.mp hx
    exact sign_le m dress q
  have h2 := F.gs.2.2.2.2.1
  obtain ⟨q1, q2⟩ := F.parts hp
  have h3 := (mask_facts q1).2.2.2.1
  rw [q2] at h3
  rw [List.length_map, List.length_take, List.length_range'] at h1
  have : min (p - 1).toNat (stopF g) ≤ stopF g := Nat.min_le_right _ _
  omega
end
theorem validate_ok {xs : List Str} (h : ∀ x ∈ xs, parens x = true) : validate xs = xs := by
  unfold validate
  have : xs.map (fun x => if parens x then x else "('', '')") = xs.map id := List.map_congr_left fun x hx => by rw [if_pos (h x hx)]; rfl
  rw [this, List.map_id]
theorem validate_app (xs ys : List Str) : validate (xs ++ ys) = validate xs ++ validate ys := by unfold validate; rw [List.map_append]

/-- the pieces of the whole -/
noncomputable def wholeL (g : List Int) : List Nat := (List.range' 1 (stopF g)).take (2 * g.length)
noncomputable def sj (m : List Int) (dress : Int) (L : List Nat) : Str := Txt.join "" (L.map (signOne m dress))
theorem sj_len (m : List Int) (dress : Int) (L : List Nat) : (sj m dress L).length ≤ 6 * L.length := by
  have := join_le6 (L := L.map (signOne m dress)) fun x hx => by
    obtain ⟨q, _, rfl⟩ := List.mem_map.mp hx
    exact sign_le m dress q
  rwa [List.length_map] at this
theorem wholeL_len (g : List Int) : (wholeL g).length = 2 * g.length := by
  unfold wholeL
  rw [List.length_take, List.length_range']
  unfold stopF
  omega
theorem Facts.sound0 {f g m s : List Int} (F : Facts f g m s) (dress : Int) (hb : brokenF f = []) {cut : Nat} (h1 : 1 ≤ cut) (h2 : cut ≤ 2 * g.length - 1) :
    validate ((g.map (txt g m dress) ++ [sj m dress (wholeL g)]) ++ [sj m dress ((wholeL g).take cut), sj m dress ((wholeL g).drop cut ++ (wholeL g).take cut)]) =
      (g.map (txt g m dress) ++ [sj m dress (wholeL g)]) ++ (if even g cut then [sj m dress ((wholeL g).take cut), sj m dress ((wholeL g).drop cut ++ (wholeL g).take cut)] else ["('', '')", "('', '')"]) := by
  have h := F.hB
  rw [hb] at h
  simp only [brkOk, Bool.and_eq_true, List.all_eq_true] at h
  obtain ⟨⟨a1, a2⟩, a3⟩ := h
  have a4 := a3 (cut - 1) (List.mem_range.mpr (by omega))
  have ec : cut - 1 + 1 = cut := by omega
  have ew : (brs m (stopF g)).take (2 * g.length) = (wholeL g).map (isM m) := by rw [brs_eq, ← List.map_take]; rfl
  rw [ew] at a2 a4
  simp only [cutOk, Bool.and_eq_true, beq_iff_eq, ec, ← List.map_take, ← List.map_drop, ← List.map_append] at a4
  rw [validate_app, validate_ok]
  · congr 1
    unfold validate
    rw [List.map_cons, List.map_cons, List.map_nil]
    unfold sj
    rw [parens_join, parens_join, a4.1, a4.2]
    cases even g cut <;> rfl
  · intro x hx
    rcases List.mem_append.mp hx with hx | hx
    · obtain ⟨p, hp, rfl⟩ := List.mem_map.mp hx
      rw [F.txt_par0 dress hp]
      exact a1 p hp
    · rw [List.mem_singleton.mp hx]
      unfold sj
      rw [parens_join]
      exact a2
theorem Facts.sound1 {f g m s : List Int} (F : Facts f g m s) (dress : Int) {q : Int} {r : List Int} (hb : brokenF f = q :: r) :
    ∃ i, i < g.length ∧ g.getD i 0 = q ∧ (∀ j, j < i → g.getD j 0 ≠ q) ∧ lackF m q ≤ 40 ∧ validate ((g.map (txt g m dress)).take (i + 1) ++ [txt g m dress q ++ Txt.mul "(" (lackF m q : Int)]) = (g.map (txt g m dress)).take i ++ [("('', '')" : Str), "('', '')"] := by
  have h := F.hB
  rw [hb] at h
  simp only [brkOk, Bool.and_eq_true, List.all_eq_true, Bool.not_eq_true', beq_iff_eq, decide_eq_true_eq, bne_iff_ne] at h
  generalize g.idxOf q = i at h
  obtain ⟨⟨⟨⟨⟨h1, h2⟩, h3⟩, h4⟩, h5⟩, h6⟩ := h
  have gi : g[i] = q := by rw [← h1, List.getD_eq_getElem?_getD, List.getElem?_eq_getElem h2]; rfl
  have hq : q ∈ g := gi ▸ List.getElem_mem _
  have et : (g.map (txt g m dress)).take (i + 1) = (g.map (txt g m dress)).take i ++ [txt g m dress q] := by
    rw [← List.map_take, ← List.map_take, List.take_add_one, List.getElem?_eq_getElem h2, gi, List.map_append]; rfl
  refine ⟨i, h2, h1, fun j hj => ?_, h6, ?_⟩
  · have hj2 : j < g.length := Nat.lt_trans hj h2
    have : g[j] ∈ g.take i := List.mem_iff_getElem.mpr ⟨j, by rw [List.length_take]; omega, by rw [List.getElem_take]⟩
    rw [List.getD_eq_getElem?_getD, List.getElem?_eq_getElem hj2]
    exact (h3 _ this).1
  · rw [et, List.append_assoc, validate_app, validate_ok]
    · congr 1
      unfold validate
      rw [List.singleton_append, List.map_cons, List.map_cons, List.map_nil, F.txt_par0 dress hq, F.txt_par dress hq, h4, h5]
      rfl
    · intro x hx
      rw [← List.map_take] at hx
      obtain ⟨p, hp, rfl⟩ := List.mem_map.mp hx
      rw [F.txt_par0 dress (List.mem_of_mem_take hp)]
      exact (h3 p hp).2
end Py

set_option maxRecDepth 100000
set_option maxHeartbeats 4000000
namespace Py
section
variable {a b c d e f g h : Str} {l : List Str}
end
theorem WC.all2 {α : Type} {C' : Cx} {A : Around} {Z : Addr → Prop} {t elt : Expr} {σ₀ : List LV} (i1 i2 g : α → PV) : ∀ (xs : List α) (l l' : LV), (∀ a ∈ xs, ∀ l l', ∃ σ', Tgt C' t (.tup [i1 a, i2 a]) (l :: l' :: σ₀) σ' ∧ σ' = .v (i1 a) :: .v (i2 a) :: σ₀ ∧ Ev C' A Z σ' elt .f (g a)) →
    WC C' A t [] elt Z (xs.map fun a => .tup [i1 a, i2 a]) (l :: l' :: σ₀) (xs.map g) := by
  intro xs
  induction xs with
  | nil => intro l l' _; exact rfl
  | cons a r ih =>
    intro l l' h
    obtain ⟨σ', T, rfl, he⟩ := h a (.head _) l l'
    exact ⟨_, T, true, rfl, fun _ => ⟨g a, r.map g, he, ih _ _ fun b hb => h b (.tail _ hb), rfl⟩, fun q => by cases q⟩
theorem zipP_map {α : Type} (u v : α → PV) (xs : List α) : zipP (xs.map u) (xs.map v) = xs.map fun a => .tup [u a, v a] := by
  unfold zipP
  induction xs with
  | nil => rfl
  | cons x r ih => rw [List.map_cons, List.map_cons, List.zipWith_cons_cons, ih]; rfl
theorem B8 {x0 x1 x2 x3 x4 x5 x6 x7 x8 : Str} {l : List Str} : At (x0 :: x1 :: x2 :: x3 :: x4 :: x5 :: x6 :: x7 :: x8 :: l) 8 x8 := .there A7
theorem B9 {x0 x1 x2 x3 x4 x5 x6 x7 x8 x9 : Str} {l : List Str} : At (x0 :: x1 :: x2 :: x3 :: x4 :: x5 :: x6 :: x7 :: x8 :: x9 :: l) 9 x9 := .there B8
theorem B10 {x0 x1 x2 x3 x4 x5 x6 x7 x8 x9 x10 : Str} {l : List Str} : At (x0 :: x1 :: x2 :: x3 :: x4 :: x5 :: x6 :: x7 :: x8 :: x9 :: x10 :: l) 10 x10 := .there B9
theorem B11 {x0 x1 x2 x3 x4 x5 x6 x7 x8 x9 x10 x11 : Str} {l : List Str} : At (x0 :: x1 :: x2 :: x3 :: x4 :: x5 :: x6 :: x7 :: x8 :: x9 :: x10 :: x11 :: l) 11 x11 := .there B10
theorem B12 {x0 x1 x2 x3 x4 x5 x6 x7 x8 x9 x10 x11 x12 : Str} {l : List Str} : At (x0 :: x1 :: x2 :: x3 :: x4 :: x5 :: x6 :: x7 :: x8 :: x9 :: x10 :: x11 :: x12 :: l) 12 x12 := .there B11
theorem B13 {x0 x1 x2 x3 x4 x5 x6 x7 x8 x9 x10 x11 x12 x13 : Str} {l : List Str} : At (x0 :: x1 :: x2 :: x3 :: x4 :: x5 :: x6 :: x7 :: x8 :: x9 :: x10 :: x11 :: x12 :: x13 :: l) 13 x13 := .there B12
theorem B14 {x0 x1 x2 x3 x4 x5 x6 x7 x8 x9 x10 x11 x12 x13 x14 : Str} {l : List Str} : At (x0 :: x1 :: x2 :: x3 :: x4 :: x5 :: x6 :: x7 :: x8 :: x9 :: x10 :: x11 :: x12 :: x13 :: x14 :: l) 14 x14 := .there B13
theorem B15 {x0 x1 x2 x3 x4 x5 x6 x7 x8 x9 x10 x11 x12 x13 x14 x15 : Str} {l : List Str} : At (x0 :: x1 :: x2 :: x3 :: x4 :: x5 :: x6 :: x7 :: x8 :: x9 :: x10 :: x11 :: x12 :: x13 :: x14 :: x15 :: l) 15 x15 := .there B14
theorem B16 {x0 x1 x2 x3 x4 x5 x6 x7 x8 x9 x10 x11 x12 x13 x14 x15 x16 : Str} {l : List Str} : At (x0 :: x1 :: x2 :: x3 :: x4 :: x5 :: x6 :: x7 :: x8 :: x9 :: x10 :: x11 :: x12 :: x13 :: x14 :: x15 :: x16 :: l) 16 x16 := .there B15
theorem B17 {x0 x1 x2 x3 x4 x5 x6 x7 x8 x9 x10 x11 x12 x13 x14 x15 x16 x17 : Str} {l : List Str} : At (x0 :: x1 :: x2 :: x3 :: x4 :: x5 :: x6 :: x7 :: x8 :: x9 :: x10 :: x11 :: x12 :: x13 :: x14 :: x15 :: x16 :: x17 :: l) 17 x17 := .there B16
theorem B18 {x0 x1 x2 x3 x4 x5 x6 x7 x8 x9 x10 x11 x12 x13 x14 x15 x16 x17 x18 : Str} {l : List Str} : At (x0 :: x1 :: x2 :: x3 :: x4 :: x5 :: x6 :: x7 :: x8 :: x9 :: x10 :: x11 :: x12 :: x13 :: x14 :: x15 :: x16 :: x17 :: x18 :: l) 18 x18 := .there B17
theorem B19 {x0 x1 x2 x3 x4 x5 x6 x7 x8 x9 x10 x11 x12 x13 x14 x15 x16 x17 x18 x19 : Str} {l : List Str} : At (x0 :: x1 :: x2 :: x3 :: x4 :: x5 :: x6 :: x7 :: x8 :: x9 :: x10 :: x11 :: x12 :: x13 :: x14 :: x15 :: x16 :: x17 :: x18 :: x19 :: l) 19 x19 := .there B18

section
variable {C : Cx} {P : Params} {mg mb : Str → Option Value}
theorem stop_int {g : List Int} (h0 : 0 ≤ g.getLastD 0) : (if 2 * (g.length : Int) > g.getLastD 0 + 4 then 2 * (g.length : Int) else g.getLastD 0 + 4) = (stopF g : Int) := by
  unfold stopF
  split <;> omega
theorem mem_list (g : List Int) : ((List.range' 1 (stopF g)).filter fun (i : Nat) => !g.any (· == (i : Int))).map (fun (i : Nat) => PV.int (i : Int)) = (membersF g).map .int := by
  unfold membersF
  rw [List.filter_map, List.map_map]
  rfl
theorem pick_len {α : Type} (f : α → PV) (l : List α) {k : Nat} (hk : k < 2 ^ 60) : pick (l.map f) none (some (k : Int)) = (l.take k).map f := by rw [pick_to hk, ← List.map_take]
theorem split_sz {w : Str} (h : w.length ≤ 1000) : (Builtin.Str.partsBetween w (Builtin.Str.occurrences w (", " : Str) 0 w.length (w.length + 1)) (", " : Str).length).length ≤ sizeLine := by
  rw [length_partsBetween]
  have := StrLaws.occ_length_le w ", " 0 w.length (w.length + 1)
  exact sz_small (by omega)
theorem signs_mem {m : List Int} {stop : Nat} {dress : Int} {x : Str} (hx : x ∈ signsF m stop dress) : x.length ≤ 6 := by
  obtain ⟨q, _, rfl⟩ := List.mem_map.mp hx
  exact sign_le m dress q
theorem ev_len {C : Cx} {A : Around} {Z : Addr → Prop} {σ : List LV} {n : Nat} {α : Type} {f : α → PV} {l : List α} {x : Str} {px p pos : Pos} {i : Nat} (ok : C.Ok) (hA : OkA n A) (g : GV C "len" (.builtin "len")) (hi : At C.vs i x) (e : σ[i]? = some (.v (.list (l.map f)))) (hl : l.length ≤ 100000) : Ev C A Z σ (.Call (.Name "len" p) [.Name x px] [] pos) .f (.int (l.length : Int)) :=
  Ev.cast (ev_call ok hA g (.inl ⟨_, rfl⟩) (.cons (ev_name ok hi e) .nil) (fn_len (sz_small (by rw [List.length_map]; exact hl)))) (by rw [List.length_map])
theorem joinsz {ys : List Str} (h : ∀ x ∈ ys, x.length ≤ 6) (hl : ys.length ≤ 1000) : (ys.map (·.length)).sum + ys.length * ("" : Str).length ≤ 16777216 := by
  have h1 := sum_len (n := 6) ys h
  have h2 : ("" : Str).length = 0 := by decide
  rw [h2]; omega
theorem sg_le {m : List Int} {dress : Int} {L : List Nat} : ∀ x ∈ L.map (signOne m dress), x.length ≤ 6 := fun x hx => by
  obtain ⟨q, _, rfl⟩ := List.mem_map.mp hx
  exact sign_le m dress q
theorem cut_ex {dress n : Int} (h : 1 ≤ n) : ∃ cut : Nat, 1 + dress % n = (cut : Int) ∧ 1 ≤ cut ∧ (cut : Int) ≤ n := by
  have h1 := Int.emod_nonneg dress (show n ≠ 0 by omega)
  have h2 := Int.emod_lt_of_pos dress (show 0 < n by omega)
  exact ⟨(1 + dress % n).toNat, by omega, by omega, by omega⟩
theorem even_eq (g : List Int) (cut : Nat) : ((2 * (((g.filter fun p => decide (p ≤ (cut : Int))).map PV.int).length : Int)) == (cut : Int)) = even g cut := by
  unfold even
  rw [List.length_map]
  generalize (g.filter fun p => decide (p ≤ (cut : Int))).length = k
  by_cases h : 2 * k = cut
  · subst h; simp
  · rw [beq_false_of_ne h]; exact beq_false_of_ne (by omega)
theorem sj_sz {m : List Int} {dress : Int} {L : List Nat} (h : L.length ≤ 80) : (sj m dress L).length ≤ 2 ^ 10 := Nat.le_trans (sj_len m dress L) (by omega)
theorem ls_app (a b : List Str) : PV.list (a.map .str ++ b.map .str) = LS (a ++ b) := congrArg PV.list List.map_append.symm
theorem i40 {k : Nat} (h : k ≤ 40) : (k : Int) + 1 < 2 ^ 62 := by omega
theorem i41 (k : Nat) : (k : Int) + 1 = 1 + (k : Int) := Int.add_comm _ _
theorem n60 {k : Nat} (h : k ≤ 1000) : k < 2 ^ 60 := by omega
theorem e30 {p : Int} (h : 1 ≤ p ∧ p ≤ 30) : p ≤ 60 := by omega

noncomputable def wds (g : List Int) (p : Int) : Str := wordsF (partsF g p)

theorem neg_le {n : Nat} (h : 0 < n) : -(n : Int) ≤ -1 := by omega
theorem szm {α β : Type} (f : α → β) {l : List α} (h : l.length ≤ 100000) : (l.map f).length ≤ sizeLine := sz_small (by rw [List.length_map]; exact h)
theorem lt6 {k : Nat} (h : k ≤ 40) : (k : Int) ≤ 100 := by omega
theorem lt7 {k : Nat} (h : k ≤ 40) : (k : Int) < 2 ^ 62 := by omega
theorem cut_le {k n : Nat} (h : (k : Int) ≤ (n : Int) - 1) : k ≤ n - 1 := by omega
theorem cut_pos {n : Nat} (h : 0 < n) : (1 : Int) ≤ ((2 * n : Nat) : Int) - 1 := by omega
theorem cut_pos' {n : Nat} (h : 0 < n) : (0 : Int) < ((2 * n : Nat) : Int) - 1 := by omega
theorem cut60 {k n : Nat} (h : k ≤ n - 1) (hn : n ≤ 60) : k ≤ 1000 := by omega
theorem lapp {k n : Nat} (hn : n ≤ 60) : n - k + min k n ≤ 60 := by omega
theorem f126 (G : Gd C P mg mb) {ns : List Int} (hn : ns.length ≤ 63) : OpN C (6 + 1) (fun vs => call (.ref 126) vs) [LI ns] .n (.bool true) := by
  refine fn_call (pn := ["script"]) (locs := ["cells", "firsts", "gaps", "sizes", "end", "members", "marks", "parts", "told", "signs", "texts", "broken", "whole", "cut", "kept", "pieces", "even", "sound", "lack"]) (hclo := ?a1) (hco := ?a2) (hgen := ?a3) G.mono G.lim (G.obj (show List.lookup 126 (hd.heap_39 P) = some _ from rfl)) rfl rfl (G.code ?a4) ?a5 ?a6 rfl ?a7
  case a1 => rfl
  case a2 => rfl
  case a3 => rfl
  case a4 => kernel_rfl
  case a5 => kernel_rfl
  case a6 => exact len1 fun _ => rfl
  case a7 =>
    intro h A hA ok
    obtain ⟨g, m, s, F⟩ := facts (cellsF ns)
    have cl := cellsF_len ns
    refine ws_cons (w1_assign ok A1 (Ev.toF (ev_call ok hA (g_law_cells G.hW) (.inr (.inr ⟨_, _, _, rfl, rfl, G.obj (show List.lookup 64 (hd.heap_39 P) = some _ from rfl)⟩)) (.cons (ev_name ok A0 rfl) .nil) ((f64 (C := fnCx C _ h 126 _) ⟨G.hW, G.hB⟩ hn).up (by decide)))) ?_)
    generalize cellsF ns = cells at F cl ⊢
    show WS _ _ _ [.v (LI ns), .v (LI cells), .unb, .unb, .unb, .unb, .unb, .unb, .unb, .unb, .unb, .unb, .unb, .unb, .unb, .unb, .unb, .unb, .unb, .unb] _ _
    refine ws_cons (w1_assign ok A2 (Ev.toF (ev_call ok hA (g_law_firsts G.hW) (.inr (.inr ⟨_, _, _, rfl, rfl, G.obj (show List.lookup 69 (hd.heap_39 P) = some _ from rfl)⟩)) (.cons (ev_name ok A1 rfl) .nil) ((f69 (C := fnCx C _ h 126 _) ⟨G.hW, G.hB⟩ cl).up (by decide)))) ?_)
    generalize firstsF cells = f at F ⊢
    obtain ⟨gne, gl, g0, g26, st40, gb⟩ := F.gs
    obtain ⟨mk1, mk2, br1, il1, en2, il2⟩ := F.ms
    have sl := F.sl
    have ml := F.ml
    have hp : 0 < g.length := List.length_pos_iff.mpr gne
    show WS _ _ _ [.v (LI ns), .v (LI cells), .v (LI f), .unb, .unb, .unb, .unb, .unb, .unb, .unb, .unb, .unb, .unb, .unb, .unb, .unb, .unb, .unb, .unb, .unb] _ _
    refine ws_cons (w1_assign ok A3 (Ev.toF (ev_call ok hA (g_law_gaps G.hW) (.inr (.inr ⟨_, _, _, rfl, rfl, G.obj (show List.lookup 76 (hd.heap_39 P) = some _ from rfl)⟩)) (.cons (ev_name ok A2 rfl) .nil) (((f76 (C := fnCx C _ h 126 _) ⟨G.hW, G.hB⟩ F.f1 F.f5 (fun r h1 h2 => F.sm r h1 h2) F.raw).up (by decide)).castP (congrArg LI F.hg)))) ?_)
    show WS _ _ _ [.v (LI ns), .v (LI cells), .v (LI f), .v (LI g), .unb, .unb, .unb, .unb, .unb, .unb, .unb, .unb, .unb, .unb, .unb, .unb, .unb, .unb, .unb, .unb] _ _
    refine ws_cons (w1_assign ok A4 (Ev.toF (ev_call ok hA (g_law_sizes G.hW) (.inr (.inr ⟨_, _, _, rfl, rfl, G.obj (show List.lookup 83 (hd.heap_39 P) = some _ from rfl)⟩)) (.cons (ev_name ok A3 rfl) .nil) (((f83 (C := fnCx C _ h 126 _) ⟨G.hW, G.hB⟩ gne (Nat.le_trans gl (by decide)) g0 (Int.le_trans g26 (by decide))).up (by decide)).castP (congrArg LI F.hs)))) ?_)

    have gl5 : g.length ≤ 100000 := Nat.le_trans gl (by decide)
    have gsz : (g.map PV.int).length ≤ sizeLine := sz_small (by rw [List.length_map]; exact gl5)
    show WS _ _ _ [.v (LI ns), .v (LI cells), .v (LI f), .v (LI g), .v (LI s), .unb, .unb, .unb, .unb, .unb, .unb, .unb, .unb, .unb, .unb, .unb, .unb, .unb, .unb, .unb] _ _
    refine ws_cons (w1_assign (p := .int (stopF g : Int)) ok A5 (ev_call ok hA (g_max G.hW G.hB) (.inl ⟨_, rfl⟩) (.cons (ev_bin ok hA (ev_item_neg (ev_name ok A3 rfl) (ev_neg ev_int) (by decide) (by rw [List.length_map]; exact neg_le hp) gsz (getLast_map PV.int g 0 gne)) ev_int op_add) (.cons (ev_bin ok hA ev_int (ev_len ok hA (g_len G.hW G.hB) A3 rfl gl5) (op_mul (IntMulOk.of_left (by decide)))) .nil)) (OpN.castP fn_max2 (congrArg PV.int (stop_int g0)))) ?_)
    show WS _ _ _ [.v (LI ns), .v (LI cells), .v (LI f), .v (LI g), .v (LI s), .v (.int (stopF g : Int)), .unb, .unb, .unb, .unb, .unb, .unb, .unb, .unb, .unb, .unb, .unb, .unb, .unb, .unb] _ _
    refine ws_cons (w1_assign (p := LI m) ok A6 (Ev.toF (ev_comp ["place"] ["gaps"] (ps := rangeP 1 (stopF g)) (out := m.map .int) ok hA.h (by kernel_rfl) (iter_range2 ok hA.h (g_range G.hW G.hB) (.cons ev_int (.cons (ev_bin ok hA (ev_name ok A5 rfl) ev_int op_add) .nil)) (i41 _) (by decide) (i40 st40)).z (.cons A3 rfl .nil) (by simp [owns]) (fun L Z' ok' => ?c1) (szm _ (Nat.le_trans ml (by decide))))) ?_)
    case c1 =>
      rw [rangeP1, ← F.mem, ← mem_list]
      exact WC.of (fun (i : Nat) => PV.int (i : Int)) _ (fun (i : Nat) => !g.any (· == (i : Int))) _ _ fun i _ l => ⟨_, .name A0, rfl, tst_cmp ok' hA (ev_name ok' A0 rfl) (ev_name ok' A1 rfl) op_notin_ints, fun _ => ev_name ok' A0 rfl⟩
    show WS _ _ _ [.v (LI ns), .v (LI cells), .v (LI f), .v (LI g), .v (LI s), .v (.int (stopF g : Int)), .v (LI m), .unb, .unb, .unb, .unb, .unb, .unb, .unb, .unb, .unb, .unb, .unb, .unb, .unb] _ _
    refine ws_cons (w1_assign ok A7 (Ev.toF (ev_call ok hA (g_law_marks G.hW) (.inr (.inr ⟨_, _, _, rfl, rfl, G.obj (show List.lookup 90 (hd.heap_39 P) = some _ from rfl)⟩)) (.cons (Ev.cast (q := LI (s ++ [1, 0, 5])) (ev_bin ok hA (ev_name ok A4 rfl) (ev_list (ps := [.int 1, .int 0, .int 5]) ok hA (.cons ev_int (.cons ev_int (.cons ev_int .nil))) (show 3 ≤ sizeLine by decide)) (op_lcat (sz_small (by rw [List.length_map]; exact Nat.le_trans (Nat.add_le_add_right sl 3) (by decide))))) (by rw [LI, List.map_append]; rfl)) (.cons (ev_name ok A5 rfl) .nil)) (((f90 (C := fnCx C _ h 126 _) ⟨G.hW, G.hB⟩ (fun x r e => F.head (by decide) x r e) il1 (.inr br1)).up (by decide)).castP (congrArg LI mk1)))) ?_)
    show WS _ _ _ [.v (LI ns), .v (LI cells), .v (LI f), .v (LI g), .v (LI s), .v (.int (stopF g : Int)), .v (LI m), .v (LI m), .unb, .unb, .unb, .unb, .unb, .unb, .unb, .unb, .unb, .unb, .unb, .unb] _ _
    refine ws_cons (w1_if (b := false) (tst_or (b := false) (Tst.cast (tst_cmp ok hA (ev_name ok A7 rfl) (ev_name ok A6 rfl) op_ne_ints) (by simp)) (fun _ => Tst.cast (tst_cmp ok hA (ev_call ok hA (g_law_marks G.hW) (.inr (.inr ⟨_, _, _, rfl, rfl, G.obj (show List.lookup 90 (hd.heap_39 P) = some _ from rfl)⟩)) (.cons (Ev.cast (q := LI (s ++ [127, 1])) (ev_bin ok hA (ev_name ok A4 rfl) (ev_list (ps := [.int 127, .int 1]) ok hA (.cons ev_int (.cons ev_int .nil)) (show 2 ≤ sizeLine by decide)) (op_lcat (sz_small (by rw [List.length_map]; exact Nat.le_trans (Nat.add_le_add_right sl 2) (by decide))))) (by rw [LI, List.map_append]; rfl)) (.cons (ev_name ok A5 rfl) .nil)) (((f90 (C := fnCx C _ h 126 _) ⟨G.hW, G.hB⟩ (fun x r e => F.head (by decide) x r e) il2 (.inl en2)).up (by decide)).castP (congrArg LI mk2)))
      (Ev.cast (ev_slice (lo := none) ok hA (ev_name ok A6 rfl) (by exact trivial) (evP (ev_len ok hA (g_len G.hW G.hB) A4 rfl (Nat.le_trans sl (by decide)))) (szm _ (Nat.le_trans ml (by decide)))) (congrArg PV.list (pick_len PV.int m (n60 (Nat.le_trans sl (by decide)))))) op_ne_ints) (by simp)) (fun q => by cases q)) ?_)
    rw [if_neg (by decide)]
    refine ws_nil ?_
    show WS _ _ _ [.v (LI ns), .v (LI cells), .v (LI f), .v (LI g), .v (LI s), .v (.int (stopF g : Int)), .v (LI m), .v (LI m), .unb, .unb, .unb, .unb, .unb, .unb, .unb, .unb, .unb, .unb, .unb, .unb] _ _
    refine ws_cons (w1_assign_comp ["gap"] ["gaps"] (ps := g.map .int) (out := g.map fun p => LI (partsF g p)) ok hA.h B8 (by kernel_rfl) (iter_list (k := .f) ok hA.h (ev_name ok A3 rfl) (fun q => by cases q)).z (.cons A3 rfl .nil) (by simp [owns]) (fun L Z' ok' => ?c2) (szm _ gl5) ?_)
    case c2 => exact WC.all PV.int _ _ _ fun p hp l => ⟨_, .name A0, rfl, Ev.toF (ev_call ok' hA (g_law_parts G.hW) (.inr (.inr ⟨_, _, _, rfl, rfl, G.obj (show List.lookup 95 (hd.heap_39 P) = some _ from rfl)⟩)) (.cons (ev_name ok' A1 rfl) (.cons (ev_name ok' A0 rfl) .nil)) ((f95 (C := compCx (fnCx C _ h 126 _) _ _ _) ⟨G.hW, G.hB⟩ (Nat.le_trans gl (by decide))).up (by decide)))⟩
    have pf : ∀ p ∈ g, mask1 (partsF g p) < 2 ^ 32 ∧ ((partsF g p).map fun p => (1 : Int) * 2 ^ p.toNat).sum = (mask1 (partsF g p) : Int) ∧ pfText (mask1 (partsF g p)) = wds g p ∧ (partsF g p).length ≤ 31 ∧ (∀ q ∈ partsF g p, 1 ≤ q ∧ q ≤ 30) ∧ (wds g p).length ≤ 1000 ∧ (Txt.split (wds g p) ", ").length ≤ 100 := fun p hp => by
      obtain ⟨q1, q2⟩ := F.parts hp
      have := mask_facts q1
      rw [q2] at this
      exact ⟨this.1, this.2.1, this.2.2.1, this.2.2.2.1, this.2.2.2.2.1, this.2.2.2.2.2.2⟩
    have osz : ∀ f : Int → PV, (g.map f).length ≤ sizeLine := fun f => sz_small (by rw [List.length_map]; exact gl5)
    show WS _ _ _ [.v (LI ns), .v (LI cells), .v (LI f), .v (LI g), .v (LI s), .v (.int (stopF g : Int)), .v (LI m), .v (LI m), .v (.list (g.map fun p => LI (partsF g p))), .unb, .unb, .unb, .unb, .unb, .unb, .unb, .unb, .unb, .unb, .unb] _ _
    refine ws_cons (w1_assign_comp ["row"] [] (ps := g.map fun p => LI (partsF g p)) (out := g.map fun p => .str (wds g p)) ok hA.h B9 (by kernel_rfl) (iter_list (k := .f) ok hA.h (ev_name ok B8 rfl) (fun q => by cases q)).z .nil (by simp [owns]) (fun L Z' ok' => ?c3) (osz _) ?_)
    case c3 =>
      refine WC.all (fun p => LI (partsF g p)) _ _ _ fun p hp l => ⟨_, .name A0, rfl, ?_⟩
      obtain ⟨p1, p2, p3, p4, p5, p6, p7⟩ := pf p hp
      refine Ev.toF (ev_call ok' hA (gpretty_flags G.hW) (.inr (.inr ⟨_, _, _, rfl, rfl, G.obj (show List.lookup 29 (hd.heap_39 P) = some _ from rfl)⟩)) (.cons (ev_call ok' hA (g_sum G.hW G.hB) (.inl ⟨_, rfl⟩) (.cons (Ev.toF (ev_comp ["part"] [] (ps := (partsF g p).map .int) (out := ((partsF g p).map fun (x : Int) => (1 : Int) * 2 ^ x.toNat).map .int) ok' hA.h (by kernel_rfl) (iter_list (k := .f) ok' hA.h (ev_name ok' A0 rfl) (fun q => by cases q)).z .nil (by simp [owns]) (fun L Z' ok2 => ?cmp) ?csz)) .nil) (OpN.castP fn_sum (congrArg PV.int p2))) .nil) (((f50 (C := compCx (fnCx C _ h 126 _) _ _ _) ⟨G.hW, G.hB⟩ (f := mask1 (partsF g p)) p1).up (by decide)).castP (congrArg PV.str p3)))
      case cmp =>
        rw [List.map_map]
        exact WC.all PV.int _ _ _ fun x hx l => ⟨_, .name A0, rfl, ev_bin ok2 hA ev_int (ev_name ok2 A0 rfl) (op_shl (Int.le_trans (by decide) (p5 x hx).1) (Int.le_trans (p5 x hx).2 (by decide)) (by decide))⟩
      case csz => exact szm _ (by rw [List.length_map]; exact Nat.le_trans p4 (by decide))
    have etold : g.map (fun p => PV.str (wds g p)) = (g.map (wds g)).map .str := by rw [List.map_map]; rfl
    show WS _ _ _ [.v (LI ns), .v (LI cells), .v (LI f), .v (LI g), .v (LI s), .v (.int (stopF g : Int)), .v (LI m), .v (LI m), .v (.list (g.map fun p => LI (partsF g p))), .v (.list (g.map fun p => .str (wds g p))), .unb, .unb, .unb, .unb, .unb, .unb, .unb, .unb, .unb, .unb] _ _
    refine ws_cons (w1_if (b := false) (Tst.cast (tst_cmp (p := LS (g.map (wds g))) ok hA (Ev.cast (ev_name ok B9 rfl) (congrArg PV.list etold)) (Ev.cast (q := LS (g.map (wds g))) (ev_comp ["row"] [] (ps := g.map fun p => LI (partsF g p)) (out := g.map fun p => .str (wds g p)) ok hA.h (by kernel_rfl) (iter_list (k := .f) ok hA.h (ev_name ok B8 rfl) (fun q => by cases q)).z .nil (by simp [owns]) (fun L Z' ok' => ?c4) (osz _)) (congrArg PV.list etold)) op_ne_strs) (by simp)) ?_)
    case c4 =>
      refine WC.all (fun p => LI (partsF g p)) _ _ _ fun p hp l => ⟨_, .name A0, rfl, ?_⟩
      obtain ⟨p1, p2, p3, p4, p5, p6, p7⟩ := pf p hp
      exact Ev.toF (ev_call ok' hA (g_law_words G.hW) (.inr (.inr ⟨_, _, _, rfl, rfl, G.obj (show List.lookup 100 (hd.heap_39 P) = some _ from rfl)⟩)) (.cons (ev_name ok' A0 rfl) .nil) ((f100 (C := compCx (fnCx C _ h 126 _) _ _ _) ⟨G.hW, G.hB⟩ (Nat.le_trans p4 (by decide)) p5).up (by decide)))
    rw [if_neg (by decide)]
    refine ws_nil ?_
    show WS _ _ _ [.v (LI ns), .v (LI cells), .v (LI f), .v (LI g), .v (LI s), .v (.int (stopF g : Int)), .v (LI m), .v (LI m), .v (.list (g.map fun p => LI (partsF g p))), .v (.list (g.map fun p => .str (wds g p))), .unb, .unb, .unb, .unb, .unb, .unb, .unb, .unb, .unb, .unb] _ _
    refine ws_cons (w1_assign ok B10 (Ev.toF (ev_call ok hA (g_law_signs G.hW) (.inr (.inr ⟨_, _, _, rfl, rfl, G.obj (show List.lookup 107 (hd.heap_39 P) = some _ from rfl)⟩)) (.cons (ev_name ok A7 rfl) (.cons (ev_name ok A5 rfl) (.cons (ev_item (p := .int (cells.getD 5 0)) (ev_name ok A1 rfl) ev_int (by decide) (by decide) (get_mapI PV.int cells (j := 5) 0 (by rw [cl]; decide))) .nil))) ((f107 (C := fnCx C _ h 126 _) ⟨G.hW, G.hB⟩ st40).up (by decide)))) ?_)
    have hx5 : (cells.map PV.int)[(5 : Int).toNat]? = some (.int (cells.getD 5 0)) := get_mapI PV.int cells (j := 5) 0 (by rw [cl]; decide)
    generalize cells.getD 5 0 = dress at hx5 ⊢
    have sgl : (signsF m (stopF g) dress).length = stopF g := by unfold signsF; rw [List.length_map, List.length_range']
    have tsz : ((g.map (txt g m dress)).map PV.str).length ≤ sizeLine := sz_small (by rw [List.length_map, List.length_map]; exact gl5)
    show WS _ _ _ [.v (LI ns), .v (LI cells), .v (LI f), .v (LI g), .v (LI s), .v (.int (stopF g : Int)), .v (LI m), .v (LI m), .v (.list (g.map fun p => LI (partsF g p))), .v (.list (g.map fun p => .str (wds g p))), .v (LS (signsF m (stopF g) dress)), .unb, .unb, .unb, .unb, .unb, .unb, .unb, .unb, .unb] _ _
    refine ws_cons (w1_assign_comp ["gap", "words"] ["signs"] (ps := g.map fun p => .tup [.int p, .str (wds g p)]) (out := (g.map (txt g m dress)).map .str) ok hA.h B11 (by kernel_rfl) (show IterZ _ _ _ _ _ _ _ _ from (zipP_map PV.int (fun p => PV.str (wds g p)) g) ▸ iter_zip ok hA.h (g_zip G.hW G.hB) (.cons (ev_name ok A3 rfl) (.cons (ev_name ok B9 rfl) .nil))) (.cons B10 rfl .nil) (by simp [owns]) (fun L Z' ok' => ?c5) tsz ?_)
    case c5 =>
      rw [List.map_map]
      refine WC.all2 PV.int (fun p => PV.str (wds g p)) _ _ _ _ fun p hp l l' => ⟨_, .pair A0 A1, rfl, ?_⟩
      obtain ⟨p1, p2, p3, p4, p5, p6, p7⟩ := pf p hp
      exact Ev.toF (ev_call ok' hA (g_law_text G.hW) (.inr (.inr ⟨_, _, _, rfl, rfl, G.obj (show List.lookup 114 (hd.heap_39 P) = some _ from rfl)⟩)) (.cons (ev_name ok' A2 rfl) (.cons (ev_name ok' A0 rfl) (.cons (ev_name ok' A1 rfl) .nil))) ((f114 (C := compCx (fnCx C _ h 126 _) _ _ _) ⟨G.hW, G.hB⟩ (gb p hp).1 (e30 (gb p hp)) (by rw [sgl]; exact Nat.le_trans st40 (by decide)) (fun x hx => signs_mem hx) p6 (split_sz p6) p7).up (by decide)))
    show WS _ _ _ [.v (LI ns), .v (LI cells), .v (LI f), .v (LI g), .v (LI s), .v (.int (stopF g : Int)), .v (LI m), .v (LI m), .v (.list (g.map fun p => LI (partsF g p))), .v (.list (g.map fun p => .str (wds g p))), .v (LS (signsF m (stopF g) dress)), .v (LS (g.map (txt g m dress))), .unb, .unb, .unb, .unb, .unb, .unb, .unb, .unb] _ _
    refine ws_cons (w1_assign ok B12 (Ev.toF (ev_call ok hA (g_law_broken G.hW) (.inr (.inr ⟨_, _, _, rfl, rfl, G.obj (show List.lookup 121 (hd.heap_39 P) = some _ from rfl)⟩)) (.cons (ev_name ok A2 rfl) .nil) ((f121 (C := fnCx C _ h 126 _) ⟨G.hW, G.hB⟩ F.f1 F.f5).up (by decide)))) ?_)
    show WS _ _ _ [.v (LI ns), .v (LI cells), .v (LI f), .v (LI g), .v (LI s), .v (.int (stopF g : Int)), .v (LI m), .v (LI m), .v (.list (g.map fun p => LI (partsF g p))), .v (.list (g.map fun p => .str (wds g p))), .v (LS (signsF m (stopF g) dress)), .v (LS (g.map (txt g m dress))), .v (LI (brokenF f)), .unb, .unb, .unb, .unb, .unb, .unb, .unb] _ _
    refine ws_cons (w1_if (b := brokenF f == []) (tst_cmp ok hA (ev_name ok B12 rfl) (ev_list0 ok hA) (op_eq_ints (ms := []))) ?_)
    have tl : (g.map (txt g m dress)).length = g.length := List.length_map _
    have tle : ∀ x ∈ g.map (txt g m dress), x.length ≤ 300 := fun x hx => by
      obtain ⟨p, hp', rfl⟩ := List.mem_map.mp hx
      exact F.txt_len dress hp'
    cases hbr : brokenF f with
    | nil =>
      rw [if_pos (show (([] : List Int) == []) = true from rfl)]
      have wl : (wholeL g).length = 2 * g.length := wholeL_len g
      have g60 : 2 * g.length ≤ 60 := Nat.mul_le_mul_left 2 gl
      have wsz : ∀ L : List Nat, L.length ≤ 100 → ((L.map (signOne m dress)).map PV.str).length ≤ sizeLine := fun L hL => szm _ (by rw [List.length_map]; exact Nat.le_trans hL (by decide))
      have ewh : pick ((signsF m (stopF g) dress).map PV.str) none (some ((2 * g.length : Nat) : Int)) = ((wholeL g).map (signOne m dress)).map .str := by
        rw [pick_len PV.str _ (n60 (Nat.le_trans g60 (by decide)))]
        unfold signsF wholeL
        rw [← List.map_take]
      show WS _ _ _ [.v (LI ns), .v (LI cells), .v (LI f), .v (LI g), .v (LI s), .v (.int (stopF g : Int)), .v (LI m), .v (LI m), .v (.list (g.map fun p => LI (partsF g p))), .v (.list (g.map fun p => .str (wds g p))), .v (LS (signsF m (stopF g) dress)), .v (LS (g.map (txt g m dress))), .v (LI []), .unb, .unb, .unb, .unb, .unb, .unb, .unb] _ _
      refine ws_cons (w1_assign (p := LS ((wholeL g).map (signOne m dress))) ok B13 (Ev.toF (Ev.cast (ev_slice (lo := none) ok hA (ev_name ok B10 rfl) (by exact trivial) (evP (Ev.cast (q := .int ((2 * g.length : Nat) : Int)) (ev_bin ok hA ev_int (ev_len ok hA (g_len G.hW G.hB) A3 rfl gl5) (op_mul (IntMulOk.of_left (by decide)))) (congrArg PV.int (Int.natCast_mul 2 g.length).symm))) (szm _ (by rw [sgl]; exact Nat.le_trans st40 (by decide)))) (congrArg PV.list ewh))) ?_)
      have wl2 : ((wholeL g).map (signOne m dress)).length = 2 * g.length := by rw [List.length_map, wl]
      obtain ⟨cut, ec, c1, c2⟩ := cut_ex (dress := dress) (n := (((wholeL g).map (signOne m dress)).length : Int) - 1) (by rw [wl2]; exact cut_pos hp)
      have c2' : cut ≤ 2 * g.length - 1 := by rw [wl2] at c2; exact cut_le c2
      show WS _ _ _ [.v (LI ns), .v (LI cells), .v (LI f), .v (LI g), .v (LI s), .v (.int (stopF g : Int)), .v (LI m), .v (LI m), .v (.list (g.map fun p => LI (partsF g p))), .v (.list (g.map fun p => .str (wds g p))), .v (LS (signsF m (stopF g) dress)), .v (LS (g.map (txt g m dress))), .v (LI []), .v (LS ((wholeL g).map (signOne m dress))), .unb, .unb, .unb, .unb, .unb, .unb] _ _
      refine ws_cons (w1_assign (p := .int (cut : Int)) ok B14 (Ev.cast (ev_bin ok hA ev_int (ev_bin ok hA (ev_item (p := .int dress) (ev_name ok A1 rfl) ev_int (by decide) (by decide) hx5) (ev_bin ok hA (ev_len ok hA (g_len G.hW G.hB) B13 rfl (by rw [wl2]; exact Nat.le_trans g60 (by decide))) ev_int op_sub) (op_mod (by rw [wl2]; exact cut_pos' hp))) op_add) (congrArg PV.int ec)) ?_)
      clear ec c2 hx5
      show WS _ _ _ [.v (LI ns), .v (LI cells), .v (LI f), .v (LI g), .v (LI s), .v (.int (stopF g : Int)), .v (LI m), .v (LI m), .v (.list (g.map fun p => LI (partsF g p))), .v (.list (g.map fun p => .str (wds g p))), .v (LS (signsF m (stopF g) dress)), .v (LS (g.map (txt g m dress))), .v (LI []), .v (LS ((wholeL g).map (signOne m dress))), .v (.int (cut : Int)), .unb, .unb, .unb, .unb, .unb] _ _
      refine ws_cons (w1_assign (p := LS (g.map (txt g m dress) ++ [sj m dress (wholeL g)])) ok B15 (Ev.toF (Ev.cast (ev_bin ok hA (ev_name ok B11 rfl) (ev_list (ps := [.str (sj m dress (wholeL g))]) ok hA (.cons (ev_meth (k := .f) ok hA ev_str (.inr ⟨_, rfl, rfl⟩) meth_join (.cons (ev_name ok B13 rfl) .nil) (fn_join (ys := (wholeL g).map (signOne m dress)) (joinsz sg_le (by rw [wl2]; exact Nat.le_trans g60 (by decide))))) .nil) (show 1 ≤ sizeLine by decide)) (op_lcat (sz_small (by rw [List.length_map, tl]; exact Nat.le_trans (Nat.add_le_add_right gl 1) (by decide))))) (by rw [LS, List.map_append]; rfl))) ?_)
      have etake : pick (((wholeL g).map (signOne m dress)).map PV.str) none (some (cut : Int)) = (((wholeL g).take cut).map (signOne m dress)).map .str := by
        rw [pick_len PV.str _ (n60 (cut60 c2' g60)), ← List.map_take]
      have edrop : pick (((wholeL g).map (signOne m dress)).map PV.str) (some (cut : Int)) none = (((wholeL g).drop cut).map (signOne m dress)).map .str := by
        rw [pick_from (n60 (cut60 c2' g60)), ← List.map_drop, List.map_drop (f := signOne m dress)]
      have l1 : ((wholeL g).take cut).length ≤ 60 := by rw [List.length_take, wl]; exact Nat.le_trans (Nat.min_le_right _ _) g60
      have l2 : ((wholeL g).drop cut).length ≤ 60 := by rw [List.length_drop, wl]; exact Nat.le_trans (Nat.sub_le _ _) g60
      have l3 : ((wholeL g).drop cut ++ (wholeL g).take cut).length ≤ 60 := by rw [List.length_append, List.length_take, List.length_drop, wl]; exact lapp g60
      show WS _ _ _ [.v (LI ns), .v (LI cells), .v (LI f), .v (LI g), .v (LI s), .v (.int (stopF g : Int)), .v (LI m), .v (LI m), .v (.list (g.map fun p => LI (partsF g p))), .v (.list (g.map fun p => .str (wds g p))), .v (LS (signsF m (stopF g) dress)), .v (LS (g.map (txt g m dress))), .v (LI []), .v (LS ((wholeL g).map (signOne m dress))), .v (.int (cut : Int)), .v (LS (g.map (txt g m dress) ++ [sj m dress (wholeL g)])), .unb, .unb, .unb, .unb] _ _
      refine ws_cons (w1_assign (p := LS [sj m dress ((wholeL g).take cut), sj m dress ((wholeL g).drop cut ++ (wholeL g).take cut)]) ok B16 (Ev.toF (ev_list (ps := [.str (sj m dress ((wholeL g).take cut)), .str (sj m dress ((wholeL g).drop cut ++ (wholeL g).take cut))]) ok hA
        (.cons (ev_meth (k := .f) ok hA ev_str (.inr ⟨_, rfl, rfl⟩) meth_join (.cons (Ev.cast (ev_slice (lo := none) ok hA (ev_name ok B13 rfl) (by exact trivial) (evP (ev_name ok B14 rfl)) (wsz _ (Nat.le_trans (Nat.le_of_eq wl) (Nat.le_trans g60 (by decide))))) (congrArg PV.list etake)) .nil) (fn_join (ys := ((wholeL g).take cut).map (signOne m dress)) (joinsz sg_le (by rw [List.length_map]; exact Nat.le_trans l1 (by decide)))))
        (.cons (ev_meth (k := .f) ok hA ev_str (.inr ⟨_, rfl, rfl⟩) meth_join (.cons (Ev.cast (q := LS (((wholeL g).drop cut ++ (wholeL g).take cut).map (signOne m dress))) (ev_bin ok hA (Ev.cast (ev_slice (hi := none) ok hA (ev_name ok B13 rfl) (evP (ev_name ok B14 rfl)) (by exact trivial) (wsz _ (Nat.le_trans (Nat.le_of_eq wl) (Nat.le_trans g60 (by decide))))) (congrArg PV.list edrop)) (Ev.cast (ev_slice (lo := none) ok hA (ev_name ok B13 rfl) (by exact trivial) (evP (ev_name ok B14 rfl)) (wsz _ (Nat.le_trans (Nat.le_of_eq wl) (Nat.le_trans g60 (by decide))))) (congrArg PV.list etake)) (op_lcat (sz_small (by rw [List.length_map, List.length_map, List.length_map, List.length_map]; exact Nat.le_trans (Nat.add_le_add l2 l1) (by decide))))) (by rw [LS, List.map_append, List.map_append])) .nil) (fn_join (ys := ((wholeL g).drop cut ++ (wholeL g).take cut).map (signOne m dress)) (joinsz sg_le (by rw [List.length_map]; exact Nat.le_trans l3 (by decide))))) .nil)) (show 2 ≤ sizeLine by decide))) ?_)
      have fl : ∀ q : Int → Bool, (g.filter q).length ≤ 30 := fun q => Nat.le_trans (List.length_filter_le _ _) gl
      show WS _ _ _ [.v (LI ns), .v (LI cells), .v (LI f), .v (LI g), .v (LI s), .v (.int (stopF g : Int)), .v (LI m), .v (LI m), .v (.list (g.map fun p => LI (partsF g p))), .v (.list (g.map fun p => .str (wds g p))), .v (LS (signsF m (stopF g) dress)), .v (LS (g.map (txt g m dress))), .v (LI []), .v (LS ((wholeL g).map (signOne m dress))), .v (.int (cut : Int)), .v (LS (g.map (txt g m dress) ++ [sj m dress (wholeL g)])), .v (LS [sj m dress ((wholeL g).take cut), sj m dress ((wholeL g).drop cut ++ (wholeL g).take cut)]), .unb, .unb, .unb] _ _
      refine ws_cons (w1_assign (p := .bool (even g cut)) ok B17 (Ev.cast (ev_cmp ok hA (ev_bin ok hA ev_int (ev_call ok hA (g_len G.hW G.hB) (.inl ⟨_, rfl⟩) (.cons (ev_comp ["gap"] ["cut"] (ps := g.map .int) (out := (g.filter fun p => decide (p ≤ (cut : Int))).map .int) ok hA.h (by kernel_rfl) (iter_list (k := .f) ok hA.h (ev_name ok A3 rfl) (fun q => by cases q)).z (.cons B14 rfl .nil) (by simp [owns]) (fun L Z' ok' => ?c6) ?s6) .nil) (fn_len ?s6)) (op_mul (IntMulOk.of_left (by decide)))) (ev_name ok B14 rfl) op_eq) (congrArg PV.bool (even_eq g cut))) ?_)
      case c6 => exact WC.of PV.int PV.int (fun p => decide (p ≤ (cut : Int))) g _ fun p _ l => ⟨_, .name A0, rfl, tst_cmp ok' hA (ev_name ok' A0 rfl) (ev_name ok' A1 rfl) op_le, fun _ => ev_name ok' A0 rfl⟩
      case s6 => exact sz_small (by rw [List.length_map]; exact Nat.le_trans (fl _) (by decide))
      have hv := F.sound0 dress hbr c1 c2'
      have z0 : (sj m dress (wholeL g)).length ≤ 2 ^ 10 := sj_sz (by rw [wl]; exact Nat.le_trans g60 (by decide))
      have z1 : (sj m dress ((wholeL g).take cut)).length ≤ 2 ^ 10 := sj_sz (Nat.le_trans l1 (by decide))
      have z2 : (sj m dress ((wholeL g).drop cut ++ (wholeL g).take cut)).length ≤ 2 ^ 10 := sj_sz (Nat.le_trans l3 (by decide))
      generalize sj m dress (wholeL g) = w0 at hv z0 ⊢
      generalize sj m dress ((wholeL g).take cut) = w1 at hv z1 ⊢
      generalize sj m dress ((wholeL g).drop cut ++ (wholeL g).take cut) = w2 at hv z2 ⊢
      have kl : (g.map (txt g m dress) ++ [w0]).length ≤ 40 := by rw [List.length_append, tl]; exact Nat.le_trans (Nat.add_le_add_right gl 1) (by decide)
      have all42 : ∀ x ∈ (g.map (txt g m dress) ++ [w0]) ++ [w1, w2], x.length ≤ 2 ^ 10 := fun x hx => by
        rcases List.mem_append.mp hx with hx | hx
        · rcases List.mem_append.mp hx with hx | hx
          · exact Nat.le_trans (tle x hx) (by decide)
          · rw [List.mem_singleton.mp hx]; exact z0
        · rcases List.mem_cons.mp hx with rfl | hx
          · exact z1
          · rw [List.mem_singleton.mp hx]; exact z2
      generalize g.map (txt g m dress) ++ [w0] = kept at hv kl all42 ⊢
      have two : ∀ ys : List Str, ys.length = 2 → (kept.map PV.str).length + (ys.map PV.str).length ≤ sizeLine := fun ys e => sz_small (by rw [List.length_map, List.length_map, e]; exact Nat.le_trans (Nat.add_le_add_right kl 2) (by decide))
      have s42 : (kept ++ [w1, w2]).length ≤ 2 ^ 10 := by rw [List.length_append]; exact Nat.le_trans (Nat.add_le_add_right kl 2) (by decide)
      generalize even g cut = ev at hv ⊢
      generalize hrs : (if ev then [w1, w2] else ["('', '')", "('', '')"]) = rs at hv
      have rs2 : rs.length = 2 := by rw [← hrs]; cases ev <;> rfl
      show WS _ _ _ [.v (LI ns), .v (LI cells), .v (LI f), .v (LI g), .v (LI s), .v (.int (stopF g : Int)), .v (LI m), .v (LI m), .v (.list (g.map fun p => LI (partsF g p))), .v (.list (g.map fun p => .str (wds g p))), .v (LS (signsF m (stopF g) dress)), .v (LS (g.map (txt g m dress))), .v (LI []), .v (LS ((wholeL g).map (signOne m dress))), .v (.int (cut : Int)), .v (LS kept), .v (LS [w1, w2]), .v (.bool ev), .unb, .unb] _ _
      refine ws_cons (w1_retb (Ev.cast (q := .bool true) (ev_cmp (p := LS (kept ++ rs)) (q := LS (kept ++ rs)) ok hA (ev_call (k := .n) (ps := [LS (kept ++ [w1, w2])]) ok hA (g_pre_parse_validation G.hW) (.inr (.inr ⟨_, _, _, rfl, rfl, G.obj (show List.lookup 57 (hd.heap_39 P) = some _ from rfl)⟩)) (.cons (Ev.cast (q := LS (kept ++ [w1, w2])) (ev_bin (p := LS kept) (q := LS [w1, w2]) ok hA (ev_name ok B15 rfl) (ev_name ok B16 rfl) (op_lcat (two [w1, w2] rfl))) (ls_app kept [w1, w2])) .nil) ((f42 (C := fnCx C _ h 126 _) ⟨G.hW, G.hB⟩ all42 s42).castP (congrArg LS hv)))
        (Ev.cast (q := LS (kept ++ rs)) (ev_bin (p := LS kept) (q := LS rs) ok hA (ev_name ok B15 rfl) (ev_ifexp (b := ev) (p := LS rs) (k := .f) (tst_val ok hA (ev_name ok B17 rfl) tr_bool) ?ie) (op_lcat (two rs rs2))) (ls_app kept rs)) op_eq_strs) (congrArg PV.bool (beq_self_eq_true _))) (.inl rfl))
      case ie =>
        subst hrs
        cases ev with
        | true => exact ev_name ok B16 rfl
        | false => exact Ev.toF (ev_list (ps := [.str "('', '')", .str "('', '')"]) ok hA (.cons ev_str (.cons ev_str .nil)) (show 2 ≤ sizeLine by decide))
    | cons q r =>
      rw [if_neg (show ¬ ((q :: r == []) = true) by simp)]
      obtain ⟨i, hi, hq, hno, hlk, hv⟩ := F.sound1 dress hbr
      refine ws_nil (ws_cons (w1_assign (p := .int (i : Int)) ok B18 (ev_meth ok hA (ev_name ok A3 rfl) (.inl ⟨_, rfl, rfl⟩) meth_index (.cons (ev_item (p := .int q) (ev_name ok B12 rfl) ev_int (by decide) (by decide) rfl) .nil) (fn_index hi (Nat.le_trans gl (by decide)) hq hno)) ?_))
      have fl : ∀ u : Int → Bool, (m.filter u).length ≤ 40 := fun u => Nat.le_trans (List.length_filter_le _ _) ml
      show WS _ _ _ [.v (LI ns), .v (LI cells), .v (LI f), .v (LI g), .v (LI s), .v (.int (stopF g : Int)), .v (LI m), .v (LI m), .v (.list (g.map fun p => LI (partsF g p))), .v (.list (g.map fun p => .str (wds g p))), .v (LS (signsF m (stopF g) dress)), .v (LS (g.map (txt g m dress))), .v (LI (q :: r)), .unb, .unb, .unb, .unb, .unb, .v (.int (i : Int)), .unb] _ _
      refine ws_cons (w1_assign (p := .int (lackF m q : Int)) ok B19 (Ev.cast (ev_call ok hA (g_len G.hW G.hB) (.inl ⟨_, rfl⟩) (.cons (ev_comp ["place"] ["broken", "members"] (ps := m.map .int) (out := (m.filter fun p => m.any (· == q - p)).map .int) ok hA.h (by kernel_rfl) (iter_list (k := .f) ok hA.h (ev_name ok A6 rfl) (fun q => by cases q)).z (.cons B12 rfl (.cons A6 rfl .nil)) (by simp [owns]) (fun L Z' ok' => ?c7) ?s7) .nil) (fn_len ?s7)) (by rw [List.length_map]; rfl)) ?_)
      case c7 => exact WC.of PV.int PV.int (fun p => m.any (· == q - p)) m _ fun p _ l => ⟨_, .name A0, rfl, tst_cmp ok' hA (ev_bin ok' hA (ev_item (p := .int q) (ev_name ok' A1 rfl) ev_int (by decide) (by decide) rfl) (ev_name ok' A0 rfl) op_sub) (ev_name ok' A2 rfl) op_in_ints, fun _ => ev_name ok' A0 rfl⟩
      case s7 => exact sz_small (by rw [List.length_map]; exact Nat.le_trans (fl _) (by decide))
      show WS _ _ _ [.v (LI ns), .v (LI cells), .v (LI f), .v (LI g), .v (LI s), .v (.int (stopF g : Int)), .v (LI m), .v (LI m), .v (.list (g.map fun p => LI (partsF g p))), .v (.list (g.map fun p => .str (wds g p))), .v (LS (signsF m (stopF g) dress)), .v (LS (g.map (txt g m dress))), .v (LI (q :: r)), .unb, .unb, .unb, .unb, .unb, .v (.int (i : Int)), .v (.int (lackF m q : Int))] _ _
      have gi : g[i] = q := by rw [← hq, List.getD_eq_getElem?_getD, List.getElem?_eq_getElem hi]; rfl
      have hqg : q ∈ g := gi ▸ List.getElem_mem _
      have hget : ((g.map (txt g m dress)).map PV.str)[((i : Nat) : Int).toNat]? = some (.str (txt g m dress q)) := by
        rw [Int.toNat_natCast, List.getElem?_map, List.getElem?_map, List.getElem?_eq_getElem hi, gi]; rfl
      have ql : (txt g m dress q).length ≤ 300 := F.txt_len dress hqg
      have mll := mul_le (x := "(") (n := (lackF m q : Int)) (show ("(" : Str).length ≤ 1 by decide) (lt6 hlk)
      have hmk : MulOk "(" (lackF m q : Int) := mulOk_one (show ("(" : Str).length ≤ 4 by decide) (Int.natCast_nonneg _) (lt6 hlk)
      have hcat : (txt g m dress q).length + (Txt.mul "(" (lackF m q : Int)).length ≤ sizeLine := sz_small (Nat.le_trans (Nat.add_le_add ql mll) (by decide))
      generalize hT : g.map (txt g m dress) = T at tl tle hv hget ⊢
      have all42 : ∀ x ∈ T.take (i + 1) ++ [txt g m dress q ++ Txt.mul "(" (lackF m q : Int)], x.length ≤ 2 ^ 10 := fun x hx => by
        rcases List.mem_append.mp hx with hx | hx
        · exact Nat.le_trans (tle x (List.mem_of_mem_take hx)) (by decide)
        · rw [List.mem_singleton.mp hx, Str.length_append]; exact Nat.le_trans (Nat.add_le_add ql mll) (by decide)
      have t1 : (T.take (i + 1)).length ≤ 30 := by rw [List.length_take, tl]; exact Nat.le_trans (Nat.min_le_right _ _) gl
      have t0 : (T.take i).length ≤ 30 := by rw [List.length_take, tl]; exact Nat.le_trans (Nat.min_le_right _ _) gl
      have s42 : (T.take (i + 1) ++ [txt g m dress q ++ Txt.mul "(" (lackF m q : Int)]).length ≤ 2 ^ 10 := by rw [List.length_append]; exact Nat.le_trans (Nat.add_le_add_right t1 1) (by decide)
      have p1 : pick (T.map PV.str) none (some (((i + 1 : Nat)) : Int)) = (T.take (i + 1)).map .str := pick_len PV.str T (n60 (Nat.le_trans (Nat.succ_le_of_lt hi) (Nat.le_trans gl (by decide))))
      have p0 : pick (T.map PV.str) none (some ((i : Nat) : Int)) = (T.take i).map .str := pick_len PV.str T (n60 (Nat.le_trans (Nat.le_of_lt hi) (Nat.le_trans gl (by decide))))
      have tsz' : (T.map PV.str).length ≤ sizeLine := szm _ (by rw [tl]; exact gl5)
      have i0 : (0 : Int) ≤ (i : Int) := Int.natCast_nonneg i
      have i6 : (i : Int) < 2 ^ 62 := lt7 (Nat.le_trans (Nat.le_of_lt hi) (Nat.le_trans gl (by decide)))
      have c1 : ((T.take (i + 1)).map PV.str).length + 1 ≤ sizeLine := sz_small (by rw [List.length_map]; exact Nat.le_trans (Nat.add_le_add_right t1 1) (by decide))
      have c0 : ((T.take i).map PV.str).length + 2 ≤ sizeLine := sz_small (by rw [List.length_map]; exact Nat.le_trans (Nat.add_le_add_right t0 2) (by decide))
      generalize lackF m q = lk at hv hmk hcat all42 s42 ⊢
      generalize txt g m dress q = tq at hv hget hcat all42 s42 ⊢
      refine ws_cons (w1_retb (Ev.cast (q := .bool true) (ev_cmp (p := LS (T.take i ++ [("('', '')" : Str), "('', '')"])) (q := LS (T.take i ++ [("('', '')" : Str), "('', '')"])) ok hA (ev_call (k := .n) (ps := [LS (T.take (i + 1) ++ [tq ++ Txt.mul "(" (lk : Int)])]) ok hA (g_pre_parse_validation G.hW) (.inr (.inr ⟨_, _, _, rfl, rfl, G.obj (show List.lookup 57 (hd.heap_39 P) = some _ from rfl)⟩)) (.cons (Ev.cast (q := LS (T.take (i + 1) ++ [tq ++ Txt.mul "(" (lk : Int)])) (ev_bin (k1 := .n) (k2 := .n) (p := LS (T.take (i + 1))) (q := LS [tq ++ Txt.mul "(" (lk : Int)]) ok hA ?e1 ?e2 (op_lcat c1)) (ls_app _ _)) .nil) ((f42 (C := fnCx C _ h 126 _) ⟨G.hW, G.hB⟩ all42 s42).castP (congrArg LS hv)))
        (Ev.cast (q := LS (T.take i ++ [("('', '')" : Str), "('', '')"])) (ev_bin (k1 := .n) (k2 := .n) (p := LS (T.take i)) (q := LS ["('', '')", "('', '')"]) ok hA ?e3 (ev_list (ps := [.str "('', '')", .str "('', '')"]) ok hA (.cons ev_str (.cons ev_str .nil)) (show 2 ≤ sizeLine by decide)) (op_lcat c0)) (ls_app _ _)) op_eq_strs) (congrArg PV.bool (beq_self_eq_true _))) (.inl rfl))
      case e1 => exact Ev.cast (ev_slice (lo := none) ok hA (ev_name ok B11 rfl) (by exact trivial) (evP (Ev.cast (q := .int ((i + 1 : Nat) : Int)) (ev_bin ok hA (ev_name ok B18 rfl) ev_int op_add) (congrArg PV.int (Int.natCast_succ i).symm))) tsz') (congrArg PV.list p1)
      case e2 => exact ev_list (ps := [.str (tq ++ Txt.mul "(" (lk : Int))]) ok hA (.cons (ev_bin ok hA (ev_item (p := .str tq) (ev_name ok B11 rfl) (ev_name ok B18 rfl) i0 i6 hget) (ev_bin ok hA ev_str (ev_name ok B19 rfl) (op_rep hmk)) (op_cat hcat)) .nil) (show 1 ≤ sizeLine by decide)
      case e3 => exact Ev.cast (ev_slice (lo := none) ok hA (ev_name ok B11 rfl) (by exact trivial) (evP (ev_name ok B18 rfl)) tsz') (congrArg PV.list p0)
end
end Py

set_option maxRecDepth 100000
set_option maxHeartbeats 8000000
namespace Py
theorem list_arg {h : Heap} {p : Params} {a : Addr} {vs : List Value} {ns : List Int} (w : Well p h (.ref a) (ofPy (PyData.list (ns.map PyData.int)))) (hL : h.IsList a vs.toArray) (hI : IntsAre vs ns) : RepBs h noZ [LI ns] [.ref a] := by
  refine ⟨.ref a, [], rfl, ⟨a, vs, rfl, ?_, IntsAre.reps hI⟩, rfl⟩
  cases w with
  | list e _ =>
    obtain ⟨o, e', hc, n, hd⟩ := hL
    rw [e] at e'
    cases e'
    cases hd
    exact ⟨_, e⟩
noncomputable def cx0 (prog : Program) (w : World) (K : Frag) (mg mb : Str → Option Value) (h : Heap) : Cx := { prog := prog, w := w, W := WW K mg mb, env := default, vs := [], h₀ := h }
theorem good_end {c : ClaimW} {cl : Str → Option Addr} {mean : ExcName → Option Value} {args : List WData} {s₁ s' : Shared} {b : Bool} (hr : ∀ cls, c.raises args cls = false) (hp : c.post args (.bool b) args = true) (X : Ext s₁ s') (hg : s₁.gens = #[]) :
    GoodWG c cl mean args s₁ (.ok (.ret (.bool b))) s' :=
  ⟨.inl ⟨_, _, [], rfl, hr, ReadsW.bool b, hp, fun _ => ⟨List.nodup_nil, fun _ hm => (nomatch hm)⟩⟩, .of_keep X.kp, X.os, X.gk.2.2 (by rw [hg]; exact AllBare.empty)⟩
end Py
theorem PySem.Challenge.cw_wf0022_02_holds : PySem.Challenge.rw_wf0022_02.Holds := by
  refine Py.hd ?_
  k_fill
  intro w s₀ s₁ mg mb G Y fa o pm cd doc dV kV ho hd' hcd hD hmg hg args vals as hpre hlay hrd hwl hlo
  have KX := kIn_of Y
  refine Ground.open G ?_
  intro T B D TE TW
  have hfa : mg (Str.ofString "law") = some (.ref 126) := mg_of KX (Top.g T) (show nsIn (Py.hd.heap_39 w.params) mainGlobals "law" = some (some (.ref 126)) by kernel_rfl)
  wrow_args hpre hlay hrd hwl hlo
  rename Well _ _ _ _ => hw1
  rename Heap.IsList _ _ _ => hL1
  rename IntsAre _ _ => hI1
  rename ¬ (_ : Int) < _ => hlen
  have hfa' : fa = 126 := by
    have e := hmg.symm.trans hfa
    exact Value.ref.inj (Option.some.inj e)
  subst hfa'
  have hG : Py.Gd (Py.cx0 PySem.Challenge.rw_wf0022_02.row.prog w (Py.hd.heap_39 w.params) mg mb s₁.heap) w.params mg mb := ⟨rfl, Top.builtins T⟩
  refine Py.f126 (C := Py.cx0 PySem.Challenge.rw_wf0022_02.row.prog w (Py.hd.heap_39 w.params) mg mb s₁.heap) hG (by omega) _ Py.noZ _ _ _ _ ⟨⟨rfl, by decide, by decide⟩, ⟨KX, Top.nolimit T, Top.g T, Top.b T⟩, Top.nolimit T, fun _ z => z.elim⟩ (Py.list_arg hw1 hL1 hI1) fun x s' X r => ?_
  have hx : x = .bool true := r.toB
  subst hx
  exact Py.good_end (fun _ => rfl) (by first | rfl | wrow_post) X hg

