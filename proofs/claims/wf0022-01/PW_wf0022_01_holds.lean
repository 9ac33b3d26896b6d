import PyProof.Rows.All
import Wide.All
import OpenK.AllK
import Wide.FinOn
import KE.KSortTup
import PySem.Challenge.RW_wf0022_01
open PySem PySem.W PyProof.Rows PySem.Calls
set_option Elab.async false
set_option linter.unusedVariables false
set_option linter.unusedSimpArgs false
namespace Py

/-- abstract values -/
inductive PV where
  | none
  | bool (b : Bool)
  | int (i : Int)
  | str (s : Str)
  | list (xs : List PV)
  | tup (xs : List PV)

noncomputable def Kp (h h' : Heap) : Prop := ∀ b o, h.get? b = some o → h'.get? b = some o
theorem Kp.refl (h : Heap) : Kp h h := fun _ _ e => e
theorem Kp.trans {a b c : Heap} (x : Kp a b) (y : Kp b c) : Kp a c := fun _ _ e => y _ _ (x _ _ e)

mutual
noncomputable def Rep (h : Heap) (Z : Addr → Prop) : PV → Value → Prop
  | .none, v => v = .none
  | .bool b, v => v = .bool b
  | .int i, v => ∃ t, v = .int i t
  | .str s, v => ∃ t, v = .str s t
  | .list xs, v => ∃ a vs, v = .ref a ∧ h.PlainList a vs.toArray ∧ ¬ Z a ∧ Reps h Z xs vs
  | .tup xs, v => ∃ a vs, v = .ref a ∧ IsTup h a vs.toArray ∧ ¬ Z a ∧ Reps h Z xs vs
noncomputable def Reps (h : Heap) (Z : Addr → Prop) : List PV → List Value → Prop
  | [], vs => vs = []
  | x :: xs, vs => ∃ v r, vs = v :: r ∧ Rep h Z x v ∧ Reps h Z xs r
end

noncomputable def SeqObj (o : Obj) : Prop := ∃ vs n, o.data = .seq vs n

mutual
theorem Rep.chg {h h' : Heap} {Z Z' : Addr → Prop} (H : ∀ a o, h.get? a = some o → SeqObj o → ¬ Z a → h'.get? a = some o ∧ ¬ Z' a) : ∀ (p : PV) (v : Value), Rep h Z p v → Rep h' Z' p v
  | .none, _, x => by simpa only [Rep] using x
  | .bool _, _, x => by simpa only [Rep] using x
  | .int _, _, x => by simpa only [Rep] using x
  | .str _, _, x => by simpa only [Rep] using x
  | .list xs, v, x => by
    simp only [Rep] at x ⊢
    obtain ⟨a, vs, rfl, ⟨n, e⟩, hz, r⟩ := x
    have q := H a _ e ⟨_, _, rfl⟩ hz
    exact ⟨a, vs, rfl, ⟨n, q.1⟩, q.2, Reps.chg H xs vs r⟩
  | .tup xs, v, x => by
    simp only [Rep] at x ⊢
    obtain ⟨a, vs, rfl, ⟨o, e, hc, n, hd⟩, hz, r⟩ := x
    have q := H a _ e ⟨_, _, hd⟩ hz
    exact ⟨a, vs, rfl, ⟨o, q.1, hc, n, hd⟩, q.2, Reps.chg H xs vs r⟩
theorem Reps.chg {h h' : Heap} {Z Z' : Addr → Prop} (H : ∀ a o, h.get? a = some o → SeqObj o → ¬ Z a → h'.get? a = some o ∧ ¬ Z' a) : ∀ (p : List PV) (v : List Value), Reps h Z p v → Reps h' Z' p v
  | [], _, x => by simpa only [Reps] using x
  | p :: ps, vs, x => by
    simp only [Reps] at x ⊢
    obtain ⟨v, r, rfl, h1, h2⟩ := x
    exact ⟨v, r, rfl, Rep.chg H p v h1, Reps.chg H ps r h2⟩
end

theorem Rep.kp {h h' : Heap} {Z : Addr → Prop} (k : Kp h h') {p : PV} {v : Value} (x : Rep h Z p v) : Rep h' Z p v := Rep.chg (fun a o e _ z => ⟨k a o e, z⟩) p v x
theorem Reps.kp {h h' : Heap} {Z : Addr → Prop} (k : Kp h h') {p : List PV} {v : List Value} (x : Reps h Z p v) : Reps h' Z p v := Reps.chg (fun a o e _ z => ⟨k a o e, z⟩) p v x

theorem Reps.length {h : Heap} {Z : Addr → Prop} : ∀ {ps : List PV} {vs : List Value}, Reps h Z ps vs → vs.length = ps.length
  | [], _, x => by simp only [Reps] at x; subst x; rfl
  | _ :: ps, _, x => by simp only [Reps] at x; obtain ⟨v, r, rfl, _, h2⟩ := x; simp [Reps.length h2]
theorem Reps.get {h : Heap} {Z : Addr → Prop} : ∀ {ps : List PV} {vs : List Value}, Reps h Z ps vs → ∀ (i : Nat) {p : PV}, ps[i]? = some p → ∃ v, vs[i]? = some v ∧ Rep h Z p v
  | [], _, _, i, _, e => by simp at e
  | q :: ps, _, x, 0, p, e => by simp only [Reps] at x; obtain ⟨v, r, rfl, h1, _⟩ := x; simp at e; subst e; exact ⟨v, rfl, h1⟩
  | q :: ps, _, x, i + 1, p, e => by simp only [Reps] at x; obtain ⟨v, r, rfl, _, h2⟩ := x; simp at e; obtain ⟨w, h3, h4⟩ := Reps.get h2 i e; exact ⟨w, by simpa using h3, h4⟩
theorem Reps.append {h : Heap} {Z : Addr → Prop} : ∀ {ps qs : List PV} {vs ws : List Value}, Reps h Z ps vs → Reps h Z qs ws → Reps h Z (ps ++ qs) (vs ++ ws)
  | [], _, _, _, x, y => by simp only [Reps] at x; subst x; simpa using y
  | _ :: ps, _, _, _, x, y => by simp only [Reps] at x; obtain ⟨v, r, rfl, h1, h2⟩ := x; simp only [List.cons_append, Reps]; exact ⟨v, _, rfl, h1, Reps.append h2 y⟩
theorem Reps.one {h : Heap} {Z : Addr → Prop} {p : PV} {v : Value} (x : Rep h Z p v) : Reps h Z [p] [v] := by simp only [Reps]; exact ⟨v, [], rfl, x, rfl⟩
theorem Reps.nil {h : Heap} {Z : Addr → Prop} : Reps h Z [] [] := by simp only [Reps]
theorem Reps.cons {h : Heap} {Z : Addr → Prop} {p : PV} {v : Value} {ps : List PV} {vs : List Value} (x : Rep h Z p v) (y : Reps h Z ps vs) : Reps h Z (p :: ps) (v :: vs) := by simp only [Reps]; exact ⟨v, vs, rfl, x, y⟩
theorem Reps.set {h : Heap} {Z : Addr → Prop} : ∀ {ps : List PV} {vs : List Value} (i : Nat) {p : PV} {v : Value}, Reps h Z ps vs → Rep h Z p v → Reps h Z (ps.set i p) (vs.set i v)
  | [], _, _, _, _, x, _ => by simp only [Reps] at x; subst x; simp [Reps]
  | _ :: ps, _, 0, _, _, x, y => by simp only [Reps] at x; obtain ⟨v, r, rfl, _, h2⟩ := x; exact .cons y h2
  | _ :: ps, _, i + 1, _, _, x, y => by simp only [Reps] at x; obtain ⟨v, r, rfl, h1, h2⟩ := x; exact .cons h1 (Reps.set i h2 y)

/-- a value that holds no address -/
noncomputable def Scal : PV → Prop
  | .list _ => False
  | .tup _ => False
  | _ => True
noncomputable def Scals (ps : List PV) : Prop := ∀ p ∈ ps, Scal p
theorem Rep.scal {h h' : Heap} {Z Z' : Addr → Prop} {p : PV} {v : Value} (sc : Scal p) (x : Rep h Z p v) : Rep h' Z' p v := by
  cases p with
  | list => exact sc.elim
  | tup => exact sc.elim
  | none => simpa only [Rep] using x
  | bool _ => simpa only [Rep] using x
  | int _ => simpa only [Rep] using x
  | str _ => simpa only [Rep] using x
theorem Reps.scal {h h' : Heap} {Z Z' : Addr → Prop} : ∀ {ps : List PV} {vs : List Value}, Scals ps → Reps h Z ps vs → Reps h' Z' ps vs
  | [], _, _, x => by simpa only [Reps] using x
  | p :: ps, _, sc, x => by
    simp only [Reps] at x ⊢
    obtain ⟨v, r, rfl, h1, h2⟩ := x
    exact ⟨v, r, rfl, h1.scal (sc p (by simp)), Reps.scal (fun q hq => sc q (by simp [hq])) h2⟩

/-- a list that may be one of the mutable ones; its items are not -/
noncomputable def RepB (h : Heap) (Z : Addr → Prop) : PV → Value → Prop
  | .list xs, v => ∃ a vs, v = .ref a ∧ h.PlainList a vs.toArray ∧ Reps h Z xs vs
  | p, v => Rep h Z p v
theorem Rep.b {h : Heap} {Z : Addr → Prop} : ∀ {p : PV} {v : Value}, Rep h Z p v → RepB h Z p v
  | .none, _, x => x
  | .bool _, _, x => x
  | .int _, _, x => x
  | .str _, _, x => x
  | .list _, _, x => by simp only [Rep] at x; obtain ⟨a, vs, e, l, _, r⟩ := x; exact ⟨a, vs, e, l, r⟩
  | .tup _, _, x => x
theorem PlainList.kp {h h' : Heap} (k : Kp h h') {a : Addr} {its : Array Value} (x : h.PlainList a its) : h'.PlainList a its := x.at fun o e => k a o e
theorem RepB.kp {h h' : Heap} {Z : Addr → Prop} (k : Kp h h') : ∀ {p : PV} {v : Value}, RepB h Z p v → RepB h' Z p v
  | .none, _, x => Rep.kp (Z := Z) k (p := .none) x
  | .bool b, _, x => Rep.kp (Z := Z) k (p := .bool b) x
  | .int i, _, x => Rep.kp (Z := Z) k (p := .int i) x
  | .str s, _, x => Rep.kp (Z := Z) k (p := .str s) x
  | .list _, _, ⟨a, vs, e, l, r⟩ => ⟨a, vs, e, PlainList.kp k l, r.kp k⟩
  | .tup xs, _, x => Rep.kp k (p := .tup xs) x

inductive RK where | b | f | n

noncomputable def Res (k : RK) (Z : Addr → Prop) (h h' : Heap) (p : PV) (v : Value) : Prop := match k with
  | .b => RepB h' Z p v
  | .f => Rep h' Z p v
  | .n => Rep h' Z p v ∧ ∀ a, v = .ref a → h.get? a = none
theorem Res.toB {k : RK} {Z : Addr → Prop} {h h' : Heap} {p : PV} {v : Value} (x : Res k Z h h' p v) : RepB h' Z p v := by
  cases k with
  | b => exact x
  | f => exact Rep.b x
  | n => exact Rep.b x.1
theorem none_kp {h h' : Heap} (k : Kp h h') {a : Addr} (e : h'.get? a = none) : h.get? a = none := by
  cases q : h.get? a with
  | none => rfl
  | some o => rw [k a o q] at e; cases e
theorem Res.kpL {k : RK} {Z : Addr → Prop} {h₁ h h' : Heap} {p : PV} {v : Value} (q : Kp h₁ h) (x : Res k Z h h' p v) : Res k Z h₁ h' p v := by
  cases k with
  | b => exact x
  | f => exact x
  | n => exact ⟨x.1, fun a e => none_kp q (x.2 a e)⟩

noncomputable def GK (g g' : Array GenState) : Prop := g.size ≤ g'.size ∧ (∀ i, i < g.size → g'[i]? = g[i]?) ∧ (AllBare g → AllBare g')
theorem GK.refl (g : Array GenState) : GK g g := ⟨Nat.le_refl _, fun _ _ => rfl, fun x => x⟩
theorem GK.trans {a b c : Array GenState} (x : GK a b) (y : GK b c) : GK a c :=
  ⟨Nat.le_trans x.1 y.1, fun i hi => (y.2.1 i (Nat.lt_of_lt_of_le hi x.1)).trans (x.2.1 i hi), fun z => y.2.2 (x.2.2 z)⟩

/-- what a pure piece of the run does to the state -/
structure Ext (s s' : Shared) : Prop where
  kp : Kp s.heap s'.heap
  gk : GK s.gens s'.gens
  dr : s'.drawn = s.drawn
  os : s'.os = s.os
theorem Ext.refl (s : Shared) : Ext s s := ⟨.refl _, .refl _, rfl, rfl⟩
theorem Ext.trans {a b c : Shared} (x : Ext a b) (y : Ext b c) : Ext a c := ⟨x.kp.trans y.kp, x.gk.trans y.gk, y.dr.trans x.dr, y.os.trans x.os⟩
theorem Ext.toks (s : Shared) (t : Nat) : Ext s { s with toks := t } := ⟨.refl _, .refl _, rfl, rfl⟩
theorem Ext.heap {s : Shared} {h : Heap} (k : Kp s.heap h) (t : Nat) : Ext s { s with heap := h, toks := t } := ⟨k, .refl _, rfl, rfl⟩
theorem Ext.heap' {s : Shared} {h : Heap} (k : Kp s.heap h) : Ext s { s with heap := h } := ⟨k, .refl _, rfl, rfl⟩
theorem Ext.push (s : Shared) (o : Obj) : Ext s { s with heap := s.heap.push o } := ⟨fun _ _ e => Heap.get?_push_of_some _ e, .refl _, rfl, rfl⟩

/-- what a local name holds -/
inductive LV where
  | unb
  | v (p : PV)
  | own (a : Addr) (xs : List PV)

structure Cx where
  prog : Program
  w : World
  W : Heap → Prop
  env : Env
  vs : List Str
  h₀ : Heap
noncomputable abbrev Cx.M (C : Cx) : Model := model C.prog C.w

structure Cx.Ok (C : Cx) : Prop where
  mono : ∀ h h', C.W h → Kp h h' → C.W h'
  w0 : C.W C.h₀
  lim : ∀ h, C.W h → h.NoLimit
  fk : C.env.scope.kind = .function
  nodup : C.vs.Nodup
  nodbg : ∀ x ∈ C.vs, (x == ("__debug__" : Str)) = false
  loc : ∀ x ∈ C.vs, C.env.kindOf x = some .local ∨ ∃ c, C.env.cells.lookup x = some c ∧ (C.env.kindOf x = some .cell ∨ (C.env.kindOf x = some .free ∧ (x == ("__classdict__" : Str)) = false))
  apart : C.env.cells.Pairwise fun x y => x.2 ≠ y.2
  newL : C.h₀.get? C.env.locals = none
  newC : ∀ x ∈ C.env.cells, C.h₀.get? x.2 = none
  cov : ∀ x ∈ C.env.cells, x.1 ∈ C.vs ∧ C.env.kindOf x.1 ≠ some .local ∧ C.env.cells.lookup x.1 = some x.2

noncomputable def VarAt (env : Env) (h : Heap) (m : Str → Option Value) (x : Str) (v : Value) : Prop :=
  (env.kindOf x = some .local ∧ m x = some v) ∨ (env.kindOf x ≠ some .local ∧ ∃ c, env.cells.lookup x = some c ∧ h.IsCell c (some v))

noncomputable def VarIs (env : Env) (h : Heap) (Z : Addr → Prop) (m : Str → Option Value) (x : Str) : LV → Prop
  | .unb => env.kindOf x ≠ some .local → ∀ c, env.cells.lookup x = some c → ∃ v, h.IsCell c v
  | .v p => ∃ v, VarAt env h m x v ∧ Rep h Z p v
  | .own a xs => VarAt env h m x (.ref a) ∧ Z a ∧ ∃ vs, h.PlainList a vs.toArray ∧ Reps h Z xs vs

noncomputable def Vars (env : Env) (h : Heap) (Z : Addr → Prop) (m : Str → Option Value) : List Str → List LV → Prop
  | [], [] => True
  | x :: xs, l :: ls => VarIs env h Z m x l ∧ Vars env h Z m xs ls
  | _, _ => False

noncomputable def owns : List LV → List Addr
  | [] => []
  | .own a _ :: r => a :: owns r
  | _ :: r => owns r

structure St (C : Cx) (Z : Addr → Prop) (σ : List LV) (s : Shared) : Prop where
  keep : Kp C.h₀ s.heap
  zf : ∀ a, Z a → C.h₀.get? a = none
  zl : ∀ a, Z a → ∃ o, s.heap.get? a = some o ∧ SeqObj o
  nd : (owns σ).Nodup
  vars : ∃ m, s.heap.Ns C.env.locals m ∧ Vars C.env s.heap Z m C.vs σ

/-- the place of a name -/
inductive At : List Str → Nat → Str → Prop
  | here {x : Str} {l : List Str} : At (x :: l) 0 x
  | there {x y : Str} {l : List Str} {n : Nat} : At l n x → At (y :: l) (n + 1) x
theorem At.mem {l : List Str} {n : Nat} {x : Str} (a : At l n x) : x ∈ l := by
  induction a with
  | here => exact .head _
  | there _ ih => exact .tail _ ih

theorem Vars.get {env : Env} {h : Heap} {Z : Addr → Prop} {m : Str → Option Value} : ∀ {xs : List Str} {ls : List LV} {i : Nat} {x : Str} {l : LV}, Vars env h Z m xs ls → At xs i x → ls[i]? = some l → VarIs env h Z m x l := by
  intro xs ls i x l V a e
  induction a generalizing ls with
  | here => cases ls with
    | nil => cases e
    | cons k ls => cases e; exact V.1
  | there _ ih => cases ls with
    | nil => cases e
    | cons k ls => exact ih V.2 e

theorem VarAt.keep {env : Env} {h h' : Heap} {m : Str → Option Value} {x : Str} {v : Value} (k : ∀ c w, h.IsCell c w → h'.IsCell c w) (V : VarAt env h m x v) : VarAt env h' m x v := by
  rcases V with h1 | ⟨h1, c, h2, h3⟩
  · exact .inl h1
  · exact .inr ⟨h1, c, h2, k _ _ h3⟩
/-- the general change of what the names hold -/
theorem VarIs.chg {env : Env} {h h' : Heap} {Z Z' : Addr → Prop} {m : Str → Option Value} {x : Str} (hc : ∀ c w, h.IsCell c w → h'.IsCell c w)
    (H : ∀ a o, h.get? a = some o → SeqObj o → ¬ Z a → h'.get? a = some o ∧ ¬ Z' a) :
    ∀ {l : LV}, (∀ a xs, l = .own a xs → Z' a ∧ ∀ o, h.get? a = some o → h'.get? a = some o) → VarIs env h Z m x l → VarIs env h' Z' m x l
  | .unb, _, V => fun hk c e => let ⟨v, q⟩ := V hk c e; ⟨v, hc _ _ q⟩
  | .v p, _, ⟨v, h1, h2⟩ => ⟨v, h1.keep hc, Rep.chg H p v h2⟩
  | .own a xs, ho, ⟨h1, _, vs, h3, h4⟩ => ⟨h1.keep hc, (ho a xs rfl).1, vs, h3.at (ho a xs rfl).2, Reps.chg H xs vs h4⟩
theorem owns_mem {a : Addr} {xs : List PV} : ∀ {ls : List LV}, .own a xs ∈ ls → a ∈ owns ls
  | .own b _ :: r, h => by
    simp only [List.mem_cons, owns] at h ⊢
    rcases h with h | h
    · cases h; exact .inl rfl
    · exact .inr (owns_mem h)
  | .unb :: r, h => by simp only [List.mem_cons, owns, reduceCtorEq, false_or] at h ⊢; exact owns_mem h
  | .v _ :: r, h => by simp only [List.mem_cons, owns, reduceCtorEq, false_or] at h ⊢; exact owns_mem h
theorem Vars.chg {env : Env} {h h' : Heap} {Z Z' : Addr → Prop} {m : Str → Option Value} (hc : ∀ c w, h.IsCell c w → h'.IsCell c w)
    (H : ∀ a o, h.get? a = some o → SeqObj o → ¬ Z a → h'.get? a = some o ∧ ¬ Z' a) :
    ∀ {xs : List Str} {ls : List LV}, (∀ a ys, .own a ys ∈ ls → Z' a ∧ ∀ o, h.get? a = some o → h'.get? a = some o) → Vars env h Z m xs ls → Vars env h' Z' m xs ls
  | [], [], _, _ => trivial
  | _ :: xs, l :: ls, ho, V => ⟨V.1.chg hc H (fun a ys e => ho a ys (by simp [e])), Vars.chg hc H (fun a ys e => ho a ys (by simp [e])) V.2⟩
theorem Vars.ownZ {env : Env} {h : Heap} {Z : Addr → Prop} {m : Str → Option Value} : ∀ {xs : List Str} {ls : List LV}, Vars env h Z m xs ls → ∀ a ys, .own a ys ∈ ls → Z a
  | [], [], _, _, _, h => by cases h
  | _ :: xs, l :: ls, V, a, ys, h => by
    rcases List.mem_cons.mp h with h | h
    · subst h; exact V.1.2.1
    · exact Vars.ownZ V.2 a ys h
theorem IsCell.kp {h h' : Heap} (k : Kp h h') (c : Addr) (w : Option Value) (x : h.IsCell c w) : h'.IsCell c w := x.keeps k

theorem St.kp {C : Cx} {Z : Addr → Prop} {σ : List LV} {s s' : Shared} (S : St C Z σ s) (k : Kp s.heap s'.heap) : St C Z σ s' := by
  obtain ⟨m, hn, V⟩ := S.vars
  exact ⟨S.keep.trans k, S.zf, fun a z => let ⟨o, e, q⟩ := S.zl a z; ⟨o, k _ _ e, q⟩, S.nd, m, hn.keeps k,
    V.chg (IsCell.kp k) (fun a o e _ z => ⟨k _ _ e, z⟩) fun a ys e => ⟨V.ownZ a ys e, fun o => k a o⟩⟩
theorem St.ext {C : Cx} {Z : Addr → Prop} {σ : List LV} {s s' : Shared} (S : St C Z σ s) (x : Ext s s') : St C Z σ s' := S.kp x.kp

/-- an expression: evaluates, changes nothing old, gives p -/
noncomputable def Ev (C : Cx) (A : Around) (Z : Addr → Prop) (σ : List LV) (e : Expr) (k : RK) (p : PV) : Prop :=
  ∀ (s : Shared) (Q : Value → Shared → Prop) (E : Value → Shared → Prop), St C Z σ s → (∀ v s', Ext s s' → Res k Z s.heap s'.heap p v → Q v s') → wpAny C.M A (eval e C.env) Q E s
/-- a test -/
noncomputable def Tst (C : Cx) (A : Around) (Z : Addr → Prop) (σ : List LV) (e : Expr) (b : Bool) : Prop :=
  ∀ (s : Shared) (Q : Bool → Shared → Prop) (E : Value → Shared → Prop), St C Z σ s → (∀ s', Ext s s' → Q b s') → wpAny C.M A (isTrue e C.env (eval e C.env)) Q E s

theorem Ev.toF {C : Cx} {A : Around} {Z : Addr → Prop} {σ : List LV} {e : Expr} {p : PV} (x : Ev C A Z σ e .n p) : Ev C A Z σ e .f p :=
  fun s Q E S h => x s Q E S fun v s' e' r => h v s' e' r.1
structure OkA (b : Nat) (A : Around) : Prop where
  h : A.handled = none
  d : A.depth + b < recursionLimit
  u : A.units + 4 * b + 16 < cLine
theorem OkA.in1 {b : Nat} {A : Around} (x : OkA (b + 1) A) : OkA b A.in1 := ⟨x.h, by have := x.d; show A.depth + b < _; omega, by have := x.u; show A.units + 1 + 4 * b + 16 < _; omega⟩
theorem OkA.deeper {b : Nat} {A : Around} {env : Env} (x : OkA (b + 1) A) : OkA b (A.deeper env) := ⟨x.h, by have := x.d; show A.depth + 1 + b < _; omega, by have := x.u; show A.units + 3 + 4 * b + 16 < _; omega⟩
theorem OkA.le {b c : Nat} {A : Around} (x : OkA b A) (h : c ≤ b) : OkA c A := ⟨x.h, by have := x.d; omega, by have := x.u; omega⟩

section
variable {C : Cx} {A : Around} {Z : Addr → Prop} {σ : List LV}

theorem loadVar {E : Value → Shared → Prop} {s : Shared} {x : Str} {v : Value} {m : Str → Option Value} {Q : Value → Shared → Prop} (ok : C.Ok) (hx : x ∈ C.vs) (hn : s.heap.Ns C.env.locals m) (V : VarAt C.env s.heap m x v) (h : Q v s) : wpAny C.M A (loadName C.env x) Q E s := by
  rcases V with ⟨h1, h2⟩ | ⟨h1, c, h2, h3⟩
  · exact wpAny_loadName_local ok.fk h1 hn h2 h
  · rcases ok.loc x hx with q | ⟨c', q1, q2 | ⟨q2, q3⟩⟩
    · exact absurd q h1
    · exact wpAny_loadName_cell ok.fk q2 h2 h3 h
    · exact wpAny_loadName_free ok.fk q2 h2 h3 h q3

theorem ev_name {x : Str} {pos : Pos} {i : Nat} {p : PV} (ok : C.Ok) (hi : At C.vs i x) (hv : σ[i]? = some (.v p)) : Ev C A Z σ (.Name x pos) .f p := by
  intro s Q E S h
  obtain ⟨m, hn, V⟩ := S.vars
  obtain ⟨v, h1, h2⟩ := V.get hi hv
  exact wpAny_Name (loadVar ok hi.mem hn h1 (h v s (.refl s) h2)) (ok.nodbg x hi.mem)
theorem ev_own {x : Str} {pos : Pos} {i : Nat} {a : Addr} {xs : List PV} (ok : C.Ok) (hi : At C.vs i x) (hv : σ[i]? = some (.own a xs)) : Ev C A Z σ (.Name x pos) .b (.list xs) := by
  intro s Q E S h
  obtain ⟨m, hn, V⟩ := S.vars
  obtain ⟨h1, h2, vs, h3, h4⟩ := V.get hi hv
  exact wpAny_Name (loadVar ok hi.mem hn h1 (h _ s (.refl s) ⟨a, vs, rfl, h3, h4⟩)) (ok.nodbg x hi.mem)

theorem ev_int {i : Int} {k : Nat} {pos : Pos} : Ev C A Z σ (.Constant (.int i) k pos) .f (.int i) := fun s _ _ _ h => wpAny_Constant_int (h _ _ (Ext.toks s _) ⟨_, rfl⟩)
theorem ev_str {x : Str} {k : Nat} {pos : Pos} : Ev C A Z σ (.Constant (.str x) k pos) .f (.str x) := fun s _ _ _ h => wpAny_Constant_str (h _ _ (Ext.toks s _) ⟨_, rfl⟩)
theorem ev_bool {b : Bool} {k : Nat} {pos : Pos} : Ev C A Z σ (.Constant (.bool b) k pos) .f (.bool b) := fun s _ _ _ h => wpAny_Constant_bool (h _ _ (Ext.refl s) rfl)
theorem ev_none {k : Nat} {pos : Pos} : Ev C A Z σ (.Constant .none k pos) .f .none := fun s _ _ _ h => wpAny_Constant_none (h _ _ (Ext.refl s) rfl)
end

end Py

namespace Py

noncomputable def Priv (C : Cx) (Z : Addr → Prop) (b : Addr) : Prop := Z b ∨ b = C.env.locals ∨ ∃ x ∈ C.env.cells, x.2 = b

structure Frame (C : Cx) (Z : Addr → Prop) (s : Shared) (Z' : Addr → Prop) (s' : Shared) : Prop where
  kp : ∀ b o, s.heap.get? b = some o → ¬ Priv C Z b → s'.heap.get? b = some o
  zz : ∀ a, Z' a → Z a ∨ s.heap.get? a = none
  gk : GK s.gens s'.gens
  dr : s'.drawn = s.drawn
  os : s'.os = s.os
theorem Frame.ofExt {C : Cx} {Z : Addr → Prop} {s s' : Shared} (x : Ext s s') : Frame C Z s Z s' := ⟨fun b o e _ => x.kp b o e, fun _ z => .inl z, x.gk, x.dr, x.os⟩
theorem Frame.refl {C : Cx} {Z : Addr → Prop} {s : Shared} : Frame C Z s Z s := .ofExt (.refl s)
theorem Frame.trans {C : Cx} {Z Z1 Z2 : Addr → Prop} {s s1 s2 : Shared} (x : Frame C Z s Z1 s1) (y : Frame C Z1 s1 Z2 s2) (live : ∀ a, s1.heap.get? a = none → s.heap.get? a = none) : Frame C Z s Z2 s2 := by
  refine ⟨fun b o e n => ?_, fun a z => ?_, x.gk.trans y.gk, y.dr.trans x.dr, y.os.trans x.os⟩
  · refine y.kp b o (x.kp b o e n) fun q => ?_
    rcases q with q | q
    · rcases x.zz b q with q | q
      · exact n (.inl q)
      · rw [e] at q; cases q
    · exact n (.inr q)
  · rcases y.zz a z with q | q
    · exact x.zz a q
    · exact .inr (live a q)

/-- every object that was there is there (perhaps changed) -/
noncomputable def Lv (s s' : Shared) : Prop := ∀ a, s'.heap.get? a = none → s.heap.get? a = none
theorem Lv.ofKp {s s' : Shared} (k : Kp s.heap s'.heap) : Lv s s' := fun _ e => none_kp k e
theorem Lv.trans {a b c : Shared} (x : Lv a b) (y : Lv b c) : Lv a c := fun q e => x q (y q e)
theorem Lv.same {s s' : Shared} {a : Addr} (hs : Heap.SameBut a s.heap s'.heap) (h : ∃ o, s'.heap.get? a = some o) : Lv s s' := fun b e => by
  by_cases q : b = a
  · subst q; obtain ⟨o, h⟩ := h; rw [h] at e; cases e
  · rw [← hs.2 b q]; exact e

theorem RepB.scal {h h' : Heap} {Z Z' : Addr → Prop} {p : PV} {v : Value} (sc : Scal p) (x : RepB h Z p v) : Rep h' Z' p v := by
  cases p with
  | list => exact sc.elim
  | _ => exact Rep.scal (h := h) (Z := Z) sc x

inductive Fl where
  | next | brk | cont
  | ret (p : PV)
noncomputable def RepN (h₀ h : Heap) (p : PV) (v : Value) : Prop := Rep h (fun a => ∃ o, h₀.get? a = some o) p v
noncomputable def FlIs (C : Cx) (h : Heap) : Fl → Flow → Prop
  | .next, f => f = .next
  | .brk, f => f = .brk
  | .cont, f => f = .cont
  | .ret p, f => ∃ v, f = .ret v ∧ RepN C.h₀ h p v

noncomputable abbrev Post := Fl → (Addr → Prop) → List LV → Prop

noncomputable def W1 (C : Cx) (A : Around) (Z : Addr → Prop) (σ : List LV) (st : Stmt) (P : Post) : Prop :=
  ∀ (s : Shared) (Q : Flow → Shared → Prop) (E : Value → Shared → Prop), St C Z σ s →
    (∀ fl f Z' σ' s', P fl Z' σ' → St C Z' σ' s' → Frame C Z s Z' s' → Lv s s' → FlIs C s'.heap fl f → Q f s') → wpAny C.M A (exec st C.env) Q E s
noncomputable def WS (C : Cx) (A : Around) (Z : Addr → Prop) (σ : List LV) (ss : List Stmt) (P : Post) : Prop :=
  ∀ (s : Shared) (Q : Flow → Shared → Prop) (E : Value → Shared → Prop), St C Z σ s →
    (∀ fl f Z' σ' s', P fl Z' σ' → St C Z' σ' s' → Frame C Z s Z' s' → Lv s s' → FlIs C s'.heap fl f → Q f s') → wpAny C.M A (execs ss C.env) Q E s

section
variable {C : Cx} {A : Around} {Z : Addr → Prop} {σ : List LV} {P : Post}

theorem ws_nil (h : P .next Z σ) : WS C A Z σ [] P := fun s Q E S hQ => wpAny_execs_nil (hQ .next _ Z σ s h S .refl (fun _ e => e) rfl)

theorem ws_cons {st : Stmt} {rest : List Stmt} (h : W1 C A Z σ st fun fl Z' σ' => match fl with | .next => WS C A Z' σ' rest P | fl => P fl Z' σ') : WS C A Z σ (st :: rest) P := by
  intro s Q E S hQ
  refine wpAny_execs_cons (h s _ E S fun fl f Z' σ' s' hp S' F L hf => ?_)
  cases fl with
  | next =>
    simp only [FlIs] at hf; subst hf
    exact hp s' Q E S' fun fl f Z'' σ'' s'' hp' S'' F' L' hf' => hQ fl f Z'' σ'' s'' hp' S'' (F.trans F' L) (L.trans L') hf'
  | brk => simp only [FlIs] at hf; subst hf; exact hQ .brk _ _ _ _ hp S' F L rfl
  | cont => simp only [FlIs] at hf; subst hf; exact hQ .cont _ _ _ _ hp S' F L rfl
  | ret p => obtain ⟨v, rfl, r⟩ := hf; exact hQ (.ret p) _ _ _ _ hp S' F L ⟨v, rfl, r⟩

theorem ws_mono {ss : List Stmt} {P' : Post} (h : WS C A Z σ ss P) (hp : ∀ fl Z' σ', P fl Z' σ' → P' fl Z' σ') : WS C A Z σ ss P' :=
  fun s Q E S hQ => h s Q E S fun fl f Z' σ' s' p => hQ fl f Z' σ' s' (hp fl Z' σ' p)

theorem Vars.len {env : Env} {h : Heap} {m : Str → Option Value} : ∀ {xs : List Str} {ls : List LV}, Vars env h Z m xs ls → xs.length = ls.length
  | [], [], _ => rfl
  | _ :: xs, _ :: ls, V => by simp [Vars.len V.2]

theorem At.get {l : List Str} {n : Nat} {x : Str} (a : At l n x) : l[n]? = some x := by
  induction a with
  | here => rfl
  | there _ ih => exact ih

theorem owns_set : ∀ (ls : List LV) (i : Nat) {l : LV}, (∀ a xs, l ≠ .own a xs) → (owns (ls.set i l)).Sublist (owns ls)
  | [], _, _, _ => by simp [owns]
  | y :: r, 0, l, h => by
    have e : owns (l :: r) = owns r := by cases l with | own a xs => exact absurd rfl (h a xs) | _ => rfl
    rw [List.set_cons_zero, e]
    cases y with
    | own a _ => exact List.sublist_cons_self ..
    | _ => exact List.Sublist.refl _
  | y :: r, i + 1, l, h => by
    rw [List.set_cons_succ]
    cases y with
    | own a _ => exact (owns_set r i h).cons_cons a
    | _ => exact owns_set r i h
theorem mem_owns : ∀ {ls : List LV} {a : Addr}, a ∈ owns ls → ∃ xs, .own a xs ∈ ls
  | .own b ys :: r, a, h => by
    rcases List.mem_cons.mp h with h | h
    · subst h; exact ⟨ys, .head _⟩
    · obtain ⟨xs, q⟩ := mem_owns h; exact ⟨xs, .tail _ q⟩
  | .unb :: r, a, h => let ⟨xs, q⟩ := mem_owns (ls := r) h; ⟨xs, .tail _ q⟩
  | .v _ :: r, a, h => let ⟨xs, q⟩ := mem_owns (ls := r) h; ⟨xs, .tail _ q⟩
theorem owns_set_own : ∀ (ls : List LV) (i : Nat) {a : Addr} {xs : List PV}, a ∉ owns ls → (owns ls).Nodup → (owns (ls.set i (.own a xs))).Nodup
  | [], _, _, _, _, _ => by simp [owns]
  | y :: r, 0, a, xs, h, n => by
    rw [List.set_cons_zero]
    cases y with
    | own b _ =>
      simp only [owns, List.mem_cons, not_or, List.nodup_cons] at h n ⊢
      exact ⟨h.2, n.2⟩
    | _ => exact List.nodup_cons.mpr ⟨h, n⟩
  | y :: r, i + 1, a, xs, h, n => by
    rw [List.set_cons_succ]
    cases y with
    | own b ys =>
      simp only [owns, List.mem_cons, not_or, List.nodup_cons] at h n ⊢
      refine ⟨fun q => ?_, owns_set_own r i h.2 n.2⟩
      obtain ⟨zs, q⟩ := mem_owns q
      rcases List.mem_or_eq_of_mem_set q with q | q
      · exact n.1 (owns_mem q)
      · cases q; exact h.1 rfl
    | _ => exact owns_set_own r i h n
/-- the same address again -/
theorem owns_set_same : ∀ (ls : List LV) (i : Nat) {a : Addr} {xs ys : List PV}, ls[i]? = some (.own a xs) → owns (ls.set i (.own a ys)) = owns ls
  | [], _, _, _, _, h => by simp at h
  | y :: r, 0, a, xs, ys, h => by simp at h; subst h; rfl
  | y :: r, i + 1, a, xs, ys, h => by
    rw [List.set_cons_succ]
    have := owns_set_same r i (ys := ys) (by simpa using h : r[i]? = some (.own a xs))
    cases y with
    | own b _ => simp only [owns, this]
    | _ => simp only [owns, this]

theorem Vars.upd {env : Env} {h h' : Heap} {Z' : Addr → Prop} {m m' : Str → Option Value} : ∀ {xs : List Str} {ls : List LV} {i : Nat} {x : Str} {l : LV}, xs.Nodup → Vars env h Z m xs ls → At xs i x →
    VarIs env h' Z' m' x l → (∀ y k, y ∈ xs → y ≠ x → k ∈ ls → VarIs env h Z m y k → VarIs env h' Z' m' y k) → Vars env h' Z' m' xs (ls.set i l) := by
  intro xs ls i x l nd V a hl H
  induction a generalizing ls with
  | here =>
    rename_i x xs
    cases ls with
    | nil => exact V.elim
    | cons k ls =>
    rw [List.set_cons_zero]
    refine ⟨hl, ?_⟩
    have hx : x ∉ xs := (List.nodup_cons.mp nd).1
    have go : ∀ {ys : List Str} {ks : List LV}, (∀ y ∈ ys, y ∈ xs) → (∀ k ∈ ks, k ∈ ls) → Vars env h Z m ys ks → Vars env h' Z' m' ys ks := by
      intro ys
      induction ys with
      | nil => intro ks _ _ W; cases ks with | nil => trivial | cons => exact W.elim
      | cons y ys ih =>
        intro ks hy hk W
        cases ks with
        | nil => exact W.elim
        | cons k' ks => exact ⟨H y k' (.tail _ (hy y (.head _))) (fun e => hx (e ▸ hy y (.head _))) (.tail _ (hk k' (.head _))) W.1, ih (fun z hz => hy z (.tail _ hz)) (fun z hz => hk z (.tail _ hz)) W.2⟩
    exact go (fun _ h => h) (fun _ h => h) V.2
  | there a ih =>
    rename_i x y xs i
    cases ls with
    | nil => exact V.elim
    | cons k ls =>
    rw [List.set_cons_succ]
    have hyx : y ≠ x := fun e => (List.nodup_cons.mp nd).1 (e ▸ a.mem)
    exact ⟨H y k (.head _) hyx (.head _) V.1, ih (List.nodup_cons.mp nd).2 V.2 hl fun z k' hzm hz hk => H z k' (.tail _ hzm) hz (.tail _ hk)⟩

theorem cell_seq {h : Heap} {c : Addr} {w : Option Value} (x : h.IsCell c w) {o : Obj} (e : h.get? c = some o) (hs : SeqObj o) : False := by
  obtain ⟨o', e', d⟩ := x
  rw [e] at e'; cases e'
  obtain ⟨vs, n, q⟩ := hs
  rw [q] at d; cases d
theorem ns_seq {h : Heap} {c : Addr} {m : Str → Option Value} (x : h.Ns c m) {o : Obj} (e : h.get? c = some o) (hs : SeqObj o) : False := by
  obtain ⟨o', es, ep, e', d, _⟩ := x
  rw [e] at e'; cases e'
  obtain ⟨vs, n, q⟩ := hs
  rw [q] at d; cases d
theorem ns_cell {h : Heap} {c : Addr} {m : Str → Option Value} {w : Option Value} (x : h.Ns c m) (y : h.IsCell c w) : False := by
  obtain ⟨o', es, ep, e', d, _⟩ := x
  obtain ⟨o, e, d'⟩ := y
  rw [e] at e'; cases e'
  rw [d'] at d; cases d

mutual
theorem Rep.but {h h' : Heap} {a : Addr} (hs : Heap.SameBut a h h') (hn : ∀ o, h.get? a = some o → ¬ SeqObj o) : ∀ (p : PV) (v : Value), Rep h Z p v → Rep h' Z p v
  | .none, _, x => by simpa only [Rep] using x
  | .bool _, _, x => by simpa only [Rep] using x
  | .int _, _, x => by simpa only [Rep] using x
  | .str _, _, x => by simpa only [Rep] using x
  | .list xs, v, x => by
    simp only [Rep] at x ⊢
    obtain ⟨b, vs, rfl, ⟨n, e⟩, hz, r⟩ := x
    have hb : b ≠ a := fun q => hn _ (q ▸ e) ⟨_, _, rfl⟩
    exact ⟨b, vs, rfl, ⟨n, (hs.2 b hb).trans e⟩, hz, Reps.but hs hn xs vs r⟩
  | .tup xs, v, x => by
    simp only [Rep] at x ⊢
    obtain ⟨b, vs, rfl, ⟨o, e, hc, n, hd⟩, hz, r⟩ := x
    have hb : b ≠ a := fun q => hn _ (q ▸ e) ⟨_, _, hd⟩
    exact ⟨b, vs, rfl, ⟨o, (hs.2 b hb).trans e, hc, n, hd⟩, hz, Reps.but hs hn xs vs r⟩
theorem Reps.but {h h' : Heap} {a : Addr} (hs : Heap.SameBut a h h') (hn : ∀ o, h.get? a = some o → ¬ SeqObj o) : ∀ (p : List PV) (v : List Value), Reps h Z p v → Reps h' Z p v
  | [], _, x => by simpa only [Reps] using x
  | p :: ps, vs, x => by
    simp only [Reps] at x ⊢
    obtain ⟨v, r, rfl, h1, h2⟩ := x
    exact ⟨v, r, rfl, Rep.but hs hn p v h1, Reps.but hs hn ps r h2⟩
end
theorem RepB.but {h h' : Heap} {a : Addr} (hs : Heap.SameBut a h h') (hn : ∀ o, h.get? a = some o → ¬ SeqObj o) : ∀ {p : PV} {v : Value}, RepB h Z p v → RepB h' Z p v
  | .none, _, x => Rep.but (Z := Z) hs hn .none _ x
  | .bool b, _, x => Rep.but (Z := Z) hs hn (.bool b) _ x
  | .int i, _, x => Rep.but (Z := Z) hs hn (.int i) _ x
  | .str s, _, x => Rep.but (Z := Z) hs hn (.str s) _ x
  | .tup xs, _, x => Rep.but (Z := Z) hs hn (.tup xs) _ x
  | .list _, _, ⟨b, vs, e, ⟨n, l⟩, r⟩ => ⟨b, vs, e, ⟨n, (hs.2 b fun q => hn _ (q ▸ l) ⟨_, _, rfl⟩).trans l⟩, Reps.but hs hn _ _ r⟩

theorem VarIs.but {env : Env} {h h' : Heap} {a : Addr} {m m' : Str → Option Value} {y : Str} (hs : Heap.SameBut a h h') (hn : ∀ o, h.get? a = some o → ¬ SeqObj o)
    (hm : env.kindOf y = some .local → m' y = m y) (hc : ∀ c w, env.kindOf y ≠ some .local → env.cells.lookup y = some c → h.IsCell c w → c ≠ a) : ∀ {l : LV}, VarIs env h Z m y l → VarIs env h' Z m' y l := by
  have va : ∀ v, VarAt env h m y v → VarAt env h' m' y v := by
    intro v V
    rcases V with ⟨h1, h2⟩ | ⟨h1, c, h2, h3⟩
    · exact .inl ⟨h1, (hm h1).trans h2⟩
    · exact .inr ⟨h1, c, h2, h3.sameBut hs (hc c _ h1 h2 h3)⟩
  intro l V
  cases l with
  | unb => exact fun hk c e => let ⟨v, q⟩ := V hk c e; ⟨v, q.sameBut hs (hc c v hk e q)⟩
  | v p => obtain ⟨v, h1, h2⟩ := V; exact ⟨v, va v h1, Rep.but hs hn p v h2⟩
  | own b xs =>
    obtain ⟨h1, hz, vs, ⟨n, h3⟩, h4⟩ := V
    exact ⟨va _ h1, hz, vs, ⟨n, (hs.2 b fun q => hn _ (q ▸ h3) ⟨_, _, rfl⟩).trans h3⟩, Reps.but hs hn xs vs h4⟩

theorem lookup_ne : ∀ {cs : List (Str × Addr)}, (cs.Pairwise fun x y => x.2 ≠ y.2) → ∀ {x y : Str} {c d : Addr}, x ≠ y → cs.lookup x = some c → cs.lookup y = some d → c ≠ d := by
  intro cs hp x y c d hxy h1 h2 e
  subst e
  exact hxy (name_of_addr hp (mem_of_lookup h1) (mem_of_lookup h2))

noncomputable def Only (C : Cx) (x : Str) (s s' : Shared) : Prop := ∀ b o, s.heap.get? b = some o → b ≠ C.env.locals → C.env.cells.lookup x ≠ some b → s'.heap.get? b = some o

/-- a name is bound: the general fact. New list objects may be taken into Z. -/
theorem storeVar {E : Value → Shared → Prop} {s : Shared} {x : Str} {v : Value} {i : Nat} {Q : Unit → Shared → Prop} (ok : C.Ok) (S : St C Z σ s) (hi : At C.vs i x)
    (h : ∀ s' m', s'.heap.Ns C.env.locals m' → Lv s s' → Frame C Z s Z s' → VarAt C.env s'.heap m' x v → (∀ p w, RepB s.heap Z p w → RepB s'.heap Z p w) → (∀ p w, Rep s.heap Z p w → Rep s'.heap Z p w) → (∀ a o, s.heap.get? a = some o → SeqObj o → s'.heap.get? a = some o) →
      Only C x s s' → Kp C.h₀ s'.heap → (∀ y k, y ≠ x → k ∈ σ → y ∈ C.vs → (∃ m, s.heap.Ns C.env.locals m ∧ VarIs C.env s.heap Z m y k) → VarIs C.env s'.heap Z m' y k) → Q () s') :
    wpAny C.M A (storeName C.env x v) Q E s := by
  obtain ⟨m, hn, V⟩ := S.vars
  rcases ok.loc x hi.mem with hl | ⟨c, hc, hk⟩
  · have hp : (C.env.scope.kind == .class || (C.env.scope.kind == .module && C.env.locals != C.env.globals)) = false := by rw [ok.fk]; rfl
    refine wpAny_storeName_local hl hn (fun h' hn' hs => ?_) hp
    have nseq : ∀ o, s.heap.get? C.env.locals = some o → ¬ SeqObj o := fun o e q => ns_seq hn e q
    have there : ∃ o, h'.get? C.env.locals = some o := let ⟨o, _, _, e, _⟩ := hn'; ⟨o, e⟩
    refine h { s with heap := h', toks := s.toks + 1 } _ hn' (Lv.same (s' := { s with heap := h', toks := s.toks + 1 }) hs there) ⟨fun b o e n => (hs.2 b fun q => n (.inr (.inl q))).trans e, fun a z => .inl z, .refl _, rfl, rfl⟩ (.inl ⟨hl, by simp⟩)
      (fun p w => RepB.but hs nseq) (fun p w => Rep.but hs nseq p w) (fun a o e q => (hs.2 a fun z => nseq o (z ▸ e) q).trans e) (fun b o e n _ => (hs.2 b n).trans e) (fun b o e => ?_) fun y k hy _ hyv hV => ?_
    · refine (hs.2 b fun q => ?_).trans (S.keep b o e)
      have := ok.newL; rw [← q, e] at this; cases this
    · obtain ⟨m₁, hn₁, hV⟩ := hV
      have em : ∀ z, m₁ z = m z := fun z => by
        obtain ⟨o, es, ep, e1, d1, _, q1⟩ := hn
        obtain ⟨o', es', ep', e2, d2, _, q2⟩ := hn₁
        rw [e1] at e2; cases e2
        rw [d1] at d2; cases d2
        exact (q2 z).symm.trans (q1 z)
      refine hV.but hs nseq (fun _ => by simp [hy, em]) fun c w _ _ hc q => ?_
      subst q
      exact ns_cell hn hc
  · have hc' : C.env.kindOf x ≠ some .local := by rcases hk with q | ⟨q, _⟩ <;> rw [q] <;> decide
    have hcell : ∃ v₀, s.heap.IsCell c v₀ := by
      have hlen := Vars.len V
      have hlt : i < σ.length := by
        rw [← hlen]
        have := hi.get
        exact (List.getElem?_eq_some_iff.mp this).1
      have hV := V.get hi (List.getElem?_eq_getElem hlt)
      generalize σ[i] = l at hV
      cases l with
      | unb => exact hV hc' c hc
      | v p =>
        obtain ⟨v, q | ⟨_, c', q1, q2⟩, _⟩ := hV
        · exact absurd q.1 hc'
        · rw [hc] at q1; cases q1; exact ⟨_, q2⟩
      | own a xs =>
        obtain ⟨q | ⟨_, c', q1, q2⟩, _⟩ := hV
        · exact absurd q.1 hc'
        · rw [hc] at q1; cases q1; exact ⟨_, q2⟩
    obtain ⟨v₀, hv₀⟩ := hcell
    have free : C.env.kindOf x = some .cell ∨ C.env.kindOf x = some .free := by rcases hk with q | ⟨q, _⟩; exact .inl q; exact .inr q
    have st : wpAny C.M A (storeName C.env x v) Q E s := by
      have go : ∀ h', h'.IsCell c (some v) → Heap.SameBut c s.heap h' → Q () { s with heap := h' } := by
        intro h' hc1 hs
        have nseq : ∀ o, s.heap.get? c = some o → ¬ SeqObj o := fun o e q => cell_seq hv₀ e q
        have there : ∃ o, h'.get? c = some o := let ⟨o, e, _⟩ := hc1; ⟨o, e⟩
        have hcm := mem_of_lookup hc
        have ncl : c ≠ C.env.locals := fun q => ns_cell hn (q ▸ hv₀)
        refine h { s with heap := h' } m (hn.sameBut hs (Ne.symm ncl)) (Lv.same (s' := { s with heap := h' }) hs there) ⟨fun b o e n => (hs.2 b fun q => n (.inr (.inr ⟨_, hcm, q.symm⟩))).trans e, fun a z => .inl z, .refl _, rfl, rfl⟩ (.inr ⟨hc', c, hc, hc1⟩)
          (fun p w => RepB.but hs nseq) (fun p w => Rep.but hs nseq p w) (fun a o e q => (hs.2 a fun z => nseq o (z ▸ e) q).trans e) (fun b o e _ n => (hs.2 b fun q => n (q ▸ hc)).trans e) (fun b o e => ?_) fun y k hy _ hyv hV => ?_
        · refine (hs.2 b fun q => ?_).trans (S.keep b o e)
          have := ok.newC _ hcm; rw [show (x, c).2 = b from q.symm, e] at this; cases this
        · obtain ⟨m₁, hn₁, hV⟩ := hV
          have em : ∀ z, m₁ z = m z := fun z => by
            obtain ⟨o, es, ep, e1, d1, _, q1⟩ := hn
            obtain ⟨o', es', ep', e2, d2, _, q2⟩ := hn₁
            rw [e1] at e2; cases e2
            rw [d1] at d2; cases d2
            exact (q2 z).symm.trans (q1 z)
          refine hV.but hs nseq (fun _ => (em y).symm) fun d w _ hd _ q => ?_
          exact lookup_ne ok.apart hy hd hc q
      rcases free with q | q
      · exact wpAny_storeName_cell ok.fk q hc hv₀ go
      · unfold storeName
        simp only [q, ok.fk]
        exact wpAny_bind (wpAny_cellOf hc (wpAny_cellSet hv₀ go))
    exact st

theorem store_v {E : Value → Shared → Prop} {s : Shared} {x : Str} {v : Value} {i : Nat} {p : PV} {Q : Unit → Shared → Prop} (ok : C.Ok) (S : St C Z σ s) (hi : At C.vs i x) (hr : Rep s.heap Z p v)
    (h : ∀ s', St C Z (σ.set i (.v p)) s' → Frame C Z s Z s' → Lv s s' → Only C x s s' → (∀ q w, Rep s.heap Z q w → Rep s'.heap Z q w) → (∀ q w, RepB s.heap Z q w → RepB s'.heap Z q w) → Q () s') : wpAny C.M A (storeName C.env x v) Q E s := by
  refine storeVar ok S hi fun s' m' hn L F hv hB hR hO hOn hK hV => h s' ⟨hK, S.zf, fun a z => ?_, ?_, m', hn, ?_⟩ F L hOn hR hB
  · obtain ⟨o, e, q⟩ := S.zl a z
    exact ⟨o, hO a o e q, q⟩
  · exact List.Nodup.sublist (owns_set σ i (by intro a xs q; cases q)) S.nd
  · obtain ⟨m, hm, V⟩ := S.vars
    exact Vars.upd (h := s.heap) ok.nodup V hi ⟨v, hv, hR p v hr⟩ fun y k hyv hy hk hVk => hV y k hy hk hyv ⟨m, hm, hVk⟩

noncomputable def ins (a : Addr) (Z : Addr → Prop) : Addr → Prop := fun b => b = a ∨ Z b

theorem St.ins {s₀ s : Shared} {a : Addr} (S : St C Z σ s₀) (k : Kp s₀.heap s.heap) (ha : s₀.heap.get? a = none) (hl : ∃ o, s.heap.get? a = some o ∧ SeqObj o) : St C (ins a Z) σ s := by
  obtain ⟨m, hn, V⟩ := S.vars
  refine ⟨S.keep.trans k, fun b z => ?_, fun b z => ?_, S.nd, m, hn.keeps k, ?_⟩
  · rcases z with rfl | z
    · cases q : C.h₀.get? b with
      | none => rfl
      | some o => rw [S.keep b o q] at ha; cases ha
    · exact S.zf b z
  · rcases z with rfl | z
    · exact hl
    · obtain ⟨o, e, q⟩ := S.zl b z; exact ⟨o, k _ _ e, q⟩
  · refine V.chg (IsCell.kp k) (fun b o e _ z => ⟨k _ _ e, ?_⟩) fun b ys e => ⟨.inr (V.ownZ b ys e), fun o => k b o⟩
    rintro (rfl | q)
    · rw [ha] at e; cases e
    · exact z q

theorem Frame.ins {s₀ s : Shared} {a : Addr} (x : Ext s₀ s) (ha : s₀.heap.get? a = none) : Frame C Z s₀ (ins a Z) s :=
  ⟨fun b o e _ => x.kp b o e, fun b z => z.elim (fun q => .inr (q ▸ ha)) .inl, x.gk, x.dr, x.os⟩

/-- a new list of scalars becomes a name's own -/
theorem store_own {E : Value → Shared → Prop} {s₀ s : Shared} {x : Str} {v : Value} {i : Nat} {xs : List PV} {Q : Unit → Shared → Prop} (ok : C.Ok) (S₀ : St C Z σ s₀) (X : Ext s₀ s) (hi : At C.vs i x) (sc : Scals xs) (hr : Res .n Z s₀.heap s.heap (.list xs) v)
    (h : ∀ a s', St C (ins a Z) (σ.set i (.own a xs)) s' → Frame C Z s₀ (ins a Z) s' → Lv s₀ s' → Q () s') : wpAny C.M A (storeName C.env x v) Q E s := by
  obtain ⟨hr, hf⟩ := hr
  simp only [Rep] at hr
  obtain ⟨a, vs, rfl, hl, hz, rs⟩ := hr
  have ha := hf a rfl
  obtain ⟨n, hg⟩ := hl
  have S := S₀.ins X.kp ha ⟨_, hg, _, _, rfl⟩
  refine storeVar (Z := ins a Z) ok S hi fun s' m' hn L F hv hB hR hO _ hK hV => h a s' ⟨hK, S.zf, fun b z => ?_, ?_, m', hn, ?_⟩ ((Frame.ins X ha).trans F (fun b e => L2 X.kp e)) (Lv.trans (Lv.ofKp X.kp) L)
  · obtain ⟨o, e, q⟩ := S.zl b z
    exact ⟨o, hO b o e q, q⟩
  · refine owns_set_own σ i (fun q => ?_) S.nd
    obtain ⟨ys, q⟩ := mem_owns q
    obtain ⟨m, _, V⟩ := S₀.vars
    obtain ⟨o, e, _⟩ := S₀.zl a (V.ownZ a ys q)
    rw [ha] at e; cases e
  · obtain ⟨m, hm, V⟩ := S.vars
    exact Vars.upd (h := s.heap) ok.nodup V hi ⟨hv, .inl rfl, vs, ⟨n, hO a _ hg ⟨_, _, rfl⟩⟩, Reps.scal sc rs⟩ fun y k hyv hy hk hVk => hV y k hy hk hyv ⟨m, hm, hVk⟩
where
  L2 {s₀ s : Shared} {b : Addr} (k : Kp s₀.heap s.heap) (e : s.heap.get? b = none) : s₀.heap.get? b = none := none_kp k e

/-- the list of an own name is changed in place -/
theorem upd_own {s : Shared} {x : Str} {i : Nat} {a : Addr} {xs xs' : List PV} {vs' : List Value} {h' : Heap} (ok : C.Ok) (S : St C Z σ s) (hi : At C.vs i x) (hx : σ[i]? = some (.own a xs)) (hs : Heap.SameBut a s.heap h') (hl : h'.PlainList a vs'.toArray) (hr : Reps s.heap Z xs' vs') (t : Tok) :
    St C Z (σ.set i (.own a xs')) { s with heap := h', toks := t } ∧ Frame C Z s Z { s with heap := h', toks := t } ∧ Lv s { s with heap := h', toks := t } := by
  obtain ⟨m, hn, V⟩ := S.vars
  obtain ⟨hva, hza, vs, hla, hra⟩ := V.get hi hx
  have hag : ∃ o, s.heap.get? a = some o ∧ SeqObj o := let ⟨n, e⟩ := hla; ⟨_, e, _, _, rfl⟩
  have ncell : ∀ c w, s.heap.IsCell c w → c ≠ a := by
    rintro c w hc rfl
    obtain ⟨o, e, q⟩ := hag
    exact cell_seq hc e q
  have nL : C.env.locals ≠ a := by
    intro q
    obtain ⟨o, e, q'⟩ := hag
    exact ns_seq hn (q ▸ e) q'
  have hc : ∀ c w, s.heap.IsCell c w → h'.IsCell c w := fun c w q => q.sameBut hs (ncell c w q)
  have H : ∀ b o, s.heap.get? b = some o → SeqObj o → ¬ Z b → h'.get? b = some o ∧ ¬ Z b := fun b o e _ z => ⟨(hs.2 b fun q => z (q ▸ hza)).trans e, z⟩
  have there : ∃ o, h'.get? a = some o := let ⟨n, e⟩ := hl; ⟨_, e⟩
  refine ⟨⟨fun b o e => (hs.2 b fun q => ?_).trans (S.keep b o e), S.zf, fun b z => ?_, ?_, m, hn.sameBut hs nL, ?_⟩, ⟨fun b o e n => (hs.2 b fun q => n (.inl (q ▸ hza))).trans e, fun _ z => .inl z, .refl _, rfl, rfl⟩, Lv.same (s' := { s with heap := h', toks := t }) hs there⟩
  · have := S.zf a hza; rw [← q, e] at this; cases this
  · by_cases q : b = a
    · subst q; obtain ⟨n, e⟩ := hl; exact ⟨_, e, _, _, rfl⟩
    · obtain ⟨o, e, q'⟩ := S.zl b z; exact ⟨o, (hs.2 b q).trans e, q'⟩
  · rw [owns_set_same σ i hx]; exact S.nd
  · have key : ∀ {ys : List Str} {ks : List LV} {j : Nat}, (owns ks).Nodup → Vars C.env s.heap Z m ys ks → At ys j x → ks[j]? = some (.own a xs) → Vars C.env h' Z m ys (ks.set j (.own a xs')) := by
      have rest : ∀ {ys : List Str} {ks : List LV}, a ∉ owns ks → Vars C.env s.heap Z m ys ks → Vars C.env h' Z m ys ks := by
        intro ys ks hno W
        exact W.chg hc H fun b zs hb => ⟨W.ownZ b zs hb, fun o e => (hs.2 b fun q => hno (q ▸ owns_mem hb)).trans e⟩
      intro ys
      induction ys with
      | nil => intro ks j _ _ ha; cases ha
      | cons y ys ih =>
        intro ks j nd W ha e
        cases ks with
        | nil => exact W.elim
        | cons k ks =>
          cases ha with
          | here =>
            simp at e; subst e
            rw [List.set_cons_zero]
            have nd' := List.nodup_cons.mp nd
            exact ⟨⟨hva.keep hc, hza, vs', hl, Reps.chg H _ _ hr⟩, rest nd'.1 W.2⟩
          | @there _ _ _ j' ha =>
            rw [List.set_cons_succ]
            have e' : ks[j']? = some (LV.own a xs) := by simpa using e
            have hin : a ∈ owns ks := owns_mem (List.mem_of_getElem? e')
            have hk : ∀ b zs, k = .own b zs → b ≠ a := by
              rintro b zs rfl rfl
              exact (List.nodup_cons.mp nd).1 hin
            refine ⟨W.1.chg hc H fun b zs hb => ⟨by subst hb; exact W.1.2.1, fun o e => (hs.2 b (hk b zs hb)).trans e⟩, ih ?_ W.2 ha e'⟩
            cases k with
            | own b zs => exact (List.nodup_cons.mp nd).2
            | _ => exact nd
    exact key S.nd V hi hx

-- statements
theorem w1_assign {x : Str} {px pos : Pos} {e : Expr} {i : Nat} {p : PV} (ok : C.Ok) (hi : At C.vs i x) (he : Ev C A Z σ e .f p) (h : P .next Z (σ.set i (.v p)))
    (hs : swapsWith e (some (.Name x px)) pos.line C.env = pure false := by rfl) : W1 C A Z σ (.Assign [.Name x px] e pos) P := by
  intro s Q E S hQ
  refine wpAny_Assign_Name (he s _ E S fun v s1 X r => ?_) hs
  exact store_v ok (S.ext X) hi r fun s' S' F L _ _ _ => hQ .next _ _ _ s' h S' ((Frame.ofExt X).trans F fun a e => none_kp X.kp e) (Lv.trans (Lv.ofKp X.kp) L) rfl

theorem w1_assign_own {x : Str} {px pos : Pos} {e : Expr} {i : Nat} {xs : List PV} (ok : C.Ok) (hi : At C.vs i x) (he : Ev C A Z σ e .n (.list xs)) (sc : Scals xs) (h : ∀ a, P .next (ins a Z) (σ.set i (.own a xs)))
    (hs : swapsWith e (some (.Name x px)) pos.line C.env = pure false := by rfl) : W1 C A Z σ (.Assign [.Name x px] e pos) P := by
  intro s Q E S hQ
  refine wpAny_Assign_Name (he s _ E S fun v s1 X r => ?_) hs
  exact store_own ok S X hi sc r fun a s' S' F L => hQ .next _ _ _ s' (h a) S' F L rfl

theorem w1_ret {pos : Pos} {e : Expr} {k : RK} {p : PV} (sc : Scal p) (he : Ev C A Z σ e k p) (h : P (.ret p) Z σ) : W1 C A Z σ (.Return (some e) pos) P := by
  intro s Q E S hQ
  refine wpAny_Return_some (he s _ E S fun v s1 X r => ?_)
  refine hQ (.ret p) _ _ _ s1 h (S.ext X) (.ofExt X) (Lv.ofKp X.kp) ⟨v, rfl, ?_⟩
  exact RepB.scal sc r.toB

theorem w1_ret_n {pos : Pos} {e : Expr} {xs : List PV} (sc : Scals xs) (he : Ev C A Z σ e .n (.list xs)) (h : P (.ret (.list xs)) Z σ) : W1 C A Z σ (.Return (some e) pos) P := by
  intro s Q E S hQ
  refine wpAny_Return_some (he s _ E S fun v s1 X r => ?_)
  refine hQ (.ret (.list xs)) _ _ _ s1 h (S.ext X) (.ofExt X) (Lv.ofKp X.kp) ⟨v, rfl, ?_⟩
  obtain ⟨r, hf⟩ := r
  simp only [Rep] at r
  obtain ⟨a, vs, rfl, hl, _, rs⟩ := r
  unfold RepN
  simp only [Rep]
  refine ⟨a, vs, rfl, hl, ?_, Reps.scal sc rs⟩
  rintro ⟨o, e⟩
  have := hf a rfl
  rw [S.keep a o e] at this; cases this

theorem w1_ret_own {x : Str} {px pos : Pos} {i : Nat} {a : Addr} {xs : List PV} (ok : C.Ok) (hi : At C.vs i x) (hx : σ[i]? = some (.own a xs)) (sc : Scals xs) (h : P (.ret (.list xs)) Z σ) : W1 C A Z σ (.Return (some (.Name x px)) pos) P := by
  intro s Q E S hQ
  obtain ⟨m, hn, V⟩ := S.vars
  obtain ⟨hva, hza, vs, hla, hra⟩ := V.get hi hx
  refine wpAny_Return_some (wpAny_Name (loadVar ok hi.mem hn hva ?_) (ok.nodbg x hi.mem))
  refine hQ (.ret (.list xs)) _ _ _ s h S .refl (fun _ e => e) ⟨_, rfl, ?_⟩
  unfold RepN
  simp only [Rep]
  refine ⟨a, vs, rfl, hla, ?_, Reps.scal sc hra⟩
  rintro ⟨o, e⟩
  rw [S.zf a hza] at e; cases e

theorem w1_if {test : Expr} {body orelse : List Stmt} {pos : Pos} {b : Bool} (ht : Tst C A Z σ test b) (h : if b then WS C A Z σ body P else WS C A Z σ orelse P) : W1 C A Z σ (.If test body orelse pos) P := by
  intro s Q E S hQ
  refine wpAny_If (ht s _ E S fun s1 X => ?_)
  have k : ∀ fl f Z' σ' s', P fl Z' σ' → St C Z' σ' s' → Frame C Z s1 Z' s' → Lv s1 s' → FlIs C s'.heap fl f → Q f s' :=
    fun fl f Z' σ' s' p S' F L hf => hQ fl f Z' σ' s' p S' ((Frame.ofExt X).trans F fun a e => none_kp X.kp e) (Lv.trans (Lv.ofKp X.kp) L) hf
  cases b with
  | true => rw [if_pos rfl] at h ⊢; exact h s1 Q E (S.ext X) k
  | false => rw [if_neg Bool.false_ne_true] at h ⊢; exact h s1 Q E (S.ext X) k

theorem w1_break {pos : Pos} (h : P .brk Z σ) : W1 C A Z σ (.Break pos) P := fun s _ _ S hQ => wpAny_Break (hQ .brk _ _ _ s h S .refl (fun _ e => e) rfl)

theorem At.len {l : List Str} {n : Nat} {x : Str} (a : At l n x) : n < l.length := (List.getElem?_eq_some_iff.mp a.get).1

theorem w1_append {x : Str} {px apos cpos pos : Pos} {e : Expr} {i : Nat} {a : Addr} {xs : List PV} {p : PV} (ok : C.Ok) (hi : At C.vs i x) (hx : σ[i]? = some (.own a xs)) (he : Ev C A Z σ e .f p) (h : P .next Z (σ.set i (.own a (xs ++ [p]))))
    (hsz : xs.length ≤ sizeLine) (hline : (apos.endLine == cpos.line) = true := by rfl) (htrees : ∀ env, backTo cpos (starEach [e] env) = [(false, eval e env)] := by intro _; rfl) (hi' : interactive C.env = false := by rfl)
    (hsw : swapsWith (.Call (.Attribute (.Name x px) (Str.ofString "append") apos) [e] [] cpos) none pos.line C.env = pure false := by rfl) :
    W1 C A Z σ (.Expr (.Call (.Attribute (.Name x px) (Str.ofString "append") apos) [e] [] cpos) pos) P := by
  intro s Q E S hQ
  refine wpAny_Expr (wpAny_Call_append (by rfl) (by rw [htrees]; rfl) hline (htrees _) ?_) hi' hsw
  obtain ⟨m, hn, V⟩ := S.vars
  obtain ⟨hva, hza, vs, hla, hra⟩ := V.get hi hx
  refine wpAny_Name (loadVar ok hi.mem hn hva ⟨a, vs.toArray, rfl, (let ⟨n, e⟩ := hla; ⟨_, n, e, rfl, rfl, rfl⟩), he s _ _ S fun v s1 X r => ?_⟩) (ok.nodbg x hi.mem)
  have S1 := S.ext X
  obtain ⟨m1, hn1, V1⟩ := S1.vars
  obtain ⟨_, _, vs1, hla1, hra1⟩ := V1.get hi hx
  refine wpAny_list_append_plain hla1 (fun h' hl' hs' => ?_) (by rw [List.size_toArray, hra1.length]; exact hsz)
  have := upd_own (vs' := vs1 ++ [v]) ok S1 hi hx hs' (by simpa using hl') (hra1.append (.one r)) s1.toks
  exact hQ .next _ _ _ _ h this.1 ((Frame.ofExt X).trans this.2.1 fun a e => none_kp X.kp e) (Lv.trans (Lv.ofKp X.kp) this.2.2) rfl
end
end Py

namespace Py

structure Here (C : Cx) (b : Nat) (A : Around) (Z : Addr → Prop) (s : Shared) : Prop where
  a : OkA b A
  w : C.W s.heap
  lim : s.heap.NoLimit
  zl : ∀ a, Z a → ∃ o, s.heap.get? a = some o
theorem St.here {C : Cx} {b : Nat} {A : Around} {Z : Addr → Prop} {σ : List LV} {s : Shared} (ok : C.Ok) (hA : OkA b A) (S : St C Z σ s) : Here C b A Z s :=
  have w := ok.mono _ _ ok.w0 S.keep
  ⟨hA, w, ok.lim _ w, fun a z => let ⟨o, e, _⟩ := S.zl a z; ⟨o, e⟩⟩

/-- an operation on one value, on two -/
noncomputable def Op1 (C : Cx) (b : Nat) (f : Value → Sem Value) (p : PV) (k : RK) (r : PV) : Prop :=
  ∀ (A : Around) (Z : Addr → Prop) (s : Shared) (Q : Value → Shared → Prop) (E : Value → Shared → Prop) (u : Value), Here C b A Z s → RepB s.heap Z p u →
    (∀ x s', Ext s s' → Res k Z s.heap s'.heap r x → Q x s') → wpAny C.M A (f u) Q E s
noncomputable def Op2 (C : Cx) (b : Nat) (f : Value → Value → Sem Value) (p q : PV) (k : RK) (r : PV) : Prop :=
  ∀ (A : Around) (Z : Addr → Prop) (s : Shared) (Q : Value → Shared → Prop) (E : Value → Shared → Prop) (u v : Value), Here C b A Z s → RepB s.heap Z p u → RepB s.heap Z q v →
    (∀ x s', Ext s s' → Res k Z s.heap s'.heap r x → Q x s') → wpAny C.M A (f u v) Q E s
noncomputable def Tr (C : Cx) (b0 : Nat) (p : PV) (b : Bool) : Prop :=
  ∀ (A : Around) (Z : Addr → Prop) (s : Shared) (Q : Bool → Shared → Prop) (E : Value → Shared → Prop) (u : Value), Here C b0 A Z s → RepB s.heap Z p u → (∀ s', Ext s s' → Q b s') → wpAny C.M A (truthy u) Q E s

section
variable {C : Cx} {A : Around} {Z : Addr → Prop} {σ : List LV} {k0 : Nat}

theorem ev_bin {l r : Expr} {op : Operator} {pos : Pos} {k1 k2 k : RK} {p q x : PV} (ok : C.Ok) {n : Nat} (hA : OkA n A) (h1 : Ev C A Z σ l k1 p) (h2 : Ev C A Z σ r k2 q) (h : Op2 C n (binaryOp op) p q k x) : Ev C A Z σ (.BinOp l op r pos) k x := by
  intro s Q E S hQ
  refine wpAny_BinOp (h1 s _ E S fun u s1 X1 r1 => h2 s1 _ E (S.ext X1) fun v s2 X2 r2 => ?_)
  exact h A Z s2 _ E u v (((S.ext X1).ext X2).here ok hA) (r1.toB.kp X2.kp) r2.toB fun x s3 X3 r3 => hQ x s3 ((X1.trans X2).trans X3) (r3.kpL (X1.trans X2).kp)

theorem ev_cmp {l r : Expr} {op : CmpOp} {pos : Pos} {k1 k2 k : RK} {p q x : PV} (ok : C.Ok) {n : Nat} (hA : OkA n A) (h1 : Ev C A Z σ l k1 p) (h2 : Ev C A Z σ r k2 q) (h : Op2 C n (compareOp op) p q k x) (hm : behindInMarks op r = false := by with_unfolding_all rfl) : Ev C A Z σ (.Compare l [op] [r] pos) k x := by
  intro s Q E S hQ
  refine wpAny_Compare1 (h1 s _ E S fun u s1 X1 r1 => h2 s1 _ E (S.ext X1) fun v s2 X2 r2 => ?_) hm
  exact h A Z s2 _ E u v (((S.ext X1).ext X2).here ok hA) (r1.toB.kp X2.kp) r2.toB fun x s3 X3 r3 => hQ x s3 ((X1.trans X2).trans X3) (r3.kpL (X1.trans X2).kp)

theorem tst_cmp {l r : Expr} {op : CmpOp} {pos : Pos} {k1 k2 : RK} {p q : PV} {b : Bool} (ok : C.Ok) {n : Nat} (hA : OkA n A) (h1 : Ev C A Z σ l k1 p) (h2 : Ev C A Z σ r k2 q) (h : Op2 C n (compareOp op) p q .f (.bool b)) (hm : behindInMarks op r = false := by with_unfolding_all rfl) : Tst C A Z σ (.Compare l [op] [r] pos) b := by
  intro s Q E S hQ
  refine wpAny_isTrue_Compare1 (h1 s _ E S fun u s1 X1 r1 => h2 s1 _ E (S.ext X1) fun v s2 X2 r2 => ?_) hm
  refine h A Z s2 _ E u v (((S.ext X1).ext X2).here ok hA) (r1.toB.kp X2.kp) r2.toB fun x s3 X3 r3 => ?_
  have r3' : x = .bool b := r3
  subst r3'
  exact wpAny_truthy_bool (hQ s3 ((X1.trans X2).trans X3))

theorem tst_val {e : Expr} {k : RK} {p : PV} {b : Bool} (ok : C.Ok) {n : Nat} (hA : OkA n A) (h : Ev C A Z σ e k p) (ht : Tr C n p b) (he : ∀ whole, isTrue e C.env whole = (do let v ← whole; standAt e.pos; holding [v] (truthy v)) := by intro _; rfl) : Tst C A Z σ e b := by
  intro s Q E S hQ
  exact wpAny_isTrue_value (h s _ E S fun v s1 X r => ht A Z s1 Q E v ((S.ext X).here ok hA) r.toB fun s2 X2 => hQ s2 (X.trans X2)) (he _)

theorem tst_not {e : Expr} {pos : Pos} {b : Bool} (h : Tst C A Z σ e b) : Tst C A Z σ (.UnaryOp .Not e pos) (!b) :=
  fun s Q E S hQ => wpAny_isTrue_Not (h s _ E S fun s1 X => hQ s1 X)

theorem tst_and {e f : Expr} {pos : Pos} {b c : Bool} (h1 : Tst C A Z σ e b) (h2 : b = true → Tst C A Z σ f c) (hb : b = false → c = false) : Tst C A Z σ (.BoolOp .And [e, f] pos) c := by
  intro s Q E S hQ
  refine wpAny_isTrue_BoolOp (wpAny_allTrue_And_cons (h1 s _ E S fun s1 X => ?_))
  cases b with
  | false => have := hb rfl; subst this; exact hQ s1 X
  | true =>
    refine wpAny_allTrue_And_cons (h2 rfl s1 _ E (S.ext X) fun s2 X2 => ?_)
    cases c with
    | false => exact hQ s2 (X.trans X2)
    | true => exact wpAny_allTrue_And_nil (hQ s2 (X.trans X2))
theorem ev_ifexp {t e f : Expr} {pos : Pos} {b : Bool} {k : RK} {p : PV} (ht : Tst C A Z σ t b) (h : if b then Ev C A Z σ e k p else Ev C A Z σ f k p) : Ev C A Z σ (.IfExp t e f pos) k p := by
  intro s Q E S hQ
  refine wpAny_IfExp (ht s _ E S fun s1 X => ?_)
  cases b with
  | true => exact h s1 Q E (S.ext X) fun v s2 X2 r => hQ v s2 (X.trans X2) (r.kpL X.kp)
  | false => exact h s1 Q E (S.ext X) fun v s2 X2 r => hQ v s2 (X.trans X2) (r.kpL X.kp)

theorem ev_neg {e : Expr} {pos : Pos} {k : RK} {i : Int} (h : Ev C A Z σ e k (.int i)) : Ev C A Z σ (.UnaryOp .USub e pos) .f (.int (-i)) := by
  intro s Q E S hQ
  refine wpAny_UnaryOp (h s _ E S fun v s1 X r => ?_)
  obtain ⟨t, rfl⟩ := r.toB
  exact P.neg_int (hQ _ _ (X.trans (Ext.toks _ _)) ⟨_, rfl⟩)

theorem size_none (h : Heap) : h.get? h.objs.size = none := by
  cases q : h.get? h.objs.size with
  | none => rfl
  | some o => exact absurd (Heap.lt_size q) (Nat.lt_irrefl _)
theorem res_list {s : Shared} {xs : List PV} {vs : List Value} (zl : ∀ a, Z a → ∃ o, s.heap.get? a = some o) (r : Reps s.heap Z xs vs) : Res .n Z s.heap (s.heap.push { cls := .type "list", data := .seq vs.toArray }) (.list xs) (.ref s.heap.objs.size) := by
  refine ⟨?_, fun a e => by cases e; exact size_none _⟩
  simp only [Rep]
  refine ⟨_, vs, rfl, ⟨0, Heap.get?_push_size _ rfl⟩, fun z => ?_, r.kp fun b o e => Heap.get?_push_of_some _ e⟩
  obtain ⟨o, e⟩ := zl _ z
  rw [size_none] at e; cases e
theorem res_tup {s : Shared} {xs : List PV} {vs : List Value} (zl : ∀ a, Z a → ∃ o, s.heap.get? a = some o) (r : Reps s.heap Z xs vs) : Res .n Z s.heap (s.heap.push { cls := .type "tuple", data := .seq vs.toArray }) (.tup xs) (.ref s.heap.objs.size) := by
  refine ⟨?_, fun a e => by cases e; exact size_none _⟩
  simp only [Rep]
  refine ⟨_, vs, rfl, ⟨_, Heap.get?_push_size _ rfl, rfl, 0, rfl⟩, fun z => ?_, r.kp fun b o e => Heap.get?_push_of_some _ e⟩
  obtain ⟨o, e⟩ := zl _ z
  rw [size_none] at e; cases e

-- ints
theorem op_add {a b : Int} : Op2 C k0 (binaryOp .Add) (.int a) (.int b) .f (.int (a + b)) := by
  rintro A Z s Q E u v H ⟨t, rfl⟩ ⟨t', rfl⟩ hQ
  exact P.add_int (hQ _ _ (Ext.toks _ _) ⟨_, rfl⟩)
theorem op_sub {a b : Int} : Op2 C k0 (binaryOp .Sub) (.int a) (.int b) .f (.int (a - b)) := by
  rintro A Z s Q E u v H ⟨t, rfl⟩ ⟨t', rfl⟩ hQ
  exact P.sub_int (hQ _ _ (Ext.toks _ _) ⟨_, rfl⟩)
theorem op_mod {a b : Int} (h : 0 < b) : Op2 C k0 (binaryOp .Mod) (.int a) (.int b) .f (.int (a % b)) := by
  rintro A Z s Q E u v H ⟨t, rfl⟩ ⟨t', rfl⟩ hQ
  refine AutoIntOps.mod_1 (by simp; omega) ?_
  exact hQ _ _ (Ext.toks _ _) ⟨_, by rw [Int.fmod_eq_emod_of_nonneg _ (by omega)]⟩
theorem op_div {a b : Int} (h : 0 < b) (hs : b < 2 ^ 30) : Op2 C k0 (binaryOp .FloorDiv) (.int a) (.int b) .f (.int (a / b)) := by
  rintro A Z s Q E u v H ⟨t, rfl⟩ ⟨t', rfl⟩ hQ
  refine floordiv_int (by omega) (hQ _ _ (Ext.toks _ _) ⟨_, by rw [Int.fdiv_eq_ediv_of_nonneg _ (by omega)]⟩) (.inl (PyProof.noPylong_small (by omega)))
theorem op_and {a b : Int} : Op2 C k0 (binaryOp .BitAnd) (.int a) (.int b) .f (.int (Builtin.bitAnd a b)) := by
  rintro A Z s Q E u v H ⟨t, rfl⟩ ⟨t', rfl⟩ hQ
  exact and_int (hQ _ _ (Ext.toks _ _) ⟨_, rfl⟩)
theorem op_or {a b : Int} : Op2 C k0 (binaryOp .BitOr) (.int a) (.int b) .f (.int (Builtin.bitOr a b)) := by
  rintro A Z s Q E u v H ⟨t, rfl⟩ ⟨t', rfl⟩ hQ
  exact or_int (hQ _ _ (Ext.toks _ _) ⟨_, rfl⟩)
theorem op_ior {a b : Int} : Op2 C k0 (inplaceOp .BitOr) (.int a) (.int b) .f (.int (Builtin.bitOr a b)) := by
  rintro A Z s Q E u v H ⟨t, rfl⟩ ⟨t', rfl⟩ hQ
  exact ior_int (hQ _ _ (Ext.toks _ _) ⟨_, rfl⟩)
theorem op_ixor {a b : Int} : Op2 C k0 (inplaceOp .BitXor) (.int a) (.int b) .f (.int (Builtin.bitXor a b)) := by
  rintro A Z s Q E u v H ⟨t, rfl⟩ ⟨t', rfl⟩ hQ
  exact ixor_int (hQ _ _ (Ext.toks _ _) ⟨_, rfl⟩)
theorem op_iadd {a b : Int} : Op2 C k0 (inplaceOp .Add) (.int a) (.int b) .f (.int (a + b)) := by
  rintro A Z s Q E u v H ⟨t, rfl⟩ ⟨t', rfl⟩ hQ
  exact P.iadd_int (hQ _ _ (Ext.toks _ _) ⟨_, rfl⟩)
theorem op_isub {a b : Int} : Op2 C k0 (inplaceOp .Sub) (.int a) (.int b) .f (.int (a - b)) := by
  rintro A Z s Q E u v H ⟨t, rfl⟩ ⟨t', rfl⟩ hQ
  exact P.isub_int (hQ _ _ (Ext.toks _ _) ⟨_, rfl⟩)
theorem op_shl {a n : Int} (h0 : 0 ≤ n) (h1 : n ≤ 2 ^ 20) (ha : Builtin.Int.intBits a ≤ 2 ^ 20) : Op2 C k0 (binaryOp .LShift) (.int a) (.int n) .f (.int (a * 2 ^ n.toNat)) := by
  rintro A Z s Q E u v H ⟨t, rfl⟩ ⟨t', rfl⟩ hQ
  exact lshift_int h0 (by omega) (hQ _ _ (Ext.toks _ _) ⟨_, rfl⟩)
theorem op_shr {a n : Int} (h0 : 0 ≤ n) : Op2 C k0 (binaryOp .RShift) (.int a) (.int n) .f (.int (a / 2 ^ n.toNat)) := by
  rintro A Z s Q E u v H ⟨t, rfl⟩ ⟨t', rfl⟩ hQ
  have e : (2 : Int) ^ n.toNat ≥ 0 := Int.pow_nonneg (by decide)
  exact rshift_int h0 (hQ _ _ (Ext.toks _ _) ⟨_, by rw [Int.fdiv_eq_ediv_of_nonneg _ e]⟩)
theorem op_pow {a n : Int} (h0 : 0 ≤ n) (h : (Builtin.Int.intBits a : Int) * n ≤ 2 ^ 27) : Op2 C k0 (binaryOp .Pow) (.int a) (.int n) .f (.int (a ^ n.toNat)) := by
  rintro A Z s Q E u v H ⟨t, rfl⟩ ⟨t', rfl⟩ hQ
  exact pow_int h0 h (hQ _ _ (Ext.toks _ _) ⟨_, rfl⟩)
theorem op_eq {a b : Int} : Op2 C k0 (compareOp .Eq) (.int a) (.int b) .f (.bool (a == b)) := by
  rintro A Z s Q E u v H ⟨t, rfl⟩ ⟨t', rfl⟩ hQ
  exact P.eq_int (hQ _ _ (.refl _) rfl)
theorem op_ne {a b : Int} : Op2 C k0 (compareOp .NotEq) (.int a) (.int b) .f (.bool (a != b)) := by
  rintro A Z s Q E u v H ⟨t, rfl⟩ ⟨t', rfl⟩ hQ
  exact P.ne_int (hQ _ _ (.refl _) rfl)
theorem op_lt {a b : Int} : Op2 C k0 (compareOp .Lt) (.int a) (.int b) .f (.bool (decide (a < b))) := by
  rintro A Z s Q E u v H ⟨t, rfl⟩ ⟨t', rfl⟩ hQ
  exact P.lt_int (hQ _ _ (.refl _) rfl)
theorem tr_int {a : Int} : Tr C k0 (.int a) (a != 0) := by
  rintro A Z s Q E u H ⟨t, rfl⟩ hQ
  exact P.truthy_int (hQ _ (.refl _))
theorem tr_bool {b : Bool} : Tr C k0 (.bool b) b := by
  rintro A Z s Q E u H hu hQ
  have hu' : u = .bool b := hu
  subst hu'
  exact wpAny_truthy_bool (hQ _ (.refl _))

-- texts
theorem op_cat {a b : Str} (h : a.length + b.length ≤ sizeLine) : Op2 C k0 (binaryOp .Add) (.str a) (.str b) .f (.str (a ++ b)) := by
  rintro A Z s Q E u v H ⟨t, rfl⟩ ⟨t', rfl⟩ hQ
  exact SB.add (fun t' k => hQ _ _ (Ext.toks _ _) ⟨_, rfl⟩) h
theorem op_icat {a b : Str} (h : a.length + b.length ≤ sizeLine) : Op2 C k0 (inplaceOp .Add) (.str a) (.str b) .f (.str (a ++ b)) := by
  rintro A Z s Q E u v H ⟨t, rfl⟩ ⟨t', rfl⟩ hQ
  exact SB.iadd (fun t' k => hQ _ _ (Ext.toks _ _) ⟨_, rfl⟩) h
theorem op_rep {a : Str} {n : Int} (h : MulOk a n) : Op2 C k0 (binaryOp .Mult) (.str a) (.int n) .f (.str (Txt.mul a n)) := by
  rintro A Z s Q E u v H ⟨t, rfl⟩ ⟨t', rfl⟩ hQ
  exact SB.mul h fun t' k => hQ _ _ (Ext.toks _ _) ⟨_, rfl⟩
end
end Py

namespace Py

noncomputable abbrev LI (ns : List Int) : PV := .list (ns.map .int)
noncomputable abbrev LS (ss : List Str) : PV := .list (ss.map .str)

theorem Reps.ints {h : Heap} {Z : Addr → Prop} : ∀ {ns : List Int} {vs : List Value}, Reps h Z (ns.map .int) vs → IntsAre vs ns
  | [], _, x => by simp only [List.map_nil, Reps] at x; subst x; exact .nil
  | n :: ns, _, x => by
    simp only [List.map_cons, Reps, Rep] at x
    obtain ⟨v, r, rfl, ⟨t, rfl⟩, h2⟩ := x
    exact .cons n t (Reps.ints h2)
theorem Reps.strs {h : Heap} {Z : Addr → Prop} : ∀ {ns : List Str} {vs : List Value}, Reps h Z (ns.map .str) vs → StrsAre vs ns
  | [], _, x => by simp only [List.map_nil, Reps] at x; subst x; exact .nil
  | n :: ns, _, x => by
    simp only [List.map_cons, Reps, Rep] at x
    obtain ⟨v, r, rfl, ⟨t, rfl⟩, h2⟩ := x
    exact .cons n t (Reps.strs h2)
theorem IntsAre.reps {h : Heap} {Z : Addr → Prop} {ns : List Int} {vs : List Value} (x : IntsAre vs ns) : Reps h Z (ns.map .int) vs := by
  induction x with
  | nil => exact .nil
  | cons n t _ ih => exact .cons (by simp only [Rep]; exact ⟨t, rfl⟩) ih
theorem StrsAre.reps {h : Heap} {Z : Addr → Prop} {ns : List Str} {vs : List Value} (x : StrsAre vs ns) : Reps h Z (ns.map .str) vs := by
  induction x with
  | nil => exact .nil
  | cons n t _ ih => exact .cons (by simp only [Rep]; exact ⟨t, rfl⟩) ih
theorem scals_ints (ns : List Int) : Scals (ns.map .int) := fun p hp => by obtain ⟨n, _, rfl⟩ := List.mem_map.mp hp; exact trivial
theorem scals_strs (ns : List Str) : Scals (ns.map .str) := fun p hp => by obtain ⟨n, _, rfl⟩ := List.mem_map.mp hp; exact trivial
theorem Reps.take {h : Heap} {Z : Addr → Prop} : ∀ {ps : List PV} {vs : List Value} (n : Nat), Reps h Z ps vs → Reps h Z (ps.take n) (vs.take n)
  | [], _, n, x => by simp only [Reps] at x; subst x; simp [Reps]
  | _ :: _, _, 0, _ => by simp [Reps]
  | _ :: ps, _, n + 1, x => by simp only [Reps] at x; obtain ⟨v, r, rfl, h1, h2⟩ := x; exact .cons h1 (Reps.take n h2)
theorem Reps.drop {h : Heap} {Z : Addr → Prop} : ∀ {ps : List PV} {vs : List Value} (n : Nat), Reps h Z ps vs → Reps h Z (ps.drop n) (vs.drop n)
  | [], _, n, x => by simp only [Reps] at x; subst x; simp [Reps]
  | _ :: _, _, 0, x => by simpa using x
  | _ :: ps, _, n + 1, x => by simp only [Reps] at x; obtain ⟨v, r, rfl, h1, h2⟩ := x; exact Reps.drop n h2
theorem Reps.repl {h : Heap} {Z : Addr → Prop} {ps : List PV} {vs : List Value} (x : Reps h Z ps vs) : ∀ n : Nat, Reps h Z (List.replicate n ps).flatten (List.replicate n vs).flatten
  | 0 => by simp [Reps]
  | n + 1 => by rw [List.replicate_succ, List.flatten_cons, List.replicate_succ, List.flatten_cons]; exact x.append (Reps.repl x n)

section
variable {C : Cx} {A : Around} {Z : Addr → Prop} {σ : List LV} {k0 : Nat}

-- lists
theorem op_lcat {xs ys : List PV} (h : xs.length + ys.length ≤ sizeLine) : Op2 C k0 (binaryOp .Add) (.list xs) (.list ys) .n (.list (xs ++ ys)) := by
  rintro A Z s Q E u v H ⟨a, vs, rfl, ⟨n, ha⟩, ra⟩ ⟨b, ws, rfl, ⟨m, hb⟩, rb⟩ hQ
  have e : vs.toArray ++ ws.toArray = (vs ++ ws).toArray := by simp
  refine concat_meets ⟨_, ha, rfl⟩ ⟨_, hb, rfl⟩ noFill_list_add seq_list_add PySem.F.slot_list_add PySem.F.entry_list_add (PySem.F.args_list_add_2 _ _) (list_addW a b vs.toArray ws.toArray n m none none #[] #[] (by simp [ra.length, rb.length]; exact h)) ⟨ha, hb, ?_⟩
  rw [e]
  exact hQ _ _ (Ext.push _ _) (res_list H.zl (ra.append rb))

theorem op_lrep {xs : List PV} {x : Int} (hlo : -(2 ^ 63 : Int) ≤ x) (hhi : x < 2 ^ 63) (hsz : xs.length * x.toNat ≤ 2 ^ 24) : Op2 C k0 (binaryOp .Mult) (.list xs) (.int x) .n (.list (List.replicate x.toNat xs).flatten) := by
  rintro A Z s Q E u v H ⟨l, vs, rfl, ⟨k, ho⟩, r⟩ ⟨t, rfl⟩ hQ
  have hsz' : vs.toArray.size * x.toNat ≤ 2 ^ 24 := by simpa [r.length] using hsz
  refine wpAny_binaryOp_repeat_ref (T := "list") (U := "int") (by decide) ⟨_, ho, rfl⟩ (fun s' => typeIs_int s' x t) noFill_list_mul F.fills_int_mul F.slot_int_rmul repeat_list F.slot_int_index.lookup
    (call_meets F.slot_int_rmul (typeIs_int s x t) F.entry_int_rmul (F.args_int_rmul_2 _ _) (lm_int_rmul_list_any x t l vs.toArray k none #[])
      ⟨ho, rfl, ⟨_, ho, rfl⟩, call_meets F.slot_list_mul ⟨_, ho, rfl⟩ F.entry_list_mul (F.args_list_mul_2 _ _)
        (lm_list_mul_any l vs.toArray k none #[] x t (by simp [Builtin.List.listFitsIndex]; omega) (by omega) (by simp [Builtin.List.listTooLong, sizeLine]; omega))
        ⟨ho, ?_⟩⟩)
  rw [listMul_foldl_if]
  exact hQ _ _ (Ext.push _ _) (res_list H.zl (r.repl x.toNat))

theorem op_in_strs {k : Str} {ns : List Str} : Op2 C k0 (compareOp .In) (.str k) (LS ns) .f (.bool (ns.any (· == k))) := by
  rintro A Z s Q E u v H ⟨t, rfl⟩ ⟨a, vs, rfl, ha, ra⟩ hQ
  exact in_list_strs ha.isList ra.strs (hQ _ _ (.refl _) rfl)
theorem eqs_ints : ∀ {vs ws : List Value} {ns ms : List Int}, IntsAre vs ns → IntsAre ws ms → vs.length = ws.length → ∃ e : Nat → Bool, (∀ j (h1 : j < vs.length) (h2 : j < ws.length), MeetsSeq.EqGives vs[j] ws[j] (e j)) ∧ (List.range vs.length).all e = (ns == ms)
  := by
  intro vs ws ns ms x y hl
  induction x generalizing ws ms with
  | nil => cases y with
    | nil => exact ⟨fun _ => true, fun j h => absurd h (Nat.not_lt_zero _), rfl⟩
    | cons m u h' => cases hl
  | cons n t h ih => cases y with
   | nil => cases hl
   | cons m u h' =>
    obtain ⟨e, he, hall⟩ := ih h' (Nat.succ.inj hl)
    refine ⟨fun j => match j with | 0 => n == m | j + 1 => e j, fun j h1 h2 => ?_, ?_⟩
    · cases j with
      | zero => exact .int n m t u
      | succ j => exact he j (by simpa using h1) (by simpa using h2)
    · rw [List.length_cons, List.range_succ_eq_map, List.all_cons, List.all_map]
      show ((n == m) && (List.range _).all e) = _
      rw [hall]
      rfl
theorem eqs_strs : ∀ {vs ws : List Value} {ns ms : List Str}, StrsAre vs ns → StrsAre ws ms → vs.length = ws.length → ∃ e : Nat → Bool, (∀ j (h1 : j < vs.length) (h2 : j < ws.length), MeetsSeq.EqGives vs[j] ws[j] (e j)) ∧ (List.range vs.length).all e = (ns == ms)
  := by
  intro vs ws ns ms x y hl
  induction x generalizing ws ms with
  | nil => cases y with
    | nil => exact ⟨fun _ => true, fun j h => absurd h (Nat.not_lt_zero _), rfl⟩
    | cons m u h' => cases hl
  | cons n t h ih => cases y with
   | nil => cases hl
   | cons m u h' =>
    obtain ⟨e, he, hall⟩ := ih h' (Nat.succ.inj hl)
    refine ⟨fun j => match j with | 0 => n == m | j + 1 => e j, fun j h1 h2 => ?_, ?_⟩
    · cases j with
      | zero => exact eqGives_str n m t u
      | succ j => exact he j (by simpa using h1) (by simpa using h2)
    · rw [List.length_cons, List.range_succ_eq_map, List.all_cons, List.all_map]
      show ((n == m) && (List.range _).all e) = _
      rw [hall]
      rfl
theorem beq_len {α : Type} [BEq α] : ∀ {a b : List α}, a.length ≠ b.length → (a == b) = false
  | [], [], h => absurd rfl h
  | [], _ :: _, _ => rfl
  | _ :: _, [], _ => rfl
  | x :: a, y :: b, h => by
    show (x == y && a == b) = false
    rw [beq_len (a := a) (b := b) (by simpa using h), Bool.and_false]

theorem op_eq_lists {xs ys : List PV} {b : Bool} (h : ∀ (h : Heap) (Z : Addr → Prop) (vs ws : List Value), Reps h Z xs vs → Reps h Z ys ws → vs.length = ws.length → ∃ e : Nat → Bool, (∀ j (h1 : j < vs.length) (h2 : j < ws.length), MeetsSeq.EqGives vs[j] ws[j] (e j)) ∧ (List.range vs.length).all e = b)
    (hn : xs.length ≠ ys.length → b = false) : Op2 C k0 (compareOp .Eq) (.list xs) (.list ys) .f (.bool b) := by
  rintro A Z s Q E u v H ⟨a, vs, rfl, ⟨n, ha⟩, ra⟩ ⟨c, ws, rfl, ⟨m, hb⟩, rb⟩ hQ
  have hu : A.units < cLine := by have := H.a.u; omega
  by_cases hl : vs.length = ws.length
  · obtain ⟨e, he, hall⟩ := h s.heap Z vs ws ra rb hl
    refine PySem.P.eq_list ha hb (by simpa using hl) (fun j h1 h2 => by simpa using he j (by simpa using h1) (by simpa using h2)) hu ?_
    rw [List.size_toArray, hall]
    exact hQ _ _ (.refl _) rfl
  · refine PySem.P.eq_list_lengths ha hb (by simpa using hl) hu ?_
    have := hn (by rw [← ra.length, ← rb.length]; exact hl)
    subst this
    exact hQ _ _ (.refl _) rfl
theorem op_eq_ints {ns ms : List Int} : Op2 C k0 (compareOp .Eq) (LI ns) (LI ms) .f (.bool (ns == ms)) :=
  op_eq_lists (fun h Z vs ws r r' hl => eqs_ints r.ints r'.ints hl) fun h => beq_len (by simpa using h)
theorem op_eq_strs {ns ms : List Str} : Op2 C k0 (compareOp .Eq) (LS ns) (LS ms) .f (.bool (ns == ms)) :=
  op_eq_lists (fun h Z vs ws r r' hl => eqs_strs r.strs r'.strs hl) fun h => beq_len (by simpa using h)

theorem op_eqs {a b : Str} : Op2 C k0 (compareOp .Eq) (.str a) (.str b) .f (.bool (a == b)) := by
  rintro A Z s Q E u v H ⟨t, rfl⟩ ⟨t', rfl⟩ hQ
  exact PyProof.Rows.eq_str (hQ _ _ (.refl _) rfl)
theorem op_hasnt {x y : Str} : Op2 C k0 (compareOp .NotIn) (.str y) (.str x) .f (.bool (!Txt.contains x y)) := by
  rintro A Z s Q E u v H ⟨t, rfl⟩ ⟨t', rfl⟩ hQ
  exact SB.notContains (hQ _ _ (.refl _) rfl)

-- items
theorem ev_item {l i : Expr} {pos : Pos} {k1 k2 : RK} {xs : List PV} {j : Int} {p : PV} (h1 : Ev C A Z σ l k1 (.list xs)) (h2 : Ev C A Z σ i k2 (.int j)) (h0 : 0 ≤ j) (hj : j < 2 ^ 62) (hx : xs[j.toNat]? = some p)
    (hs : ∀ o x, subscripted i false o x = operate [o, x] (getItem o x) := by intro _ _; rfl) : Ev C A Z σ (.Subscript l i pos) .f p := by
  intro s Q E S hQ
  refine Subscript_ (h1 s _ E S fun u s1 X1 r1 => h2 s1 _ E (S.ext X1) fun v s2 X2 r2 => ?_)
  obtain ⟨a, vs, rfl, ha, ra⟩ := r1.toB.kp X2.kp
  obtain ⟨t, rfl⟩ := r2.toB
  obtain ⟨v, hv, rv⟩ := ra.get _ hx
  exact tail_any ha.isList.typeIs F.slot_list_getitem.lookup (wpAny_getItem_list ha.isList h0 (by omega) (by simpa using hv) (hQ v s2 (X1.trans X2) rv)) (hs _ _)
theorem ev_item_neg {l i : Expr} {pos : Pos} {k1 k2 : RK} {xs : List PV} {j : Int} {p : PV} (h1 : Ev C A Z σ l k1 (.list xs)) (h2 : Ev C A Z σ i k2 (.int j)) (h0 : j < 0) (hj : -(xs.length : Int) ≤ j) (hl : xs.length ≤ 2 ^ 24) (hx : xs[(j + xs.length).toNat]? = some p)
    (hs : ∀ o x, subscripted i false o x = operate [o, x] (getItem o x) := by intro _ _; rfl) : Ev C A Z σ (.Subscript l i pos) .f p := by
  intro s Q E S hQ
  refine Subscript_ (h1 s _ E S fun u s1 X1 r1 => h2 s1 _ E (S.ext X1) fun v s2 X2 r2 => ?_)
  obtain ⟨a, vs, rfl, ha, ra⟩ := r1.toB.kp X2.kp
  obtain ⟨t, rfl⟩ := r2.toB
  obtain ⟨v, hv, rv⟩ := ra.get _ hx
  exact tail_any ha.isList.typeIs F.slot_list_getitem.lookup (wpAny_getItem_list_neg ha.isList h0 (by rw [List.size_toArray, ra.length]; exact hj) (by omega) (by simpa [ra.length] using hv) (hQ v s2 (X1.trans X2) rv)) (hs _ _)
theorem ev_tupitem {l i : Expr} {pos : Pos} {k1 k2 : RK} {xs : List PV} {j : Int} {p : PV} (h1 : Ev C A Z σ l k1 (.tup xs)) (h2 : Ev C A Z σ i k2 (.int j)) (h0 : 0 ≤ j) (hj : j < 2 ^ 62) (hx : xs[j.toNat]? = some p)
    (hs : ∀ o x, subscripted i false o x = operate [o, x] (getItem o x) := by intro _ _; rfl) : Ev C A Z σ (.Subscript l i pos) .f p := by
  intro s Q E S hQ
  refine Subscript_ (h1 s _ E S fun u s1 X1 r1 => h2 s1 _ E (S.ext X1) fun v s2 X2 r2 => ?_)
  have r1' : Rep s2.heap Z (.tup xs) u := Rep.kp X2.kp (p := .tup xs) r1.toB
  simp only [Rep] at r1'
  obtain ⟨a, vs, rfl, ha, _, ra⟩ := r1'
  obtain ⟨t, rfl⟩ := r2.toB
  obtain ⟨v, hv, rv⟩ := ra.get _ hx
  refine tail_any (T := "tuple") (id := "tuple.__getitem__") (let ⟨o, ho, hc, _⟩ := ha; ⟨o, ho, hc⟩) F.slot_tuple_getitem.lookup (PyProof.Rows.getItem_tuple ha (by omega) (by omega) (j := j.toNat) ?_ (by simpa using hv) (hQ v s2 (X1.trans X2) rv)) (hs _ _)
  have hlt : j.toNat < vs.length := (List.getElem?_eq_some_iff.mp hv).1
  unfold seqIndex?
  simp only [List.size_toArray]
  first | (rw [if_neg (by omega)]; simp; omega) | (simp; omega)
-- cuts
noncomputable def EvP (C : Cx) (A : Around) (Z : Addr → Prop) (σ : List LV) (x : Option Expr) (o : Option Int) : Prop := match x, o with
  | none, none => True
  | some e, some i => ∃ k, Ev C A Z σ e k (.int i)
  | _, _ => False
theorem evP {e : Expr} {k : RK} {i : Int} (h : Ev C A Z σ e k (.int i)) : EvP C A Z σ (some e) (some i) := ⟨k, h⟩
theorem evPart {x : Option Expr} {o : Option Int} {E : Value → Shared → Prop} {s : Shared} {Q : Value → Shared → Prop} (h : EvP C A Z σ x o) (S : St C Z σ s) (hQ : ∀ v s', Ext s s' → IsPart v o → Q v s') : wpAny C.M A (evalPart x C.env) Q E s := by
  cases x with
  | none => cases o with
    | none => exact wpAny_pure (hQ _ s (.refl s) .none)
    | some => exact h.elim
  | some e => cases o with
    | none => exact h.elim
    | some i =>
      obtain ⟨k, h⟩ := h
      exact h s Q E S fun v s' X r => by obtain ⟨t, rfl⟩ := r.toB; exact hQ _ s' X (.int i t)

/-- a list cut by two bounds -/
noncomputable def pick (xs : List PV) (lo hi : Option Int) : List PV := (xs.drop (lo.elim 0 (clipAt xs.length))).take (hi.elim xs.length (clipAt xs.length) - lo.elim 0 (clipAt xs.length))

theorem slice_any {l : Expr} {lower upper : Option Expr} {p pos : Pos} {k : RK} {q : PV} {lo hi : Option Int} {E : Value → Shared → Prop} {s : Shared} {Q : Value → Shared → Prop} (h1 : Ev C A Z σ l k q) (hl : EvP C A Z σ lower lo) (hu : EvP C A Z σ upper hi) (S : St C Z σ s)
    (hQ : ∀ u a v w s', Ext s s' → RepB s'.heap Z q u → IsPart v lo → IsPart w hi → s'.heap.IsSliceOf a v w .none → ∃ T id, s'.TypeIs u T ∧ typeLookup (.type T) "__getitem__" = pure (some (.builtin id)) ∧ wpAny C.M A (getItem u (.ref a)) Q E s') :
    wpAny C.M A (eval (.Subscript l (.Slice lower upper none p) pos) C.env) Q E s := by
  refine Subscript_ (h1 s _ E S fun u s1 X1 r1 => wpAny_Slice (evPart hl (S.ext X1) fun v s2 X2 p2 => evPart hu ((S.ext X1).ext X2) fun w s3 X3 p3 => wpAny_pure ?_))
  have X4 := (((X1.trans X2).trans X3).trans (Ext.push s3 { cls := .type "slice", data := .fields #[v, w, .none] }))
  obtain ⟨T, id, hT, hg, h⟩ := hQ u s3.heap.objs.size v w _ X4 (r1.toB.kp ((X2.trans X3).trans (Ext.push s3 _)).kp) p2 p3 ⟨_, Heap.get?_push_size _ rfl, rfl, rfl⟩
  exact tail_any (ops := [.ref s3.heap.objs.size, u]) hT hg h rfl

theorem ev_slice {l : Expr} {lower upper : Option Expr} {p pos : Pos} {k : RK} {xs : List PV} {lo hi : Option Int} (ok : C.Ok) {n : Nat} (hA : OkA n A) (h1 : Ev C A Z σ l k (.list xs)) (hl : EvP C A Z σ lower lo) (hu : EvP C A Z σ upper hi) (hsz : xs.length ≤ sizeLine) :
    Ev C A Z σ (.Subscript l (.Slice lower upper none p) pos) .n (.list (pick xs lo hi)) := by
  intro s Q E S hQ
  refine slice_any h1 hl hu S fun u a v w s' X r pv pw hs => ?_
  obtain ⟨b, vs, rfl, hb, rb⟩ := r
  refine ⟨"list", "list.__getitem__", hb.isList.typeIs, F.slot_list_getitem.lookup, wpAny_getItem_list_slice hb.isList hs pv pw .none (by simp) ?_ (by rw [List.size_toArray, rb.length]; exact hsz)⟩
  have H := (S.ext X).here ok hA
  rw [slicePick_plain]
  have e : (vs.toArray.toList.drop (lo.elim 0 (clipAt vs.toArray.size))).take (hi.elim vs.toArray.size (clipAt vs.toArray.size) - lo.elim 0 (clipAt vs.toArray.size)) = (vs.drop (lo.elim 0 (clipAt xs.length))).take (hi.elim xs.length (clipAt xs.length) - lo.elim 0 (clipAt xs.length)) := by
    rw [List.size_toArray, rb.length]
  rw [e]
  exact hQ _ _ (X.trans (Ext.push _ _)) ((res_list H.zl ((rb.drop _).take _)).kpL X.kp)

theorem ev_slice_str {l : Expr} {lower upper : Option Expr} {p pos : Pos} {k : RK} {x : Str} {lo hi : Option Int} (h1 : Ev C A Z σ l k (.str x)) (hl : EvP C A Z σ lower lo) (hu : EvP C A Z σ upper hi) (hsz : x.length ≤ sizeLine) :
    Ev C A Z σ (.Subscript l (.Slice lower upper none p) pos) .f (.str (Txt.slice x lo hi)) := by
  intro s Q E S hQ
  refine slice_any h1 hl hu S fun u a v w s' X r pv pw hs => ?_
  obtain ⟨t, rfl⟩ := r
  refine ⟨"str", "str.__getitem__", typeIs_str _ _ _, F.slot_str_getitem.lookup, ?_⟩
  have fin : ∀ (l u : Option (Int × Tok)), l.map (·.1) = lo → u.map (·.1) = hi → s'.heap.IsSlice a l u none → wpAny C.M A (getItem (.str x t) (.ref a)) Q E s' := by
    intro l u e1 e2 hsl
    refine wpAny_getItem_str_slice hsl rfl (post_val_or_str ⟨?_, fun t' k => ?_⟩)
    · subst e1 e2; exact Nat.le_trans (Txt.slice_le x _ _) hsz
    · subst e1 e2; exact hQ _ _ (X.trans (Ext.toks _ _)) ⟨_, rfl⟩
  obtain ⟨o, ho, hc, hd⟩ := hs
  cases pv with
  | none => cases pw with
    | none => exact fin none none rfl rfl ⟨o, ho, hc, hd⟩
    | int j t' => exact fin none (some (j, t')) rfl rfl ⟨o, ho, hc, hd⟩
  | int i t1 => cases pw with
    | none => exact fin (some (i, t1)) none rfl rfl ⟨o, ho, hc, hd⟩
    | int j t' => exact fin (some (i, t1)) (some (j, t')) rfl rfl ⟨o, ho, hc, hd⟩
end
end Py

namespace Py

noncomputable def RepBs (h : Heap) (Z : Addr → Prop) : List PV → List Value → Prop
  | [], vs => vs = []
  | p :: ps, vs => ∃ v r, vs = v :: r ∧ RepB h Z p v ∧ RepBs h Z ps r
/-- an operation on the arguments of a call -/
noncomputable def OpN (C : Cx) (b : Nat) (f : List Value → Sem Value) (ps : List PV) (k : RK) (r : PV) : Prop :=
  ∀ (A : Around) (Z : Addr → Prop) (s : Shared) (Q : Value → Shared → Prop) (E : Value → Shared → Prop) (vs : List Value), Here C b A Z s → RepBs s.heap Z ps vs →
    (∀ x s', Ext s s' → Res k Z s.heap s'.heap r x → Q x s') → wpAny C.M A (f vs) Q E s

/-- a global name -/
noncomputable def GV (C : Cx) (x : Str) (v : Value) : Prop := ∀ (A : Around) (s : Shared) (Q : Value → Shared → Prop) (E : Value → Shared → Prop) (pos : Pos), C.W s.heap → Q v s → wpAny C.M A (eval (.Name x pos) C.env) Q E s
/-- what may stand as a callee -/
noncomputable def Callee (C : Cx) (v : Value) : Prop := (∃ id, v = .builtin id) ∨ (∃ T, v = .type T) ∨ ∃ a o fd, v = .ref a ∧ o.data = .func fd ∧ ∀ h, C.W h → h.get? a = some o

section
variable {C : Cx} {A : Around} {Z : Addr → Prop} {σ : List LV} {k0 : Nat}

inductive EvL (C : Cx) (A : Around) (Z : Addr → Prop) (σ : List LV) : List Expr → List PV → Prop
  | nil : EvL C A Z σ [] []
  | cons {e : Expr} {es : List Expr} {p : PV} {ps : List PV} (h : Ev C A Z σ e .f p) (t : EvL C A Z σ es ps) (he : ∀ rest env, starEach (e :: rest) env = (false, eval e env) :: starEach rest env := by intro _ _; rfl) : EvL C A Z σ (e :: es) (p :: ps)
inductive EvA (C : Cx) (A : Around) (Z : Addr → Prop) (σ : List LV) : List Expr → List PV → Prop
  | nil : EvA C A Z σ [] []
  | cons {e : Expr} {es : List Expr} {k : RK} {p : PV} {ps : List PV} (h : Ev C A Z σ e k p) (t : EvA C A Z σ es ps) (he : ∀ rest env, starEach (e :: rest) env = (false, eval e env) :: starEach rest env := by intro _ _; rfl) : EvA C A Z σ (e :: es) (p :: ps)

theorem backTo_cons {pos : Pos} {t : Sem Value} {r : List (Bool × Sem Value)} : backTo pos ((false, t) :: r) = (false, t) :: backTo pos r := rfl

theorem evl {pos : Pos} : ∀ {es : List Expr} {ps : List PV}, EvL C A Z σ es ps → ∀ {s : Shared} {Q : List Value → Shared → Prop} {E : Value → Shared → Prop}, St C Z σ s →
    (∀ vs s', Ext s s' → Reps s'.heap Z ps vs → Q vs s') → wpAny C.M A (spliced (backTo pos (starEach es C.env))) Q E s := by
  intro es ps x
  induction x with
  | nil => intro s Q E S h; exact spliced_nil (h [] s (.refl s) .nil)
  | cons he t hs ih =>
    intro s Q E S h
    rw [hs, backTo_cons]
    exact spliced_cons (he s _ E S fun v s1 X1 r1 => ih (S.ext X1) fun vs s2 X2 r2 => h (v :: vs) s2 (X1.trans X2) (.cons (r1.kp X2.kp) r2))
theorem eva {pos : Pos} : ∀ {es : List Expr} {ps : List PV}, EvA C A Z σ es ps → ∀ {s : Shared} {Q : List Value → Shared → Prop} {E : Value → Shared → Prop}, St C Z σ s →
    (∀ vs s', Ext s s' → RepBs s'.heap Z ps vs → Q vs s') → wpAny C.M A (spliced (backTo pos (starEach es C.env))) Q E s := by
  intro es ps x
  induction x with
  | nil => intro s Q E S h; exact spliced_nil (h [] s (.refl s) rfl)
  | cons he t hs ih =>
    intro s Q E S h
    rw [hs, backTo_cons]
    exact spliced_cons (he s _ E S fun v s1 X1 r1 => ih (S.ext X1) fun vs s2 X2 r2 => h (v :: vs) s2 (X1.trans X2) ⟨v, vs, rfl, r1.toB.kp X2.kp, r2⟩)

theorem ev_list {es : List Expr} {pos : Pos} {ps : List PV} (ok : C.Ok) {n : Nat} (hA : OkA n A) (h : EvL C A Z σ es ps) (hl : ps.length ≤ sizeLine) : Ev C A Z σ (.List es pos) .n (.list ps) := by
  intro s Q E S hQ
  refine wpAny_List (evl h S fun vs s1 X r => ⟨by rw [r.length]; exact hl, ?_⟩)
  exact hQ _ _ (X.trans (Ext.push _ _)) ((res_list ((S.ext X).here ok hA).zl r).kpL X.kp)
theorem ev_tuple {es : List Expr} {n0 : Nat} {pos : Pos} {ps : List PV} (ok : C.Ok) {n : Nat} (hA : OkA n A) (h : EvL C A Z σ es ps) (hl : ps.length ≤ sizeLine) : Ev C A Z σ (.Tuple es n0 pos) .n (.tup ps) := by
  intro s Q E S hQ
  refine wpAny_Tuple (evl h S fun vs s1 X r => ⟨by rw [r.length]; exact hl, ?_⟩)
  exact hQ _ _ (X.trans (Ext.push _ _)) ((res_tup ((S.ext X).here ok hA).zl r).kpL X.kp)

theorem evArgs {pos : Pos} {f : Value} : ∀ {es : List Expr} {ps : List PV}, EvA C A Z σ es ps → ∀ {s : Shared} {Q : Args → Shared → Prop} {E : Value → Shared → Prop}, St C Z σ s →
    (∀ vs s', Ext s s' → RepBs s'.heap Z ps vs → Q ⟨vs, []⟩ s') → wpAny C.M A (evalArgs f true (backTo pos (starEach es C.env)) []) Q E s := by
  intro es ps x s Q E S hQ
  have := fun Q' => eva x (pos := pos) (Q := Q') (E := E) S
  cases x with
  | nil => exact evalArgs_nil3 (hQ [] s (.refl s) rfl)
  | cons he t hs =>
    rw [hs, backTo_cons]
    refine evalArgs_plain ?_
    rw [← backTo_cons (pos := pos), ← hs]
    exact this _ hQ
theorem eva_plain {pos : Pos} : ∀ {es : List Expr} {ps : List PV}, EvA C A Z σ es ps → (backTo pos (starEach es C.env)).any (·.1) = false := by
  intro es ps x
  induction x with
  | nil => rfl
  | cons he t hs ih => rw [hs, backTo_cons, List.any_cons]; exact ih

theorem ev_call {x : Str} {p pos : Pos} {fv : Value} {es : List Expr} {ps : List PV} {k : RK} {r : PV} (ok : C.Ok) {n : Nat} (hA : OkA n A) (g : GV C x fv) (hc : Callee C fv) (ha : EvA C A Z σ es ps) (h : OpN C n (fun vs => call fv vs) ps k r) : Ev C A Z σ (.Call (.Name x p) es [] pos) k r := by
  intro s Q E S hQ
  have W : ∀ {s'}, St C Z σ s' → C.W s'.heap := fun S' => ok.mono _ _ ok.w0 S'.keep
  refine wpAny_Call_NameR (g _ _ _ _ _ (W S) ?_)
  have fin : ∀ vs s1, Ext s s1 → RepBs s1.heap Z ps vs → wpAny C.M A (call fv vs) Q E s1 := fun vs s1 X r1 =>
    h A Z s1 Q E vs ((S.ext X).here ok hA) r1 fun x s2 X2 r2 => hQ x s2 (X.trans X2) (r2.kpL X.kp)
  rcases hc with ⟨id, rfl⟩ | ⟨T, rfl⟩ | ⟨a, o, fd, rfl, hd, ho⟩
  · exact callWith_builtin (eva_plain ha) (evArgs ha S fun vs s1 X r1 => fin vs s1 X r1)
  · exact PySem.callWith_type (eva_plain ha) (evArgs ha S fun vs s1 X r1 => fin vs s1 X r1)
  · exact callWith_function (evArgs ha S fun vs s1 X r1 => ⟨⟨ho _ (W (S.ext X)), hd⟩, fin vs s1 X r1⟩)

/-- a method of a built-in type -/
structure Meth (name : Str) (T id : String) : Prop where
  pa : PlainAttrs T
  slot : Slot T name id
  ty : typeOf (.builtin id) = pure (.type "method_descriptor")
noncomputable def TypB (p : PV) (T : String) : Prop := (∃ xs, p = .list xs ∧ T = "list") ∨ (∃ x, p = .str x ∧ T = "str")
theorem ev_meth {o : Expr} {name : Str} {apos pos : Pos} {es : List Expr} {ps : List PV} {k k1 : RK} {p r : PV} {T id : String} (ok : C.Ok) {n : Nat} (hA : OkA n A) (ho : Ev C A Z σ o k1 p) (ht : TypB p T) (m : Meth name T id) (ha : EvA C A Z σ es ps) (h : OpN C n (fun vs => call (.builtin id) vs) (p :: ps) k r)
    (hline : (apos.endLine == pos.line) = true := by rfl) (hbase : attributeBase o name C.env (eval o C.env) = eval o C.env := by rfl) (hfew : decide (es.length + 0 + 0 < 30) = true := by rfl) : Ev C A Z σ (.Call (.Attribute o name apos) es [] pos) k r := by
  intro s Q E S hQ
  have hf : ((backTo pos (starEach es C.env)).all (fun x => !x.1) && (backToKw pos (keywordEach [] C.env)).all (fun x => x.1.isSome) && decide (es.length + ([] : List Keyword).length + (if ([] : List Keyword).isEmpty then 0 else 1) < 30)) = true := by
    have h1 : (backTo pos (starEach es C.env)).all (fun x => !x.1) = true := by
      have := eva_plain (pos := pos) ha
      rw [List.all_eq_not_any_not]
      simpa using this
    rw [h1]
    exact hfew
  refine wpAny_Call_method_late hbase hf hline rfl (ho s _ E S fun u s1 X1 r1 => ⟨T, id, m.pa, m.slot, m.ty, ?_, ?_, ?_⟩)
  · rcases ht with ⟨xs, rfl, rfl⟩ | ⟨x, rfl, rfl⟩
    · obtain ⟨a, vs, rfl, hl, _⟩ := r1.toB; exact hl.isList.typeIs
    · obtain ⟨t, rfl⟩ := r1.toB; exact typeIs_str _ _ _
  · rcases ht with ⟨xs, rfl, rfl⟩ | ⟨x, rfl, rfl⟩
    · obtain ⟨a, vs, rfl, ⟨n, hl⟩, _⟩ := r1.toB; intro b e; cases e; exact ⟨_, hl, rfl⟩
    · obtain ⟨t, rfl⟩ := r1.toB; intro b e; cases e
  · refine callWith_builtin (eva_plain ha) (evArgs ha (S.ext X1) fun vs s2 X2 r2 => ?_)
    exact h A Z s2 Q E (u :: vs) (((S.ext X1).ext X2).here ok hA) ⟨u, vs, rfl, r1.toB.kp X2.kp, r2⟩ fun x s3 X3 r3 => hQ x s3 ((X1.trans X2).trans X3) (r3.kpL (X1.trans X2).kp)

-- built-in calls
theorem fn_len {xs : List PV} (h : xs.length ≤ sizeLine) : OpN C k0 (fun vs => call (.builtin "len") vs) [.list xs] .f (.int xs.length) := by
  rintro A Z s Q E vs H ⟨v, r, rfl, ⟨a, ws, rfl, hl, rs⟩, rfl⟩ hQ
  refine call_len_list hl.isList (by rw [List.size_toArray, rs.length]; have : sizeLine = 2 ^ 24 := rfl; omega) (hQ _ _ (Ext.toks _ _) ⟨s.toks + 1, by rw [List.size_toArray, rs.length]⟩)
theorem fn_lens {x : Str} (h : x.length ≤ sizeLine) : OpN C k0 (fun vs => call (.builtin "len") vs) [.str x] .f (.int x.length) := by
  rintro A Z s Q E vs H ⟨v, r, rfl, ⟨t, rfl⟩, rfl⟩ hQ
  exact P.len_str (by have : sizeLine = 2 ^ 24 := rfl; omega) (hQ _ _ (Ext.toks _ _) ⟨_, rfl⟩)

theorem items_of_ints : ∀ {vs : List Value} {ns : List Int}, IntsAre vs ns → ∃ xs : List (Int × Tok), vs.toArray = intItems xs.toArray ∧ xs.map (·.1) = ns := by
  intro vs ns x
  induction x with
  | nil => exact ⟨[], by simp [intItems], rfl⟩
  | cons n t h ih =>
    obtain ⟨xs, e1, e2⟩ := ih
    refine ⟨(n, t) :: xs, ?_, by simp [e2]⟩
    have : _ = (intItems xs.toArray).toList := congrArg Array.toList e1
    simp [intItems] at this ⊢
    exact this
theorem fn_sum {ns : List Int} : OpN C k0 (fun vs => call (.builtin "sum") vs) [LI ns] .f (.int ns.sum) := by
  rintro A Z s Q E vs H ⟨v, r, rfl, ⟨a, ws, rfl, hl, rs⟩, rfl⟩ hQ
  obtain ⟨xs, e1, e2⟩ := items_of_ints rs.ints
  have hl' := hl.isList
  rw [e1] at hl'
  refine sum_intListG H.a.h hl' fun h' tk t' hk => ?_
  refine hQ _ _ (Ext.heap hk tk) ⟨t', ?_⟩
  rw [preSum_eq, List.take_of_length_le (by simp)]
  simp [e2]
theorem fn_join {x : Str} {ys : List Str} (h : (ys.map (·.length)).sum + ys.length * x.length ≤ 16777216) : OpN C k0 (fun vs => call (.builtin "str.join") vs) [.str x, LS ys] .f (.str (Txt.join x ys)) := by
  rintro A Z s Q E vs H ⟨v, r, rfl, ⟨t, rfl⟩, ⟨v', r', rfl, ⟨a, ws, rfl, hl, rs⟩, rfl⟩⟩ hQ
  exact join_list hl.isList (by simpa using rs.strs) h fun t' k => hQ _ _ (Ext.toks _ _) ⟨_, rfl⟩
theorem meth_join : Meth "join" "str" "str.join" := ⟨F.plainAttrs_str, F.slot_str_join, F.type_str_join⟩
end
end Py

namespace Py

/-- generators below n are as they were -/
noncomputable def GKn (n : Nat) (a b : Array GenState) : Prop := a.size ≤ b.size ∧ (∀ i, i < n → b[i]? = a[i]?) ∧ (AllBare a → AllBare b)
theorem GKn.refl (n : Nat) (a : Array GenState) : GKn n a a := ⟨Nat.le_refl _, fun _ _ => rfl, fun x => x⟩
theorem GKn.trans {n : Nat} {a b c : Array GenState} (x : GKn n a b) (y : GKn n b c) : GKn n a c := ⟨Nat.le_trans x.1 y.1, fun i hi => (y.2.1 i hi).trans (x.2.1 i hi), fun z => y.2.2 (x.2.2 z)⟩
theorem GK.n {n : Nat} {a b : Array GenState} (x : GK a b) (h : n ≤ a.size) : GKn n a b := ⟨x.1, fun i hi => x.2.1 i (Nat.lt_of_lt_of_le hi h), x.2.2⟩
theorem GKn.gk {a b c : Array GenState} (x : GK a b) (y : GKn a.size b c) : GK a c := ⟨Nat.le_trans x.1 y.1, fun i hi => (y.2.1 i hi).trans (x.2.1 i hi), fun z => y.2.2 (x.2.2 z)⟩

/-- a step of an iterator: its own objects alone change -/
structure Mv (wr : Addr → Prop) (n : Nat) (s s' : Shared) : Prop where
  kp : ∀ b o, ¬ wr b → s.heap.get? b = some o → s'.heap.get? b = some o
  lv : ∀ a, ¬ wr a → s'.heap.get? a = none → s.heap.get? a = none
  gk : GKn n s.gens s'.gens
  dr : s'.drawn = s.drawn
  os : s'.os = s.os

noncomputable def ZOk (hs : Heap) (Z₀ Z : Addr → Prop) (s : Shared) : Prop := (∀ a, Z a → Z₀ a ∨ hs.get? a = none) ∧ ∀ a, Z a → ∃ o, s.heap.get? a = some o

/-- where the items of a loop come from -/
structure Src (M : Model) (A : Around) (target : Expr) (it : Value) (fp wr : Addr → Prop) (n : Nat) (hs : Heap) (Z₀ : Addr → Prop) {ι : Type} (nx : ι → Option (PV × ι)) (I : ι → Shared → Prop) : Prop where
  sub : ∀ b, wr b → fp b
  plain : ∀ i s b o, I i s → wr b → s.heap.get? b = some o → (SeqObj o → Z₀ b) ∧ ∀ w, o.data ≠ .cell w
  frame : ∀ i s s', I i s → (∀ b o, fp b → s.heap.get? b = some o → s'.heap.get? b = some o) → GK s.gens s'.gens → I i s'
  next : ∀ i s (Qn : Shared → Prop) (Qs : Value → Shared → Prop) (E : Value → Shared → Prop) Z, I i s → ZOk hs Z₀ Z s → n ≤ s.gens.size →
    (nx i = none → ∀ s', Mv wr n s s' → Qn s') →
    (∀ p j, nx i = some (p, j) → ∀ v s', Mv wr n s s' → Lv s s' → (∀ b, wr b → Z₀ b → ∃ o, s'.heap.get? b = some o ∧ SeqObj o) → Rep s'.heap Z p v → I j s' → Qs v s') →
    wpAny M A (pyNext it) (fun r s1 => match r with | none => Qn s1 | some v => wpAny M A (letOwnedTupleGo target it v) (fun _ s2 => Qs v s2) E s1) E s

section
variable {C : Cx} {A : Around} {Z : Addr → Prop} {σ : List LV} {P : Post}

theorem St.mv {s s' : Shared} (S : St C Z σ s) (keep : Kp C.h₀ s'.heap) (H : ∀ b o, s.heap.get? b = some o → (SeqObj o ∨ (∃ w, o.data = .cell w) ∨ b = C.env.locals) → s'.heap.get? b = some o) : St C Z σ s' := by
  obtain ⟨m, hn, V⟩ := S.vars
  have hc : ∀ c w, s.heap.IsCell c w → s'.heap.IsCell c w := fun c w ⟨o, e, d⟩ => ⟨o, H c o e (.inr (.inl ⟨w, d⟩)), d⟩
  refine ⟨keep, S.zf, fun a z => let ⟨o, e, q⟩ := S.zl a z; ⟨o, H a o e (.inl q), q⟩, S.nd, m, ?_, V.chg hc (fun a o e q z => ⟨H a o e (.inl q), z⟩) fun a ys e => ⟨V.ownZ a ys e, fun o eo => ?_⟩⟩
  · obtain ⟨o, es, ep, e, r⟩ := hn; exact ⟨o, es, ep, H _ o e (.inr (.inr rfl)), r⟩
  · obtain ⟨o', e', q⟩ := S.zl a (V.ownZ a ys e)
    rw [eo] at e'; cases e'
    exact H a o eo (.inl q)

noncomputable def tnames : Expr → List Str
  | .Name x _ => [x]
  | .Tuple es _ _ => es.flatMap fun e => match e with | .Name x _ => [x] | _ => []
  | _ => []
noncomputable def OnlyT (C : Cx) (t : Expr) (s s' : Shared) : Prop := ∀ b o, s.heap.get? b = some o → b ≠ C.env.locals → (∀ x ∈ tnames t, C.env.cells.lookup x ≠ some b) → s'.heap.get? b = some o

/-- how a target takes an item -/
inductive Tgt (C : Cx) : Expr → PV → List LV → List LV → Prop
  | name {x : Str} {pos : Pos} {i : Nat} {p : PV} {σ : List LV} : At C.vs i x → Tgt C (.Name x pos) p σ (σ.set i (.v p))
  | pair {x y : Str} {p1 p2 pos : Pos} {k i j : Nat} {p q : PV} {σ : List LV} : At C.vs i x → At C.vs j y → Tgt C (.Tuple [.Name x p1, .Name y p2] k pos) (.tup [p, q]) σ ((σ.set i (.v p)).set j (.v q))

theorem assign_tgt {E : Value → Shared → Prop} {t : Expr} {p : PV} {σ' : List LV} {s : Shared} {v : Value} {Q : Unit → Shared → Prop} (ok : C.Ok) (hA : A.handled = none) (T : Tgt C t p σ σ') (S : St C Z σ s) (hr : Rep s.heap Z p v)
    (h : ∀ s', St C Z σ' s' → Frame C Z s Z s' → Lv s s' → OnlyT C t s s' → Q () s') : wpAny C.M A (assign t C.env v) Q E s := by
  cases T with
  | name hi => exact wpAny_assign_Name (wpAny_bindName' (store_v ok S hi hr fun s' S' F L O _ _ => h s' S' F L fun b o e n m => O b o e n (m _ (.head _))))
  | pair hi hj =>
    simp only [Rep] at hr
    obtain ⟨a, vs, rfl, ht, hz, rs⟩ := hr
    simp only [Reps] at rs
    obtain ⟨v1, r1, rfl, h1, v2, r2, rfl, h2, rfl⟩ := rs
    refine wpAny_assign_Tuple hA ht rfl (by rfl) fun h' hx => ?_
    have k : Kp s.heap h' := fun b o e => hx b o (Nat.ne_of_lt (Heap.lt_size e)) e
    have S1 := S.kp (s' := { s with heap := h' }) k
    refine wpAny_assignInOrder_more (wpAny_assign_Name (store_v ok S1 hi (h1.kp k) fun s2 S2 F2 L2 O2 hR2 _ => ?_))
    refine wpAny_assignInOrder_more (wpAny_assign_Name (store_v ok S2 hj (hR2 _ _ (h2.kp k)) fun s3 S3 F3 L3 O3 _ _ => ?_))
    refine wpAny_assignInOrder_none ?_
    have L1 : Lv s { s with heap := h' } := Lv.ofKp k
    have L12 : Lv s s2 := L1.trans L2
    exact h s3 S3 (((Frame.ofExt (Ext.heap' k)).trans F2 L1).trans F3 L12) (L12.trans L3) fun b o e n m => O3 b o (O2 b o (k b o e) n (m _ (.head _))) n (m _ (.tail _ (.head _)))
where
  wpAny_bindName' {M : Model} {A : Around} {E : Value → Shared → Prop} {s : Shared} {t : Sem Unit} {Q : Unit → Shared → Prop} (h : wpAny M A t Q E s) : wpAny M A t Q E s := h

/-- a loop's turns -/
noncomputable def WL (C : Cx) (A : Around) (t : Expr) (body orelse : List Stmt) (P : Post) {ι : Type} (nx : ι → Option (PV × ι)) : Nat → ι → (Addr → Prop) → List LV → Prop
  | 0, _, _, _ => False
  | n + 1, i, Z, σ => match nx i with
    | none => WS C A Z σ orelse P
    | some (p, j) => ∃ σ', Tgt C t p σ σ' ∧ WS C A Z σ' body fun fl Z' σ'' => match fl with
      | .next => WL C A t body orelse P nx n j Z' σ''
      | .cont => WL C A t body orelse P nx n j Z' σ''
      | .brk => P .next Z' σ''
      | .ret p => P (.ret p) Z' σ''

theorem loop_code {R : Result → Shared → Prop} {t : Expr} {it : Value} {body orelse : List Stmt} {fp wr : Addr → Prop} {hs : Heap} {ι : Type} {nx : ι → Option (PV × ι)} {I : ι → Shared → Prop} {s₀ s : Shared} {i : ι} {n : Nat} (ok : C.Ok) (hA : A.handled = none)
    (D : Src C.M A t it fp wr s₀.gens.size hs Z nx I) (hfp : ∀ b, fp b → ¬ Priv C Z b ∧ ∃ o, hs.get? b = some o) (hwr : ∀ b, wr b → s₀.heap.get? b = none) (S₀ : St C Z σ s₀) (X : Ext s₀ s) (hsn : ∀ a, hs.get? a = none → s₀.heap.get? a = none) (hsl : hs = s.heap) (h0 : I i s) (hw : WL C A t body orelse P nx n i Z σ)
    (hR : ∀ fl f Z' σ' s', P fl Z' σ' → St C Z' σ' s' → Frame C Z s₀ Z' s' → Lv s₀ s' → FlIs C s'.heap fl f → R (.ok f) s') : codeAny C.M A (.forLoop t it body orelse C.env) R s := by
  refine codeAny_forLoop_any (fun n s => ∃ i Z' σ', I i s ∧ St C Z' σ' s ∧ Frame C Z s₀ Z' s ∧ Lv s₀ s ∧ ZOk hs Z Z' s ∧ (∀ a, hs.get? a ≠ none → s.heap.get? a ≠ none) ∧ WL C A t body orelse P nx n i Z' σ') ?_ n ⟨i, Z, σ, h0, S₀.ext X, .ofExt X, Lv.ofKp X.kp, ⟨fun a z => .inl z, fun a z => let ⟨o, e, _⟩ := (S₀.ext X).zl a z; ⟨o, e⟩⟩, fun a h => hsl ▸ h, hw⟩
  rintro n s ⟨i, Z', σ', hI, S, F, L, hZ, hlive, hw⟩
  have hloc : ∀ b, wr b → b ≠ C.env.locals := by
    rintro b hb rfl
    obtain ⟨m, ⟨o, _, _, e, _⟩, _⟩ := S₀.vars
    rw [hwr _ hb] at e; cases e
  have lv1 : ∀ {s1}, Mv wr s₀.gens.size s s1 → Lv s₀ s1 := by
    intro s1 m a e
    by_cases hb : wr a
    · exact hwr a hb
    · exact L a (m.lv a hb e)
  have step : ∀ {s1}, Mv wr s₀.gens.size s s1 → St C Z' σ' s1 ∧ Frame C Z s₀ Z' s1 ∧ Lv s₀ s1 := by
    intro s1 m
    refine ⟨S.mv (fun b o e => ?_) (fun b o e q => ?_), ⟨fun b o e n => m.kp b o (fun hb => ?_) (F.kp b o e n), F.zz, m.gk.gk F.gk, m.dr.trans F.dr, m.os.trans F.os⟩, lv1 m⟩
    · refine m.kp b o (fun hb => ?_) (S.keep b o e)
      have := S₀.keep b o e
      rw [hwr b hb] at this; cases this
    · refine m.kp b o (fun hb => ?_) e
      have := D.plain i s b o hI hb e
      rcases q with q | ⟨w, q⟩ | q
      · obtain ⟨o', e', _⟩ := S₀.zl b (this.1 q); rw [hwr b hb] at e'; cases e'
      · exact this.2 w q
      · exact hloc b hb q
    · rw [hwr b hb] at e; cases e
  cases n with
  | zero => exact hw.elim
  | succ n =>
    unfold WL at hw
    refine wpAny_mono (D.next i s (fun s1 => wpAny C.M A (execs orelse C.env) (fun f s₃ => R (.ok f) s₃) (notedBy C.M A C.env fun e s' => R (.error e) s') s1)
      (fun v s1 => wpAny C.M A (assign t C.env v) (fun _ s₂ => wpAny C.M A (execs body C.env) (fun f s₃ => match f with
            | .next | .cont => ∃ m, m < n + 1 ∧ (∃ i Z' σ', I i s₃ ∧ St C Z' σ' s₃ ∧ Frame C Z s₀ Z' s₃ ∧ Lv s₀ s₃ ∧ ZOk hs Z Z' s₃ ∧ (∀ a, hs.get? a ≠ none → s₃.heap.get? a ≠ none) ∧ WL C A t body orelse P nx m i Z' σ')
            | .brk => R (.ok .next) s₃
            | .ret v => R (.ok (.ret v)) s₃) (notedBy C.M A C.env fun e s' => R (.error e) s') s₂) (notedBy C.M A C.env fun e s' => R (.error e) s') s1) _ Z' hI hZ F.gk.1 ?_ ?_) (fun r s1 h => ?_) fun _ _ x => x
    · intro e s1 m
      rw [e] at hw
      obtain ⟨S1, F1, L1⟩ := step m
      exact hw s1 _ _ S1 fun fl f Z'' σ'' s' hp S' F' L' hf => hR fl f Z'' σ'' s' hp S' (F1.trans F' L1) (L1.trans L') hf
    · intro p j e v s1 m lv _ hr hI1
      rw [e] at hw
      obtain ⟨σ1, T, hw⟩ := hw
      obtain ⟨S1, F1, L1⟩ := step m
      refine assign_tgt ok hA T S1 hr fun s2 S2 F2 L2 _ => ?_
      refine hw s2 _ _ S2 fun fl f Z'' σ'' s3 hp S3 F3 L3 hf => ?_
      have F13 := F2.trans F3 L2
      have L13 := L2.trans L3
      have FF := F1.trans F13 L1
      have LL := L1.trans L13
      have lz : ∀ a, hs.get? a ≠ none → s3.heap.get? a ≠ none := fun a h q => hlive a h (lv a (L13 a q))
      have hfp' : ∀ b o, fp b → s1.heap.get? b = some o → s3.heap.get? b = some o := by
        intro b o hb e
        refine F13.kp b o e fun q => ?_
        obtain ⟨n1, o', e'⟩ := hfp b hb
        rcases q with q | q
        · rcases hZ.1 b q with q | q
          · exact n1 (.inl q)
          · rw [q] at e'; cases e'
        · exact n1 (.inr q)
      have hI3 : I j s3 := D.frame j s1 s3 hI1 hfp' F13.gk
      have hZ3 : ZOk hs Z Z'' s3 := ⟨fun a z => by
        rcases F13.zz a z with q | q
        · exact hZ.1 a q
        · refine .inr ?_
          cases h : hs.get? a with
          | none => rfl
          | some o => exact absurd (lv a q) (hlive a (by rw [h]; simp)), fun a z => let ⟨o, e, _⟩ := S3.zl a z; ⟨o, e⟩⟩
      cases fl with
      | next => simp only [FlIs] at hf; subst hf; exact ⟨n, Nat.lt_succ_self n, j, Z'', σ'', hI3, S3, FF, LL, hZ3, lz, hp⟩
      | cont => simp only [FlIs] at hf; subst hf; exact ⟨n, Nat.lt_succ_self n, j, Z'', σ'', hI3, S3, FF, LL, hZ3, lz, hp⟩
      | brk => simp only [FlIs] at hf; subst hf; exact hR .next _ _ _ _ hp S3 FF LL rfl
      | ret q => obtain ⟨v, rfl, r⟩ := hf; exact hR (.ret q) _ _ _ _ hp S3 FF LL ⟨v, rfl, r⟩
    · cases r with
      | none => exact h
      | some v => exact h

noncomputable def fpAll (C : Cx) (Z : Addr → Prop) (hs : Heap) (b : Addr) : Prop := ¬ Priv C Z b ∧ ∃ o, hs.get? b = some o
/-- an iterator that has just been made, between s and s' -/
noncomputable def SrcAt (C : Cx) (A : Around) (Z Z₁ : Addr → Prop) (t : Expr) (s : Shared) (it : Value) (s' : Shared) {ι : Type} (nx : ι → Option (PV × ι)) (i : ι) : Prop :=
  ∃ (wr : Addr → Prop) (I : ι → Shared → Prop), Ext s s' ∧ Src C.M A t it (fpAll C Z s'.heap) wr s.gens.size s'.heap Z₁ nx I ∧ (∀ b, wr b → s.heap.get? b = none ∧ ∃ o, s'.heap.get? b = some o) ∧ I i s' ∧
    ∀ i s (Q : Value → Shared → Prop) (E : Value → Shared → Prop), I i s → Q it s → wpAny C.M A (pyIter it) Q E s
noncomputable def Iter (C : Cx) (A : Around) (Z : Addr → Prop) (σ : List LV) (t iter : Expr) {ι : Type} (nx : ι → Option (PV × ι)) (i : ι) : Prop :=
  ∀ (s : Shared) (Q : Value → Shared → Prop) (E : Value → Shared → Prop), St C Z σ s → (∀ it s', SrcAt C A Z Z t s it s' nx i → Q it s') →
    wpAny C.M A (eval iter C.env) (fun x s₁ => wpAny C.M A (pyIter x) Q E s₁) E s
noncomputable def IterZ (C : Cx) (A : Around) (Z : Addr → Prop) (σ : List LV) (t iter : Expr) {ι : Type} (nx : ι → Option (PV × ι)) (i : ι) : Prop :=
  ∀ (s : Shared) (Q : Value → Shared → Prop) (E : Value → Shared → Prop), St C Z σ s →
    (∀ it s' Z₁, (∀ a, Z a → Z₁ a) → (∀ a, Z₁ a → Z a ∨ s.heap.get? a = none) → St C Z₁ σ s' → SrcAt C A Z Z₁ t s it s' nx i → Q it s') →
    wpAny C.M A (eval iter C.env) (fun x s₁ => wpAny C.M A (pyIter x) Q E s₁) E s
theorem Iter.z {t iter : Expr} {ι : Type} {nx : ι → Option (PV × ι)} {i : ι} (h : Iter C A Z σ t iter nx i) : IterZ C A Z σ t iter nx i :=
  fun s Q E S hQ => h s Q E S fun it s' D => hQ it s' Z (fun _ z => z) (fun _ z => .inl z) (let ⟨_, _, X, _⟩ := D; S.ext X) D

/-- a for statement over a source -/
theorem w1_for {t iter : Expr} {body orelse : List Stmt} {pos : Pos} {ι : Type} {nx : ι → Option (PV × ι)} {i : ι} {n : Nat} (ok : C.Ok) (hA : A.handled = none)
    (hsrc : Iter C A Z σ t iter nx i) (hw : WL C A t body orelse P nx n i Z σ) (hf : ∀ x, foldedSetIterable iter C.env x = pure x := by intro _; rfl) : W1 C A Z σ (.For t iter body orelse pos) P := by
  intro s Q E S hQ
  refine wpAny_For (hsrc s _ _ S fun it s' D => ?_) hf
  obtain ⟨wr, I, X, D, hwr, hI, _⟩ := D
  exact loop_code ok hA D (fun _ h => h) (fun b hb => (hwr b hb).1) S X (fun a e => none_kp X.kp e) rfl hI hw fun fl f Z' σ' s'' hp S' F L hf => hQ fl f Z' σ' s'' hp S' F L hf
end

-- lists as sources
noncomputable def uncons : List PV → Option (PV × List PV)
  | [] => none
  | p :: ps => some (p, ps)

section
variable {C : Cx} {A : Around} {Z : Addr → Prop} {σ : List LV} {P : Post}
/-- a loop's turns, over a list of items -/
noncomputable def WLs (C : Cx) (A : Around) (t : Expr) (body orelse : List Stmt) (P : Post) : List PV → (Addr → Prop) → List LV → Prop
  | [], Z, σ => WS C A Z σ orelse P
  | p :: ps, Z, σ => ∃ σ', Tgt C t p σ σ' ∧ WS C A Z σ' body fun fl Z' σ'' => match fl with
      | .next => WLs C A t body orelse P ps Z' σ''
      | .cont => WLs C A t body orelse P ps Z' σ''
      | .brk => P .next Z' σ''
      | .ret p => P (.ret p) Z' σ''
theorem WLs.wl {t : Expr} {body orelse : List Stmt} : ∀ {ps : List PV} {Z : Addr → Prop} {σ : List LV}, WLs C A t body orelse P ps Z σ → WL C A t body orelse P uncons (ps.length + 1) ps Z σ
  | [], _, _, h => h
  | p :: ps, _, _, ⟨σ', T, h⟩ => ⟨σ', T, ws_mono h fun fl Z' σ'' h => by
      cases fl with
      | next => exact WLs.wl h
      | cont => exact WLs.wl h
      | brk => exact h
      | ret => exact h⟩
theorem w1_fors {t iter : Expr} {body orelse : List Stmt} {pos : Pos} {ps : List PV} (ok : C.Ok) (hA : A.handled = none)
    (hsrc : Iter C A Z σ t iter uncons ps) (hw : WLs C A t body orelse P ps Z σ) (hf : ∀ x, foldedSetIterable iter C.env x = pure x := by intro _; rfl) : W1 C A Z σ (.For t iter body orelse pos) P :=
  w1_for ok hA hsrc hw.wl hf
end
end Py

namespace Py

section
variable {C : Cx} {A : Around} {Z Z₁ : Addr → Prop} {σ : List LV}

theorem At.of_mem : ∀ {l : List Str} {x : Str}, x ∈ l → ∃ n, At l n x
  | y :: l, x, h => by
    rcases List.mem_cons.mp h with rfl | h
    · exact ⟨0, .here⟩
    · obtain ⟨n, q⟩ := At.of_mem h; exact ⟨n + 1, .there q⟩

theorem VarIs.cell {env : Env} {h : Heap} {Z : Addr → Prop} {m : Str → Option Value} {x : Str} {l : LV} {c : Addr} (hk : env.kindOf x ≠ some .local) (hc : env.cells.lookup x = some c) (V : VarIs env h Z m x l) : ∃ w, h.IsCell c w := by
  cases l with
  | unb => exact V hk c hc
  | v p =>
    obtain ⟨v, q | ⟨_, c', q1, q2⟩, _⟩ := V
    · exact absurd q.1 hk
    · rw [hc] at q1; cases q1; exact ⟨_, q2⟩
  | own a xs =>
    obtain ⟨q | ⟨_, c', q1, q2⟩, _⟩ := V
    · exact absurd q.1 hk
    · rw [hc] at q1; cases q1; exact ⟨_, q2⟩

theorem St.cells {s : Shared} (ok : C.Ok) (S : St C Z σ s) : ∀ x ∈ C.env.cells, ∃ w, s.heap.IsCell x.2 w := by
  intro x hx
  obtain ⟨h1, h2, h3⟩ := ok.cov x hx
  obtain ⟨m, hn, V⟩ := S.vars
  obtain ⟨n, hi⟩ := At.of_mem h1
  have hlt : n < σ.length := by rw [← Vars.len V]; exact hi.len
  exact (V.get hi (List.getElem?_eq_getElem hlt)).cell h2 h3

theorem St.priv_live {s : Shared} {b : Addr} (ok : C.Ok) (S : St C Z σ s) (h : Priv C Z b) : ∃ o, s.heap.get? b = some o := by
  rcases h with h | rfl | ⟨x, hx, rfl⟩
  · obtain ⟨o, e, _⟩ := S.zl b h; exact ⟨o, e⟩
  · obtain ⟨m, ⟨o, _, _, e, _⟩, _⟩ := S.vars; exact ⟨o, e⟩
  · obtain ⟨w, o, e, _⟩ := S.cells ok x hx; exact ⟨o, e⟩
theorem St.npriv {s : Shared} {b : Addr} (ok : C.Ok) (S : St C Z σ s) (h : s.heap.get? b = none) : ¬ Priv C Z b := fun q => by
  obtain ⟨o, e⟩ := S.priv_live ok q; rw [h] at e; cases e
theorem St.seq_npriv {s : Shared} {b : Addr} {o : Obj} (ok : C.Ok) (S : St C Z σ s) (e : s.heap.get? b = some o) (q : SeqObj o) (z : ¬ Z b) : ¬ Priv C Z b := by
  rintro (h | rfl | ⟨x, hx, rfl⟩)
  · exact z h
  · obtain ⟨m, hn, _⟩ := S.vars; exact ns_seq hn e q
  · obtain ⟨w, hc⟩ := S.cells ok x hx; exact cell_seq hc e q

noncomputable def Base (C : Cx) (Z : Addr → Prop) (wr : List Addr) (hs : Heap) (s : Shared) : Prop := ∀ b o, ¬ Priv C Z b → b ∉ wr → hs.get? b = some o → s.heap.get? b = some o

theorem rep_chg {sh : Shared} {s' : Heap} {wr : List Addr} {Z' : Addr → Prop} (ok : C.Ok) (S : St C Z₁ σ sh) (hZ : ∀ a, Z a → Z₁ a) (base : ∀ b o, ¬ Priv C Z b → b ∉ wr → sh.heap.get? b = some o → s'.get? b = some o)
    (zok : ∀ a, Z' a → Z₁ a ∨ sh.heap.get? a = none) (hpl : ∀ b ∈ wr, ∀ o, sh.heap.get? b = some o → SeqObj o → Z₁ b) :
    ∀ a o, sh.heap.get? a = some o → SeqObj o → ¬ Z₁ a → s'.get? a = some o ∧ ¬ Z' a := by
  intro a o e q nz
  refine ⟨base a o (fun p => S.seq_npriv ok e q nz ?_) (fun h => nz (hpl a h o e q)) e, fun z => ?_⟩
  · rcases p with p | p
    · exact .inl (hZ a p)
    · exact .inr p
  · rcases zok a z with z | z
    · exact nz z
    · rw [e] at z; cases z

theorem src_walks {sh : Shared} {I : Addr} {fp wr : List Addr} {n N : Nat} {P : Nat → Value → Prop} {St' : Nat → Heap → Prop} {t : Expr} (ok : C.Ok) (S : St C Z₁ σ sh) (hZ : ∀ a, Z a → Z₁ a) (W : Walks C.prog C.w A I fp wr n P St')
    (go : ∀ i (s : Shared) v (Q : Unit → Shared → Prop) (E : Value → Shared → Prop), St' i s.heap → Q () s → wpAny C.M A (letOwnedTupleGo t (.ref I) v) Q E s)
    (ps : List PV) (hn : ps.length = n) (hP : ∀ i v p, ps[i]? = some p → P i v → Rep sh.heap Z₁ p v)
    (hfp : ∀ b ∈ fp, fpAll C Z sh.heap b) (hlo : ∀ i h b, St' i h → b ∈ wr → ∃ o, h.get? b = some o ∧ ¬ SeqObj o ∧ ∀ w, o.data ≠ .cell w) (h0 : St' 0 sh.heap) :
    Src C.M A t (.ref I) (fpAll C Z sh.heap) (· ∈ wr) N sh.heap Z₁ uncons (fun l s => ∃ i, i ≤ n ∧ l = ps.drop i ∧ St' i s.heap ∧ Base C Z wr sh.heap s) where
  sub := fun b hb => hfp b (W.sub b hb)
  plain := by
    rintro l s b o ⟨i, _, _, hs, _⟩ hb e
    obtain ⟨o', e', q1, q2⟩ := hlo i _ b hs hb
    rw [e] at e'; cases e'
    exact ⟨fun q => absurd q q1, q2⟩
  frame := by
    rintro l s s' ⟨i, hi, hl, hs, B⟩ hk _
    exact ⟨i, hi, hl, W.frame i _ _ hs fun b hb o e => hk b o (hfp b hb) e, fun b o np nw e => hk b o ⟨np, o, e⟩ (B b o np nw e)⟩
  next := by
    rintro l s Qn Qs E Z' ⟨i, hi, rfl, hs, B⟩ zok hN hn' hs'
    by_cases h : i < n
    · have hi' : i < ps.length := by omega
      have e : ps.drop i = ps[i] :: ps.drop (i + 1) := List.drop_eq_getElem_cons hi'
      refine W.item i s _ E h hs fun v h' tk hp hst hk => ?_
      refine go (i + 1) _ v _ _ hst ?_
      refine hs' ps[i] (ps.drop (i + 1)) (by rw [e]; rfl) v _ ⟨fun b o nb eb => hk b o nb eb, fun a na ea => ?_, .refl _ _, rfl, rfl⟩ (fun a ea => ?_) (fun b hb hz => ?_) ?_ ⟨i + 1, by omega, rfl, hst, fun b o np nw eb => hk b o nw (B b o np nw eb)⟩
      · cases q : s.heap.get? a with
        | none => rfl
        | some o => rw [show h'.get? a = some o from hk a o na q] at ea; cases ea
      · by_cases hb : a ∈ wr
        · obtain ⟨o, e1, _⟩ := hlo _ _ a hst hb
          rw [show h'.get? a = some o from e1] at ea; cases ea
        · cases q : s.heap.get? a with
          | none => rfl
          | some o => rw [show h'.get? a = some o from hk a o hb q] at ea; cases ea
      · obtain ⟨o1, e1, q1⟩ := S.zl b hz
        obtain ⟨o2, e2, q2, _⟩ := hlo _ _ b h0 hb
        rw [e1] at e2; cases e2
        exact absurd q1 q2
      · refine Rep.chg (rep_chg (wr := wr) ok S hZ (fun b o np nw e => hk b o nw (B b o np nw e)) zok.1 fun b hb o e q => ?_) _ _ (hP i v ps[i] (List.getElem?_eq_getElem hi') hp)
        obtain ⟨o', e', q1, _⟩ := hlo 0 _ b h0 hb
        rw [e] at e'; cases e'
        exact absurd q q1
    · have : i = n := by omega
      subst this
      refine W.done s _ E hs fun h' tk hk => ?_
      refine hn' (by rw [List.drop_eq_nil_of_le (by omega)]; rfl) _ ⟨fun b o nb eb => hk b o nb eb, fun a na ea => ?_, .refl _ _, rfl, rfl⟩
      cases q : s.heap.get? a with
      | none => rfl
      | some o => rw [show h'.get? a = some o from hk a o na q] at ea; cases ea

theorem src_walksT {sh : Shared} {I : Addr} {fp wr : List Addr} {n N : Nat} {Pt : Nat → Array Value → Prop} {St' : Nat → Heap → Prop} {Mid : Nat → Addr → Heap → Prop} {es : List Expr} {k : Nat} {pos : Pos} (ok : C.Ok) (S : St C Z₁ σ sh) (hZ : ∀ a, Z a → Z₁ a) (W : WalksT C.prog C.w A I fp wr n Pt St' Mid)
    (ps : List PV) (hn : ps.length = n) (hP : ∀ i vals p, ps[i]? = some p → Pt i vals → ∃ qs, p = .tup qs ∧ Reps sh.heap Z₁ qs vals.toList)
    (hfp : ∀ b ∈ fp, fpAll C Z sh.heap b) (hlo : ∀ i h b, St' i h → b ∈ wr → ∃ o, h.get? b = some o ∧ (SeqObj o ↔ Z₁ b) ∧ ∀ w, o.data ≠ .cell w) (h0 : St' 0 sh.heap) :
    Src C.M A (.Tuple es k pos) (.ref I) (fpAll C Z sh.heap) (· ∈ wr) N sh.heap Z₁ uncons (fun l s => ∃ i, i ≤ n ∧ l = ps.drop i ∧ St' i s.heap ∧ Base C Z wr sh.heap s) where
  sub := fun b hb => hfp b (W.sub b hb)
  plain := by
    rintro l s b o ⟨i, _, _, hs, _⟩ hb e
    obtain ⟨o', e', q1, q2⟩ := hlo i _ b hs hb
    rw [e] at e'; cases e'
    exact ⟨q1.mp, q2⟩
  frame := by
    rintro l s s' ⟨i, hi, hl, hs, B⟩ hk _
    exact ⟨i, hi, hl, W.frame i _ _ hs fun b hb o e => hk b o (hfp b hb) e, fun b o np nw e => hk b o ⟨np, o, e⟩ (B b o np nw e)⟩
  next := by
    rintro l s Qn Qs E Z' ⟨i, hi, rfl, hs, B⟩ zok hN hn' hs'
    by_cases h : i < n
    · have hi' : i < ps.length := by omega
      have e : ps.drop i = ps[i] :: ps.drop (i + 1) := List.drop_eq_getElem_cons hi'
      refine W.item i s _ E h hs fun T vals h' tk hp hT hit hmid hk => ?_
      refine W.go es k pos i T { s with heap := h', toks := tk } _ E hmid fun h2 hst hk2 => ?_
      have hk' : ∀ b o, b ∉ wr → s.heap.get? b = some o → h2.get? b = some o := fun b o nb eb => hk2 b o nb (hk b o nb eb)
      refine hs' ps[i] (ps.drop (i + 1)) (by rw [e]; rfl) (.ref T) _ ⟨fun b o nb eb => hk' b o nb eb, fun a na ea => ?_, .refl _ _, rfl, rfl⟩ (fun a ea => ?_) (fun b hb hz => ?_) ?_ ⟨i + 1, by omega, rfl, hst, fun b o np nw eb => hk' b o nw (B b o np nw eb)⟩
      · cases q : s.heap.get? a with
        | none => rfl
        | some o => rw [show h2.get? a = some o from hk' a o na q] at ea; cases ea
      · by_cases hb : a ∈ wr
        · obtain ⟨o, e1, _⟩ := hlo _ _ a hst hb
          rw [show h2.get? a = some o from e1] at ea; cases ea
        · cases q : s.heap.get? a with
          | none => rfl
          | some o => rw [show h2.get? a = some o from hk' a o hb q] at ea; cases ea
      · obtain ⟨o2, e2, q2, _⟩ := hlo _ _ b hst hb
        exact ⟨o2, e2, q2.mpr hz⟩
      · obtain ⟨qs, eq, hr⟩ := hP i vals ps[i] (List.getElem?_eq_getElem hi') hp
        rw [eq]
        simp only [Rep]
        obtain ⟨oT, eT, cT, nT, dT⟩ := hit
        refine ⟨T, vals.toList, rfl, ⟨oT, hk2 T oT (W.apart _ _ _ hmid) eT, cT, nT, by simpa using dT⟩, fun z => ?_, ?_⟩
        · obtain ⟨o, e⟩ := zok.2 T z
          exact absurd (Heap.lt_size e) (Nat.not_lt.mpr hT)
        · refine Reps.chg (rep_chg (wr := wr) ok S hZ (fun b o np nw e => hk' b o nw (B b o np nw e)) zok.1 fun b hb o e q => ?_) _ _ hr
          obtain ⟨o', e', q1, _⟩ := hlo 0 _ b h0 hb
          rw [e] at e'; cases e'
          exact q1.mp q
    · have : i = n := by omega
      subst this
      refine W.done s _ E hs fun h' tk hk => ?_
      refine hn' (by rw [List.drop_eq_nil_of_le (by omega)]; rfl) _ ⟨fun b o nb eb => hk b o nb eb, fun a na ea => ?_, .refl _ _, rfl, rfl⟩
      cases q : s.heap.get? a with
      | none => rfl
      | some o => rw [show h'.get? a = some o from hk a o na q] at ea; cases ea
end
end Py

namespace Py

section
variable {C : Cx} {A : Around} {Z Z₁ : Addr → Prop} {σ : List LV}

theorem evArgsL {pos : Pos} {f : Value} : ∀ {es : List Expr} {ps : List PV}, EvL C A Z σ es ps → ∀ {s : Shared} {Q : Args → Shared → Prop} {E : Value → Shared → Prop}, St C Z σ s →
    (∀ vs s', Ext s s' → Reps s'.heap Z ps vs → Q ⟨vs, []⟩ s') → wpAny C.M A (evalArgs f true (backTo pos (starEach es C.env)) []) Q E s := by
  intro es ps x s Q E S hQ
  have := fun Q' => evl x (pos := pos) (Q := Q') (E := E) S
  cases x with
  | nil => exact evalArgs_nil3 (hQ [] s (.refl s) .nil)
  | cons he t hs =>
    rw [hs, backTo_cons]
    refine evalArgs_plain ?_
    rw [← backTo_cons (pos := pos), ← hs]
    exact this _ hQ
theorem evl_plain {pos : Pos} : ∀ {es : List Expr} {ps : List PV}, EvL C A Z σ es ps → (backTo pos (starEach es C.env)).any (·.1) = false := by
  intro es ps x
  induction x with
  | nil => rfl
  | cons he t hs ih => rw [hs, backTo_cons, List.any_cons]; exact ih

theorem call_raw {x : Str} {p pos : Pos} {T : String} {es : List Expr} {ps : List PV} {s : Shared} {Q : Value → Shared → Prop} {E : Value → Shared → Prop} (ok : C.Ok) (g : GV C x (.type T)) (ha : EvL C A Z σ es ps) (S : St C Z σ s)
    (h : ∀ vs s1, Ext s s1 → Reps s1.heap Z ps vs → wpAny C.M A (call (.type T) vs) Q E s1) : wpAny C.M A (eval (.Call (.Name x p) es [] pos) C.env) Q E s :=
  wpAny_Call_NameR (g _ _ _ _ _ (ok.mono _ _ ok.w0 S.keep) (PySem.callWith_type (evl_plain ha) (evArgsL ha S fun vs s1 X r1 => h vs s1 X r1)))

/-- ints from a on -/
noncomputable def rangeP (a : Int) (n : Nat) : List PV := (List.range n).map fun (i : Nat) => PV.int (a + i)
theorem rangeP_get {a : Int} {n i : Nat} {p : PV} (h : (rangeP a n)[i]? = some p) : p = .int (a + i) := by
  unfold rangeP at h
  rw [List.getElem?_map] at h
  cases q : (List.range n)[i]? with
  | none => rw [q] at h; cases h
  | some j =>
    rw [q] at h
    obtain ⟨h1, h2⟩ := List.getElem?_eq_some_iff.mp q
    simp only [List.getElem_range] at h2
    subst h2
    simp only [Option.map_some] at h
    cases h; rfl

theorem fresh_size {s : Shared} {b : Addr} (h : s.heap.objs.size ≤ b) : s.heap.get? b = none := by
  cases e : s.heap.get? b with
  | none => rfl
  | some o => exact absurd (Heap.lt_size e) (Nat.not_lt.mpr h)

theorem range_at {s s2 : Shared} {a : Int} {n : Nat} {x : Str} {px : Pos} {I : Addr} (ok : C.Ok) (hh : A.handled = none) (S : St C Z σ s) (X : Ext s s2) (hI : s.heap.get? I = none) (hit : IsRangeIter s2.heap I a n 1) : SrcAt C A Z Z (.Name x px) s (.ref I) s2 uncons (rangeP a n) := by
  have h0 : IsRangeIter s2.heap I (a + ((0 : Nat) : Int) * 1) ((n : Int) - ((0 : Nat) : Int)) 1 := by simpa using hit
  have W := Walks.range (prog := C.prog) (w := C.w) hh I a 1 n
  refine ⟨_, _, X, src_walks ok (S.ext X) (fun _ z => z) W (fun _ _ _ _ _ _ h => wpAny_pure h) (rangeP a n) (by simp [rangeP]) (fun i v p e q => ?_) (fun b hb => ?_) (fun i h b st hb => ?_) h0, fun b hb => ?_, ⟨0, Nat.zero_le _, rfl, h0, fun _ _ _ _ e => e⟩, fun l s Q E ⟨i, _, _, st, _⟩ h => W.self i s Q E st h⟩
  · rw [rangeP_get e]
    obtain ⟨t, rfl⟩ := q
    exact ⟨t, by rw [Int.mul_one]⟩
  · rw [List.mem_singleton] at hb; subst hb
    exact ⟨S.npriv ok hI, _, hit⟩
  · rw [List.mem_singleton] at hb; subst hb
    exact ⟨_, st, (by rintro ⟨_, _, q⟩; cases q), (by intro w q; cases q)⟩
  · rw [List.mem_singleton] at hb; subst hb
    exact ⟨hI, _, hit⟩

theorem range_go {s s1 : Shared} {a b : Int} {n : Nat} {t u v : Tok} {r : Addr} {x : Str} {px : Pos} {Q : Value → Shared → Prop} {E : Value → Shared → Prop} (ok : C.Ok) (hh : A.handled = none) (S : St C Z σ s) (X : Ext s s1) (hr : IsRange s1.heap r a b 1 t u v) (hn : b = a + n) (ha : -(2 ^ 62) ≤ a) (hb : b < 2 ^ 62)
    (hQ : ∀ it s', SrcAt C A Z Z (.Name x px) s it s' uncons (rangeP a n) → Q it s') : wpAny C.M A (pyIter (.ref r)) Q E s1 := by
  refine wpAny_pyIter_range hr (small_one ha (by omega) (by omega) hb) (hQ _ _ ?_)
  refine range_at ok hh S (X.trans (Ext.push s1 _)) (none_kp X.kp (size_none _)) ?_
  have e : Builtin.Range.rangeSize a b 1 = n := by rw [rangeSize_one]; split <;> omega
  rw [e]
  exact Heap.get?_push_size _ rfl

theorem iter_range1 {e : Expr} {n : Int} {k : Nat} {x : Str} {px p pos : Pos} (ok : C.Ok) (hh : A.handled = none) (g : GV C "range" (.type "range")) (h : EvL C A Z σ [e] [.int n]) (hn : n = k) (h1 : n < 2 ^ 62) : Iter C A Z σ (.Name x px) (.Call (.Name "range" p) [e] [] pos) uncons (rangeP 0 k) := by
  intro s Q E S hQ
  refine call_raw ok g h S fun vs s1 X r => ?_
  simp only [Reps, Rep] at r
  obtain ⟨v, r, rfl, ⟨t, rfl⟩, rfl⟩ := r
  exact call_range_1 (range_go ok hh S (X.trans (Ext.heap (fun _ _ e => Heap.get?_push_of_some _ e) _)) (IsRange.new _ _ _ _ _ _ _) (by omega) (by decide) h1 hQ)
theorem iter_list {e t : Expr} {k : RK} {xs : List PV} (ok : C.Ok) (hh : A.handled = none) (h : Ev C A Z σ e k (.list xs)) (hk : k ≠ .b) : Iter C A Z σ t e uncons xs := by
  intro s Q E S hQ
  refine h s _ E S fun v s1 X r => ?_
  have r' : Rep s1.heap Z (.list xs) v := by
    cases k with
    | b => exact absurd rfl hk
    | f => exact r
    | n => exact r.1
  simp only [Rep] at r'
  obtain ⟨l, vs, rfl, hl, hz, rs⟩ := r'
  refine wpAny_pyIter_list hl.isList (hQ _ _ ?_)
  have X2 := X.trans (Ext.push s1 { cls := .type "list_iterator", data := .fields #[.ref l, .int 0 0] })
  have S2 := S.ext X2
  have hit : Heap.IsListIter (s1.heap.push { cls := .type "list_iterator", data := .fields #[.ref l, .int 0 0] }) s1.heap.objs.size l 0 := ⟨_, Heap.get?_push_size _ rfl, rfl, rfl⟩
  have hlt : l < s1.heap.objs.size := let ⟨n, e⟩ := hl; Heap.lt_size e
  have W := Walks.list (prog := C.prog) (w := C.w) hh s1.heap.objs.size l (Nat.ne_of_lt hlt) vs.toArray
  have hI : s.heap.get? s1.heap.objs.size = none := none_kp X.kp (size_none _)
  have hl2 : Heap.IsList (s1.heap.push { cls := .type "list_iterator", data := .fields #[.ref l, .int 0 0] }) l vs.toArray := hl.isList.push _
  have h0 := And.intro hit hl2
  refine ⟨_, _, X2, src_walks ok S2 (fun _ z => z) W (fun i s v Q E st h => letGo_listiter st.1 h) xs (by rw [List.size_toArray, rs.length]) (fun i v p e q => ?_) (fun b hb => ?_) (fun i h b st hb => ?_) h0, fun b hb => ?_, ⟨0, Nat.zero_le _, rfl, h0, fun _ _ _ _ e => e⟩, fun l s Q E ⟨i, _, _, st, _⟩ h => W.self i s Q E st h⟩
  · obtain ⟨w, hw, rw'⟩ := (rs.kp (Ext.push s1 _).kp).get i e
    have : vs[i]? = some v := by simpa using q
    rw [hw] at this; cases this
    exact rw'
  · simp only [List.mem_cons, List.not_mem_nil, or_false] at hb
    rcases hb with rfl | rfl
    · exact ⟨S.npriv ok hI, _, Heap.get?_push_size _ rfl⟩
    · obtain ⟨n, e⟩ := hl
      exact ⟨(S.ext X).seq_npriv ok e ⟨_, _, rfl⟩ hz, _, Heap.get?_push_of_some _ e⟩
  · rw [List.mem_singleton] at hb; subst hb
    obtain ⟨⟨o, e, _, d⟩, _⟩ := st
    exact ⟨o, e, (by rintro ⟨_, _, q⟩; rw [d] at q; cases q), (by intro w q; rw [d] at q; cases q)⟩
  · rw [List.mem_singleton] at hb; subst hb
    exact ⟨hI, _, Heap.get?_push_size _ rfl⟩

/-- items with their places -/
noncomputable def enumL : Nat → List PV → List PV
  | _, [] => []
  | k, p :: ps => .tup [.int k, p] :: enumL (k + 1) ps
theorem enumL_length : ∀ (ps : List PV) (k : Nat), (enumL k ps).length = ps.length
  | [], _ => rfl
  | p :: ps, k => by simp [enumL, enumL_length ps]
theorem enumL_get : ∀ (ps : List PV) (k i : Nat), (enumL k ps)[i]? = (ps[i]?).map fun p => .tup [.int ((k + i : Nat) : Int), p]
  | [], _, _ => by simp [enumL]
  | p :: ps, k, 0 => by simp [enumL]
  | p :: ps, k, i + 1 => by simp only [enumL, List.getElem?_cons_succ, enumL_get ps]; rw [show k + 1 + i = k + (i + 1) by omega]

theorem enum_at {s s2 : Shared} {it : Addr} {fp : List Addr} {n : Nat} {P : Nat → Value → Prop} {St' : Nat → Heap → Prop} {es : List Expr} {k : Nat} {pos : Pos} {e : Addr} {ps : List PV} (ok : C.Ok) (S : St C Z σ s) (X : Ext s s2) (D : Draws C.prog C.w A.in1 it fp n P St') (hei : e ≠ it) (hef : e ∉ fp) (hif : it ∈ fp)
    (he0 : s.heap.get? e = none) (hi0 : s.heap.get? it = none) (he : IsEnum s2.heap e it 0 .none) (h0 : St' 0 s2.heap) (hn : ps.length = n) (hP : ∀ i v p, ps[i]? = some p → P i v → Rep s2.heap Z p v) (hfp : ∀ b ∈ fp, fpAll C Z s2.heap b)
    (hlo : ∀ i h, St' i h → ∃ o, h.get? it = some o ∧ ¬ SeqObj o ∧ ∀ w, o.data ≠ .cell w) : SrcAt C A Z Z (.Tuple es k pos) s (.ref e) s2 uncons (enumL 0 ps) := by
  have W := WalksT.enumerateD D e hei hef hif
  have S2 := S.ext X
  have nz : ∀ a, s.heap.get? a = none → ¬ Z a := fun a h z => by obtain ⟨o, q, _⟩ := S.zl a z; rw [h] at q; cases q
  have hs0 : (∃ old, IsEnum s2.heap e it ((0 : Nat) : Int) old) ∧ St' 0 s2.heap := ⟨⟨.none, by simpa using he⟩, h0⟩
  refine ⟨_, _, X, src_walksT ok S2 (fun _ z => z) W (enumL 0 ps) (by rw [enumL_length]; exact hn) (fun i vals p ep q => ?_) (fun b hb => ?_) (fun i h b st hb => ?_) hs0, fun b hb => ?_, ⟨0, Nat.zero_le _, rfl, hs0, fun _ _ _ _ e => e⟩, fun l s Q E ⟨i, _, _, st, _⟩ h => W.self i s Q E st h⟩
  · rw [enumL_get] at ep
    obtain ⟨t, v, hp, rfl⟩ := q
    cases ei : ps[i]? with
    | none => rw [ei] at ep; cases ep
    | some p' =>
      rw [ei] at ep; simp only [Option.map_some] at ep; cases ep
      exact ⟨_, rfl, .cons ⟨t, by simp⟩ (.one (hP i v p' ei hp))⟩
  · rcases List.mem_cons.mp hb with rfl | hb
    · exact ⟨S.npriv ok he0, _, he⟩
    · exact hfp b hb
  · simp only [List.mem_cons, List.not_mem_nil, or_false] at hb
    rcases hb with rfl | rfl
    · obtain ⟨⟨old, q⟩, _⟩ := st
      exact ⟨_, q, ⟨(by rintro ⟨_, _, q⟩; cases q), fun z => absurd z (nz _ he0)⟩, (by intro w q; cases q)⟩
    · obtain ⟨o, q1, q2, q3⟩ := hlo i h st.2
      exact ⟨o, q1, ⟨fun z => absurd z q2, fun z => absurd z (nz _ hi0)⟩, q3⟩
  · simp only [List.mem_cons, List.not_mem_nil, or_false] at hb
    rcases hb with rfl | rfl
    · exact ⟨he0, _, he⟩
    · obtain ⟨o, q1, _⟩ := hlo 0 _ h0
      exact ⟨hi0, o, q1⟩

theorem iter_enum_list {e : Expr} {xs : List PV} {es : List Expr} {k : Nat} {pt p pos : Pos} (ok : C.Ok) (hh : A.handled = none) (g : GV C "enumerate" (.type "enumerate")) (h : EvL C A Z σ [e] [.list xs]) : Iter C A Z σ (.Tuple es k pt) (.Call (.Name "enumerate" p) [e] [] pos) uncons (enumL 0 xs) := by
  intro s Q E S hQ
  refine call_raw ok g h S fun vs s1 X r => ?_
  simp only [Reps, Rep] at r
  obtain ⟨v, r, rfl, ⟨l, vs, rfl, hl, hz, rs⟩, rfl⟩ := r
  refine call_enumerate_list hl.isList fun h' he hit hsz hk => ?_
  refine wpAny_pyIter_enum he (hQ _ _ ?_)
  have X2 : Ext s { s1 with heap := h' } := X.trans (Ext.heap' hk)
  have hlt : l < s1.heap.objs.size := let ⟨n, e⟩ := hl; Heap.lt_size e
  have hne : l ≠ s1.heap.objs.size := Nat.ne_of_lt hlt
  have n1 : s.heap.get? s1.heap.objs.size = none := none_kp X.kp (size_none _)
  have D := Draws.list (prog := C.prog) (w := C.w) (A := A.in1) hh s1.heap.objs.size l hne vs.toArray
  have hl2 : h'.IsList l vs.toArray := (hl.at fun o e => hk l o e).isList
  refine enum_at ok S X2 D (Nat.succ_ne_self _) (fun q => by rcases List.mem_cons.mp q with q | q; exact absurd q (Nat.succ_ne_self _); exact absurd (List.mem_singleton.mp q) (Nat.ne_of_gt (Nat.lt_succ_of_lt hlt))) (by simp) (none_kp X.kp (fresh_size (Nat.le_succ _))) n1 he (And.intro hit hl2) (by rw [List.size_toArray, rs.length]) (fun i v p ei q => ?_) (fun b hb => ?_) (fun i h st => ?_)
  · obtain ⟨w, hw, rw'⟩ := (rs.kp hk).get i ei
    have : vs[i]? = some v := by simpa using q
    rw [hw] at this; cases this
    exact rw'
  · simp only [List.mem_cons, List.not_mem_nil, or_false] at hb
    rcases hb with rfl | rfl
    · obtain ⟨o, e, _⟩ := hit; exact ⟨S.npriv ok n1, o, e⟩
    · obtain ⟨n, e⟩ := hl
      exact ⟨(S.ext X).seq_npriv ok e ⟨_, _, rfl⟩ hz, _, hk _ _ e⟩
  · obtain ⟨⟨o, e, _, d⟩, _⟩ := st
    exact ⟨o, e, (by rintro ⟨_, _, q⟩; rw [d] at q; cases q), (by intro w q; rw [d] at q; cases q)⟩

/-- the characters of a text -/
noncomputable def charsP (x : Str) : List PV := x.cps.toList.map fun c => PV.str ⟨#[c]⟩
end
end Py

namespace Py

theorem cells_mem {x : Str} {c : Addr} : ∀ {ns : List (Str × NameKind)} {n : Nat} {acc : List (Str × Addr)}, (x, c) ∈ cellsFrom n ns acc → ((x, .cell) ∈ ns ∧ n ≤ c) ∨ (x, c) ∈ acc
  | [], _, _, h => .inr h
  | (y, k) :: r, n, acc, h => by
    unfold cellsFrom at h
    split at h
    · rename_i hk
      rw [beq_iff_eq] at hk
      subst hk
      rcases cells_mem h with ⟨q, q2⟩ | q
      · exact .inl ⟨.tail _ q, by omega⟩
      · rcases List.mem_cons.mp q with q | q
        · cases q; exact .inl ⟨.head _, Nat.le_refl _⟩
        · exact .inr q
    · rcases cells_mem h with ⟨q, q2⟩ | q
      · exact .inl ⟨.tail _ q, q2⟩
      · exact .inr q
theorem cells_acc {y : Str × Addr} : ∀ {ns : List (Str × NameKind)} {n : Nat} {acc : List (Str × Addr)}, y ∈ acc → y ∈ cellsFrom n ns acc
  | [], _, _, h => h
  | (z, k) :: r, n, acc, h => by
    unfold cellsFrom
    split
    · exact cells_acc (.tail _ h)
    · exact cells_acc h
theorem cells_ex {x : Str} : ∀ {ns : List (Str × NameKind)} {n : Nat} {acc : List (Str × Addr)}, (x, .cell) ∈ ns → ∃ c, (x, c) ∈ cellsFrom n ns acc
  | (y, k) :: r, n, acc, h => by
    rcases List.mem_cons.mp h with h | h
    · cases h
      refine ⟨n, ?_⟩
      unfold cellsFrom
      rw [if_pos (by decide)]
      exact cells_acc (.head _)
    · unfold cellsFrom
      split
      · exact cells_ex h
      · exact cells_ex h
theorem cells_names : ∀ {ns : List (Str × NameKind)} {n : Nat} {acc : List (Str × Addr)}, (ns.map (·.1)).Nodup → (acc.map (·.1)).Nodup → (∀ y ∈ acc, (y.1, NameKind.cell) ∉ ns) → ((cellsFrom n ns acc).map (·.1)).Nodup
  | [], _, _, _, h, _ => h
  | (y, k) :: r, n, acc, h1, h2, h3 => by
    rw [List.map_cons, List.nodup_cons] at h1
    unfold cellsFrom
    split
    · rename_i hk
      rw [beq_iff_eq] at hk
      subst hk
      refine cells_names h1.2 ?_ fun z hz q => ?_
      · rw [List.map_cons, List.nodup_cons]
        refine ⟨fun q => ?_, h2⟩
        obtain ⟨z, hz, e⟩ := List.mem_map.mp q
        exact h3 z hz (by rw [e]; exact .head _)
      · rcases List.mem_cons.mp hz with rfl | hz
        · exact h1.1 (List.mem_map.mpr ⟨_, q, rfl⟩)
        · exact h3 z hz (.tail _ q)
    · exact cells_names h1.2 h2 fun z hz q => h3 z hz (.tail _ q)
theorem cells_apart : ∀ {ns : List (Str × NameKind)} {n : Nat} {acc : List (Str × Addr)}, (acc.Pairwise fun x y => x.2 ≠ y.2) → (∀ y ∈ acc, y.2 < n) → (cellsFrom n ns acc).Pairwise fun x y => x.2 ≠ y.2
  | [], _, _, h, _ => h
  | (y, k) :: r, n, acc, h1, h2 => by
    unfold cellsFrom
    split
    · refine cells_apart (List.pairwise_cons.mpr ⟨fun z hz => Nat.ne_of_gt (h2 z hz), h1⟩) fun z hz => ?_
      rcases List.mem_cons.mp hz with rfl | hz
      · exact Nat.lt_succ_self _
      · exact Nat.lt_succ_of_lt (h2 z hz)
    · exact cells_apart h1 h2
theorem lookup_of_mem {α : Type} {x : Str} {c : α} : ∀ {l : List (Str × α)}, (l.map (·.1)).Nodup → (x, c) ∈ l → l.lookup x = some c
  | (y, d) :: r, h, m => by
    rw [List.map_cons, List.nodup_cons] at h
    rcases List.mem_cons.mp m with q | q
    · cases q; simp
    · have : x ≠ y := fun e => h.1 (e ▸ List.mem_map.mpr ⟨_, q, rfl⟩)
      rw [List.lookup_cons, show (x == y) = false by simpa using this]
      exact lookup_of_mem h.2 q

/-- the cells that a comprehension takes from around it -/
noncomputable def closL (cs : List (Str × Addr)) : List (Str × NameKind) → List (Str × Addr) → List (Str × Addr)
  | [], acc => acc
  | (x, k) :: r, acc => if k == .free then closL cs r ((x, (cs.lookup x).getD 0) :: acc) else closL cs r acc
theorem clos_eq {scope : Scope} {env : Env} (h : ∀ x, (x, NameKind.free) ∈ scope.names → (env.cells.lookup x).isSome = true) : closureFor scope env = pure (closL env.cells scope.names []) := by
  unfold closureFor
  generalize ([] : List (Str × Addr)) = acc
  revert h
  generalize scope.names = ns
  intro h
  suffices H : ∀ (ns : List (Str × NameKind)) (acc : List (Str × Addr)), (∀ x, (x, NameKind.free) ∈ ns → (env.cells.lookup x).isSome = true) →
      (forIn ns acc fun (p : Str × NameKind) (cs : List (Str × Addr)) => do
        if p.2 == .free then
          let a ← cellOf env p.1
          pure (ForInStep.yield ((p.1, a) :: cs))
        else pure (ForInStep.yield cs) : Sem (List (Str × Addr))) = pure (closL env.cells ns acc) by
    have := H ns acc h
    simp only [bind_pure]
    exact this
  intro ns
  induction ns with
  | nil => intro acc _; rfl
  | cons p r ih =>
    obtain ⟨x, k⟩ := p
    intro acc h
    rw [List.forIn_cons]
    unfold closL
    cases hk : (k == NameKind.free) with
    | true =>
      have e : k = .free := by simpa using hk
      subst e
      have hs := h x (.head _)
      cases hl : env.cells.lookup x with
      | none => rw [hl] at hs; cases hs
      | some c =>
        have e2 : cellOf env x = pure c := by unfold cellOf; rw [hl]
        simp only [if_true, e2, pure_bind, Option.getD_some]
        exact ih _ fun y hy => h y (.tail _ hy)
    | false =>
      simp only [Bool.false_eq_true, if_false, pure_bind]
      exact ih _ fun y hy => h y (.tail _ hy)
theorem clos_mem {cs : List (Str × Addr)} {x : Str} {c : Addr} : ∀ {ns : List (Str × NameKind)} {acc : List (Str × Addr)}, (x, c) ∈ closL cs ns acc → ((x, .free) ∈ ns ∧ c = (cs.lookup x).getD 0) ∨ (x, c) ∈ acc
  | [], _, h => .inr h
  | (y, k) :: r, acc, h => by
    unfold closL at h
    split at h
    · rename_i hk
      rw [beq_iff_eq] at hk
      subst hk
      rcases clos_mem h with ⟨q, q2⟩ | q
      · exact .inl ⟨.tail _ q, q2⟩
      · rcases List.mem_cons.mp q with q | q
        · cases q; exact .inl ⟨.head _, rfl⟩
        · exact .inr q
    · rcases clos_mem h with ⟨q, q2⟩ | q
      · exact .inl ⟨.tail _ q, q2⟩
      · exact .inr q
theorem clos_acc {cs : List (Str × Addr)} {y : Str × Addr} : ∀ {ns : List (Str × NameKind)} {acc : List (Str × Addr)}, y ∈ acc → y ∈ closL cs ns acc
  | [], _, h => h
  | (z, k) :: r, acc, h => by
    unfold closL
    split
    · exact clos_acc (.tail _ h)
    · exact clos_acc h
theorem clos_ex {cs : List (Str × Addr)} {x : Str} : ∀ {ns : List (Str × NameKind)} {acc : List (Str × Addr)}, (x, .free) ∈ ns → (x, (cs.lookup x).getD 0) ∈ closL cs ns acc
  | (y, k) :: r, acc, h => by
    rcases List.mem_cons.mp h with h | h
    · cases h
      unfold closL
      rw [if_pos (by decide)]
      exact clos_acc (.head _)
    · unfold closL
      split
      · exact clos_ex h
      · exact clos_ex h
theorem clos_names {cs : List (Str × Addr)} : ∀ {ns : List (Str × NameKind)} {acc : List (Str × Addr)}, (ns.map (·.1)).Nodup → (acc.map (·.1)).Nodup → (∀ y ∈ acc, y.1 ∉ ns.map (·.1)) → ((closL cs ns acc).map (·.1)).Nodup
  | [], _, _, h, _ => h
  | (y, k) :: r, acc, h1, h2, h3 => by
    rw [List.map_cons, List.nodup_cons] at h1
    unfold closL
    split
    · refine clos_names h1.2 ?_ fun z hz q => ?_
      · rw [List.map_cons, List.nodup_cons]
        refine ⟨fun q => ?_, h2⟩
        obtain ⟨z, hz, e⟩ := List.mem_map.mp q
        exact h3 z hz (by rw [List.map_cons, e]; exact .head _)
      · rcases List.mem_cons.mp hz with rfl | hz
        · exact h1.1 q
        · exact h3 z hz (.tail _ q)
    · exact clos_names h1.2 h2 fun z hz q => h3 z hz (.tail _ q)
theorem clos_apart {cs : List (Str × Addr)} (hp : cs.Pairwise fun x y => x.2 ≠ y.2) : ∀ {ns : List (Str × NameKind)} {acc : List (Str × Addr)}, (ns.map (·.1)).Nodup → (∀ x, (x, NameKind.free) ∈ ns → (cs.lookup x).isSome = true) → (acc.Pairwise fun x y => x.2 ≠ y.2) → (∀ y ∈ acc, cs.lookup y.1 = some y.2 ∧ y.1 ∉ ns.map (·.1)) → (closL cs ns acc).Pairwise fun x y => x.2 ≠ y.2
  | [], _, _, _, h, _ => h
  | (y, k) :: r, acc, h1, hs, h2, h3 => by
    rw [List.map_cons, List.nodup_cons] at h1
    unfold closL
    split
    · rename_i hk
      rw [beq_iff_eq] at hk
      subst hk
      have hy := hs y (.head _)
      obtain ⟨c, hc⟩ := Option.isSome_iff_exists.mp hy
      refine clos_apart hp h1.2 (fun z hz => hs z (.tail _ hz)) (List.pairwise_cons.mpr ⟨fun z hz => ?_, h2⟩) fun z hz => ?_
      · rw [hc]
        exact lookup_ne hp (fun e => (h3 z hz).2 (by rw [← e]; exact .head _)) hc (h3 z hz).1
      · rcases List.mem_cons.mp hz with rfl | hz
        · exact ⟨by rw [hc]; rfl, h1.1⟩
        · exact ⟨(h3 z hz).1, fun q => (h3 z hz).2 (.tail _ q)⟩
    · exact clos_apart hp h1.2 (fun z hz => hs z (.tail _ hz)) h2 fun z hz => ⟨(h3 z hz).1, fun q => (h3 z hz).2 (.tail _ q)⟩
end Py

namespace Py

noncomputable def compEnv' (scope : Scope) (env : Env) (L : Addr) : Env := compEnvC scope (cellsFrom (L + 1) scope.names (closL env.cells scope.names [])) L env
noncomputable def compCx (C : Cx) (scope : Scope) (vs' : List Str) (L : Addr) : Cx := { C with env := compEnv' scope C.env L, vs := vs' }

noncomputable def compChk (scope : Scope) (env : Env) (ts fs : List Str) (t : Expr) : Bool :=
  scope.kind == .function && env.scope.kind == .function && decide ((ts ++ fs).Nodup) && (ts ++ fs).all (fun x => !(x == ("__debug__" : Str)))
  && ts.all (fun x => scope.names.lookup x == some .local || scope.names.lookup x == some .cell)
  && fs.all (fun x => scope.names.lookup x == some .free && env.kindOf x == some .cell)
  && scope.names.all (fun p => (p.2 != .cell || ts.contains p.1) && (p.2 != .free || fs.contains p.1))
  && decide (scope.names.map (·.1)).Nodup && (tnames t).all (fun x => ts.contains x)

structure CompChk (scope : Scope) (env : Env) (ts fs : List Str) (t : Expr) : Prop where
  k1 : scope.kind = .function
  k2 : env.scope.kind = .function
  nd : (ts ++ fs).Nodup
  nb : ∀ x ∈ ts ++ fs, (x == ("__debug__" : Str)) = false
  hts : ∀ x ∈ ts, scope.names.lookup x = some .local ∨ scope.names.lookup x = some .cell
  hfs : ∀ x ∈ fs, scope.names.lookup x = some .free ∧ env.kindOf x = some .cell
  n1 : ∀ x, (x, NameKind.cell) ∈ scope.names → x ∈ ts
  n2 : ∀ x, (x, NameKind.free) ∈ scope.names → x ∈ fs
  nn : (scope.names.map (·.1)).Nodup
  tn : ∀ x ∈ tnames t, x ∈ ts

theorem compChk_of {scope : Scope} {env : Env} {ts fs : List Str} {t : Expr} (h : compChk scope env ts fs t = true) : CompChk scope env ts fs t := by
  unfold compChk at h
  simp only [Bool.and_eq_true, List.all_eq_true, Bool.or_eq_true, beq_iff_eq, decide_eq_true_eq, bne_iff_ne, ne_eq, List.contains_iff_mem] at h
  obtain ⟨⟨⟨⟨⟨⟨⟨⟨h1, h2⟩, h3⟩, h4⟩, h5⟩, h6⟩, h7⟩, h8⟩, h9⟩ := h
  refine ⟨h1, h2, h3, fun x hx => by simpa using h4 x hx, h5, h6, fun x hx => ?_, fun x hx => ?_, h8, h9⟩
  · exact (h7 _ hx).1.resolve_left (by simp)
  · exact (h7 _ hx).2.resolve_left (by simp)

theorem lookup_map (f : Str → NameKind → NameKind) (x : Str) : ∀ ns : List (Str × NameKind), (ns.map fun p => (p.1, f p.1 p.2)).lookup x = (ns.lookup x).map (f x)
  | [] => rfl
  | (y, k) :: r => by
    rw [List.map_cons, List.lookup_cons, List.lookup_cons]
    cases h : x == y with
    | true => rw [beq_iff_eq] at h; subst h; rfl
    | false => exact lookup_map f x r
theorem relabel_kind {scope : Scope} {env : Env} (x : Str) : (relabel scope env).names.lookup x = (scope.names.lookup x).map fun k => if (k == .free && env.scope.kind == .function && env.kindOf x == some .cell) then .cell else k := by
  rw [← lookup_map (fun x k => if (k == .free && env.scope.kind == .function && env.kindOf x == some .cell) then NameKind.cell else k)]
  unfold relabel
  congr 1
  refine List.map_congr_left fun p _ => ?_
  obtain ⟨n, k⟩ := p
  dsimp only
  split <;> rfl

theorem clos_lookup {C : Cx} {scope : Scope} {ts fs : List Str} {t : Expr} (ok : C.Ok) (K : CompChk scope C.env ts fs t) (hfs : ∀ x ∈ fs, x ∈ C.vs) {x : Str} (hx : x ∈ fs) : ∃ c, C.env.cells.lookup x = some c := by
  rcases ok.loc x (hfs x hx) with q | ⟨c, q, _⟩
  · rw [(K.hfs x hx).2] at q; cases q
  · exact ⟨c, q⟩

section
variable {C : Cx} {scope : Scope} {ts fs : List Str} {t : Expr} {L : Addr}

theorem comp_cells (ok : C.Ok) (K : CompChk scope C.env ts fs t) (hfs : ∀ x ∈ fs, x ∈ C.vs) {x : Str} {c : Addr} (h : (x, c) ∈ (compEnv' scope C.env L).cells) :
    ((x, NameKind.cell) ∈ scope.names ∧ L + 1 ≤ c) ∨ (x ∈ fs ∧ C.env.cells.lookup x = some c) := by
  rcases cells_mem h with q | q
  · exact .inl q
  · rcases clos_mem q with ⟨q1, e1⟩ | q
    · have hx := K.n2 x q1
      obtain ⟨c', hc⟩ := clos_lookup ok K hfs hx
      rw [hc] at e1
      exact .inr ⟨hx, by rw [hc, e1]; rfl⟩
    · cases q
theorem comp_names (K : CompChk scope C.env ts fs t) : ((compEnv' scope C.env L).cells.map (·.1)).Nodup := by
  refine cells_names K.nn (clos_names K.nn List.nodup_nil (fun _ h => by cases h)) fun y hy q => ?_
  rcases clos_mem (x := y.1) (c := y.2) hy with ⟨q1, _⟩ | q1
  · have e1 := lookup_of_mem K.nn q
    have e2 := lookup_of_mem K.nn q1
    rw [e1] at e2; cases e2
  · cases q1

/-- the kinds of a comprehension's names -/
theorem comp_kind_t (K : CompChk scope C.env ts fs t) {x : Str} (hx : x ∈ ts) : (compEnv' scope C.env L).kindOf x = some .local ∨ ((compEnv' scope C.env L).kindOf x = some .cell ∧ (x, NameKind.cell) ∈ scope.names) := by
  have e : (compEnv' scope C.env L).kindOf x = _ := relabel_kind (scope := scope) (env := C.env) x
  rcases K.hts x hx with h | h
  · left; rw [e, h]; rfl
  · right; refine ⟨?_, mem_of_lookup h⟩; rw [e, h]; rfl
theorem comp_kind_f (K : CompChk scope C.env ts fs t) {x : Str} (hx : x ∈ fs) : (compEnv' scope C.env L).kindOf x = some .cell := by
  have e : (compEnv' scope C.env L).kindOf x = _ := relabel_kind (scope := scope) (env := C.env) x
  obtain ⟨h1, h2⟩ := K.hfs x hx
  rw [e, h1, K.k2, h2]; rfl
theorem comp_cell_f (ok : C.Ok) (K : CompChk scope C.env ts fs t) (hfs : ∀ x ∈ fs, x ∈ C.vs) {x : Str} {c : Addr} (hx : x ∈ fs) (hc : C.env.cells.lookup x = some c) : (compEnv' scope C.env L).cells.lookup x = some c := by
  refine lookup_of_mem (comp_names K) (cells_acc ?_)
  have := clos_ex (cs := C.env.cells) (acc := []) (mem_of_lookup (K.hfs x hx).1)
  rw [hc] at this
  exact this
theorem comp_cell_t (K : CompChk scope C.env ts fs t) {x : Str} (hx : (x, NameKind.cell) ∈ scope.names) : ∃ c, (compEnv' scope C.env L).cells.lookup x = some c ∧ L + 1 ≤ c := by
  obtain ⟨c, hc⟩ := cells_ex (n := L + 1) (acc := closL C.env.cells scope.names []) hx
  refine ⟨c, lookup_of_mem (comp_names K) hc, ?_⟩
  rcases cells_mem hc with ⟨_, q⟩ | q
  · exact q
  · rcases clos_mem q with ⟨q, _⟩ | q
    · have e1 := lookup_of_mem K.nn q
      have e2 := lookup_of_mem K.nn hx
      rw [e1] at e2; cases e2
    · cases q

theorem comp_ok (ok : C.Ok) (K : CompChk scope C.env ts fs t) (hfs : ∀ x ∈ fs, x ∈ C.vs) (hL : ∀ b, L ≤ b → C.h₀.get? b = none) (hC : ∀ x ∈ C.env.cells, x.2 < L) : (compCx C scope (ts ++ fs) L).Ok where
  mono := ok.mono
  w0 := ok.w0
  lim := ok.lim
  fk := K.k1
  nodup := K.nd
  nodbg := K.nb
  loc := fun x hx => by
    rcases List.mem_append.mp hx with h | h
    · rcases comp_kind_t (L := L) K h with q | ⟨q, q2⟩
      · exact .inl q
      · obtain ⟨c, hc, _⟩ := comp_cell_t (L := L) K q2
        exact .inr ⟨c, hc, .inl q⟩
    · obtain ⟨c, hc⟩ := clos_lookup ok K hfs h
      exact .inr ⟨c, comp_cell_f ok K hfs h hc, .inl (comp_kind_f K h)⟩
  apart := by
    refine cells_apart (clos_apart ok.apart K.nn (fun x hx => ?_) List.Pairwise.nil (fun _ h => by cases h)) fun y hy => ?_
    · obtain ⟨c, hc⟩ := clos_lookup ok K hfs (K.n2 x hx); rw [hc]; rfl
    · rcases clos_mem (x := y.1) (c := y.2) hy with ⟨q, e⟩ | q
      · obtain ⟨c, hc⟩ := clos_lookup ok K hfs (K.n2 _ q)
        rw [e, hc]
        exact Nat.lt_succ_of_lt (hC _ (mem_of_lookup hc))
      · cases q
  newL := hL _ (Nat.le_refl _)
  newC := fun x hx => by
    rcases comp_cells (x := x.1) (c := x.2) ok K hfs hx with ⟨_, q⟩ | ⟨_, q⟩
    · exact hL _ (Nat.le_of_succ_le q)
    · exact ok.newC _ (mem_of_lookup q)
  cov := fun x hx => by
    refine ⟨?_, ?_, lookup_of_mem (comp_names K) hx⟩
    · rcases comp_cells (x := x.1) (c := x.2) ok K hfs hx with ⟨q, _⟩ | ⟨q, _⟩
      · exact List.mem_append_left _ (K.n1 _ q)
      · exact List.mem_append_right _ q
    · rcases comp_cells (x := x.1) (c := x.2) ok K hfs hx with ⟨q, _⟩ | ⟨q, _⟩
      · have e : (compEnv' scope C.env L).kindOf x.1 = _ := relabel_kind (scope := scope) (env := C.env) x.1
        show (compEnv' scope C.env L).kindOf x.1 ≠ _
        rw [e, lookup_of_mem K.nn q]; simp
      · show (compEnv' scope C.env L).kindOf x.1 ≠ _
        rw [comp_kind_f K q]; decide
end

/-- what a comprehension takes from around it -/
inductive Caps (C : Cx) (σ : List LV) : List Str → List LV → Prop
  | nil : Caps C σ [] []
  | cons {x : Str} {j : Nat} {l : LV} {xs : List Str} {ls : List LV} : At C.vs j x → σ[j]? = some l → Caps C σ xs ls → Caps C σ (x :: xs) (l :: ls)
theorem Caps.mem {C : Cx} {σ : List LV} : ∀ {fs : List Str} {ls : List LV}, Caps C σ fs ls → ∀ x ∈ fs, x ∈ C.vs := by
  intro fs ls c x h
  induction c with
  | nil => cases h
  | cons a _ r ih =>
    rcases List.mem_cons.mp h with rfl | h
    · exact a.mem
    · exact ih h

theorem comp_st {C : Cx} {scope : Scope} {ts fs : List Str} {t : Expr} {L : Addr} {Z : Addr → Prop} {σ fls : List LV} {s : Shared} {m : Str → Option Value} (ok : C.Ok) (K : CompChk scope C.env ts fs t) (caps : Caps C σ fs fls) (hnd : (owns fls).Nodup)
    (S : St C Z σ s) (hn : s.heap.Ns L m) (hc : ∀ x c, (x, NameKind.cell) ∈ scope.names → (compEnv' scope C.env L).cells.lookup x = some c → ∃ w, s.heap.IsCell c w) :
    St (compCx C scope (ts ++ fs) L) Z (ts.map (fun _ => .unb) ++ fls) s := by
  have ow : owns (ts.map (fun _ => LV.unb) ++ fls) = owns fls := by
    clear K hc
    induction ts with
    | nil => rfl
    | cons x r ih => exact ih
  refine ⟨S.keep, S.zf, S.zl, by rw [ow]; exact hnd, m, hn, ?_⟩
  have hfs := caps.mem
  have F : ∀ {xs : List Str} {ls : List LV}, (∀ x ∈ xs, x ∈ fs) → Caps C σ xs ls → Vars (compEnv' scope C.env L) s.heap Z m xs ls := by
    intro xs
    induction xs with
    | nil => intro ls _ c; cases c; trivial
    | cons x xs ih =>
      intro ls hx c
      cases c with
      | @cons _ j l _ ls a e r =>
        refine ⟨?_, ih (fun y hy => hx y (.tail _ hy)) r⟩
        obtain ⟨m0, _, V⟩ := S.vars
        have V := V.get a e
        have hxf := hx x (.head _)
        have kc := comp_kind_f (L := L) K hxf
        have kn : (compEnv' scope C.env L).kindOf x ≠ some .local := by rw [kc]; decide
        have ko : C.env.kindOf x ≠ some .local := by rw [(K.hfs x hxf).2]; decide
        have va : ∀ v, VarAt C.env s.heap m0 x v → VarAt (compEnv' scope C.env L) s.heap m x v := by
          rintro v (⟨q, _⟩ | ⟨_, c, q1, q2⟩)
          · exact absurd q ko
          · exact .inr ⟨kn, c, comp_cell_f ok K hfs hxf q1, q2⟩
        cases l with
        | unb =>
          intro _ c hc
          obtain ⟨c', hc'⟩ := clos_lookup ok K hfs hxf
          have := comp_cell_f (L := L) ok K hfs hxf hc'
          rw [this] at hc; cases hc
          exact V ko c hc'
        | v p => obtain ⟨v, h1, h2⟩ := V; exact ⟨v, va v h1, h2⟩
        | own b xs => obtain ⟨h1, h2⟩ := V; exact ⟨va _ h1, h2⟩
  have G : ∀ {xs : List Str}, (∀ x ∈ xs, x ∈ ts) → Vars (compEnv' scope C.env L) s.heap Z m (xs ++ fs) (xs.map (fun _ => .unb) ++ fls) := by
    intro xs
    induction xs with
    | nil => intro _; exact F (fun _ h => h) caps
    | cons x xs ih =>
      intro hx
      refine ⟨fun hk c hcl => ?_, ih fun y hy => hx y (.tail _ hy)⟩
      rcases comp_kind_t (L := L) K (hx x (.head _)) with q | ⟨_, q⟩
      · exact absurd q hk
      · exact hc x c q hcl
  exact G fun _ h => h
end Py

namespace Py

section
variable {prog : Program} {w : World} {A : Around} {R : Result → Shared → Prop} {s : Shared}
theorem codeAny_compLoop_any {elt target iter : Expr} {ifs : List Expr} {scope : Scope} {pos : Pos} {it acc : Value} {env : Env} (I : Nat → Shared → Prop)
    (turn : ∀ n s, I n s → wpAny (model prog w) A (pyNext it) (fun r s₁ => match r with
      | none => R (.ok .next) s₁
      | some v => wpAny (model prog w) A (letOwnedTupleGo target it v) (fun _ s₁' => wpAny (model prog w) A (assign target env v) (fun _ s₂ =>
          wpAny (model prog w) A (forIn ifs true fun c r => if r = true then do let ok ← isTrue c env (eval c env); pure (ForInStep.yield ok) else pure (ForInStep.yield r)) (fun ok s₃ =>
            if ok = true then wpAny (model prog w) A (eval elt env) (fun x s₄ =>
              wpAny (model prog w) A (call (.builtin "list.append") [acc, x]) (fun _ s₅ => ∃ m, m < n ∧ I m s₅) (notedBy (model prog w) A env fun e s' => R (.error e) s') s₄) (notedBy (model prog w) A env fun e s' => R (.error e) s') s₃
            else ∃ m, m < n ∧ I m s₃) (notedBy (model prog w) A env fun e s' => R (.error e) s') s₂) (notedBy (model prog w) A env fun e s' => R (.error e) s') s₁') (notedBy (model prog w) A env fun e s' => R (.error e) s') s₁) (notedBy (model prog w) A env fun e s' => R (.error e) s') s)
    (n : Nat) (h : I n s) :
    codeAny (model prog w) A (.compLoop (.ListComp elt [⟨target, iter, ifs, 0⟩] scope pos) 0 it acc env) R s := by
  refine codeAny_loop rfl I (fun n s hI => ?_) n h
  show wpAny _ A ((compTurn (.ListComp elt [⟨target, iter, ifs, 0⟩] scope pos) 0 it acc env).onRaise (fun x => do noteFrame x env; theTreesLotGoes x)) _ _ s
  refine wpAny_noted ?_
  rw [compTurn_list]
  refine wpAny_bind (wpAny_standAt (wpAny_bind (wpAny_mono (turn n s hI) (fun r s₁ h₁ => ?_) fun _ _ h' => h')))
  cases r with
  | none => exact wpAny_pure h₁
  | some v =>
    refine wpAny_bind (wpAny_mono h₁ (fun _ s₁' h₁ => ?_) fun _ _ h' => h')
    refine wpAny_bind (wpAny_mono h₁ (fun _ s₂ h₂ => wpAny_bind (wpAny_mono h₂ (fun ok s₃ h₃ => ?_) fun _ _ h' => h')) fun _ _ h' => h')
    cases ok with
    | false => exact wpAny_pure ⟨rfl, h₃⟩
    | true =>
      exact wpAny_bind (wpAny_bind (wpAny_mono h₃ (fun x s₄ h₄ => wpAny_bind (wpAny_mono h₄ (fun _ s₅ h₅ => wpAny_pure (wpAny_pure ⟨rfl, h₅⟩)) fun _ _ h' => h')) fun _ _ h' => h'))

theorem newEnv_comp {M : Model} {E : Value → Shared → Prop} {scope : Scope} {G : Addr} {cl : List (Str × Addr)} {q : Str} {env : Env} {Q : Env → Shared → Prop}
    (h : Q { scope, locals := s.heap.objs.size, globals := G, cells := cellsFrom (s.heap.objs.size + 1) scope.names cl, qual := q, func := none, code := env.code, frame := env.frame, builtins := env.builtins } { s with heap := pushCells (s.heap.push { cls := .type "dict", data := .dict #[] }) scope.names }) :
    wpAny M A (newFunctionEnv scope G cl [] q none .none (some env)) Q E s := by
  simp only [newFunctionEnv, Option.isSome_some, if_true]
  refine wpAny_bind (wpAny_alloc ?_)
  refine wpAny_bind (wpAny_layCells _ (fun name kind cells => by cases hkc : kind == NameKind.cell <;> simp [hkc]) _ _ _ _ ?_)
  rw [show ({ s with heap := s.heap.push { cls := .type "dict", data := .dict #[] } } : Shared).heap.objs.size = s.heap.objs.size + 1 from Heap.size_push ..]
  rw [List.forIn_nil]
  exact wpAny_bind (wpAny_pure (wpAny_pure h))
end

theorem St.mv' {C : Cx} {Z : Addr → Prop} {σ : List LV} {s s' : Shared} (S : St C Z σ s) (keep : Kp C.h₀ s'.heap) (Hs : ∀ b o, s.heap.get? b = some o → SeqObj o → ¬ Z b → s'.heap.get? b = some o) (Hc : ∀ b o w, s.heap.get? b = some o → o.data = .cell w → s'.heap.get? b = some o)
    (Hl : ∀ o, s.heap.get? C.env.locals = some o → s'.heap.get? C.env.locals = some o) (Ho : ∀ b ∈ owns σ, ∀ o, s.heap.get? b = some o → s'.heap.get? b = some o) (Hz : ∀ a, Z a → ∃ o, s'.heap.get? a = some o ∧ SeqObj o) : St C Z σ s' := by
  obtain ⟨m, hn, V⟩ := S.vars
  have hc : ∀ c w, s.heap.IsCell c w → s'.heap.IsCell c w := fun c w ⟨o, e, d⟩ => ⟨o, Hc c o w e d, d⟩
  refine ⟨keep, S.zf, Hz, S.nd, m, ?_, V.chg hc (fun a o e q z => ⟨Hs a o e q z, z⟩) fun a ys e => ⟨V.ownZ a ys e, fun o eo => Ho a (owns_mem e) o eo⟩⟩
  obtain ⟨o, es, ep, e, r⟩ := hn; exact ⟨o, es, ep, Hl o e, r⟩

/-- the tests of a comprehension -/
noncomputable def Tsts (C : Cx) (A : Around) (Z : Addr → Prop) (σ : List LV) : List Expr → Bool → Prop
  | [], b => b = true
  | [c], b => Tst C A Z σ c b
  | _, _ => False
theorem tsts_run {C : Cx} {A : Around} {Z : Addr → Prop} {σ : List LV} {ifs : List Expr} {b : Bool} {s : Shared} {Q : Bool → Shared → Prop} {E : Value → Shared → Prop} (h : Tsts C A Z σ ifs b) (S : St C Z σ s) (hQ : ∀ s', Ext s s' → Q b s') :
    wpAny C.M A (forIn ifs true fun c r => if r = true then do let ok ← isTrue c C.env (eval c C.env); pure (ForInStep.yield ok) else pure (ForInStep.yield r)) Q E s := by
  match ifs, h with
  | [], h =>
    rw [List.forIn_nil]
    have h : b = true := h
    subst h
    exact wpAny_pure (hQ s (.refl s))
  | [c], h =>
    simp only [List.forIn_cons, List.forIn_nil, if_true]
    have h : Tst C A Z σ c b := h
    exact wpAny_bind (wpAny_bind (h s _ E S fun s1 X => wpAny_pure (wpAny_pure (hQ s1 X))))

/-- a comprehension's turns -/
noncomputable def WC (C : Cx) (A : Around) (t : Expr) (ifs : List Expr) (elt : Expr) (Z : Addr → Prop) : List PV → List LV → List PV → Prop
  | [], _, out => out = []
  | p :: ps, σ, out => ∃ σ', Tgt C t p σ σ' ∧ ∃ b, Tsts C A Z σ' ifs b ∧ (b = true → ∃ q r, Ev C A Z σ' elt .f q ∧ WC C A t ifs elt Z ps σ' r ∧ out = q :: r) ∧ (b = false → WC C A t ifs elt Z ps σ' out)

theorem Tgt.owns {C : Cx} {t : Expr} {p : PV} {σ σ' : List LV} (T : Tgt C t p σ σ') : ∀ a, a ∈ Py.owns σ' → a ∈ Py.owns σ := by
  cases T with
  | name hi => exact fun a h => (owns_set σ _ (by intro a xs q; cases q)).subset h
  | pair hi hj => exact fun a h => (owns_set σ _ (by intro a xs q; cases q)).subset ((owns_set _ _ (by intro a xs q; cases q)).subset h)

section
variable {C : Cx} {A : Around} {Z : Addr → Prop} {σ : List LV}

inductive CompInv (C C' : Cx) (A : Around) (Z₁ : Addr → Prop) (t elt : Expr) (ifs : List Expr) (D : Addr) (I : List PV → Shared → Prop) (wr : Addr → Prop) (s₀ : Shared) (hs : Heap) (out : List PV) (n : Nat) (s : Shared) : Prop
  | mk (ps : List PV) (σ' : List LV) (vs : Array Value) (o1 o2 : List PV) (e : n = ps.length) (hI : I ps s) (S : St C' (ins D Z₁) σ' s) (X : Ext s₀ s) (hk : ∀ b o, ¬ wr b → hs.get? b = some o → s.heap.get? b = some o) (hl : ∀ b, s.heap.get? b = none → hs.get? b = none) (how : ∀ a ∈ owns σ', ∃ o, s₀.heap.get? a = some o) (hacc : s.heap.PlainList D vs) (hr : Reps s.heap (ins D Z₁) o1 vs.toList)
    (hw : WC C' A t ifs elt (ins D Z₁) ps σ' o2) (ho : out = o1 ++ o2) : CompInv C C' A Z₁ t elt ifs D I wr s₀ hs out n s
theorem comp_loop {C' : Cx} {Z₁ : Addr → Prop} {t iter elt : Expr} {ifs : List Expr} {scope : Scope} {pos : Pos} {it : Value} {wr : Addr → Prop} {s₀ : Shared} {hs : Heap} {I : List PV → Shared → Prop} {D L : Addr} {R : Result → Shared → Prop} {ps out : List PV} {σ' : List LV} {s : Shared} (ok' : C'.Ok) (hA : A.handled = none) (eM : C'.M = C.M)
    (hL : C'.env.locals = L) (S₀ : St C Z σ s₀) (hZ : ∀ a, Z₁ a → Z a ∨ s₀.heap.get? a = none)
    (src : Src C.M A t it (fpAll C Z hs) wr s₀.gens.size hs Z₁ uncons I) (hwr : ∀ b, wr b → s₀.heap.get? b = none ∧ ∃ o, hs.get? b = some o) (hh : ∀ b, hs.get? b = none → s₀.heap.get? b = none)
    (hD : hs.get? D = none) (hLf : hs.get? L = none) (hDL : D ≠ L) (hcell : ∀ x ∈ tnames t, ∀ c, C'.env.cells.lookup x = some c → hs.get? c = none ∧ c ≠ D)
    (hk0 : Kp C'.h₀ s₀.heap) (how : ∀ a ∈ owns σ', ∃ o, s₀.heap.get? a = some o)
    (hI : I ps s) (S : St C' (ins D Z₁) σ' s) (X : Ext s₀ s) (hk : ∀ b o, ¬ wr b → hs.get? b = some o → s.heap.get? b = some o) (hlive : ∀ b, s.heap.get? b = none → hs.get? b = none) (hacc : s.heap.PlainList D #[])
    (hw : WC C' A t ifs elt (ins D Z₁) ps σ' out) (hsz : out.length ≤ sizeLine)
    (hR : ∀ s' m vs, Ext s₀ s' → s'.heap.Ns L m → s'.heap.PlainList D vs → Reps s'.heap (ins D Z₁) out vs.toList → R (.ok .next) s') :
    codeAny C.M A (.compLoop (.ListComp elt [⟨t, iter, ifs, 0⟩] scope pos) 0 it (.ref D) C'.env) R s := by
  subst hL
  suffices key : ∀ J : Nat → Shared → Prop, (∀ n s, CompInv C C' A Z₁ t elt ifs D I wr s₀ hs out n s ↔ J n s) → codeAny C.M A (.compLoop (.ListComp elt [⟨t, iter, ifs, 0⟩] scope pos) 0 it (.ref D) C'.env) R s from key _ fun _ _ => Iff.rfl
  intro J hJ
  refine codeAny_compLoop_any J ?_ ps.length ((hJ _ _).1 ⟨ps, σ', #[], [], out, rfl, hI, S, X, hk, hlive, how, hacc, .nil, hw, rfl⟩)
  clear hI S X hk hlive hacc hw how
  intro n s hj
  obtain ⟨ps, σ', vs, o1, o2, rfl, hI, S, X, hk, hlive, how, hacc, hr1, hw, ho⟩ := (hJ _ _).2 hj
  clear hj
  have zok : ZOk hs Z₁ (ins D Z₁) s := ⟨fun a z => by
    rcases z with rfl | z
    · exact .inr hD
    · exact .inl z, fun a z => let ⟨o, e, _⟩ := S.zl a z; ⟨o, e⟩⟩
  have nwr : ∀ b, hs.get? b = none → ¬ wr b := fun b e q => by obtain ⟨_, o, e'⟩ := hwr b q; rw [e] at e'; cases e'
  refine wpAny_mono (src.next ps s (fun s₁ => R (.ok .next) s₁) (fun v s₁ => wpAny C.M A (assign t C'.env v) (fun _ s₂ =>
          wpAny C.M A (forIn ifs true fun c r => if r = true then do let ok ← isTrue c C'.env (eval c C'.env); pure (ForInStep.yield ok) else pure (ForInStep.yield r)) (fun ok s₃ =>
            if ok = true then wpAny C.M A (eval elt C'.env) (fun x s₄ =>
              wpAny C.M A (call (.builtin "list.append") [.ref D, x]) (fun _ s₅ => ∃ m, m < ps.length ∧ J m s₅) (notedBy C.M A C'.env fun e s' => R (.error e) s') s₄) (notedBy C.M A C'.env fun e s' => R (.error e) s') s₃
            else ∃ m, m < ps.length ∧ J m s₃) (notedBy C.M A C'.env fun e s' => R (.error e) s') s₂) (notedBy C.M A C'.env fun e s' => R (.error e) s') s₁) _ (ins D Z₁) hI zok X.gk.1 ?_ ?_) (fun r s1 h => ?_) fun _ _ x => x
  rotate_left 2
  · cases r with
    | none => exact h
    | some v => exact h
  · -- the end
    intro e s1 m
    cases ps with
    | cons => cases e
    | nil =>
      have hw : o2 = [] := hw
      subst hw
      rw [List.append_nil] at ho
      subst ho
      obtain ⟨mm, hn, _⟩ := S.vars
      have kp1 : ∀ b o, s₀.heap.get? b = some o → s1.heap.get? b = some o := fun b o e => m.kp b o (fun q => by rw [(hwr b q).1] at e; cases e) (X.kp b o e)
      refine hR s1 mm vs ⟨kp1, m.gk.gk X.gk, m.dr.trans X.dr, m.os.trans X.os⟩ ?_ ?_ ?_
      · obtain ⟨o, es, ep, e, r⟩ := hn; exact ⟨o, es, ep, m.kp _ o (nwr _ hLf) e, r⟩
      · obtain ⟨k, e⟩ := hacc; exact ⟨k, m.kp _ _ (nwr _ hD) e⟩
      · exact Reps.chg (fun a o e q z => ⟨m.kp a o (fun hb => z (.inr ((src.plain _ _ a o hI hb e).1 q))) e, z⟩) _ _ hr1
  · -- a turn
    intro p j e v s1 m lv hz hr hI1
    cases ps with
    | nil => cases e
    | cons p' pso =>
      cases e
      obtain ⟨σ1, T, b, ht, hb1, hb0⟩ := hw
      have kp1 : ∀ b o, s₀.heap.get? b = some o → s1.heap.get? b = some o := fun b o e => m.kp b o (fun q => by rw [(hwr b q).1] at e; cases e) (X.kp b o e)
      have hk1 : ∀ b o, ¬ wr b → hs.get? b = some o → s1.heap.get? b = some o := fun b o q e => m.kp b o q (hk b o q e)
      have X1 : Ext s₀ s1 := ⟨kp1, m.gk.gk X.gk, m.dr.trans X.dr, m.os.trans X.os⟩
      have hacc1 : s1.heap.PlainList D vs := let ⟨k, e⟩ := hacc; ⟨k, m.kp _ _ (nwr _ hD) e⟩
      have zl1 : ∀ a, ins D Z₁ a → ∃ o, s1.heap.get? a = some o ∧ SeqObj o := by
        intro a z
        by_cases q : wr a
        · rcases z with rfl | z
          · exact absurd q (nwr _ hD)
          · exact hz a q z
        · obtain ⟨o, e, r⟩ := S.zl a z; exact ⟨o, m.kp a o q e, r⟩
      have chg1 : ∀ a o, s.heap.get? a = some o → SeqObj o → ¬ ins D Z₁ a → s1.heap.get? a = some o ∧ ¬ ins D Z₁ a := fun a o e q z => ⟨m.kp a o (fun hb => z (.inr ((src.plain _ _ a o hI hb e).1 q))) e, z⟩
      have hr11 := Reps.chg chg1 _ _ hr1
      have S1 : St C' (ins D Z₁) σ' s1 := by
        refine S.mv' (fun b o e => kp1 b o (hk0 b o e)) (fun b o e q z => (chg1 b o e q z).1) (fun b o w e d => m.kp b o (fun hb => (src.plain _ _ b o hI hb e).2 w d) e) (fun o e => m.kp _ o (nwr _ hLf) e) (fun b hb o e => ?_) zl1
        obtain ⟨o', e'⟩ := how b hb
        exact m.kp b o (fun q => by rw [(hwr b q).1] at e'; cases e') e
      rw [← eM]
      refine assign_tgt ok' hA T S1 hr fun s2 S2 F2 L2 O2 => ?_
      have old : ∀ b o, hs.get? b ≠ none → s1.heap.get? b = some o → s2.heap.get? b = some o := fun b o nb e => O2 b o e (fun q => nb (q ▸ hLf)) fun x hx q => nb (hcell x hx b q).1
      have hacc2 : s2.heap.PlainList D vs := by
        obtain ⟨k, e⟩ := hacc1
        exact ⟨k, O2 D _ e hDL fun x hx q => (hcell x hx D q).2 rfl⟩
      have kp2 : ∀ b o, s₀.heap.get? b = some o → s2.heap.get? b = some o := fun b o e => old b o (fun q => by rw [hh b q] at e; cases e) (kp1 b o e)
      have X2 : Ext s₀ s2 := ⟨kp2, X1.gk.trans F2.gk, F2.dr.trans X1.dr, F2.os.trans X1.os⟩
      have hk2 : ∀ b o, ¬ wr b → hs.get? b = some o → s2.heap.get? b = some o := fun b o q e => old b o (by rw [e]; simp) (hk1 b o q e)
      have hI2 : I j s2 := src.frame j s1 s2 hI1 (fun b o ⟨_, o', e'⟩ e => old b o (by rw [e']; simp) e) F2.gk
      have hl2 : ∀ b, s2.heap.get? b = none → hs.get? b = none := fun b e => hlive b (lv b (L2 b e))
      have hr2 : Reps s2.heap (ins D Z₁) o1 vs.toList := by
        refine Reps.chg (fun a o e q z => ⟨F2.kp a o e fun pz => ?_, z⟩) _ _ hr11
        exact S1.seq_npriv ok' e q z pz
      have ow2 : ∀ a ∈ owns σ1, ∃ o, s₀.heap.get? a = some o := fun a h => how a (T.owns a h)
      refine tsts_run ht S2 fun s3 X3 => ?_
      have S3 := S2.ext X3
      have X03 := X2.trans X3
      have hI3 : I j s3 := src.frame j s2 s3 hI2 (fun b o _ e => X3.kp b o e) X3.gk
      have hacc3 := PlainList.kp X3.kp hacc2
      have hk3 : ∀ b o, ¬ wr b → hs.get? b = some o → s3.heap.get? b = some o := fun b o q e => X3.kp b o (hk2 b o q e)
      have hl3 : ∀ b, s3.heap.get? b = none → hs.get? b = none := fun b e => hl2 b (none_kp X3.kp e)
      have hr3 := hr2.kp X3.kp
      cases b with
      | false =>
        rw [if_neg (by decide)]
        exact ⟨j.length, by simp, (hJ _ _).1 ⟨j, σ1, vs, o1, o2, rfl, hI3, S3, X03, hk3, hl3, ow2, hacc3, hr3, hb0 rfl, ho⟩⟩
      | true =>
        rw [if_pos rfl]
        obtain ⟨q, r, he, hw', rfl⟩ := hb1 rfl
        refine he s3 _ _ S3 fun y s4 X4 ry => ?_
        have S4 := S3.ext X4
        have X04 := X03.trans X4
        have hI4 : I j s4 := src.frame j s3 s4 hI3 (fun b o _ e => X4.kp b o e) X4.gk
        have hacc4 := PlainList.kp X4.kp hacc3
        have hr4 := hr3.kp X4.kp
        have hvs : vs.size = o1.length := by rw [← hr4.length]; simp
        refine wpAny_list_append_plain hacc4 (fun h5 hl5 hs5 => ?_) (by rw [hvs]; rw [ho, List.length_append] at hsz; omega)
        have nD : ∀ b, hs.get? b ≠ none → b ≠ D := fun b nb q => nb (q ▸ hD)
        have nD0 : ∀ b o, s₀.heap.get? b = some o → b ≠ D := fun b o e q => by
          subst q; rw [hh _ hD] at e; cases e
        have chg5 : ∀ a o, s4.heap.get? a = some o → SeqObj o → ¬ ins D Z₁ a → h5.get? a = some o ∧ ¬ ins D Z₁ a := fun a o e q z => ⟨(hs5.2 a fun q => z (.inl q)).trans e, z⟩
        refine ⟨j.length, by simp, (hJ _ _).1 ⟨j, σ1, vs.push y, o1 ++ [q], r, rfl, src.frame j s4 _ hI4 (fun b o ⟨_, o', e'⟩ e => (hs5.2 b (nD b (by rw [e']; simp))).trans e) (.refl _), ?_, ⟨fun b o e => (hs5.2 b (nD0 b o e)).trans (X04.kp b o e), X04.gk, X04.dr, X04.os⟩, fun b o q e => (hs5.2 b (nD b (by rw [e]; simp))).trans (X4.kp b o (hk3 b o q e)), fun b e => ?_, ow2, hl5, ?_, hw', by rw [ho]; simp⟩⟩
        · refine S4.mv' (fun b o e => (hs5.2 b (nD0 b o (hk0 b o e))).trans (X04.kp b o (hk0 b o e))) (fun b o e q z => (chg5 b o e q z).1) (fun b o w e d => (hs5.2 b fun q => ?_).trans e) (fun o e => (hs5.2 _ (Ne.symm hDL)).trans e) (fun b hb o e => ?_) fun a z => ?_
          · obtain ⟨k, e'⟩ := hacc4
            rw [q, e'] at e; cases e; cases d
          · obtain ⟨o', e'⟩ := ow2 b hb
            exact (hs5.2 b (nD0 b o' e')).trans e
          · by_cases q : a = D
            · subst q; obtain ⟨k, e⟩ := hl5; exact ⟨_, e, _, _, rfl⟩
            · obtain ⟨o, e, q'⟩ := S4.zl a z; exact ⟨o, (hs5.2 a q).trans e, q'⟩
        · by_cases q : b = D
          · exact q ▸ hD
          · exact hl3 b (none_kp X4.kp ((hs5.2 b q).symm.trans e))
        · rw [Array.toList_push]
          exact (Reps.chg chg5 _ _ hr4).append (.one (Rep.chg chg5 _ _ ry))
end
end Py

namespace Py

theorem cells_fresh {x : Str} {c : Addr} : ∀ {names : List (Str × NameKind)} {h : Heap} {acc : List (Str × Addr)}, (x, c) ∈ cellsFrom h.objs.size names acc → (pushCells h names).IsCell c none ∨ (x, c) ∈ acc
  | [], _, _, q => .inr q
  | (y, k) :: r, h, acc, q => by
    unfold cellsFrom at q
    unfold pushCells
    split at q
    · rename_i hk
      rw [if_pos hk]
      have e : (h.push { cls := .type "cell", data := .cell none }).objs.size = h.objs.size + 1 := Heap.size_push ..
      rw [← e] at q
      rcases cells_fresh q with q | q
      · exact .inl q
      · rcases List.mem_cons.mp q with q | q
        · cases q
          exact .inl ⟨_, pushCells_keeps _ _ _ _ (Heap.get?_push_size _ rfl), rfl⟩
        · exact .inr q
    · rename_i hk
      rw [if_neg hk]
      exact cells_fresh q

theorem caps_own {C : Cx} {Z : Addr → Prop} {σ : List LV} {s : Shared} (S : St C Z σ s) : ∀ {fs : List Str} {fls : List LV}, Caps C σ fs fls → ∀ a ∈ owns fls, Z a := by
  intro fs fls c a h
  induction c with
  | nil => cases h
  | cons _ e r ih =>
    rename_i l _ _ _
    cases l with
    | own b xs =>
      rcases List.mem_cons.mp h with rfl | h
      · obtain ⟨m, _, V⟩ := S.vars
        exact V.ownZ _ _ (List.mem_of_getElem? e)
      · exact ih h
    | unb => exact ih h
    | v p => exact ih h

section
variable {C : Cx} {A : Around} {Z : Addr → Prop} {σ : List LV}

theorem comp_core {t iter elt : Expr} {ifs : List Expr} {scope : Scope} {pos : Pos} {ts fs : List Str} {fls : List LV} {ps out : List PV} {s : Shared} {E : Value → Shared → Prop} {RR : Value → Addr → Result → Shared → Prop} (ok : C.Ok) (hA : A.handled = none)
    (K : CompChk scope C.env ts fs t) (hsrc : IterZ C A Z σ t iter uncons ps) (caps : Caps C σ fs fls) (hnd : (owns fls).Nodup)
    (hw : ∀ L Z', (compCx C scope (ts ++ fs) L).Ok → WC (compCx C scope (ts ++ fs) L) A t ifs elt Z' ps (ts.map (fun _ => .unb) ++ fls) out) (hsz : out.length ≤ sizeLine) (S : St C Z σ s)
    (hRR : ∀ D L s' m, Ext s s' → s.heap.get? L = none → L ≠ D → s'.heap.Ns L m → Res .n Z s.heap s'.heap (.list out) (.ref D) → RR (.ref D) L (.ok .next) s') :
    wpAny C.M A (eval iter C.env) (fun x s₁ => wpAny C.M A (pyIter x) (fun it s₂ => wpAny C.M A (newList []) (fun acc s₃ =>
      wpAny C.M A (newFunctionEnv scope C.env.globals (closL C.env.cells scope.names []) [] C.env.qual none .none (some C.env)) (fun cenv s₄ =>
        codeAny C.M A (.compStart (.ListComp elt [⟨t, iter, ifs, 0⟩] scope pos) 0 it acc { cenv with scope := relabel scope C.env }) (RR acc cenv.locals) s₄) E s₃) E s₂) E s₁) E s := by
  refine hsrc s _ E S fun it s2 Z₁ hz1 hz2 S2 ⟨wr, I, X, src, hwr, hI, hself⟩ => ?_
  refine wpAny_newObj_type (newEnv_comp ?_)
  dsimp only
  generalize hH3 : s2.heap.push { cls := .type "list", dict := none, data := .seq ([] : List Value).toArray } = H3
  have eL : H3.objs.size = s2.heap.objs.size + 1 := by rw [← hH3, Heap.size_push]
  have k3 : Kp s2.heap H3 := fun b o e => hH3 ▸ Heap.get?_push_of_some _ e
  have gD : H3.get? s2.heap.objs.size = some _ := hH3 ▸ Heap.get?_push_size _ rfl
  generalize hH4 : pushCells (H3.push { cls := .type "dict", data := .dict #[] }) scope.names = H4
  have k4 : Kp H3 H4 := fun b o e => hH4 ▸ pushCells_keeps _ _ _ _ (Heap.get?_push_of_some _ e)
  have nsL : H4.Ns H3.objs.size _ := hH4 ▸ (Heap.Ns.new H3 (.type "dict")).keeps (pushCells_keeps _ _)
  have hfs := caps.mem
  have lt3 : ∀ b o, H3.get? b = some o → b < H3.objs.size := fun b o e => Heap.lt_size e
  have okC := comp_ok (L := H3.objs.size) ok K hfs (fun b hb => by
      cases e : C.h₀.get? b with
      | none => rfl
      | some o => exact absurd (lt3 b o (k3 b o (S2.keep b o e))) (Nat.not_lt.mpr hb)) (fun x hx => by
      obtain ⟨w, hc⟩ := S2.cells ok x hx
      obtain ⟨o, e, _⟩ := hc
      exact lt3 _ o (k3 _ o e))
  have cc : ∀ {x c}, (x, c) ∈ (compEnv' scope C.env H3.objs.size).cells → (s2.heap.objs.size + 2 ≤ c) ∨ x ∈ fs := fun hm => by
    rcases comp_cells ok K hfs hm with ⟨_, q⟩ | ⟨q, _⟩
    · left; rw [eL] at q; exact q
    · exact .inr q
  have n2 : ∀ b, s2.heap.objs.size ≤ b → s2.heap.get? b = none := fun b h => fresh_size h
  have S4 : St C (ins s2.heap.objs.size Z₁) σ { s2 with heap := H4 } := S2.ins (s := { s2 with heap := H4 }) (k3.trans k4) (size_none _) ⟨_, k4 _ _ gD, _, _, rfl⟩
  have S4' : St (compCx C scope (ts ++ fs) H3.objs.size) (ins s2.heap.objs.size Z₁) (ts.map (fun _ => .unb) ++ fls) { s2 with heap := H4 } := by
    refine comp_st ok K caps hnd S4 nsL fun x c hx hc => ⟨none, ?_⟩
    have e : (H3.push { cls := .type "dict", data := .dict #[] }).objs.size = H3.objs.size + 1 := Heap.size_push ..
    have hm : (x, c) ∈ cellsFrom (H3.objs.size + 1) scope.names (closL C.env.cells scope.names []) := mem_of_lookup hc
    rw [← e] at hm
    rcases cells_fresh hm with q | q
    · exact hH4 ▸ q
    · rcases clos_mem q with ⟨q, _⟩ | q
      · have e1 := lookup_of_mem K.nn q
        have e2 := lookup_of_mem K.nn hx
        rw [e1] at e2; cases e2
      · cases q
  have nL : s2.heap.get? H3.objs.size = none := n2 _ (by rw [eL]; exact Nat.le_succ _)
  have nLD : s2.heap.objs.size ≠ H3.objs.size := by rw [eL]; exact Nat.ne_of_lt (Nat.lt_succ_self _)
  have go : ∀ s', s' = { s2 with heap := H4 } → codeAny C.M A (.compLoop (.ListComp elt [⟨t, iter, ifs, 0⟩] scope pos) 0 it (.ref s2.heap.objs.size) (compEnv' scope C.env H3.objs.size)) (RR (.ref s2.heap.objs.size) H3.objs.size) s' := by
    rintro s' rfl
    have ow : owns (ts.map (fun _ => LV.unb) ++ fls) = owns fls := by
      clear K hw okC S4'
      induction ts with
      | nil => rfl
      | cons x r ih => exact ih
    refine comp_loop (C' := compCx C scope (ts ++ fs) H3.objs.size) (hs := s2.heap) (D := s2.heap.objs.size) okC hA rfl rfl S hz2 src hwr (fun b e => none_kp X.kp e) (size_none _) nL nLD (fun x hx c hc => ?_) S.keep (fun a ha => ?_) (src.frame _ _ _ hI (fun b o _ e => k4 b o (k3 b o e)) (.refl _)) S4' ⟨fun b o e => k4 b o (k3 b o (X.kp b o e)), X.gk, X.dr, X.os⟩
      (fun b o _ e => k4 b o (k3 b o e)) (fun b e => none_kp (k3.trans k4) e) ⟨_, k4 _ _ gD⟩ (hw _ _ okC) hsz fun s' m vs X' hn hl hr => ?_
    · have hm := mem_of_lookup hc
      rcases cc hm with q | q
      · exact ⟨n2 c (Nat.le_of_succ_le (Nat.le_of_succ_le q)), Nat.ne_of_gt (Nat.lt_of_succ_le (Nat.le_of_succ_le q))⟩
      · exact absurd rfl ((List.nodup_append.mp K.nd).2.2 _ (K.tn x hx) _ q)
    · rw [ow] at ha
      obtain ⟨o, e, _⟩ := S.zl a (caps_own S caps a ha)
      exact ⟨o, e⟩
    · have sD : s.heap.get? s2.heap.objs.size = none := none_kp X.kp (size_none _)
      refine hRR _ _ s' m X' (none_kp X.kp nL) (Ne.symm nLD) hn ⟨?_, fun a e => by cases e; exact sD⟩
      simp only [Rep]
      refine ⟨_, vs.toList, rfl, by simpa using hl, fun z => ?_, Reps.chg (fun a o e q z => ⟨e, fun z' => z (.inr (hz1 a z'))⟩) _ _ hr⟩
      obtain ⟨o, e, _⟩ := S.zl _ z
      rw [sD] at e; cases e
  exact codeAny_compStart_list (go _ rfl) (hself _ _ _ _ (src.frame _ _ { s2 with heap := H4 } hI (fun b o _ e => k4 b o (k3 b o e)) (.refl _)) (go _ rfl))

theorem res_but {s s' : Shared} {L D : Addr} {h' : Heap} {m : Str → Option Value} {out : List PV} (hL : L ≠ D) (hn : s'.heap.Ns L m) (hs : Heap.SameBut L s'.heap h') (r : Res .n Z s.heap s'.heap (.list out) (.ref D)) : Res .n Z s.heap h' (.list out) (.ref D) :=
  ⟨Rep.but hs (fun o e q => ns_seq hn e q) _ _ r.1, r.2⟩

/-- a list comprehension -/
theorem ev_comp {t iter elt : Expr} {ifs : List Expr} {scope : Scope} {pos : Pos} (ts fs : List Str) {fls : List LV} {ps out : List PV} (ok : C.Ok) (hA : A.handled = none)
    (chk : compChk scope C.env ts fs t = true) (hsrc : IterZ C A Z σ t iter uncons ps) (caps : Caps C σ fs fls) (hnd : (owns fls).Nodup)
    (hw : ∀ L Z', (compCx C scope (ts ++ fs) L).Ok → WC (compCx C scope (ts ++ fs) L) A t ifs elt Z' ps (ts.map (fun _ => .unb) ++ fls) out) (hsz : out.length ≤ sizeLine)
    (hf : ∀ x, foldedSetIterable iter C.env x = pure x := by intro _; rfl) : Ev C A Z σ (.ListComp elt [⟨t, iter, ifs, 0⟩] scope pos) .n (.list out) := by
  intro s Q E S hQ
  have K := compChk_of chk
  rw [eval_ListComp]
  refine wpAny_comprehension_free (use := none) rfl hf (clos_eq fun x hx => ?_) K.k1 (fun x hx e => ?_) ?_
  · obtain ⟨c, hc⟩ := clos_lookup ok K caps.mem (K.n2 x hx); rw [hc]; rfl
  · obtain ⟨n, k⟩ := x
    simp only at e
    subst e
    exact lookup_of_mem K.nn hx
  · refine comp_core (RR := fun acc L => compPost C.M A E none Q acc L) ok hA K hsrc caps hnd hw hsz S fun D L s' m X hL hLD hn r => ?_
    refine ⟨m, hn, fun h' hs' => hQ _ _ ⟨fun b o e => (hs'.2 b fun q => ?_).trans (X.kp b o e), X.gk, X.dr, X.os⟩ (res_but hLD hn hs' r)⟩
    subst q; rw [hL] at e; cases e

theorem w1_assign_comp {t iter elt : Expr} {ifs : List Expr} {scope : Scope} {pos spos py : Pos} {y : Str} {i : Nat} {P : Post} (ts fs : List Str) {fls : List LV} {ps out : List PV} (ok : C.Ok) (hA : A.handled = none) (hi : At C.vs i y)
    (chk : compChk scope C.env ts fs t = true) (hsrc : IterZ C A Z σ t iter uncons ps) (caps : Caps C σ fs fls) (hnd : (owns fls).Nodup)
    (hw : ∀ L Z', (compCx C scope (ts ++ fs) L).Ok → WC (compCx C scope (ts ++ fs) L) A t ifs elt Z' ps (ts.map (fun _ => .unb) ++ fls) out) (hsz : out.length ≤ sizeLine)
    (h : P .next Z (σ.set i (.v (.list out))))
    (hsw : swapsWith (.ListComp elt [⟨t, iter, ifs, 0⟩] scope pos) (some (.Name y py)) spos.line C.env = pure true := by rfl)
    (hf : ∀ x, foldedSetIterable iter C.env x = pure x := by intro _; rfl) : W1 C A Z σ (.Assign [.Name y py] (.ListComp elt [⟨t, iter, ifs, 0⟩] scope pos) spos) P := by
  intro s Q E S hQ
  have K := compChk_of chk
  rw [exec_Assign_Name_used _ _ _ _ hsw]
  refine wpAny_bind (wpAny_standAt (wpAny_bind ?_))
  show wpAny _ A (do let _ ← comprehension (.ListComp elt [⟨t, iter, ifs, 0⟩] scope pos) scope C.env _ (newList []) false (eval iter C.env) (some (assign (.Name y py) C.env))) _ _ s
  refine wpAny_bind (wpAny_mono (wpAny_comprehension_free (use := some (assign (.Name y py) C.env)) (Q := fun _ s' => Q .next s') rfl hf (clos_eq fun x hx => ?_) K.k1 (fun x hx e => ?_) ?_) (fun _ s' hq => wpAny_pure (wpAny_pure hq)) fun _ _ e => e)
  · obtain ⟨c, hc⟩ := clos_lookup ok K caps.mem (K.n2 x hx); rw [hc]; rfl
  · obtain ⟨n, k⟩ := x
    simp only at e
    subst e
    exact lookup_of_mem K.nn hx
  · refine comp_core (RR := fun acc L => compPost C.M A E (some (assign (.Name y py) C.env)) (fun _ s' => Q .next s') acc L) ok hA K hsrc caps hnd hw hsz S fun D L s' m X hL hLD hn r => ?_
    show wpAny _ A (assign (.Name y py) C.env (.ref D)) _ _ _
    have S' := S.ext X
    refine wpAny_assign_Name (store_v ok S' hi r.1 fun s2 S2 F L2 O _ _ => ?_)
    have lv : ∀ b o, s.heap.get? b = some o → b ≠ L := fun b o e q => by subst q; rw [hL] at e; cases e
    have priv : ¬ Priv C Z L := S.npriv ok hL
    have hn2 : s2.heap.Ns L m := let ⟨o, es, ep, e, r⟩ := hn; ⟨o, es, ep, F.kp L o e priv, r⟩
    refine ⟨m, hn2, fun h' hs' => ?_⟩
    have k : ∀ b o, s2.heap.get? b = some o → b ≠ L → h'.get? b = some o := fun b o e n => (hs'.2 b n).trans e
    refine hQ .next _ Z _ _ h ?_ ⟨fun b o e n => k b o (F.kp b o (X.kp b o e) n) (lv b o e), F.zz' , X.gk.trans F.gk, F.dr.trans X.dr, F.os.trans X.os⟩ (fun b e => ?_) rfl
    · refine S2.mv' (fun b o e => k b o (S2.keep b o e) (lv b o (S.keep b o e))) (fun b o e q _ => k b o e fun w => ?_) (fun b o w e d => k b o e fun q => ?_) (fun o e => k _ o e fun q => priv (.inr (.inl q.symm))) (fun b hb o e => k b o e fun q => ?_) fun a z => ?_
      · subst w; exact ns_seq hn2 e q
      · subst q; exact ns_cell hn2 ⟨o, e, d⟩
      · obtain ⟨xs, hx⟩ := mem_owns hb
        obtain ⟨m2, _, V⟩ := S2.vars
        exact priv (.inl (q ▸ V.ownZ _ _ hx))
      · obtain ⟨o, e, q⟩ := S2.zl a z
        exact ⟨o, k a o e (fun w => priv (.inl (w ▸ z))), q⟩
    · by_cases q : b = L
      · subst q; exact hL
      · exact none_kp X.kp (L2 b ((hs'.2 b q).symm.trans e))
where
  F.zz' {Z : Addr → Prop} {s : Shared} : ∀ a, Z a → Z a ∨ s.heap.get? a = none := fun _ z => .inl z
end
end Py

namespace Py

section
variable {C : Cx} {A : Around} {Z : Addr → Prop} {σ : List LV} {P : Post} {k0 : Nat}

theorem W1.of_ext {st : Stmt} (h : ∀ (s : Shared) (Q : Flow → Shared → Prop) (E : Value → Shared → Prop), St C Z σ s →
    (∀ fl f Z' σ' s1 s', Ext s s1 → P fl Z' σ' → St C Z' σ' s' → Frame C Z s1 Z' s' → Lv s1 s' → FlIs C s'.heap fl f → Q f s') → wpAny C.M A (exec st C.env) Q E s) : W1 C A Z σ st P :=
  fun s Q E S hQ => h s Q E S fun fl f Z' σ' s1 s' X p S' F L hf => hQ fl f Z' σ' s' p S' ((Frame.ofExt X).trans F fun a e => none_kp X.kp e) (Lv.trans (Lv.ofKp X.kp) L) hf

/-- x op= e -/
theorem w1_aug {x : Str} {px pos : Pos} {op : Operator} {e : Expr} {i : Nat} {k : RK} {p q r : PV} (ok : C.Ok) {n : Nat} (hA : OkA n A) (hi : At C.vs i x) (hx : σ[i]? = some (.v p)) (he : Ev C A Z σ e k q) (hop : Op2 C n (inplaceOp op) p q .f r) (h : P .next Z (σ.set i (.v r))) :
    W1 C A Z σ (.AugAssign (.Name x px) op e pos) P := by
  refine W1.of_ext fun s Q E S hQ => ?_
  obtain ⟨m, hn, V⟩ := S.vars
  obtain ⟨v, h1, h2⟩ := V.get hi hx
  refine wpAny_AugAssign_Name (loadVar ok hi.mem hn h1 (he s _ E S fun w s1 X1 r1 => ?_))
  refine hop A Z s1 _ E v w ((S.ext X1).here ok hA) (h2.b.kp X1.kp) r1.toB fun y s2 X2 r2 => ?_
  exact store_v ok ((S.ext X1).ext X2) hi r2 fun s3 S3 F3 L3 _ _ _ => hQ .next _ _ _ s2 s3 (X1.trans X2) h S3 F3 L3 rfl

theorem ev_own_at {s : Shared} {x : Str} {px : Pos} {i : Nat} {a : Addr} {xs : List PV} {Q : Value → Shared → Prop} {E : Value → Shared → Prop} (ok : C.Ok) (S : St C Z σ s) (hi : At C.vs i x) (hx : σ[i]? = some (.own a xs)) (h : Q (.ref a) s) : wpAny C.M A (eval (.Name x px) C.env) Q E s := by
  obtain ⟨m, hn, V⟩ := S.vars
  obtain ⟨h1, _⟩ := V.get hi hx
  exact wpAny_Name (loadVar ok hi.mem hn h1 h) (ok.nodbg x hi.mem)
theorem own_list {s : Shared} {x : Str} {i : Nat} {a : Addr} {xs : List PV} (S : St C Z σ s) (hi : At C.vs i x) (hx : σ[i]? = some (.own a xs)) : ∃ vs, s.heap.PlainList a vs.toArray ∧ Reps s.heap Z xs vs := by
  obtain ⟨m, hn, V⟩ := S.vars
  obtain ⟨_, _, vs, h1, h2⟩ := V.get hi hx
  exact ⟨vs, h1, h2⟩

theorem upd_plain {h : Heap} {a : Addr} {items : Array Value} (x : h.PlainList a items) (f : Array Value → Array Value) : (h.update a (Obj.mapSeq f)).PlainList a (f items) := by
  obtain ⟨n, e⟩ := x
  exact ⟨_, PySem.IsL.update (n := n) e f⟩

theorem set_own {s : Shared} {x : Str} {i : Nat} {a : Addr} {xs : List PV} {j : Int} {t : Tok} {p : PV} {v : Value} {Q : Unit → Shared → Prop} {E : Value → Shared → Prop} (ok : C.Ok) (S : St C Z σ s) (hi : At C.vs i x) (hx : σ[i]? = some (.own a xs)) (h0 : 0 ≤ j) (hj : j < xs.length) (hl : xs.length ≤ 2 ^ 24) (hr : Rep s.heap Z p v)
    (h : ∀ s', St C Z (σ.set i (.own a (xs.set j.toNat p))) s' → Frame C Z s Z s' → Lv s s' → Q () s') : wpAny C.M A (setItem (.ref a) (.int j t) v) Q E s := by
  obtain ⟨vs, hla, hra⟩ := own_list S hi hx
  obtain ⟨n, hg⟩ := hla
  refine ki_setAt hg h0 (by omega) (by rw [List.size_toArray, hra.length]; exact hj) ?_
  have hl2 := upd_plain ⟨n, hg⟩ (·.setIfInBounds j.toNat v)
  rw [show vs.toArray.setIfInBounds j.toNat v = (vs.set j.toNat v).toArray by simp] at hl2
  have := upd_own (xs' := xs.set j.toNat p) ok S hi hx (Heap.SameBut.update ..) hl2 (hra.set _ hr) s.toks
  exact h _ this.1 this.2.1 this.2.2

/-- x[i] op= e -/
theorem w1_aug_item {x : Str} {px tpos pos : Pos} {op : Operator} {e ix : Expr} {i : Nat} {a : Addr} {xs : List PV} {j : Int} {k k' : RK} {p q r : PV} (ok : C.Ok) {n : Nat} (hA : OkA n A) (hi : At C.vs i x) (hx : σ[i]? = some (.own a xs)) (hix : Ev C A Z σ ix k' (.int j)) (h0 : 0 ≤ j) (hj : xs[j.toNat]? = some p) (hl : xs.length ≤ 2 ^ 24)
    (he : Ev C A Z σ e k q) (hop : Op2 C n (inplaceOp op) p q .f r) (h : P .next Z (σ.set i (.own a (xs.set j.toNat r)))) (hau : ∀ ov iv new, augStore ix ov iv new = (do holding [new, ov, iv] (setItem ov iv new); release [new, ov, iv] []; pure .next) := by intros; rfl) :
    W1 C A Z σ (.AugAssign (.Subscript (.Name x px) ix tpos) op e pos) P := by
  refine W1.of_ext fun s Q E S hQ => ?_
  refine wpAny_AugAssign_SubscriptAny (ev_own_at ok S hi hx (hix s _ E S fun iv s1 X1 r1 => ?_)) hau
  obtain ⟨t, rfl⟩ := r1.toB
  have S1 := S.ext X1
  obtain ⟨vs, hla, hra⟩ := own_list S1 hi hx
  obtain ⟨v, hv, rv⟩ := hra.get _ hj
  have hlt : j.toNat < xs.length := (List.getElem?_eq_some_iff.mp hj).1
  refine wpAny_getItem_list hla.isList h0 (by omega) (by simpa using hv) (he s1 _ E S1 fun w s2 X2 r2 => ?_)
  refine hop A Z s2 _ E v w ((S1.ext X2).here ok hA) (rv.b.kp X2.kp) r2.toB fun y s3 X3 r3 => ?_
  exact set_own ok ((S1.ext X2).ext X3) hi hx h0 (by omega) hl r3 fun s4 S4 F4 L4 => hQ .next _ _ _ s3 s4 ((X1.trans X2).trans X3) h S4 F4 L4 rfl

/-- x[i] = e -/
theorem w1_set_item {x : Str} {px tpos pos : Pos} {e ix : Expr} {i : Nat} {a : Addr} {xs : List PV} {j : Int} {k' : RK} {q : PV} (ok : C.Ok) (hi : At C.vs i x) (hx : σ[i]? = some (.own a xs)) (hix : Ev C A Z σ ix k' (.int j)) (h0 : 0 ≤ j) (hj : j < xs.length) (hl : xs.length ≤ 2 ^ 24)
    (he : Ev C A Z σ e .f q) (h : P .next Z (σ.set i (.own a (xs.set j.toNat q)))) (hs : swapsWith e (some (.Subscript (.Name x px) ix tpos)) pos.line C.env = pure false := by rfl) :
    W1 C A Z σ (.Assign [.Subscript (.Name x px) ix tpos] e pos) P := by
  refine W1.of_ext fun s Q E S hQ => ?_
  refine wpAny_Assign_Subscript (he s _ E S fun w s1 X1 r1 => ev_own_at ok (S.ext X1) hi hx (hix s1 _ E (S.ext X1) fun iv s2 X2 r2 => ?_)) hs
  obtain ⟨t, rfl⟩ := r2.toB
  exact set_own ok ((S.ext X1).ext X2) hi hx h0 hj hl (r1.kp X2.kp) fun s4 S4 F4 L4 => hQ .next _ _ _ s2 s4 (X1.trans X2) h S4 F4 L4 rfl

noncomputable def del (a : Addr) (Z : Addr → Prop) : Addr → Prop := fun b => Z b ∧ b ≠ a
theorem St.freeze {s : Shared} {x : Str} {i : Nat} {a : Addr} {xs : List PV} (ok : C.Ok) (S : St C Z σ s) (hi : At C.vs i x) (hx : σ[i]? = some (.own a xs)) : St C (del a Z) (σ.set i (.v (.list xs))) s := by
  have hnd := S.nd
  refine ⟨S.keep, fun b z => S.zf b z.1, fun b z => S.zl b z.1, List.Nodup.sublist (owns_set σ i (by intro a xs q; cases q)) S.nd, ?_⟩
  obtain ⟨m, hn, V⟩ := S.vars
  refine ⟨m, hn, ?_⟩
  obtain ⟨hva, hza, vs, hla, hra⟩ := V.get hi hx
  have H : ∀ b o, s.heap.get? b = some o → SeqObj o → ¬ Z b → s.heap.get? b = some o ∧ ¬ del a Z b := fun b o e _ z => ⟨e, fun q => z q.1⟩
  have hv : VarIs C.env s.heap (del a Z) m x (.v (.list xs)) := by
    refine ⟨_, hva, ?_⟩
    simp only [Rep]
    exact ⟨a, vs, rfl, hla, fun q => q.2 rfl, Reps.chg H _ _ hra⟩
  have key : ∀ {ys : List Str} {ks : List LV} {j : Nat}, ys.Nodup → At ys j x → ks[j]? = some (.own a xs) → (owns ks).Nodup → Vars C.env s.heap Z m ys ks → Vars C.env s.heap (del a Z) m ys (ks.set j (.v (.list xs))) := by
    have rest : ∀ {ys : List Str} {ks : List LV}, a ∉ owns ks → Vars C.env s.heap Z m ys ks → Vars C.env s.heap (del a Z) m ys ks := by
      intro ys ks hno W
      exact W.chg (fun _ _ h => h) H fun b zs hb => ⟨⟨W.ownZ b zs hb, fun q => hno (q ▸ owns_mem hb)⟩, fun _ e => e⟩
    intro ys
    induction ys with
    | nil => intro ks j _ ha; cases ha
    | cons y ys ih =>
      intro ks j hy ha e nd W
      cases ks with
      | nil => exact W.elim
      | cons k ks =>
        cases ha with
        | here =>
          simp at e; subst e
          rw [List.set_cons_zero]
          exact ⟨hv, rest (List.nodup_cons.mp nd).1 W.2⟩
        | @there _ _ _ j' ha =>
          rw [List.set_cons_succ]
          have e' : ks[j']? = some (LV.own a xs) := by simpa using e
          have hin : a ∈ owns ks := owns_mem (List.mem_of_getElem? e')
          have hk : ∀ b zs, k = .own b zs → b ≠ a := by
            rintro b zs rfl rfl
            exact (List.nodup_cons.mp nd).1 hin
          refine ⟨W.1.chg (fun _ _ h => h) H fun b zs hb => ⟨⟨by subst hb; exact W.1.2.1, hk b zs hb⟩, fun _ e => e⟩, ih (List.nodup_cons.mp hy).2 ha e' ?_ W.2⟩
          cases k with
          | own b zs => exact (List.nodup_cons.mp nd).2
          | _ => exact nd
  exact key ok.nodup hi hx S.nd V

/-- an own list is changed no more -/
theorem ws_freeze {ss : List Stmt} {x : Str} {i : Nat} {a : Addr} {xs : List PV} (ok : C.Ok) (hi : At C.vs i x) (hx : σ[i]? = some (.own a xs)) (h : WS C A (del a Z) (σ.set i (.v (.list xs))) ss P) : WS C A Z σ ss P := by
  intro s Q E S hQ
  refine h s Q E (S.freeze ok hi hx) fun fl f Z' σ' s' p S' F L hf => hQ fl f Z' σ' s' p S' ⟨fun b o e n => F.kp b o e fun q => n ?_, fun b z => ?_, F.gk, F.dr, F.os⟩ L hf
  · rcases q with q | q
    · exact .inl q.1
    · exact .inr q
  · rcases F.zz b z with q | q
    · exact .inl q.1
    · exact .inr q

/-- a method call, as it runs -/
theorem meth_raw {o : Expr} {name : Str} {apos pos : Pos} {es : List Expr} {ps : List PV} {T id : String} {s : Shared} {Q : Value → Shared → Prop} {E : Value → Shared → Prop} (m : Meth name T id) (ha : EvL C A Z σ es ps)
    (ho : wpAny C.M A (eval o C.env) (fun u s1 => St C Z σ s1 ∧ s1.TypeIs u T ∧ (∀ b, u = .ref b → ∃ ob, s1.heap.get? b = some ob ∧ ob.dict = none) ∧ ∀ vs s2, Ext s1 s2 → Reps s2.heap Z ps vs → wpAny C.M A (call (.builtin id) (u :: vs)) Q E s2) E s)
    (hline : (apos.endLine == pos.line) = true := by rfl) (hbase : attributeBase o name C.env (eval o C.env) = eval o C.env := by rfl) (hfew : decide (es.length + 0 + 0 < 30) = true := by rfl) : wpAny C.M A (eval (.Call (.Attribute o name apos) es [] pos) C.env) Q E s := by
  have hf : ((backTo pos (starEach es C.env)).all (fun x => !x.1) && (backToKw pos (keywordEach [] C.env)).all (fun x => x.1.isSome) && decide (es.length + ([] : List Keyword).length + (if ([] : List Keyword).isEmpty then 0 else 1) < 30)) = true := by
    have h1 : (backTo pos (starEach es C.env)).all (fun x => !x.1) = true := by
      have := evl_plain (pos := pos) ha
      rw [List.all_eq_not_any_not]
      simpa using this
    rw [h1]
    exact hfew
  refine wpAny_Call_method_late hbase hf hline rfl (wpAny_mono ho (fun u s1 h1 => ?_) fun _ _ e => e)
  obtain ⟨S1, hT, hd, h⟩ := h1
  exact ⟨T, id, m.pa, m.slot, m.ty, hT, hd, callWith_builtin (evl_plain ha) (evArgsL ha S1 fun vs s2 X2 r2 => h vs s2 X2 r2)⟩
theorem meth_extend : Meth "extend" "list" "list.extend" := ⟨F.plainAttrs_list, F.slot_list_extend, F.type_list_extend⟩

/-- x.extend(list) -/
theorem w1_extend {x : Str} {px apos cpos pos : Pos} {e : Expr} {i : Nat} {a : Addr} {xs ys : List PV} (ok : C.Ok) (hi : At C.vs i x) (hx : σ[i]? = some (.own a xs)) (he : Ev C A Z σ e .f (.list ys)) (h : P .next Z (σ.set i (.own a (xs ++ ys))))
    (hsz : xs.length + ys.length ≤ 2 ^ 20) (hse : ∀ rest env, starEach (e :: rest) env = (false, eval e env) :: starEach rest env := by intro _ _; rfl) (hline : (apos.endLine == cpos.line) = true := by rfl) (hi' : interactive C.env = false := by rfl)
    (hsw : swapsWith (.Call (.Attribute (.Name x px) (Str.ofString "extend") apos) [e] [] cpos) none pos.line C.env = pure false := by rfl) :
    W1 C A Z σ (.Expr (.Call (.Attribute (.Name x px) (Str.ofString "extend") apos) [e] [] cpos) pos) P := by
  refine W1.of_ext fun s Q E S hQ => ?_
  refine wpAny_Expr (meth_raw meth_extend (EvL.cons he .nil hse) (ev_own_at ok S hi hx ⟨S, ?_, ?_, fun vs s2 X2 r2 => ?_⟩) hline) hi' hsw
  · obtain ⟨vs, hla, _⟩ := own_list S hi hx; exact hla.isList.typeIs
  · obtain ⟨vs, ⟨n, e⟩, _⟩ := own_list S hi hx; intro b q; cases q; exact ⟨_, e, rfl⟩
  · simp only [Reps, Rep] at r2
    obtain ⟨v, r, rfl, ⟨b, ws, rfl, ⟨n2, hb⟩, hz, rs⟩, rfl⟩ := r2
    have S2 := S.ext X2
    obtain ⟨vs, ⟨n, hg⟩, hra⟩ := own_list S2 hi hx
    have z : vs.length + ws.length ≤ 2 ^ 20 := by rw [hra.length, rs.length]; exact hsz
    refine call_meets PySem.F.slot_list_extend ⟨_, hg, rfl⟩ PySem.F.entry_list_extend (PySem.F.args_list_extend_2 _ _) (AutoSeq1.list_extend_list_list_0 a vs.toArray n b ws.toArray n2 ?_ ?_ ?_) ⟨hg, hb, ?_⟩
    · simp [Builtin.List.listTooLong, sizeLine]; omega
    · simp [sizeLine]; omega
    · simp [sizeLine]; omega
    · have hl2 := upd_plain ⟨n, hg⟩ (fun q => q ++ ws.toArray)
      rw [show vs.toArray ++ ws.toArray = (vs ++ ws).toArray by simp] at hl2
      have := upd_own (xs' := xs ++ ys) ok S2 hi hx (Heap.SameBut.update ..) hl2 (hra.append rs) s2.toks
      exact hQ .next _ _ _ s2 _ X2 h this.1 this.2.1 this.2.2 rfl

-- some more operations
theorem op_is_none_none : Op2 C k0 (compareOp .Is) .none .none .f (.bool true) := by
  rintro A Z s Q E u v H hu hv hQ
  have hu : u = .none := hu
  have hv : v = .none := hv
  subst hu hv
  exact is_none_none (hQ _ _ (.refl _) rfl)
theorem op_is_int_none {a : Int} : Op2 C k0 (compareOp .Is) (.int a) .none .f (.bool false) := by
  rintro A Z s Q E u v H ⟨t, rfl⟩ hv hQ
  have hv : v = .none := hv
  subst hv
  exact is_int_none (hQ _ _ (.refl _) rfl)

theorem op_ne_lists {xs ys : List PV} {b : Bool} (h : ∀ (h : Heap) (Z : Addr → Prop) (vs ws : List Value), Reps h Z xs vs → Reps h Z ys ws → vs.length = ws.length → ∃ e : Nat → Bool, (∀ j (h1 : j < vs.length) (h2 : j < ws.length), MeetsSeq.EqGives vs[j] ws[j] (e j)) ∧ (List.range vs.length).all e = b)
    (hn : xs.length ≠ ys.length → b = false) : Op2 C k0 (compareOp .NotEq) (.list xs) (.list ys) .f (.bool (!b)) := by
  rintro A Z s Q E u v H ⟨a, vs, rfl, ha, ra⟩ ⟨c, ws, rfl, hb, rb⟩ hQ
  have hu : A.units < cLine := by have := H.a.u; omega
  by_cases hl : vs.length = ws.length
  · obtain ⟨e, he, hall⟩ := h s.heap Z vs ws ra rb hl
    have r := PySem.SeqAt.RcNeAt.lists (s := s) ha.isList hb.isList (by simpa using hl) hu (e := e) fun j h1 h2 => ((he j (by simpa using h1) (by simpa using h2)).at _ _)
    rw [List.size_toArray, hall] at r
    exact r C.prog C.w E Q (hQ _ _ (.refl _) rfl)
  · have r := PySem.SeqAt.RcNeAt.lists_lengths (s := s) ha.isList hb.isList (by simpa using hl) hu
    have := hn (by rw [← ra.length, ← rb.length]; exact hl)
    subst this
    exact r C.prog C.w E Q (hQ _ _ (.refl _) rfl)
end
end Py

namespace Py

/-- what holds of the heap all the while -/
structure WW (K : Frag) (mg mb : Str → Option Value) (h : Heap) : Prop where
  inn : K.In h
  lim : h.NoLimit
  g : h.Ns mainGlobals mg
  b : h.Ns builtinsNs mb
theorem WW.mono {K : Frag} {mg mb : Str → Option Value} (h h' : Heap) (x : WW K mg mb h) (k : Kp h h') : WW K mg mb h' := ⟨x.inn.keeps k, x.lim.keeps k, x.g.keeps k, x.b.keeps k⟩

theorem gv_K {C : Cx} {K : Frag} {mg mb : Str → Option Value} {x : Str} {v : Value} (hW : C.W = WW K mg mb) (e : nsIn K mainGlobals x = some (some v)) (hk : C.env.scope.kind = .function) (hx : C.env.kindOf x = some .globalImplicit) (hg : C.env.globals = mainGlobals) (hd : (x == ("__debug__" : Str)) = false) : GV C x v := by
  intro A s Q E pos hw h
  rw [hW] at hw
  exact Name_function_global hk hx (loadGlobal_global (hg ▸ hw.g) (mg_of hw.inn hw.g e) h) hd
theorem gv_B {C : Cx} {K : Frag} {mg mb : Str → Option Value} {x : Str} {v : Value} (hW : C.W = WW K mg mb) (hB : ∀ x : Str, x ≠ "__name__" → mb x = bootBuiltins x) (e : nsIn K mainGlobals x = some none) (hv : bootBuiltins x = some v) (hn : x ≠ "__name__") (hk : C.env.scope.kind = .function) (hx : C.env.kindOf x = some .globalImplicit) (hg : C.env.globals = mainGlobals) (hb : C.env.builtins = builtinsNs) (hd : (x == ("__debug__" : Str)) = false) : GV C x v := by
  intro A s Q E pos hw h
  rw [hW] at hw
  exact Name_function_global hk hx (loadGlobal_builtin (hg ▸ hw.g) (mg_none_of hw.inn hw.g e) (hb ▸ hw.b) ((hB x hn).trans hv) h) hd

theorem bindL_miss {kindOf : Str → Option NameKind} {x : Str} : ∀ {bs : List (Str × Value)} {m : Str → Option Value}, x ∉ bs.map (·.1) → bindL kindOf bs m x = m x
  | [], _, _ => rfl
  | (n, v) :: r, m, h => by
    rw [List.map_cons, List.mem_cons, not_or] at h
    unfold bindL
    rw [bindL_miss h.2]
    split
    · exact if_neg h.1
    · rfl
theorem bindC_miss {kindOf : Str → Option NameKind} {x : Str} : ∀ {bs : List (Str × Value)} {m : Str → Option Value}, x ∉ bs.map (·.1) → bindC kindOf bs m x = m x
  | [], _, _ => rfl
  | (n, v) :: r, m, h => by
    rw [List.map_cons, List.mem_cons, not_or] at h
    unfold bindC
    rw [bindC_miss h.2]
    split
    · rfl
    · exact if_neg h.1
theorem bindL_hit {kindOf : Str → Option NameKind} {x : Str} {v : Value} (hk : kindOf x = some .local) : ∀ {bs : List (Str × Value)} {m : Str → Option Value}, (bs.map (·.1)).Nodup → (x, v) ∈ bs → bindL kindOf bs m x = some v
  | (n, u) :: r, m, hn, h => by
    rw [List.map_cons, List.nodup_cons] at hn
    unfold bindL
    rcases List.mem_cons.mp h with e | h
    · cases e
      rw [bindL_miss hn.1, if_pos hk]; exact if_pos rfl
    · exact bindL_hit hk hn.2 h
theorem bindC_hit {kindOf : Str → Option NameKind} {x : Str} {v : Value} (hk : kindOf x ≠ some .local) : ∀ {bs : List (Str × Value)} {m : Str → Option Value}, (bs.map (·.1)).Nodup → (x, v) ∈ bs → bindC kindOf bs m x = some v
  | (n, u) :: r, m, hn, h => by
    rw [List.map_cons, List.nodup_cons] at hn
    unfold bindC
    rcases List.mem_cons.mp h with e | h
    · cases e
      rw [bindC_miss hn.1, if_neg hk]; exact if_pos rfl
    · exact bindC_hit hk hn.2 h

noncomputable def fnCx (C : Cx) (fd : FuncData) (h : Heap) (a : Addr) (vs' : List Str) : Cx := { C with env := callEnvC fd h.objs.size a, vs := vs', h₀ := h }
noncomputable def fnChk (sc : Scope) (pn locs : List Str) : Bool :=
  sc.kind == .function && decide ((pn ++ locs).Nodup) && (pn ++ locs).all (fun x => !(x == ("__debug__" : Str))) && (pn ++ locs).all (fun x => sc.names.lookup x == some .local || sc.names.lookup x == some .cell)
  && sc.names.all (fun p => p.2 != .cell || (pn ++ locs).contains p.1) && decide (sc.names.map (·.1)).Nodup
structure FnChk (sc : Scope) (pn locs : List Str) : Prop where
  k1 : sc.kind = .function
  nd : (pn ++ locs).Nodup
  nb : ∀ x ∈ pn ++ locs, (x == ("__debug__" : Str)) = false
  hl : ∀ x ∈ pn ++ locs, sc.names.lookup x = some .local ∨ sc.names.lookup x = some .cell
  hc : ∀ x, (x, NameKind.cell) ∈ sc.names → x ∈ pn ++ locs
  nn : (sc.names.map (·.1)).Nodup
theorem fnChk_of {sc : Scope} {pn locs : List Str} (h : fnChk sc pn locs = true) : FnChk sc pn locs := by
  unfold fnChk at h
  simp only [Bool.and_eq_true, List.all_eq_true, Bool.or_eq_true, beq_iff_eq, decide_eq_true_eq, bne_iff_ne, ne_eq, List.contains_iff_mem] at h
  obtain ⟨⟨⟨⟨⟨h1, h2⟩, h3⟩, h4⟩, h5⟩, h6⟩ := h
  exact ⟨h1, h2, fun x hx => by simpa using h3 x hx, h4, fun x hx => (h5 _ hx).resolve_left (by simp), h6⟩

section
variable {C : Cx} {fd : FuncData} {pn locs : List Str} {h : Heap} {a : Addr}

theorem fn_cells {x : Str} {c : Addr} (hm : (x, c) ∈ (callEnvC fd h.objs.size a).cells) : (x, NameKind.cell) ∈ fd.scope.names ∧ h.objs.size + 1 ≤ c := by
  rcases cells_mem hm with q | q
  · exact q
  · cases q
theorem fn_names (K : FnChk fd.scope pn locs) : ((callEnvC fd h.objs.size a).cells.map (·.1)).Nodup := cells_names K.nn List.nodup_nil fun _ h => by cases h
theorem fn_lookup (K : FnChk fd.scope pn locs) {x : Str} (hx : (x, NameKind.cell) ∈ fd.scope.names) : ∃ c, (callEnvC fd h.objs.size a).cells.lookup x = some c := by
  obtain ⟨c, hc⟩ := cells_ex (n := h.objs.size + 1) (acc := []) hx
  exact ⟨c, lookup_of_mem (fn_names (h := h) (a := a) K) hc⟩
theorem get_none {b : Addr} (hb : h.objs.size ≤ b) : h.get? b = none := by
  cases e : h.get? b with
  | none => rfl
  | some o => exact absurd (Heap.lt_size e) (Nat.not_lt.mpr hb)

theorem fn_ok (hmono : ∀ h h', C.W h → Kp h h' → C.W h') (hlim : ∀ h, C.W h → h.NoLimit) (hw : C.W h) (K : FnChk fd.scope pn locs) : (fnCx C fd h a (pn ++ locs)).Ok where
  mono := hmono
  w0 := hw
  lim := hlim
  fk := K.k1
  nodup := K.nd
  nodbg := K.nb
  loc := fun x hx => by
    rcases K.hl x hx with q | q
    · exact .inl q
    · obtain ⟨c, hc⟩ := fn_lookup (h := h) (a := a) K (mem_of_lookup q)
      exact .inr ⟨c, hc, .inl q⟩
  apart := cells_apart List.Pairwise.nil fun _ h => by cases h
  newL := get_none (Nat.le_refl _)
  newC := fun x hx => get_none (Nat.le_of_succ_le (fn_cells (x := x.1) (c := x.2) hx).2)
  cov := fun x hx => by
    have q := (fn_cells (x := x.1) (c := x.2) hx).1
    refine ⟨K.hc _ q, ?_, lookup_of_mem (fn_names K) hx⟩
    show fd.scope.names.lookup x.1 ≠ some .local
    rw [lookup_of_mem K.nn q]; simp

theorem RepB.e {h' : Heap} {Z : Addr → Prop} {p : PV} {v : Value} (k : Kp h h') (r : RepB h Z p v) : Rep h' (fun _ => False) p v := by
  have r := r.kp k
  cases p with
  | list xs =>
    obtain ⟨b, vs, rfl, hl, rs⟩ := r
    simp only [Rep]
    exact ⟨b, vs, rfl, hl, id, Reps.chg (fun _ _ e _ _ => ⟨e, id⟩) _ _ rs⟩
  | _ => exact Rep.chg (Z := Z) (fun _ _ e _ _ => ⟨e, id⟩) _ _ r

theorem fn_vars {s₁ : Shared} {Z : Addr → Prop} {ps : List PV} {vals : List Value} (K : FnChk fd.scope pn locs) (k : Kp h s₁.heap) (hlen : pn.length = vals.length) (hr : RepBs h Z ps vals)
    (X : InCallC s₀ (callEnvC fd h.objs.size a).locals (bindL (callEnvC fd h.objs.size a).kindOf (pn.zip vals) fun _ => none) (callEnvC fd h.objs.size a).cells (bindC (callEnvC fd h.objs.size a).kindOf (pn.zip vals) fun _ => none) s₁) :
    Vars (callEnvC fd h.objs.size a) s₁.heap (fun _ => False) (bindL (callEnvC fd h.objs.size a).kindOf (pn.zip vals) fun _ => none) (pn ++ locs) (ps.map .v ++ locs.map fun _ => .unb) := by
  have hz : ((pn.zip vals).map (·.1)) = pn := by
    rw [List.map_fst_zip]; exact Nat.le_of_eq hlen
  have hnd : ((pn.zip vals).map (·.1)).Nodup := by rw [hz]; exact (List.nodup_append.mp K.nd).1
  have G : ∀ {xs : List Str}, (∀ x ∈ xs, x ∈ pn ++ locs) → Vars (callEnvC fd h.objs.size a) s₁.heap (fun _ => False) (bindL (callEnvC fd h.objs.size a).kindOf (pn.zip vals) fun _ => none) xs (xs.map fun _ => .unb) := by
    intro xs
    induction xs with
    | nil => intro _; trivial
    | cons x xs ih =>
      intro hx
      refine ⟨fun _ c hc => ⟨_, X.cell x c hc⟩, ih fun y hy => hx y (.tail _ hy)⟩
  have F : ∀ {xs : List Str} {qs : List PV} {us : List Value}, (∀ y ∈ xs.zip us, y ∈ pn.zip vals) → (∀ x ∈ xs, x ∈ pn) → xs.length = us.length → RepBs h Z qs us → Vars (callEnvC fd h.objs.size a) s₁.heap (fun _ => False) (bindL (callEnvC fd h.objs.size a).kindOf (pn.zip vals) fun _ => none) (xs ++ locs) (qs.map .v ++ locs.map fun _ => .unb) := by
    intro xs
    induction xs with
    | nil =>
      intro qs us _ _ hl hr
      cases us with
      | cons => simp at hl
      | nil => cases qs with
        | nil => exact G fun x hx => List.mem_append_right _ hx
        | cons => obtain ⟨_, _, q, _⟩ := hr; cases q
    | cons x xs ih =>
      intro qs us hm hx hl hr
      cases us with
      | nil => simp at hl
      | cons u us =>
        cases qs with
        | nil => cases hr
        | cons q qs =>
          obtain ⟨v, r, e, h1, h2⟩ := hr
          cases e
          refine ⟨⟨u, ?_, h1.e k⟩, ih (fun y hy => hm y (.tail _ hy)) (fun y hy => hx y (.tail _ hy)) (by simpa using hl) h2⟩
          have hin : (x, u) ∈ pn.zip vals := hm _ (.head _)
          have hxp : x ∈ pn ++ locs := List.mem_append_left _ (hx x (.head _))
          rcases K.hl x hxp with kl | kc
          · exact .inl ⟨kl, bindL_hit kl hnd hin⟩
          · have nk : (callEnvC fd h.objs.size a).kindOf x ≠ some .local := by
              show fd.scope.names.lookup x ≠ _
              rw [kc]; simp
            obtain ⟨c, hc⟩ := fn_lookup (h := h) (a := a) K (mem_of_lookup kc)
            refine .inr ⟨nk, c, hc, ?_⟩
            have := X.cell x c hc
            rw [bindC_hit nk hnd hin] at this
            exact this
  exact F (fun _ h => h) (fun _ h => h) hlen hr
theorem RepBs.length {Z : Addr → Prop} : ∀ {ps : List PV} {vs : List Value}, RepBs h Z ps vs → vs.length = ps.length
  | [], _, x => by cases x; rfl
  | _ :: ps, _, ⟨v, r, e, _, h2⟩ => by subst e; simp [RepBs.length h2]

theorem len0 {P : List Value → Prop} (h0 : P []) : ∀ vals : List Value, vals.length = 0 → P vals := fun _ h => (List.length_eq_zero_iff.mp h) ▸ h0
theorem len1 {P : List Value → Prop} (h1 : ∀ a, P [a]) : ∀ vals : List Value, vals.length = 1 → P vals := fun vals h => by
  obtain ⟨a, rfl⟩ := List.length_eq_one_iff.mp h
  exact h1 a
theorem len2 {P : List Value → Prop} (h2 : ∀ a b, P [a, b]) : ∀ vals : List Value, vals.length = 2 → P vals := fun vals h => by
  cases vals with
  | nil => cases h
  | cons a r => exact len1 (P := fun r => P (a :: r)) (h2 a) r (Nat.succ.inj h)
theorem len3 {P : List Value → Prop} (h3 : ∀ a b c, P [a, b, c]) : ∀ vals : List Value, vals.length = 3 → P vals := fun vals h => by
  cases vals with
  | nil => cases h
  | cons a r => exact len2 (P := fun r => P (a :: r)) (h3 a) r (Nat.succ.inj h)

/-- how a function ends -/
noncomputable def Ends (r : PV) : Post := fun fl _ _ => fl = .ret r ∨ (fl = .next ∧ r = .none)

/-- a function, called -/
theorem fn_call {ps : List PV} {r : PV} {n : Nat} {o : Obj} {body : List Stmt} (hmono : ∀ h h', C.W h → Kp h h' → C.W h') (hlim : ∀ h, C.W h → h.NoLimit) (ho : ∀ h, C.W h → h.get? a = some o) (hdata : o.data = .func fd)
    (hbody : fd.body = .stmts body) (hcd : ∀ h, C.W h → h.CodeRec fd.code fd.qualname) (chk : fnChk fd.scope pn locs = true) (hbind : ∀ vals : List Value, vals.length = pn.length → bindArgs fd ⟨vals, []⟩ = pure (pn.zip vals)) (hps : ps.length = pn.length)
    (hrun : ∀ (h : Heap) (A : Around), OkA n A → (fnCx C fd h a (pn ++ locs)).Ok → WS (fnCx C fd h a (pn ++ locs)) A (fun _ => False) (ps.map .v ++ locs.map fun _ => .unb) body (Ends r))
    (hclo : fd.closure = [] := by rfl) (hco : fd.scope.isCoroutine = false := by rfl) (hgen : fd.scope.isGenerator = false := by rfl) : OpN C (n + 1) (fun vs => call (.ref a) vs) ps .n r := by
  intro A Z s Q E vs H hr hQ
  have K := fnChk_of chk
  have hlen : vs.length = pn.length := by rw [RepBs.length hr, hps]
  refine wpAny_call (codeAny_call_cells (o := o) (fd := fd) (by have := H.a.d; omega) (ho _ H.w) hdata H.lim (hcd _ H.w) hbody (hbind vs hlen) hclo (fun x hx => ?_) (fun s₁ X => ?_) hco hgen K.k1)
  · have hxp : x.1 ∈ pn ++ locs := List.mem_append_left _ (List.of_mem_zip (a := x.1) (b := x.2) hx).1
    rcases K.hl _ hxp with q | q
    · exact .inl q
    · obtain ⟨c, hc⟩ := fn_lookup (h := s.heap) (a := a) K (mem_of_lookup q)
      exact .inr ⟨q, by rw [show List.lookup x.1 (cellsFrom (s.heap.objs.size + 1) fd.scope.names []) = _ from hc]; rfl⟩
  · obtain ⟨h', tk, rfl, hk⟩ := X.done
    have ok' := fn_ok (a := a) hmono hlim H.w K
    have S : St (fnCx C fd s.heap a (pn ++ locs)) (fun _ => False) (ps.map .v ++ locs.map fun _ => .unb) { s with heap := h', toks := tk } := by
      refine ⟨hk, fun _ z => z.elim, fun _ z => z.elim, ?_, _, X.toInCall.ns, fn_vars K hk (by rw [hlen]) hr X⟩
      have : ∀ qs : List PV, owns (qs.map LV.v ++ locs.map fun _ => LV.unb) = [] := by
        intro qs
        induction qs with
        | nil =>
          clear hrun chk K ok'
          induction locs with
          | nil => rfl
          | cons x r ih => exact ih
        | cons x r ih => exact ih
      rw [this]; exact List.nodup_nil
    refine hrun s.heap (A.deeper (callEnvC fd s.heap.objs.size a)) H.a.deeper ok' _ _ _ S fun fl f Z' σ' s' hp S' F L hf => ?_
    have np : ∀ b o, s.heap.get? b = some o → ¬ Priv (fnCx C fd s.heap a (pn ++ locs)) (fun _ => False) b := by
      rintro b o e (q | q | ⟨x, hx, q⟩)
      · exact q
      · have := ok'.newL
        rw [← q] at this
        rw [show (fnCx C fd s.heap a (pn ++ locs)).h₀ = s.heap from rfl, e] at this; cases this
      · have := ok'.newC x hx
        rw [q, show (fnCx C fd s.heap a (pn ++ locs)).h₀ = s.heap from rfl, e] at this; cases this
    have X' : Ext s s' := ⟨fun b o e => F.kp b o (hk b o e) (np b o e), F.gk, F.dr, F.os⟩
    rcases hp with rfl | ⟨rfl, rfl⟩
    · obtain ⟨v, rfl, rv⟩ := hf
      refine hQ v s' X' ⟨Rep.chg (fun b o e q z => ⟨e, fun zz => z (H.zl b zz)⟩) _ _ rv, fun b e => ?_⟩
      subst e
      cases r with
      | list xs =>
        unfold RepN at rv
        simp only [Rep] at rv
        obtain ⟨b', vs', e, _, nz, _⟩ := rv
        cases e
        cases e : s.heap.get? b with
        | none => rfl
        | some o => exact absurd ⟨o, e⟩ nz
      | tup xs =>
        unfold RepN at rv
        simp only [Rep] at rv
        obtain ⟨b', vs', e, _, nz, _⟩ := rv
        cases e
        cases e : s.heap.get? b with
        | none => rfl
        | some o => exact absurd ⟨o, e⟩ nz
      | none => cases rv
      | bool b => cases rv
      | int i => obtain ⟨t, q⟩ := rv; cases q
      | str i => obtain ⟨t, q⟩ := rv; cases q
    · have hf : f = .next := hf
      subst hf
      exact hQ .none s' X' ⟨rfl, fun b e => by cases e⟩
end
end Py

namespace Py

-- plain sorting
noncomputable def insI (x : Int) : List Int → List Int
  | [] => [x]
  | y :: r => if x ≤ y then x :: y :: r else y :: insI x r
noncomputable def srt : List Int → List Int
  | [] => []
  | x :: r => insI x (srt r)
theorem insI_perm (x : Int) : ∀ l : List Int, (insI x l).Perm (x :: l)
  | [] => .refl _
  | y :: r => by
    unfold insI
    split
    · exact .refl _
    · exact ((insI_perm x r).cons y).trans (.swap x y r)
theorem srt_perm : ∀ l : List Int, (srt l).Perm l
  | [] => .refl _
  | x :: r => (insI_perm x (srt r)).trans ((srt_perm r).cons x)
theorem insI_sorted (x : Int) : ∀ {l : List Int}, l.Pairwise (· ≤ ·) → (insI x l).Pairwise (· ≤ ·)
  | [], _ => by simp [insI]
  | y :: r, h => by
    have h' := List.pairwise_cons.mp h
    unfold insI
    split
    · rename_i hxy
      refine List.pairwise_cons.mpr ⟨fun z hz => ?_, h⟩
      rcases List.mem_cons.mp hz with rfl | hz
      · exact hxy
      · exact Int.le_trans hxy (h'.1 z hz)
    · rename_i hxy
      refine List.pairwise_cons.mpr ⟨fun z hz => ?_, insI_sorted x h'.2⟩
      rcases List.mem_cons.mp ((insI_perm x r).mem_iff.mp hz) with rfl | hz
      · omega
      · exact h'.1 z hz
theorem srt_sorted : ∀ l : List Int, (srt l).Pairwise (· ≤ ·)
  | [] => .nil
  | x :: r => insI_sorted x (srt_sorted r)
theorem sorted_unique {le : Int → Int → Prop} (anti : ∀ a b, le a b → le b a → a = b) : ∀ {a b : List Int}, a.Perm b → a.Pairwise le → b.Pairwise le → a = b
  | [], b, hp, _, _ => by simpa using hp.symm
  | x :: a, b, hp, ha, hb => by
    cases b with
    | nil => simp at hp
    | cons y b =>
      have ha' := List.pairwise_cons.mp ha
      have hb' := List.pairwise_cons.mp hb
      have e : x = y := by
        rcases List.mem_cons.mp (hp.mem_iff.mp (.head _)) with e | hx
        · exact e
        · rcases List.mem_cons.mp (hp.mem_iff.mpr (.head _)) with e | hy
          · exact e.symm
          · exact anti _ _ (ha'.1 y hy) (hb'.1 x hx)
      subst e
      rw [sorted_unique anti hp.cons_inv ha'.2 hb'.2]
theorem eq_srt {a b : List Int} (hp : a.Perm b) (hs : a.Pairwise (· ≤ ·)) : a = srt b :=
  sorted_unique (fun _ _ h1 h2 => Int.le_antisymm h1 h2) (hp.trans (srt_perm b).symm) hs (srt_sorted b)
theorem eq_srt_rev {a b : List Int} (hp : a.Perm b) (hs : a.Pairwise (· ≥ ·)) : a = (srt b).reverse := by
  have h : a.reverse = srt b := eq_srt (a.reverse_perm.trans hp) (List.pairwise_reverse.mpr hs)
  rw [← h, List.reverse_reverse]

section
variable {C : Cx} {A : Around} {Z : Addr → Prop} {σ : List LV} {k0 : Nat}

theorem sorted_res {s : Shared} {vs : List Value} {out : Array Value} {ns : List Int} (zl : ∀ a, Z a → ∃ o, s.heap.get? a = some o) (h : IntsAre out.toList ns) : Ext s { s with heap := sortedAll s.heap vs out } ∧ Res .n Z s.heap (sortedAll s.heap vs out) (LI ns) (.ref (s.heap.objs.size + 1)) := by
  have k : Kp s.heap (sortedAll s.heap vs out) := fun b o e => sortedAll_old e
  have n : s.heap.get? (s.heap.objs.size + 1) = none := fresh_size (Nat.le_succ _)
  refine ⟨Ext.heap' k, ?_, fun a e => by cases e; exact n⟩
  simp only [Rep]
  obtain ⟨e, he⟩ := sortedAll_at s.heap vs out
  refine ⟨_, out.toList, rfl, ⟨e, by simpa using he⟩, fun z => ?_, IntsAre.reps h⟩
  obtain ⟨o, q⟩ := zl _ z
  rw [n] at q; cases q

/-- sorted(list, reverse=True) -/
theorem ev_sorted_rev {e ke : Expr} {ns : List Int} {k : RK} {p kp pos : Pos} (ok : C.Ok) {n : Nat} (hA : OkA n A) (g : GV C "sorted" (.builtin "sorted")) (he : Ev C A Z σ e k (LI ns)) (hk : Ev C A Z σ ke .f (.bool true)) (h64 : ns.length < 64)
    (hse : ∀ rest env, starEach (e :: rest) env = (false, eval e env) :: starEach rest env := by intro _ _; rfl) :
    Ev C A Z σ (.Call (.Name "sorted" p) [e] [⟨some (Str.ofString "reverse"), ke, kp⟩] pos) .n (LI (srt ns).reverse) := by
  intro s Q E S hQ
  show wpAny C.M A (do callWith pos (← eval (.Name "sorted" p) C.env) [] (backTo pos (starEach [e] C.env)) (backToKw pos (keywordEach [⟨some (Str.ofString "reverse"), ke, kp⟩] C.env))) Q E s
  refine wpAny_bind (g _ _ _ _ _ (ok.mono _ _ ok.w0 S.keep) ?_)
  refine callWith_kw ?_ (by rw [hse]; rfl) (by rw [hse]; rfl) rfl rfl
  rw [hse, backTo_cons]
  refine spliced_cons (he s _ E S fun v s1 X1 r1 => spliced_nil ?_)
  refine kws_cons (hk s1 _ E (S.ext X1) fun b s2 X2 r2 => kws_nil ?_)
  have r2 : b = .bool true := r2
  subst r2
  obtain ⟨a, vs, rfl, hl, rs⟩ := r1.toB.kp X2.kp
  have H := ((S.ext X1).ext X2).here ok hA
  refine sorted_ints_rev hl.isList rs.ints (by rw [rs.length]; simpa using h64) fun out ns' h1 h2 h3 => ?_
  have e : ns' = (srt ns).reverse := eq_srt_rev h2 (by simpa [Ordered] using h3)
  subst e
  obtain ⟨X3, r3⟩ := sorted_res (vs := vs) H.zl h1
  exact hQ _ _ ((X1.trans X2).trans X3) (r3.kpL (X1.trans X2).kp)

/-- list(list) -/
theorem fn_list {xs : List PV} (h : xs.length ≤ sizeLine) : OpN C k0 (fun vs => call (.type "list") vs) [.list xs] .n (.list xs) := by
  rintro A Z s Q E vs H ⟨v, r, rfl, ⟨a, ws, rfl, ⟨n, hl⟩, rs⟩, rfl⟩ hQ
  refine call_list_seq a (.inl rfl) hl rfl rfl (fun h' c' hk hd => ?_) (by rw [List.size_toArray, rs.length]; exact h)
  refine hQ _ _ (Ext.heap' hk) ⟨?_, fun b e => by cases e; exact size_none _⟩
  simp only [Rep]
  refine ⟨_, ws, rfl, ⟨c', hd⟩, fun z => ?_, rs.kp hk⟩
  obtain ⟨o, q⟩ := H.zl _ z
  rw [size_none] at q; cases q

/-- hex(int) -/
theorem fn_hex {i : Int} (h : (baseText "0x" 16 i).length ≤ sizeLine) : OpN C k0 (fun vs => call (.builtin "hex") vs) [.int i] .f (.str (baseText "0x" 16 i)) := by
  rintro A Z s Q E vs H ⟨v, r, rfl, ⟨t, rfl⟩, rfl⟩ hQ
  exact P.hex_of_int (hQ _ _ (Ext.toks _ _) ⟨_, rfl⟩) h

theorem strs_values : ∀ l : List (Str × Tok), StrsAre (strValues l) (l.map (·.1))
  | [] => .nil
  | (x, t) :: r => .cons x t (strs_values r)
theorem res_strs {s : Shared} {vs : List Value} {ss : List Str} (zl : ∀ a, Z a → ∃ o, s.heap.get? a = some o) (h : StrsAre vs ss) (tk : Tok) : Ext s { s with toks := tk, heap := s.heap.push { cls := .type "list", data := .seq vs.toArray } } ∧ Res .n Z s.heap (s.heap.push { cls := .type "list", data := .seq vs.toArray }) (LS ss) (.ref s.heap.objs.size) :=
  ⟨Ext.heap (fun _ _ e => Heap.get?_push_of_some _ e) _, res_list zl (StrsAre.reps h)⟩
/-- text.split(text) -/
theorem fn_split {x y : Str} (hy : (y.length == 0) = false) (hx : x.length ≤ sizeLine) (hn : (Builtin.Str.partsBetween x (Builtin.Str.occurrences x y 0 x.length (x.length + 1)) y.length).length ≤ sizeLine) :
    OpN C k0 (fun vs => call (.builtin "str.split") vs) [.str x, .str y] .n (LS (Txt.split x y)) := by
  rintro A Z s Q E vs H ⟨v, r, rfl, ⟨t, rfl⟩, ⟨v', r', rfl, ⟨u, rfl⟩, rfl⟩⟩ hQ
  cases h1 : (decide (x.length < y.length) || decide (Builtin.Str.strKind x < Builtin.Str.strKind y))
  · cases hf : (Builtin.Str.occurrences x y 0 x.length (x.length + 1)).isEmpty
    · refine call_meets F.slot_str_split (typeIs_str _ _ _) F.entry_str_split (F.args_str_split_2 _ _) (meets_str_split_sep x y t u h1 hy hf hx hn) ?_
      show wants Q E _ { s with toks := _, heap := s.heap.push { cls := .type "list", data := .seq (strsFrom s.toks (Builtin.Str.partsBetween x (Builtin.Str.occurrences x y 0 x.length (x.length + 1)) y.length)).toArray } }
      rw [strsFrom_eq]
      have e : (numbered s.toks (Builtin.Str.partsBetween x (Builtin.Str.occurrences x y 0 x.length (x.length + 1)) y.length)).map (·.1) = Txt.split x y := (numbered_texts _ _).trans ((if_neg (ne_true_of_eq_false h1)).trans (if_neg (ne_true_of_eq_false hf))).symm
      have q := strs_values (numbered s.toks (Builtin.Str.partsBetween x (Builtin.Str.occurrences x y 0 x.length (x.length + 1)) y.length))
      rw [e] at q
      obtain ⟨X, r⟩ := res_strs H.zl q (s.toks + (Builtin.Str.partsBetween x (Builtin.Str.occurrences x y 0 x.length (x.length + 1)) y.length).length)
      exact hQ _ _ X r
    · have e : Txt.split x y = [x] := (if_neg (ne_true_of_eq_false h1)).trans (if_pos hf)
      refine call_meets F.slot_str_split (typeIs_str _ _ _) F.entry_str_split (F.args_str_split_2 _ _) (meets_str_split_not_found x y t u h1 hy hf) ?_
      obtain ⟨X, r⟩ := res_strs H.zl (strs_values [(x, t)]) s.toks
      rw [e] at hQ
      exact hQ _ _ X r
  · have e : Txt.split x y = [x] := if_pos h1
    refine call_meets F.slot_str_split (typeIs_str _ _ _) F.entry_str_split (F.args_str_split_2 _ _) (meets_str_split_cannot_occur x y t u h1) ?_
    obtain ⟨X, r⟩ := res_strs H.zl (strs_values [(x, t)]) s.toks
    rw [e] at hQ
    exact hQ _ _ X r
theorem meth_split : Meth "split" "str" "str.split" := ⟨F.plainAttrs_str, F.slot_str_split, F.type_str_split⟩

/-- a global dict of texts by ints, asked with a text in hand -/
theorem dict_get {d : Addr} {es : Array DictEntry} {ep : Nat} {k : Int} {t : Tok} {dflt : Value} {s : Shared} {Q : Value → Shared → Prop} {E : Value → Shared → Prop} (ho : s.heap.get? d = some { cls := .type "dict", data := .dict es ep }) (hd : (d == sysModules) = false)
    (hk : ∀ e ∈ es.toList, ∃ k t, e.key = .int k t ∧ e.hash = hashInt k) (h : Q ((findBy Value.isInt es k).getD dflt) { s with toks := s.toks + 1 }) : wpAny C.M A (call (.builtin "dict.get") [.ref d, .int k t, dflt]) Q E s := by
  refine call_meetsIn F.slot_dict_get ⟨_, ho, rfl⟩ F.entry_dict_get (F.args_dict_get_3 _ _ _) (meets_dict_get_default (intKind C.prog C.w) (k := k) d (by simp [intKind, Value.isInt]) hd dflt) ⟨fun k => findBy Value.isInt es k, ⟨_, es, ep, ho, ⟨rfl, rfl, rfl⟩, rfl, fun e he => ?_, fun _ => rfl⟩, h⟩
  obtain ⟨k, t, h1, h2⟩ := hk e (by simpa using he)
  exact ⟨k, by rw [h1]; simp [intKind, Value.isInt], h2⟩
end
end Py

namespace Py

section
variable {prog : Program} {w : World} {A : Around} {R : GenEnd} {Y : Protocol} {n : Nat} {s₀ : Shared} {c : Code} {fs : List PySem.Frame} {s : Shared} {env : Env}
  {K : Flow → Sem Fin} {H : Value → Sem Fin} {gd : Bool → Bool} {lv : List Value → List Value}

noncomputable def ownRaise (env : Env) (x : Value) : Sem Unit := do
  if (← field x 1) == Value.none then unsupported "frame.own-activation:exception-without-traceback"
  setFlight x env.frame

theorem seg_For {target iter : Expr} {body orelse : List Stmt} {pos : Pos} (hs : ∀ x, foldedSetIterable iter env x = pure x)
    (h : wpAny (model prog w) (A.over c fs) (eval iter env) (fun x s₁ => wpAny (model prog w) (A.over c fs) (pyIter x) (fun it s₂ => ∀ p, Seg (model prog w) A R Y n s₀ (.forLoop target it body orelse env) ((model prog w).den (.forLoop target it body orelse env))
      (.ret (fun r => ((match r with | .ok f => (.pure f : Sem Flow) | .error e => .raise e).onRaise (ownRaise env)).wrap K H gd lv) none (gd false) (lv []) c p [] :: fs) s₂) (fun _ _ => False) s₁) (fun _ _ => False) s) :
    Seg (model prog w) A R Y n s₀ c ((exec (.For target iter body orelse pos) env).wrap K H gd lv) fs s := by
  rw [exec_For]
  rw [Sem.bind_eq_wrap', Sem.wrap_wrap]
  refine seg_wrap (wpAny_standAt ?_)
  rw [Sem.bind_eq_wrap', Sem.wrap_wrap]
  refine seg_wrap (wpAny_mono h (fun x s₁ h₁ => ?_) fun _ _ x => x.elim)
  rw [hs x, pure_bind]
  rw [Sem.bind_eq_wrap', Sem.wrap_wrap]
  refine seg_wrap (wpAny_standAt ?_)
  rw [Sem.bind_eq_wrap', Sem.wrap_wrap]
  refine seg_wrap (wpAny_holding (wpAny_mono h₁ (fun it s₂ h₂ => ?_) fun _ _ x => x.elim))
  exact seg_call h₂

theorem seg_forLoop {target : Expr} {it : Value} {body orelse : List Stmt} {G : Value → Sem Fin → Prop}
    (h : wpAny (model prog w) (A.over (.forLoop target it body orelse env) fs) (pyNext it) (fun r s₁ => match r with
      | none => Seg (model prog w) A R Y n s₀ (.block orelse env) ((model prog w).den (.block orelse env)) fs s₁
      | some v => wpAny (model prog w) (A.over (.forLoop target it body orelse env) fs) (letOwnedTupleGo target it v) (fun _ s₁' => wpAny (model prog w) (A.over (.forLoop target it body orelse env) fs) (assign target env v) (fun _ s₂ =>
          ∀ H' : Value → Sem Fin, Seg (model prog w) A R Y n s₀ (.forLoop target it body orelse env) ((execs body env).wrap (fun f => match f with
            | .next | .cont => .pure (.again (.forLoop target it body orelse env))
            | .brk => .pure (.done .next)
            | .ret v => .pure (.done (.ret v))) H' id id) fs s₂) (fun _ _ => False) s₁') (fun _ _ => False) s₁) (fun _ _ => False) s) :
    Seg (model prog w) A R Y n s₀ (.forLoop target it body orelse env) ((model prog w).den (.forLoop target it body orelse env)) fs s := by
  show Seg _ A R Y n s₀ _ ((forTurn target it body orelse env).onRaise (fun x => do noteFrame x env; theTreesLotGoes x)) fs s
  unfold forTurn
  rw [Sem.onRaise_eq_wrap, Sem.bind_eq_wrap', Sem.wrap_wrap]
  refine seg_wrap (wpAny_standAt ?_)
  rw [Sem.bind_eq_wrap', Sem.wrap_wrap]
  refine seg_wrap (wpAny_onRaise (wpAny_mono h (fun r s₁ h₁ => ?_) fun _ _ x => x.elim))
  cases r with
  | none => exact seg_again rfl h₁
  | some v =>
    show Seg _ A R Y n s₀ _ (Sem.wrap _ _ _ _ (letOwnedTupleGo target it v >>= _)) fs s₁
    rw [Sem.bind_eq_wrap', Sem.wrap_wrap]
    refine seg_wrap (wpAny_mono h₁ (fun _ s₂ h₂ => ?_) fun _ _ x => x.elim)
    rw [Sem.bind_eq_wrap', Sem.wrap_wrap]
    refine seg_wrap (wpAny_mono h₂ (fun _ s₃ h₃ => ?_) fun _ _ x => x.elim)
    rw [Sem.bind_eq_wrap', Sem.wrap_wrap]
    rw [Sem.wrap_congr (execs body env) _ _ (K' := fun f => match f with
            | .next | .cont => .pure (.again (.forLoop target it body orelse env))
            | .brk => .pure (.done .next)
            | .ret v => .pure (.done (.ret v))) (fun f => by cases f <;> rfl) (fun e => rfl)]
    exact h₃ _

theorem seg_block_nil {p : Pos} {k : Result → Sem Fin} {g : Bool} {l : List Value} (h : Seg (model prog w) A R Y n s₀ c (k (.ok .next)) fs s) :
    Seg (model prog w) A R Y n s₀ (.block [] env) ((model prog w).den (.block [] env)) (.ret k none g l c p [] :: fs) s :=
  seg_leaf (.ok .next) h
theorem seg_done {c' : Code} {p : Pos} {k : Result → Sem Fin} {g : Bool} {l : List Value} {f : Flow} (h : Seg (model prog w) A R Y n s₀ c (k (.ok f)) fs s) :
    Seg (model prog w) A R Y n s₀ c' (.pure (.done f)) (.ret k none g l c p [] :: fs) s :=
  seg_leaf (.ok f) h
end
end Py

namespace Py

noncomputable def noZ : Addr → Prop := fun _ => False

/-- what a generator's code may do between two stops: hb is the heap of the call -/
structure Mg (hb : Heap) (s s' : Shared) : Prop where
  kp : ∀ b o, s.heap.get? b = some o → (hb.get? b ≠ none ∨ SeqObj o ∨ ∃ w, o.data = .cell w) → s'.heap.get? b = some o
  gk : GK s.gens s'.gens
  dr : s'.drawn = s.drawn
  os : s'.os = s.os
theorem Mg.refl {hb : Heap} {s : Shared} : Mg hb s s := ⟨fun _ _ e _ => e, .refl _, rfl, rfl⟩
theorem Mg.trans {hb : Heap} {a b c : Shared} (x : Mg hb a b) (y : Mg hb b c) : Mg hb a c := ⟨fun q o e h => y.kp q o (x.kp q o e h) h, x.gk.trans y.gk, y.dr.trans x.dr, y.os.trans x.os⟩
theorem Mg.ext {hb : Heap} {a b : Shared} (x : Ext a b) : Mg hb a b := ⟨fun q o e _ => x.kp q o e, x.gk, x.dr, x.os⟩

/-- what others may do while it stands -/
noncomputable def Kg (hb h0 : Heap) (s s' : Shared) : Prop := ∀ b o, s.heap.get? b = some o → ((¬ SeqObj o ∧ hb.get? b = none) ∨ h0.get? b ≠ none) → s'.heap.get? b = some o
theorem Kg.trans {hb h0 : Heap} {a b c : Shared} (x : Kg hb h0 a b) (y : Kg hb h0 b c) : Kg hb h0 a c := fun q o e h => y q o (x q o e h) h

/-- a value that is new, or holds no address -/
noncomputable def RepS (h₀ h : Heap) (p : PV) (v : Value) : Prop := Rep h (fun a => ∃ o, h₀.get? a = some o ∧ SeqObj o) p v
noncomputable def Yg (hb h0 : Heap) (Yv : Nat → PV) (ends : Bool) : Protocol := fun n s₀ v s kap => RepS s₀.heap s.heap (Yv n) v ∧ Mg hb s₀ s ∧ ((0 < n ∨ ends = true) → ∀ s'', Kg hb h0 s s'' → kap (.send .none) s'')
noncomputable def Pg (hb : Heap) (ends : Bool) : Nat → Shared → Shared → Prop := fun n s₀ s => (n = 0 ∧ ends = true) ∧ Mg hb s₀ s
noncomputable def Rg (hb : Heap) (ends : Bool) : GenEnd := fun n s₀ r s => r = .ok (.ret .none) ∧ Pg hb ends n s₀ s

structure FsOk (b : Nat) (A : Around) (c : Code) (fs : List PySem.Frame) : Prop where
  a : OkA b (A.over c fs)
  sp : splitAtGen fs = none
  ng : fs.any PySem.Frame.guarded = false
theorem FsOk.push {b : Nat} {A : Around} {c c' : Code} {fs : List PySem.Frame} {k : Result → Sem Fin} {l : List Value} {p : Pos} (h : FsOk b A c fs) (hw : c'.weight = 0 := by rfl) (hu : c'.cUnits = 0 := by rfl) : FsOk b A c' (.ret k none false l c p [] :: fs) := by
  refine ⟨⟨h.a.h, ?_, ?_⟩, ?_, ?_⟩
  · have := h.a.d
    simp only [Around.over, List.map_cons, PySem.Frame.where_, frameCount_cons, hw] at this ⊢
    omega
  · have := h.a.u
    simp only [Around.over, List.map_cons, PySem.Frame.where_, unitsOf_cons, hu] at this ⊢
    omega
  · simp only [splitAtGen, h.sp, Option.map_none]
  · simp only [List.any_cons, PySem.Frame.guarded, h.ng, Bool.or_self]
theorem FsOk.func {b : Nat} {A : Around} {body : List Stmt} {env : Env} (h : OkA (b + 1) A) : FsOk b A (.func body env) [] := by
  refine ⟨⟨h.h, ?_, ?_⟩, rfl, rfl⟩
  · have := h.d
    show A.depth + 0 + 1 + b < recursionLimit
    omega
  · have := h.u
    show A.units + 0 + 3 + 4 * b + 16 < cLine
    omega

noncomputable def ScalS (σ : List LV) : Prop := ∀ l ∈ σ, l = .unb ∨ ∃ p, l = .v p ∧ Scal p

/-- a generator's own context, and what is known of it -/
structure GOk (C : Cx) (hb : Heap) : Prop where
  ok : C.Ok
  cells : C.env.cells = []
  nl : hb.get? C.env.locals = none
  sub : ∀ b o, C.h₀.get? b = some o → hb.get? b = some o
  co : C.env.scope.isCoroutine = false
  ia : interactive C.env = false

section
variable {C : Cx} {hb : Heap} {σ : List LV}

theorem locals_plain {s : Shared} {Z : Addr → Prop} (S : St C Z σ s) {o : Obj} (e : s.heap.get? C.env.locals = some o) : ¬ SeqObj o ∧ ∀ w, o.data ≠ .cell w := by
  obtain ⟨m, hn, _⟩ := S.vars
  exact ⟨ns_seq hn e, fun w d => ns_cell hn ⟨o, e, d⟩⟩

theorem St.kg {s s' : Shared} (G : GOk C hb) (hsc : ScalS σ) (S : St C noZ σ s) (k : Kg hb C.h₀ s s') : St C noZ σ s' := by
  obtain ⟨m, hn, V⟩ := S.vars
  refine ⟨fun b o e => k b o (S.keep b o e) (.inr (by rw [e]; simp)), S.zf, fun _ z => z.elim, S.nd, m, ?_, ?_⟩
  · obtain ⟨o, es, ep, e, r⟩ := hn
    exact ⟨o, es, ep, k _ o e (.inl ⟨(locals_plain S e).1, G.nl⟩), r⟩
  · have : ∀ {xs : List Str} {ls : List LV}, ScalS ls → Vars C.env s.heap noZ m xs ls → Vars C.env s'.heap noZ m xs ls := by
      intro xs
      induction xs with
      | nil => intro ls _ V; cases ls with | nil => trivial | cons => exact V.elim
      | cons x xs ih =>
        intro ls hs V
        cases ls with
        | nil => exact V.elim
        | cons l ls =>
          refine ⟨?_, ih (fun l hl => hs l (.tail _ hl)) V.2⟩
          rcases hs l (.head _) with rfl | ⟨p, rfl, hp⟩
          · intro _ c hc
            rw [G.cells] at hc; cases hc
          · obtain ⟨v, hv, hr⟩ := V.1
            refine ⟨v, ?_, hr.scal hp⟩
            rcases hv with q | ⟨_, c, hc, _⟩
            · exact .inl q
            · rw [G.cells] at hc; cases hc
    exact this hsc V

theorem Frame.mg {s s' : Shared} {Z' : Addr → Prop} (G : GOk C hb) (S : St C noZ σ s) (F : Frame C noZ s Z' s') : Mg hb s s' := by
  refine ⟨fun b o e h => F.kp b o e fun q => ?_, F.gk, F.dr, F.os⟩
  rcases q with q | rfl | ⟨x, hx, _⟩
  · exact q
  · rcases h with h | h | ⟨w, h⟩
    · exact h G.nl
    · exact (locals_plain S e).1 h
    · exact (locals_plain S e).2 w h
  · rw [G.cells] at hx; cases hx

/-- a fact that lasts -/
structure JFr (C : Cx) (J : Heap → Prop) : Prop where
  fr : ∀ h h' : Heap, J h → (∀ b o, h.get? b = some o → b ≠ C.env.locals → h'.get? b = some o) → J h'
structure JOk (C : Cx) (hb : Heap) (J : Heap → Prop) : Prop extends JFr C J where
  kg : ∀ s s', J s.heap → Kg hb C.h₀ s s' → J s'.heap
theorem JFr.frame {J : Heap → Prop} {s s' : Shared} {Z' : Addr → Prop} (G : GOk C hb) (hJ : JFr C J) (j : J s.heap) (F : Frame C noZ s Z' s') : J s'.heap :=
  hJ.fr _ _ j fun b o e n => F.kp b o e fun q => by
    rcases q with q | q | ⟨x, hx, _⟩
    · exact q
    · exact n q
    · rw [G.cells] at hx; cases hx

/-- statements of a generator, from stop to stop -/
noncomputable def SW (C : Cx) (b : Nat) (A : Around) (hb : Heap) (Yv : Nat → PV) (ends : Bool) (J J' : Heap → Prop) (n : Nat) (σ : List LV) (ss : List Stmt) (P : Nat → Flow → List LV → Prop) : Prop :=
  ∀ (s₀ : Shared) (c : Code) (fs : List PySem.Frame) (K : Flow → Sem Fin) (H : Value → Sem Fin) (s : Shared), FsOk b A c fs → St C noZ σ s → J s.heap → Mg hb s₀ s →
    (∀ n' s₀' s' f σ', P n' f σ' → St C noZ σ' s' → J' s'.heap → Mg hb s₀' s' → Seg C.M A (Rg hb ends) (Yg hb C.h₀ Yv ends) n' s₀' c (K f) fs s') →
    Seg C.M A (Rg hb ends) (Yg hb C.h₀ Yv ends) n s₀ c ((execs ss C.env).wrap K H id id) fs s

variable {b : Nat} {A : Around} {Yv : Nat → PV} {ends : Bool} {J J' : Heap → Prop} {n : Nat} {P : Nat → Flow → List LV → Prop}

theorem sw_nil (hj : ∀ h, J h → J' h) (h : P n .next σ) : SW C b A hb Yv ends J J' n σ [] P := fun _ _ _ _ _ s _ S j m k => seg_execs_nil (k n _ s .next σ h S (hj _ j) m)

noncomputable def PG (C : Cx) (b : Nat) (A : Around) (hb : Heap) (Yv : Nat → PV) (ends : Bool) (J J' : Heap → Prop) (n : Nat) (rest : List Stmt) (P : Nat → Flow → List LV → Prop) : Post := fun fl Z' σ' => Z' = noZ ∧ match fl with
  | .next => SW C b A hb Yv ends J J' n σ' rest P
  | .brk => P n .brk σ'
  | .cont => P n .cont σ'
  | .ret p => p = .none ∧ P n (.ret .none) σ'
theorem sw_plain {st : Stmt} {rest : List Stmt} (G : GOk C hb) (hj : ∀ h, J h → J' h) (hJ : JFr C J) (h : ∀ A', OkA b A' → W1 C A' noZ σ st (PG C b A hb Yv ends J J' n rest P)) : SW C b A hb Yv ends J J' n σ (st :: rest) P := by
  intro s₀ c fs K H s hfs S j m k
  refine seg_execs_cons (seg_wrap (h _ hfs.a s _ _ S fun fl f Z' σ' s' hp S' F L hf => ?_))
  obtain ⟨rfl, hp⟩ := hp
  have m' := m.trans (F.mg G S)
  have j' := hJ.frame G j F
  cases fl with
  | next =>
    have hf : f = .next := hf
    subst hf
    exact hp s₀ c fs K H s' hfs S' j' m' k
  | brk => have hf : f = .brk := hf; subst hf; exact k n _ s' .brk σ' hp S' (hj _ j') m'
  | cont => have hf : f = .cont := hf; subst hf; exact k n _ s' .cont σ' hp S' (hj _ j') m'
  | ret p =>
    obtain ⟨rfl, hp⟩ := hp
    obtain ⟨v, rfl, rv⟩ := hf
    have rv : v = .none := rv
    subst rv
    exact k n _ s' (.ret .none) σ' hp S' (hj _ j') m'

theorem exec_If' (test : Expr) (body orelse : List Stmt) (pos : Pos) (env : Env) : exec (.If test body orelse pos) env = (standAt pos >>= fun _ => isTrue test env (eval test env) >>= fun r => if r = true then execs body env else execs orelse env) := rfl
theorem sw_if {test : Expr} {body orelse rest : List Stmt} {pos : Pos} {bb : Bool} (ht : ∀ A', OkA b A' → Tst C A' noZ σ test bb) (hJ : JFr C J)
    (h : SW C b A hb Yv ends J J' n σ (if bb = true then body else orelse) fun n' f σ' => match f with | .next => SW C b A hb Yv ends J' J' n' σ' rest P | f => P n' f σ') (G : GOk C hb) : SW C b A hb Yv ends J J' n σ (.If test body orelse pos :: rest) P := by
  intro s₀ c fs K H s hfs S j m k
  refine seg_execs_cons ?_
  rw [exec_If', Sem.bind_eq_wrap', Sem.wrap_wrap]
  refine seg_wrap (wpAny_standAt ?_)
  rw [Sem.bind_eq_wrap', Sem.wrap_wrap]
  refine seg_wrap (ht _ hfs.a s _ _ S fun s1 X => ?_)
  have k' : ∀ (n' : Nat) (s₀' s' : Shared) (f : Flow) (σ' : List LV), (match f with | .next => SW C b A hb Yv ends J' J' n' σ' rest P | f => P n' f σ') → St C noZ σ' s' → J' s'.heap → Mg hb s₀' s' → Seg C.M A (Rg hb ends) (Yg hb C.h₀ Yv ends) n' s₀' c (match f with | .next => (execs rest C.env).wrap K H id id | f => K f) fs s' := by
    intro n' s₀' s' f σ' hp S' j' m'
    cases f with
    | next => exact hp s₀' c fs K H s' hfs S' j' m' k
    | brk => exact k n' _ s' _ σ' hp S' j' m'
    | cont => exact k n' _ s' _ σ' hp S' j' m'
    | ret v => exact k n' _ s' _ σ' hp S' j' m'
  have j1 := hJ.fr _ _ j fun b o e _ => X.kp b o e
  cases bb with
  | true => rw [if_pos rfl] at h ⊢; exact h s₀ c fs _ _ s1 hfs (S.ext X) j1 (m.trans (Mg.ext X)) k'
  | false => rw [if_neg (by decide)] at h ⊢; exact h s₀ c fs _ _ s1 hfs (S.ext X) j1 (m.trans (Mg.ext X)) k'

/-- a value that may be handed out -/
noncomputable def YOk (k : RK) (p : PV) : Prop := Scal p ∨ (k = .n ∧ ∃ xs, p = .tup xs ∧ Scals xs)
theorem YOk.rep {k : RK} {p : PV} {s₀ s s' : Shared} {v : Value} (h : YOk k p) (m : Mg hb s₀ s) (r : Res k noZ s.heap s'.heap p v) : RepS s₀.heap s'.heap p v := by
  rcases h with h | ⟨rfl, xs, rfl, h⟩
  · exact RepB.scal h r.toB
  · obtain ⟨r, f⟩ := r
    unfold RepS
    simp only [Rep] at r ⊢
    obtain ⟨a, vs, rfl, ht, _, rs⟩ := r
    refine ⟨a, vs, rfl, ht, ?_, Reps.scal h rs⟩
    rintro ⟨o, e, q⟩
    have := f a rfl
    rw [m.kp a o e (.inr (.inl q))] at this; cases this

theorem sw_yield {e : Expr} {ypos pos : Pos} {rest : List Stmt} {k : RK} {p : PV} (G : GOk C hb) (hJ : JOk C hb J) (he : ∀ A', OkA b A' → Ev C A' noZ σ e k p) (hp : YOk k p) (hv : Yv n = p) (hsc : ScalS σ) (h : (0 < n ∨ ends = true) → SW C b A hb Yv ends J J' n σ rest P) :
    SW C b A hb Yv ends J J' (n + 1) σ (.Expr (.Yield (some e) ypos) pos :: rest) P := by
  intro s₀ c fs K H s hfs S j m kk
  refine seg_execs_cons (seg_Expr_Yield hfs.sp rfl hfs.ng (he _ hfs.a s _ _ S fun v s1 X r => ?_) G.co G.ia)
  intro kap hkap
  refine ⟨hv ▸ hp.rep m r, m.trans (Mg.ext X), fun hl s'' hk => hkap .none s'' ?_⟩
  have S1 := S.ext X
  have j1 := hJ.fr _ _ j fun b o e _ => X.kp b o e
  exact h hl s'' c fs K H s'' hfs (S1.kg G hsc hk) (hJ.kg _ _ j1 hk) .refl kk

end
end Py

namespace Py

structure MvI (wr : Addr → Prop) (s s' : Shared) : Prop where
  kp : ∀ b o, ¬ wr b → s.heap.get? b = some o → s'.heap.get? b = some o
  gn : s'.gens = s.gens
  dr : s'.drawn = s.drawn
  os : s'.os = s.os
/-- an iterator within a generator -/
structure SrcI (M : Model) (A : Around) (t : Expr) (it : Value) (fp wr : Addr → Prop) (I : List PV → Heap → Prop) : Prop where
  sub : ∀ b, wr b → fp b
  frame : ∀ i h h', I i h → (∀ b o, fp b → h.get? b = some o → h'.get? b = some o) → I i h'
  plain : ∀ i h b o, I i h → wr b → h.get? b = some o → ¬ SeqObj o ∧ ∀ w, o.data ≠ .cell w
  next : ∀ i (s : Shared) (Qn : Shared → Prop) (Qs : Value → Shared → Prop) (E : Value → Shared → Prop), I i s.heap →
    (i = [] → ∀ s', MvI wr s s' → Qn s') → (∀ p j, i = p :: j → ∀ v s', MvI wr s s' → Rep s'.heap noZ p v → I j s'.heap → Qs v s') →
    wpAny M A (pyNext it) (fun r s1 => match r with | none => Qn s1 | some v => wpAny M A (letOwnedTupleGo t it v) (fun _ s2 => Qs v s2) E s1) E s

noncomputable def IterG (C : Cx) (b : Nat) (hb : Heap) (σ : List LV) (t iter : Expr) (ps : List PV) : Prop :=
  ∀ A, OkA b A → ∀ (s : Shared) (Q : Value → Shared → Prop) (E : Value → Shared → Prop), St C noZ σ s → (∀ x, s.heap.get? x = none → hb.get? x = none) →
    (∀ it s' (fp wr : Addr → Prop) (I : List PV → Heap → Prop), Ext s s' → (∀ A', OkA b A' → SrcI C.M A' t it fp wr I) → (∀ x, wr x → hb.get? x = none) → (∀ x, fp x → x ≠ C.env.locals) →
      (∀ i h x o, I i h → fp x → h.get? x = some o → (¬ SeqObj o ∧ hb.get? x = none) ∨ C.h₀.get? x ≠ none) → I ps s'.heap → Q it s') →
    wpAny C.M A (eval iter C.env) (fun x s1 => wpAny C.M A (pyIter x) Q E s1) E s

section
variable {C : Cx} {hb : Heap} {σ : List LV} {b : Nat} {A : Around} {Yv : Nat → PV} {ends : Bool} {n : Nat} {P : Nat → Flow → List LV → Prop}

/-- what was there is there -/
noncomputable def LiveJ (hb : Heap) : Heap → Prop := fun h => ∀ x, h.get? x = none → hb.get? x = none
theorem live_ok (G : GOk C hb) : JFr C (LiveJ hb) := ⟨fun h h' j fr x e => by
  by_cases q : x = C.env.locals
  · rw [q]; exact G.nl
  · refine j x ?_
    cases q' : h.get? x with
    | none => rfl
    | some o => rw [fr x o q' q] at e; cases e⟩
noncomputable def JT : Heap → Prop := fun _ => True
theorem jt_ok : JOk C hb JT := ⟨⟨fun _ _ _ _ => trivial⟩, fun _ _ _ _ => trivial⟩

/-- a loop's turns, within a generator -/
noncomputable def WG (C : Cx) (b : Nat) (A : Around) (hb : Heap) (Yv : Nat → PV) (ends : Bool) (t : Expr) (body rest : List Stmt) (P : Nat → Flow → List LV → Prop) : List PV → Nat → List LV → Prop
  | [], n, σ => SW C b A hb Yv ends JT JT n σ rest P
  | p :: ps, n, σ => ∃ σ', Tgt C t p σ σ' ∧ ∀ J, JOk C hb J → SW C b A hb Yv ends J J n σ' body fun n' f σ'' => match f with
    | .next => WG C b A hb Yv ends t body rest P ps n' σ''
    | .cont => WG C b A hb Yv ends t body rest P ps n' σ''
    | .brk => SW C b A hb Yv ends JT JT n' σ'' rest P
    | .ret v => P n' (.ret v) σ''

/-- assigning, with no list in sight -/
theorem assign_noZ {E : Value → Shared → Prop} {t : Expr} {p : PV} {σ' : List LV} {s : Shared} {v : Value} {Q : Unit → Shared → Prop} (G : GOk C hb) (hA : A.handled = none) (T : Tgt C t p σ σ') (S : St C noZ σ s) (hr : Rep s.heap noZ p v)
    (h : ∀ s', St C noZ σ' s' → Frame C noZ s noZ s' → Q () s') : wpAny C.M A (assign t C.env v) Q E s := assign_tgt G.ok hA T S hr fun s' S' F _ _ => h s' S' F

theorem MvI.mg {M : Model} {t : Expr} {it : Value} {fp wr : Addr → Prop} {I : List PV → Heap → Prop} {i : List PV} {s s' : Shared} (src : SrcI M A t it fp wr I) (hwr : ∀ x, wr x → hb.get? x = none) (hI : I i s.heap) (m : MvI wr s s') : Mg hb s s' := by
  refine ⟨fun x o e h => m.kp x o (fun q => ?_) e, by rw [m.gn]; exact .refl _, m.dr, m.os⟩
  have := src.plain _ _ x o hI q e
  rcases h with h | h | ⟨w, h⟩
  · exact h (hwr x q)
  · exact this.1 h
  · exact this.2 w h
theorem St.mvi {t : Expr} {it : Value} {fp wr : Addr → Prop} {I : List PV → Heap → Prop} {i : List PV} {s s' : Shared} (G : GOk C hb) (S : St C noZ σ s) (src : SrcI C.M A t it fp wr I) (hwr : ∀ x, wr x → hb.get? x = none) (hfl : ∀ x, fp x → x ≠ C.env.locals) (hI : I i s.heap) (m : MvI wr s s') : St C noZ σ s' := by
  refine S.mv (fun x o e => m.kp x o (fun q => ?_) (S.keep x o e)) fun x o e h => m.kp x o (fun q => ?_) e
  · have := G.sub x o e; rw [hwr x q] at this; cases this
  · have := src.plain _ _ x o hI q e
    rcases h with h | ⟨w, h⟩ | h
    · exact this.1 h
    · exact this.2 w h
    · exact hfl x (src.sub x q) h

theorem wg_loop {t : Expr} {it : Value} {body rest : List Stmt} {fp wr : Addr → Prop} {I : List PV → Heap → Prop} {k : Result → Sem PySem.Fin} {l : List Value} {p : Pos} {c : Code} {fs : List PySem.Frame} {K : Flow → Sem PySem.Fin} {H : Value → Sem PySem.Fin} (G : GOk C hb)
    (src : ∀ A', OkA b A' → SrcI C.M A' t it fp wr I) (hwr : ∀ x, wr x → hb.get? x = none) (hfl : ∀ x, fp x → x ≠ C.env.locals) (hst : ∀ i h x o, I i h → fp x → h.get? x = some o → (¬ SeqObj o ∧ hb.get? x = none) ∨ C.h₀.get? x ≠ none)
    (hfs : FsOk b A c fs) (hK : ∀ f : Flow, k (.ok f) = (match f with | Flow.next => (execs rest C.env).wrap K H id id | f => K f))
    (kont : ∀ (n' : Nat) (s₀' s' : Shared) (f : Flow) (σ' : List LV), P n' f σ' → St C noZ σ' s' → Mg hb s₀' s' → Seg C.M A (Rg hb ends) (Yg hb C.h₀ Yv ends) n' s₀' c (K f) fs s') :
    ∀ (ps : List PV) (n : Nat) (σ : List LV) (s₀ s : Shared), WG C b A hb Yv ends t body rest P ps n σ → St C noZ σ s → I ps s.heap → Mg hb s₀ s →
      Seg C.M A (Rg hb ends) (Yg hb C.h₀ Yv ends) n s₀ (.forLoop t it body [] C.env) (C.M.den (.forLoop t it body [] C.env)) (.ret k none false l c p [] :: fs) s := by
  have hfs' := hfs.push (c' := .forLoop t it body [] C.env) (k := k) (l := l) (p := p)
  have jok : ∀ j, JOk C hb (I j) := fun j => ⟨⟨fun h h' i fr => (src _ hfs.a).frame _ _ _ i fun x o hx e => fr x o e (hfl x hx)⟩, fun s s' i kg => (src _ hfs.a).frame _ _ _ i fun x o hx e => kg x o e (hst _ _ _ _ i hx e)⟩
  have out : ∀ (n : Nat) (σ : List LV) (s₀ s : Shared), SW C b A hb Yv ends JT JT n σ rest P → St C noZ σ s → Mg hb s₀ s → Seg C.M A (Rg hb ends) (Yg hb C.h₀ Yv ends) n s₀ c (k (.ok .next)) fs s := by
    intro n σ s₀ s h S m
    rw [hK]
    exact h s₀ c fs K H s hfs S trivial m fun n' s₀' s' f σ' hp S' _ m' => kont n' s₀' s' f σ' hp S' m'
  intro ps
  induction ps with
  | nil =>
    intro n σ s₀ s hw S hI m
    refine seg_forLoop (G := fun _ _ => True) (wpAny_mono ((src _ hfs'.a).next [] s (fun s2 => Seg C.M A (Rg hb ends) (Yg hb C.h₀ Yv ends) n s₀ (.block [] C.env) (C.M.den (.block [] C.env)) (.ret k none false l c p [] :: fs) s2) (fun _ _ => False) (fun _ _ => False) hI (fun _ s2 mv => ?_) fun p j e => by cases e) (fun r s2 h => ?_) fun _ _ x => x)
    · exact seg_block_nil (out n σ s₀ s2 hw (S.mvi G (src _ hfs'.a) hwr hfl hI mv) (m.trans (mv.mg (src _ hfs'.a) hwr hI)))
    · cases r with
      | none => exact h
      | some v => exact wpAny_mono h (fun _ _ x => x.elim) fun _ _ x => x
  | cons q ps ih =>
    intro n σ s₀ s hw S hI m
    obtain ⟨σ', T, hbody⟩ := hw
    refine seg_forLoop (G := fun _ _ => True) (wpAny_mono ((src _ hfs'.a).next (q :: ps) s (fun _ => False) (fun v s1' => wpAny C.M (A.over (.forLoop t it body [] C.env) (.ret k none false l c p [] :: fs)) (assign t C.env v) (fun _ s₂ =>
          ∀ H' : Value → Sem PySem.Fin, Seg C.M A (Rg hb ends) (Yg hb C.h₀ Yv ends) n s₀ (.forLoop t it body [] C.env) ((execs body C.env).wrap (fun f => match f with
            | .next | .cont => .pure (.again (.forLoop t it body [] C.env))
            | .brk => .pure (.done .next)
            | .ret v => .pure (.done (.ret v))) H' id id) (.ret k none false l c p [] :: fs) s₂) (fun _ _ => False) s1') (fun _ _ => False) hI (fun e => by cases e) fun p' j e v s1 mv hr hI1 => ?_) (fun r s2 h => ?_) fun _ _ x => x)
    · cases e
      have S1 := S.mvi G (src _ hfs'.a) hwr hfl hI mv
      have m1 := m.trans (mv.mg (src _ hfs'.a) hwr hI)
      refine assign_noZ G hfs'.a.h T S1 hr fun s2 S2 F2 H' => ?_
      have m2 := m1.trans (F2.mg G S1)
      have I2 := (jok ps).toJFr.frame G hI1 F2
      refine hbody _ (jok ps) s₀ _ _ _ H' s2 hfs' S2 I2 m2 fun n' s₀' s' f σ'' hp S' I' m' => ?_
      cases f with
      | next => exact seg_again rfl (ih n' σ'' s₀' s' hp S' I' m')
      | cont => exact seg_again rfl (ih n' σ'' s₀' s' hp S' I' m')
      | brk => exact seg_done (out n' σ'' s₀' s' hp S' m')
      | ret v =>
        refine seg_done ?_
        rw [hK]
        exact kont n' s₀' s' (.ret v) σ'' hp S' m'
    · cases r with
      | none => exact h.elim
      | some v => exact h

theorem sw_for {t iter : Expr} {body rest : List Stmt} {pos : Pos} {ps : List PV} (G : GOk C hb) (hsrc : IterG C b hb σ t iter ps) (hw : WG C b A hb Yv ends t body rest P ps n σ)
    (hf : ∀ x, foldedSetIterable iter C.env x = pure x := by intro _; rfl) : SW C b A hb Yv ends (LiveJ hb) JT n σ (.For t iter body [] pos :: rest) P := by
  intro s₀ c fs K H s hfs S j m k
  refine seg_execs_cons (seg_For hf (hsrc _ hfs.a s _ _ S j fun it s1 fp wr I X src hwr hfl hst hI p => ?_))
  exact wg_loop G src hwr hfl hst hfs (fun f => by cases f <;> rfl) (fun n' s₀' s' f σ' hp S' m' => k n' s₀' s' f σ' hp S' trivial m') ps n σ s₀ s1 hw (S.ext X) hI (m.trans (Mg.ext X))

theorem while_seg {test : Expr} {body : List Stmt} {J : Heap → Prop} {fs : List PySem.Frame} (hJ : JFr C J) (ht : ∀ A', OkA b A' → Tst C A' noZ σ test true) (hfs' : FsOk b A (.whileLoop test body [] C.env) fs) :
    ∀ (n : Nat) (s₀ s : Shared), (∀ m, m ≤ n → SW C b A hb Yv ends J J (m + 1) σ body fun n' f σ' => n' = m ∧ 0 < m ∧ f = .next ∧ σ' = σ) → St C noZ σ s → J s.heap → Mg hb s₀ s →
    Seg C.M A (Rg hb ends) (Yg hb C.h₀ Yv ends) (n + 1) s₀ (.whileLoop test body [] C.env) (C.M.den (.whileLoop test body [] C.env)) fs s := by
  intro n
  induction n with
  | zero =>
    intro s₀ s hbody S j m
    refine seg_whileLoop (ht _ hfs'.a s _ _ S fun s1 X => ?_)
    rw [if_pos rfl]
    refine hbody 0 (Nat.le_refl _) s₀ _ _ _ _ s1 hfs' (S.ext X) (hJ.fr _ _ j fun x o e _ => X.kp x o e) (m.trans (Mg.ext X)) fun n' s₀' s' f σ' hp _ _ _ => ?_
    exact absurd hp.2.1 (Nat.lt_irrefl _)
  | succ n ih =>
    intro s₀ s hbody S j m
    refine seg_whileLoop (ht _ hfs'.a s _ _ S fun s1 X => ?_)
    rw [if_pos rfl]
    refine hbody (n + 1) (Nat.le_refl _) s₀ _ _ _ _ s1 hfs' (S.ext X) (hJ.fr _ _ j fun x o e _ => X.kp x o e) (m.trans (Mg.ext X)) fun n' s₀' s' f σ' hp S' j' m' => ?_
    obtain ⟨rfl, _, rfl, rfl⟩ := hp
    exact seg_again rfl (ih s₀' s' (fun q hq => hbody q (Nat.le_succ_of_le hq)) S' j' m')
theorem sw_while {test : Expr} {body rest : List Stmt} {pos : Pos} {J : Heap → Prop} (hJ : JFr C J) (ht : ∀ A', OkA b A' → Tst C A' noZ σ test true)
    (hbody : ∀ m, m ≤ n → SW C b A hb Yv ends J J (m + 1) σ body fun n' f σ' => n' = m ∧ 0 < m ∧ f = .next ∧ σ' = σ) : SW C b A hb Yv ends J J (n + 1) σ (.While test body [] pos :: rest) P := by
  intro s₀ c fs K H s hfs S j m k
  exact seg_execs_cons (seg_While fun p => while_seg hJ ht hfs.push n s₀ s hbody S j m)
end
end Py

namespace Py

section
variable {prog : Program} {w : World} {A : Around} {E : Value → Shared → Prop} {s : Shared}

/-- the next item of a generator function's object -/
theorem pyNext_gen {a : Addr} {g n : Nat} {gs : GenState} {P : Nat → Shared → Shared → Prop} {Y : Protocol} {Q : Option Value → Shared → Prop} (hh : A.handled = none)
    (hl : s.heap.NoLimit) (hroom : A.depth < recursionLimit)
    (hg : s.heap.IsGen a g) (hgs : s.gens[g]? = some gs)
    (hgo : gs.Goes (model prog w) A.in1 (fun n s₀ r s₁ => r = .ok (.ret .none) ∧ P n s₀ s₁) Y n (.send .none) (s.setGen g .running))
    (hY : ∀ v s₁ gs', gs'.bare = true → Y (n - 1) (s.setGen g .running) v s₁ (fun r' s'' => match n with
        | 0 => False
        | m + 1 => gs'.Goes (model prog w) A.in1 (fun n s₀ r s₁ => r = .ok (.ret .none) ∧ P n s₀ s₁) Y m r' s'') → Q (some v) (s₁.setGen g gs'))
    (hP : ∀ s₁, P n (s.setGen g .running) s₁ → ∀ h', (∀ b o, s₁.heap.get? b = some o → h'.get? b = some o) → Q none { s₁.setGen g .finished with heap := h' }) :
    wpAny (model prog w) A (pyNext (.ref a)) Q E s := by
  unfold pyNext
  refine wpAny_bind (wpAny_attempt (wpAny_callSpecial?_slot (name := Str.ofString "__next__") hg.typeIs slot_gen_next
    (wpAny_call_entry slot_gen_next hg.typeIs entry_gen_next ?_ (args_gen_next _))))
  show wpAny _ A.in1 (Builtin.Generator.genWake (.ref a) (.send .none)) _ _ s
  unfold Builtin.Generator.genWake
  refine wpAny_bind (wpAny_holding (wpAny_genNumber hg (wpAny_bind (wpAny_genState hgs ?_))))
  cases gs with
  | running => exact hgo.elim
  | finished => exact hgo.elim
  | _ =>
    refine wpAny_bind (wpAny_roomToWake hl hroom ?_)
    show wpAny _ A.in1 (.resume g (.send .none) [] _) _ _ s
    refine wpAny_resumeQ hgs hgo (fun x s₁ hx => ?_) (fun v s₁ gs' hb hv => ?_)
    · obtain ⟨rfl, hp⟩ := hx
      show wpAny _ A.in1 (newExc (.type "StopIteration") [] >>= _) _ _ _
      refine wpAny_bind ?_
      simp only [newExc, newTuple]
      refine wpAny_bind (wpAny_newObj_type ?_ (by size_fits))
      refine wpAny_bind (m := firstArgMember _ _) (wpAny_of_eq (a := Value.none) (by first | rfl | (simp only [firstArgMember]; rfl)) ?_)
      refine wpAny_newObj_type ?_ (by size_fits)
      simp only [raiseNew]
      refine wpAny_bind (wpAny_bind (wpAny_handled ?_))
      first | rw [show A.in1.handled = none from hh] | rw [hh]
      refine wpAny_throw ?_
      refine wpAny_bind (wpAny_isInstance (T := "StopIteration") (b := true) ⟨_, Heap.get?_push_size _ rfl, rfl⟩ isSubtype_stop ?_)
      exact wpAny_pure (hP s₁ hp _ fun b o hb => Heap.get?_push_of_some _ (Heap.get?_push_of_some _ hb))
    · exact wpAny_pure ⟨v, rfl, wpAny_pure (hY v s₁ gs' hb hv)⟩
end

/-- a part of a heap -/
theorem part_heap (h : Heap) (p : Addr → Prop) : ∃ h0 : Heap, (∀ b o, h0.get? b = some o → h.get? b = some o ∧ ¬ p b) ∧ ∀ b o, h.get? b = some o → ¬ p b → h0.get? b = some o := by
  classical
  refine ⟨hideAll h ((List.range h.objs.size).filter fun b => decide (p b)), fun b o e => ?_, fun b o e n => ?_⟩
  · have e' := of_hideAll _ e
    refine ⟨e', fun hp => ?_⟩
    have hm : b ∈ (List.range h.objs.size).filter fun b => decide (p b) := List.mem_filter.mpr ⟨List.mem_range.mpr (Heap.lt_size e'), by simpa using hp⟩
    rw [hideAll_none _ hm] at e; cases e
  · refine hideAll_get _ e fun hm => n ?_
    simpa using (List.mem_filter.mp hm).2

/-- what a move of a generator leaves alone, seen from outside -/
structure MvG (s₀ s s' : Shared) : Prop where
  kp : ∀ b o, s.heap.get? b = some o → (s₀.heap.get? b ≠ none ∨ SeqObj o ∨ ∃ w, o.data = .cell w) → s'.heap.get? b = some o
  gk : GKn s₀.gens.size s.gens s'.gens
  dr : s'.drawn = s.drawn
  os : s'.os = s.os

/-- items that a generator hands out -/
structure SrcG (C : Cx) (A : Around) (t : Expr) (it : Value) (s₀ : Shared) (ends : Bool) (I : List PV → (Addr → Prop) → Shared → Prop) : Prop where
  frame : ∀ i Z Z' σ s s', I i Z s → St C Z σ s → Frame C Z s Z' s' → Lv s s' → I i Z' s'
  next : ∀ i Z σ s (Qn : Shared → Prop) (Qs : Value → Shared → Prop) (E : Value → Shared → Prop), I i Z s → St C Z σ s → (i = [] → ends = true) →
    (i = [] → ∀ s', MvG s₀ s s' → Qn s') → (∀ p j, i = p :: j → ∀ v s', MvG s₀ s s' → Rep s'.heap Z p v → I j Z s' → Qs v s') →
    wpAny C.M A (pyNext it) (fun r s1 => match r with | none => Qn s1 | some v => wpAny C.M A (letOwnedTupleGo t it v) (fun _ s2 => Qs v s2) E s1) E s

/-- a loop's turns, over a generator -/
noncomputable def WLE (C : Cx) (A : Around) (t : Expr) (body orelse : List Stmt) (P : Post) (ends : Bool) : List PV → (Addr → Prop) → List LV → Prop
  | [], Z, σ => ends = true ∧ WS C A Z σ orelse P
  | p :: ps, Z, σ => ∃ σ', Tgt C t p σ σ' ∧ WS C A Z σ' body fun fl Z' σ'' => match fl with
      | .next => WLE C A t body orelse P ends ps Z' σ''
      | .cont => WLE C A t body orelse P ends ps Z' σ''
      | .brk => P .next Z' σ''
      | .ret p => P (.ret p) Z' σ''

noncomputable def IterE (C : Cx) (A : Around) (Z : Addr → Prop) (σ : List LV) (t iter : Expr) (ends : Bool) (ps : List PV) : Prop :=
  ∀ (s : Shared) (Q : Value → Shared → Prop) (E : Value → Shared → Prop), St C Z σ s → (∀ it s' I, Ext s s' → SrcG C A t it s ends I → I ps Z s' → Q it s') →
    wpAny C.M A (eval iter C.env) (fun x s₁ => wpAny C.M A (pyIter x) Q E s₁) E s

section
variable {C : Cx} {A : Around} {Z : Addr → Prop} {σ : List LV} {P : Post}

theorem loop_codeE {R : Result → Shared → Prop} {t : Expr} {it : Value} {body orelse : List Stmt} {ends : Bool} {I : List PV → (Addr → Prop) → Shared → Prop} {s₀ s : Shared} {ps : List PV} (ok : C.Ok) (hA : A.handled = none)
    (D : SrcG C A t it s₀ ends I) (S₀ : St C Z σ s₀) (X : Ext s₀ s) (h0 : I ps Z s) (hw : WLE C A t body orelse P ends ps Z σ)
    (hR : ∀ fl f Z' σ' s', P fl Z' σ' → St C Z' σ' s' → Frame C Z s₀ Z' s' → Lv s₀ s' → FlIs C s'.heap fl f → R (.ok f) s') : codeAny C.M A (.forLoop t it body orelse C.env) R s := by
  refine codeAny_forLoop_any (fun n s => ∃ i Z' σ', n = i.length ∧ I i Z' s ∧ St C Z' σ' s ∧ Frame C Z s₀ Z' s ∧ Lv s₀ s ∧ WLE C A t body orelse P ends i Z' σ') ?_ ps.length ⟨ps, Z, σ, rfl, h0, S₀.ext X, .ofExt X, Lv.ofKp X.kp, hw⟩
  rintro n s ⟨i, Z', σ', rfl, hI, S, F, L, hw⟩
  have live : ∀ b, s₀.heap.get? b ≠ none → ∃ o, s.heap.get? b = some o := by
    intro b h
    cases q : s.heap.get? b with
    | none => exact absurd (L b q) h
    | some o => exact ⟨o, rfl⟩
  have step : ∀ {s1}, MvG s₀ s s1 → St C Z' σ' s1 ∧ Frame C Z s₀ Z' s1 ∧ Lv s₀ s1 := by
    intro s1 m
    refine ⟨S.mv (fun b o e => ?_) (fun b o e q => ?_), ⟨fun b o e n => m.kp b o (F.kp b o e n) (.inl (by rw [e]; simp)), F.zz, m.gk.gk F.gk, m.dr.trans F.dr, m.os.trans F.os⟩, fun b e => ?_⟩
    · exact m.kp b o (S.keep b o e) (.inl (by rw [S₀.keep b o e]; simp))
    · rcases q with q | q | rfl
      · exact m.kp b o e (.inr (.inl q))
      · exact m.kp b o e (.inr (.inr q))
      · obtain ⟨mm, ⟨o', _, _, e', _⟩, _⟩ := S₀.vars
        exact m.kp _ o e (.inl (by rw [e']; simp))
    · cases q : s₀.heap.get? b with
      | none => rfl
      | some o0 =>
        obtain ⟨o, e'⟩ := live b (by rw [q]; simp)
        rw [m.kp b o e' (.inl (by rw [q]; simp))] at e; cases e
  refine wpAny_mono (D.next i Z' σ' s (fun s1 => wpAny C.M A (execs orelse C.env) (fun f s₃ => R (.ok f) s₃) (notedBy C.M A C.env fun e s' => R (.error e) s') s1)
      (fun v s1 => wpAny C.M A (assign t C.env v) (fun _ s₂ => wpAny C.M A (execs body C.env) (fun f s₃ => match f with
            | .next | .cont => ∃ m, m < i.length ∧ (∃ i Z' σ', m = i.length ∧ I i Z' s₃ ∧ St C Z' σ' s₃ ∧ Frame C Z s₀ Z' s₃ ∧ Lv s₀ s₃ ∧ WLE C A t body orelse P ends i Z' σ')
            | .brk => R (.ok .next) s₃
            | .ret v => R (.ok (.ret v)) s₃) (notedBy C.M A C.env fun e s' => R (.error e) s') s₂) (notedBy C.M A C.env fun e s' => R (.error e) s') s1) _ hI S ?_ ?_ ?_) (fun r s1 h => ?_) fun _ _ x => x
  · rintro rfl; exact hw.1
  · rintro rfl s1 m
    obtain ⟨S1, F1, L1⟩ := step m
    exact hw.2 s1 _ _ S1 fun fl f Z'' σ'' s' hp S' F' L' hf => hR fl f Z'' σ'' s' hp S' (F1.trans F' L1) (L1.trans L') hf
  · rintro p j rfl v s1 m hr hI1
    obtain ⟨σ1, T, hw⟩ := hw
    obtain ⟨S1, F1, L1⟩ := step m
    refine assign_tgt ok hA T S1 hr fun s2 S2 F2 L2 _ => ?_
    refine hw s2 _ _ S2 fun fl f Z'' σ'' s3 hp S3 F3 L3 hf => ?_
    have F13 := F2.trans F3 L2
    have L13 := L2.trans L3
    have FF := F1.trans F13 L1
    have LL := L1.trans L13
    have hI3 : I j Z'' s3 := D.frame j Z' Z'' _ s1 s3 hI1 S1 F13 L13
    cases fl with
    | next => simp only [FlIs] at hf; subst hf; exact ⟨j.length, by simp, j, Z'', σ'', rfl, hI3, S3, FF, LL, hp⟩
    | cont => simp only [FlIs] at hf; subst hf; exact ⟨j.length, by simp, j, Z'', σ'', rfl, hI3, S3, FF, LL, hp⟩
    | brk => simp only [FlIs] at hf; subst hf; exact hR .next _ _ _ _ hp S3 FF LL rfl
    | ret q => obtain ⟨v, rfl, r⟩ := hf; exact hR (.ret q) _ _ _ _ hp S3 FF LL ⟨v, rfl, r⟩
  · cases r with
    | none => exact h
    | some v => exact h

theorem w1_forE {t iter : Expr} {body orelse : List Stmt} {pos : Pos} {ends : Bool} {ps : List PV} (ok : C.Ok) (hA : A.handled = none)
    (hsrc : IterE C A Z σ t iter ends ps) (hw : WLE C A t body orelse P ends ps Z σ) (hf : ∀ x, foldedSetIterable iter C.env x = pure x := by intro _; rfl) : W1 C A Z σ (.For t iter body orelse pos) P := by
  intro s Q E S hQ
  refine wpAny_For (hsrc s _ _ S fun it s' I X D hI => ?_) hf
  exact loop_codeE ok hA D S X hI hw fun fl f Z' σ' s'' hp S' F L hf => hQ fl f Z' σ' s'' hp S' F L hf
end
end Py

namespace Py

noncomputable def gCx (C : Cx) (fd : FuncData) (L : Addr) (h0 : Heap) (a : Addr) (vs' : List Str) : Cx := { C with env := callEnvC fd L a, vs := vs', h₀ := h0 }

/-- a generator that has not begun -/
structure Fr0 (C : Cx) (hb : Heap) (σ : List LV) (s : Shared) : Prop where
  ns : ∃ m, s.heap.Ns C.env.locals m ∧ Vars C.env C.h₀ noZ m C.vs σ
  kp : Kp C.h₀ s.heap
  live : LiveJ hb s.heap

section
variable {C : Cx} {hb : Heap} {σ : List LV} {b : Nat} {A : Around} {Yv : Nat → PV} {ends : Bool} {n : Nat}

theorem Fr0.st {s : Shared} (G : GOk C hb) (f : Fr0 C hb σ s) (ho : owns σ = []) : St C noZ σ s := by
  obtain ⟨m, hn, V⟩ := f.ns
  refine ⟨f.kp, fun _ z => z.elim, fun _ z => z.elim, by rw [ho]; exact List.nodup_nil, m, hn, ?_⟩
  refine V.chg (fun c w ⟨o, e, d⟩ => ⟨o, f.kp c o e, d⟩) (fun a o e _ z => ⟨f.kp a o e, z⟩) fun a ys h => ?_
  have := owns_mem h
  rw [ho] at this; cases this

theorem gen_run {body : List Stmt} {s : Shared} (G : GOk C hb) (hA : OkA (b + 1) A) (f : Fr0 C hb σ s) (ho : owns σ = []) (h : SW C b A hb Yv ends (LiveJ hb) JT n σ body fun n' f _ => (f = .next ∨ f = .ret .none) ∧ n' = 0 ∧ ends = true) :
    Seg C.M A (Rg hb ends) (Yg hb C.h₀ Yv ends) n s (.func body C.env) (C.M.den (.func body C.env)) [] s := by
  refine seg_func (h s _ _ _ _ s (FsOk.func hA) (f.st G ho) f.live .refl fun n' s₀' s' f σ' hp S' _ m => ?_)
  obtain ⟨hf, rfl, he⟩ := hp
  rcases hf with rfl | rfl
  · exact seg_end (.ok (.ret .none)) ⟨rfl, ⟨rfl, he⟩, m⟩
  · exact seg_end (.ok (.ret .none)) ⟨rfl, ⟨rfl, he⟩, m⟩
end

theorem letGo_gen {prog : Program} {w : World} {A : Around} {E : Value → Shared → Prop} {s : Shared} {t : Expr} {ga : Addr} {g : Nat} {v : Value} {Q : Unit → Shared → Prop} (hg : s.heap.IsGen ga g) (h : Q () s) : wpAny (model prog w) A (letOwnedTupleGo t (.ref ga) v) Q E s := by
  obtain ⟨⟨c, d, dt, sl⟩, nm, qn, ho, hc, hd, hs⟩ := hg
  simp only at hc hd hs
  subst hc hd hs
  unfold letOwnedTupleGo
  have go : wpAny (model prog w) A (do
      let (.ref r, .ref a) := (Value.ref ga, v) | pure ()
      let o ← load r
      match o.cls, o.data with
      | .type n, .fields vs =>
        if ["enumerate", "zip", "dict_itemiterator", "dict_reverseitemiterator", "odict_iterator", "itertools.zip_longest", "itertools.pairwise"].contains n && vs[0]? == some (rawInt a) then
          rule "for.unpacks-the-owned-tuple"
          updateField r 0 .none
      | _, _ => pure ()) Q E s := by
    cases v with
    | ref a =>
      refine wpAny_bind (wpAny_load ho ?_)
      exact wpAny_pure h
    | _ => exact wpAny_pure h
  cases t with
  | Tuple => exact go
  | List => exact go
  | _ => exact wpAny_pure h

theorem bare_set {gs : Array GenState} {g : Nat} {x : GenState} (h : AllBare gs) (hx : x.bare = true) : AllBare (gs.setIfInBounds g x) := by
  intro y hy
  rcases Array.mem_or_eq_of_mem_setIfInBounds hy with q | rfl
  · exact h y q
  · exact hx
end Py

namespace Py

/-- a generator, between two items -/
noncomputable def GI (C : Cx) (A : Around) (hb h0 : Heap) (Yv : Nat → PV) (ends : Bool) (ga : Addr) (g : Nat) (i : List PV) (Z : Addr → Prop) (s : Shared) : Prop :=
  ∃ gs m, i = (List.range m).reverse.map Yv ∧ s.heap.IsGen ga g ∧ s.gens[g]? = some gs ∧ LiveJ hb s.heap ∧ Kp h0 s.heap ∧ (∀ b, h0.get? b ≠ none → ¬ Z b) ∧
    ((0 < m ∨ ends = true) → ∀ s'', Kg hb h0 s s'' → LiveJ hb s''.heap → gs.Goes C.M A.in1 (Rg hb ends) (Yg hb h0 Yv ends) m (.send .none) s'')

structure GSt (C : Cx) (hb h0 : Heap) (s₀ : Shared) (ga : Addr) (g : Nat) : Prop where
  hs : ∀ b, s₀.heap.get? b ≠ none → hb.get? b ≠ none
  ha : hb.get? ga ≠ none
  gl : ga ≠ C.env.locals
  gc : ∀ x ∈ C.env.cells, x.2 ≠ ga
  pl : hb.get? C.env.locals ≠ none ∧ h0.get? C.env.locals = none
  pc : ∀ x ∈ C.env.cells, hb.get? x.2 ≠ none ∧ h0.get? x.2 = none
  hg : s₀.gens.size ≤ g
  sub : ∀ b o, h0.get? b = some o → hb.get? b ≠ none

section
variable {C : Cx} {A : Around} {hb h0 : Heap} {Yv : Nat → PV} {ends : Bool} {ga : Addr} {g : Nat} {s₀ : Shared}

theorem srcG_of {t : Expr} {n : Nat} (ok : C.Ok) (hA : OkA (n + 1) A) (st : GSt C hb h0 s₀ ga g) : SrcG C A t (.ref ga) s₀ ends (GI C A hb h0 Yv ends ga g) where
  frame := by
    rintro i Z Z' σ s s' ⟨gs, m, hi, hg, hgs, hl, hk0, hz, hgo⟩ S F L
    have kg : Kg hb h0 s s' := by
      intro b o e h
      refine F.kp b o e fun q => ?_
      rcases q with q | rfl | ⟨x, hx, rfl⟩
      · rcases h with h | h
        · obtain ⟨o', e', q'⟩ := S.zl b q
          rw [e] at e'; cases e'
          exact h.1 q'
        · exact hz b h q
      · rcases h with h | h
        · exact st.pl.1 h.2
        · exact h st.pl.2
      · rcases h with h | h
        · exact (st.pc x hx).1 h.2
        · exact h (st.pc x hx).2
    have hlt : g < s.gens.size := (Array.getElem?_eq_some_iff.mp hgs).1
    refine ⟨gs, m, hi, ?_, (F.gk.2.1 g hlt).trans hgs, fun b e => hl b (L b e), fun b o e => kg b o (hk0 b o e) (.inr (by rw [e]; simp)), fun b h z => ?_, fun hlive s'' k' l' => hgo hlive s'' (kg.trans k') l'⟩
    · obtain ⟨o, nm, qn, ho, hc, hd, hsl⟩ := hg
      refine ⟨o, nm, qn, F.kp ga o ho fun q => ?_, hc, hd, hsl⟩
      rcases q with q | q | ⟨x, hx, q⟩
      · obtain ⟨o', e', vs, k, q'⟩ := S.zl ga q
        rw [ho] at e'; cases e'
        rw [hd] at q'; cases q'
      · exact st.gl q
      · exact st.gc x hx q
    · rcases F.zz b z with q | q
      · exact hz b h q
      · cases e : h0.get? b with
        | none => exact h e
        | some o => rw [hk0 b o e] at q; cases q
  next := by
    rintro i Z σ s Qn Qs E ⟨gs, m, rfl, hg, hgs, hl, hk0, hz, hgo⟩ S hends hN hS
    have live : 0 < m ∨ ends = true := by
      cases m with
      | zero => exact .inr (hends rfl)
      | succ m => exact .inl (Nat.succ_pos m)
    have H := S.here ok hA
    have hlt : g < s.gens.size := (Array.getElem?_eq_some_iff.mp hgs).1
    have sg0 : GKn s₀.gens.size s.gens (s.setGen g .running).gens := by
      refine ⟨by simp [Shared.setGen], fun i hi => ?_, fun hb => bare_set hb rfl⟩
      show (s.gens.setIfInBounds g _)[i]? = _
      rw [Array.getElem?_setIfInBounds, if_neg (by have := st.hg; omega)]
    have fin : ∀ (s₁ : Shared) (x : GenState), x.bare = true → Mg hb (s.setGen g .running) s₁ → MvG s₀ s (s₁.setGen g x) := by
      intro s₁ x hx m
      refine ⟨fun b o e h => m.kp b o e ?_, sg0.trans ((m.gk.n (by show _ ≤ (s.gens.setIfInBounds g _).size; simp; have := st.hg; omega)).trans ⟨by simp [Shared.setGen], fun i hi => ?_, fun hb => bare_set hb hx⟩), m.dr, m.os⟩
      · rcases h with h | h
        · exact .inl (st.hs b h)
        · exact .inr h
      · show (s₁.gens.setIfInBounds g _)[i]? = _
        rw [Array.getElem?_setIfInBounds, if_neg (by have := st.hg; omega)]
    have live1 : ∀ s₁, Mg hb (s.setGen g .running) s₁ → LiveJ hb s₁.heap := by
      intro s₁ m x e
      cases q : hb.get? x with
      | none => rfl
      | some o =>
        cases q' : s.heap.get? x with
        | none => rw [hl x q'] at q; cases q
        | some o' => rw [m.kp x o' q' (.inl (by rw [q]; simp))] at e; cases e
    refine pyNext_gen (P := Pg hb ends) (Y := Yg hb h0 Yv ends) (n := m) H.a.h H.lim (by have := H.a.d; omega) hg hgs (hgo live _ (fun b o e _ => e) hl) (fun v s₁ gs' hbare hy => ?_) (fun s₁ hp h' hk => ?_)
    · obtain ⟨hr, hm, hkap⟩ := hy
      cases m with
      | zero => exact (hkap (live.imp (fun h => absurd h (Nat.lt_irrefl _)) id) s₁ fun b o e _ => e).elim
      | succ m =>
        have mv := fin s₁ gs' hbare hm
        have hg1 : (s₁.setGen g gs').heap.IsGen ga g := by
          obtain ⟨o, nm, qn, ho, r⟩ := hg
          exact ⟨o, nm, qn, hm.kp ga o ho (.inl st.ha), r⟩
        refine letGo_gen hg1 (hS (Yv m) ((List.range m).reverse.map Yv) (by rw [List.range_succ, List.reverse_append]; rfl) v _ mv ?_ ⟨gs', m, rfl, hg1, setGen_self (gs := .running) ?_, live1 s₁ hm, fun b o e => ?_, hz, fun hlive s'' k' l' => hkap hlive s'' k'⟩)
        · exact Rep.chg (fun a o e q nz => ⟨e, fun z => nz (let ⟨o', e', q'⟩ := S.zl a z; ⟨o', e', q'⟩)⟩) _ _ hr
        · have e1 := hm.gk.2.1 g (by show g < (s.gens.setIfInBounds g _).size; simpa using hlt)
          rw [e1]
          exact setGen_self hgs
        · refine hm.kp b o (hk0 b o e) (.inl (st.sub b o e))
    · obtain ⟨⟨rfl, he⟩, hm⟩ := hp
      refine hN rfl _ ?_
      have mv := fin s₁ .finished rfl hm
      exact ⟨fun b o e h => hk b o (mv.kp b o e h), mv.gk, mv.dr, mv.os⟩
end

theorem GK.push {g : Array GenState} {c : Code} : GK g (g.push (.fresh c)) := by
  refine ⟨by simp, fun i hi => ?_, fun hb => ?_⟩
  · rw [Array.getElem?_push, if_neg (by omega)]
  · intro y hy
    rcases Array.mem_push.mp hy with q | rfl
    · exact hb y q
    · rfl

theorem cells_none : ∀ {ns : List (Str × NameKind)} {n : Nat}, (∀ p ∈ ns, p.2 ≠ .cell) → cellsFrom n ns [] = []
  | [], _, _ => rfl
  | (x, k) :: r, n, h => by
    unfold cellsFrom
    rw [if_neg (by simpa using h _ (.head _))]
    exact cells_none fun p hp => h p (.tail _ hp)

section
variable {C : Cx} {fd : FuncData} {pn locs : List Str} {a L : Addr}

theorem fn_vars0 {h0 : Heap} {ps : List PV} {vals : List Value} (K : FnChk fd.scope pn locs) (hnc : ∀ p ∈ fd.scope.names, p.2 ≠ NameKind.cell) (hlen : pn.length = vals.length) (hr : Reps h0 noZ ps vals) :
    Vars (callEnvC fd L a) h0 noZ (bindL (callEnvC fd L a).kindOf (pn.zip vals) fun _ => none) (pn ++ locs) (ps.map .v ++ locs.map fun _ => .unb) := by
  have hcs : (callEnvC fd L a).cells = [] := cells_none hnc
  have hz : ((pn.zip vals).map (·.1)) = pn := by
    rw [List.map_fst_zip]; exact Nat.le_of_eq hlen
  have hnd : ((pn.zip vals).map (·.1)).Nodup := by rw [hz]; exact (List.nodup_append.mp K.nd).1
  have G : ∀ {xs : List Str}, Vars (callEnvC fd L a) h0 noZ (bindL (callEnvC fd L a).kindOf (pn.zip vals) fun _ => none) xs (xs.map fun _ => .unb) := by
    intro xs
    induction xs with
    | nil => trivial
    | cons x xs ih => exact ⟨fun _ c hc => (by rw [hcs] at hc; exact nomatch hc), ih⟩
  have F : ∀ {xs : List Str} {qs : List PV} {us : List Value}, (∀ y ∈ xs.zip us, y ∈ pn.zip vals) → (∀ x ∈ xs, x ∈ pn) → xs.length = us.length → Reps h0 noZ qs us → Vars (callEnvC fd L a) h0 noZ (bindL (callEnvC fd L a).kindOf (pn.zip vals) fun _ => none) (xs ++ locs) (qs.map .v ++ locs.map fun _ => .unb) := by
    intro xs
    induction xs with
    | nil =>
      intro qs us _ _ hl hr
      cases us with
      | cons => simp at hl
      | nil => cases qs with
        | nil => exact G
        | cons => simp only [Reps] at hr; obtain ⟨_, _, q, _⟩ := hr; cases q
    | cons x xs ih =>
      intro qs us hm hx hl hr
      cases us with
      | nil => simp at hl
      | cons u us =>
        cases qs with
        | nil => simp only [Reps] at hr; cases hr
        | cons q qs =>
          simp only [Reps] at hr
          obtain ⟨v, r, e, h1, h2⟩ := hr
          cases e
          refine ⟨⟨u, ?_, h1⟩, ih (fun y hy => hm y (.tail _ hy)) (fun y hy => hx y (.tail _ hy)) (by simpa using hl) h2⟩
          have hin : (x, u) ∈ pn.zip vals := hm _ (.head _)
          rcases K.hl x (List.mem_append_left _ (hx x (.head _))) with kl | kc
          · exact .inl ⟨kl, bindL_hit kl hnd hin⟩
          · exact absurd rfl (hnc _ (mem_of_lookup kc))
  exact F (fun _ h => h) (fun _ h => h) hlen hr

theorem gen_iter {A : Around} {Z : Addr → Prop} {σ : List LV} {t : Expr} {x : Str} {p pos : Pos} {o : Obj} {body : List Stmt} {es : List Expr} {ps : List PV} {N b : Nat} {ends : Bool} {Yv : Nat → PV} (ok : C.Ok) (hA : OkA (b + 2) A) (gv : GV C x (.ref a)) (ho : ∀ h, C.W h → h.get? a = some o) (hdata : o.data = .func fd)
    (hbody : fd.body = .stmts body) (hcd : ∀ h, C.W h → h.CodeRec fd.code fd.qualname) (chk : fnChk fd.scope pn locs = true) (hnc0 : (fd.scope.names.all fun p => p.2 != .cell) = true) (hbind : ∀ vals : List Value, vals.length = pn.length → bindArgs fd ⟨vals, []⟩ = pure (pn.zip vals)) (hps : ps.length = pn.length)
    (ha : EvL C A Z σ es ps)
    (hrun : ∀ (hb : Heap) (L : Addr) (h0 : Heap) (A0 : Around) (s : Shared), OkA (b + 1) A0 → GOk (gCx C fd L h0 a (pn ++ locs)) hb → Fr0 (gCx C fd L h0 a (pn ++ locs)) hb (ps.map .v ++ locs.map fun _ => .unb) s →
      Seg C.M A0 (Rg hb ends) (Yg hb h0 Yv ends) N s (.func body (callEnvC fd L a)) (C.M.den (.func body (callEnvC fd L a))) [] s)
    (hclo : fd.closure = [] := by rfl) (hco : fd.scope.isCoroutine = false := by rfl) (hgen : fd.scope.isGenerator = true := by rfl) : IterE C A Z σ t (.Call (.Name x p) es [] pos) ends ((List.range N).reverse.map Yv) := by
  intro s Q E S hQ
  have K := fnChk_of chk
  have hnc : ∀ p ∈ fd.scope.names, p.2 ≠ NameKind.cell := fun p hp => by simpa using List.all_eq_true.mp hnc0 p hp
  have W : ∀ {s'}, St C Z σ s' → C.W s'.heap := fun S' => ok.mono _ _ ok.w0 S'.keep
  refine wpAny_Call_NameR (gv _ _ _ _ _ (W S) ?_)
  refine callWith_function (evArgsL ha S fun vs s1 X r1 => ⟨⟨ho _ (W (S.ext X)), hdata⟩, ?_⟩)
  have S1 := S.ext X
  have hlen : vs.length = pn.length := by rw [r1.length, hps]
  have H := S1.here ok hA
  refine wpAny_call (codeAny_call_generator (by have := hA.d; omega) (ho _ (W S1)) hdata hco hgen hbody (hcd _ (W S1)) ?_)
  show wpAny C.M A.in1 (bindArgs fd ⟨[] ++ vs, []⟩) _ _ s1
  rw [List.nil_append, hbind vs hlen, hclo]
  refine wpAny_pure (wpAny_newFunctionEnv_cells K.k1 (fun x hx => ?_) fun env he s' ic => ?_)
  · have hxp : x.1 ∈ pn ++ locs := List.mem_append_left _ (List.of_mem_zip (a := x.1) (b := x.2) hx).1
    rcases K.hl _ hxp with q | q
    · exact .inl q
    · exact absurd rfl (hnc _ (mem_of_lookup q))
  subst he
  obtain ⟨h', tk, rfl, hk⟩ := ic.done
  refine ⟨H.lim.keeps hk, ?_⟩
  generalize eL : s1.heap.objs.size = L at ic ⊢
  have eEnv : newEnv fd.scope L fd.globals (cellsFrom (L + 1) fd.scope.names []) (fd.qualname ++ ".<locals>.") (some a) fd.code none fd.builtins = callEnvC fd L a := rfl
  rw [eEnv] at ic ⊢
  have nsL : h'.Ns L (bindL (callEnvC fd L a).kindOf (pn.zip vs) fun _ => none) := ic.toInCall.ns
  have hLlt : L < h'.objs.size := nsL.lt
  have nL : s1.heap.get? L = none := get_none (by omega)
  dsimp only
  generalize eo : ({ cls := .type "generator", data := .fields #[.int s1.gens.size 0, .str fd.name tk, .str fd.qualname (tk + 1)] } : Obj) = go
  have kpush : Kp h' (h'.push go) := fun b o e => Heap.get?_push_of_some _ e
  have gga : (h'.push go).get? h'.objs.size = some go := Heap.get?_push_size _ (by subst eo; rfl)
  have hgen1 : (h'.push go).IsGen h'.objs.size s1.gens.size := ⟨go, _, _, gga, by subst eo; rfl, by subst eo; rfl, by subst eo; rfl⟩
  obtain ⟨hb, hb1, hb2⟩ := part_heap (h'.push go) (· = L)
  obtain ⟨h0, h01, h02⟩ := part_heap s1.heap (Priv C Z)
  have k2 : Kp s1.heap (h'.push go) := fun b o e => kpush b o (hk b o e)
  have lt1 : ∀ b o, s1.heap.get? b = some o → b ≠ L := fun b o e q => by rw [q, nL] at e; cases e
  have s1b : ∀ b o, s1.heap.get? b = some o → hb.get? b = some o := fun b o e => hb2 b o (k2 b o e) (lt1 b o e)
  have gok : GOk (gCx C fd L h0 a (pn ++ locs)) hb := by
    refine ⟨⟨ok.mono, ok.mono _ _ ok.w0 fun b o e => h02 b o (S1.keep b o e) fun q => ?_, ok.lim, K.k1, K.nd, K.nb, fun x hx => ?_, ?_, ?_, ?_, ?_⟩, cells_none hnc, ?_, fun b o e => s1b b o (h01 b o e).1, hco, ?_⟩
    · rcases q with q | rfl | ⟨y, hy, rfl⟩
      · rw [S1.zf b q] at e; cases e
      · rw [ok.newL] at e; cases e
      · rw [ok.newC y hy] at e; cases e
    · rcases K.hl x hx with q | q
      · exact .inl q
      · exact absurd rfl (hnc _ (mem_of_lookup q))
    · show (callEnvC fd L a).cells.Pairwise _
      rw [show (callEnvC fd L a).cells = [] from cells_none hnc]; exact .nil
    · show h0.get? L = none
      cases e : h0.get? L with
      | none => rfl
      | some o => exact absurd rfl (lt1 L o (h01 L o e).1)
    · intro y hy
      rw [show (gCx C fd L h0 a (pn ++ locs)).env.cells = [] from cells_none hnc] at hy; cases hy
    · intro y hy
      rw [show (gCx C fd L h0 a (pn ++ locs)).env.cells = [] from cells_none hnc] at hy; cases hy
    · show hb.get? L = none
      cases e : hb.get? L with
      | none => rfl
      | some o => exact absurd rfl (hb1 L o e).2
    · show (fd.scope.kind == .module && _) = false
      rw [K.k1]; rfl
  have x2 : Ext s { s1 with gens := s1.gens.push (.fresh (.func body (callEnvC fd L a))), toks := tk + 1 + 1, heap := h'.push go } :=
    X.trans ⟨k2, .push, rfl, rfl⟩
  have none0 : ∀ b, Priv C Z b → h0.get? b = none := fun b q => by
    cases e : h0.get? b with
    | none => rfl
    | some o => exact absurd q (h01 b o e).2
  have inb : ∀ b, Priv C Z b → hb.get? b ≠ none := fun b q => by
    obtain ⟨o, e⟩ := S1.priv_live ok q
    rw [s1b b o e]; simp
  have gane : ∀ b, Priv C Z b → h'.objs.size ≠ b := fun b q => by
    obtain ⟨o, e⟩ := S1.priv_live ok q
    exact Nat.ne_of_gt (Heap.lt_size (hk b o e))
  have gst : GSt C hb h0 s h'.objs.size s1.gens.size := by
    refine ⟨fun b h => ?_, ?_, gane _ (.inr (.inl rfl)), fun x hx q => gane x.2 (.inr (.inr ⟨x, hx, rfl⟩)) q.symm, ⟨inb _ (.inr (.inl rfl)), none0 _ (.inr (.inl rfl))⟩, fun x hx => ⟨inb _ (.inr (.inr ⟨x, hx, rfl⟩)), none0 _ (.inr (.inr ⟨x, hx, rfl⟩))⟩, X.gk.1, fun b o e => ?_⟩
    · cases e : s.heap.get? b with
      | none => exact absurd e h
      | some o => rw [s1b b o (X.kp b o e)]; simp
    · rw [hb2 _ go gga (Nat.ne_of_gt hLlt)]; simp
    · rw [s1b b o (h01 b o e).1]; simp
  refine wpAny_pyIter_gen hgen1 (hQ _ _ _ x2 (srcG_of (n := b + 1) ok hA gst) ⟨.fresh (.func body (callEnvC fd L a)), N, rfl, hgen1, by simp, fun y e => ?_, fun b o e => k2 b o (h01 b o e).1, fun b h z => h (none0 b (.inl z)), fun _ s'' kg hl => ⟨rfl, hrun hb L h0 A.in1 s'' hA.in1 gok ⟨⟨_, ?_, fn_vars0 K hnc (by rw [hlen]) ?_⟩, ?_, hl⟩⟩⟩)
  · cases q : hb.get? y with
    | none => rfl
    | some o => rw [show (h'.push go).get? y = some o from (hb1 y o q).1] at e; cases e
  · obtain ⟨oL, es, ep, e, r⟩ := nsL
    refine ⟨oL, es, ep, kg L oL (kpush L oL e) (.inl ⟨?_, gok.nl⟩), r⟩
    rintro ⟨_, _, q⟩
    rw [r.1] at q; cases q
  · exact Reps.chg (fun b o e q z => ⟨h02 b o e (S1.seq_npriv ok e q z), id⟩) _ _ r1
  · intro b o e
    exact kg b o (k2 b o (h01 b o e).1) (.inr (by rw [show (gCx C fd L h0 a (pn ++ locs)).h₀ = h0 from rfl] at e; rw [e]; simp))
end
end Py

namespace Py

section
variable {prog : Program} {w : World} {A : Around}

theorem srcI_T {I : Addr} {fp wr : List Addr} {n : Nat} {Pt : Nat → Array Value → Prop} {St' : Nat → Heap → Prop} {Mid : Nat → Addr → Heap → Prop} {es : List Expr} {k : Nat} {pos : Pos} (W : WalksT prog w A I fp wr n Pt St' Mid) (ps : List PV) (hn : ps.length = n)
    (hP : ∀ i vals p, ps[i]? = some p → Pt i vals → ∃ qs, p = .tup qs ∧ ∀ h, Reps h noZ qs vals.toList) (hlo : ∀ i h b, St' i h → b ∈ wr → ∃ o, h.get? b = some o ∧ ¬ SeqObj o ∧ ∀ w, o.data ≠ .cell w) :
    SrcI (model prog w) A (.Tuple es k pos) (.ref I) (· ∈ fp) (· ∈ wr) (fun l h => ∃ i, i ≤ n ∧ l = ps.drop i ∧ St' i h) where
  sub := fun b hb => W.sub b hb
  frame := fun l h h' ⟨i, hi, hl, hs⟩ hk => ⟨i, hi, hl, W.frame i h h' hs fun b hb o e => hk b o hb e⟩
  plain := fun l h b o ⟨i, _, _, hs⟩ hb e => by
    obtain ⟨o', e', q1, q2⟩ := hlo i _ b hs hb
    rw [e] at e'; cases e'
    exact ⟨q1, q2⟩
  next := by
    rintro l s Qn Qs E ⟨i, hi, rfl, hs⟩ hn' hs'
    by_cases h : i < n
    · have hi' : i < ps.length := by omega
      have e : ps.drop i = ps[i] :: ps.drop (i + 1) := List.drop_eq_getElem_cons hi'
      refine W.item i s _ E h hs fun T vals h' tk hp hT hit hmid hk => ?_
      refine W.go es k pos i T { s with heap := h', toks := tk } _ E hmid fun h2 hst hk2 => ?_
      refine hs' ps[i] (ps.drop (i + 1)) e (.ref T) _ ⟨fun b o nb eb => hk2 b o nb (hk b o nb eb), rfl, rfl, rfl⟩ ?_ ⟨i + 1, by omega, rfl, hst⟩
      obtain ⟨qs, eq, hr⟩ := hP i vals ps[i] (List.getElem?_eq_getElem hi') hp
      rw [eq]
      simp only [Rep]
      obtain ⟨oT, eT, cT, nT, dT⟩ := hit
      exact ⟨T, vals.toList, rfl, ⟨oT, hk2 T oT (W.apart _ _ _ hmid) eT, cT, nT, by simpa using dT⟩, id, hr _⟩
    · have : i = n := by omega
      subst this
      refine W.done s _ E hs fun h' tk hk => ?_
      exact hn' (List.drop_eq_nil_of_le (by omega)) _ ⟨fun b o nb eb => hk b o nb eb, rfl, rfl, rfl⟩

theorem srcI_L {I : Addr} {fp wr : List Addr} {n : Nat} {P : Nat → Value → Prop} {St' : Nat → Heap → Prop} {t : Expr} (W : Walks prog w A I fp wr n P St') (ps : List PV) (hn : ps.length = n)
    (go : ∀ i (s : Shared) v (Q : Unit → Shared → Prop) (E : Value → Shared → Prop), St' i s.heap → Q () s → wpAny (model prog w) A (letOwnedTupleGo t (.ref I) v) Q E s)
    (hP : ∀ i v p, ps[i]? = some p → P i v → ∀ h, Rep h noZ p v) (hlo : ∀ i h b, St' i h → b ∈ wr → ∃ o, h.get? b = some o ∧ ¬ SeqObj o ∧ ∀ w, o.data ≠ .cell w) :
    SrcI (model prog w) A t (.ref I) (· ∈ fp) (· ∈ wr) (fun l h => ∃ i, i ≤ n ∧ l = ps.drop i ∧ St' i h) where
  sub := fun b hb => W.sub b hb
  frame := fun l h h' ⟨i, hi, hl, hs⟩ hk => ⟨i, hi, hl, W.frame i h h' hs fun b hb o e => hk b o hb e⟩
  plain := fun l h b o ⟨i, _, _, hs⟩ hb e => by
    obtain ⟨o', e', q1, q2⟩ := hlo i _ b hs hb
    rw [e] at e'; cases e'
    exact ⟨q1, q2⟩
  next := by
    rintro l s Qn Qs E ⟨i, hi, rfl, hs⟩ hn' hs'
    by_cases h : i < n
    · have hi' : i < ps.length := by omega
      have e : ps.drop i = ps[i] :: ps.drop (i + 1) := List.drop_eq_getElem_cons hi'
      refine W.item i s _ E h hs fun v h' tk hp hst hk => ?_
      refine go (i + 1) _ v _ _ hst ?_
      exact hs' ps[i] (ps.drop (i + 1)) e v _ ⟨fun b o nb eb => hk b o nb eb, rfl, rfl, rfl⟩ (hP i v ps[i] (List.getElem?_eq_getElem hi') hp _) ⟨i + 1, by omega, rfl, hst⟩
    · have : i = n := by omega
      subst this
      refine W.done s _ E hs fun h' tk hk => ?_
      exact hn' (List.drop_eq_nil_of_le (by omega)) _ ⟨fun b o nb eb => hk b o nb eb, rfl, rfl, rfl⟩
end

section
variable {C : Cx} {b : Nat} {hb : Heap} {σ : List LV}

theorem iterG_enum_str {e : Expr} {x : Str} {es : List Expr} {k : Nat} {pt p pos : Pos} (G : GOk C hb) (g : GV C "enumerate" (.type "enumerate")) (h : ∀ A, OkA b A → EvL C A noZ σ [e] [.str x]) : IterG C b hb σ (.Tuple es k pt) (.Call (.Name "enumerate" p) [e] [] pos) (enumL 0 (charsP x)) := by
  intro A hA s Q E S hl hQ
  refine call_raw G.ok g (h A hA) S fun vs s1 X r => ?_
  simp only [Reps, Rep] at r
  obtain ⟨v, r, rfl, ⟨t, rfl⟩, rfl⟩ := r
  refine call_enumerate_str fun h' he hit hsz hk => ?_
  have X2 : Ext s { s1 with heap := h' } := X.trans (Ext.heap' hk)
  have S1 := S.ext X
  have n1 : hb.get? s1.heap.objs.size = none := hl _ (none_kp X.kp (size_none _))
  have n2 : hb.get? (s1.heap.objs.size + 1) = none := hl _ (none_kp X.kp (fresh_size (Nat.le_succ _)))
  have nl : ∀ y, s1.heap.get? y = none → y ≠ C.env.locals := fun y e q => by
    obtain ⟨m, ⟨o, _, _, e', _⟩, _⟩ := S1.vars
    rw [q, e'] at e; cases e
  have key : ∀ ty, h'.IsStrIter s1.heap.objs.size ty x t 0 → (∀ A', A'.handled = none → Draws C.prog C.w A' s1.heap.objs.size [s1.heap.objs.size] x.cps.size (fun i v => ∃ (c : Nat) (u : Tok), x.cps[i]? = some c ∧ v = .str ⟨#[c]⟩ u) (fun i h => h.IsStrIter s1.heap.objs.size ty x t i)) → wpAny C.M A (pyIter (.ref (s1.heap.objs.size + 1))) Q E { s1 with heap := h' } := by
    intro ty hit D
    have lo : ∀ i (h : Heap), h.IsStrIter s1.heap.objs.size ty x t i → ∃ o, h.get? s1.heap.objs.size = some o ∧ ¬ SeqObj o ∧ ∀ w, o.data ≠ .cell w := by
      rintro i h ⟨o, e, _, d⟩
      exact ⟨o, e, (by rintro ⟨_, _, q⟩; rw [d] at q; cases q), (by intro w q; rw [d] at q; cases q)⟩
    have lo2 : ∀ (i : Nat) (h : Heap) y, ((∃ old, IsEnum h (s1.heap.objs.size + 1) s1.heap.objs.size i old) ∧ h.IsStrIter s1.heap.objs.size ty x t i) → y ∈ [s1.heap.objs.size + 1, s1.heap.objs.size] → ∃ o, h.get? y = some o ∧ ¬ SeqObj o ∧ ∀ w, o.data ≠ .cell w := by
      intro i h y hs hy
      simp only [List.mem_cons, List.not_mem_nil, or_false] at hy
      rcases hy with rfl | rfl
      · obtain ⟨⟨old, q⟩, _⟩ := hs
        exact ⟨_, q, (by rintro ⟨_, _, q⟩; cases q), (by intro w q; cases q)⟩
      · exact lo i h hs.2
    have W : ∀ A', A'.handled = none → WalksT C.prog C.w A' (s1.heap.objs.size + 1) [s1.heap.objs.size + 1, s1.heap.objs.size] [s1.heap.objs.size + 1, s1.heap.objs.size] x.cps.size _ _ _ := fun A' hA' =>
      WalksT.enumerateD (A := A') (D A'.in1 hA') (s1.heap.objs.size + 1) (Nat.succ_ne_self _) (by simp) (by simp)
    have hs0 : (∃ old, IsEnum h' (s1.heap.objs.size + 1) s1.heap.objs.size ((0 : Nat) : Int) old) ∧ h'.IsStrIter s1.heap.objs.size ty x t 0 := ⟨⟨.none, by simpa using he⟩, hit⟩
    refine wpAny_pyIter_enum he (hQ _ _ _ _ _ X2 (fun A' hA' => srcI_T (W A' hA'.h) (enumL 0 (charsP x)) (by rw [enumL_length]; simp [charsP]) (fun i vals p ep q => ?_) lo2) (fun y hy => ?_) (fun y hy => ?_) (fun i h y o hI hy e => ?_) ⟨0, Nat.zero_le _, rfl, hs0⟩)
    · rw [enumL_get] at ep
      obtain ⟨tk, v, ⟨c, u, hc, rfl⟩, rfl⟩ := q
      unfold charsP at ep
      rw [List.getElem?_map, Array.getElem?_toList, hc] at ep
      cases ep
      exact ⟨_, rfl, fun h => .cons ⟨tk, by simp⟩ (.one ⟨u, rfl⟩)⟩
    · simp only [List.mem_cons, List.not_mem_nil, or_false] at hy
      rcases hy with rfl | rfl
      · exact n2
      · exact n1
    · simp only [List.mem_cons, List.not_mem_nil, or_false] at hy
      rcases hy with rfl | rfl
      · exact nl _ (fresh_size (Nat.le_succ _))
      · exact nl _ (size_none _)
    · obtain ⟨j, _, _, hs⟩ := hI
      obtain ⟨o', e', q, _⟩ := lo2 j h y hs hy
      rw [e] at e'; cases e'
      refine .inl ⟨q, ?_⟩
      simp only [List.mem_cons, List.not_mem_nil, or_false] at hy
      rcases hy with rfl | rfl
      · exact n2
      · exact n1
  by_cases asc : x.cps.all (· < 128) = true
  · have ety : strIterType x = "str_ascii_iterator" := by unfold strIterType; rw [if_pos asc]
    rw [ety] at hit
    exact key _ hit fun A' hA' => Draws.strAscii hA' s1.heap.objs.size x t
  · have ety : strIterType x = "str_iterator" := by unfold strIterType; rw [if_neg asc]
    rw [ety] at hit
    exact key _ hit fun A' hA' => Draws.strWide hA' s1.heap.objs.size x t
end
end Py

namespace Py

theorem A0 {a : Str} {l : List Str} : At (a :: l) 0 a := .here
theorem A1 {a b : Str} {l : List Str} : At (a :: b :: l) 1 b := .there .here
theorem A2 {a b c : Str} {l : List Str} : At (a :: b :: c :: l) 2 c := .there A1
theorem A3 {a b c d : Str} {l : List Str} : At (a :: b :: c :: d :: l) 3 d := .there A2
theorem A4 {a b c d e : Str} {l : List Str} : At (a :: b :: c :: d :: e :: l) 4 e := .there A3
theorem A5 {a b c d e f : Str} {l : List Str} : At (a :: b :: c :: d :: e :: f :: l) 5 f := .there A4
theorem A6 {a b c d e f g : Str} {l : List Str} : At (a :: b :: c :: d :: e :: f :: g :: l) 6 g := .there A5
theorem A7 {a b c d e f g h : Str} {l : List Str} : At (a :: b :: c :: d :: e :: f :: g :: h :: l) 7 h := .there A6

section
variable {C : Cx} {A : Around} {Z : Addr → Prop} {σ : List LV} {P : Post}
/-- a loop, by what holds ahead of each turn -/
theorem WLs.inv {t : Expr} {body orelse : List Stmt} (Inv : List PV → (Addr → Prop) → List LV → Prop) (hend : ∀ Z σ, Inv [] Z σ → WS C A Z σ orelse P)
    (hstep : ∀ p ps Z σ, Inv (p :: ps) Z σ → ∃ σ', Tgt C t p σ σ' ∧ WS C A Z σ' body fun fl Z' σ'' => match fl with
      | .next => Inv ps Z' σ''
      | .cont => Inv ps Z' σ''
      | .brk => P .next Z' σ''
      | .ret p => P (.ret p) Z' σ'') : ∀ (ps : List PV) (Z : Addr → Prop) (σ : List LV), Inv ps Z σ → WLs C A t body orelse P ps Z σ
  | [], Z, σ, h => hend Z σ h
  | p :: ps, Z, σ, h => by
    obtain ⟨σ', T, hb⟩ := hstep p ps Z σ h
    refine ⟨σ', T, ws_mono hb fun fl Z' σ'' q => ?_⟩
    cases fl with
    | next => exact WLs.inv Inv hend hstep ps Z' σ'' q
    | cont => exact WLs.inv Inv hend hstep ps Z' σ'' q
    | brk => exact q
    | ret p => exact q
theorem WLE.inv {t : Expr} {body orelse : List Stmt} {ends : Bool} (Inv : List PV → (Addr → Prop) → List LV → Prop) (hend : ∀ Z σ, Inv [] Z σ → ends = true ∧ WS C A Z σ orelse P)
    (hstep : ∀ p ps Z σ, Inv (p :: ps) Z σ → ∃ σ', Tgt C t p σ σ' ∧ WS C A Z σ' body fun fl Z' σ'' => match fl with
      | .next => Inv ps Z' σ''
      | .cont => Inv ps Z' σ''
      | .brk => P .next Z' σ''
      | .ret p => P (.ret p) Z' σ'') : ∀ (ps : List PV) (Z : Addr → Prop) (σ : List LV), Inv ps Z σ → WLE C A t body orelse P ends ps Z σ
  | [], Z, σ, h => hend Z σ h
  | p :: ps, Z, σ, h => by
    obtain ⟨σ', T, hb⟩ := hstep p ps Z σ h
    refine ⟨σ', T, ws_mono hb fun fl Z' σ'' q => ?_⟩
    cases fl with
    | next => exact WLE.inv Inv hend hstep ps Z' σ'' q
    | cont => exact WLE.inv Inv hend hstep ps Z' σ'' q
    | brk => exact q
    | ret p => exact q
theorem WC.of {α : Type} {C' : Cx} {t elt : Expr} {ifs : List Expr} {σ₀ : List LV} (item g : α → PV) (keep : α → Bool) : ∀ (xs : List α) (l : LV), (∀ a ∈ xs, ∀ l, ∃ σ', Tgt C' t (item a) (l :: σ₀) σ' ∧ σ' = .v (item a) :: σ₀ ∧ Tsts C' A Z σ' ifs (keep a) ∧ (keep a = true → Ev C' A Z σ' elt .f (g a))) →
    WC C' A t ifs elt Z (xs.map item) (l :: σ₀) ((xs.filter keep).map g)
  | [], _, _ => rfl
  | a :: xs, l, h => by
    obtain ⟨σ', T, rfl, ht, he⟩ := h a (.head _) l
    have ih := WC.of item g keep xs (.v (item a)) fun q hq => h q (.tail _ hq)
    refine ⟨_, T, keep a, ht, fun hk => ⟨g a, (xs.filter keep).map g, he hk, ih, ?_⟩, fun hk => ?_⟩
    · rw [List.filter_cons, if_pos hk]; rfl
    · rw [List.filter_cons, if_neg (by rw [hk]; decide)]; exact ih
/-- texts, made over a range -/
theorem WC.rangeS {C' : Cx} {t elt : Expr} {ifs : List Expr} {σ₀ : List LV} {a : Int} {n : Nat} {l : LV} (g : Nat → Str) (keep : Nat → Bool) (h : ∀ i, i < n → ∀ l, ∃ σ', Tgt C' t (.int (a + i)) (l :: σ₀) σ' ∧ σ' = .v (.int (a + i)) :: σ₀ ∧ Tsts C' A Z σ' ifs (keep i) ∧ (keep i = true → Ev C' A Z σ' elt .f (.str (g i)))) :
    WC C' A t ifs elt Z (rangeP a n) (l :: σ₀) ((((List.range n).filter keep).map g).map .str) := by
  rw [List.map_map]
  exact WC.of (fun (i : Nat) => PV.int (a + i)) (PV.str ∘ g) keep (List.range n) l fun i hi => h i (List.mem_range.mp hi)
theorem WC.rangeI {C' : Cx} {t elt : Expr} {ifs : List Expr} {σ₀ : List LV} {a : Int} {n : Nat} {l : LV} (g : Nat → Int) (keep : Nat → Bool) (h : ∀ i, i < n → ∀ l, ∃ σ', Tgt C' t (.int (a + i)) (l :: σ₀) σ' ∧ σ' = .v (.int (a + i)) :: σ₀ ∧ Tsts C' A Z σ' ifs (keep i) ∧ (keep i = true → Ev C' A Z σ' elt .f (.int (g i)))) :
    WC C' A t ifs elt Z (rangeP a n) (l :: σ₀) ((((List.range n).filter keep).map g).map .int) := by
  rw [List.map_map]
  exact WC.of (fun (i : Nat) => PV.int (a + i)) (PV.int ∘ g) keep (List.range n) l fun i hi => h i (List.mem_range.mp hi)

theorem ev_list0 {pos : Pos} (ok : C.Ok) {n : Nat} (hA : OkA n A) : Ev C A Z σ (.List [] pos) .n (.list []) := ev_list ok hA .nil (Nat.zero_le _)
theorem Ev.cast {e : Expr} {k : RK} {p q : PV} (h : Ev C A Z σ e k p) (e' : p = q) : Ev C A Z σ e k q := e' ▸ h
theorem Tst.cast {e : Expr} {b c : Bool} (h : Tst C A Z σ e b) (e' : b = c) : Tst C A Z σ e c := e' ▸ h
theorem op_ne_strs {n : Nat} {ns ms : List Str} : Op2 C n (compareOp .NotEq) (LS ns) (LS ms) .f (.bool (ns != ms)) :=
  op_ne_lists (b := ns == ms) (fun h Z vs ws r r' hl => eqs_strs r.strs r'.strs hl) fun h => beq_len (by simpa using h)
theorem op_ne_ints {n : Nat} {ns ms : List Int} : Op2 C n (compareOp .NotEq) (LI ns) (LI ms) .f (.bool (ns != ms)) :=
  op_ne_lists (b := ns == ms) (fun h Z vs ws r r' hl => eqs_ints r.ints r'.ints hl) fun h => beq_len (by simpa using h)
theorem get_map {α : Type} (f : α → PV) (l : List α) {k : Nat} (d : α) (h : k < l.length) : (l.map f)[(0 + (k : Int)).toNat]? = some (f (l.getD k d)) := by
  rw [show (0 + (k : Int)).toNat = k by omega, List.getElem?_map, List.getElem?_eq_getElem h]
  simp [List.getD_eq_getElem?_getD, List.getElem?_eq_getElem h]
end
end Py

namespace Py

noncomputable def keyOk (e : DictEntry) : Bool := match e.key with
  | .int k _ => e.hash == hashInt k
  | _ => false
theorem keyOk_spec {es : Array DictEntry} (h : es.toList.all keyOk = true) : ∀ e ∈ es.toList, ∃ k t, e.key = .int k t ∧ e.hash = hashInt k := by
  intro e he
  have := List.all_eq_true.mp h e he
  unfold keyOk at this
  split at this
  · rename_i k t hk
    exact ⟨k, t, hk, by simpa using this⟩
  · cases this

section
variable {C : Cx} {A : Around} {Z : Addr → Prop} {σ : List LV}

theorem ev_dict_get {x : Str} {d : Addr} {es : Array DictEntry} {ep : Nat} {p apos pos : Pos} {e1 e2 : Expr} {k : Int} {q r : PV} (ok : C.Ok) {n : Nat} (hA : OkA n A) (g : GV C x (.ref d)) (ho : ∀ h, C.W h → h.get? d = some { cls := .type "dict", data := .dict es ep }) (hd : (d == sysModules) = false)
    (hk : es.toList.all keyOk = true) (h1 : Ev C A Z σ e1 .f (.int k)) (h2 : Ev C A Z σ e2 .f q) (hr : (∃ s t, findBy Value.isInt es k = some (.str s t) ∧ r = .str s) ∨ (findBy Value.isInt es k = none ∧ r = q))
    (hse1 : ∀ rest env, starEach (e1 :: rest) env = (false, eval e1 env) :: starEach rest env := by intro _ _; rfl) (hse2 : ∀ rest env, starEach (e2 :: rest) env = (false, eval e2 env) :: starEach rest env := by intro _ _; rfl)
    (hline : (apos.endLine == pos.line) = true := by rfl) (hbase : attributeBase (.Name x p) "get" C.env (eval (.Name x p) C.env) = eval (.Name x p) C.env := by rfl) : Ev C A Z σ (.Call (.Attribute (.Name x p) "get" apos) [e1, e2] [] pos) .f r := by
  intro s Q E S hQ
  have w := ok.mono _ _ ok.w0 S.keep
  refine meth_raw (T := "dict") (id := "dict.get") ⟨F.plainAttrs_dict, F.slot_dict_get, F.type_dict_get⟩ (.cons h1 (.cons h2 .nil hse2) hse1) (g _ _ _ _ _ w ⟨S, ⟨_, ho _ w, rfl⟩, fun b e => ?_, fun vs s2 X2 r2 => ?_⟩) hline hbase
  · cases e; exact ⟨_, ho _ w, rfl⟩
  · simp only [Reps, Rep] at r2
    obtain ⟨v, l, rfl, ⟨t, rfl⟩, v', l', rfl, hv, rfl⟩ := r2
    refine dict_get (C := C) (ho _ (ok.mono _ _ ok.w0 (S.ext X2).keep)) hd (keyOk_spec hk) (hQ _ _ (X2.trans (Ext.toks _ _)) ?_)
    rcases hr with ⟨x, t', e, rfl⟩ | ⟨e, rfl⟩
    · rw [e]; exact ⟨t', rfl⟩
    · rw [e]; exact hv
end

-- what pretty_flags says, in plain words
noncomputable def flagNames : List Str := ["OPTIMIZED", "NEWLOCALS", "VARARGS", "VARKEYWORDS", "NESTED", "GENERATOR", "NOFREE", "COROUTINE", "ITERABLE_COROUTINE", "ASYNC_GENERATOR"]
noncomputable def pfName (i : Nat) : Str := (flagNames[i]?).getD (baseText "0x" 16 ((2 ^ i : Nat) : Int))
noncomputable def pfGo : Nat → Nat → Nat → List Str → List Str
  | 0, _, f, names => names ++ [baseText "0x" 16 (f : Int)]
  | m + 1, i, f, names => if f &&& 2 ^ i != 0 then (if f ^^^ 2 ^ i == 0 then names ++ [pfName i] else pfGo m (i + 1) (f ^^^ 2 ^ i) (names ++ [pfName i])) else pfGo m (i + 1) f names
noncomputable def pfText (f : Nat) : Str := Txt.join ", " (pfGo 32 0 f [])

theorem hex_le {f : Nat} (h : f < 2 ^ 32) : (baseText "0x" 16 (f : Int)).length ≤ 12 := by
  unfold baseText
  rw [Str.length_append, Str.length_append, ofString_ofList_length]
  have h1 := toDigits_len_pow (b := 16) (k := 8) (n := (f : Int).natAbs) (by decide) (by decide) (by simpa using h)
  have h3 : (Str.ofString (if (f : Int) < 0 then "-" else "")).length ≤ 1 := by
    split <;> (rw [PyProof.Rows.ofString_len]; decide)
  have h4 : (Str.ofString "0x").length = 2 := by decide
  have h5 : (Str.ofString (String.ofList (Nat.toDigits 16 (f : Int).natAbs))).length = _ := ofString_ofList_length _
  rw [h5]
  simp only [List.length_cons, List.length_nil]
  omega
theorem pfName_le {i : Nat} (h : i < 32) : (pfName i).length ≤ 20 := by
  unfold pfName
  cases e : flagNames[i]? with
  | none => exact Nat.le_trans (hex_le (Nat.pow_lt_pow_right (by decide) h)) (by decide)
  | some x =>
    have hm := List.mem_of_getElem? e
    have : ∀ x ∈ flagNames, x.length ≤ 20 := by decide +kernel
    exact this x hm
theorem nat_xor_and (m : Nat) : ∀ n : Nat, (m ^^^ n) + 2 * (m &&& n) = m + n := by
  induction m using Nat.strongRecOn with
  | ind m ih =>
    intro n
    by_cases h0 : m = 0
    · subst h0; simp
    · have ih' := ih (m / 2) (by omega) (n / 2)
      rw [← Nat.xor_div_two, ← Nat.and_div_two] at ih'
      have o1 := @Nat.xor_mod_two_eq_one m n
      have a1 := @Nat.and_mod_two_eq_one m n
      have zx : ∀ {a : Nat} {p : Prop}, (a % 2 = 1 ↔ p) → ¬ p → a % 2 = 0 := fun h n => (Nat.mod_two_eq_zero_or_one _).resolve_right fun q => n (h.mp q)
      rcases Nat.mod_two_eq_zero_or_one m with hm | hm <;> rcases Nat.mod_two_eq_zero_or_one n with hn | hn <;> rw [hm, hn] at o1 a1
      · have e1 := zx o1 (by decide)
        have e2 := zx a1 (by decide)
        clear o1 a1 ih zx
        omega
      · have e1 := o1.mpr (by decide)
        have e2 := zx a1 (by decide)
        clear o1 a1 ih zx
        omega
      · have e1 := o1.mpr (by decide)
        have e2 := zx a1 (by decide)
        clear o1 a1 ih zx
        omega
      · have e1 := zx o1 (by decide)
        have e2 := a1.mpr (by decide)
        clear o1 a1 ih zx
        omega
theorem pow_cast (i : Nat) : (1 * 2 ^ i : Int) = ((2 ^ i : Nat) : Int) := by rw [Int.one_mul]; norm_cast
theorem and_nat' (f g : Nat) : Builtin.bitAnd (f : Int) (g : Int) = ((f &&& g : Nat) : Int) := by
  rw [bitAnd_pp (by omega) (by omega)]
  simp
theorem xor_nat' (f g : Nat) : Builtin.bitXor (f : Int) (g : Int) = ((f ^^^ g : Nat) : Int) := by
  rw [bitXor_and, and_nat']
  have := nat_xor_and f g
  omega
theorem and_nat (f i : Nat) : Builtin.bitAnd (f : Int) (1 * 2 ^ i) = ((f &&& 2 ^ i : Nat) : Int) := by rw [pow_cast, and_nat']
theorem xor_nat (f i : Nat) : Builtin.bitXor (f : Int) (1 * 2 ^ i) = ((f ^^^ 2 ^ i : Nat) : Int) := by rw [pow_cast, xor_nat']

section
variable {C : Cx} {A : Around} {Z : Addr → Prop} {σ : List LV} {P : Post}
theorem w1_rets {pos : Pos} {e : Expr} {k : RK} {x : Str} (he : Ev C A Z σ e k (.str x)) (h : P (.ret (.str x)) Z σ) : W1 C A Z σ (.Return (some e) pos) P := w1_ret (p := .str x) trivial he h
theorem w1_retb {pos : Pos} {e : Expr} {k : RK} {x : Bool} (he : Ev C A Z σ e k (.bool x)) (h : P (.ret (.bool x)) Z σ) : W1 C A Z σ (.Return (some e) pos) P := w1_ret (p := .bool x) trivial he h
theorem Op2.cast {n : Nat} {f : Value → Value → Sem Value} {p q r r' : PV} {k : RK} (h : Op2 C n f p q k r) (e : r = r') : Op2 C n f p q k r' := e ▸ h
end
end Py

namespace Py
/-- what a generator hands out, by what is left -/
noncomputable def yv (items : List PV) (n : Nat) : PV := (items.reverse[n]?).getD .none
theorem yv_head {items pre r : List PV} {p : PV} (h : items = pre ++ p :: r) : yv items r.length = p := by
  subst h
  unfold yv
  rw [List.reverse_append, List.reverse_cons, List.append_assoc, List.getElem?_append_right (by simp)]
  simp
theorem yv_list (items : List PV) : (List.range items.length).reverse.map (yv items) = items := by
  rw [← List.reverse_inj, ← List.map_reverse, List.reverse_reverse]
  apply List.ext_getElem?
  intro i
  rw [List.getElem?_map]
  by_cases h : i < items.length
  · rw [List.getElem?_range h]
    simp only [Option.map_some, yv]
    rw [List.getElem?_eq_getElem (by simpa using h)]
    simp
  · rw [List.getElem?_eq_none (by simpa using h), List.getElem?_eq_none (by simpa using h)]; rfl

/-- the pieces of a text, with their places -/
noncomputable def escL : Nat → Bool → List Nat → List PV
  | k, e, [] => if e then [.tup [.int ((k : Int) - 1), .str "\\"]] else []
  | k, e, c :: cs => if e then .tup [.int (k : Nat), .str ("\\" ++ ⟨#[c]⟩)] :: escL (k + 1) false cs
    else if (⟨#[c]⟩ : Str) == "\\" then escL (k + 1) true cs else .tup [.int (k : Nat), .str ⟨#[c]⟩] :: escL (k + 1) false cs
noncomputable def chs (cs : List Nat) : List PV := cs.map fun c => PV.str ⟨#[c]⟩

section
variable {C : Cx} {hb : Heap} {b : Nat} {A : Around} {Yv : Nat → PV} {ends : Bool}
theorem sw_mono {J J' : Heap → Prop} {n : Nat} {σ : List LV} {ss : List Stmt} {P P' : Nat → Flow → List LV → Prop} (h : SW C b A hb Yv ends J J' n σ ss P) (hp : ∀ n f σ, P n f σ → P' n f σ) : SW C b A hb Yv ends J J' n σ ss P' :=
  fun s₀ c fs K H s hfs S j m k => h s₀ c fs K H s hfs S j m fun n' s₀' s' f σ' p => k n' s₀' s' f σ' (hp _ _ _ p)
theorem WG.inv {t : Expr} {body rest : List Stmt} {P : Nat → Flow → List LV → Prop} (Inv : List PV → Nat → List LV → Prop) (hend : ∀ n σ, Inv [] n σ → SW C b A hb Yv ends JT JT n σ rest P)
    (hstep : ∀ p ps n σ, Inv (p :: ps) n σ → ∃ σ', Tgt C t p σ σ' ∧ ∀ J, JOk C hb J → SW C b A hb Yv ends J J n σ' body fun n' f σ'' => match f with
      | .next => Inv ps n' σ''
      | .cont => Inv ps n' σ''
      | .brk => SW C b A hb Yv ends JT JT n' σ'' rest P
      | .ret v => P n' (.ret v) σ'') : ∀ (ps : List PV) (n : Nat) (σ : List LV), Inv ps n σ → WG C b A hb Yv ends t body rest P ps n σ
  | [], n, σ, h => hend n σ h
  | p :: ps, n, σ, h => by
    obtain ⟨σ', T, hb⟩ := hstep p ps n σ h
    refine ⟨σ', T, fun J hJ => sw_mono (hb J hJ) fun n' f σ'' q => ?_⟩
    cases f with
    | next => exact WG.inv Inv hend hstep ps n' σ'' q
    | cont => exact WG.inv Inv hend hstep ps n' σ'' q
    | brk => exact q
    | ret v => exact q
noncomputable def ScalL (l : LV) : Prop := l = .unb ∨ ∃ p, l = .v p ∧ Scal p
theorem scal4 {a b c d : LV} (h1 : ScalL a) (h2 : ScalL b) (h3 : ScalL c) (h4 : ScalL d) : ScalS [a, b, c, d] := by
  intro l hl
  simp only [List.mem_cons, List.not_mem_nil, or_false] at hl
  rcases hl with rfl | rfl | rfl | rfl
  · exact h1
  · exact h2
  · exact h3
  · exact h4
theorem scalV {p : PV} (h : Scal p) : ScalL (.v p) := .inr ⟨p, rfl, h⟩
end

noncomputable def escT : Nat → Bool → List Nat → List (Int × Str)
  | k, e, [] => if e then [((k : Int) - 1, "\\")] else []
  | k, e, c :: cs => if e then ((k : Nat), "\\" ++ ⟨#[c]⟩) :: escT (k + 1) false cs
    else if (⟨#[c]⟩ : Str) == "\\" then escT (k + 1) true cs else ((k : Nat), ⟨#[c]⟩) :: escT (k + 1) false cs
noncomputable def tupIS (p : Int × Str) : PV := .tup [.int p.1, .str p.2]
theorem escL_eq : ∀ (cs : List Nat) (k : Nat) (e : Bool), escL k e cs = (escT k e cs).map tupIS
  | [], k, e => by cases e <;> rfl
  | c :: cs, k, e => by
    unfold escL escT
    cases e with
    | true => rw [if_pos rfl, if_pos rfl, List.map_cons, escL_eq cs]; rfl
    | false =>
      simp only [Bool.false_eq_true, if_false]
      by_cases h : ((⟨#[c]⟩ : Str) == "\\") = true
      · rw [if_pos h, if_pos h]; exact escL_eq cs _ _
      · rw [if_neg h, if_neg h, List.map_cons, escL_eq cs]; rfl
theorem escT_len : ∀ (cs : List Nat) (k : Nat) (e : Bool), (escT k e cs).length ≤ cs.length + 1
  | [], k, e => by cases e <;> simp [escT]
  | c :: cs, k, e => by
    unfold escT
    cases e with
    | true => rw [if_pos rfl]; have := escT_len cs (k + 1) false; simp only [List.length_cons]; omega
    | false =>
      rw [if_neg (by decide)]
      split
      · have := escT_len cs (k + 1) true; simp only [List.length_cons]; omega
      · have := escT_len cs (k + 1) false; simp only [List.length_cons]; omega

noncomputable def stripGo (x : Str) : List (Int × Str) → Int → Option Int → List Str → Int × List Str
  | [], st, _, res => (st, res)
  | (p, c) :: r, st, op, res => if c == "\"" then (match op with
      | none => stripGo x r st (some p) res
      | some q => stripGo x r (p + 1) none (if st != q then res ++ [Txt.slice x (some st) (some q)] else res)) else stripGo x r st op res
noncomputable def stripRes (x : Str) (r : Int × List Str) : List Str := if r.1 < (x.length : Int) then r.2 ++ [Txt.slice x (some r.1) none] else r.2
noncomputable def strip (x : Str) : Str := if !Txt.contains x "\"" then x else Txt.join "" (stripRes x (stripGo x (escT 0 false x.cps.toList) 0 none []))
noncomputable def parenGo : List (Int × Str) → Int → Bool
  | [], o => o == 0
  | (_, c) :: r, o => if c == "(" then parenGo r (o + 1) else if c == ")" then (if o - 1 < 0 then false else parenGo r (o - 1)) else parenGo r o
noncomputable def parens (x : Str) : Bool := parenGo (escT 0 false (strip x).cps.toList) 0
noncomputable def validate (xs : List Str) : List Str := xs.map fun x => if parens x then x else "('', '')"

section
variable {C : Cx} {A : Around} {Z : Addr → Prop} {σ : List LV} {P : Post}
theorem WLs.monoP {t : Expr} {body orelse : List Stmt} {P P' : Post} (hp : ∀ fl Z σ, P fl Z σ → P' fl Z σ) : ∀ {ps : List PV} {Z : Addr → Prop} {σ : List LV}, WLs C A t body orelse P ps Z σ → WLs C A t body orelse P' ps Z σ
  | [], _, _, h => ws_mono h hp
  | p :: ps, _, _, ⟨σ', T, h⟩ => ⟨σ', T, ws_mono h fun fl Z' σ'' h => by
      cases fl with
      | next => exact WLs.monoP hp h
      | cont => exact WLs.monoP hp h
      | brk => exact hp _ _ _ h
      | ret => exact hp _ _ _ h⟩
theorem WLE.monoP {t : Expr} {body orelse : List Stmt} {ends : Bool} {P P' : Post} (hp : ∀ fl Z σ, P fl Z σ → P' fl Z σ) : ∀ {ps : List PV} {Z : Addr → Prop} {σ : List LV}, WLE C A t body orelse P ends ps Z σ → WLE C A t body orelse P' ends ps Z σ
  | [], _, _, h => ⟨h.1, ws_mono h.2 hp⟩
  | p :: ps, _, _, ⟨σ', T, h⟩ => ⟨σ', T, ws_mono h fun fl Z' σ'' h => by
      cases fl with
      | next => exact WLE.monoP hp h
      | cont => exact WLE.monoP hp h
      | brk => exact hp _ _ _ h
      | ret => exact hp _ _ _ h⟩
noncomputable def PM (Mid : (Addr → Prop) → List LV → Prop) (P : Post) : Post := fun fl Z' σ' => match fl with | .next => Mid Z' σ' | fl => P fl Z' σ'
/-- a loop, and what holds behind it -/
theorem ws_fors {t iter : Expr} {body orelse rest : List Stmt} {pos : Pos} {ps : List PV} (Mid : (Addr → Prop) → List LV → Prop) (ok : C.Ok) (hA : A.handled = none) (hsrc : Iter C A Z σ t iter uncons ps)
    (hrest : ∀ Z' σ', Mid Z' σ' → WS C A Z' σ' rest P) (hw : WLs C A t body orelse (PM Mid P) ps Z σ) (hf : ∀ x, foldedSetIterable iter C.env x = pure x := by intro _; rfl) : WS C A Z σ (.For t iter body orelse pos :: rest) P :=
  ws_cons (w1_fors ok hA hsrc (hw.monoP fun fl Z σ h => by
    cases fl with
    | next => exact hrest _ _ h
    | brk => exact h
    | cont => exact h
    | ret => exact h) hf)
theorem ws_forE {t iter : Expr} {body orelse rest : List Stmt} {pos : Pos} {ends : Bool} {ps : List PV} (Mid : (Addr → Prop) → List LV → Prop) (ok : C.Ok) (hA : A.handled = none) (hsrc : IterE C A Z σ t iter ends ps)
    (hrest : ∀ Z' σ', Mid Z' σ' → WS C A Z' σ' rest P) (hw : WLE C A t body orelse (PM Mid P) ends ps Z σ) (hf : ∀ x, foldedSetIterable iter C.env x = pure x := by intro _; rfl) : WS C A Z σ (.For t iter body orelse pos :: rest) P :=
  ws_cons (w1_forE ok hA hsrc (hw.monoP fun fl Z σ h => by
    cases fl with
    | next => exact hrest _ _ h
    | brk => exact h
    | cont => exact h
    | ret => exact h) hf)
end

section
variable {A : Around} {Z : Addr → Prop}
/-- a comprehension with no test -/
theorem WC.all {α : Type} {C' : Cx} {t elt : Expr} {σ₀ : List LV} (item g : α → PV) (xs : List α) (l : LV) (h : ∀ a ∈ xs, ∀ l, ∃ σ', Tgt C' t (item a) (l :: σ₀) σ' ∧ σ' = .v (item a) :: σ₀ ∧ Ev C' A Z σ' elt .f (g a)) :
    WC C' A t [] elt Z (xs.map item) (l :: σ₀) (xs.map g) := by
  have := WC.of (C' := C') (t := t) (elt := elt) (ifs := []) (A := A) (Z := Z) (σ₀ := σ₀) item g (fun _ => true) xs l fun a ha l => by
    obtain ⟨σ', T, e, he⟩ := h a ha l
    exact ⟨σ', T, e, rfl, fun _ => he⟩
  rwa [List.filter_eq_self.mpr (fun _ _ => rfl)] at this
end
end Py

set_option maxRecDepth 100000
namespace Py

-- the questions of a sort, asked of a plain order
noncomputable def kasVal {α : Type} (lt : Nat → Nat → Bool) : KasT α → α
  | .ret a => a
  | .ask i j k => kasVal lt (k (lt i j))
noncomputable def kasAll {α : Type} (P : Nat → Prop) (R : α → Prop) : KasT α → Prop
  | .ret a => R a
  | .ask i j k => P i ∧ P j ∧ ∀ b, kasAll P R (k b)
theorem kasAll_bind {α β : Type} {P : Nat → Prop} {R : α → Prop} {R' : β → Prop} {f : α → KasT β} (hf : ∀ a, R a → kasAll P R' (f a)) : ∀ t : KasT α, kasAll P R t → kasAll P R' (t.bind f)
  | .ret a, h => hf a h
  | .ask _ _ k, h => ⟨h.1, h.2.1, fun b => kasAll_bind hf (k b) (h.2.2 b)⟩
theorem kasAll_val {α : Type} {P : Nat → Prop} {R : α → Prop} {lt : Nat → Nat → Bool} : ∀ t : KasT α, kasAll P R t → R (kasVal lt t)
  | .ret _, h => h
  | .ask i j k, h => kasAll_val (k (lt i j)) (h.2.2 _)
theorem kasAll_ite {α : Type} {P : Nat → Prop} {R : α → Prop} {c : Prop} [Decidable c] {a b : KasT α} (ha : kasAll P R a) (hb : kasAll P R b) : kasAll P R (if c then a else b) := by
  split
  · exact ha
  · exact hb
theorem kasWp_all {α : Type} {P : Nat → Prop} {R : α → Prop} {cmp : Nat → Nat → (Bool → Shared → Prop) → Shared → Prop} {lt : Nat → Nat → Bool} {h : Heap} {Q : α → Shared → Prop} (hc : ∀ i j C s, s.heap = h → P i → P j → (∀ t, C (lt i j) { s with toks := t }) → cmp i j C s) :
    ∀ (t : KasT α) (s : Shared), s.heap = h → kasAll P R t → (∀ k, Q (kasVal lt t) { s with toks := k }) → t.kasWp cmp Q s
  | .ret _, s, _, _, hq => hq s.toks
  | .ask i j k, s, hs, ha, hq => hc i j _ s hs ha.1 ha.2.1 fun t => kasWp_all hc (k (lt i j)) { s with toks := t } hs (ha.2.2 _) fun u => hq u

noncomputable def InR (n : Nat) (p : Array Nat) : Prop := p.Perm (List.toArray (List.range n))
theorem InR.lt {n : Nat} {p : Array Nat} (h : InR n p) (h0 : 0 < n) (k : Nat) : p.getD k 0 < n := by
  unfold Array.getD
  split
  · rename_i hk
    have : p[k] ∈ p := Array.getElem_mem hk
    have := (h.mem_iff).mp this
    simpa using this
  · exact h0
theorem asc_all {n : Nat} {p : Array Nat} (h : ∀ k, p.getD k 0 < n) : ∀ f k, kasAll (· < n) (fun _ => True) (kas_asc p f k)
  | 0, _ => trivial
  | f + 1, k => ⟨h _, h _, fun b => kasAll_ite trivial (asc_all h f (k + 1))⟩
theorem rev_in {n : Nat} {p : Array Nat} (h : InR n p) (i j : Nat) : InR n (kas_rev p i j) := (mirror_perm _ _ _ _).trans h
theorem desc_all {n : Nat} (h0 : 0 < n) : ∀ (f : Nat) (p : Array Nat) (k q : Nat), InR n p → kasAll (· < n) (fun r => InR n r.1) (kas_desc f p k q)
  | 0, _, _, _, h => h
  | f + 1, p, k, q, h => by
    refine ⟨h.lt h0 _, h.lt h0 _, fun b => kasAll_ite (kasAll_ite (desc_all h0 f _ _ _ (rev_in h _ _)) (desc_all h0 f _ _ _ h)) ⟨h.lt h0 _, h.lt h0 _, fun d => kasAll_ite h (desc_all h0 f _ _ _ h)⟩⟩
theorem tail3_all {n m : Nat} (h0 : 0 < n) {p : Array Nat} (h : InR n p) : kasAll (· < n) (fun r => InR n r.2) (kas_tail3 m n p) :=
  kasAll_bind (R := fun _ => True) (R' := fun (r : Nat × Array Nat) => InR n r.2) (f := fun k => KasT.ret (k, kas_rev p 0 m)) (fun k _ => show InR n (kas_rev p 0 m) from rev_in h _ _) _ (asc_all (rev_in h _ _ |>.lt h0) _ _)
theorem descPart_all {n m : Nat} (h0 : 0 < n) {p : Array Nat} (h : InR n p) : kasAll (· < n) (fun r => InR n r.2) (kas_descPart m n p) :=
  by
  refine kasAll_bind (R := fun (r : Array Nat × Nat × Nat) => InR n r.1) (R' := fun (r : Nat × Array Nat) => InR n r.2) ?_ _ (desc_all h0 _ _ _ _ h)
  intro r hr
  exact kasAll_ite (tail3_all h0 (rev_in hr _ _)) (tail3_all h0 hr)
theorem count_all {n : Nat} (h0 : 0 < n) {p : Array Nat} (h : InR n p) : kasAll (· < n) (fun r => InR n r.2) (kas_count n p) :=
  by
  refine kasAll_bind (R := fun _ => True) (R' := fun (r : Nat × Array Nat) => InR n r.2) ?_ _ (asc_all (h.lt h0) _ _)
  intro k _
  refine kasAll_ite h (kasAll_ite ⟨h.lt h0 _, h.lt h0 _, fun b => ?_⟩ (descPart_all h0 h))
  exact kasAll_ite h (descPart_all h0 (rev_in h _ _))
theorem place_all {n : Nat} {p : Array Nat} (h : ∀ k, p.getD k 0 < n) (k : Nat) : ∀ f l r, kasAll (· < n) (fun _ => True) (kas_place p k f l r)
  | 0, _, _ => trivial
  | f + 1, l, r => kasAll_ite trivial ⟨h _, h _, fun _ => kasAll_ite (place_all h k f _ _) (place_all h k f _ _)⟩
theorem bin_all {n : Nat} (h0 : 0 < n) : ∀ (f : Nat) (p : Array Nat) (k : Nat), InR n p → kasAll (· < n) (fun r => InR n r) (kas_bin f p k)
  | 0, _, _, h => h
  | f + 1, p, k, h => kasAll_bind (R := fun _ => True) (R' := fun r => InR n r) (f := fun l => kas_bin f (bubble p k (k - l)) (k + 1)) (fun _ _ => bin_all h0 f _ _ ((bubble_perm _ _ _).trans h)) _ (place_all (h.lt h0) _ _ _ _)
theorem sort_all {n : Nat} (h0 : 0 < n) : kasAll (· < n) (fun r => InR n r) (kas_sort n) :=
  by
  refine kasAll_bind (R := fun (r : Nat × Array Nat) => InR n r.2) (R' := fun r => InR n r) ?_ _ (count_all h0 (Array.Perm.refl _))
  intro r hr
  exact kasAll_ite (bin_all h0 _ _ _ hr) hr

noncomputable def tupLt (a b : Int × Int) : Bool := if a.1 == b.1 then decide (a.2 < b.2) else decide (a.1 < b.1)
noncomputable def sortIx (l : List (Int × Int)) : List Nat := (kasVal (fun i j => tupLt (l.getD i (0, 0)) (l.getD j (0, 0))) (kas_sort l.length)).toList
noncomputable def sortP (l : List (Int × Int)) : List (Int × Int) := (sortIx l).map fun i => l.getD i (0, 0)
theorem sortIx_lt {l : List (Int × Int)} (h : 0 < l.length) : ∀ i ∈ sortIx l, i < l.length := by
  intro i hi
  have := kasAll_val (lt := fun i j => tupLt (l.getD i (0, 0)) (l.getD j (0, 0))) _ (sort_all h)
  have hm := (Array.Perm.mem_iff this).mp (Array.mem_toList_iff.mp hi)
  simpa using hm
theorem sortP_mem {l : List (Int × Int)} : ∀ x ∈ sortP l, x ∈ l := by
  intro x hx
  unfold sortP at hx
  obtain ⟨i, hi, rfl⟩ := List.mem_map.mp hx
  by_cases h : 0 < l.length
  · have := sortIx_lt h i hi
    rw [List.getD_eq_getElem?_getD, List.getElem?_eq_getElem this]
    exact List.getElem_mem _
  · have e : l = [] := by
      cases l with
      | nil => rfl
      | cons => exact absurd (Nat.succ_pos _) h
    subst e
    have : sortIx [] = [] := by decide +kernel
    rw [this] at hi
    cases hi
noncomputable def pairPV (p : Int × Int) : PV := .tup [.int p.1, .int p.2]
end Py

set_option maxRecDepth 100000
namespace Py

theorem sortIx_len (l : List (Int × Int)) : (sortIx l).length ≤ l.length := by
  by_cases h : 0 < l.length
  · have := (kasAll_val (lt := fun i j => tupLt (l.getD i (0, 0)) (l.getD j (0, 0))) _ (sort_all h)).size_eq
    unfold sortIx
    rw [Array.length_toList, this]
    simp
  · have e : l = [] := by
      cases l with
      | nil => rfl
      | cons => exact absurd (Nat.succ_pos _) h
    subst e
    decide +kernel

/-- the values are pairs of ints -/
noncomputable def Pairs (h : Heap) : List (Int × Int) → List Value → Prop
  | [], vs => vs = []
  | p :: ps, vs => ∃ a r t u, vs = .ref a :: r ∧ IsTup h a #[.int p.1 t, .int p.2 u] ∧ Pairs h ps r
theorem Pairs.kp {h h' : Heap} (k : ∀ b o, h.get? b = some o → h'.get? b = some o) : ∀ {l : List (Int × Int)} {vs : List Value}, Pairs h l vs → Pairs h' l vs := by
  intro l
  induction l with
  | nil => exact id
  | cons p l ih => rintro vs ⟨a, r, t, u, e, i, x⟩; exact ⟨a, r, t, u, e, i.keeps k, ih x⟩
theorem Pairs.kp' {h h' : Heap} {a : Addr} (k : ∀ b o, b ≠ a → h.get? b = some o → h'.get? b = some o) (ha : ∃ xs n, h.get? a = some (seqObj "list" xs n)) : ∀ {l : List (Int × Int)} {vs : List Value}, Pairs h l vs → Pairs h' l vs := by
  intro l
  induction l with
  | nil => exact id
  | cons p l ih =>
    rintro vs ⟨b, r, t, u, e, ⟨o, ho, hc, hd⟩, x⟩
    exact ⟨b, r, t, u, e, ⟨o, k b o (fun q => by
      obtain ⟨xs, n, ha⟩ := ha
      rw [q, ha] at ho
      cases ho
      exact absurd (Value.type.inj hc) (by decide)) ho, hc, hd⟩, ih x⟩
theorem Pairs.length {h : Heap} : ∀ {l : List (Int × Int)} {vs : List Value}, Pairs h l vs → vs.length = l.length := by
  intro l
  induction l with
  | nil => intro vs x; rw [show _ = [] from x]; rfl
  | cons p l ih => rintro vs ⟨_, _, _, _, e, _, x⟩; rw [e, List.length_cons, List.length_cons, ih x]
theorem Pairs.get {h : Heap} : ∀ {l : List (Int × Int)} {vs : List Value}, Pairs h l vs → ∀ i, i < l.length → ∃ a t u, vs.getD i .none = .ref a ∧ IsTup h a #[.int (l.getD i (0, 0)).1 t, .int (l.getD i (0, 0)).2 u] := by
  intro l
  induction l with
  | nil => exact fun _ _ hi => absurd hi (Nat.not_lt_zero _)
  | cons p l ih =>
    rintro vs ⟨a, r, t, u, e, x, y⟩ i hi
    cases i with
    | zero => exact ⟨a, t, u, by rw [e]; rfl, x⟩
    | succ i =>
      obtain ⟨a, t, u, e', x'⟩ := ih y i (Nat.lt_of_succ_lt_succ hi)
      exact ⟨a, t, u, by rw [e]; exact e', x'⟩
theorem Pairs.tups {h : Heap} : ∀ {l : List (Int × Int)} {vs : List Value}, Pairs h l vs → ∃ fs, KatTups h vs fs ∧ fs.length = l.length ∧ ∀ v ∈ fs, ∃ i t, v = .int i t := by
  intro l
  induction l with
  | nil => intro vs x; exact ⟨[], by rw [show _ = [] from x]; trivial, rfl, fun _ h => by cases h⟩
  | cons p l ih =>
    rintro vs ⟨a, r, t, u, e, ⟨o, ho, hc, n, hd⟩, x⟩
    obtain ⟨fs, h1, h2, h3⟩ := ih x
    refine ⟨.int p.1 t :: fs, ?_, by rw [List.length_cons, List.length_cons, h2], fun v hv => ?_⟩
    · rw [e]; exact .cons ho hc hd rfl h1
    · rcases List.mem_cons.mp hv with rfl | hv
      · exact ⟨_, _, rfl⟩
      · exact h3 v hv
theorem reps_pairs {h : Heap} {Z : Addr → Prop} : ∀ {l : List (Int × Int)} {vs : List Value}, Reps h Z (l.map pairPV) vs → Pairs h l vs := by
  intro l
  induction l with
  | nil =>
    intro vs x
    have x : vs = [] := by simpa [Reps] using x
    exact x
  | cons p l ih =>
    intro vs x
    simp only [List.map_cons, Reps, pairPV, Rep] at x
    obtain ⟨v, r, rfl, ⟨a, ws, rfl, ht, _, w1, r1, rfl, ⟨t, rfl⟩, w2, r2, rfl, ⟨u, rfl⟩, rfl⟩, x⟩ := x
    exact ⟨a, r, t, u, rfl, ht, ih x⟩
theorem reps_getD {h : Heap} {Z : Addr → Prop} : ∀ {l : List (Int × Int)} {vs : List Value}, Reps h Z (l.map pairPV) vs → ∀ i, i < l.length → Rep h Z (pairPV (l.getD i (0, 0))) (vs.getD i .none)
  | [], _, _, _, hi => absurd hi (Nat.not_lt_zero _)
  | p :: l, _, x, i, hi => by
    simp only [List.map_cons, Reps] at x
    obtain ⟨v, r, rfl, hv, x⟩ := x
    cases i with
    | zero => exact hv
    | succ i => exact reps_getD x i (Nat.lt_of_succ_lt_succ hi)
theorem reps_pick {h : Heap} {Z : Addr → Prop} {l : List (Int × Int)} {vs : List Value} (x : Reps h Z (l.map pairPV) vs) : ∀ is : List Nat, (∀ i ∈ is, i < l.length) → Reps h Z ((is.map fun i => l.getD i (0, 0)).map pairPV) (is.map fun i => vs.getD i .none)
  | [], _ => by simp [Reps]
  | i :: is, hi => by
    simp only [List.map_cons, Reps]
    exact ⟨_, _, rfl, reps_getD x i (hi i (.head _)), reps_pick x is fun j hj => hi j (.tail _ hj)⟩

section
variable {prog : Program} {w : World} {A : Around} {E : Value → Shared → Prop} {s : Shared}

theorem pair_lt {l : List (Int × Int)} {vs : List Value} {i j : Nat} {Q : Bool → Shared → Prop} (p : Pairs s.heap l vs) (hi : i < l.length) (hj : j < l.length)
    (h : ∀ t, Q (tupLt (l.getD i (0, 0)) (l.getD j (0, 0))) { s with toks := t }) : kas_ask prog w A (tuples' true) vs i j Q s := by
  obtain ⟨a, t, u, ea, o, ho, _, n, hd⟩ := p.get i hi
  obtain ⟨b, t', u', eb, o', ho', _, n', hd'⟩ := p.get j hj
  unfold kas_ask
  rw [ea, eb]
  refine kat_lt ho hd ho' hd' ?_
  generalize l.getD i (0, 0) = x at h ⊢
  generalize l.getD j (0, 0) = y at h ⊢
  obtain ⟨x1, x2⟩ := x
  obtain ⟨y1, y2⟩ := y
  unfold tupLt at h
  refine kat_cons (wpAny_eqBool_int ?_)
  cases e : (x1 == y1) with
  | false =>
    simp only [e, Bool.false_eq_true, if_false] at h
    exact kat_no (oneLt_int (h s.toks))
  | true =>
    simp only [e, if_true] at h
    refine kat_yes (kat_cons (wpAny_eqBool_int ?_))
    cases e2 : (x2 == y2) with
    | false => exact kat_no (kat_one _ _ (P.lt_int (h s.toks)))
    | true =>
      have : x2 = y2 := by simpa using e2
      subst this
      refine kat_yes (kat_nil ?_)
      have := h s.toks
      rwa [show decide (x2 < x2) = false by simp] at this

/-- a list of pairs, sorted in place: the heap afterwards -/
theorem list_sort_pairs {a : Addr} {l : List (Int × Int)} {vs : List Value} {n : Nat} {P : PySem.Fin → Shared → Prop} (ho : s.heap.get? a = some (seqObj "list" vs.toArray n)) (p : Pairs s.heap l vs) (h2 : 2 ≤ l.length) (h64 : l.length < 64)
    (h : ∀ t, P (.done (.ret .none)) { s with heap := sortedHeap s.heap a vs ((sortIx l).map fun i => vs.getD i Value.none).toArray, toks := t }) :
    wpAny (model prog w) A (Builtin.«list.sort» ⟨[.ref a], []⟩) P E s := by
  have hl := p.length
  rw [list_sort_plain]
  have ha : a < s.heap.objs.size := Heap.lt_size ho
  refine wpAny_bind (listItems_at ho rfl ?_)
  refine wpAny_bind (listUpdate_at ho rfl ?_ (by rw [List.size_toArray, sizeLine_eq]; omega) (Nat.zero_le _))
  obtain ⟨e1, ho1⟩ : ∃ e1, (s.heap.update a (Obj.mapSeq fun _ => (#[] : Array Value))).get? a = some (seqObj "list" #[] e1) := ⟨_, get?_update_seq ho fun _ => #[]⟩
  refine wpAny_bind (seqEpoch_at ho1 rfl ?_)
  refine wpAny_bind (wpAny_newTuple ?_ (by show vs.length ≤ _; rw [sizeLine_eq]; omega))
  refine wpAny_bind (wpAny_newList ?_ (Nat.zero_le _))
  refine wpAny_holding ?_
  have ho6 : (((s.heap.update a (Obj.mapSeq fun _ => #[])).push (seqObj "tuple" vs.toArray 0)).push (seqObj "list" #[] 0)).get? a = some (seqObj "list" #[] e1) := by
    rw [Heap.get?_push_ne _ _ _ (by rw [size_push', Heap.size_update]; exact Nat.ne_of_lt (Nat.lt_succ_of_lt ha)), Heap.get?_push_ne _ _ _ (by rw [Heap.size_update]; exact Nat.ne_of_lt ha)]
    exact ho1
  show wpAny (model prog w) A _ P E { s with heap := ((s.heap.update a (Obj.mapSeq fun _ => #[])).push (seqObj "tuple" vs.toArray 0)).push (seqObj "list" #[] 0) }
  obtain ⟨H, hH⟩ : ∃ H, H = ((s.heap.update a (Obj.mapSeq fun _ => #[])).push (seqObj "tuple" vs.toArray 0)).push (seqObj "list" #[] 0) := ⟨_, rfl⟩
  have pH : Pairs H l vs := by
    refine Pairs.kp' (a := a) (fun b o hb e => ?_) ⟨_, _, ho⟩ p
    rw [hH]
    have hlt := Heap.lt_size e
    rw [Heap.get?_push_ne _ _ _ (by rw [size_push', Heap.size_update]; exact Nat.ne_of_lt (Nat.lt_succ_of_lt hlt)), Heap.get?_push_ne _ _ _ (by rw [Heap.size_update]; exact Nat.ne_of_lt hlt), Heap.get?_update_ne _ _ _ _ hb]
    exact e
  have ho6' : H.get? a = some (seqObj "list" #[] e1) := by rw [hH]; exact ho6
  dsimp only
  have hn2 : ¬ vs.toArray.size < 2 := by rw [List.size_toArray]; omega
  rw [if_neg hn2, if_neg hn2, ← hH]
  obtain ⟨fs, t1, t2, t3⟩ := pH.tups
  refine wpAny_bind (kat_kind (s := { s with heap := H }) (T := .type "int") t1 (by omega) (fun v hv => ?_) (by decide) ?_)
  · obtain ⟨i, t, rfl⟩ := t3 v hv
    exact Looks.of_pure rfl
  refine wpAny_bind (wpAny_mono (kat_run (Q := fun st' s' => ∃ t, (arrOf st').map (·.2) = ((sortIx l).map fun i => vs.getD i Value.none).toArray ∧ failedOf st' = none ∧ s' = { s with heap := H, toks := t }) (G := fun q s' => q.toList = sortIx l ∧ ∃ t, s' = { s with heap := H, toks := t })
    rfl (by omega) (by omega) (fun p' st' s' a1 a2 a3 a4 => ?_) ?_) ?_ fun _ _ e => e)
  · obtain ⟨b1, t, b2⟩ := a4
    exact ⟨t, by rw [kat_snds rfl a2, b1], a3, b2⟩
  · rw [hl]
    refine kasWp_all (P := (· < l.length)) (R := fun r => InR l.length r) (lt := fun i j => tupLt (l.getD i (0, 0)) (l.getD j (0, 0))) (h := H) (fun i j C s' hs hi hj hC => ?_) _ _ rfl ?_ fun k => ?_
    · rw [show (Value.type "int" != Value.type "tuple") = true by rfl]
      exact pair_lt (by rw [hs]; exact pH) hi hj hC
    · exact sort_all (by omega)
    · exact ⟨rfl, k, rfl⟩
  · rintro ⟨⟨⟩, st'⟩ s' ⟨t, hout, hf, rfl⟩
    dsimp only
    rw [hout]
    refine wpAny_bind (seqEpoch_at ho6' rfl ?_)
    refine wpAny_bind (listUpdate_at ho6' rfl ?_ (Nat.zero_le _) (by rw [List.size_toArray, List.length_map]; exact Nat.le_trans (sortIx_len l) (by rw [sizeLine_eq]; omega)))
    rw [hf]
    simp only [bne_self_eq_false, Bool.false_eq_true, if_false]
    refine wpAny_pure ?_
    have := h t
    rw [sortedHeap, ← hH] at this
    exact this

theorem sorted_pairs {b : Addr} {l : List (Int × Int)} {vs : List Value} {Q : Value → Shared → Prop} (hl : s.heap.IsList b vs.toArray) (p : Pairs s.heap l vs) (h2 : 2 ≤ l.length) (h64 : l.length < 64)
    (h : ∀ t, Q (.ref (s.heap.objs.size + 1)) { s with heap := sortedAll s.heap vs ((sortIx l).map fun i => vs.getD i Value.none).toArray, toks := t }) :
    wpAny (model prog w) A (call (.builtin "sorted") [.ref b]) Q E s := by
  have hll := p.length
  refine Calls.call_function_entry kind_sorted plain_sorted entry_sorted (args_sorted1 _) ?_
  unfold Builtin.«sorted»
  refine wpAny_bind (m := checkCount "sorted" 1 1 _) (wpAny_pure ?_)
  refine wpAny_bind (collect_list hl ?_ (by rw [sizeLine_eq]; omega))
  refine wpAny_bind (wpAny_newList ?_ (by rw [sizeLine_eq]; omega))
  have hsz : ((s.heap.push (seqObj "list" #[] 0)).update s.heap.objs.size (Obj.mapSeq (· ++ vs.toArray))).objs.size = s.heap.objs.size + 1 := by
    rw [Heap.size_update, size_push']
  have hoL : (((s.heap.push (seqObj "list" #[] 0)).update s.heap.objs.size (Obj.mapSeq (· ++ vs.toArray))).push (seqObj "list" vs.toArray 0)).get? (s.heap.objs.size + 1) = some (seqObj "list" vs.toArray 0) := by
    rw [← hsz]; exact Heap.get?_push_size _ rfl
  have keep : ∀ b o, s.heap.get? b = some o → (((s.heap.push (seqObj "list" #[] 0)).update s.heap.objs.size (Obj.mapSeq (· ++ vs.toArray))).push (seqObj "list" vs.toArray 0)).get? b = some o := fun b o q => by
    have hlt : b < s.heap.objs.size := Heap.lt_size q
    rw [Heap.get?_push_ne _ _ _ (by rw [hsz]; exact Nat.ne_of_lt (Nat.lt_succ_of_lt hlt)), Heap.get?_update_ne _ _ _ _ (Nat.ne_of_lt hlt), Heap.get?_push_ne _ _ _ (Nat.ne_of_lt hlt)]
    exact q
  show wpAny _ _ _ _ _ { s with heap := ((s.heap.push (seqObj "list" #[] 0)).update s.heap.objs.size (Obj.mapSeq (· ++ vs.toArray))).push (seqObj "list" vs.toArray 0) }
  rw [hsz]
  refine wpAny_bind (wpAny_holding (wpAny_call_entry slot_list_sort ⟨_, hoL, rfl⟩ entry_list_sort (list_sort_pairs hoL (p.kp keep) h2 h64 fun t => ⟨_, rfl, ?_⟩) (args_list_sort _)))
  exact wpAny_pure ⟨_, rfl, h t⟩
end

theorem fn_sorted_pairs {C : Cx} {k0 : Nat} {l : List (Int × Int)} (h2 : 2 ≤ l.length) (h64 : l.length < 64) : OpN C k0 (fun vs => call (.builtin "sorted") vs) [.list (l.map pairPV)] .n (.list ((sortP l).map pairPV)) := by
  rintro A Z s Q E vs H ⟨v, r, rfl, ⟨a, ws, rfl, hl, rs⟩, rfl⟩ hQ
  refine sorted_pairs hl.isList (reps_pairs rs) h2 h64 fun t => ?_
  have k : Kp s.heap (sortedAll s.heap ws ((sortIx l).map fun i => ws.getD i Value.none).toArray) := fun b o e => sortedAll_old e
  have n : s.heap.get? (s.heap.objs.size + 1) = none := fresh_size (Nat.le_succ _)
  refine hQ _ _ (Ext.heap k t) ⟨?_, fun a e => by cases e; exact n⟩
  simp only [Rep]
  obtain ⟨e, he⟩ := sortedAll_at s.heap ws ((sortIx l).map fun i => ws.getD i Value.none).toArray
  refine ⟨_, (sortIx l).map fun i => ws.getD i Value.none, rfl, ⟨e, he⟩, fun z => ?_, ?_⟩
  · obtain ⟨o, q⟩ := H.zl _ z
    rw [n] at q; cases q
  · exact reps_pick (rs.kp k) _ (sortIx_lt (by omega))
end Py

namespace Py

section
variable {C : Cx} {hb : Heap} {b : Nat} {A : Around} {Yv : Nat → PV} {ends : Bool} {n : Nat}

noncomputable def PEnd (ends : Bool) : Nat → Flow → List LV → Prop := fun n' f _ => (f = .next ∨ f = .ret .none) ∧ n' = 0 ∧ ends = true

/-- a generator that begins so: x = None; for t in y -/
theorem gen_list {x y z : Str} {p1 p2 p3 p4 pc : Pos} {kc : Nat} {t : Expr} {body : List Stmt} {ns : List Int} {s : Shared} (G : GOk C hb) (hA : OkA (b + 1) A) (hvs : C.vs = [y, x, z]) (ky : C.env.kindOf y = some .local) (kx : C.env.kindOf x = some .local) (hne : y ≠ x) (hyd : (y == ("__debug__" : Str)) = false)
    (f : Fr0 C hb [.v (LI ns), .unb, .unb] s) (hw : WG C b A hb Yv ends t body [] (PEnd ends) (ns.map .int) n [.unb, .v .none, .unb])
    (go : ∀ (s : Shared) (I l : Addr) (i : Nat) v (Q : Unit → Shared → Prop) (E : Value → Shared → Prop), s.heap.IsListIter I l i → Q () s → ∀ A', wpAny C.M A' (letOwnedTupleGo t (.ref I) v) Q E s)
    (hs : swapsWith (.Constant .none kc pc) (some (.Name x p1)) p2.line C.env = pure false := by rfl) (hff : ∀ x, foldedSetIterable (.Name y p3) C.env x = pure x := by intro _; rfl) :
    Seg C.M A (Rg hb ends) (Yg hb C.h₀ Yv ends) n s (.func (.Assign [.Name x p1] (.Constant .none kc pc) p2 :: .For t (.Name y p3) body [] p4 :: []) C.env) (C.M.den (.func (.Assign [.Name x p1] (.Constant .none kc pc) p2 :: .For t (.Name y p3) body [] p4 :: []) C.env)) [] s := by
  have S := f.st G rfl
  have ok := G.ok
  have live0 := f.live
  have kp0 := f.kp
  obtain ⟨m, hn, V⟩ := f.ns
  rw [hvs] at V
  obtain ⟨v, hv, hr⟩ := V.1
  have hmy : m y = some v := by
    rcases hv with q | q
    · exact q.2
    · exact absurd ky q.1
  simp only [Rep] at hr
  obtain ⟨l, vs, rfl, hl, _, rs⟩ := hr
  have nlock : ∀ b o, s.heap.get? b = some o → (hb.get? b ≠ none ∨ SeqObj o ∨ ∃ w, o.data = .cell w) → b ≠ C.env.locals := by
    rintro b o e h rfl
    rcases h with h | h | ⟨w, h⟩
    · exact h G.nl
    · exact (locals_plain S e).1 h
    · exact (locals_plain S e).2 w h
  refine seg_func (seg_execs_cons (seg_wrap (wpAny_Assign_Name (wpAny_Constant_none ?_) hs)))
  refine wpAny_storeName_local kx hn (fun h' hn' hsb => ?_) (by rw [ok.fk]; rfl)
  have h0l : ∀ b o, C.h₀.get? b = some o → b ≠ C.env.locals := fun b o e q => by
    have := ok.newL
    rw [← q, e] at this; cases this
  have kp1 : Kp C.h₀ h' := fun b o e => (hsb.2 b (h0l b o e)).trans (kp0 b o e)
  have live1 : LiveJ hb h' := (live_ok G).fr _ _ live0 fun b o e q => (hsb.2 b q).trans e
  have S1 : St C noZ [.unb, .v .none, .unb] { s with heap := h', toks := s.toks + 1 } := by
    refine ⟨kp1, fun _ z => z.elim, fun _ z => z.elim, List.nodup_nil, _, hn', ?_⟩
    rw [hvs]
    have un : ∀ w, VarIs C.env h' noZ (fun q => if q = x then some Value.none else m q) w .unb := fun w _ c hc => by rw [G.cells] at hc; cases hc
    exact ⟨un y, ⟨.none, .inl ⟨kx, if_pos rfl⟩, rfl⟩, un z, trivial⟩
  have m1 : Mg hb s { s with heap := h', toks := s.toks + 1 } := ⟨fun b o e h => (hsb.2 b (nlock b o e h)).trans e, .refl _, rfl, rfl⟩
  refine seg_execs_cons (seg_For hff (wpAny_Name (wpAny_loadName_local ok.fk ky hn' (by rw [if_neg hne]; exact hmy) ?_) hyd))
  have hl1 : h'.PlainList l vs.toArray := hl.at fun o e => kp1 l o e
  refine wpAny_pyIter_list hl1.isList fun p => ?_
  have X2 := Ext.push { s with heap := h', toks := s.toks + 1 } { cls := .type "list_iterator", data := .fields #[.ref l, .int 0 0] }
  have hit : Heap.IsListIter (h'.push { cls := .type "list_iterator", data := .fields #[.ref l, .int 0 0] }) h'.objs.size l 0 := ⟨_, Heap.get?_push_size _ rfl, rfl, rfl⟩
  have hlt : l < h'.objs.size := let ⟨n, e⟩ := hl1; Heap.lt_size e
  have hl2 : Heap.IsList (h'.push { cls := .type "list_iterator", data := .fields #[.ref l, .int 0 0] }) l vs.toArray := hl1.isList.push _
  have lo : ∀ (i : Nat) (h : Heap) q, (Heap.IsListIter h h'.objs.size l i ∧ h.IsList l vs.toArray) → q ∈ [h'.objs.size] → ∃ o, h.get? q = some o ∧ ¬ SeqObj o ∧ ∀ w, o.data ≠ .cell w := by
    rintro i h q ⟨⟨o, e, _, d⟩, _⟩ hq
    simp only [List.mem_cons, List.not_mem_nil, or_false] at hq
    subst hq
    exact ⟨o, e, (by rintro ⟨_, _, q⟩; rw [d] at q; cases q), (by intro w q; rw [d] at q; cases q)⟩
  have nh : hb.get? h'.objs.size = none := live1 _ (size_none _)
  refine wg_loop (I := fun ls h => ∃ i, i ≤ vs.toArray.size ∧ ls = (ns.map PV.int).drop i ∧ (Heap.IsListIter h h'.objs.size l i ∧ h.IsList l vs.toArray)) (fp := (· ∈ [h'.objs.size, l])) (wr := (· ∈ [h'.objs.size])) (P := PEnd ends) (rest := []) G (fun A' hA' => srcI_L (Walks.list (prog := C.prog) (w := C.w) hA'.h h'.objs.size l (Nat.ne_of_lt hlt) vs.toArray) (ns.map .int) (by rw [List.size_toArray, rs.length]) (fun i s v Q E st h => go s _ _ _ v Q E st.1 h A') (fun i v p e q h => ?_) lo) (fun q hq => ?_) (fun q hq => ?_) (fun i h q o hI hq e => ?_)
    (FsOk.func hA) (fun f => by cases f <;> rfl) (fun n' s₀' s' f σ' hp S' m' => ?_) _ n _ _ _ hw (S1.ext X2) ⟨0, Nat.zero_le _, rfl, hit, hl2⟩ (m1.trans (Mg.ext X2))
  · obtain ⟨w, hw, rw'⟩ := rs.get i e
    have : vs[i]? = some v := by simpa using q
    rw [hw] at this; cases this
    rw [List.getElem?_map] at e
    obtain ⟨k, _, rfl⟩ := Option.map_eq_some_iff.mp e
    exact rw'
  · simp only [List.mem_cons, List.not_mem_nil, or_false] at hq
    rw [hq]; exact nh
  · simp only [List.mem_cons, List.not_mem_nil, or_false] at hq
    rcases hq with rfl | rfl
    · obtain ⟨oL, _, _, e, _⟩ := hn'
      exact fun h => Nat.lt_irrefl _ (h ▸ Heap.lt_size e)
    · obtain ⟨k, e⟩ := hl
      exact h0l _ _ e
  · obtain ⟨j, _, _, st⟩ := hI
    simp only [List.mem_cons, List.not_mem_nil, or_false] at hq
    rcases hq with rfl | rfl
    · obtain ⟨o', e', q1, _⟩ := lo j h h'.objs.size st (.head _)
      rw [e] at e'; cases e'
      exact .inl ⟨q1, nh⟩
    · obtain ⟨k, e⟩ := hl
      exact .inr (by rw [e]; simp)
  · obtain ⟨hf, rfl, he⟩ := hp
    rcases hf with rfl | rfl
    · exact seg_end (.ok (.ret .none)) ⟨rfl, ⟨rfl, he⟩, m'⟩
    · exact seg_end (.ok (.ret .none)) ⟨rfl, ⟨rfl, he⟩, m'⟩
end
end Py

namespace Py

noncomputable def UpTo (h0 h : Heap) : Prop := ∀ b o, h0.get? b = some o → (∀ vs, o.data ≠ .fields vs) → ∃ sl, h.get? b = some { o with slots := sl }
theorem UpTo.trans {a b c : Heap} (x : UpTo a b) (y : UpTo b c) : UpTo a c := fun q o e n => by
  obtain ⟨sl, e1⟩ := x q o e n
  obtain ⟨sl2, e2⟩ := y q _ e1 n
  exact ⟨sl2, e2⟩
theorem UpTo.ns {h h' : Heap} {L : Addr} {m : Str → Option Value} (x : UpTo h h') (n : h.Ns L m) : h'.Ns L m := by
  obtain ⟨o, es, ep, e, d, r⟩ := n
  obtain ⟨sl, e'⟩ := x L o e fun vs q => by rw [d] at q; cases q
  exact ⟨_, es, ep, e', d, r⟩

structure Fly (base : Heap) (l : List Env) (e : Addr) (cls : String) (hd : Option Value) (h0 h : Heap) : Prop where
  st : base.StaysIn h
  en : base.get? e = none
  ff : h.FunFrames base l
  up : UpTo h0 h
  tr : ∃ oe vs, h.get? e = some oe ∧ oe.cls = .type cls ∧ oe.data = .fields vs ∧ match hd with
     | none => vs[1]? = some .none
     | some f => ∃ T oT ts, vs[1]? = some (.ref T) ∧ base.get? T = none ∧ T ≠ e ∧ h.get? T = some oT ∧ oT.data = .fields ts ∧ ts[3]? = some f

section
variable {M : Model} {A : Around} {E : Value → Shared → Prop} {s : Shared} {base h0 : Heap} {e : Addr} {cls : String}

/-- a field of an object that base does not hold is set -/
theorem fly_upd {l : List Env} {h : Heap} {T : Addr} {oT : Obj} {ts : Array Value} (st : base.StaysIn h) (ff : h.FunFrames base l) (up : UpTo h0 h) (bT : base.get? T = none) (hT : h.get? T = some oT) (dT : oT.data = .fields ts) (f : Array Value → Array Value) :
    base.StaysIn (h.update T (Obj.mapFields f)) ∧ (h.update T (Obj.mapFields f)).FunFrames base l ∧ UpTo h0 (h.update T (Obj.mapFields f)) := by
  have keep : ∀ b o, b ≠ T → h.get? b = some o → (h.update T (Obj.mapFields f)).get? b = some o := fun b o n q => by
    rw [Heap.get?_update_other _ _ (Ne.symm n)]; exact q
  have nT : ∀ b o, h.get? b = some o → (∀ vs, o.data ≠ .fields vs) → b ≠ T := fun b o q n z => by
    rw [z, hT] at q; cases q; exact n ts dT
  refine ⟨fun b o q => keep b o (fun z => by rw [z, bT] at q; cases q) (st b o q), ff.of_keeps fun b o q n => ⟨o, keep b o (nT b o q n) q, rfl⟩, fun b o q n => ?_⟩
  obtain ⟨sl, q'⟩ := up b o q n
  exact ⟨sl, keep b _ (nT b _ q' n) q'⟩

theorem fly_set {l : List Env} {f : Value} {fr : Option Addr} {Q : Unit → Shared → Prop} (F : Fly base l e cls (some f) h0 s.heap) (h : ∀ h', Fly base l e cls (some (fr.elim .none fun x => rawInt x)) h0 h' → Q () { s with heap := h' }) :
    wpAny M A (setFlight (.ref e) fr) Q E s := by
  obtain ⟨st, en, ff, up, oe, vs, he, hc, hd, T, oT, ts, h1, bT, hTe, hT, dT, h3⟩ := F
  unfold setFlight
  refine wpAny_bind (wpAny_field he hd h1 ?_)
  rw [if_pos (show (Value.ref T != Value.none) = true from by simp)]
  have hsz : 3 < ts.size := (Array.getElem?_eq_some_iff.mp h3).1
  refine wpAny_setField hT dT hsz (h _ ?_)
  obtain ⟨a1, a2, a3⟩ := fly_upd st ff up bT hT dT (·.setIfInBounds 3 (fr.elim .none fun x => rawInt x))
  refine ⟨a1, en, a2, a3, oe, vs, ?_, hc, hd, T, _, _, h1, bT, hTe, Heap.get?_update_self _ hT (Obj.isFreed_of_fields (Obj.data_mapFields dT _)), Obj.data_mapFields dT _, by simp [hsz]⟩
  rw [Heap.get?_update_other _ _ hTe]; exact he

theorem fly_entry {env : Env} {outer : List Env} {L : Addr} {head : Value} {hadNext : Bool} {hd' : Option Value} {Q : Unit → Shared → Prop} (hfr : A.frames = some (env :: outer)) (hf : env.frame = some L) (F : Fly base (env :: outer) e cls hd' h0 s.heap)
    (h : ∀ h', Fly base (env :: outer) e cls (some (rawInt L)) h0 h' → Q () { s with heap := h' }) :
    wpAny M A (do let a ← frameOf env; let pl ← entryPlaceOf L hadNext; let b ← EntryCells.newEntry head a .none (rawInt L) .none pl; setField (.ref e) 1 b) Q E s := by
  obtain ⟨kb, hen, hl, up, oe, vs, he, hc, hd, hx⟩ := F
  have hsz : 1 < vs.size := by
    cases hd' with
    | none => exact (Array.getElem?_eq_some_iff.mp hx).1
    | some f => obtain ⟨T, oT, ts, h1, _⟩ := hx; exact (Array.getElem?_eq_some_iff.mp h1).1
  have hene : e ∉ (env :: outer).filterMap (·.frame) := fun hm => by
    obtain ⟨_, o, ho, hnf⟩ := hl.mem hm
    rw [he] at ho; injection ho with ho; subst ho; exact hnf vs hd
  refine wpAny_bind (wpAny_frameOf_fun hfr hl hf fun h₁ hs₁ => ?_)
  refine wpAny_bind (wpAny_entryPlaceOf fun pl hpl => ?_)
  unfold EntryCells.newEntry newFields
  refine wpAny_bind (wpAny_newObj_type ?_ (hpl.sizeOk5 _ _ _ _ _))
  have he₁ : h₁.get? e = some oe := (hs₁.2.1 e hene).trans he
  have kb₁ : base.StaysIn h₁ := fun b o hbo => (hs₁.2.1 b fun hm => by rw [(hl.mem hm).1] at hbo; cases hbo).trans (kb b o hbo)
  generalize eN : ({ cls := .type "traceback", dict := none, data := .fields ([head, .ref L, .none, rawInt L, .none] ++ (if pl.isEmpty then List.replicate 6 Value.none else pl)).toArray } : Obj) = oN
  have he₂ := Heap.get?_push_of_some (h := h₁) oN he₁
  have dN : oN.data = .fields ([head, .ref L, .none, rawInt L, .none] ++ (if pl.isEmpty then List.replicate 6 Value.none else pl)).toArray := by rw [← eN]
  have hT₂ : (h₁.push oN).get? h₁.objs.size = some oN := Heap.get?_push_size h₁ (Obj.isFreed_of_fields dN)
  refine wpAny_setField he₂ hd hsz (h _ ?_)
  have hTe : h₁.objs.size ≠ e := Nat.ne_of_gt (Heap.lt_size he₁)
  have up1 : UpTo h0 h₁ := up.trans fun b o q _ => hs₁.2.2 b o q
  obtain ⟨a1, a2, a3⟩ := fly_upd (T := e) (h0 := h0) (h := h₁.push oN) (l := env :: outer) (fun b o q => Heap.get?_push_of_some _ (kb₁ b o q)) ((hl.of_slotsOnly hs₁).of_keeps fun b o q _ => ⟨o, Heap.get?_push_of_some _ q, rfl⟩) (fun b o q n => let ⟨sl, q'⟩ := up1 b o q n; ⟨sl, Heap.get?_push_of_some _ q'⟩) hen he₂ hd (·.setIfInBounds 1 (Value.ref h₁.objs.size))
  have hd₃ := Obj.data_mapFields hd (·.setIfInBounds 1 (Value.ref h₁.objs.size))
  refine ⟨a1, hen, a2, a3, _, _, Heap.get?_update_self _ he₂ (Obj.isFreed_of_fields hd₃), ?_, hd₃, h₁.objs.size, oN, _, by simp [hsz], kb₁.fresh, hTe, ?_, dN, ?_⟩
  · rw [Obj.cls_mapFields]; exact hc
  · rw [Heap.get?_update_other _ _ (Ne.symm hTe)]; exact hT₂
  · simp

theorem fly_note {env : Env} {outer : List Env} {L : Addr} {hd : Option Value} {Q : Unit → Shared → Prop} (hfr : A.frames = some (env :: outer)) (hf : env.frame = some L) (F : Fly base (env :: outer) e cls hd h0 s.heap)
    (h : ∀ h', Fly base (env :: outer) e cls (some (rawInt L)) h0 h' → Q () { s with heap := h' }) : wpAny M A (noteFrame (.ref e) env) Q E s := by
  have F' := F
  obtain ⟨st, en, ff, up, oe, vs, he, hc, hdt, hx⟩ := F
  unfold noteFrame
  simp only [hf]
  cases hd with
  | none =>
    refine wpAny_bind (wpAny_field he hdt hx ?_)
    rw [if_neg (by decide)]
    exact fly_entry hfr hf F' h
  | some f =>
    obtain ⟨T, oT, ts, h1, bT, hTe, hT, dT, h3⟩ := hx
    refine wpAny_bind (wpAny_field he hdt h1 ?_)
    rw [if_pos (show (Value.ref T != Value.none) = true from by simp)]
    refine wpAny_bind (wpAny_field hT dT h3 ?_)
    by_cases hq : (f == rawInt L) = true
    · rw [if_pos hq]
      have : f = rawInt L := by simpa using hq
      subst this
      exact wpAny_pure (h s.heap F')
    · rw [if_neg hq]
      have hsz : 3 < ts.size := (Array.getElem?_eq_some_iff.mp h3).1
      refine wpAny_bind (wpAny_setField hT dT hsz ?_)
      obtain ⟨a1, a2, a3⟩ := fly_upd st ff up bT hT dT (·.setIfInBounds 3 .none)
      refine fly_entry (hd' := some .none) hfr hf ⟨a1, en, a2, a3, oe, vs, ?_, hc, hdt, T, _, _, h1, bT, hTe, Heap.get?_update_self _ hT (Obj.isFreed_of_fields (Obj.data_mapFields dT _)), Obj.data_mapFields dT _, by simp [hsz]⟩ h
      show (s.heap.update T _).get? e = some oe
      rw [Heap.get?_update_other _ _ hTe]; exact he
theorem Fly.tail {env : Env} {outer : List Env} {hd : Option Value} {h : Heap} (F : Fly base (env :: outer) e cls hd h0 h) : Fly base outer e cls hd h0 h := ⟨F.st, F.en, F.ff.2.2, F.up, F.tr⟩
end

section
variable {prog : Program} {w : World} {A : Around} {E : Value → Shared → Prop} {s : Shared}
/-- the next item of a generator that raises before it hands out one -/
theorem pyNext_raise {a : Addr} {g : Nat} {c : Code} {P : Addr → Shared → Prop} {cls : String} {Q : Option Value → Shared → Prop} (hl : s.heap.NoLimit) (hroom : A.depth < recursionLimit)
    (hg : s.heap.IsGen a g) (hgs : s.gens[g]? = some (.fresh c)) (hns : isSubtype (.type cls) (.type "StopIteration") = pure false)
    (hgo : Seg (model prog w) A.in1 (fun _ _ r s₁ => ∃ e, r = .error (.ref e) ∧ P e s₁) (fun _ _ _ _ _ => False) 0 (s.setGen g .running) c ((model prog w).den c) [] (s.setGen g .running))
    (hP : ∀ e s₁, P e s₁ → s₁.heap.IsGen a g ∧ s₁.TypeIs (.ref e) cls ∧ E (.ref e) (s₁.setGen g .finished)) :
    wpAny (model prog w) A (pyNext (.ref a)) Q E s := by
  unfold pyNext
  refine wpAny_bind (wpAny_attempt (wpAny_callSpecial?_slot (name := Str.ofString "__next__") hg.typeIs slot_gen_next
    (wpAny_call_entry slot_gen_next hg.typeIs entry_gen_next ?_ (args_gen_next _))))
  show wpAny _ A.in1 (Builtin.Generator.genWake (.ref a) (.send .none)) _ _ s
  unfold Builtin.Generator.genWake
  refine wpAny_bind (wpAny_holding (wpAny_genNumber hg (wpAny_bind (wpAny_genState hgs ?_))))
  refine wpAny_bind (wpAny_roomToWake hl hroom ?_)
  show wpAny _ A.in1 (.resume g (.send .none) [] _) _ _ s
  refine wpAny_resumeQ (gs := .fresh c) hgs ⟨rfl, hgo⟩ (fun x s₁ hx => ?_) (fun _ _ _ _ hv => hv.elim)
  obtain ⟨e, rfl, hp⟩ := hx
  obtain ⟨hg1, hT, hE⟩ := hP e s₁ hp
  show wpAny _ A.in1 (Builtin.Generator.genLeft (.ref a) (.ref e)) _ _ _
  unfold Builtin.Generator.genLeft Builtin.Generator.madeByALambda
  obtain ⟨o, nm, qn, ho, hc, hd, hsl⟩ := hg1
  refine wpAny_bind (wpAny_bind (wpAny_load ho (wpAny_pure ?_)))
  rw [hd]
  have ef : (o.cls == Value.type "generator" && (match (Data.fields #[Value.int (↑g) 0, nm, qn]) with | .fields vs => vs[3]? == some (.bool true) | _ => false)) = false := by
    rw [Bool.and_eq_false_iff]; right; rfl
  rw [ef]
  have hT' : Shared.TypeIs (s₁.setGen g .finished) (.ref e) cls := hT
  refine wpAny_bind (wpAny_isInstance (b := false) hT' hns ?_)
  show wpAny _ A.in1 (Builtin.Generator.genEscaped (.ref e)) _ _ _
  unfold Builtin.Generator.genEscaped
  refine wpAny_bind (wpAny_isInstance (b := false) hT' hns ?_)
  refine wpAny_throw ?_
  refine wpAny_bind (wpAny_isInstance (b := false) hT' hns ?_)
  exact wpAny_throw hE
end
end Py

namespace Py

section
variable {M : Model} {A : Around} {E : Value → Shared → Prop} {s : Shared} {base h0 : Heap} {e : Addr} {cls : String}
theorem fly_back {env : Env} {l : List Env} {L : Addr} {f : Value} (hf : env.frame = some L) (F : Fly base l e cls (some f) h0 s.heap) (h : ∀ h', Fly base l e cls (some (rawInt L)) h0 h' → E (.ref e) { s with heap := h' }) :
    cameBackBy M A env E (.ref e) s := by
  unfold cameBackBy
  have F' := F
  obtain ⟨st, en, ff, up, oe, vs, he, hc, hdt, T, oT, ts, h1, bT, hTe, hT, dT, h3⟩ := F
  refine wpAny_bind (wpAny_field he hdt h1 ?_)
  rw [if_neg (by simp)]
  refine fly_set F' fun h' F2 => ?_
  rw [hf] at F2
  exact h h' F2
/-- a loop's own activation passes it on -/
theorem fly_own {env : Env} {outer : List Env} {L : Addr} {hd : Option Value} (hfr : A.frames = some (env :: outer)) (hf : env.frame = some L) (F : Fly base (env :: outer) e cls hd h0 s.heap)
    (h : ∀ h', Fly base (env :: outer) e cls (some (rawInt L)) h0 h' → E (.ref e) { s with heap := h' }) : notedBy M A env (cameBackBy M A env E) (.ref e) s := by
  unfold notedBy
  exact fly_note hfr hf F fun h1 F1 => fly_back hf F1 h
theorem fly_leave {env : Env} {outer : List Env} {L : Addr} {hd : Option Value} {Q : Unit → Shared → Prop} (hfr : A.frames = some (env :: outer)) (hf : env.frame = some L) (F : Fly base (env :: outer) e cls hd h0 s.heap)
    (h : ∀ h', Fly base (env :: outer) e cls (some .none) h0 h' → Q () { s with heap := h' }) : wpAny M A (leaving env (.ref e)) Q E s := by
  unfold leaving
  exact wpAny_bind (fly_note hfr hf F fun h1 F1 => fly_set F1 h)
/-- a new exception is in flight -/
theorem Fly.made {l : List Env} {h h' : Heap} (x : Heap.NewExc h h' e cls) (st : base.StaysIn h) (ff : h.FunFrames base l) (up : UpTo h0 h) : Fly base l e cls none h0 h' := by
  obtain ⟨ob, t, he, hc, hd⟩ := x.there
  refine ⟨fun b o q => x.keeps b o (st b o q), ?_, ff.of_keeps fun b o q _ => ⟨o, x.keeps b o q, rfl⟩, fun b o q n => let ⟨sl, q'⟩ := up b o q n; ⟨sl, x.keeps b _ q'⟩, ob, _, he, hc, hd, rfl⟩
  cases q : base.get? e with
  | none => rfl
  | some o => have := st e o q; rw [x.new] at this; cases this
end

section
variable {C : Cx} {fd : FuncData} {pn locs : List Str} {a : Addr}

/-- only heap and tokens, and the table of generators by growth, are new -/
structure Oth (s s' : Shared) : Prop where
  gk : GK s.gens s'.gens
  dr : s'.drawn = s.drawn
  os : s'.os = s.os
theorem Oth.trans {a b c : Shared} (x : Oth a b) (y : Oth b c) : Oth a c := ⟨x.gk.trans y.gk, y.dr.trans x.dr, y.os.trans x.os⟩
theorem Ext.oth {s s' : Shared} (x : Ext s s') : Oth s s' := ⟨x.gk, x.dr, x.os⟩
theorem Frame.oth {Z Z' : Addr → Prop} {s s' : Shared} (x : Frame C Z s Z' s') : Oth s s' := ⟨x.gk, x.dr, x.os⟩

theorem gkn_set {n g : Nat} {gs : Array GenState} {x : GenState} (h : n ≤ g) (hx : x.bare = true) : GKn n gs (gs.setIfInBounds g x) :=
  ⟨by simp, fun i hi => by rw [Array.getElem?_setIfInBounds, if_neg (by omega)], fun hb => bare_set hb hx⟩

theorem for_raise {A : Around} {Z : Addr → Prop} {σ : List LV} {t : Expr} {x : Str} {p ipos pos : Pos} {o : Obj} {gbody body orelse : List Stmt} {es : List Expr} {ps : List PV} {b : Nat} {outer : List Env} {cls : String} {s : Shared} {Q : Flow → Shared → Prop} {E : Value → Shared → Prop}
    (ok : C.Ok) (hA : OkA (b + 2) A) (gv : GV C x (.ref a)) (ho : ∀ h, C.W h → h.get? a = some o) (hdata : o.data = .func fd)
    (hbody : fd.body = .stmts gbody) (hcd : ∀ h, C.W h → h.CodeRec fd.code fd.qualname) (chk : fnChk fd.scope pn locs = true) (hnc0 : (fd.scope.names.all fun p => p.2 != .cell) = true) (hbind : ∀ vals : List Value, vals.length = pn.length → bindArgs fd ⟨vals, []⟩ = pure (pn.zip vals)) (hps : ps.length = pn.length)
    (ha : EvL C A Z σ es ps) (S : St C Z σ s) (hfr : A.frames = some (C.env :: outer)) (hLF : C.env.frame = some C.env.locals)
    (hout : ∀ env ∈ outer, env.scope.kind ≠ .module ∧ ∃ L, env.frame = some L ∧ ∃ o, C.h₀.get? L = some o ∧ ∀ vs, o.data ≠ .fields vs)
    (hns : isSubtype (.type cls) (.type "StopIteration") = pure false)
    (hrun : ∀ (L : Addr) (h0 base hU : Heap) (l : List Env) (A0 : Around) (s : Shared) (Er : Value → Shared → Prop), OkA b A0 → (gCx C fd L h0 a (pn ++ locs)).Ok → St (gCx C fd L h0 a (pn ++ locs)) noZ (ps.map .v ++ locs.map fun _ => .unb) s →
      A0.frames = some (callEnvC fd L a :: l) → s.heap.FunFrames base (callEnvC fd L a :: l) → base.StaysIn s.heap → UpTo hU s.heap → hU.get? L = none →
      (∀ e s', Fly base (callEnvC fd L a :: l) e cls (some (rawInt L)) hU s'.heap → Oth s s' → Er (.ref e) s') → wpAny C.M A0 (execs gbody (callEnvC fd L a)) (fun _ _ => False) Er s)
    (hE : ∀ e base s', Fly base (C.env :: outer) e cls (some (rawInt C.env.locals)) s.heap s'.heap → (∀ b o, s.heap.get? b = some o → b ∉ (C.env :: outer).filterMap (·.frame) → base.get? b = some o) → (∀ b, s.heap.get? b ≠ none → s'.heap.get? b ≠ none) → Oth s s' → E (.ref e) s')
    (hclo : fd.closure = [] := by rfl) (hco : fd.scope.isCoroutine = false := by rfl) (hgen : fd.scope.isGenerator = true := by rfl)
    (hf : ∀ y, foldedSetIterable (.Call (.Name x p) es [] ipos) C.env y = pure y := by intro _; rfl) : wpAny C.M A (exec (.For t (.Call (.Name x p) es [] ipos) body orelse pos) C.env) Q E s := by
  have K := fnChk_of chk
  have hnc : ∀ p ∈ fd.scope.names, p.2 ≠ NameKind.cell := fun p hp => by simpa using List.all_eq_true.mp hnc0 p hp
  have W : ∀ {s'}, St C Z σ s' → C.W s'.heap := fun S' => ok.mono _ _ ok.w0 S'.keep
  refine wpAny_For ?_ hf
  refine wpAny_Call_NameR (gv _ _ _ _ _ (W S) ?_)
  refine callWith_function (evArgsL ha S fun vs s1 X r1 => ⟨⟨ho _ (W (S.ext X)), hdata⟩, ?_⟩)
  have S1 := S.ext X
  have hlen : vs.length = pn.length := by rw [r1.length, hps]
  have H := S1.here ok hA
  refine wpAny_call (codeAny_call_generator (by have := hA.d; omega) (ho _ (W S1)) hdata hco hgen hbody (hcd _ (W S1)) ?_)
  show wpAny C.M A.in1 (bindArgs fd ⟨[] ++ vs, []⟩) _ _ s1
  rw [List.nil_append, hbind vs hlen, hclo]
  refine wpAny_pure (wpAny_newFunctionEnv_cells K.k1 (fun x hx => ?_) fun env he s' ic => ?_)
  · have hxp : x.1 ∈ pn ++ locs := List.mem_append_left _ (List.of_mem_zip (a := x.1) (b := x.2) hx).1
    rcases K.hl _ hxp with q | q
    · exact .inl q
    · exact absurd rfl (hnc _ (mem_of_lookup q))
  subst he
  obtain ⟨h', tk, rfl, hk⟩ := ic.done
  refine ⟨H.lim.keeps hk, ?_⟩
  generalize eL : s1.heap.objs.size = L at ic ⊢
  have eEnv : newEnv fd.scope L fd.globals (cellsFrom (L + 1) fd.scope.names []) (fd.qualname ++ ".<locals>.") (some a) fd.code none fd.builtins = callEnvC fd L a := rfl
  rw [eEnv] at ic ⊢
  have nsL : h'.Ns L (bindL (callEnvC fd L a).kindOf (pn.zip vs) fun _ => none) := ic.toInCall.ns
  have nL : s1.heap.get? L = none := get_none (by omega)
  dsimp only
  generalize eo : ({ cls := .type "generator", data := .fields #[.int s1.gens.size 0, .str fd.name tk, .str fd.qualname (tk + 1)] } : Obj) = go
  have kpush : Kp h' (h'.push go) := fun b o e => Heap.get?_push_of_some _ e
  have gga : (h'.push go).get? h'.objs.size = some go := Heap.get?_push_size _ (by subst eo; rfl)
  have hgen1 : (h'.push go).IsGen h'.objs.size s1.gens.size := ⟨go, _, _, gga, by subst eo; rfl, by subst eo; rfl, by subst eo; rfl⟩
  have k2 : Kp s1.heap (h'.push go) := fun b o e => kpush b o (hk b o e)
  have k3 : Kp s.heap (h'.push go) := X.kp.trans k2
  have lt1 : ∀ b o, s1.heap.get? b = some o → b ≠ L := fun b o e q => by rw [q, nL] at e; cases e
  have nLs : s.heap.get? L = none := none_kp X.kp nL
  obtain ⟨h0, h01, h02⟩ := part_heap s1.heap (Priv C Z)
  obtain ⟨base, b1, b2⟩ := part_heap (h'.push go) (fun b => b = L ∨ b ∈ (C.env :: outer).filterMap (·.frame))
  have bn : ∀ b, (b = L ∨ b ∈ (C.env :: outer).filterMap (·.frame)) → base.get? b = none := fun b q => by
    cases e : base.get? b with
    | none => rfl
    | some o => exact absurd q (b1 b o e).2
  obtain ⟨oL, esL, epL, hoL, hdL, restL⟩ := nsL
  have ff : (h'.push go).FunFrames base (callEnvC fd L a :: C.env :: outer) := by
    refine ⟨?_, ⟨L, oL, rfl, bn L (.inl rfl), kpush L oL hoL, fun vs q => by rw [hdL] at q; cases q⟩, ?_, ?_, ?_⟩
    · show fd.scope.kind ≠ _; rw [K.k1]; decide
    · rw [ok.fk]; decide
    · obtain ⟨m, ⟨oC, _, _, hC, dC, _⟩, _⟩ := S.vars
      exact ⟨C.env.locals, oC, hLF, bn _ (.inr (by rw [List.filterMap_cons, hLF]; exact .head _)), k3 _ _ hC, fun vs q => by rw [dC] at q; cases q⟩
    · have : ∀ l : List Env, (∀ env ∈ l, env ∈ outer) → (h'.push go).FunFrames base l := by
        intro l
        induction l with
        | nil => intro _; trivial
        | cons env l ih =>
          intro hl
          obtain ⟨hk1, L', hL', o', ho', hd'⟩ := hout env (hl env (.head _))
          refine ⟨hk1, ⟨L', o', hL', bn _ (.inr (List.mem_filterMap.mpr ⟨env, .tail _ (hl env (.head _)), hL'⟩)), k3 _ _ (S.keep _ _ ho'), hd'⟩, ih fun e he => hl e (.tail _ he)⟩
      exact this outer fun _ h => h
  have ok' : (gCx C fd L h0 a (pn ++ locs)).Ok := by
    refine ⟨ok.mono, ok.mono _ _ ok.w0 fun b o e => h02 b o (S1.keep b o e) fun q => ?_, ok.lim, K.k1, K.nd, K.nb, fun x hx => ?_, ?_, ?_, ?_, ?_⟩
    · rcases q with q | rfl | ⟨y, hy, rfl⟩
      · rw [S1.zf b q] at e; cases e
      · rw [ok.newL] at e; cases e
      · rw [ok.newC y hy] at e; cases e
    · rcases K.hl x hx with q | q
      · exact .inl q
      · exact absurd rfl (hnc _ (mem_of_lookup q))
    · show (callEnvC fd L a).cells.Pairwise _
      rw [show (callEnvC fd L a).cells = [] from cells_none hnc]; exact .nil
    · show h0.get? L = none
      cases e : h0.get? L with
      | none => rfl
      | some o => exact absurd rfl (lt1 L o (h01 L o e).1)
    · intro y hy
      rw [show (gCx C fd L h0 a (pn ++ locs)).env.cells = [] from cells_none hnc] at hy; cases hy
    · intro y hy
      rw [show (gCx C fd L h0 a (pn ++ locs)).env.cells = [] from cells_none hnc] at hy; cases hy
  have Sg : St (gCx C fd L h0 a (pn ++ locs)) noZ (ps.map .v ++ locs.map fun _ => .unb) { s1 with gens := (s1.gens.push (.fresh (.func gbody (callEnvC fd L a)))).setIfInBounds s1.gens.size .running, toks := tk + 1 + 1, heap := h'.push go } := by
    have V0 := fn_vars0 (L := L) (a := a) (locs := locs) K hnc (by rw [hlen]) (Reps.chg (h' := h0) (Z' := noZ) (fun b o e q z => ⟨h02 b o e (S1.seq_npriv ok e q z), id⟩) _ _ r1)
    have k0 : Kp h0 (h'.push go) := fun b o e => k2 b o (h01 b o e).1
    refine ⟨k0, fun _ z => z.elim, fun _ z => z.elim, ?_, _, ⟨oL, esL, epL, kpush L oL hoL, hdL, restL⟩, V0.chg (fun c w ⟨o, e, d⟩ => ⟨o, k0 c o e, d⟩) (fun b o e _ z => ⟨k0 b o e, z⟩) fun b ys h => ?_⟩
    · have : ∀ qs : List PV, owns (qs.map LV.v ++ locs.map fun _ => LV.unb) = [] := by
        intro qs
        induction qs with
        | nil =>
          show owns (locs.map fun _ => LV.unb) = []
          generalize locs = ll
          induction ll with
          | nil => rfl
          | cons x r ih => exact ih
        | cons x r ih => exact ih
      rw [this]; exact List.nodup_nil
    · rcases List.mem_append.mp h with h | h
      · obtain ⟨q, _, e⟩ := List.mem_map.mp h; cases e
      · obtain ⟨q, _, e⟩ := List.mem_map.mp h; cases e
  have o1 : Oth s { s1 with gens := s1.gens.push (.fresh (.func gbody (callEnvC fd L a))), toks := tk + 1 + 1, heap := h'.push go } := X.oth.trans ⟨GK.push, rfl, rfl⟩
  have hgs : (s1.gens.push (GenState.fresh (.func gbody (callEnvC fd L a))))[s1.gens.size]? = some (.fresh (.func gbody (callEnvC fd L a))) := by simp
  refine wpAny_pyIter_gen hgen1 ?_
  refine codeAny_forLoop_any (fun n s' => s' = { s1 with gens := s1.gens.push (.fresh (.func gbody (callEnvC fd L a))), toks := tk + 1 + 1, heap := h'.push go }) ?_ 0 rfl
  rintro n s' rfl
  have stb : base.StaysIn (h'.push go) := fun b o q => (b1 b o q).1
  refine pyNext_raise (cls := cls) (c := .func gbody (callEnvC fd L a)) (P := fun e s₁ => Fly base (C.env :: outer) e cls (some .none) s.heap s₁.heap ∧ Oth ({ s1 with gens := (s1.gens.push (.fresh (.func gbody (callEnvC fd L a)))).setIfInBounds s1.gens.size .running, toks := tk + 1 + 1, heap := h'.push go }) s₁) (H.lim.keeps k2) (by have := hA.d; omega) hgen1 hgs hns ?_ ?_
  · have hA0 : OkA b (A.in1.over (.func gbody (callEnvC fd L a)) []) := (FsOk.func (body := gbody) (env := callEnvC fd L a) hA.in1).a
    have hfr0 : (A.in1.over (.func gbody (callEnvC fd L a)) []).frames = some (callEnvC fd L a :: C.env :: outer) := by
      have e1 : (A.in1.over (.func gbody (callEnvC fd L a)) []).frames = pushEnvs [callEnvC fd L a] (pushEnvs [] A.frames) := rfl
      rw [e1, hfr]; rfl
    refine seg_func (seg_wrap (wpAny_mono (hrun L h0 base s.heap (C.env :: outer) _ _ (fun e s₁ => ∃ a', e = .ref a' ∧ Fly base (callEnvC fd L a :: C.env :: outer) a' cls (some (rawInt L)) s.heap s₁.heap ∧ Oth _ s₁) hA0 ok' Sg hfr0 ff stb (fun b o q _ => ⟨o.slots, k3 b o q⟩) nLs fun e s₁ F O => ⟨e, rfl, F, O⟩) (fun _ _ q => q.elim) ?_))
    rintro e s₁ ⟨a', rfl, F, O⟩
    refine seg_wrap (fly_leave hfr0 rfl F fun h2 F2 => ?_)
    exact seg_end (.error (.ref a')) ⟨a', rfl, F2.tail, ⟨O.gk, O.dr, O.os⟩⟩
  · rintro e s₁ ⟨F, O⟩
    refine ⟨?_, ?_, ?_⟩
    · obtain ⟨o', nm, qn, q1, q⟩ := hgen1
      refine ⟨o', nm, qn, F.st _ _ (b2 _ _ q1 fun z => ?_), q⟩
      rcases z with z | z
      · have := Heap.lt_size hoL
        exact absurd (show h'.objs.size = L from z) (Nat.ne_of_gt this)
      · obtain ⟨env, he, hfe⟩ := List.mem_filterMap.mp z
        rcases List.mem_cons.mp he with rfl | he
        · rw [hLF] at hfe
          obtain ⟨m, ⟨oC, _, _, hC, dC, _⟩, _⟩ := S1.vars
          have := Heap.lt_size (hk _ _ hC)
          exact absurd (Option.some.inj hfe) (Nat.ne_of_lt this)
        · obtain ⟨_, L', hL', o', ho', _⟩ := hout env he
          rw [hL'] at hfe
          have := Heap.lt_size (hk _ _ (S1.keep _ _ ho'))
          exact absurd (Option.some.inj hfe) (Nat.ne_of_lt this)
    · obtain ⟨oe, vs', he, hc, _⟩ := F.tr
      exact ⟨oe, he, hc⟩
    · have o2 : Oth s (s₁.setGen s1.gens.size .finished) := by
        refine ⟨GKn.gk o1.gk ((gkn_set X.gk.1 rfl).trans ((O.gk.n ?_).trans (gkn_set X.gk.1 rfl))), O.dr.trans o1.dr, O.os.trans o1.os⟩
        show s.gens.size ≤ ((s1.gens.push _).setIfInBounds _ _).size
        rw [Array.size_setIfInBounds, Array.size_push]
        exact Nat.le_succ_of_le X.gk.1
      refine fly_own hfr hLF (s := s₁.setGen s1.gens.size .finished) F fun h2 F2 => ?_
      refine hE e base _ F2 (fun b o q n => b2 b o (k3 b o q) fun z => ?_) (fun b q => ?_) ⟨o2.gk, o2.dr, o2.os⟩
      · rcases z with rfl | z
        · rw [nLs] at q; cases q
        · exact n z
      · by_cases hb : b ∈ (C.env :: outer).filterMap (·.frame)
        · obtain ⟨_, o', e', _⟩ := F2.ff.mem hb
          show h2.get? b ≠ none
          rw [e']; simp
        · obtain ⟨o', e'⟩ := Option.ne_none_iff_exists'.mp q
          have := F2.st _ _ (b2 b o' (k3 b o' e') fun z => by
            rcases z with rfl | z
            · rw [nLs] at e'; cases e'
            · exact hb z)
          show h2.get? b ≠ none
          rw [this]; simp
end
end Py

namespace Py

section
variable {C : Cx} {fd : FuncData} {pn locs : List Str} {a : Addr}
theorem owns_unb (ps : List PV) (locs : List Str) : owns (ps.map LV.v ++ locs.map fun _ => LV.unb) = [] := by
  induction ps with
  | nil =>
    induction locs with
    | nil => rfl
    | cons x r ih => exact ih
  | cons x r ih => exact ih

/-- a function, called; its run in the raw -/
theorem fn_callR {A : Around} {Z : Addr → Prop} {s : Shared} {vs : List Value} {ps : List PV} {n : Nat} {o : Obj} {body : List Stmt} {Q : Value → Shared → Prop} {E : Value → Shared → Prop} (hmono : ∀ h h', C.W h → Kp h h' → C.W h') (hlim : ∀ h, C.W h → h.NoLimit) (ho : ∀ h, C.W h → h.get? a = some o) (hdata : o.data = .func fd)
    (hbody : fd.body = .stmts body) (hcd : ∀ h, C.W h → h.CodeRec fd.code fd.qualname) (chk : fnChk fd.scope pn locs = true) (hbind : ∀ vals : List Value, vals.length = pn.length → bindArgs fd ⟨vals, []⟩ = pure (pn.zip vals)) (hps : ps.length = pn.length)
    (H : Here C (n + 1) A Z s) (hr : RepBs s.heap Z ps vs)
    (hrun : ∀ s₁ E', (fnCx C fd s.heap a (pn ++ locs)).Ok → OkA n (A.deeper (callEnvC fd s.heap.objs.size a)) → St (fnCx C fd s.heap a (pn ++ locs)) noZ (ps.map .v ++ locs.map fun _ => .unb) s₁ → Kp s.heap s₁.heap → Oth s s₁ →
      wpAny C.M (A.deeper (callEnvC fd s.heap.objs.size a)) (execs body (callEnvC fd s.heap.objs.size a)) (fun f s' => Q (match f with | .ret v => v | _ => .none) s') E' s₁)
    (hclo : fd.closure = [] := by rfl) (hco : fd.scope.isCoroutine = false := by rfl) (hgen : fd.scope.isGenerator = false := by rfl) : wpAny C.M A (call (.ref a) vs) Q E s := by
  have K := fnChk_of chk
  have hlen : vs.length = pn.length := by rw [RepBs.length hr, hps]
  refine wpAny_call (codeAny_call_cells (o := o) (fd := fd) (by have := H.a.d; omega) (ho _ H.w) hdata H.lim (hcd _ H.w) hbody (hbind vs hlen) hclo (fun x hx => ?_) (fun s₁ X => ?_) hco hgen K.k1)
  · have hxp : x.1 ∈ pn ++ locs := List.mem_append_left _ (List.of_mem_zip (a := x.1) (b := x.2) hx).1
    rcases K.hl _ hxp with q | q
    · exact .inl q
    · obtain ⟨c, hc⟩ := fn_lookup (h := s.heap) (a := a) K (mem_of_lookup q)
      exact .inr ⟨q, by rw [show List.lookup x.1 (cellsFrom (s.heap.objs.size + 1) fd.scope.names []) = _ from hc]; rfl⟩
  · obtain ⟨h', tk, rfl, hk⟩ := X.done
    have ok' := fn_ok (a := a) hmono hlim H.w K
    have S : St (fnCx C fd s.heap a (pn ++ locs)) noZ (ps.map .v ++ locs.map fun _ => .unb) { s with heap := h', toks := tk } := by
      refine ⟨hk, fun _ z => z.elim, fun _ z => z.elim, ?_, _, X.toInCall.ns, fn_vars K hk (by rw [hlen]) hr X⟩
      rw [owns_unb]; exact List.nodup_nil
    exact hrun { s with heap := h', toks := tk } _ ok' H.a.deeper S hk ⟨.refl _, rfl, rfl⟩

/-- the first turn of a loop that does not end it well -/
theorem for_first {A : Around} {Z : Addr → Prop} {σ σ' : List LV} {t iter : Expr} {body orelse : List Stmt} {pos : Pos} {ps : List PV} {p : PV} {s : Shared} {Q : Flow → Shared → Prop} {E : Value → Shared → Prop} (ok : C.Ok) (hA : A.handled = none) (hsrc : Iter C A Z σ t iter uncons (p :: ps)) (T : Tgt C t p σ σ') (S : St C Z σ s)
    (k : ∀ s' Q', St C Z σ' s' → Frame C Z s Z s' → Lv s s' → wpAny C.M A (execs body C.env) Q' (notedBy C.M A C.env (cameBackBy C.M A C.env E)) s') (hf : ∀ x, foldedSetIterable iter C.env x = pure x := by intro _; rfl) : wpAny C.M A (exec (.For t iter body orelse pos) C.env) Q E s := by
  refine wpAny_For (hsrc s _ _ S fun it s4 D => ?_) hf
  obtain ⟨wr, I, X4, D, hwr, hI, _⟩ := D
  refine codeAny_forLoop_any (fun n s' => s' = s4) ?_ 0 rfl
  rintro n s' rfl
  have S4 := S.ext X4
  refine wpAny_mono (D.next _ s' ?qn ?qs _ Z hI ⟨fun _ z => .inl z, fun a z => let ⟨o, e, _⟩ := S4.zl a z; ⟨o, e⟩⟩ X4.gk.1 ?c1 ?c2) (fun r s5 h => ?c3) fun _ _ x => x
  case c3 =>
    cases r with
    | none => exact h
    | some v => exact h
  case c1 => intro q; cases q
  case c2 =>
    intro p' j hj v s5 m5 _ _ hr _
    cases hj
    have k35 : Kp s.heap s5.heap := fun b o q => m5.kp b o (fun z => by rw [(hwr b z).1] at q; cases q) (X4.kp b o q)
    have T5 := S.kp k35
    have F5 : Frame C Z s Z s5 := ⟨fun b o q _ => k35 b o q, fun _ z => .inl z, GKn.gk X4.gk m5.gk, m5.dr.trans X4.dr, m5.os.trans X4.os⟩
    have L5 : Lv s s5 := Lv.ofKp k35
    exact assign_tgt ok hA T T5 hr fun s6 T6 F6 L6 _ => k s6 _ T6 (F5.trans F6 L5) (L5.trans L6)

theorem FunFrames.of' {h h' base : Heap} (k : ∀ b o, h.get? b = some o → (∀ vs, o.data ≠ .fields vs) → ∃ o', h'.get? b = some o' ∧ ∀ vs, o'.data ≠ .fields vs) : ∀ {l : List Env}, h.FunFrames base l → h'.FunFrames base l := by
  intro l
  induction l with
  | nil => exact fun _ => trivial
  | cons e l ih =>
    rintro ⟨hk, ⟨L, o, hf, hn, ho, hd⟩, hr⟩
    obtain ⟨o', ho', hd'⟩ := k L o ho hd
    exact ⟨hk, ⟨L, o', hf, hn, ho', hd'⟩, ih hr⟩

/-- a frame's object changes its slots alone; all else stays -/
theorem St.slots {Z : Addr → Prop} {σ : List LV} {s s' : Shared} (ok : C.Ok) (S : St C Z σ s) (k : ∀ b o, s.heap.get? b = some o → b ≠ C.env.locals → s'.heap.get? b = some o) (u : UpTo s.heap s'.heap) : St C Z σ s' := by
  obtain ⟨m, hn, V⟩ := S.vars
  have nseq : ∀ o, s.heap.get? C.env.locals = some o → ¬ SeqObj o := fun o e => ns_seq hn e
  have ns : ∀ b o, s.heap.get? b = some o → SeqObj o → b ≠ C.env.locals := fun b o e q z => nseq o (z ▸ e) q
  refine ⟨fun b o e => k b o (S.keep b o e) fun z => ?_, S.zf, fun b z => let ⟨o, e, q⟩ := S.zl b z; ⟨o, k b o e (ns b o e q), q⟩, S.nd, m, u.ns hn, V.chg (fun c w hc => ?_) (fun b o e q z => ⟨k b o e (ns b o e q), z⟩) fun b ys h => ⟨V.ownZ b ys h, fun o e => ?_⟩⟩
  · have := ok.newL; rw [← z, e] at this; cases this
  · obtain ⟨o, e, d⟩ := hc
    exact ⟨o, k c o e fun z => ns_cell hn (by rw [← z]; exact ⟨o, e, d⟩), d⟩
  · obtain ⟨o', e', q⟩ := S.zl b (V.ownZ b ys h)
    rw [e] at e'; cases e'
    exact k b o e (ns b o e q)
theorem Frame.slots {Z : Addr → Prop} {s s' : Shared} (k : ∀ b o, s.heap.get? b = some o → b ≠ C.env.locals → s'.heap.get? b = some o) (o : Oth s s') : Frame C Z s Z s' :=
  ⟨fun b o e n => k b o e fun z => n (.inr (.inl z)), fun _ z => .inl z, o.gk, o.dr, o.os⟩
end

section
variable {prog : Program} {w : World} {A : Around} {s : Shared} {base h0 : Heap} {e : Addr} {cls : String} {env : Env}
/-- a clause of the exception's own class: return a bool -/
theorem fly_caught {outer : List Env} {L : Addr} {hd : Option Value} {np hpos rpos cpos : Pos} {kc : Nat} {b : Bool} {orelse : List ExceptHandler} {x : Str} {Q : Flow → Shared → Prop} {E : Value → Shared → Prop} (hfr : A.frames = some (env :: outer)) (hf : env.frame = some L) (F : Fly base (env :: outer) e cls hd h0 s.heap)
    (gv : ∀ (A : Around) (s : Shared) (Q : Value → Shared → Prop) (E : Value → Shared → Prop) (pos : Pos), base.StaysIn s.heap → Q (.type cls) s → wpAny (model prog w) A (eval (.Name x pos) env) Q E s)
    (h1 : isSubtype (.type cls) (.type "BaseException") = pure true) (h2 : isSubtype (.type ((Manifest.find? cls).elim "type" fun x => x.metatype)) (.type "tuple") = pure false) (h3 : isSubtype (.type cls) (.type cls) = pure true)
    (h : ∀ h', Fly base (env :: outer) e cls (some .none) h0 h' → Q (.ret (.bool b)) { s with heap := h' }) :
    wpAny (model prog w) A (noteFrame (.ref e) env) (fun _ s₂ => wpAny (model prog w) A (setFlight (.ref e) none) (fun _ s₃ => wpAny (model prog w) A (handleBy (.ref e) env (.ExceptHandler (some (.Name x np)) none [.Return (some (.Constant (.bool b) kc cpos)) rpos] hpos :: orelse)) Q E s₃) E s₂) E s := by
  refine fly_note hfr hf F fun h4 F4 => fly_set F4 fun h5 F5 => ?_
  refine wpAny_handleBy_builtin (X := cls) (T := cls) (b := true) h1 h2 h3 (gv _ _ _ _ _ F5.st ⟨rfl, ?_, ?_⟩)
  · obtain ⟨oe, vs, he, hc, _⟩ := F5.tr
    exact ⟨oe, he, hc⟩
  · rw [if_pos rfl]
    refine fly_set F5 fun h6 F6 => wpAny_execs_cons (wpAny_Return_some (wpAny_Constant_bool ?_))
    exact h h6 F6
end

section
variable {prog : Program} {w : World} {A : Around} {E : Value → Shared → Prop} {s : Shared} {env : Env}
theorem raise_text {cls newId initId : String} (FC : ExcCallFacts cls newId initId) (FR : ExcRaiseFacts cls) {x txt : Str} {kc : Nat} {np kp cpos pos : Pos} {Q : Flow → Shared → Prop} (hh : A.handled = none)
    (g : ∀ Q : Value → Shared → Prop, Q (.type cls) s → wpAny (model prog w) A (eval (.Name x np) env) Q E s)
    (h : ∀ t h' e, Heap.MadeExc s.heap h' e cls [.str txt t] → E (.ref e) { s with heap := h', toks := s.toks + 1 }) :
    wpAny (model prog w) A (exec (.Raise (some (.Call (.Name x np) [.Constant (.str txt) kc kp] [] cpos)) none pos) env) Q E s := by
  refine Raise_madeB FC FR hh (g _ ⟨rfl, ?_⟩)
  show wpAny _ _ (spliced [(false, eval (.Constant (.str txt) kc kp) env)]) _ _ _
  refine spliced_cons (wpAny_Constant_str (k := kc) (pos := kp) ?_)
  exact spliced_nil ⟨show 1 ≤ sizeLine by decide, fun h' e hm => h _ h' e hm⟩
end
end Py

namespace Py

-- texts as lists of codes
theorem cps_append (a b : Str) : (a ++ b).cps.toList = a.cps.toList ++ b.cps.toList := by
  show (a.cps ++ b.cps).toList = _
  simp
theorem cps_len (x : Str) : x.length = x.cps.toList.length := by simp [Str.length]
theorem cps_mul_fold (c : Array Nat) : ∀ (n : Nat) (acc : Array Nat), ((List.replicate n c).foldl (· ++ ·) acc).toList = acc.toList ++ (List.replicate n c.toList).flatten
  | 0, acc => by simp
  | n + 1, acc => by
    rw [List.replicate_succ, List.foldl_cons, cps_mul_fold c n, List.replicate_succ, List.flatten_cons]
    simp
theorem cps_mul (x : Str) (n : Int) : (Txt.mul x n).cps.toList = (List.replicate n.toNat x.cps.toList).flatten := by
  unfold Txt.mul
  split
  · rename_i h
    rw [show n.toNat = 0 by omega]; rfl
  · rename_i h
    split
    · rename_i h2
      rw [Bool.or_eq_true] at h2
      rcases h2 with h2 | h2
      · have : n = 1 := by simpa using h2
        subst this
        simp
      · have : x.cps.toList = [] := by
          have : x.length = 0 := by simpa using h2
          rw [cps_len] at this
          exact List.length_eq_zero_iff.mp this
        rw [this]; simp
    · rw [cps_mul_fold]; simp
theorem cps_mul_one {x : Str} {c : Nat} (h : x.cps.toList = [c]) (n : Int) : (Txt.mul x n).cps.toList = List.replicate n.toNat c := by
  rw [cps_mul, h]
  generalize n.toNat = k
  induction k with
  | zero => rfl
  | succ k ih => rw [List.replicate_succ, List.flatten_cons, ih, List.replicate_succ]; rfl
theorem cps_join0 : ∀ (ys : List Str), (Txt.join "" ys).cps.toList = ys.flatMap fun y => y.cps.toList := by
  have go : ∀ (ys : List Str) (acc : Array Nat), (ys.foldl (fun acc p => acc ++ ("" : Str).cps ++ p.cps) acc).toList = acc.toList ++ ys.flatMap fun y => y.cps.toList := by
    intro ys
    induction ys with
    | nil => intro acc; simp
    | cons y r ih =>
      intro acc
      rw [List.foldl_cons, ih, List.flatMap_cons]
      have : ("" : Str).cps = #[] := by decide
      rw [this]; simp
  intro ys
  unfold Txt.join Builtin.Str.glued
  cases ys with
  | nil => rfl
  | cons y r =>
    show (r.foldl _ y.cps).toList = _
    rw [go, List.flatMap_cons]

theorem range_filterMap (l : Array Nat) (a n : Nat) : ((List.range n).map fun (k : Nat) => a + k).filterMap (l[·]?) = (l.toList.drop a).take n := by
  induction n generalizing a with
  | zero => simp
  | succ n ih =>
    rw [List.range_succ_eq_map, List.map_cons, List.map_map]
    have e : ((List.range n).map ((fun (k : Nat) => a + k) ∘ Nat.succ)) = (List.range n).map fun (k : Nat) => (a + 1) + k := by
      refine List.map_congr_left fun k _ => ?_
      show a + (k + 1) = a + 1 + k
      omega
    rw [e, List.filterMap_cons, ih (a + 1), Nat.add_zero]
    cases h : l[a]? with
    | none =>
      have : l.size ≤ a := by simpa using h
      rw [List.drop_eq_nil_of_le (i := a + 1) (by simp; omega), List.drop_eq_nil_of_le (i := a) (by simpa using this)]
      simp
    | some v =>
      obtain ⟨h1, h2⟩ := Array.getElem?_eq_some_iff.mp h
      rw [List.drop_eq_getElem_cons (i := a) (by simpa using h1), List.take_succ_cons]
      congr 1
      simpa using h2.symm

/-- a cut from i on, of n signs -/
theorem slice_core (x : Str) (l u : Option Int) (i n : Nat) (h : Builtin.Str.strSliceIndices l u 1 x.length = (List.range n).map fun (k : Nat) => i + k) (hi : i ≤ x.length) (hn : i + n ≤ x.length) : (Txt.slice x l u).cps.toList = (x.cps.toList.drop i).take n := by
  unfold Txt.slice
  rw [h]
  split
  · rename_i hc
    have hlen : n = x.length := by
      have := (Bool.and_eq_true_iff.mp hc).2
      simpa using this
    have hi0 : i = 0 := by omega
    subst hi0
    rw [List.drop_zero, hlen, cps_len, List.take_length]
  · simp only [List.toList_toArray]
    exact range_filterMap _ _ _
theorem clip1 {i n : Nat} (h : i ≤ n) : max (0 : Int) (min (i : Int) (n : Int)) = i := by
  rw [Int.min_eq_left (Int.ofNat_le.mpr h), Int.max_eq_right (Int.natCast_nonneg i)]
theorem cnt1 {i j : Nat} (h : i ≤ j) : (if (i : Int) < (j : Int) then ((j : Int) - i + 1 - 1) / 1 else 0).toNat = j - i := by
  rw [Int.ediv_one, Int.add_sub_cancel]
  by_cases q : i < j
  · rw [if_pos (Int.ofNat_lt.mpr q)]; exact Int.toNat_sub j i
  · rw [if_neg (fun z => q (Int.ofNat_lt.mp z)), Nat.sub_eq_zero_of_le (Nat.le_of_not_lt q)]; rfl
theorem idx1 (i k : Nat) : ((i : Int) + 1 * (k : Int)).toNat = i + k := by
  rw [Int.one_mul, ← Int.natCast_add]; exact Int.toNat_natCast _
theorem neg1 (i : Nat) : ¬ ((i : Int) < 0) := Int.not_lt.mpr (Int.natCast_nonneg i)
theorem slice_two {x : Str} {i j : Nat} (hij : i ≤ j) (hj : j ≤ x.length) : (Txt.slice x (some (i : Int)) (some (j : Int))).cps.toList = (x.cps.toList.drop i).take (j - i) := by
  refine slice_core x _ _ i (j - i) ?_ (by omega) (by omega)
  unfold Builtin.Str.strSliceIndices sliceRange
  simp only [neg1 i, neg1 j, show (1 : Int) > 0 by decide, if_true, if_false]
  rw [clip1 (Nat.le_trans hij hj), clip1 hj, cnt1 hij]
  exact List.map_congr_left fun k _ => idx1 i k
theorem slice_from {x : Str} {i : Nat} (hi : i ≤ x.length) : (Txt.slice x (some (i : Int)) none).cps.toList = x.cps.toList.drop i := by
  have := slice_core x (some (i : Int)) none i (x.length - i) ?_ hi (by omega)
  · rw [this, List.take_of_length_le]
    rw [List.length_drop, ← cps_len]
    exact Nat.le_refl _
  unfold Builtin.Str.strSliceIndices sliceRange
  simp only [neg1 i, show (1 : Int) > 0 by decide, if_true, if_false]
  rw [clip1 hi, cnt1 hi]
  exact List.map_congr_left fun k _ => idx1 i k

-- brackets and shields
inductive Tk where | op | cl | s1 | s2 | s3
noncomputable def Tk.enc : Tk → List Nat
  | .op => [40]
  | .cl => [41]
  | .s1 => [92, 41]
  | .s2 => [34, 40, 34]
  | .s3 => [34, 92, 34, 41, 34]
noncomputable def encs (ts : List Tk) : List Nat := ts.flatMap Tk.enc
noncomputable def Tk.plain : Tk → Bool
  | .s2 => false
  | .s3 => false
  | _ => true
noncomputable def balT : List Tk → Int → Bool
  | [], o => o == 0
  | .op :: r, o => balT r (o + 1)
  | .cl :: r, o => if o - 1 < 0 then false else balT r (o - 1)
  | _ :: r, o => balT r o
theorem balT_filter : ∀ (ts : List Tk) (o : Int), balT (ts.filter Tk.plain) o = balT ts o
  | [], _ => rfl
  | .op :: r, o => balT_filter r (o + 1)
  | .cl :: r, o => by
    show (if o - 1 < 0 then false else balT (r.filter Tk.plain) (o - 1)) = if o - 1 < 0 then false else balT r (o - 1)
    rw [balT_filter r]
  | .s1 :: r, o => balT_filter r o
  | .s2 :: r, o => balT_filter r o
  | .s3 :: r, o => balT_filter r o
theorem paren_tok : ∀ (ts : List Tk) (k : Nat) (o : Int), (∀ t ∈ ts, t.plain = true) → parenGo (escT k false (encs ts)) o = balT ts o
  | [], _, _, _ => rfl
  | .op :: r, k, o, h => paren_tok r (k + 1) (o + 1) fun t ht => h t (.tail _ ht)
  | .cl :: r, k, o, h => by
    show (if o - 1 < 0 then false else parenGo (escT (k + 1) false (encs r)) (o - 1)) = if o - 1 < 0 then false else balT r (o - 1)
    rw [paren_tok r (k + 1) (o - 1) fun t ht => h t (.tail _ ht)]
  | .s1 :: r, k, o, h => paren_tok r (k + 2) o fun t ht => h t (.tail _ ht)
  | .s2 :: r, k, o, h => by have := h _ (.head _); cases this
  | .s3 :: r, k, o, h => by have := h _ (.head _); cases this

noncomputable def outOf (res : List Str) : List Nat := res.flatMap fun y => y.cps.toList
theorem outOf_app (a b : List Str) : outOf (a ++ b) = outOf a ++ outOf b := by unfold outOf; rw [List.flatMap_append]
theorem outOf_one (a : Str) : outOf [a] = a.cps.toList := by unfold outOf; simp
theorem strip_cut {x : Str} {res : List Str} {st k : Nat} {pre rest : List Nat} (hx : x.cps.toList = pre ++ rest) (hk : pre.length = k) (hst : st ≤ k) :
    outOf (if ((st : Int) != (k : Int)) = true then res ++ [Txt.slice x (some (st : Int)) (some (k : Int))] else res) = outOf res ++ pre.drop st := by
  split
  · rw [outOf_app, outOf_one, slice_two hst (by rw [cps_len, hx, List.length_append]; omega), hx, List.drop_append_of_le_length (by omega), List.take_append_of_le_length (by rw [List.length_drop]; omega), List.take_of_length_le (by rw [List.length_drop]; omega)]
  · rename_i h
    have : st = k := by
      have : (st : Int) = k := by simpa using h
      omega
    rw [List.drop_eq_nil_of_le (by omega), List.append_nil]
theorem strip_tok (x : Str) : ∀ (ts : List Tk) (pre : List Nat) (st : Nat) (res : List Str), x.cps.toList = pre ++ encs ts → st ≤ pre.length →
    outOf (stripRes x (stripGo x (escT pre.length false (encs ts)) (st : Int) none res)) = outOf res ++ pre.drop st ++ encs (ts.filter Tk.plain)
  | [], pre, st, res, hx, hst => by
    have hx' : x.cps.toList = pre := by rw [hx]; simp [encs]
    show outOf (if (st : Int) < (x.length : Int) then res ++ [Txt.slice x (some (st : Int)) none] else res) = _
    have hl : x.length = pre.length := by rw [cps_len, hx']
    split
    · rw [outOf_app, outOf_one, slice_from (by omega), hx']
      simp [encs]
    · rw [List.drop_eq_nil_of_le (by omega)]
      simp [encs]
  | .op :: r, pre, st, res, hx, hst => by
    have := strip_tok x r (pre ++ [40]) st res (by rw [hx]; simp [encs, Tk.enc]) (by simp; omega)
    rw [List.drop_append_of_le_length hst] at this
    rw [List.length_append] at this
    show outOf (stripRes x (stripGo x (escT (pre.length + 1) false (encs r)) st none res)) = outOf res ++ pre.drop st ++ ([40] ++ encs (r.filter Tk.plain))
    rw [← List.append_assoc, List.append_assoc (outOf res)]
    exact this
  | .cl :: r, pre, st, res, hx, hst => by
    have := strip_tok x r (pre ++ [41]) st res (by rw [hx]; simp [encs, Tk.enc]) (by simp; omega)
    rw [List.drop_append_of_le_length hst] at this
    rw [List.length_append] at this
    show outOf (stripRes x (stripGo x (escT (pre.length + 1) false (encs r)) st none res)) = outOf res ++ pre.drop st ++ ([41] ++ encs (r.filter Tk.plain))
    rw [← List.append_assoc, List.append_assoc (outOf res)]
    exact this
  | .s1 :: r, pre, st, res, hx, hst => by
    have := strip_tok x r (pre ++ [92, 41]) st res (by rw [hx]; simp [encs, Tk.enc]) (by simp; omega)
    rw [List.drop_append_of_le_length hst] at this
    rw [List.length_append] at this
    show outOf (stripRes x (stripGo x (escT (pre.length + 2) false (encs r)) st none res)) = outOf res ++ pre.drop st ++ ([92, 41] ++ encs (r.filter Tk.plain))
    rw [← List.append_assoc, List.append_assoc (outOf res)]
    exact this
  | .s2 :: r, pre, st, res, hx, hst => by
    have := strip_tok x r (pre ++ [34, 40, 34]) (pre.length + 3) (if ((st : Int) != (pre.length : Int)) = true then res ++ [Txt.slice x (some (st : Int)) (some (pre.length : Int))] else res) (by rw [hx]; simp [encs, Tk.enc]) (by simp)
    rw [strip_cut hx rfl hst, List.drop_eq_nil_of_le (as := pre ++ _) (by simp), List.append_nil, List.length_append] at this
    show outOf (stripRes x (stripGo x (escT (pre.length + 3) false (encs r)) (((pre.length + 2 : Nat) : Int) + 1) none _)) = outOf res ++ pre.drop st ++ encs (r.filter Tk.plain)
    exact this
  | .s3 :: r, pre, st, res, hx, hst => by
    have := strip_tok x r (pre ++ [34, 92, 34, 41, 34]) (pre.length + 5) (if ((st : Int) != (pre.length : Int)) = true then res ++ [Txt.slice x (some (st : Int)) (some (pre.length : Int))] else res) (by rw [hx]; simp [encs, Tk.enc]) (by simp)
    rw [strip_cut hx rfl hst, List.drop_eq_nil_of_le (as := pre ++ _) (by simp), List.append_nil, List.length_append] at this
    show outOf (stripRes x (stripGo x (escT (pre.length + 5) false (encs r)) (((pre.length + 4 : Nat) : Int) + 1) none _)) = outOf res ++ pre.drop st ++ encs (r.filter Tk.plain)
    exact this
theorem strip_enc {x : Str} {ts : List Tk} (hx : x.cps.toList = encs ts) : (strip x).cps.toList = encs (ts.filter Tk.plain) := by
  unfold strip
  have hc : Txt.contains x "\"" = decide (34 ∈ x.cps.toList) := StrLaws.found_one x 34
  split
  · rename_i h
    rw [hc] at h
    have h34 : 34 ∉ encs ts := by rw [← hx]; simpa using h
    have : ts.filter Tk.plain = ts := by
      refine List.filter_eq_self.mpr fun t ht => ?_
      cases t with
      | s2 => exact absurd (List.mem_flatMap.mpr ⟨_, ht, .head _⟩) h34
      | s3 => exact absurd (List.mem_flatMap.mpr ⟨_, ht, .head _⟩) h34
      | _ => rfl
    rw [this]; exact hx
  · rw [cps_join0, hx]
    have := strip_tok x ts [] 0 [] (by rw [hx]; rfl) (Nat.le_refl _)
    simpa [outOf] using this
/-- shields do not count -/
theorem parens_enc {x : Str} {ts : List Tk} (hx : x.cps.toList = encs ts) : parens x = balT ts 0 := by
  unfold parens
  rw [strip_enc hx, paren_tok _ _ _ fun t ht => (List.mem_filter.mp ht).2, balT_filter]
end Py

set_option maxRecDepth 100000
set_option maxHeartbeats 8000000
namespace Py
open_top hd for PySem.Challenge.rw_wf0022_01
end Py

set_option maxRecDepth 100000
set_option maxHeartbeats 8000000
namespace Py

structure Gd (C : Cx) (P : Params) (mg mb : Str → Option Value) : Prop where
  hW : C.W = WW (hd.heap_39 P) mg mb
  hB : ∀ x : Str, x ≠ "__name__" → mb x = bootBuiltins x

section
variable {C : Cx} {P : Params} {mg mb : Str → Option Value}

theorem Gd.mono (G : Gd C P mg mb) : ∀ h h', C.W h → Kp h h' → C.W h' := by rw [G.hW]; exact fun h h' x k => WW.mono h h' x k
theorem Gd.lim (G : Gd C P mg mb) : ∀ h, C.W h → h.NoLimit := by rw [G.hW]; exact fun h x => x.lim
theorem Gd.obj (G : Gd C P mg mb) {a : Addr} {o : Obj} (e : (hd.heap_39 P).lookup a = some o) : ∀ h, C.W h → h.get? a = some o := by rw [G.hW]; exact fun h x => x.inn _ _ e
theorem Gd.code (G : Gd C P mg mb) {cd : Value} {q : Str} (e : codeIn (hd.heap_39 P) cd q = true) : ∀ h, C.W h → h.CodeRec cd q := by rw [G.hW]; exact fun h x => codeRec_of x.inn e


-- names
theorem ns_range : nsIn (hd.heap_39 P) mainGlobals "range" = some none := by kernel_rfl
theorem bt_range : bootBuiltins "range" = some (.type "range") := by kernel_rfl
theorem g_range {C : Cx} (hW : C.W = WW (hd.heap_39 P) mg mb) (hB : ∀ x : Str, x ≠ "__name__" → mb x = bootBuiltins x) (hk : C.env.scope.kind = .function := by rfl) (hx : C.env.kindOf "range" = some .globalImplicit := by rfl) (hg : C.env.globals = mainGlobals := by rfl) (hb : C.env.builtins = builtinsNs := by rfl) : GV C "range" (.type "range") := gv_B hW hB ns_range bt_range (by decide) hk hx hg hb (by decide)
theorem ns_enumerate : nsIn (hd.heap_39 P) mainGlobals "enumerate" = some none := by kernel_rfl
theorem bt_enumerate : bootBuiltins "enumerate" = some (.type "enumerate") := by kernel_rfl
theorem g_enumerate {C : Cx} (hW : C.W = WW (hd.heap_39 P) mg mb) (hB : ∀ x : Str, x ≠ "__name__" → mb x = bootBuiltins x) (hk : C.env.scope.kind = .function := by rfl) (hx : C.env.kindOf "enumerate" = some .globalImplicit := by rfl) (hg : C.env.globals = mainGlobals := by rfl) (hb : C.env.builtins = builtinsNs := by rfl) : GV C "enumerate" (.type "enumerate") := gv_B hW hB ns_enumerate bt_enumerate (by decide) hk hx hg hb (by decide)
theorem ns_list : nsIn (hd.heap_39 P) mainGlobals "list" = some none := by kernel_rfl
theorem bt_list : bootBuiltins "list" = some (.type "list") := by kernel_rfl
theorem g_list {C : Cx} (hW : C.W = WW (hd.heap_39 P) mg mb) (hB : ∀ x : Str, x ≠ "__name__" → mb x = bootBuiltins x) (hk : C.env.scope.kind = .function := by rfl) (hx : C.env.kindOf "list" = some .globalImplicit := by rfl) (hg : C.env.globals = mainGlobals := by rfl) (hb : C.env.builtins = builtinsNs := by rfl) : GV C "list" (.type "list") := gv_B hW hB ns_list bt_list (by decide) hk hx hg hb (by decide)
theorem ns_len : nsIn (hd.heap_39 P) mainGlobals "len" = some none := by kernel_rfl
theorem bt_len : bootBuiltins "len" = some (.builtin "len") := by kernel_rfl
theorem g_len {C : Cx} (hW : C.W = WW (hd.heap_39 P) mg mb) (hB : ∀ x : Str, x ≠ "__name__" → mb x = bootBuiltins x) (hk : C.env.scope.kind = .function := by rfl) (hx : C.env.kindOf "len" = some .globalImplicit := by rfl) (hg : C.env.globals = mainGlobals := by rfl) (hb : C.env.builtins = builtinsNs := by rfl) : GV C "len" (.builtin "len") := gv_B hW hB ns_len bt_len (by decide) hk hx hg hb (by decide)
theorem ns_hex : nsIn (hd.heap_39 P) mainGlobals "hex" = some none := by kernel_rfl
theorem bt_hex : bootBuiltins "hex" = some (.builtin "hex") := by kernel_rfl
theorem g_hex {C : Cx} (hW : C.W = WW (hd.heap_39 P) mg mb) (hB : ∀ x : Str, x ≠ "__name__" → mb x = bootBuiltins x) (hk : C.env.scope.kind = .function := by rfl) (hx : C.env.kindOf "hex" = some .globalImplicit := by rfl) (hg : C.env.globals = mainGlobals := by rfl) (hb : C.env.builtins = builtinsNs := by rfl) : GV C "hex" (.builtin "hex") := gv_B hW hB ns_hex bt_hex (by decide) hk hx hg hb (by decide)
theorem ns_sorted : nsIn (hd.heap_39 P) mainGlobals "sorted" = some none := by kernel_rfl
theorem bt_sorted : bootBuiltins "sorted" = some (.builtin "sorted") := by kernel_rfl
theorem g_sorted {C : Cx} (hW : C.W = WW (hd.heap_39 P) mg mb) (hB : ∀ x : Str, x ≠ "__name__" → mb x = bootBuiltins x) (hk : C.env.scope.kind = .function := by rfl) (hx : C.env.kindOf "sorted" = some .globalImplicit := by rfl) (hg : C.env.globals = mainGlobals := by rfl) (hb : C.env.builtins = builtinsNs := by rfl) : GV C "sorted" (.builtin "sorted") := gv_B hW hB ns_sorted bt_sorted (by decide) hk hx hg hb (by decide)
theorem ns_sum : nsIn (hd.heap_39 P) mainGlobals "sum" = some none := by kernel_rfl
theorem bt_sum : bootBuiltins "sum" = some (.builtin "sum") := by kernel_rfl
theorem g_sum {C : Cx} (hW : C.W = WW (hd.heap_39 P) mg mb) (hB : ∀ x : Str, x ≠ "__name__" → mb x = bootBuiltins x) (hk : C.env.scope.kind = .function := by rfl) (hx : C.env.kindOf "sum" = some .globalImplicit := by rfl) (hg : C.env.globals = mainGlobals := by rfl) (hb : C.env.builtins = builtinsNs := by rfl) : GV C "sum" (.builtin "sum") := gv_B hW hB ns_sum bt_sum (by decide) hk hx hg hb (by decide)
theorem ns_iter_escaped_chars : nsIn (hd.heap_39 P) mainGlobals "_iter_escaped_chars" = some (some (.ref 21)) := by kernel_rfl
theorem g_iter_escaped_chars {C : Cx} (hW : C.W = WW (hd.heap_39 P) mg mb) (hk : C.env.scope.kind = .function := by rfl) (hx : C.env.kindOf "_iter_escaped_chars" = some .globalImplicit := by rfl) (hg : C.env.globals = mainGlobals := by rfl) : GV C "_iter_escaped_chars" (.ref 21) := gv_K hW ns_iter_escaped_chars hk hx hg (by decide)
theorem ns_strip_quoted_realnames : nsIn (hd.heap_39 P) mainGlobals "_strip_quoted_realnames" = some (some (.ref 28)) := by kernel_rfl
theorem g_strip_quoted_realnames {C : Cx} (hW : C.W = WW (hd.heap_39 P) mg mb) (hk : C.env.scope.kind = .function := by rfl) (hx : C.env.kindOf "_strip_quoted_realnames" = some .globalImplicit := by rfl) (hg : C.env.globals = mainGlobals := by rfl) : GV C "_strip_quoted_realnames" (.ref 28) := gv_K hW ns_strip_quoted_realnames hk hx hg (by decide)
theorem ns_check_parenthesis : nsIn (hd.heap_39 P) mainGlobals "_check_parenthesis" = some (some (.ref 35)) := by kernel_rfl
theorem g_check_parenthesis {C : Cx} (hW : C.W = WW (hd.heap_39 P) mg mb) (hk : C.env.scope.kind = .function := by rfl) (hx : C.env.kindOf "_check_parenthesis" = some .globalImplicit := by rfl) (hg : C.env.globals = mainGlobals := by rfl) : GV C "_check_parenthesis" (.ref 35) := gv_K hW ns_check_parenthesis hk hx hg (by decide)
theorem ns_pre_parse_validation : nsIn (hd.heap_39 P) mainGlobals "_pre_parse_validation" = some (some (.ref 42)) := by kernel_rfl
theorem g_pre_parse_validation {C : Cx} (hW : C.W = WW (hd.heap_39 P) mg mb) (hk : C.env.scope.kind = .function := by rfl) (hx : C.env.kindOf "_pre_parse_validation" = some .globalImplicit := by rfl) (hg : C.env.globals = mainGlobals := by rfl) : GV C "_pre_parse_validation" (.ref 42) := gv_K hW ns_pre_parse_validation hk hx hg (by decide)
theorem nspretty_flags : nsIn (hd.heap_39 P) mainGlobals "pretty_flags" = some (some (.ref 50)) := by kernel_rfl
theorem gpretty_flags {C : Cx} (hW : C.W = WW (hd.heap_39 P) mg mb) (hk : C.env.scope.kind = .function := by rfl) (hx : C.env.kindOf "pretty_flags" = some .globalImplicit := by rfl) (hg : C.env.globals = mainGlobals := by rfl) : GV C "pretty_flags" (.ref 50) := gv_K hW nspretty_flags hk hx hg (by decide)
theorem ns_grouping_intervals : nsIn (hd.heap_39 P) mainGlobals "_grouping_intervals" = some (some (.ref 57)) := by kernel_rfl
theorem g_grouping_intervals {C : Cx} (hW : C.W = WW (hd.heap_39 P) mg mb) (hk : C.env.scope.kind = .function := by rfl) (hx : C.env.kindOf "_grouping_intervals" = some .globalImplicit := by rfl) (hg : C.env.globals = mainGlobals := by rfl) : GV C "_grouping_intervals" (.ref 57) := gv_K hW ns_grouping_intervals hk hx hg (by decide)
theorem ns_law_cells : nsIn (hd.heap_39 P) mainGlobals "_law_cells" = some (some (.ref 64)) := by kernel_rfl
theorem g_law_cells {C : Cx} (hW : C.W = WW (hd.heap_39 P) mg mb) (hk : C.env.scope.kind = .function := by rfl) (hx : C.env.kindOf "_law_cells" = some .globalImplicit := by rfl) (hg : C.env.globals = mainGlobals := by rfl) : GV C "_law_cells" (.ref 64) := gv_K hW ns_law_cells hk hx hg (by decide)
theorem ns_law_row : nsIn (hd.heap_39 P) mainGlobals "_law_row" = some (some (.ref 71)) := by kernel_rfl
theorem g_law_row {C : Cx} (hW : C.W = WW (hd.heap_39 P) mg mb) (hk : C.env.scope.kind = .function := by rfl) (hx : C.env.kindOf "_law_row" = some .globalImplicit := by rfl) (hg : C.env.globals = mainGlobals := by rfl) : GV C "_law_row" (.ref 71) := gv_K hW ns_law_row hk hx hg (by decide)
theorem ns_law_wants : nsIn (hd.heap_39 P) mainGlobals "_law_wants" = some (some (.ref 78)) := by kernel_rfl
theorem g_law_wants {C : Cx} (hW : C.W = WW (hd.heap_39 P) mg mb) (hk : C.env.scope.kind = .function := by rfl) (hx : C.env.kindOf "_law_wants" = some .globalImplicit := by rfl) (hg : C.env.globals = mainGlobals := by rfl) : GV C "_law_wants" (.ref 78) := gv_K hW ns_law_wants hk hx hg (by decide)
theorem ns_law_told : nsIn (hd.heap_39 P) mainGlobals "_law_told" = some (some (.ref 85)) := by kernel_rfl
theorem g_law_told {C : Cx} (hW : C.W = WW (hd.heap_39 P) mg mb) (hk : C.env.scope.kind = .function := by rfl) (hx : C.env.kindOf "_law_told" = some .globalImplicit := by rfl) (hg : C.env.globals = mainGlobals := by rfl) : GV C "_law_told" (.ref 85) := gv_K hW ns_law_told hk hx hg (by decide)
theorem ns_law_refused : nsIn (hd.heap_39 P) mainGlobals "_law_refused" = some (some (.ref 92)) := by kernel_rfl
theorem g_law_refused {C : Cx} (hW : C.W = WW (hd.heap_39 P) mg mb) (hk : C.env.scope.kind = .function := by rfl) (hx : C.env.kindOf "_law_refused" = some .globalImplicit := by rfl) (hg : C.env.globals = mainGlobals := by rfl) : GV C "_law_refused" (.ref 92) := gv_K hW ns_law_refused hk hx hg (by decide)
theorem ns_law_names : nsIn (hd.heap_39 P) mainGlobals "_law_names" = some (some (.ref 99)) := by kernel_rfl
theorem g_law_names {C : Cx} (hW : C.W = WW (hd.heap_39 P) mg mb) (hk : C.env.scope.kind = .function := by rfl) (hx : C.env.kindOf "_law_names" = some .globalImplicit := by rfl) (hg : C.env.globals = mainGlobals := by rfl) : GV C "_law_names" (.ref 99) := gv_K hW ns_law_names hk hx hg (by decide)
theorem ns_law_words : nsIn (hd.heap_39 P) mainGlobals "_law_words" = some (some (.ref 104)) := by kernel_rfl
theorem g_law_words {C : Cx} (hW : C.W = WW (hd.heap_39 P) mg mb) (hk : C.env.scope.kind = .function := by rfl) (hx : C.env.kindOf "_law_words" = some .globalImplicit := by rfl) (hg : C.env.globals = mainGlobals := by rfl) : GV C "_law_words" (.ref 104) := gv_K hW ns_law_words hk hx hg (by decide)
theorem ns_law_counts : nsIn (hd.heap_39 P) mainGlobals "_law_counts" = some (some (.ref 109)) := by kernel_rfl
theorem g_law_counts {C : Cx} (hW : C.W = WW (hd.heap_39 P) mg mb) (hk : C.env.scope.kind = .function := by rfl) (hx : C.env.kindOf "_law_counts" = some .globalImplicit := by rfl) (hg : C.env.globals = mainGlobals := by rfl) : GV C "_law_counts" (.ref 109) := gv_K hW ns_law_counts hk hx hg (by decide)
theorem ns_law_fronts : nsIn (hd.heap_39 P) mainGlobals "_law_fronts" = some (some (.ref 116)) := by kernel_rfl
theorem g_law_fronts {C : Cx} (hW : C.W = WW (hd.heap_39 P) mg mb) (hk : C.env.scope.kind = .function := by rfl) (hx : C.env.kindOf "_law_fronts" = some .globalImplicit := by rfl) (hg : C.env.globals = mainGlobals := by rfl) : GV C "_law_fronts" (.ref 116) := gv_K hW ns_law_fronts hk hx hg (by decide)
theorem ns_law_ties : nsIn (hd.heap_39 P) mainGlobals "_law_ties" = some (some (.ref 121)) := by kernel_rfl
theorem g_law_ties {C : Cx} (hW : C.W = WW (hd.heap_39 P) mg mb) (hk : C.env.scope.kind = .function := by rfl) (hx : C.env.kindOf "_law_ties" = some .globalImplicit := by rfl) (hg : C.env.globals = mainGlobals := by rfl) : GV C "_law_ties" (.ref 121) := gv_K hW ns_law_ties hk hx hg (by decide)
theorem ns_law_all_seen : nsIn (hd.heap_39 P) mainGlobals "_law_all_seen" = some (some (.ref 128)) := by kernel_rfl
theorem g_law_all_seen {C : Cx} (hW : C.W = WW (hd.heap_39 P) mg mb) (hk : C.env.scope.kind = .function := by rfl) (hx : C.env.kindOf "_law_all_seen" = some .globalImplicit := by rfl) (hg : C.env.globals = mainGlobals := by rfl) : GV C "_law_all_seen" (.ref 128) := gv_K hW ns_law_all_seen hk hx hg (by decide)

end
end Py

set_option maxRecDepth 100000
set_option maxHeartbeats 8000000
namespace Py
section
variable {C : Cx} {P : Params} {mg mb : Str → Option Value}

noncomputable def seenOne (front size : Int) (i : Nat) (t : Int) : Bool := t / 2 ^ size.toNat != 0 && Builtin.bitAnd (Builtin.bitOr t (1 * 2 ^ i)) front != front
noncomputable def allSeen (ties : List Int) (size : Int) : Bool := (List.range 7).all fun i => !seenOne (1 * 2 ^ size.toNat - 1) size i (ties.getD i 0)

theorem f128 (G : Gd C P mg mb) {ties : List Int} {size : Int} (hl : ties.length = 7) (h0 : 0 ≤ size) (h1 : size ≤ 7) : OpN C (2 + 1) (fun vs => call (.ref 128) vs) [LI ties, .int size] .n (.bool (allSeen ties size)) := by
  refine fn_call (pn := ["ties", "size"]) (locs := ["front", "person"]) (hclo := ?a1) (hco := ?a2) (hgen := ?a3) G.mono G.lim (G.obj (show List.lookup 128 (hd.heap_39 P) = some _ from rfl)) rfl rfl (G.code ?a4) ?a5 ?a6 rfl ?a7
  case a1 => rfl
  case a2 => rfl
  case a3 => rfl
  case a4 => kernel_rfl
  case a5 => kernel_rfl
  case a6 => exact len2 fun _ _ => rfl
  case a7 =>
    intro h A hA ok
    refine ws_cons (w1_assign ok A2 (ev_bin ok hA (ev_bin ok hA ev_int (ev_name ok A1 rfl) (op_shl h0 (by omega) (by decide))) ev_int op_sub) ?_)
    refine ws_cons (w1_fors ok hA.h (iter_range1 (k := 7) ok hA.h (g_range G.hW G.hB) (.cons ev_int .nil) (by decide) (by decide)) ?_)
    refine WLs.inv (fun ps Z σ => ∃ k m l, ps = (List.range' k m).map (fun (i : Nat) => PV.int (0 + i)) ∧ k + m = 7 ∧ σ = [.v (LI ties), .v (.int size), .v (.int (1 * 2 ^ size.toNat - 1)), l] ∧ Z = (fun _ => False) ∧ allSeen ties size = (List.range' k m).all fun i => !seenOne (1 * 2 ^ size.toNat - 1) size i (ties.getD i 0)) ?_ ?_ _ _ _ ⟨0, 7, _, by unfold rangeP; rw [List.range_eq_range'], rfl, rfl, rfl, by unfold allSeen; rw [List.range_eq_range']⟩
    · rintro Z σ ⟨k, m, l, hp, hk, rfl, rfl, hr⟩
      refine ws_nil (ws_cons (w1_ret (p := .bool true) trivial ev_bool (.inl ?_)))
      cases m with
      | zero => rw [hr]; rfl
      | succ m => simp [List.range'_succ] at hp
    · rintro p ps Z σ ⟨k, m, l, hp, hk, rfl, rfl, hr⟩
      cases m with
      | zero => simp at hp
      | succ m =>
        rw [List.range'_succ, List.map_cons] at hp
        cases hp
        refine ⟨_, .name A3, ?_⟩
        have hkl : k < ties.length := by omega
        have hget : (ties.map PV.int)[(0 + (k : Int)).toNat]? = some (.int (ties.getD k 0)) := by
          rw [show (0 + (k : Int)).toNat = k by omega, List.getElem?_map, List.getElem?_eq_getElem hkl]
          simp [List.getD_eq_getElem?_getD, List.getElem?_eq_getElem hkl]
        rw [List.range'_succ, List.all_cons] at hr
        refine ws_cons (w1_if (b := seenOne (1 * 2 ^ size.toNat - 1) size k (ties.getD k 0)) (tst_and (b := ties.getD k 0 / 2 ^ size.toNat != 0) (tst_cmp ok hA (ev_bin ok hA (ev_item (ev_name ok A0 rfl) (ev_name ok A3 rfl) (by omega) (by omega) hget) (ev_name ok A1 rfl) (op_shr h0)) ev_int op_ne)
          (fun hb => (tst_cmp ok hA (ev_bin ok hA (ev_bin ok hA (ev_item (ev_name ok A0 rfl) (ev_name ok A3 rfl) (by omega) (by omega) hget) (ev_bin ok hA ev_int (ev_name ok A3 rfl) (op_shl (by omega) (by omega) (by decide))) op_or) (ev_name ok A2 rfl) op_and) (ev_name ok A2 rfl) op_ne).cast ?_)
          (fun hb => ?_)) ?_)
        · unfold seenOne
          rw [hb, show (0 + (k : Int)).toNat = k by omega]; rfl
        · unfold seenOne
          rw [hb]; rfl
        · cases e : seenOne (1 * 2 ^ size.toNat - 1) size k (ties.getD k 0) with
          | true =>
            rw [if_pos rfl]
            refine ws_cons (w1_ret (p := .bool false) trivial ev_bool (.inl ?_))
            rw [hr, e]; rfl
          | false =>
            rw [if_neg (by decide)]
            refine ws_nil (ws_nil ⟨k + 1, m, _, rfl, by omega, rfl, rfl, ?_⟩)
            rw [hr, e]; rfl

noncomputable def names7 : List Str := ["OPTIMIZED", "NEWLOCALS", "VARARGS", "VARKEYWORDS", "NESTED", "GENERATOR", "NOFREE"]
theorem f99 (G : Gd C P mg mb) : OpN C (0 + 1) (fun vs => call (.ref 99) vs) [] .n (LS names7) := by
  refine fn_call (pn := []) (locs := []) (hclo := ?a1) (hco := ?a2) (hgen := ?a3) G.mono G.lim (G.obj (show List.lookup 99 (hd.heap_39 P) = some _ from rfl)) rfl rfl (G.code ?a4) ?a5 ?a6 rfl ?a7
  case a1 => rfl
  case a2 => rfl
  case a3 => rfl
  case a4 => kernel_rfl
  case a5 => kernel_rfl
  case a6 => exact len0 rfl
  case a7 =>
    intro h A hA ok
    exact ws_cons (w1_ret_n (xs := names7.map .str) (scals_strs _) (ev_list ok hA (.cons ev_str (.cons ev_str (.cons ev_str (.cons ev_str (.cons ev_str (.cons ev_str (.cons ev_str .nil))))))) (by decide)) (.inl rfl))

noncomputable def bit1 (mask : Int) (i : Nat) : Bool := Builtin.bitAnd (mask / 2 ^ i) 1 == 1
noncomputable def wordsL (mask : Int) : List Str := ((List.range 7).filter (bit1 mask)).map fun i => names7.getD i Str.empty
noncomputable def lawWords (mask : Int) : Str := if wordsL mask != [] then Txt.join ", " (wordsL mask) else "0x0"
theorem wordsL_len (mask : Int) : (wordsL mask).length ≤ 7 := by
  unfold wordsL
  rw [List.length_map]
  exact Nat.le_trans (List.length_filter_le _ _) (by simp)
theorem wordsL_sum (mask : Int) : ((wordsL mask).map (·.length)).sum ≤ 7 * 11 := by
  have h1 : ∀ ws : List Str, (∀ x ∈ ws, x.length ≤ 11) → (ws.map (·.length)).sum ≤ ws.length * 11 := by
    intro ws
    induction ws with
    | nil => intro _; simp
    | cons x r ih =>
      intro h
      have := ih fun y hy => h y (.tail _ hy)
      have := h x (.head _)
      simp only [List.map_cons, List.sum_cons, List.length_cons]
      omega
  refine Nat.le_trans (h1 _ fun x hx => ?_) (Nat.mul_le_mul_right 11 (wordsL_len mask))
  unfold wordsL at hx
  obtain ⟨i, hi, rfl⟩ := List.mem_map.mp hx
  have hi' : i < 7 := List.mem_range.mp (List.mem_filter.mp hi).1
  match i, hi' with
  | 0, _ | 1, _ | 2, _ | 3, _ | 4, _ | 5, _ | 6, _ => decide

theorem f104 (G : Gd C P mg mb) {mask : Int} : OpN C (1 + 1) (fun vs => call (.ref 104) vs) [.int mask] .n (.str (lawWords mask)) := by
  refine fn_call (pn := ["mask"]) (locs := ["names", "words"]) (hclo := ?a1) (hco := ?a2) (hgen := ?a3) G.mono G.lim (G.obj (show List.lookup 104 (hd.heap_39 P) = some _ from rfl)) rfl rfl (G.code ?a4) ?a5 ?a6 rfl ?a7
  case a1 => rfl
  case a2 => rfl
  case a3 => rfl
  case a4 => kernel_rfl
  case a5 => kernel_rfl
  case a6 => exact len1 fun _ => rfl
  case a7 =>
    intro h A hA ok
    refine ws_cons (w1_assign ok A1 (Ev.toF (ev_call ok hA (g_law_names G.hW) (.inr (.inr ⟨_, _, _, rfl, rfl, G.obj (show List.lookup 99 (hd.heap_39 P) = some _ from rfl)⟩)) .nil (f99 (C := fnCx C _ h 104 _) ⟨G.hW, G.hB⟩))) ?_)
    refine ws_cons (w1_assign_comp ["person"] ["names", "mask"] ok hA.h A2 (by kernel_rfl) (iter_range1 (k := 7) ok hA.h (g_range G.hW G.hB) (.cons ev_int .nil) (by decide) (by decide)).z (.cons A1 rfl (.cons A0 rfl .nil)) (by simp [owns]) (fun L Z' ok' => WC.rangeS (fun i => names7.getD i Str.empty) (bit1 mask) fun i hi l => ⟨_, .name A0, rfl, ?_, fun _ => ?_⟩) (by rw [List.length_map]; have := wordsL_len mask; exact Nat.le_trans this (by decide)) ?_)
    · exact tst_cmp ok' hA (ev_bin ok' hA (ev_bin ok' hA (ev_name ok' A2 rfl) (ev_name ok' A0 rfl) (op_shr (by omega))) ev_int op_and) ev_int (by rw [show (0 + (i : Int)).toNat = i by omega]; exact op_eq)
    · exact ev_item (ev_name ok' A1 rfl) (ev_name ok' A0 rfl) (by omega) (by omega) (get_map PV.str names7 Str.empty hi)
    · refine ws_cons (w1_ret (k := .f) (p := .str (lawWords mask)) trivial (ev_ifexp (b := wordsL mask != []) (tst_cmp ok hA (ev_name ok A2 rfl) (ev_list0 ok hA) (op_ne_strs (ms := []))) ?_) (.inl rfl))
      have hs := wordsL_sum mask
      have hl := wordsL_len mask
      unfold lawWords
      cases e : (wordsL mask != []) with
      | true => exact ev_meth ok hA ev_str (.inr ⟨_, rfl, rfl⟩) meth_join (.cons (ev_name ok A2 rfl) .nil) (fn_join (ys := wordsL mask) (by rw [show (", " : Str).length = 2 from by decide]; omega))
      | false => exact ev_str
end
end Py

set_option maxRecDepth 100000
set_option maxHeartbeats 8000000
namespace Py
section
variable {C : Cx} {P : Params} {mg mb : Str → Option Value}

theorem nsCOMPILER_FLAG_NAMES : nsIn (hd.heap_39 P) mainGlobals "COMPILER_FLAG_NAMES" = some (some (.ref 43)) := by kernel_rfl
noncomputable def dictE (P : Params) : Array DictEntry := match (hd.heap_39 P).lookup 43 with
  | some ⟨_, _, .dict es _, _⟩ => es
  | _ => #[]
theorem dict_obj : ∃ ep, (hd.heap_39 P).lookup 43 = some { cls := .type "dict", data := .dict (dictE P) ep } := ⟨_, rfl⟩
theorem dict_keys : (dictE P).toList.all keyOk = true := by kernel_rfl
noncomputable def dictAt (P : Params) (i : Nat) : Bool := match findBy Value.isInt (dictE P) ((2 ^ i : Nat) : Int), flagNames[i]? with
  | some (.str s _), some x => s == x
  | none, none => true
  | _, _ => false
theorem dict_all : (List.range 32).all (dictAt P) = true := by kernel_rfl
theorem dict_find {i : Nat} (h : i < 32) : (∃ t, findBy Value.isInt (dictE P) (1 * 2 ^ i) = some (.str (pfName i) t)) ∨ (findBy Value.isInt (dictE P) (1 * 2 ^ i) = none ∧ pfName i = baseText "0x" 16 (1 * 2 ^ i)) := by
  have := List.all_eq_true.mp (dict_all (P := P)) i (List.mem_range.mpr h)
  rw [pow_cast]
  unfold dictAt at this
  unfold pfName
  split at this
  · rename_i s t x e1 e2
    rw [e1, e2]
    left
    have : s = x := by simpa using this
    exact ⟨t, by rw [this]; rfl⟩
  · rename_i e1 e2
    rw [e1, e2]
    right
    exact ⟨rfl, rfl⟩
  · cases this

inductive I50 (res : List Str) (a : Addr) (ps : List PV) (σ : List LV) : Prop
  | mk (k m f' : Nat) (names : List Str) (l2 l3 : LV) (hp : ps = (List.range' k m).map (fun (i : Nat) => PV.int (0 + i))) (hk : k + m = 32) (hs : σ = [.v (.int ((f' : Nat) : Int)), .own a (names.map .str), l2, l3]) (hr : pfGo m k f' names = res) (hf : f' < 2 ^ 32) (hn : names.length ≤ k) (hx : ∀ x ∈ names, x.length ≤ 20) : I50 res a ps σ
theorem f50 (G : Gd C P mg mb) {f : Nat} (hf : f < 2 ^ 32) : OpN C (1 + 1) (fun vs => call (.ref 50) vs) [.int f] .n (.str (pfText f)) := by
  refine fn_call (pn := ["flags"]) (locs := ["names", "i", "flag"]) (hclo := ?a1) (hco := ?a2) (hgen := ?a3) G.mono G.lim (G.obj (show List.lookup 50 (hd.heap_39 P) = some _ from rfl)) rfl rfl (G.code ?a4) ?a5 ?a6 rfl ?a7
  case a1 => rfl
  case a2 => rfl
  case a3 => rfl
  case a4 => kernel_rfl
  case a5 => kernel_rfl
  case a6 => exact len1 fun _ => rfl
  case a7 =>
    intro h A hA ok
    obtain ⟨ep, hdo⟩ := dict_obj (P := P)
    refine ws_cons (w1_assign_own (xs := []) ok A1 (ev_list0 ok hA) (fun _ h => by cases h) fun a => ?_)
    refine ws_cons (w1_fors ok hA.h (iter_range1 (k := 32) ok hA.h (g_range G.hW G.hB) (.cons ev_int .nil) (by decide) (by decide)) ?_)
    obtain ⟨res, hres⟩ : ∃ r, r = pfGo 32 0 f [] := ⟨_, rfl⟩
    have hlen : ∀ names : List Str, names.length ≤ 33 → (∀ x ∈ names, x.length ≤ 20) → (names.map (·.length)).sum + names.length * (", " : Str).length ≤ 16777216 := by
      intro names h1 h2
      have h3 : ∀ ws : List Str, (∀ x ∈ ws, x.length ≤ 20) → (ws.map (·.length)).sum ≤ ws.length * 20 := by
        intro ws
        induction ws with
        | nil => intro _; simp
        | cons x r ih =>
          intro h
          have := ih fun y hy => h y (.tail _ hy)
          have := h x (.head _)
          simp only [List.map_cons, List.sum_cons, List.length_cons]
          omega
      have h4 := h3 names h2
      have h5 : (", " : Str).length = 2 := by decide
      rw [h5]
      omega
    refine WLs.inv (fun ps _ σ => I50 res a ps σ) ?_ ?_ _ _ _ ⟨0, 32, f, [], _, _, by unfold rangeP; rw [List.range_eq_range'], rfl, rfl, hres.symm, hf, Nat.le_refl _, fun _ h => by cases h⟩
    · rintro Z σ ⟨k, m, f', names, l2, l3, hp, hk, rfl, hr, hf', hn, hx⟩
      cases m with
      | succ m => simp [List.range'_succ] at hp
      | zero =>
        have hfit : (baseText "0x" 16 (f' : Int)).length ≤ 20 := Nat.le_trans (hex_le hf') (by decide)
        refine ws_cons (w1_append ok A1 rfl (ev_call ok hA (g_hex G.hW G.hB) (.inl ⟨_, rfl⟩) (.cons (ev_name ok A0 rfl) .nil) (fn_hex (Nat.le_trans hfit (by decide)))) ?_ (by rw [List.length_map]; exact Nat.le_trans hn (by rw [show k = 32 by omega]; decide)))
        have e : names.map PV.str ++ [PV.str (baseText "0x" 16 (f' : Int))] = (names ++ [baseText "0x" 16 (f' : Int)]).map .str := by simp
        refine ws_nil (ws_cons (w1_rets (ev_meth ok hA ev_str (.inr ⟨_, rfl, rfl⟩) meth_join (.cons (ev_own ok A1 (by rw [e]; rfl)) .nil) (fn_join (hlen _ (by simp; omega) fun x hx' => ?_))) (.inl ?_)))
        · rcases List.mem_append.mp hx' with q | q
          · exact hx x q
          · rw [List.mem_singleton.mp q]; exact hfit
        · unfold pfText
          rw [← hres, ← hr]; rfl
    · rintro p ps Z σ ⟨k, m, f', names, l2, l3, hp, hk, rfl, hr, hf', hn, hx⟩
      cases m with
      | zero => simp at hp
      | succ m =>
        rw [List.range'_succ, List.map_cons] at hp
        cases hp
        have hk32 : k < 32 := by omega
        have e2 : (1 : Int) * 2 ^ (0 + (k : Int)).toNat = 1 * 2 ^ k := by rw [show (0 + (k : Int)).toNat = k by omega]
        refine ⟨_, .name A2, ?_⟩
        refine ws_cons (w1_assign ok A3 (Ev.cast (ev_bin ok hA ev_int (ev_name ok A2 rfl) (op_shl (by omega) (by omega) (by decide))) (congrArg PV.int e2)) ?_)
        refine ws_cons (w1_if (b := f' &&& 2 ^ k != 0) (Tst.cast (tst_val ok hA (ev_bin ok hA (ev_name ok A0 rfl) (ev_name ok A3 rfl) op_and) tr_int) ?_) ?_)
        · rw [and_nat]
          cases e : (f' &&& 2 ^ k != 0) with
          | true => simp at e ⊢; omega
          | false => simp at e ⊢; omega
        · unfold pfGo at hr
          cases e : (f' &&& 2 ^ k != 0) with
          | false =>
            rw [e, if_neg (by decide)] at hr
            rw [if_neg (by decide)]
            exact ws_nil (ws_nil ⟨k + 1, m, f', names, _, _, rfl, by omega, rfl, hr, hf', by omega, hx⟩)
          | true =>
            rw [e, if_pos rfl] at hr
            rw [if_pos rfl]
            have hname : (pfName k).length ≤ 20 := pfName_le hk32
            have hf2 : f' ^^^ 2 ^ k < 2 ^ 32 := Nat.xor_lt_two_pow hf' (Nat.pow_lt_pow_right (by decide) hk32)
            have hfit : (baseText "0x" 16 (1 * 2 ^ k)).length ≤ sizeLine := by
              rw [pow_cast]; exact Nat.le_trans (hex_le (Nat.pow_lt_pow_right (by decide) hk32)) (by decide)
            have hx2 : ∀ x ∈ names ++ [pfName k], x.length ≤ 20 := fun x hx' => by
              rcases List.mem_append.mp hx' with q | q
              · exact hx x q
              · rw [List.mem_singleton.mp q]; exact hname
            have e3 : names.map PV.str ++ [PV.str (pfName k)] = (names ++ [pfName k]).map .str := by simp
            refine ws_cons (w1_append ok A1 rfl (ev_dict_get (r := .str (pfName k)) ok hA (gv_K G.hW nsCOMPILER_FLAG_NAMES rfl rfl rfl (by decide)) (G.obj hdo) (by decide) dict_keys (ev_name ok A3 rfl) (ev_call ok hA (g_hex G.hW G.hB) (.inl ⟨_, rfl⟩) (.cons (ev_name ok A3 rfl) .nil) (fn_hex hfit)) ?_) ?_ (by rw [List.length_map]; exact Nat.le_trans hn (Nat.le_trans (Nat.le_of_lt hk32) (by decide))))
            · rcases dict_find (P := P) hk32 with ⟨t, e⟩ | ⟨e, e'⟩
              · exact .inl ⟨_, t, e, rfl⟩
              · exact .inr ⟨e, by rw [e']⟩
            refine ws_cons (w1_aug ok hA A0 rfl (ev_name ok A3 rfl) (Op2.cast op_ixor (congrArg PV.int (xor_nat f' k))) ?_)
            refine ws_cons (w1_if (b := f' ^^^ 2 ^ k == 0) (Tst.cast (tst_not (tst_val ok hA (ev_name ok A0 rfl) tr_int)) ?_) ?_)
            · cases e : (f' ^^^ 2 ^ k == 0) with
              | true => simp at e ⊢; omega
              | false => simp at e ⊢; omega
            · cases e : (f' ^^^ 2 ^ k == 0) with
              | true =>
                rw [e, if_pos rfl] at hr
                rw [if_pos rfl]
                refine ws_cons (w1_break ?_)
                refine ws_cons (w1_rets (ev_meth ok hA ev_str (.inr ⟨_, rfl, rfl⟩) meth_join (.cons (ev_own ok A1 (by rw [e3]; rfl)) .nil) (fn_join (hlen _ (by simp; omega) hx2))) (.inl ?_))
                unfold pfText
                rw [← hres, ← hr]
              | false =>
                rw [e, if_neg (by decide)] at hr
                rw [if_neg (by decide)]
                exact ws_nil (ws_nil (ws_nil ⟨k + 1, m, f' ^^^ 2 ^ k, names ++ [pfName k], _, _, rfl, by omega, by rw [e3]; rfl, hr, hf2, by simp; omega, hx2⟩))
end
end Py

set_option maxRecDepth 100000
set_option maxHeartbeats 8000000
namespace Py
section
variable {C : Cx} {P : Params} {mg mb : Str → Option Value} {A : Around} {Z : Addr → Prop} {σ : List LV}

inductive I21 (x : Str) (items : List PV) (ps : List PV) (n : Nat) (σ : List LV) : Prop
  | mk (cs : List Nat) (k : Nat) (e : Bool) (pre : List PV) (z : Int) (l : LV) (hp : ps = enumL k (chs cs)) (hn : n = (escL k e cs).length) (hi : items = pre ++ escL k e cs) (hz : e = true → z = (k : Int) - 1) (hl : ScalL l) (hs : σ = [.v (.str x), .v (.int z), .v (.bool e), l]) : I21 x items ps n σ
theorem it21 {t : Expr} {p pos : Pos} {es : List Expr} {x : Str} (G : Gd C P mg mb) (ok : C.Ok) (hA : OkA 2 A) (hn : GV C "_iter_escaped_chars" (.ref 21)) (ha : EvL C A Z σ es [.str x]) :
    IterE C A Z σ t (.Call (.Name "_iter_escaped_chars" p) es [] pos) true (escL 0 false x.cps.toList) := by
  generalize hit : escL 0 false x.cps.toList = items
  rw [← yv_list items]
  refine gen_iter (pn := ["addr"]) (locs := ["pos", "escape", "ch"]) (b := 0) (hclo := ?a1) (hco := ?a2) (hgen := ?a3) ok hA hn (G.obj (show List.lookup 21 (hd.heap_39 P) = some _ from rfl)) rfl rfl (G.code ?a4) ?a5 ?a8 ?a6 rfl ha ?a7
  case a1 => rfl
  case a2 => rfl
  case a3 => rfl
  case a4 => kernel_rfl
  case a5 => kernel_rfl
  case a8 => kernel_rfl
  case a6 => exact len1 fun _ => rfl
  case a7 =>
    intro hb L h0 B0 s hB0 gok fr0
    have ok' := gok.ok
    refine gen_run gok hB0 fr0 rfl ?_
    refine sw_plain gok (fun _ _ => trivial) (live_ok gok) fun A' hA' => w1_assign ok' A1 ev_int ⟨rfl, ?_⟩
    refine sw_plain gok (fun _ _ => trivial) (live_ok gok) fun A' hA' => w1_assign ok' A2 ev_bool ⟨rfl, ?_⟩
    refine sw_for gok (iterG_enum_str gok (g_enumerate G.hW G.hB) fun A' hA' => .cons (ev_name ok' A0 rfl) .nil) ?_
    refine WG.inv (fun ps n σ => I21 x items ps n σ) ?_ ?_ _ _ _ ⟨x.cps.toList, 0, false, [], 0, _, rfl, by rw [hit], by rw [hit]; rfl, (fun h => by cases h), .inl rfl, rfl⟩
    · rintro n σ ⟨cs, k, e, pre, z, l, hp, rfl, hi, hz, hl, rfl⟩
      cases cs with
      | cons => cases hp
      | nil =>
        refine sw_if (bb := e) (fun A' hA' => tst_val ok' hA' (ev_name ok' A2 rfl) tr_bool) (jt_ok (hb := hb)).toJFr ?_ gok
        cases e with
        | false => exact sw_nil (fun _ h => h) (sw_nil (fun _ h => h) ⟨.inl rfl, rfl, rfl⟩)
        | true =>
          have hz := hz rfl
          subst hz
          refine sw_yield gok jt_ok (fun A' hA' => ev_tuple ok' hA' (.cons (ev_name ok' A1 rfl) (.cons ev_str .nil)) (show 2 ≤ sizeLine by decide)) (.inr ⟨rfl, _, rfl, ?_⟩) (yv_head hi) (scal4 (scalV trivial) (scalV trivial) (scalV trivial) hl) fun _ => ?_
          · intro p hp
            simp only [List.mem_cons, List.not_mem_nil, or_false] at hp
            rcases hp with rfl | rfl <;> exact trivial
          · exact sw_nil (fun _ h => h) (sw_nil (fun _ h => h) ⟨.inl rfl, rfl, rfl⟩)
    · rintro p ps n σ ⟨cs, k, e, pre, z, l, hp, rfl, hi, hz, hl, rfl⟩
      cases cs with
      | nil => cases hp
      | cons c cs =>
        cases hp
        refine ⟨_, .pair A1 A3, fun J hJ => ?_⟩
        have sc2 : ∀ (a b : PV), Scal a → Scal b → Scals [a, b] := fun a b ha hb p hp => by
          simp only [List.mem_cons, List.not_mem_nil, or_false] at hp
          rcases hp with rfl | rfl
          · exact ha
          · exact hb
        have hcat : ("\\" : Str).length + (⟨#[c]⟩ : Str).length ≤ sizeLine := by
          rw [show ("\\" : Str).length = 1 by decide]
          exact (show 1 + 1 ≤ sizeLine by decide)
        refine sw_if (bb := e) (fun A' hA' => tst_val ok' hA' (ev_name ok' A2 rfl) tr_bool) hJ.toJFr ?_ gok
        cases e with
        | true =>
          have e1 : escL k true (c :: cs) = .tup [.int (k : Nat), .str ("\\" ++ ⟨#[c]⟩)] :: escL (k + 1) false cs := rfl
          rw [e1] at hi ⊢
          rw [if_pos rfl]
          refine sw_yield gok hJ (fun A' hA' => ev_tuple ok' hA' (.cons (ev_name ok' A1 rfl) (.cons (ev_bin ok' hA' ev_str (ev_name ok' A3 rfl) (op_cat hcat)) .nil)) (show 2 ≤ sizeLine by decide)) (.inr ⟨rfl, _, rfl, sc2 _ _ trivial trivial⟩) (by simpa using yv_head hi) (scal4 (scalV trivial) (scalV trivial) (scalV trivial) (scalV trivial)) fun _ => ?_
          refine sw_plain gok (fun _ h => h) hJ.toJFr fun A' hA' => w1_assign ok' A2 ev_bool ⟨rfl, ?_⟩
          refine sw_nil (fun _ h => h) (sw_nil (fun _ h => h) ⟨cs, k + 1, false, pre ++ [_], _, _, rfl, rfl, by rw [hi]; exact List.append_cons pre _ _, (fun h => by cases h), scalV (p := .str ⟨#[c]⟩) trivial, rfl⟩)
        | false =>
          rw [if_neg (by decide)]
          refine sw_if (bb := (⟨#[c]⟩ : Str) == "\\") (fun A' hA' => tst_cmp ok' hA' (ev_name ok' A3 rfl) ev_str op_eqs) hJ.toJFr ?_ gok
          have e1 : escL k false (c :: cs) = if (⟨#[c]⟩ : Str) == "\\" then escL (k + 1) true cs else .tup [.int (k : Nat), .str ⟨#[c]⟩] :: escL (k + 1) false cs := rfl
          rw [e1] at hi ⊢
          cases eq : ((⟨#[c]⟩ : Str) == "\\") with
          | true =>
            rw [eq, if_pos rfl] at hi
            rw [if_pos rfl, if_pos rfl]
            refine sw_plain gok (fun _ h => h) hJ.toJFr fun A' hA' => w1_assign ok' A2 ev_bool ⟨rfl, ?_⟩
            exact sw_nil (fun _ h => h) (sw_nil (fun _ h => h) (sw_nil (fun _ h => h) ⟨cs, k + 1, true, pre, _, _, rfl, rfl, hi, fun _ => by simp, scalV (p := .str ⟨#[c]⟩) trivial, rfl⟩))
          | false =>
            rw [eq, if_neg (by decide)] at hi
            rw [if_neg (by decide), if_neg (by decide)]
            refine sw_yield gok hJ (fun A' hA' => ev_tuple ok' hA' (.cons (ev_name ok' A1 rfl) (.cons (ev_name ok' A3 rfl) .nil)) (show 2 ≤ sizeLine by decide)) (.inr ⟨rfl, _, rfl, sc2 _ _ trivial trivial⟩) (by simpa using yv_head hi) (scal4 (scalV trivial) (scalV trivial) (scalV trivial) (scalV trivial)) fun _ => ?_
            exact sw_nil (fun _ h => h) (sw_nil (fun _ h => h) (sw_nil (fun _ h => h) ⟨cs, k + 1, false, pre ++ [_], _, _, rfl, rfl, by rw [hi]; exact List.append_cons pre _ _, (fun h => by cases h), scalV (p := .str ⟨#[c]⟩) trivial, rfl⟩))
end
end Py

set_option maxRecDepth 100000
set_option maxHeartbeats 8000000
namespace Py
section
variable {C : Cx} {P : Params} {mg mb : Str → Option Value}

noncomputable def openLV : Option Int → LV
  | none => .v .none
  | some q => .v (.int q)

inductive I28 (x : Str) (fin : Int × List Str) (a : Addr) (ps : List PV) (σ : List LV) : Prop
  | mk (its : List (Int × Str)) (st : Int) (op : Option Int) (res : List Str) (l4 l5 : LV) (hp : ps = its.map tupIS) (hr : stripGo x its st op res = fin) (hs : σ = [.v (.str x), .v (.int st), openLV op, .own a (res.map .str), l4, l5])
    (hl : res.length + its.length ≤ x.cps.toList.length + 1) (hy : ∀ y ∈ res, y.length ≤ x.length) : I28 x fin a ps σ
theorem le_a {r i n : Nat} (h : r + i + 1 ≤ n) : r + i ≤ n := Nat.le_of_succ_le h
theorem le_b {r i n : Nat} (h : r + i + 1 ≤ n) : r + 1 + i ≤ n := by omega
theorem le_c {r i n x : Nat} (h : r + i + 1 ≤ n + 1) (e : n = x) (hx : x ≤ 2 ^ 10) : r ≤ 2 ^ 10 + 1 := by omega
theorem le_d {r x : Nat} (h : r ≤ x + 1) (hx : x ≤ 2 ^ 10) : r ≤ 2 ^ 10 + 1 := by omega
theorem le_e {r x : Nat} (h : r ≤ x + 1) (hx : x ≤ 2 ^ 10) : r + 1 ≤ 2 ^ 10 + 2 := by omega
theorem sum_le {n : Nat} : ∀ ws : List Str, (∀ y ∈ ws, y.length ≤ n) → (ws.map (·.length)).sum ≤ ws.length * n := by
  intro ws
  induction ws with
  | nil => intro _; simp
  | cons y r ih =>
    intro h
    have := ih fun z hz => h z (.tail _ hz)
    have := h y (.head _)
    simp only [List.map_cons, List.sum_cons, List.length_cons, Nat.add_mul, Nat.one_mul]
    omega
theorem join_le {n : Nat} (hx : n ≤ 2 ^ 10) {ws : List Str} (h1 : ws.length ≤ 2 ^ 10 + 2) (h2 : ∀ y ∈ ws, y.length ≤ n) : (ws.map (·.length)).sum + ws.length * ("" : Str).length ≤ 16777216 := by
  have h4 := sum_le ws h2
  have h5 : ("" : Str).length = 0 := by decide
  have h6 : ws.length * n ≤ (2 ^ 10 + 2) * 2 ^ 10 := Nat.mul_le_mul h1 hx
  rw [h5, Nat.mul_zero, Nat.add_zero]
  exact Nat.le_trans (Nat.le_trans h4 h6) (by decide)

theorem f28 (G : Gd C P mg mb) {x : Str} (hx : x.length ≤ 2 ^ 10) : OpN C (3 + 1) (fun vs => call (.ref 28) vs) [.str x] .n (.str (strip x)) := by
  refine fn_call (pn := ["addr"]) (locs := ["start", "open_pos", "result", "pos", "ch"]) (hclo := ?a1) (hco := ?a2) (hgen := ?a3) G.mono G.lim (G.obj (show List.lookup 28 (hd.heap_39 P) = some _ from rfl)) rfl rfl (G.code ?a4) ?a5 ?a6 rfl ?a7
  case a1 => rfl
  case a2 => rfl
  case a3 => rfl
  case a4 => kernel_rfl
  case a5 => kernel_rfl
  case a6 => exact len1 fun _ => rfl
  case a7 =>
    intro h A hA ok
    have hxs : x.length ≤ sizeLine := Nat.le_trans hx (by decide)
    refine ws_cons (w1_if (b := !Txt.contains x "\"") (tst_cmp ok hA ev_str (ev_name ok A0 rfl) op_hasnt) ?_)
    unfold strip
    cases hc : (!Txt.contains x "\"") with
    | true =>
      rw [if_pos rfl]
      exact ws_cons (w1_rets (ev_name ok A0 rfl) (.inl rfl))
    | false =>
      rw [if_neg (by decide), if_neg (by decide)]
      refine ws_nil ?_
      refine ws_cons (w1_assign ok A1 ev_int ?_)
      refine ws_cons (w1_assign ok A2 ev_none ?_)
      refine ws_cons (w1_assign_own (xs := []) ok A3 (ev_list0 ok hA) (fun _ h => by cases h) fun a => ?_)
      refine ws_cons (w1_forE ok hA.h (it21 (C := fnCx C _ h 28 _) (P := P) (mg := mg) (mb := mb) ⟨G.hW, G.hB⟩ ok (hA.le (by decide)) (g_iter_escaped_chars G.hW) (.cons (ev_name ok A0 rfl) .nil)) ?_)
      obtain ⟨fin, hfin⟩ : ∃ r, r = stripGo x (escT 0 false x.cps.toList) 0 none [] := ⟨_, rfl⟩
      have hcnt := escT_len x.cps.toList 0 false
      refine WLE.inv (fun ps _ σ => I28 x fin a ps σ) ?_ ?_ _ _ _ ⟨escT 0 false x.cps.toList, 0, none, [], _, _, escL_eq _ _ _, hfin.symm, rfl, by simpa using hcnt, fun _ h => by cases h⟩
      · rintro Z σ ⟨its, st, op, res, l4, l5, hp, hr, rfl, hl, hy⟩
        have : its = [] := by simpa using hp.symm
        subst this
        refine ⟨rfl, ws_nil ?_⟩
        have hfin2 : fin = (st, res) := hr.symm
        rw [← hfin, hfin2]
        have hxc : x.cps.toList.length = x.length := by simp [Str.length]
        have hlr : res.length ≤ x.length + 1 := by rw [List.length_nil, Nat.add_zero, hxc] at hl; exact hl
        refine ws_cons (w1_if (b := decide (st < (x.length : Int))) (tst_cmp ok hA (ev_name ok A1 rfl) (ev_call ok hA (g_len G.hW G.hB) (.inl ⟨_, rfl⟩) (.cons (ev_name ok A0 rfl) .nil) (fn_lens hxs)) op_lt) ?_)
        unfold stripRes
        by_cases hlt : st < (x.length : Int)
        · rw [if_pos hlt, if_pos (by simpa using hlt)]
          refine ws_cons (w1_append ok A3 rfl (ev_slice_str (hi := none) (ev_name ok A0 rfl) (evP (ev_name ok A1 rfl)) trivial hxs) ?_ (by rw [List.length_map]; exact Nat.le_trans (le_d hlr hx) (by decide)))
          have e : res.map PV.str ++ [PV.str (Txt.slice x (some st) none)] = (res ++ [Txt.slice x (some st) none]).map .str := by simp
          refine ws_nil (ws_cons (w1_rets (ev_meth ok hA ev_str (.inr ⟨_, rfl, rfl⟩) meth_join (.cons (ev_own ok A3 (by rw [e]; rfl)) .nil) (fn_join (join_le hx (by rw [List.length_append, List.length_singleton]; exact le_e hlr hx) fun y hy' => ?_))) (.inl rfl)))
          rcases List.mem_append.mp hy' with q | q
          · exact hy y q
          · rw [List.mem_singleton.mp q]; exact Txt.slice_le x _ _
        · rw [if_neg hlt, if_neg (by simpa using hlt)]
          exact ws_nil (ws_cons (w1_rets (ev_meth ok hA ev_str (.inr ⟨_, rfl, rfl⟩) meth_join (.cons (ev_own ok A3 rfl) .nil) (fn_join (join_le hx (Nat.le_succ_of_le (le_d hlr hx)) hy))) (.inl rfl)))
      · rintro p ps Z σ ⟨its, st, op, res, l4, l5, hp, hr, rfl, hl, hy⟩
        cases its with
        | nil => cases hp
        | cons it its =>
          obtain ⟨q, c⟩ := it
          cases hp
          refine ⟨_, .pair A4 A5, ?_⟩
          have hl' : res.length + its.length + 1 ≤ x.cps.toList.length + 1 := by simpa [Nat.add_assoc] using hl
          have hxc : x.cps.toList.length = x.length := by simp [Str.length]
          refine ws_cons (w1_if (b := c == "\"") (tst_cmp ok hA (ev_name ok A5 rfl) ev_str op_eqs) ?_)
          unfold stripGo at hr
          cases ec : (c == ("\"" : Str)) with
          | false =>
            rw [ec, if_neg (by decide)] at hr
            rw [if_neg (by decide)]
            exact ws_nil (ws_nil ⟨its, st, op, res, _, _, rfl, hr, rfl, le_a hl', hy⟩)
          | true =>
            rw [ec, if_pos rfl] at hr
            rw [if_pos rfl]
            cases op with
            | none =>
              refine ws_cons (w1_if (b := true) (tst_cmp ok hA (ev_name ok A2 rfl) ev_none op_is_none_none) ?_)
              rw [if_pos rfl]
              refine ws_cons (w1_assign ok A2 (ev_name ok A4 rfl) ?_)
              exact ws_nil (ws_nil (ws_nil ⟨its, st, some q, res, _, _, rfl, hr, rfl, le_a hl', hy⟩))
            | some o =>
              refine ws_cons (w1_if (b := false) (tst_cmp ok hA (ev_name ok A2 rfl) ev_none op_is_int_none) ?_)
              rw [if_neg (by decide)]
              refine ws_cons (w1_if (b := st != o) (tst_cmp ok hA (ev_name ok A1 rfl) (ev_name ok A2 rfl) op_ne) ?_)
              dsimp only at hr
              cases es : (st != o) with
              | false =>
                rw [es, if_neg (by decide)] at hr
                rw [if_neg (by decide)]
                refine ws_nil (ws_cons (w1_assign ok A1 (ev_bin ok hA (ev_name ok A4 rfl) ev_int op_add) ?_))
                refine ws_cons (w1_assign ok A2 ev_none ?_)
                exact ws_nil (ws_nil (ws_nil ⟨its, q + 1, none, res, _, _, rfl, hr, rfl, le_a hl', hy⟩))
              | true =>
                rw [es, if_pos rfl] at hr
                rw [if_pos rfl]
                refine ws_cons (w1_append ok A3 rfl (ev_slice_str (ev_name ok A0 rfl) (evP (ev_name ok A1 rfl)) (evP (ev_name ok A2 rfl)) hxs) ?_ (by rw [List.length_map]; exact Nat.le_trans (le_c hl' hxc hx) (by decide)))
                have e : res.map PV.str ++ [PV.str (Txt.slice x (some st) (some o))] = (res ++ [Txt.slice x (some st) (some o)]).map .str := by simp
                refine ws_nil (ws_cons (w1_assign ok A1 (ev_bin ok hA (ev_name ok A4 rfl) ev_int op_add) ?_))
                refine ws_cons (w1_assign ok A2 ev_none ?_)
                refine ws_nil (ws_nil (ws_nil ⟨its, q + 1, none, res ++ [Txt.slice x (some st) (some o)], _, _, rfl, hr, by rw [e]; rfl, by rw [List.length_append, List.length_singleton]; exact le_b hl', fun y hy' => ?_⟩))
                rcases List.mem_append.mp hy' with q' | q'
                · exact hy y q'
                · rw [List.mem_singleton.mp q']; exact Txt.slice_le x _ _

inductive I35 (x : Str) (ps : List PV) (σ : List LV) : Prop
  | mk (its : List (Int × Str)) (o : Int) (l2 l3 : LV) (hp : ps = its.map tupIS) (hr : parenGo its o = parens x) (hs : σ = [.v (.str (strip x)), .v (.int o), l2, l3]) : I35 x ps σ
theorem f35 (G : Gd C P mg mb) {x : Str} (hx : x.length ≤ 2 ^ 10) : OpN C (4 + 1) (fun vs => call (.ref 35) vs) [.str x] .n (.bool (parens x)) := by
  refine fn_call (pn := ["addr"]) (locs := ["opens", "pos", "ch"]) (hclo := ?a1) (hco := ?a2) (hgen := ?a3) G.mono G.lim (G.obj (show List.lookup 35 (hd.heap_39 P) = some _ from rfl)) rfl rfl (G.code ?a4) ?a5 ?a6 rfl ?a7
  case a1 => rfl
  case a2 => rfl
  case a3 => rfl
  case a4 => kernel_rfl
  case a5 => kernel_rfl
  case a6 => exact len1 fun _ => rfl
  case a7 =>
    intro h A hA ok
    refine ws_cons (w1_assign ok A0 (Ev.toF (ev_call ok hA (g_strip_quoted_realnames G.hW) (.inr (.inr ⟨_, _, _, rfl, rfl, G.obj (show List.lookup 28 (hd.heap_39 P) = some _ from rfl)⟩)) (.cons (ev_name ok A0 rfl) .nil) (f28 (C := fnCx C _ h 35 _) ⟨G.hW, G.hB⟩ hx))) ?_)
    refine ws_cons (w1_assign ok A1 ev_int ?_)
    refine ws_cons (w1_forE ok hA.h (it21 (C := fnCx C _ h 35 _) (P := P) (mg := mg) (mb := mb) ⟨G.hW, G.hB⟩ ok (hA.le (by decide)) (g_iter_escaped_chars G.hW) (.cons (ev_name ok A0 rfl) .nil)) ?_)
    refine WLE.inv (fun ps _ σ => I35 x ps σ) ?_ ?_ _ _ _ ⟨escT 0 false (strip x).cps.toList, 0, _, _, escL_eq _ _ _, rfl, rfl⟩
    · rintro Z σ ⟨its, o, l2, l3, hp, hr, rfl⟩
      have : its = [] := by simpa using hp.symm
      subst this
      refine ⟨rfl, ws_nil (ws_cons (w1_retb (ev_cmp ok hA (ev_name ok A1 rfl) ev_int op_eq) (.inl ?_)))⟩
      rw [← hr]; rfl
    · rintro p ps Z σ ⟨its, o, l2, l3, hp, hr, rfl⟩
      cases its with
      | nil => cases hp
      | cons it its =>
        obtain ⟨q, c⟩ := it
        cases hp
        refine ⟨_, .pair A2 A3, ?_⟩
        unfold parenGo at hr
        refine ws_cons (w1_if (b := c == "(") (tst_cmp ok hA (ev_name ok A3 rfl) ev_str op_eqs) ?_)
        cases e1 : (c == ("(" : Str)) with
        | true =>
          rw [e1, if_pos rfl] at hr
          rw [if_pos rfl]
          refine ws_cons (w1_aug ok hA A1 rfl ev_int op_iadd ?_)
          exact ws_nil (ws_nil ⟨its, o + 1, _, _, rfl, hr, rfl⟩)
        | false =>
          rw [e1, if_neg (by decide)] at hr
          rw [if_neg (by decide)]
          refine ws_cons (w1_if (b := c == ")") (tst_cmp ok hA (ev_name ok A3 rfl) ev_str op_eqs) ?_)
          cases e2 : (c == (")" : Str)) with
          | false =>
            rw [e2, if_neg (by decide)] at hr
            rw [if_neg (by decide)]
            exact ws_nil (ws_nil (ws_nil ⟨its, o, _, _, rfl, hr, rfl⟩))
          | true =>
            rw [e2, if_pos rfl] at hr
            rw [if_pos rfl]
            refine ws_cons (w1_aug ok hA A1 rfl ev_int op_isub ?_)
            refine ws_cons (w1_if (b := decide (o - 1 < 0)) (tst_cmp ok hA (ev_name ok A1 rfl) ev_int op_lt) ?_)
            by_cases h0 : o - 1 < 0
            · rw [if_pos h0] at hr
              rw [if_pos (by simpa using h0)]
              exact ws_cons (w1_retb ev_bool (.inl (by rw [← hr])))
            · rw [if_neg h0] at hr
              rw [if_neg (by simpa using h0)]
              exact ws_nil (ws_nil (ws_nil (ws_nil ⟨its, o - 1, _, _, rfl, hr, rfl⟩)))

inductive I42 (xs : List Str) (a : Addr) (ps : List PV) (σ : List LV) : Prop
  | mk (ys acc : List Str) (l2 : LV) (hp : ps = ys.map PV.str) (hr : acc ++ validate ys = validate xs) (hy : ∀ y ∈ ys, y.length ≤ 2 ^ 10) (hl : acc.length + ys.length ≤ 2 ^ 10) (hs : σ = [.v (LS xs), .own a (acc.map .str), l2]) : I42 xs a ps σ
theorem f42 (G : Gd C P mg mb) {xs : List Str} (hx : ∀ x ∈ xs, x.length ≤ 2 ^ 10) (hl : xs.length ≤ 2 ^ 10) : OpN C (5 + 1) (fun vs => call (.ref 42) vs) [LS xs] .n (LS (validate xs)) := by
  refine fn_call (pn := ["email_header_fields"]) (locs := ["accepted_values", "v"]) (hclo := ?a1) (hco := ?a2) (hgen := ?a3) G.mono G.lim (G.obj (show List.lookup 42 (hd.heap_39 P) = some _ from rfl)) rfl rfl (G.code ?a4) ?a5 ?a6 rfl ?a7
  case a1 => rfl
  case a2 => rfl
  case a3 => rfl
  case a4 => kernel_rfl
  case a5 => kernel_rfl
  case a6 => exact len1 fun _ => rfl
  case a7 =>
    intro h A hA ok
    refine ws_cons (w1_assign_own (xs := []) ok A1 (ev_list0 ok hA) (fun _ h => by cases h) fun a => ?_)
    refine ws_cons (w1_fors ok hA.h (iter_list ok hA.h (ev_name ok A0 rfl) (fun q => by cases q)) ?_)
    refine WLs.inv (fun ps _ σ => I42 xs a ps σ) ?_ ?_ _ _ _ ⟨xs, [], _, rfl, rfl, hx, by simpa using hl, rfl⟩
    · rintro Z σ ⟨ys, acc, l2, hp, hr, hy, hlen, rfl⟩
      have : ys = [] := by simpa using hp.symm
      subst this
      refine ws_nil (ws_cons (w1_ret_own ok A1 rfl (scals_strs _) (.inl ?_)))
      rw [← hr]; simp [validate]
    · rintro p ps Z σ ⟨ys, acc, l2, hp, hr, hy, hlen, rfl⟩
      cases ys with
      | nil => cases hp
      | cons y ys =>
        cases hp
        refine ⟨_, .name A2, ?_⟩
        have hacc : (acc.map PV.str).length ≤ sizeLine := by rw [List.length_map]; exact Nat.le_trans (show acc.length ≤ 2 ^ 10 by simp at hlen; omega) (by decide)
        refine ws_cons (w1_if (b := !parens y) (tst_not (tst_val ok hA (ev_call ok hA (g_check_parenthesis G.hW) (.inr (.inr ⟨_, _, _, rfl, rfl, G.obj (show List.lookup 35 (hd.heap_39 P) = some _ from rfl)⟩)) (.cons (ev_name ok A2 rfl) .nil) (f35 (C := fnCx C _ h 42 _) ⟨G.hW, G.hB⟩ (hy y (.head _)))) tr_bool)) ?_)
        have ev : validate (y :: ys) = (if parens y then y else "('', '')") :: validate ys := rfl
        rw [ev] at hr
        cases e : parens y with
        | true =>
          rw [e, if_pos rfl] at hr
          rw [if_neg (by decide)]
          refine ws_nil (ws_cons (w1_append ok A1 rfl (ev_name ok A2 rfl) ?_ hacc))
          exact ws_nil ⟨ys, acc ++ [y], _, rfl, by rw [← hr]; simp, fun z hz => hy z (.tail _ hz), by simp at hlen ⊢; omega, by rw [List.map_append]; rfl⟩
        | false =>
          rw [e, if_neg (by decide)] at hr
          rw [if_pos (by decide)]
          refine ws_cons (w1_assign ok A2 ev_str ?_)
          refine ws_nil (ws_cons (w1_append ok A1 rfl (ev_name ok A2 rfl) ?_ hacc))
          exact ws_nil ⟨ys, acc ++ [("('', '')" : Str)], _, rfl, by rw [← hr]; simp, fun z hz => hy z (.tail _ hz), by simp at hlen ⊢; omega, by rw [List.map_append]; rfl⟩
end
end Py

set_option maxRecDepth 100000
set_option maxHeartbeats 8000000
namespace Py
section
variable {C : Cx} {P : Params} {mg mb : Str → Option Value}

theorem pick_to {xs : List PV} {k : Nat} (h : k < 2 ^ 60) : pick xs none (some (k : Int)) = xs.take k := by
  have e : clipAt xs.length (k : Int) = min k xs.length := by
    unfold clipAt
    simp only [show ¬ ((k : Int) < 0) by omega, if_false]
    omega
  unfold pick
  simp only [Option.elim, List.drop_zero, Nat.sub_zero]
  rw [e]
  by_cases hk : k ≤ xs.length
  · rw [Nat.min_eq_left hk]
  · rw [Nat.min_eq_right (by omega), List.take_length, List.take_of_length_le (by omega)]

noncomputable def cellsGo : Nat → List Int → List Int → List Int
  | _, [], cs => cs
  | k, n :: ns, cs => cellsGo (k + 1) ns (cs.set (k % 7) (cs.getD (k % 7) 0 + (n % 1000000 + 1)))
noncomputable def cellsF (ns : List Int) : List Int := cellsGo 0 ns [3, 2, 9, 7, 1, 0, 3144]

inductive I64 (ns : List Int) (a : Addr) (ps : List PV) (σ : List LV) : Prop
  | mk (ms : List Int) (k : Nat) (cs : List Int) (l2 l3 : LV) (hp : ps = enumL k (ms.map .int)) (hr : cellsGo k ms cs = cellsF ns) (hl : cs.length = 7) (hs : σ = [.v (LI ns), .own a (cs.map .int), l2, l3]) : I64 ns a ps σ
theorem f64 (G : Gd C P mg mb) {ns : List Int} (hn : ns.length ≤ 63) : OpN C (1 + 1) (fun vs => call (.ref 64) vs) [LI ns] .n (LI (cellsF ns)) := by
  refine fn_call (pn := ["script"]) (locs := ["cells", "place", "number"]) (hclo := ?a1) (hco := ?a2) (hgen := ?a3) G.mono G.lim (G.obj (show List.lookup 64 (hd.heap_39 P) = some _ from rfl)) rfl rfl (G.code ?a4) ?a5 ?a6 rfl ?a7
  case a1 => rfl
  case a2 => rfl
  case a3 => rfl
  case a4 => kernel_rfl
  case a5 => kernel_rfl
  case a6 => exact len1 fun _ => rfl
  case a7 =>
    intro h A hA ok
    have hsz : (ns.map PV.int).length ≤ sizeLine := by rw [List.length_map]; exact Nat.le_trans hn (by decide)
    have hpick : pick (ns.map PV.int) none (some ((63 : Nat) : Int)) = ns.map .int := by rw [pick_to (by decide), List.take_of_length_le (by rw [List.length_map]; exact hn)]
    refine ws_cons (w1_assign_own (xs := ([3, 2, 9, 7, 1, 0, 3144] : List Int).map .int) ok A1 (ev_list ok hA (.cons ev_int (.cons ev_int (.cons ev_int (.cons ev_int (.cons ev_int (.cons ev_int (.cons ev_int .nil))))))) (show 7 ≤ sizeLine by decide)) (scals_ints _) fun a => ?_)
    refine ws_cons (w1_fors (ps := enumL 0 (ns.map .int)) ok hA.h (iter_enum_list ok hA.h (g_enumerate G.hW G.hB) (.cons (Ev.toF (Ev.cast (ev_slice (lo := none) ok hA (ev_name ok A0 rfl) trivial (evP ev_int) hsz) (congrArg PV.list hpick))) .nil)) ?_)
    refine WLs.inv (fun ps _ σ => I64 ns a ps σ) ?_ ?_ _ _ _ ⟨ns, 0, _, _, _, rfl, rfl, rfl, rfl⟩
    · rintro Z σ ⟨ms, k, cs, l2, l3, hp, hr, hl, rfl⟩
      cases ms with
      | cons => cases hp
      | nil => exact ws_nil (ws_cons (w1_ret_own ok A1 rfl (scals_ints _) (.inl (by rw [← hr]; rfl))))
    · rintro p ps Z σ ⟨ms, k, cs, l2, l3, hp, hr, hl, rfl⟩
      cases ms with
      | nil => cases hp
      | cons m ms =>
        cases hp
        refine ⟨_, .pair A2 A3, ?_⟩
        have hlt : k % 7 < cs.length := by rw [hl]; exact Nat.mod_lt _ (by decide)
        have ek : ((k : Int) % 7).toNat = k % 7 := by omega
        have hget : (cs.map PV.int)[((k : Int) % 7).toNat]? = some (.int (cs.getD (k % 7) 0)) := by
          rw [ek, List.getElem?_map, List.getElem?_eq_getElem hlt]
          simp [List.getD_eq_getElem?_getD, List.getElem?_eq_getElem hlt]
        refine ws_cons (w1_aug_item ok hA A1 rfl (ev_bin ok hA (ev_name ok A2 rfl) ev_int (op_mod (by decide))) (by omega) hget (by rw [List.length_map, hl]; decide) (ev_bin ok hA (ev_bin ok hA (ev_name ok A3 rfl) ev_int (op_mod (by decide))) ev_int op_add) op_iadd ?_)
        refine ws_nil ⟨ms, k + 1, cs.set (k % 7) (cs.getD (k % 7) 0 + (m % 1000000 + 1)), .v (.int k), .v (.int m), rfl, hr, by rw [List.length_set]; exact hl, ?_⟩
        rw [List.map_set, ek]
        rfl

theorem pick_ft {xs : List PV} {j k : Nat} (hj : j < 2 ^ 60) (hk : k < 2 ^ 60) (h1 : j ≤ xs.length) (h2 : k ≤ xs.length) : pick xs (some (j : Int)) (some (k : Int)) = (xs.drop j).take (k - j) := by
  have e : ∀ i : Nat, i ≤ xs.length → clipAt xs.length (i : Int) = i := by
    intro i hi
    unfold clipAt
    simp only [show ¬ ((i : Int) < 0) by omega, if_false]
    omega
  unfold pick
  simp only [Option.elim]
  rw [e j h1, e k h2]

noncomputable def rowOne (c : Int) : Int := if c % 12 == 0 then 0 else if c % 12 == 11 then 127 else 1 + (c % 12 - 1) % 5
noncomputable def rowF (cs : List Int) : List Int := (1 + cs.getD 0 0 % 5) :: ((cs.drop 1).take 5).map rowOne

inductive I71 (cs : List Int) (a : Addr) (ps : List PV) (σ : List LV) : Prop
  | mk (ms acc : List Int) (l2 l3 : LV) (hp : ps = ms.map PV.int) (hr : acc ++ ms.map rowOne = rowF cs) (hl : acc.length + ms.length ≤ 10) (hs : σ = [.v (LI cs), .own a (acc.map .int), l2, l3]) : I71 cs a ps σ
theorem f71 (G : Gd C P mg mb) {cs : List Int} (hn : cs.length = 7) : OpN C (1 + 1) (fun vs => call (.ref 71) vs) [LI cs] .n (LI (rowF cs)) := by
  refine fn_call (pn := ["cells"]) (locs := ["row", "cell", "part"]) (hclo := ?a1) (hco := ?a2) (hgen := ?a3) G.mono G.lim (G.obj (show List.lookup 71 (hd.heap_39 P) = some _ from rfl)) rfl rfl (G.code ?a4) ?a5 ?a6 rfl ?a7
  case a1 => rfl
  case a2 => rfl
  case a3 => rfl
  case a4 => kernel_rfl
  case a5 => kernel_rfl
  case a6 => exact len1 fun _ => rfl
  case a7 =>
    intro h A hA ok
    have hsz : (cs.map PV.int).length ≤ sizeLine := by rw [List.length_map, hn]; decide
    have hpick : pick (cs.map PV.int) (some ((1 : Nat) : Int)) (some ((6 : Nat) : Int)) = ((cs.drop 1).take 5).map .int := by
      rw [pick_ft (by decide) (by decide) (by rw [List.length_map, hn]; decide) (by rw [List.length_map, hn]; decide), List.map_take, List.map_drop]
    have h0 : (cs.map PV.int)[(0 : Int).toNat]? = some (.int (cs.getD 0 0)) := get_map PV.int cs (k := 0) 0 (by rw [hn]; decide)
    refine ws_cons (w1_assign_own (xs := [1 + cs.getD 0 0 % 5].map .int) ok A1 (ev_list ok hA (.cons (ev_bin ok hA ev_int (ev_bin ok hA (ev_item (ev_name ok A0 rfl) ev_int (by decide) (by decide) h0) ev_int (op_mod (by decide))) op_add) .nil) (show 1 ≤ sizeLine by decide)) (scals_ints _) fun a => ?_)
    refine ws_cons (w1_fors (ps := ((cs.drop 1).take 5).map .int) ok hA.h (iter_list (k := .n) ok hA.h (Ev.cast (ev_slice ok hA (ev_name ok A0 rfl) (evP ev_int) (evP ev_int) hsz) (congrArg PV.list hpick)) (fun q => by cases q)) ?_)
    refine WLs.inv (fun ps _ σ => I71 cs a ps σ) ?_ ?_ _ _ _ ⟨(cs.drop 1).take 5, [1 + cs.getD 0 0 % 5], _, _, rfl, rfl, by simp; omega, rfl⟩
    · rintro Z σ ⟨ms, acc, l2, l3, hp, hr, hl, rfl⟩
      have : ms = [] := by simpa using hp.symm
      subst this
      exact ws_nil (ws_cons (w1_ret_own ok A1 rfl (scals_ints _) (.inl (by rw [← hr]; simp))))
    · rintro p ps Z σ ⟨ms, acc, l2, l3, hp, hr, hl, rfl⟩
      cases ms with
      | nil => cases hp
      | cons m ms =>
        cases hp
        refine ⟨_, .name A2, ?_⟩
        have hacc : (acc.map PV.int).length ≤ sizeLine := by rw [List.length_map]; exact Nat.le_trans (show acc.length ≤ 10 by simp at hl; omega) (by decide)
        have next : ∀ v : Int, v = rowOne m → (acc ++ [v]) ++ ms.map rowOne = rowF cs ∧ (acc ++ [v]).length + ms.length ≤ 10 := by
          rintro v rfl
          exact ⟨by rw [← hr]; simp, by simp at hl ⊢; omega⟩
        refine ws_cons (w1_assign ok A3 (ev_bin ok hA (ev_name ok A2 rfl) ev_int (op_mod (by decide))) ?_)
        refine ws_cons (w1_if (b := m % 12 == 0) (tst_cmp ok hA (ev_name ok A3 rfl) ev_int op_eq) ?_)
        cases e0 : (m % 12 == (0 : Int)) with
        | true =>
          rw [if_pos rfl]
          obtain ⟨n1, n2⟩ := next 0 (by unfold rowOne; rw [e0]; rfl)
          exact ws_cons (w1_append ok A1 rfl ev_int (ws_nil (ws_nil ⟨ms, acc ++ [0], _, _, rfl, n1, n2, by rw [List.map_append]; rfl⟩)) hacc)
        | false =>
          rw [if_neg (by decide)]
          refine ws_cons (w1_if (b := m % 12 == 11) (tst_cmp ok hA (ev_name ok A3 rfl) ev_int op_eq) ?_)
          cases e1 : (m % 12 == (11 : Int)) with
          | true =>
            rw [if_pos rfl]
            obtain ⟨n1, n2⟩ := next 127 (by unfold rowOne; rw [e0, e1]; rfl)
            exact ws_cons (w1_append ok A1 rfl ev_int (ws_nil (ws_nil (ws_nil ⟨ms, acc ++ [127], _, _, rfl, n1, n2, by rw [List.map_append]; rfl⟩))) hacc)
          | false =>
            rw [if_neg (by decide)]
            obtain ⟨n1, n2⟩ := next (1 + (m % 12 - 1) % 5) (by unfold rowOne; rw [e0, e1]; rfl)
            exact ws_cons (w1_append ok A1 rfl (ev_bin ok hA ev_int (ev_bin ok hA (ev_bin ok hA (ev_name ok A3 rfl) ev_int op_sub) ev_int (op_mod (by decide))) op_add) (ws_nil (ws_nil (ws_nil ⟨ms, acc ++ [1 + (m % 12 - 1) % 5], _, _, rfl, n1, n2, by rw [List.map_append]; rfl⟩))) hacc)

noncomputable def wantsGo : List Int → List Int → List Int
  | [], acc => acc
  | s :: r, acc => if s == 127 then acc else if s == 0 then acc ++ List.replicate 6 (acc.getLastD 0) else wantsGo r (acc ++ [s])
noncomputable def wantsF (row : List Int) : List Int := (wantsGo row [] ++ List.replicate 6 0).take 6

theorem repl_one (n : Nat) (x : PV) : (List.replicate n [x]).flatten = List.replicate n x := by
  induction n with
  | zero => rfl
  | succ n ih => rw [List.replicate_succ, List.flatten_cons, ih]; rfl
theorem wantsGo_len : ∀ (r acc : List Int), (wantsGo r acc).length ≤ acc.length + r.length + 6
  | [], acc => by unfold wantsGo; omega
  | s :: r, acc => by
    unfold wantsGo
    split
    · simp only [List.length_cons]; omega
    · split
      · simp only [List.length_append, List.length_replicate, List.length_cons]; omega
      · have := wantsGo_len r (acc ++ [s])
        simp only [List.length_append, List.length_cons, List.length_nil] at this ⊢
        omega

inductive I78 (row fin : List Int) (a : Addr) (ps : List PV) (σ : List LV) : Prop
  | mk (ms acc : List Int) (l2 : LV) (hp : ps = ms.map PV.int) (hr : wantsGo ms acc = fin) (hl : acc.length + ms.length ≤ 10) (h0 : ∀ s r, ms = s :: r → s = 0 → acc ≠ []) (hs : σ = [.v (LI row), .own a (acc.map .int), l2]) : I78 row fin a ps σ
theorem f78 (G : Gd C P mg mb) {row : List Int} (hn : row.length ≤ 10) (h0 : ∀ s r, row = s :: r → s ≠ 0) : OpN C (1 + 1) (fun vs => call (.ref 78) vs) [LI row] .n (LI (wantsF row)) := by
  refine fn_call (pn := ["row"]) (locs := ["wants", "size"]) (hclo := ?a1) (hco := ?a2) (hgen := ?a3) G.mono G.lim (G.obj (show List.lookup 78 (hd.heap_39 P) = some _ from rfl)) rfl rfl (G.code ?a4) ?a5 ?a6 rfl ?a7
  case a1 => rfl
  case a2 => rfl
  case a3 => rfl
  case a4 => kernel_rfl
  case a5 => kernel_rfl
  case a6 => exact len1 fun _ => rfl
  case a7 =>
    intro h A hA ok
    refine ws_cons (w1_assign_own (xs := []) ok A1 (ev_list0 ok hA) (fun _ h => by cases h) fun a => ?_)
    obtain ⟨fin, hfin⟩ : ∃ r, r = wantsGo row [] := ⟨_, rfl⟩
    have hfl : fin.length ≤ 16 := by rw [hfin]; have := wantsGo_len row []; simp at this; omega
    refine ws_fors (fun _ σ => ∃ a l2, σ = [.v (LI row), .own a (fin.map .int), l2]) ok hA.h (iter_list ok hA.h (ev_name ok A0 rfl) (fun q => by cases q)) ?_ ?_
    · rintro Z' σ' ⟨a, l2, rfl⟩
      have e6 : (List.replicate (6 : Int).toNat [PV.int 0]).flatten = (List.replicate 6 (0 : Int)).map .int := by rw [repl_one]; rfl
      have e7 : fin.map PV.int ++ (List.replicate (6 : Int).toNat [PV.int 0]).flatten = (fin ++ List.replicate 6 0).map .int := by rw [e6, List.map_append]
      have e8 : pick (fin.map PV.int ++ (List.replicate (6 : Int).toNat [PV.int 0]).flatten) none (some ((6 : Nat) : Int)) = (wantsF row).map .int := by
        rw [e7, pick_to (by decide), ← List.map_take]
        unfold wantsF
        rw [hfin]
      have hs1 : (fin.map PV.int).length + ((List.replicate (6 : Int).toNat [PV.int 0]).flatten).length ≤ sizeLine := by
        rw [e6, List.length_map, List.length_map, List.length_replicate]
        exact Nat.le_trans (show fin.length + 6 ≤ 22 by omega) (by decide)
      exact ws_cons (w1_ret_n (scals_ints (wantsF row)) (Ev.cast (ev_slice (lo := none) ok hA (ev_bin ok hA (ev_own ok A1 rfl) (ev_bin ok hA (ev_list ok hA (.cons ev_int .nil) (show 1 ≤ sizeLine by decide)) ev_int (op_lrep (x := 6) (xs := [.int 0]) (by decide) (by decide) (by decide))) (op_lcat hs1)) (by exact trivial) (evP ev_int) (by rw [List.length_append]; exact hs1)) (congrArg PV.list e8)) (.inl rfl))
    · refine WLs.inv (fun ps _ σ => I78 row fin a ps σ) ?_ ?_ _ _ _ ⟨row, [], _, rfl, hfin.symm, by simpa using hn, fun s r e z => absurd z (h0 s r e), rfl⟩
      · rintro Z σ ⟨ms, acc, l2, hp, hr, hl, hz, rfl⟩
        have : ms = [] := by simpa using hp.symm
        subst this
        exact ws_nil ⟨a, l2, by rw [← hr]; rfl⟩
      · rintro p ps Z σ ⟨ms, acc, l2, hp, hr, hl, hz, rfl⟩
        cases ms with
        | nil => cases hp
        | cons m ms =>
          cases hp
          refine ⟨_, .name A2, ?_⟩
          have hac : acc.length ≤ 10 := by simp at hl; omega
          have hacc : (acc.map PV.int).length ≤ sizeLine := by rw [List.length_map]; exact Nat.le_trans hac (by decide)
          unfold wantsGo at hr
          refine ws_cons (w1_if (b := m == 127) (tst_cmp ok hA (ev_name ok A2 rfl) ev_int op_eq) ?_)
          cases e0 : (m == (127 : Int)) with
          | true =>
            rw [e0, if_pos rfl] at hr
            rw [if_pos rfl]
            exact ws_cons (w1_break ⟨a, _, by rw [← hr]; rfl⟩)
          | false =>
            rw [e0, if_neg (by decide)] at hr
            rw [if_neg (by decide)]
            refine ws_nil (ws_cons (w1_if (b := m == 0) (tst_cmp ok hA (ev_name ok A2 rfl) ev_int op_eq) ?_))
            cases e1 : (m == (0 : Int)) with
            | true =>
              rw [e1, if_pos rfl] at hr
              rw [if_pos rfl]
              have hne : acc ≠ [] := hz m ms rfl (by simpa using e1)
              have hpos : 0 < acc.length := List.length_pos_iff.mpr hne
              have hlast : (acc.map PV.int)[((-1 : Int) + (acc.map PV.int).length).toNat]? = some (.int (acc.getLastD 0)) := by
                rw [List.length_map, show ((-1 : Int) + (acc.length : Nat)).toNat = acc.length - 1 by omega, List.getElem?_map, ← List.getLast?_eq_getElem?]
                cases acc with
                | nil => exact absurd rfl hne
                | cons x r => simp [List.getLast?_eq_some_getLast, List.getLastD]
              have hr6 : (List.replicate (6 : Int).toNat [PV.int (acc.getLastD 0)]).flatten = (List.replicate 6 (acc.getLastD 0)).map .int := by rw [repl_one]; simp
              refine ws_cons (w1_extend (ys := (List.replicate 6 (acc.getLastD 0)).map .int) ok A1 rfl (Ev.toF (Ev.cast (ev_bin ok hA (ev_list ok hA (.cons (ev_item_neg (ev_own ok A1 rfl) (ev_neg ev_int) (by decide) (by rw [List.length_map]; omega) (by rw [List.length_map]; omega) hlast) .nil) (show 1 ≤ sizeLine by decide)) ev_int (op_lrep (x := 6) (by decide) (by decide) (by exact (by decide : 1 * 6 ≤ 2 ^ 24)))) (congrArg PV.list hr6))) ?_ (by rw [List.length_map, List.length_map, List.length_replicate]; omega))
              exact ws_cons (w1_break ⟨a, _, by rw [← hr, List.map_append]; rfl⟩)
            | false =>
              rw [e1, if_neg (by decide)] at hr
              rw [if_neg (by decide)]
              refine ws_nil (ws_cons (w1_append ok A1 rfl (ev_name ok A2 rfl) ?_ hacc))
              exact ws_nil ⟨ms, acc ++ [m], _, rfl, hr, by simp at hl ⊢; omega, fun _ _ _ _ => by simp, by rw [List.map_append]; rfl⟩
end
end Py

set_option maxRecDepth 100000
set_option maxHeartbeats 8000000
namespace Py
section
variable {C : Cx} {P : Params} {mg mb : Str → Option Value}

noncomputable def shields4 : List Str := ["", "\\)", "\"(\"", "\"\\\")\""]
noncomputable def shieldOf (dress : Int) (k : Nat) : Str := shields4.getD (dress / 4 ^ k % 4).toNat Str.empty
noncomputable def frontStep (order counts : List Int) (dress : Int) (k : Nat) (text : Str) : Str :=
  (if k % 2 == 1 then text ++ shieldOf dress k else text) ++ (Txt.mul "(" (counts.getD k 0) ++ Txt.mul ")" (order.getD k 0))
noncomputable def frontsGo (order counts : List Int) (dress : Int) : Nat → Nat → Str → List Str → List Str
  | 0, _, _, acc => acc
  | m + 1, k, text, acc => frontsGo order counts dress m (k + 1) (frontStep order counts dress k text) (acc ++ [frontStep order counts dress k text])
noncomputable def frontsF (order counts : List Int) (dress : Int) : List Str := frontsGo order counts dress 7 0 "" []

theorem mulOk_one {x : Str} {n : Int} (hx : x.length ≤ 4) (h0 : 0 ≤ n) (h1 : n ≤ 100) : MulOk x n := by
  have hm : x.length * n.toNat ≤ 4 * 100 := Nat.mul_le_mul hx (by omega)
  unfold MulOk
  refine ⟨by simp; omega, fun h _ => ?_, fun _ _ => ?_⟩
  · have hn : 0 < n := by omega
    have : (x.length : Int) ≤ (2 ^ 63 - 1) / n := by
      rw [Int.le_ediv_iff_mul_le hn]
      have e : (x.length : Int) * n = ((x.length * n.toNat : Nat) : Int) := by
        rw [Int.natCast_mul, Int.toNat_of_nonneg h0]
      rw [e]
      omega
    omega
  · unfold Builtin.Str.tooLong
    rw [decide_eq_false_iff_not]
    have : sizeLine = 2 ^ 24 := rfl
    omega
theorem mul_le {x : Str} {n : Int} (hx : x.length ≤ 1) (h1 : n ≤ 100) : (Txt.mul x n).length ≤ 100 := by
  have := len_mul_leN (N := 100) hx h1
  omega
theorem get_mapI {α : Type} (f : α → PV) (l : List α) {j : Int} (d : α) (h : j.toNat < l.length) : (l.map f)[j.toNat]? = some (f (l.getD j.toNat d)) := by
  rw [List.getElem?_map, List.getElem?_eq_getElem h]
  simp [List.getD_eq_getElem?_getD, List.getElem?_eq_getElem h]
theorem shield_le (dress : Int) (k : Nat) : (shieldOf dress k).length ≤ 5 := by
  unfold shieldOf
  have h : (dress / 4 ^ k % 4).toNat < 4 := by omega
  generalize (dress / 4 ^ k % 4).toNat = j at h
  match j, h with
  | 0, _ | 1, _ | 2, _ | 3, _ => decide

theorem z0 (k : Nat) : (0 + (k : Int)).toNat = k := by rw [Int.zero_add]; exact Int.toNat_natCast k
theorem zn (k : Nat) : (0 : Int) ≤ 0 + (k : Int) := by rw [Int.zero_add]; exact Int.natCast_nonneg k
theorem zl {k : Nat} (h : k < 7) : 0 + (k : Int) < 2 ^ 62 := by omega
theorem fl1 {t sh : Str} {k : Nat} (hk : k < 7) (h : t.length ≤ k * 300) (hs : sh.length ≤ 5) : t.length + sh.length ≤ sizeLine := Nat.le_trans (show _ ≤ 3000 by omega) (by decide)
theorem fl2 {a b : Str} (ha : a.length ≤ 100) (hb : b.length ≤ 100) : a.length + b.length ≤ sizeLine := Nat.le_trans (Nat.add_le_add ha hb) (by decide)
theorem fl4 {t a b : Str} {k : Nat} (h : t.length ≤ k * 300 + 5) (ha : a.length ≤ 100) (hb : b.length ≤ 100) : (t ++ (a ++ b)).length ≤ (k + 1) * 300 := by
  rw [Str.length_append, Str.length_append]; omega
theorem fl3 {t a b : Str} {k : Nat} (hk : k < 7) (h : t.length ≤ k * 300 + 5) (ha : a.length ≤ 100) (hb : b.length ≤ 100) : t.length + (a ++ b).length ≤ sizeLine := by
  rw [← Str.length_append]
  exact Nat.le_trans (fl4 h ha hb) (Nat.le_trans (Nat.mul_le_mul_right 300 hk) (by decide))
theorem fl5 {t sh : Str} {k : Nat} (h : t.length ≤ k * 300) (hs : sh.length ≤ 5) : (t ++ sh).length ≤ k * 300 + 5 := by
  rw [Str.length_append]; exact Nat.add_le_add h hs
theorem d4 (x : Int) : 0 ≤ x % 4 ∧ x % 4 < 2 ^ 62 ∧ (x % 4).toNat < 4 := by omega
theorem p4a {k : Nat} (h : k < 7) : 0 < (4 : Int) ^ (0 + (k : Int)).toNat ∧ (4 : Int) ^ (0 + (k : Int)).toNat < 2 ^ 30 := by
  rw [z0]
  match k, h with
  | 0, _ | 1, _ | 2, _ | 3, _ | 4, _ | 5, _ | 6, _ => decide
theorem p4b {k : Nat} (h : k < 7) : ((Builtin.Int.intBits 4 : Nat) : Int) * (0 + (k : Int)) ≤ 2 ^ 27 := by
  have : Builtin.Int.intBits 4 = 3 := by decide
  rw [this]; omega
theorem oddI (k : Nat) : ((0 + (k : Int)) % 2 == 1) = (k % 2 == 1) := by
  rw [Int.zero_add]
  by_cases hh : k % 2 = 1
  · rw [hh, show (k : Int) % 2 = 1 by omega]; rfl
  · have : k % 2 = 0 := by omega
    rw [this, show (k : Int) % 2 = 0 by omega]; rfl
theorem getDm {l : List Int} {k : Nat} (h : k < l.length) : l.getD k 0 ∈ l := by
  rw [List.getD_eq_getElem?_getD, List.getElem?_eq_getElem h]; exact List.getElem_mem _
inductive I116 (order counts : List Int) (dress : Int) (a : Addr) (ps : List PV) (σ : List LV) : Prop
  | mk (k m : Nat) (text : Str) (acc : List Str) (l6 : LV) (hp : ps = (List.range' k m).map (fun (i : Nat) => PV.int (0 + i))) (hk : k + m = 7) (hr : frontsGo order counts dress m k text acc = frontsF order counts dress) (ht : text.length ≤ k * 300) (ha : acc.length ≤ k) (hs : σ = [.v (LI order), .v (LI counts), .v (.int dress), .v (LS shields4), .own a (acc.map .str), .v (.str text), l6]) : I116 order counts dress a ps σ
theorem f116 (G : Gd C P mg mb) {order counts : List Int} {dress : Int} (ho : order.length = 7) (hc : counts.length = 7) (h1 : ∀ x ∈ order, 0 ≤ x ∧ x ≤ 100) (h2 : ∀ x ∈ counts, 0 ≤ x ∧ x ≤ 100) : OpN C (1 + 1) (fun vs => call (.ref 116) vs) [LI order, LI counts, .int dress] .n (LS (frontsF order counts dress)) := by
  refine fn_call (pn := ["order", "counts", "dress"]) (locs := ["shields", "fronts", "text", "person"]) (hclo := ?a1) (hco := ?a2) (hgen := ?a3) G.mono G.lim (G.obj (show List.lookup 116 (hd.heap_39 P) = some _ from rfl)) rfl rfl (G.code ?a4) ?a5 ?a6 rfl ?a7
  case a1 => rfl
  case a2 => rfl
  case a3 => rfl
  case a4 => kernel_rfl
  case a5 => kernel_rfl
  case a6 => exact len3 fun _ _ _ => rfl
  case a7 =>
    intro h A hA ok
    refine ws_cons (w1_assign (p := LS shields4) ok A3 (Ev.toF (ev_list ok hA (.cons ev_str (.cons ev_str (.cons ev_str (.cons ev_str .nil)))) (show 4 ≤ sizeLine by decide))) ?_)
    refine ws_cons (w1_assign_own (xs := []) ok A4 (ev_list0 ok hA) (fun _ h => by cases h) fun a => ?_)
    refine ws_cons (w1_assign ok A5 ev_str ?_)
    refine ws_fors (fun _ σ => ∃ l5 l6, σ = [.v (LI order), .v (LI counts), .v (.int dress), .v (LS shields4), .own a ((frontsF order counts dress).map .str), l5, l6]) ok hA.h (iter_range1 (k := 7) ok hA.h (g_range G.hW G.hB) (.cons ev_int .nil) (by decide) (by decide)) ?_ ?_
    · rintro Z' σ' ⟨l5, l6, rfl⟩
      exact ws_cons (w1_ret_own ok A4 rfl (scals_strs _) (.inl rfl))
    · refine WLs.inv (fun ps _ σ => I116 order counts dress a ps σ) ?_ ?_ _ _ _ ⟨0, 7, "", [], _, by unfold rangeP; rw [List.range_eq_range'], rfl, rfl, by decide, Nat.le_refl _, rfl⟩
      · rintro Z σ ⟨k, m, text, acc, l6, hp, hk, hr, ht, ha, rfl⟩
        cases m with
        | succ m => simp [List.range'_succ] at hp
        | zero => exact ws_nil ⟨_, _, by rw [← hr]; rfl⟩
      · rintro p ps Z σ ⟨k, m, text, acc, l6, hp, hk, hr, ht, ha, rfl⟩
        cases m with
        | zero => simp at hp
        | succ m =>
          rw [List.range'_succ, List.map_cons] at hp
          cases hp
          have hk7 : k < 7 := by clear ht hr ha; omega
          have hk1 : k + 1 + m = 7 := by rw [← hk]; exact Nat.succ_add_eq_add_succ k m
          have hko : k < order.length := ho ▸ hk7
          have hkc : k < counts.length := hc ▸ hk7
          refine ⟨_, .name A6, ?_⟩
          have ob := h1 _ (getDm hko)
          have cb := h2 _ (getDm hkc)
          have m1 : (Txt.mul "(" (counts.getD k 0)).length ≤ 100 := mul_le (show ("(" : Str).length ≤ 1 by decide) cb.2
          have m2 : (Txt.mul ")" (order.getD k 0)).length ≤ 100 := mul_le (show (")" : Str).length ≤ 1 by decide) ob.2
          have hsh := shield_le dress k
          have hac : (acc.map PV.str).length ≤ sizeLine := by rw [List.length_map]; exact Nat.le_trans ha (Nat.le_trans (Nat.le_of_lt hk7) (by decide))
          have hal : ∀ x : Str, (acc ++ [x]).length ≤ k + 1 := fun x => by rw [List.length_append]; exact Nat.succ_le_succ ha
          have mk1 : MulOk "(" (counts.getD k 0) := mulOk_one (show ("(" : Str).length ≤ 4 by decide) cb.1 cb.2
          have mk2 : MulOk ")" (order.getD k 0) := mulOk_one (show (")" : Str).length ≤ 4 by decide) ob.1 ob.2
          -- the rest of a turn, once the shield is laid
          have key : ∀ t1 : Str, t1 = (if k % 2 == 1 then text ++ shieldOf dress k else text) → frontsGo order counts dress m (k + 1) (t1 ++ (Txt.mul "(" (counts.getD k 0) ++ Txt.mul ")" (order.getD k 0))) (acc ++ [t1 ++ (Txt.mul "(" (counts.getD k 0) ++ Txt.mul ")" (order.getD k 0))]) = frontsF order counts dress := by
            rintro t1 rfl
            exact hr
          refine ws_cons (w1_if (b := k % 2 == 1) (Tst.cast (tst_cmp ok hA (ev_bin ok hA (ev_name ok A6 rfl) ev_int (op_mod (by decide))) ev_int op_eq) (oddI k)) ?_)
          cases eo : (k % 2 == 1) with
          | true =>
            have k2 := key (text ++ shieldOf dress k) (by rw [eo]; rfl)
            have tl := fl5 ht hsh
            rw [if_pos rfl]
            have d := d4 (dress / 4 ^ (0 + (k : Int)).toNat)
            have eidx : shields4.getD (dress / 4 ^ (0 + (k : Int)).toNat % 4).toNat Str.empty = shieldOf dress k := by unfold shieldOf; rw [z0]
            refine ws_cons (w1_aug ok hA A5 rfl (Ev.cast (ev_item (ev_name ok A3 rfl) (ev_bin ok hA (ev_bin ok hA (ev_name ok A2 rfl) (ev_bin ok hA ev_int (ev_name ok A6 rfl) (op_pow (zn k) (p4b hk7))) (op_div (p4a hk7).1 (p4a hk7).2)) ev_int (op_mod (by decide))) d.1 d.2.1 (get_mapI PV.str shields4 Str.empty d.2.2)) (congrArg PV.str eidx)) (op_icat (fl1 hk7 ht hsh)) ?_)
            refine ws_nil (ws_cons (w1_aug ok hA A5 rfl (ev_bin ok hA (ev_bin ok hA ev_str (ev_item (ev_name ok A1 rfl) (ev_name ok A6 rfl) (zn k) (zl hk7) (get_map PV.int counts 0 hkc)) (op_rep mk1)) (ev_bin ok hA ev_str (ev_item (ev_name ok A0 rfl) (ev_name ok A6 rfl) (zn k) (zl hk7) (get_map PV.int order 0 hko)) (op_rep mk2)) (op_cat (fl2 m1 m2))) (op_icat (fl3 hk7 tl m1 m2)) ?_))
            refine ws_cons (w1_append ok A4 rfl (ev_name ok A5 rfl) ?_ hac)
            refine ws_nil ⟨k + 1, m, _, _, .v (.int (0 + (k : Int))), rfl, hk1, k2, fl4 tl m1 m2, hal _, ?_⟩
            rw [List.map_append]; rfl
          | false =>
            have k2 := key text (by rw [eo]; rfl)
            have tl : text.length ≤ k * 300 + 5 := Nat.le_trans ht (Nat.le_add_right _ _)
            rw [if_neg (by decide)]
            refine ws_nil (ws_cons (w1_aug ok hA A5 rfl (ev_bin ok hA (ev_bin ok hA ev_str (ev_item (ev_name ok A1 rfl) (ev_name ok A6 rfl) (zn k) (zl hk7) (get_map PV.int counts 0 hkc)) (op_rep mk1)) (ev_bin ok hA ev_str (ev_item (ev_name ok A0 rfl) (ev_name ok A6 rfl) (zn k) (zl hk7) (get_map PV.int order 0 hko)) (op_rep mk2)) (op_cat (fl2 m1 m2))) (op_icat (fl3 hk7 tl m1 m2)) ?_))
            refine ws_cons (w1_append ok A4 rfl (ev_name ok A5 rfl) ?_ hac)
            refine ws_nil ⟨k + 1, m, _, _, .v (.int (0 + (k : Int))), rfl, hk1, k2, fl4 tl m1 m2, hal _, ?_⟩
            rw [List.map_append]; rfl
end
end Py

set_option maxRecDepth 100000
set_option maxHeartbeats 8000000
namespace Py
section
variable {C : Cx} {P : Params} {mg mb : Str → Option Value}

noncomputable def othersF (k : Nat) : List Int := ((List.range 7).filter fun (i : Nat) => (0 + (i : Int)) != (0 + (k : Int))).map fun (i : Nat) => 0 + (i : Int)
noncomputable def maskN (k : Nat) (o : Nat) : Nat := (((((List.range 7).filter fun i => i != k).take o).map fun i => 2 ^ i)).sum
noncomputable def pageF (order : List Int) (k : Nat) : List Str := Txt.split (pfText (maskN k (order.getD k 0).toNat)) ", "
noncomputable def pagesF (order : List Int) : List (List Str) := (List.range 7).map (pageF order)
noncomputable def countIn (pages : List (List Str)) (nm : Str) : Int := ((pages.filter fun pg => pg.any (· == nm)).length : Nat)
noncomputable def countsF (order : List Int) : List Int := names7.map (countIn (pagesF order))

noncomputable def pageFits (f : Nat) : Bool := decide ((pfText f).length ≤ 1000) && decide ((Builtin.Str.partsBetween (pfText f) (Builtin.Str.occurrences (pfText f) (", " : Str) 0 (pfText f).length ((pfText f).length + 1)) (", " : Str).length).length ≤ 1000)
noncomputable def pageMs : List Nat := [0, 1, 2, 3, 5, 6, 7, 11, 13, 14, 15, 23, 27, 29, 30, 31, 47, 55, 59, 61, 62, 63, 95, 111, 119, 123, 125, 126]
theorem pf_a : (pageMs.take 12).all pageFits = true := by decide +kernel
theorem pf_b : ((pageMs.drop 12).take 6).all pageFits = true := by decide +kernel
theorem pf_c : (((pageMs.drop 12).drop 6).take 5).all pageFits = true := by decide +kernel
theorem pf_d : (((pageMs.drop 12).drop 6).drop 5).all pageFits = true := by decide +kernel
theorem page_ok : pageMs.all pageFits = true := by
  rw [← List.take_append_drop 12 pageMs, List.all_append, pf_a, ← List.take_append_drop 6 (pageMs.drop 12), List.all_append, pf_b, ← List.take_append_drop 5 ((pageMs.drop 12).drop 6), List.all_append, pf_c, pf_d]; rfl
theorem maskN_lt {k o : Nat} (hk : k < 7) (ho : o ≤ 7) : maskN k o < 128 := by
  have : (List.range 7).all (fun k => (List.range 8).all fun o => decide (maskN k o < 128)) = true := by decide +kernel
  have h1 := List.all_eq_true.mp this k (List.mem_range.mpr hk)
  have h2 := List.all_eq_true.mp h1 o (List.mem_range.mpr (by omega))
  simpa using h2
theorem maskN_mem {k o : Nat} (hk : k < 7) (ho : o ≤ 7) : maskN k o ∈ pageMs := by
  have : (List.range 7).all (fun k => (List.range 8).all fun o => pageMs.any (· == maskN k o)) = true := by decide +kernel
  have h1 := List.all_eq_true.mp this k (List.mem_range.mpr hk)
  have h2 := List.all_eq_true.mp h1 o (List.mem_range.mpr (by omega))
  obtain ⟨x, hx, e⟩ := List.any_eq_true.mp h2
  exact eq_of_beq e ▸ hx
theorem others_eq (k : Nat) : othersF k = ((List.range 7).filter fun i => i != k).map fun (i : Nat) => (i : Int) := by
  unfold othersF
  rw [List.filter_congr (q := fun i => i != k) fun i _ => ?_]
  · exact List.map_congr_left fun i _ => by omega
  · by_cases h : i = k
    · subst h; simp
    · have h1 : ((0 + (i : Int)) != (0 + (k : Int))) = true := bne_iff_ne.mpr (by omega)
      have h2 : (i != k) = true := bne_iff_ne.mpr h
      rw [h1, h2]
theorem sum_cast (l : List Nat) : ((l.map fun (i : Nat) => (1 : Int) * 2 ^ ((i : Int)).toNat).sum) = (((l.map fun i => 2 ^ i).sum : Nat) : Int) := by
  induction l with
  | nil => rfl
  | cons x r ih =>
    have e : (1 : Int) * 2 ^ ((x : Int)).toNat = ((2 ^ x : Nat) : Int) := by rw [Int.toNat_natCast, Int.one_mul]; norm_cast
    rw [List.map_cons, List.map_cons, List.sum_cons, List.sum_cons, ih, e]
    exact (Int.natCast_add _ _).symm
theorem mask_sum (k o : Nat) : (((othersF k).take o).map fun (x : Int) => (1 : Int) * 2 ^ x.toNat).sum = ((maskN k o : Nat) : Int) := by
  rw [others_eq, ← List.map_take, List.map_map]
  exact sum_cast _
theorem OpN.le {C : Cx} {m n : Nat} {f : List Value → Sem Value} {ps : List PV} {k : RK} {r : PV} (h : OpN C m f ps k r) (hmn : m ≤ n) : OpN C n f ps k r := fun A Z s Q E vs H => h A Z s Q E vs ⟨H.a.le hmn, H.w, H.lim, H.zl⟩
theorem OpN.castP {C : Cx} {m : Nat} {f : List Value → Sem Value} {ps : List PV} {k : RK} {r r' : PV} (h : OpN C m f ps k r) (e : r = r') : OpN C m f ps k r' := e ▸ h
theorem sz_small {n : Nat} (h : n ≤ 100000) : n ≤ sizeLine := Nat.le_trans h (by decide)

theorem f109 (G : Gd C P mg mb) {order : List Int} (ho : order.length = 7) (h1 : ∀ x ∈ order, 0 ≤ x ∧ x ≤ 6) : OpN C (2 + 1) (fun vs => call (.ref 109) vs) [LI order] .n (LI (countsF order)) := by
  refine fn_call (pn := ["order"]) (locs := ["pages", "person", "others"]) (hclo := ?a1) (hco := ?a2) (hgen := ?a3) G.mono G.lim (G.obj (show List.lookup 109 (hd.heap_39 P) = some _ from rfl)) rfl rfl (G.code ?a4) ?a5 ?a6 rfl ?a7
  case a1 => rfl
  case a2 => rfl
  case a3 => rfl
  case a4 => kernel_rfl
  case a5 => kernel_rfl
  case a6 => exact len1 fun _ => rfl
  case a7 =>
    intro h A hA ok
    refine ws_cons (w1_assign_own (xs := []) ok A1 (ev_list0 ok hA) (fun _ h => by cases h) fun a => ?_)
    refine ws_fors (fun _ σ => ∃ a l2 l3, σ = [.v (LI order), .own a ((pagesF order).map LS), l2, l3]) ok hA.h (iter_range1 (k := 7) ok hA.h (g_range G.hW G.hB) (.cons ev_int .nil) (by decide) (by decide)) ?_ ?_
    · rintro Z' σ' ⟨a, l2, l3, rfl⟩
      refine ws_freeze ok A1 rfl ?_
      have hcl : ((countsF order).map PV.int).length ≤ sizeLine := by unfold countsF; rw [List.length_map, List.length_map]; decide
      refine ws_cons (w1_ret_n (scals_ints (countsF order)) (ev_comp ["name"] ["pages"] (ps := names7.map .str) ok hA.h (by kernel_rfl) (iter_list (k := .n) ok hA.h (ev_call ok hA (g_law_names G.hW) (.inr (.inr ⟨_, _, _, rfl, rfl, G.obj (show List.lookup 99 (hd.heap_39 P) = some _ from rfl)⟩)) .nil ((f99 (C := fnCx C _ h 109 _) ⟨G.hW, G.hB⟩).le (by decide))) (fun q => by cases q)).z (.cons A1 rfl .nil) (by simp [owns]) (fun L Z' ok1 => ?_) hcl) (.inl rfl))
      rw [show (countsF order).map PV.int = names7.map (fun nm => PV.int (countIn (pagesF order) nm)) by unfold countsF; rw [List.map_map]; rfl]
      refine WC.all PV.str _ names7 _ fun nm _ l => ⟨_, .name A0, rfl, ?_⟩
      have hpl : ∀ q : List Str → Bool, (((pagesF order).filter q).map LS).length ≤ sizeLine := fun q => by
        rw [List.length_map]
        refine Nat.le_trans (List.length_filter_le _ _) ?_
        unfold pagesF
        rw [List.length_map, List.length_range]
        decide
      refine Ev.cast (ev_call ok1 hA (g_len G.hW G.hB) (.inl ⟨_, rfl⟩) (.cons (Ev.toF (ev_comp ["page"] ["name"] (ps := (pagesF order).map LS) (out := ((pagesF order).filter fun pg => pg.any (· == nm)).map LS) ok1 hA.h (by kernel_rfl) (iter_list (k := .f) ok1 hA.h (ev_name ok1 A1 rfl) (fun q => by cases q)).z (.cons A0 rfl .nil) (by simp [owns]) (fun L' Z'' ok2 => ?_) (hpl _))) .nil) (fn_len (hpl _))) (congrArg PV.int (congrArg Nat.cast (List.length_map ..)))
      · exact WC.of LS LS (fun pg => pg.any (· == nm)) (pagesF order) _ fun pg _ l => ⟨_, .name A0, rfl, tst_cmp ok2 hA (ev_name ok2 A1 rfl) (ev_name ok2 A0 rfl) op_in_strs, fun _ => ev_name ok2 A0 rfl⟩
    · refine WLs.inv (fun ps Z σ => ∃ k m l2 l3, ps = (List.range' k m).map (fun (i : Nat) => PV.int (0 + i)) ∧ k + m = 7 ∧ σ = [.v (LI order), .own a (((List.range k).map (pageF order)).map LS), l2, l3]) ?_ ?_ _ _ _ ⟨0, 7, _, _, by unfold rangeP; rw [List.range_eq_range'], rfl, rfl⟩
      · rintro Z σ ⟨k, m, l2, l3, hp, hk, rfl⟩
        cases m with
        | succ m => simp [List.range'_succ] at hp
        | zero => exact ws_nil ⟨_, _, _, by rw [show k = 7 by omega]; rfl⟩
      · rintro p ps Z σ ⟨k, m, l2, l3, hp, hk, rfl⟩
        cases m with
        | zero => simp at hp
        | succ m =>
          rw [List.range'_succ, List.map_cons] at hp
          cases hp
          have hk7 : k < 7 := by omega
          refine ⟨_, .name A2, ?_⟩
          have oin : order.getD k 0 ∈ order := by rw [List.getD_eq_getElem?_getD, List.getElem?_eq_getElem (by omega)]; exact List.getElem_mem _
          have ob := h1 _ oin
          have hol : (othersF k).length ≤ 7 := by
            unfold othersF
            rw [List.length_map]
            exact Nat.le_trans (List.length_filter_le _ _) (by simp)
          refine ws_cons (w1_assign_comp ["other"] ["person"] (out := (othersF k).map .int) ok hA.h A3 (by kernel_rfl) (iter_range1 (k := 7) ok hA.h (g_range G.hW G.hB) (.cons ev_int .nil) (by decide) (by decide)).z (.cons A2 rfl .nil) (by simp [owns]) (fun L Z' ok' => ?_) (by rw [List.length_map]; exact sz_small (by omega)) ?_)
          · exact WC.rangeI (fun (i : Nat) => 0 + (i : Int)) (fun (i : Nat) => (0 + (i : Int)) != (0 + (k : Int))) fun i hi l => ⟨_, .name A0, rfl, tst_cmp ok' hA (ev_name ok' A0 rfl) (ev_name ok' A1 rfl) op_ne, fun _ => ev_name ok' A0 rfl⟩
          · have hm : maskN k (order.getD k 0).toNat < 128 := maskN_lt hk7 (by omega)
            have hpf := List.all_eq_true.mp page_ok _ (maskN_mem (k := k) (o := (order.getD k 0).toNat) hk7 (by omega))
            unfold pageFits at hpf
            rw [Bool.and_eq_true, decide_eq_true_iff, decide_eq_true_iff] at hpf
            have ep : pick ((othersF k).map PV.int) none (some (order.getD k 0)) = ((othersF k).take (order.getD k 0).toNat).map .int := by
              rw [show order.getD k 0 = (((order.getD k 0).toNat : Nat) : Int) by omega, pick_to (by omega), ← List.map_take]
              rfl
            have hol' : ((othersF k).map PV.int).length ≤ sizeLine := by rw [List.length_map]; exact sz_small (by omega)
            have es : (List.map (fun (x : Int) => (1 : Int) * 2 ^ x.toNat) ((othersF k).take (order.getD k 0).toNat)).sum = ((maskN k (order.getD k 0).toNat : Nat) : Int) := mask_sum k _
            have ox : ∀ {x : Int}, x ∈ (othersF k).take (order.getD k 0).toNat → 0 ≤ x ∧ x ≤ 7 := fun {x} hx => by
              have := List.mem_of_mem_take hx
              unfold othersF at this
              rw [List.mem_map] at this
              obtain ⟨i, hi, rfl⟩ := this
              have := List.mem_range.mp (List.mem_filter.mp hi).1
              omega
            refine ws_cons (w1_append ok A1 rfl (p := LS (pageF order k)) (Ev.toF (ev_meth ok hA (ev_call ok hA (gpretty_flags G.hW) (.inr (.inr ⟨_, _, _, rfl, rfl, G.obj (show List.lookup 50 (hd.heap_39 P) = some _ from rfl)⟩)) (.cons (ev_call ok hA (g_sum G.hW G.hB) (.inl ⟨_, rfl⟩) (.cons (Ev.toF (ev_comp ["other"] [] (ps := ((othersF k).take (order.getD k 0).toNat).map .int) (out := (((othersF k).take (order.getD k 0).toNat).map fun (x : Int) => (1 : Int) * 2 ^ x.toNat).map .int) ok hA.h (by kernel_rfl) (iter_list (k := .n) ok hA.h (Ev.cast (ev_slice (lo := none) ok hA (ev_name ok A3 rfl) (by exact trivial) (evP (ev_item (ev_name ok A0 rfl) (ev_name ok A2 rfl) (by omega) (by omega) (get_map PV.int order 0 (by omega)))) hol') (congrArg PV.list ep)) (fun q => by cases q)).z .nil (by simp [owns]) (fun L Z' ok' => ?cmp) ?csz)) .nil) (OpN.castP fn_sum (congrArg PV.int es))) .nil) ((f50 (C := fnCx C _ h 109 _) ⟨G.hW, G.hB⟩ (f := maskN k (order.getD k 0).toNat) (Nat.lt_of_lt_of_le hm (by decide))).le (by decide))) (.inr ⟨_, rfl, rfl⟩) meth_split (.cons ev_str .nil) (fn_split (by decide) ?_ ?_))) ?_ ?_)
            case cmp =>
              rw [List.map_map]
              exact WC.all PV.int _ _ _ fun x hx l => ⟨_, .name A0, rfl, ev_bin ok' hA ev_int (ev_name ok' A0 rfl) (op_shl (ox hx).1 (Int.le_trans (ox hx).2 (by decide)) (by decide))⟩
            case csz => rw [List.length_map, List.length_map, List.length_take]; exact sz_small (by omega)
            · exact sz_small (Nat.le_trans hpf.1 (by decide))
            · exact sz_small (Nat.le_trans hpf.2 (by decide))
            · refine ws_nil ⟨k + 1, m, .v (.int (0 + (k : Int))), .v (LI (othersF k)), rfl, by omega, ?_⟩
              rw [List.range_succ, List.map_append, List.map_append]
              rfl
            · rw [List.length_map, List.length_map, List.length_range]; exact sz_small (by omega)
end
end Py

set_option maxRecDepth 100000
set_option maxHeartbeats 8000000
namespace Py
section
variable {C : Cx} {P : Params} {mg mb : Str → Option Value}

noncomputable def lackL (left : List Int) : List (Int × Int) := (List.range 7).map fun (i : Nat) => (-(left.getD i 0), 0 + (i : Int))
noncomputable def ranksF (left : List Int) : List (Int × Int) := sortP (lackL left)
noncomputable def cut1 {α : Type} (xs : List α) (n : Int) : List α := (xs.drop (clipAt xs.length 1)).take (clipAt xs.length n - clipAt xs.length 1)
noncomputable def tieIn (first : Nat) : List (Int × Int) → List Int → List Int → Option (List Int × List Int)
  | [], left, ties => some (left, ties)
  | x :: r, left, ties => if x.1 == 0 then none else
    tieIn first r (left.set x.2.toNat (left.getD x.2.toNat 0 - 1)) ((ties.set first (Builtin.bitOr (ties.getD first 0) (1 * 2 ^ x.2.toNat))).set x.2.toNat (Builtin.bitOr ((ties.set first (Builtin.bitOr (ties.getD first 0) (1 * 2 ^ x.2.toNat))).getD x.2.toNat 0) (1 * 2 ^ first)))
noncomputable def tieOut : Nat → List Int → List Int → List Int
  | 0, _, ties => ties
  | m + 1, left, ties => if ((ranksF left).getD 0 (0, 0)).1 == 0 then ties else
    match tieIn ((ranksF left).getD 0 (0, 0)).2.toNat (cut1 (ranksF left) (left.getD ((ranksF left).getD 0 (0, 0)).2.toNat 0 + 1)) left ties with
    | none => []
    | some r => tieOut m (r.1.set ((ranksF left).getD 0 (0, 0)).2.toNat 0) r.2
noncomputable def tiesF (order : List Int) : List Int := tieOut 7 order (List.replicate 7 0)

theorem sortP_length {l : List (Int × Int)} (h : 0 < l.length) : (sortP l).length = l.length := by
  have := (kasAll_val (lt := fun i j => tupLt (l.getD i (0, 0)) (l.getD j (0, 0))) _ (sort_all h)).size_eq
  unfold sortP
  rw [List.length_map]
  unfold sortIx
  rw [Array.length_toList, this]
  simp
theorem lackL_length (left : List Int) : (lackL left).length = 7 := by unfold lackL; rw [List.length_map, List.length_range]
theorem ranksF_length (left : List Int) : (ranksF left).length = 7 := by unfold ranksF; rw [sortP_length (by rw [lackL_length]; decide), lackL_length]
theorem ranksF_mem {left : List Int} {x : Int × Int} (h : x ∈ ranksF left) : 0 ≤ x.2 ∧ x.2 ≤ 6 := by
  have := sortP_mem x h
  unfold lackL at this
  obtain ⟨i, hi, rfl⟩ := List.mem_map.mp this
  have := List.mem_range.mp hi
  exact ⟨by show 0 ≤ 0 + (i : Int); omega, by show 0 + (i : Int) ≤ 6; omega⟩
theorem cut1_mem {α : Type} {xs : List α} {n : Int} {x : α} (h : x ∈ cut1 xs n) : x ∈ xs := List.mem_of_mem_drop (List.mem_of_mem_take h)
theorem pick_cut1 {α : Type} (f : α → PV) (xs : List α) (n : Int) : pick (xs.map f) (some 1) (some n) = (cut1 xs n).map f := by
  unfold pick cut1
  simp only [Option.elim, List.length_map]
  rw [List.map_take, List.map_drop]
inductive J121 (order : List Int) (a b : Addr) (ps : List PV) (σ : List LV) : Prop
  | mk (k m : Nat) (left ties : List Int) (l3 l4 l5 l6 l7 : LV) (hp : ps = (List.range' k m).map (fun (i : Nat) => PV.int (0 + i))) (hr : tieOut m left ties = tiesF order) (hl : left.length = 7) (ht : ties.length = 7)
    (hs : σ = [.v (LI order), .own a (left.map .int), .own b (ties.map .int), l3, l4, l5, l6, l7]) : J121 order a b ps σ
inductive E121 (order : List Int) (a b : Addr) (σ : List LV) : Prop
  | mk (left : List Int) (l3 l4 l5 l6 l7 : LV) (hs : σ = [.v (LI order), .own a (left.map .int), .own b ((tiesF order).map .int), l3, l4, l5, l6, l7]) : E121 order a b σ
inductive I121 (f : Nat) (base : Option (List Int × List Int)) (order : List Int) (a b : Addr) (l3 l4 l5 : LV) (ps : List PV) (σ : List LV) : Prop
  | mk (xs : List (Int × Int)) (le ti : List Int) (l6 l7 : LV) (hp : ps = xs.map pairPV) (he : tieIn f xs le ti = base) (h1 : le.length = 7) (h2 : ti.length = 7) (hx : ∀ x ∈ xs, 0 ≤ x.2 ∧ x.2 ≤ 6)
    (hs : σ = [.v (LI order), .own a (le.map .int), .own b (ti.map .int), l3, l4, l5, l6, l7]) : I121 f base order a b l3 l4 l5 ps σ
inductive D121 (base : Option (List Int × List Int)) (order : List Int) (a b : Addr) (l3 l4 l5 : LV) (σ : List LV) : Prop
  | mk (r : List Int × List Int) (l6 l7 : LV) (he : base = some r) (h1 : r.1.length = 7) (h2 : r.2.length = 7) (hs : σ = [.v (LI order), .own a (r.1.map .int), .own b (r.2.map .int), l3, l4, l5, l6, l7]) : D121 base order a b l3 l4 l5 σ
theorem z62 {x : Int} (h : 0 ≤ x ∧ x ≤ 6) : x ≤ 2 ^ 20 := by omega
theorem z66 {x : Int} (h : 0 ≤ x ∧ x ≤ 6) : x < 2 ^ 62 := by omega
theorem r0 (left : List Int) : 0 < (ranksF left).length := by rw [ranksF_length]; decide
theorem z7i {x : Int} (h : 0 ≤ x ∧ x ≤ 6) : x < ((7 : Nat) : Int) := by omega
theorem z6n {x : Int} (h : 0 ≤ x ∧ x ≤ 6) : x.toNat < 7 := by omega
theorem z67 {x : Int} (h : 0 ≤ x ∧ x ≤ 6) {n : Nat} (e : n = 7) : x.toNat < n := by omega

theorem f121 (G : Gd C P mg mb) {order : List Int} (ho : order.length = 7) : OpN C (1 + 1) (fun vs => call (.ref 121) vs) [LI order] .n (LI (tiesF order)) := by
  refine fn_call (pn := ["order"]) (locs := ["left", "ties", "turn", "ranks", "first", "lack", "other"]) (hclo := ?a1) (hco := ?a2) (hgen := ?a3) G.mono G.lim (G.obj (show List.lookup 121 (hd.heap_39 P) = some _ from rfl)) rfl rfl (G.code ?a4) ?a5 ?a6 rfl ?a7
  case a1 => rfl
  case a2 => rfl
  case a3 => rfl
  case a4 => kernel_rfl
  case a5 => kernel_rfl
  case a6 => exact len1 fun _ => rfl
  case a7 =>
    intro h A hA ok
    refine ws_cons (w1_assign_own (xs := order.map .int) ok A1 (ev_call ok hA (g_list G.hW G.hB) (.inr (.inl ⟨_, rfl⟩)) (.cons (ev_name ok A0 rfl) .nil) (fn_list (by rw [List.length_map, ho]; decide))) (scals_ints _) fun a => ?_)
    have e7 : (List.replicate (7 : Int).toNat [PV.int 0]).flatten = (List.replicate 7 (0 : Int)).map .int := by rw [repl_one]; rfl
    refine ws_cons (w1_assign_own (xs := (List.replicate 7 (0 : Int)).map .int) ok A2 (Ev.cast (ev_bin ok hA (ev_list ok hA (.cons ev_int .nil) (show 1 ≤ sizeLine by decide)) ev_int (op_lrep (by decide) (by decide) (by exact (by decide : 1 * 7 ≤ 2 ^ 24)))) (congrArg PV.list e7)) (scals_ints _) fun b => ?_)
    refine ws_fors (fun _ σ => E121 order a b σ) ok hA.h (iter_range1 (k := 7) ok hA.h (g_range G.hW G.hB) (.cons ev_int .nil) (by decide) (by decide)) ?_ ?_
    · rintro Z' σ' ⟨left, l3, l4, l5, l6, l7, rfl⟩
      exact ws_cons (w1_ret_own ok A2 rfl (scals_ints _) (.inl rfl))
    · refine WLs.inv (fun ps _ σ => J121 order a b ps σ) ?_ ?_ _ _ _ ⟨0, 7, order, List.replicate 7 0, _, _, _, _, _, by unfold rangeP; rw [List.range_eq_range'], rfl, ho, by simp, rfl⟩
      · rintro Z σ ⟨k, m, left, ties, l3, l4, l5, l6, l7, hp, hr, hl, ht, rfl⟩
        cases m with
        | succ m => simp [List.range'_succ] at hp
        | zero => exact ws_nil ⟨left, _, _, _, _, _, by rw [← hr]; rfl⟩
      · rintro p ps Z σ ⟨k, m, left, ties, l3, l4, l5, l6, l7, hp, hr, hl, ht, rfl⟩
        cases m with
        | zero => simp at hp
        | succ m =>
          rw [List.range'_succ, List.map_cons] at hp
          cases hp
          refine ⟨_, .name A3, ?_⟩
          have hrl := ranksF_length left
          unfold tieOut at hr
          have hx0 := get_map pairPV (ranksF left) (k := 0) (0, 0) (r0 left)
          have hmem : (ranksF left).getD 0 (0, 0) ∈ ranksF left := by rw [List.getD_eq_getElem?_getD, List.getElem?_eq_getElem (r0 left)]; exact List.getElem_mem _
          have hf := ranksF_mem hmem
          refine ws_cons (w1_assign (p := .list ((ranksF left).map pairPV)) ok A4 (Ev.toF (ev_call ok hA (g_sorted G.hW G.hB) (.inl ⟨_, rfl⟩) (.cons (Ev.toF (ev_comp ["person"] ["left"] (out := (lackL left).map pairPV) ok hA.h (by kernel_rfl) (iter_range1 (k := 7) ok hA.h (g_range G.hW G.hB) (.cons ev_int .nil) (by decide) (by decide)).z (.cons A1 rfl .nil) (by simp [owns]) (fun L Z' ok' => ?cmp) ?csz)) .nil) (fn_sorted_pairs (l := lackL left) (by rw [lackL_length]; decide) (by rw [lackL_length]; decide)))) ?_)
          case cmp =>
            unfold lackL
            rw [List.map_map]
            refine WC.all (fun (i : Nat) => PV.int (0 + i)) _ (List.range 7) _ fun i hi l => ⟨_, .name A0, rfl, ?_⟩
            have := List.mem_range.mp hi
            exact Ev.toF (ev_tuple ok' hA (.cons (ev_neg (ev_item (ev_own ok' A1 rfl) (ev_name ok' A0 rfl) (zn i) (zl this) (get_map PV.int left 0 (by rw [hl]; exact this)))) (.cons (ev_name ok' A0 rfl) .nil)) (show 2 ≤ sizeLine by decide))
          case csz => rw [List.length_map, lackL_length]; decide
          have hall : ∀ x ∈ ranksF left, 0 ≤ x.2 ∧ x.2 ≤ 6 := fun x hx => ranksF_mem hx
          generalize ranksF left = ranks at *
          generalize ranks.getD 0 (0, 0) = top at *
          obtain ⟨lack0, first⟩ := top
          refine ws_cons (w1_if (b := lack0 == 0) (tst_cmp ok hA (ev_tupitem (ev_item (ev_name ok A4 rfl) ev_int (by decide) (by decide) hx0) ev_int (by decide) (by decide) rfl) ev_int op_eq) ?_)
          have hff : 0 ≤ first ∧ first ≤ 6 := hf
          have hrm : ∀ x ∈ ranks, 0 ≤ x.2 ∧ x.2 ≤ 6 := fun x hx => hall x hx
          cases e0 : (lack0 == (0 : Int)) with
          | true =>
            rw [if_pos rfl]
            rw [if_pos e0] at hr
            exact ws_cons (w1_break ⟨left, _, _, _, _, _, by rw [← hr]; rfl⟩)
          | false =>
            rw [if_neg (by decide)]
            rw [if_neg (ne_true_of_eq_false e0)] at hr
            refine ws_nil (ws_cons (w1_assign ok A5 (ev_tupitem (ev_item (ev_name ok A4 rfl) ev_int (by decide) (by decide) hx0) ev_int (by decide) (by decide) rfl) ?_))
            have hsz : (ranks.map pairPV).length ≤ sizeLine := by rw [List.length_map, hrl]; decide
            have hfl : (left.map PV.int)[first.toNat]? = some (.int (left.getD first.toNat 0)) := get_mapI PV.int left 0 (z67 hff hl)
            have hfn : first.toNat < 7 := z6n hff
            refine ws_fors (fun _ σ => D121 (tieIn first.toNat (cut1 ranks (left.getD first.toNat 0 + 1)) left ties) order a b (.v (.int (0 + (k : Int)))) (.v (.list (ranks.map pairPV))) (.v (.int first)) σ) ok hA.h (iter_list (k := .n) ok hA.h (Ev.cast (ev_slice ok hA (ev_name ok A4 rfl) (evP ev_int) (evP (ev_bin ok hA (ev_item (ev_own ok A1 rfl) (ev_name ok A5 rfl) hff.1 (z66 hff) hfl) ev_int op_add)) hsz) (congrArg PV.list (pick_cut1 pairPV ranks _))) (fun q => by cases q)) ?_ ?_
            · rintro Z' σ' ⟨r, l6, l7, he, hr1, hr2, rfl⟩
              have hr' : tieOut m (r.1.set first.toNat 0) r.2 = tiesF order := by
                have e : (match tieIn first.toNat (cut1 ranks (left.getD first.toNat 0 + 1)) left ties with | none => [] | some r => tieOut m (r.1.set first.toNat 0) r.2) = tiesF order := hr
                rw [he] at e
                exact e
              refine ws_cons (w1_set_item ok A1 rfl (ev_name ok A5 rfl) hff.1 (by rw [List.length_map, hr1]; exact z7i hff) (by rw [List.length_map, hr1]; decide) ev_int ?_)
              refine ws_nil ⟨k + 1, m, r.1.set first.toNat 0, r.2, .v (.int (0 + (k : Int))), .v (.list (ranks.map pairPV)), .v (.int first), l6, l7, rfl, hr', by rw [List.length_set]; exact hr1, hr2, ?_⟩
              rw [List.map_set]
              rfl
            · refine WLs.inv (fun ps _ σ => I121 first.toNat (tieIn first.toNat (cut1 ranks (left.getD first.toNat 0 + 1)) left ties) order a b (.v (.int (0 + (k : Int)))) (.v (.list (ranks.map pairPV))) (.v (.int first)) ps σ) ?_ ?_ _ _ _ ⟨_, left, ties, _, _, rfl, rfl, hl, ht, fun x hx => hrm x (cut1_mem hx), rfl⟩
              · rintro Z σ ⟨xs, le, ti, l6, l7, hp, he, h1, h2, hx, rfl⟩
                have : xs = [] := by simpa using hp.symm
                subst this
                exact ws_nil ⟨(le, ti), l6, l7, by rw [← he]; rfl, h1, h2, rfl⟩
              · rintro p ps Z σ ⟨xs, le, ti, l6, l7, hp, he, h1, h2, hx, rfl⟩
                cases xs with
                | nil => cases hp
                | cons x xs =>
                  cases hp
                  obtain ⟨lack, other⟩ := x
                  have hob : 0 ≤ other ∧ other ≤ 6 := hx _ (.head _)
                  have hon : other.toNat < 7 := z6n hob
                  refine ⟨_, .pair A6 A7, ?_⟩
                  refine ws_cons (w1_if (b := lack == 0) (tst_cmp ok hA (ev_name ok A6 rfl) ev_int op_eq) ?_)
                  rw [tieIn] at he
                  cases e1 : (lack == (0 : Int)) with
                  | true =>
                    rw [if_pos rfl]
                    rw [if_pos e1] at he
                    refine ws_cons (w1_ret_n (xs := []) (fun _ h => by cases h) (ev_list0 ok hA) (Or.inl ?_))
                    have e : (match tieIn first.toNat (cut1 ranks (left.getD first.toNat 0 + 1)) left ties with | none => [] | some r => tieOut m (r.1.set first.toNat 0) r.2) = tiesF order := hr
                    rw [← he] at e
                    rw [← e]
                    rfl
                  | false =>
                    rw [if_neg (by decide)]
                    rw [if_neg (ne_true_of_eq_false e1)] at he
                    refine ws_nil (ws_cons (w1_aug_item ok hA A1 rfl (ev_name ok A7 rfl) hob.1 (get_mapI PV.int le 0 (z67 hob h1)) (by rw [List.length_map, h1]; decide) ev_int op_isub ?_))
                    refine ws_cons (w1_aug_item ok hA A2 rfl (ev_name ok A5 rfl) hff.1 (get_mapI PV.int ti 0 (z67 hff h2)) (by rw [List.length_map, h2]; decide) (ev_bin ok hA ev_int (ev_name ok A7 rfl) (op_shl hob.1 (z62 hob) (by decide))) op_ior ?_)
                    rw [← List.map_set, ← List.map_set]
                    refine ws_cons (w1_aug_item ok hA A2 rfl (ev_name ok A7 rfl) hob.1 (get_mapI PV.int (ti.set first.toNat (Builtin.bitOr (ti.getD first.toNat 0) (1 * 2 ^ other.toNat))) 0 (z67 hob (by rw [List.length_set]; exact h2))) (by rw [List.length_map, List.length_set, h2]; decide) (ev_bin ok hA ev_int (ev_name ok A5 rfl) (op_shl hff.1 (z62 hff) (by decide))) op_ior ?_)
                    rw [← List.map_set]
                    exact ws_nil ⟨xs, _, _, .v (.int lack), .v (.int other), rfl, he, by rw [List.length_set]; exact h1, by rw [List.length_set, List.length_set]; exact h2, fun x h => hx x (.tail _ h), rfl⟩
end
end Py

set_option maxRecDepth 100000
set_option maxHeartbeats 8000000
namespace Py

section
variable {C : Cx} {A : Around} {Z : Addr → Prop} {σ : List LV} {P : Post}
theorem w1_ret0 {pos : Pos} (h : P (.ret .none) Z σ) : W1 C A Z σ (.Return none pos) P := fun s _ _ S hQ => wpAny_Return_none (hQ (.ret .none) _ _ _ s h S .refl (fun _ e => e) ⟨_, rfl, rfl⟩)
theorem ev_gint {x : Str} {i : Int} {t : Tok} {pos : Pos} (ok : C.Ok) (g : GV C x (.int i t)) : Ev C A Z σ (.Name x pos) .f (.int i) := fun s _ _ S h => g _ _ _ _ _ (ok.mono _ _ ok.w0 S.keep) (h _ _ (.refl s) ⟨t, rfl⟩)
end

section
variable {C : Cx} {P : Params} {mg mb : Str → Option Value} {A : Around} {Z : Addr → Prop} {σ : List LV}
theorem nsCHAR_MAX : nsIn (hd.heap_39 P) mainGlobals "CHAR_MAX" = some (some (.int 127 275)) := by kernel_rfl
theorem gCHAR_MAX {C : Cx} (hW : C.W = WW (hd.heap_39 P) mg mb) (hk : C.env.scope.kind = .function := by rfl) (hx : C.env.kindOf "CHAR_MAX" = some .globalImplicit := by rfl) (hg : C.env.globals = mainGlobals := by rfl) : GV C "CHAR_MAX" (.int 127 275) := gv_K hW nsCHAR_MAX hk hx hg (by decide)

noncomputable def groupGo : Int → List Int → List Int × Bool
  | _, [] => ([], true)
  | last, s :: r => if s == 127 then ([], true) else if s == 0 then (List.replicate 7 last, false) else (s :: (groupGo s r).1, (groupGo s r).2)
theorem groupGo_long : ∀ (ns : List Int) (l : Int), (groupGo l ns).2 = false → 7 ≤ (groupGo l ns).1.length
  | [], _, h => by cases h
  | s :: r, l, h => by
    unfold groupGo at h ⊢
    split at h
    · cases h
    · rename_i h1
      rw [if_neg h1]
      split at h
      · rename_i h2
        rw [if_pos h2]; simp
      · rename_i h2
        rw [if_neg h2]
        have := groupGo_long r s h
        simp only [List.length_cons]; omega
theorem scal3 {a b c : LV} (h1 : ScalL a) (h2 : ScalL b) (h3 : ScalL c) : ScalS [a, b, c] := by
  intro l hl
  simp only [List.mem_cons, List.not_mem_nil, or_false] at hl
  rcases hl with rfl | rfl | rfl
  · exact h1
  · exact h2
  · exact h3

inductive I57 (items : List PV) (ends : Bool) (ps : List PV) (n : Nat) (σ : List LV) : Prop
  | mk (ms : List Int) (last : Int) (pre : List PV) (lp : PV) (l : LV) (hp : ps = ms.map PV.int) (hn : n = (groupGo last ms).1.length) (hi : items = pre ++ (groupGo last ms).1.map .int) (he : (groupGo last ms).2 = ends) (hl : lp = .int last ∨ lp = .none ∧ ∀ s r, ms = s :: r → s ≠ 0) (hc : ScalL l) (hs : σ = [.unb, .v lp, l]) : I57 items ends ps n σ
theorem it57 {t : Expr} {p pos : Pos} {es : List Expr} {ns : List Int} (G : Gd C P mg mb) (ok : C.Ok) (hA : OkA 2 A) (hn : GV C "_grouping_intervals" (.ref 57)) (ha : EvL C A Z σ es [LI ns]) (hh : ∀ s r, ns = s :: r → s ≠ 0) :
    IterE C A Z σ t (.Call (.Name "_grouping_intervals" p) es [] pos) (groupGo 0 ns).2 ((groupGo 0 ns).1.map .int) := by
  generalize hit : (groupGo 0 ns).1.map PV.int = items
  generalize hen : (groupGo 0 ns).2 = ends
  rw [← yv_list items]
  refine gen_iter (pn := ["grouping"]) (locs := ["last_interval", "interval"]) (b := 0) (hclo := ?a1) (hco := ?a2) (hgen := ?a3) ok hA hn (G.obj (show List.lookup 57 (hd.heap_39 P) = some _ from rfl)) rfl rfl (G.code ?a4) ?a5 ?a8 ?a6 rfl ha ?a7
  case a1 => rfl
  case a2 => rfl
  case a3 => rfl
  case a4 => kernel_rfl
  case a5 => kernel_rfl
  case a8 => kernel_rfl
  case a6 => exact len1 fun _ => rfl
  case a7 =>
    intro hb L h0 B0 s hB0 gok fr0
    have ok' := gok.ok
    refine gen_list gok hB0 rfl rfl rfl (by decide) (by decide) fr0 ?_ fun s I l i v Q E hI h A' => letGo_listiter hI h
    refine WG.inv (fun ps n σ => I57 items ends ps n σ) ?_ ?_ _ _ _ ⟨ns, 0, [], .none, .unb, rfl, by rw [← hit, List.length_map], hit.symm, hen, .inr ⟨rfl, hh⟩, .inl rfl, rfl⟩
    · rintro n σ ⟨ms, last, pre, lp, l, hp, rfl, hi, he, hlp, hl, rfl⟩
      have : ms = [] := by simpa using hp.symm
      subst this
      exact sw_nil (fun _ h => h) ⟨.inl rfl, rfl, he.symm⟩
    · rintro p ps n σ ⟨ms, last, pre, lp, l, hp, rfl, hi, he, hlp, hl, rfl⟩
      cases ms with
      | nil => cases hp
      | cons m ms =>
        cases hp
        refine ⟨_, .name A2, fun J hJ => ?_⟩
        have slp : Scal lp := by rcases hlp with rfl | ⟨rfl, _⟩ <;> trivial
        refine sw_if (bb := m == 127) (fun A' hA' => tst_cmp ok' hA' (ev_name ok' A2 rfl) (ev_gint ok' (gCHAR_MAX G.hW)) op_eq) hJ.toJFr ?_ gok
        unfold groupGo at he hi
        cases e0 : (m == (127 : Int)) with
        | true =>
          rw [if_pos e0] at he hi
          rw [if_pos rfl]
          refine sw_plain gok (fun _ h => h) hJ.toJFr fun A' hA' => w1_ret0 ⟨rfl, rfl, ⟨.inr rfl, ?_, he.symm⟩⟩
          unfold groupGo
          rw [if_pos e0]
          rfl
        | false =>
          rw [if_neg (ne_true_of_eq_false e0)] at he hi
          rw [if_neg (by decide)]
          refine sw_nil (fun _ h => h) (sw_if (bb := m == 0) (fun A' hA' => tst_cmp ok' hA' (ev_name ok' A2 rfl) ev_int op_eq) hJ.toJFr ?_ gok)
          cases e1 : (m == (0 : Int)) with
          | true =>
            rw [if_pos e1] at he hi
            rw [if_pos rfl]
            have hlp : lp = .int last := by
              rcases hlp with q | ⟨_, q⟩
              · exact q
              · exact absurd (by simpa using e1) (q m ms rfl)
            subst hlp
            have en : (groupGo last (m :: ms)).1.length = 6 + 1 := by
              unfold groupGo
              rw [if_neg (ne_true_of_eq_false e0), if_pos e1]
              simp
            rw [en]
            refine sw_if (bb := false) (fun A' hA' => tst_cmp ok' hA' (ev_name ok' A1 rfl) ev_none op_is_int_none) hJ.toJFr ?_ gok
            rw [if_neg (by decide)]
            refine sw_nil (fun _ h => h) (sw_while hJ.toJFr (fun A' hA' => tst_val ok' hA' ev_bool tr_bool) fun k hk => ?_)
            refine sw_yield gok hJ (fun A' hA' => ev_name ok' A1 rfl) (.inl trivial) ?_ (scal3 (.inl rfl) (scalV trivial) (scalV trivial)) fun hl => ?_
            · have : items = (pre ++ List.replicate (6 - k) (.int last)) ++ .int last :: List.replicate k (.int last) := by
                rw [hi, List.append_assoc, List.map_replicate]
                congr 1
                rw [← List.replicate_succ, List.replicate_append_replicate, show 6 - k + (k + 1) = 7 by omega]
              have := yv_head this
              rwa [List.length_replicate] at this
            · refine sw_nil (fun _ h => h) ⟨rfl, ?_, rfl, rfl⟩
              rcases hl with q | q
              · exact q
              · rw [← he] at q; cases q
          | false =>
            rw [if_neg (ne_true_of_eq_false e1)] at he hi
            rw [if_neg (by decide)]
            have en : (groupGo last (m :: ms)).1.length = (groupGo m ms).1.length + 1 := by
              conv => lhs; unfold groupGo
              rw [if_neg (ne_true_of_eq_false e0), if_neg (ne_true_of_eq_false e1)]
              rfl
            rw [en]
            refine sw_nil (fun _ h => h) (sw_yield gok hJ (fun A' hA' => ev_name ok' A2 rfl) (.inl trivial) ?_ (scal3 (.inl rfl) (scalV slp) (scalV trivial)) fun _ => ?_)
            · have := yv_head hi
              rwa [List.length_map] at this
            · refine sw_plain gok (fun _ h => h) hJ.toJFr fun A' hA' => w1_assign ok' A1 (ev_name ok' A2 rfl) ⟨rfl, ?_⟩
              exact sw_nil (fun _ h => h) ⟨ms, m, pre ++ [.int m], .int m, .v (.int m), rfl, rfl, by rw [hi]; exact List.append_cons pre _ _, he, .inl rfl, scalV trivial, rfl⟩
end
end Py

set_option maxRecDepth 100000
set_option maxHeartbeats 8000000
namespace Py
section
variable {C : Cx} {P : Params} {mg mb : Str → Option Value}

noncomputable def toldF (row : List Int) : List Int := (groupGo 0 row).1.take 6 ++ List.replicate (6 - ((groupGo 0 row).1.take 6).length) 0

inductive I85 (row : List Int) (a : Addr) (ps : List PV) (σ : List LV) : Prop
  | mk (ms acc : List Int) (l2 : LV) (hp : ps = ms.map PV.int) (hr : (groupGo 0 row).1 = acc ++ ms) (hl : acc.length < 6) (hs : σ = [.v (LI row), .own a (acc.map .int), l2]) : I85 row a ps σ
theorem f85 (G : Gd C P mg mb) {row : List Int} (hh : ∀ s r, row = s :: r → s ≠ 0) : OpN C (2 + 1) (fun vs => call (.ref 85) vs) [LI row] .n (LI (toldF row)) := by
  refine fn_call (pn := ["row"]) (locs := ["told", "size"]) (hclo := ?a1) (hco := ?a2) (hgen := ?a3) G.mono G.lim (G.obj (show List.lookup 85 (hd.heap_39 P) = some _ from rfl)) rfl rfl (G.code ?a4) ?a5 ?a6 rfl ?a7
  case a1 => rfl
  case a2 => rfl
  case a3 => rfl
  case a4 => kernel_rfl
  case a5 => kernel_rfl
  case a6 => exact len1 fun _ => rfl
  case a7 =>
    intro h A hA ok
    refine ws_cons (w1_assign_own (xs := []) ok A1 (ev_list0 ok hA) (fun _ h => by cases h) fun a => ?_)
    refine ws_forE (fun _ σ => ∃ l2, σ = [.v (LI row), .own a (((groupGo 0 row).1.take 6).map .int), l2]) ok hA.h (it57 (C := fnCx C _ h 85 _) (P := P) (mg := mg) (mb := mb) ⟨G.hW, G.hB⟩ ok (hA.le (by decide)) (g_grouping_intervals G.hW) (.cons (ev_name ok A0 rfl) .nil) hh) ?_ ?_
    · rintro Z' σ' ⟨l2, rfl⟩
      have hl6 : ((groupGo 0 row).1.take 6).length ≤ 6 := by rw [List.length_take]; omega
      have e6 : (List.replicate ((6 : Int) - ((((groupGo 0 row).1.take 6).map PV.int).length : Nat)).toNat [PV.int 0]).flatten = (List.replicate (6 - ((groupGo 0 row).1.take 6).length) (0 : Int)).map .int := by
        rw [repl_one, List.map_replicate, List.length_map]
        congr 1
        omega
      have hout : (((groupGo 0 row).1.take 6).map PV.int ++ (List.replicate ((6 : Int) - ((((groupGo 0 row).1.take 6).map PV.int).length : Nat)).toNat [PV.int 0]).flatten) = (toldF row).map .int := by
        rw [e6, ← List.map_append]; rfl
      refine ws_cons (w1_ret_n (scals_ints (toldF row)) (Ev.cast (ev_bin ok hA (ev_own ok A1 rfl) (ev_bin ok hA (ev_list ok hA (.cons ev_int .nil) (show 1 ≤ sizeLine by decide)) (ev_bin ok hA ev_int (ev_call ok hA (g_len G.hW G.hB) (.inl ⟨_, rfl⟩) (.cons (ev_own ok A1 rfl) .nil) (fn_len (by rw [List.length_map]; exact Nat.le_trans hl6 (by decide)))) op_sub) (op_lrep (xs := [.int 0]) (by rw [List.length_map]; omega) (by rw [List.length_map]; omega) ?_)) (op_lcat ?_)) (congrArg PV.list hout)) (.inl rfl))
      · rw [List.length_map]
        show 1 * _ ≤ 2 ^ 24
        omega
      · rw [e6, List.length_map, List.length_map, List.length_replicate]
        exact Nat.le_trans (show _ ≤ 12 by omega) (by decide)
    · refine WLE.inv (fun ps _ σ => I85 row a ps σ) ?_ ?_ _ _ _ ⟨_, [], _, rfl, rfl, by decide, rfl⟩
      · rintro Z σ ⟨ms, acc, l2, hp, hr, hl, rfl⟩
        have : ms = [] := by simpa using hp.symm
        subst this
        rw [List.append_nil] at hr
        refine ⟨?_, ws_nil ⟨l2, by rw [hr, List.take_of_length_le (by omega)]⟩⟩
        cases e : (groupGo 0 row).2 with
        | true => rfl
        | false => have := groupGo_long row 0 e; rw [hr] at this; omega
      · rintro p ps Z σ ⟨ms, acc, l2, hp, hr, hl, rfl⟩
        cases ms with
        | nil => cases hp
        | cons m ms =>
          cases hp
          refine ⟨_, .name A2, ?_⟩
          refine ws_cons (w1_append ok A1 rfl (ev_name ok A2 rfl) ?_ (by rw [List.length_map]; exact Nat.le_trans (show acc.length ≤ 6 by omega) (by decide)))
          have elen : ((acc.map PV.int ++ [PV.int m]).length : Int) = (acc.length + 1 : Nat) := by rw [List.length_append, List.length_map]; rfl
          refine ws_cons (w1_if (b := acc.length + 1 == 6) (Tst.cast (tst_cmp ok hA (ev_call ok hA (g_len G.hW G.hB) (.inl ⟨_, rfl⟩) (.cons (ev_own ok A1 rfl) .nil) (fn_len (by rw [List.length_append, List.length_map]; exact Nat.le_trans (show acc.length + 1 ≤ 7 by omega) (by decide)))) ev_int op_eq) ?_) ?_)
          · rw [elen]
            by_cases h6 : acc.length + 1 = 6
            · rw [h6]; rfl
            · have h1 : (((acc.length + 1 : Nat) : Int) == 6) = false := by simp; omega
              have h2 : (acc.length + 1 == 6) = false := by simp; omega
              rw [h1, h2]
          · cases e6 : (acc.length + 1 == 6) with
            | true =>
              rw [if_pos rfl]
              refine ws_cons (w1_break ⟨.v (.int m), ?_⟩)
              have : acc.length = 5 := by simpa using e6
              rw [hr, show (acc ++ m :: ms).take 6 = acc ++ [m] by rw [List.take_append, List.take_of_length_le (by omega), this]; rfl, List.map_append]
              rfl
            | false =>
              rw [if_neg (by decide)]
              refine ws_nil (ws_nil ⟨ms, acc ++ [m], .v (.int m), rfl, by rw [hr]; exact List.append_cons acc m ms, ?_, by rw [List.map_append]; rfl⟩)
              rw [List.length_append, List.length_singleton]
              have : acc.length + 1 ≠ 6 := by simpa using e6
              omega
end
end Py

set_option maxRecDepth 100000
set_option maxHeartbeats 8000000
namespace Py
section
variable {C : Cx} {P : Params} {mg mb : Str → Option Value}
theorem ve_stop : isSubtype (.type "ValueError") (.type "StopIteration") = pure false := by kernel_rfl
theorem ve_base : isSubtype (.type "ValueError") (.type "BaseException") = pure true := by kernel_rfl
theorem ve_self : isSubtype (.type "ValueError") (.type "ValueError") = pure true := by kernel_rfl
theorem ve_meta : isSubtype (.type ((Manifest.find? "ValueError").elim "type" fun x => x.metatype)) (.type "tuple") = pure false := by kernel_rfl
theorem bt_ValueError : bootBuiltins "ValueError" = some (.type "ValueError") := by kernel_rfl
theorem ns_ValueError : nsIn (hd.heap_39 P) mainGlobals "ValueError" = some none := by kernel_rfl
theorem g_ValueError {C : Cx} (hW : C.W = WW (hd.heap_39 P) mg mb) (hB : ∀ x : Str, x ≠ "__name__" → mb x = bootBuiltins x) (hk : C.env.scope.kind = .function := by rfl) (hx : C.env.kindOf "ValueError" = some .globalImplicit := by rfl) (hg : C.env.globals = mainGlobals := by rfl) (hb : C.env.builtins = builtinsNs := by rfl) : GV C "ValueError" (.type "ValueError") := gv_B hW hB ns_ValueError bt_ValueError (by decide) hk hx hg hb (by decide)

theorem GV.ap {C : Cx} {x : Str} {v : Value} {A : Around} {s : Shared} {Q : Value → Shared → Prop} {E : Value → Shared → Prop} {pos : Pos} (g : GV C x v) (hw : C.W s.heap) (hq : Q v s) : wpAny C.M A (eval (.Name x pos) C.env) Q E s := g _ _ _ _ _ hw hq

theorem Tst.ap {C : Cx} {A : Around} {Z : Addr → Prop} {σ : List LV} {e : Expr} {b : Bool} {s : Shared} {Q : Bool → Shared → Prop} {E : Value → Shared → Prop} (h : Tst C A Z σ e b) (S : St C Z σ s) (k : ∀ s', Ext s s' → Q b s') : wpAny C.M A (isTrue e C.env (eval e C.env)) Q E s := h s Q E S k
theorem npriv_gen {C : Cx} {b : Addr} (hc : C.env.cells = []) (n : b ≠ C.env.locals) : ¬ Priv C noZ b := fun z => by
  rcases z with z | z | ⟨y, hy, _⟩
  · exact z
  · exact n z
  · rw [hc] at hy; cases hy
/-- step over one plain statement -/
theorem step1 {C : Cx} {A : Around} {Z : Addr → Prop} {σ : List LV} {st : Stmt} {rest : List Stmt} {Q : Flow → Shared → Prop} {E : Value → Shared → Prop} {s : Shared} {Z' : Addr → Prop} {σ' : List LV} (S : St C Z σ s) (h : W1 C A Z σ st fun fl Z₁ σ₁ => fl = .next ∧ Z₁ = Z' ∧ σ₁ = σ')
    (k : ∀ s', St C Z' σ' s' → Frame C Z s Z' s' → Lv s s' → wpAny C.M A (execs rest C.env) Q E s') : wpAny C.M A (execs (st :: rest) C.env) Q E s := by
  refine wpAny_execs_cons (h s _ E S fun fl f Z₁ σ₁ s' hp S' F L hf => ?_)
  obtain ⟨rfl, rfl, rfl⟩ := hp
  have hf : f = .next := hf
  subst hf
  exact k s' S' F L

theorem tst92 {A : Around} {Z : Addr → Prop} {σ : List LV} {es : List Expr} {p pos : Pos} {row : List Int} (G : Gd C P mg mb) (ok : C.Ok) (hA : OkA 6 A) (hfr : A.frames = some [C.env]) (hLF : C.env.frame = some C.env.locals) (ha : EvL C A Z σ es [LI (0 :: row)]) (gn : GV C "_law_refused" (.ref 92))
    (s : Shared) (Q : Bool → Shared → Prop) (E : Value → Shared → Prop) (S : St C Z σ s) (hQ : ∀ s', St C Z σ s' → Frame C Z s Z s' → Lv s s' → Q true s') : wpAny C.M A (isTrue (.Call (.Name "_law_refused" p) es [] pos) C.env (eval (.Call (.Name "_law_refused" p) es [] pos) C.env)) Q E s := by
  have W : ∀ {s'}, St C Z σ s' → C.W s'.heap := fun S' => ok.mono _ _ ok.w0 S'.keep
  have hobj : ∀ h, C.W h → h.get? 92 = some _ := G.obj (show List.lookup 92 (hd.heap_39 P) = some _ from rfl)
  refine wpAny_isTrue_value (wpAny_Call_NameR (gn _ _ _ _ _ (W S) ?_)) (by rfl)
  refine callWith_function (evArgsL ha S fun vs s1 X r1 => ⟨⟨hobj _ (W (S.ext X)), rfl⟩, ?_⟩)
  have S1 := S.ext X
  have H := S1.here ok hA
  have r1b : RepBs s1.heap Z [LI (0 :: row)] vs := by
    simp only [Reps] at r1
    obtain ⟨v, _, rfl, rv, rfl⟩ := r1
    exact ⟨v, [], rfl, Rep.b rv, rfl⟩
  refine fn_callR (pn := ["row"]) (locs := ["size"]) (ps := [LI (0 :: row)]) (n := 5) (hclo := ?a1) (hco := ?a2) (hgen := ?a3) G.mono G.lim hobj rfl rfl (G.code ?a4) ?a5 ?a6 rfl H r1b ?a7
  case a1 => rfl
  case a2 => rfl
  case a3 => rfl
  case a4 => kernel_rfl
  case a5 => kernel_rfl
  case a6 => exact len1 fun _ => rfl
  case a7 =>
    intro s₁ E' ok1 hA1 T1 k1 o1
    obtain ⟨mC, ⟨oC, esC, epC, hoC, hdC, rC⟩, VC⟩ := S1.vars
    have ltC : C.env.locals ≠ s1.heap.objs.size := Nat.ne_of_lt (Heap.lt_size hoC)
    refine wpAny_execs_cons (wpAny_Try_except (wpAny_execs_cons (for_raise (pn := ["grouping"]) (locs := ["last_interval", "interval"]) (C := fnCx C _ s1.heap 92 _) (cls := "ValueError") (b := 3) (hclo := ?b1) (hco := ?b2) (hgen := ?b3) (hf := ?b9) ok1 hA1 (g_grouping_intervals G.hW) (G.obj (show List.lookup 57 (hd.heap_39 P) = some _ from rfl)) rfl rfl (G.code ?b4) ?b5 ?b6 ?b7 rfl (.cons (ev_name ok1 A0 rfl) .nil) T1 (Around.frames_deeper hfr) rfl ?hout ve_stop ?hrun ?hE)))
    case b1 => rfl
    case b2 => rfl
    case b3 => rfl
    case b4 => kernel_rfl
    case b5 => kernel_rfl
    case b6 => kernel_rfl
    case b7 => exact len1 fun _ => rfl
    case b9 => intro _; rfl
    case hout =>
      intro env he
      rw [List.mem_singleton.mp he]
      exact ⟨by rw [ok.fk]; decide, _, hLF, oC, hoC, fun vs q => by rw [hdC] at q; cases q⟩
    case hE =>
      intro e base s' F hb live O
      have Wb : C.W base := ok.mono _ _ ok.w0 fun b o q => hb b o (k1 b o (S1.keep b o q)) fun z => by
        have z' : b = s1.heap.objs.size ∨ b = C.env.locals := by
          have : b ∈ [s1.heap.objs.size, C.env.locals] := by
            rw [List.filterMap_cons, List.filterMap_cons, hLF] at z
            exact z
          simpa using this
        rcases z' with rfl | rfl
        · have := S1.keep _ o q
          rw [size_none] at this; cases this
        · rw [ok.newL] at q; cases q
      refine fly_caught (Around.frames_deeper hfr) rfl F (fun A s Q E pos hs hq => GV.ap (C := fnCx C _ s1.heap 92 []) (g_ValueError G.hW G.hB) (ok.mono _ _ Wb hs) hq) ve_base ve_meta ve_self fun h' F' => ?_
      refine wpAny_truthy_bool ?_
      have kk : ∀ b o, s.heap.get? b = some o → b ≠ C.env.locals → h'.get? b = some o := fun b o q n => F'.st b o (hb b o (k1 b o (X.kp b o q)) fun z => by
        have z' : b = s1.heap.objs.size ∨ b = C.env.locals := by
          have : b ∈ [s1.heap.objs.size, C.env.locals] := by
            rw [List.filterMap_cons, List.filterMap_cons, hLF] at z
            exact z
          simpa using this
        rcases z' with rfl | z'
        · have := X.kp _ o q
          rw [size_none] at this; cases this
        · exact n z')
      have uu : UpTo s.heap h' := fun b o q n => F'.up b o (k1 b o (X.kp b o q)) n
      have oo : Oth s { s' with heap := h' } := by
        have := (X.oth.trans o1).trans O
        exact ⟨this.gk, this.dr, this.os⟩
      refine hQ { s' with heap := h' } (S.slots (s' := { s' with heap := h' }) ok kk uu) (Frame.slots kk oo) fun b q => ?_
      cases q' : s.heap.get? b with
      | none => rfl
      | some o =>
        by_cases hbl : b = C.env.locals
        · obtain ⟨mm, ⟨o', _, _, e', _⟩, _⟩ := (S.slots (s' := { s' with heap := h' }) ok kk uu).vars
          rw [hbl] at q
          rw [q] at e'; cases e'
        · rw [kk b o q' hbl] at q; cases q
    case hrun =>
      intro L h0 base hU l B0 s2 Er hA0 ok2 T2 hfr2 ff st up hUL hk
      refine step1 T2 (w1_assign ok2 A1 ev_none ⟨rfl, rfl, rfl⟩) fun s3 T3 F3 L3 => ?_
      refine wpAny_execs_cons (for_first (p := .int 0) (ps := row.map .int) ok2 hA0.h (iter_list ok2 hA0.h (ev_name ok2 A0 rfl) (fun q => by cases q)) (.name A2) T3 (fun s6 Q6 T6 F6 L6 => ?_) (by intro _; rfl))
      refine step1 T6 (w1_if (b := (0 : Int) == 127) (tst_cmp ok2 hA0 (ev_name ok2 A2 rfl) (ev_gint ok2 (gCHAR_MAX G.hW)) op_eq) (by rw [if_neg (by decide)]; exact ws_nil ⟨rfl, rfl, rfl⟩)) fun s7 T7 F7 L7 => ?_
      refine wpAny_execs_cons (wpAny_If (Tst.ap (b := (0 : Int) == 0) (tst_cmp ok2 hA0 (ev_name ok2 A2 rfl) ev_int op_eq) T7 fun s8 X8 => ?_))
      rw [if_pos (by decide)]
      refine wpAny_execs_cons (wpAny_If (Tst.ap (tst_cmp ok2 hA0 (ev_name ok2 A1 rfl) ev_none op_is_none_none) (T7.ext X8) fun s9 X9 => ?_))
      rw [if_pos rfl]
      have T9 := (T7.ext X8).ext X9
      refine wpAny_execs_cons (raise_text F.excCall_ValueError F.excRaise_ValueError hA0.h (fun Q hq => GV.ap (C := gCx C _ L h0 57 []) (g_ValueError G.hW G.hB) (ok2.mono _ _ ok2.w0 T9.keep) hq) (fun tk h' e hm => ?_))
      have bL : base.get? L = none := by
        obtain ⟨L', o', e1, e2, _⟩ := ff.2.1
        cases e1; exact e2
      obtain ⟨m9, ⟨o9, es9, ep9, h9, d9, r9⟩, _⟩ := T9.vars
      have kk9 : ∀ b o, b ≠ L → s2.heap.get? b = some o → s9.heap.get? b = some o := by
        intro b o n q
        exact X9.kp b o (X8.kp b o (F7.kp b o (F6.kp b o (F3.kp b o q (npriv_gen rfl n)) (npriv_gen rfl n)) (npriv_gen rfl n)))
      have o29 : Oth s2 s9 := (((F3.oth.trans F6.oth).trans F7.oth).trans X8.oth).trans X9.oth
      refine fly_own hfr2 rfl (Fly.made (h0 := hU) hm.newExc (fun b o q => kk9 b o (fun z => by rw [z, bL] at q; cases q) (st b o q)) (FunFrames.of' (fun b o q nf => ?_) ff) (fun b o q nf => ?_)) fun h'' F' => hk e _ F' ?_
      · by_cases hb : b = L
        · rw [hb]; exact ⟨o9, h9, fun vs z => by rw [d9] at z; cases z⟩
        · exact ⟨o, kk9 b o hb q, nf⟩
      · obtain ⟨sl, q'⟩ := up b o q nf
        exact ⟨sl, kk9 b _ (fun z => by rw [z, hUL] at q; cases q) q'⟩
      · exact ⟨o29.gk, o29.dr, o29.os⟩
end
end Py

set_option maxRecDepth 100000
set_option maxHeartbeats 8000000
namespace Py

noncomputable def dec : Nat → Nat → List (List Int)
  | 0, _ => [[]]
  | n + 1, m => (List.range (m + 1)).flatMap fun i => (dec n i).map fun l => (i : Int) :: l
theorem mem_dec : ∀ (n m : Nat) (l : List Int), l.length = n → l.Pairwise (· ≥ ·) → (∀ x ∈ l, 0 ≤ x ∧ x ≤ m) → l ∈ dec n m
  | 0, _, l, h, _, _ => by rw [List.length_eq_zero_iff.mp h]; exact .head _
  | n + 1, m, [], h, _, _ => by cases h
  | n + 1, m, x :: l, h, hp, hb => by
    have hx := hb x (.head _)
    have hp' := List.pairwise_cons.mp hp
    refine List.mem_flatMap.mpr ⟨x.toNat, List.mem_range.mpr (by omega), List.mem_map.mpr ⟨l, mem_dec n _ l (by simpa using h) hp'.2 fun y hy => ?_, ?_⟩⟩
    · have := hp'.1 y hy
      have := hb y (.tail _ hy)
      omega
    · rw [Int.toNat_of_nonneg hx.1]

/-- how many of the seven name the j-th -/
noncomputable def cnt (order : List Int) (j : Nat) : Nat := ((List.range 7).filter fun k => (maskN k (order.getD k 0).toNat).testBit j).length
noncomputable def cnts (order : List Int) : List Int := (List.range 7).map fun j => ((cnt order j : Nat) : Int)
noncomputable def balG : List (Int × Int) → Int → Bool
  | [], d => d == 0
  | (c, o) :: r, d => if d + c - o < 0 then false else balG r (d + c - o)
noncomputable def check1 (order : List Int) : Bool :=
  if tiesF order == [] then !balG ((cnts order).zip order) 0
  else (tiesF order).length == 7 && (tiesF order).all (fun m => decide (0 ≤ m) && decide (m < 128)) && (List.range 7).all fun p => balG (((cnts order).zip order).take (p + 1)) 0 == allSeen (tiesF order) ((p : Int) + 1)

noncomputable def O396 : List (List Int) := (dec 7 5).filter fun l => l.sum % 2 == 0
theorem ck_0 : ((O396.drop 0).take 33).all check1 = true := by decide +kernel
theorem ck_1 : ((O396.drop 33).take 33).all check1 = true := by decide +kernel
theorem ck_2 : ((O396.drop 66).take 33).all check1 = true := by decide +kernel
theorem ck_3 : ((O396.drop 99).take 33).all check1 = true := by decide +kernel
theorem ck_4 : ((O396.drop 132).take 33).all check1 = true := by decide +kernel
theorem ck_5 : ((O396.drop 165).take 33).all check1 = true := by decide +kernel
theorem ck_6 : ((O396.drop 198).take 33).all check1 = true := by decide +kernel
theorem ck_7 : ((O396.drop 231).take 33).all check1 = true := by decide +kernel
theorem ck_8 : ((O396.drop 264).take 33).all check1 = true := by decide +kernel
theorem ck_9 : ((O396.drop 297).take 33).all check1 = true := by decide +kernel
theorem ck_a : ((O396.drop 330).take 33).all check1 = true := by decide +kernel
theorem ck_b : (O396.drop 363).all check1 = true := by decide +kernel
theorem all_cut {α : Type} {p : α → Bool} {l : List α} {n k : Nat} (h1 : ((l.drop n).take k).all p = true) (h2 : (l.drop (n + k)).all p = true) : (l.drop n).all p = true := by
  rw [← List.take_append_drop k (l.drop n), List.all_append, h1, List.drop_drop, h2]; rfl
theorem check_all {o : List Int} (h : o ∈ dec 7 5) (he : o.sum % 2 = 0) : check1 o = true := by
  have := all_cut ck_0 (all_cut ck_1 (all_cut ck_2 (all_cut ck_3 (all_cut ck_4 (all_cut ck_5 (all_cut ck_6 (all_cut ck_7 (all_cut ck_8 (all_cut ck_9 (all_cut ck_a ck_b))))))))))
  rw [List.drop_zero] at this
  exact List.all_eq_true.mp this o (List.mem_filter.mpr ⟨h, by rw [he]; rfl⟩)
end Py

set_option maxRecDepth 100000
set_option maxHeartbeats 8000000
namespace Py

-- pretty_flags names the set bits
noncomputable def pgOk (f : Nat) : Bool := (List.range 7).all fun j => (Txt.split (pfText f) ", ").any (· == names7.getD j Str.empty) == f.testBit j
noncomputable def pgL : List Nat := [0, 1, 3, 7, 15, 31, 63, 2, 6, 14, 30, 62, 5, 13, 29, 61, 11, 27, 59, 23, 55, 47]
theorem pg_0 : (pgL.take 8).all pgOk = true := by decide +kernel
theorem pg_1 : ((pgL.drop 8).take 7).all pgOk = true := by decide +kernel
theorem pg_2 : ((pgL.drop 8).drop 7).all pgOk = true := by decide +kernel
theorem pg_in : (List.range 7).all (fun k => (List.range 6).all fun o => pgL.contains (maskN k o)) = true := by decide +kernel
theorem page_any {k o j : Nat} (hk : k < 7) (ho : o < 6) (hj : j < 7) : (Txt.split (pfText (maskN k o)) ", ").any (· == names7.getD j Str.empty) = (maskN k o).testBit j := by
  have h0 : pgL.all pgOk = true := by
    rw [← List.take_append_drop 8 pgL, List.all_append, pg_0, ← List.take_append_drop 7 (pgL.drop 8), List.all_append, pg_1, pg_2]; rfl
  have h1 := List.all_eq_true.mp (List.all_eq_true.mp pg_in k (List.mem_range.mpr hk)) o (List.mem_range.mpr ho)
  have h := List.all_eq_true.mp h0 (maskN k o) (by simpa using h1)
  have := List.all_eq_true.mp h j (List.mem_range.mpr hj)
  simpa using this
noncomputable def pwOk (f : Nat) : Bool := pfGo 32 0 f [] == (if wordsL (f : Int) != [] then wordsL (f : Int) else ["0x0"])
theorem pw_0 : (List.range 64).all pwOk = true := by decide +kernel
theorem pw_1 : (List.range 64).all (fun m => pwOk (64 + m)) = true := by decide +kernel
theorem pf_words {m : Nat} (h : m < 128) : pfText m = lawWords (m : Int) := by
  have h1 : pwOk m = true := by
    by_cases h' : m < 64
    · exact List.all_eq_true.mp pw_0 m (List.mem_range.mpr h')
    · have := List.all_eq_true.mp pw_1 (m - 64) (List.mem_range.mpr (by omega))
      have e : 64 + (m - 64) = m := by omega
      rwa [e] at this
  have h2 : pfGo 32 0 m [] = (if wordsL (m : Int) != [] then wordsL (m : Int) else ["0x0"]) := by simpa [pwOk] using h1
  unfold pfText lawWords
  rw [h2]
  split
  · rfl
  · decide

theorem names7_range : names7 = (List.range 7).map fun j => names7.getD j Str.empty := by decide
theorem counts_eq {order : List Int} (h : ∀ k, 0 ≤ order.getD k 0 ∧ order.getD k 0 ≤ 5) : countsF order = cnts order := by
  unfold countsF cnts
  rw [names7_range, List.map_map]
  refine List.map_congr_left fun j hj => ?_
  have hj7 := List.mem_range.mp hj
  show countIn (pagesF order) (names7.getD j Str.empty) = _
  unfold countIn cnt pagesF
  rw [List.filter_map, List.length_map]
  congr 2
  refine List.filter_congr fun k hk => ?_
  have := h k
  exact page_any (List.mem_range.mp hk) (by omega) hj7
theorem cnts_bound (order : List Int) : (cnts order).length = 7 ∧ ∀ x ∈ cnts order, 0 ≤ x ∧ x ≤ 7 := by
  unfold cnts
  refine ⟨by simp, fun x hx => ?_⟩
  obtain ⟨j, _, rfl⟩ := List.mem_map.mp hx
  have : cnt order j ≤ 7 := by
    unfold cnt
    exact Nat.le_trans (List.length_filter_le _ _) (by simp)
  omega

-- the texts as tokens
noncomputable def shTk (dress : Int) (k : Nat) : List Tk := match (dress / 4 ^ k % 4).toNat with
  | 1 => [.s1]
  | 2 => [.s2]
  | 3 => [.s3]
  | _ => []
theorem encs_app (a b : List Tk) : encs (a ++ b) = encs a ++ encs b := by unfold encs; rw [List.flatMap_append]
theorem encs_rep (t : Tk) (c : Nat) (h : t.enc = [c]) (n : Nat) : encs (List.replicate n t) = List.replicate n c := by
  induction n with
  | zero => rfl
  | succ n ih =>
    rw [List.replicate_succ, List.replicate_succ]
    show t.enc ++ encs (List.replicate n t) = _
    rw [h, ih]; rfl
theorem shield_enc (dress : Int) (k : Nat) : (shieldOf dress k).cps.toList = encs (shTk dress k) := by
  unfold shieldOf shTk
  have h : (dress / 4 ^ k % 4).toNat < 4 := by omega
  generalize (dress / 4 ^ k % 4).toNat = j at h
  match j, h with
  | 0, _ | 1, _ | 2, _ | 3, _ => decide
noncomputable def frTk (order counts : List Int) (dress : Int) (k : Nat) : List Tk :=
  (if k % 2 == 1 then shTk dress k else []) ++ (List.replicate (counts.getD k 0).toNat .op ++ List.replicate (order.getD k 0).toNat .cl)
theorem step_enc {order counts : List Int} {dress : Int} {k : Nat} {text : Str} {T : List Tk} (h : text.cps.toList = encs T) :
    (frontStep order counts dress k text).cps.toList = encs (T ++ frTk order counts dress k) := by
  unfold frontStep frTk
  rw [cps_append, cps_append, cps_mul_one (c := 40) (by decide), cps_mul_one (c := 41) (by decide), encs_app, encs_app, encs_app, encs_rep .op 40 rfl, encs_rep .cl 41 rfl, ← List.append_assoc]
  split
  · rw [cps_append, h, shield_enc]
    simp only [List.append_assoc]
  · rw [h]
    simp [encs]
theorem fronts_enc (order counts : List Int) (dress : Int) : ∀ (m k : Nat) (text : Str) (acc : List Str) (T : List Tk), text.cps.toList = encs T →
    ∃ L, frontsGo order counts dress m k text acc = acc ++ L ∧ L.length = m ∧ ∀ i, i < m → (L.getD i Str.empty).cps.toList = encs (T ++ (List.range' k (i + 1)).flatMap (frTk order counts dress))
  | 0, _, _, _, _, _ => ⟨[], by simp [frontsGo], rfl, fun _ h => absurd h (Nat.not_lt_zero _)⟩
  | m + 1, k, text, acc, T, h => by
    have h1 := step_enc (order := order) (counts := counts) (dress := dress) (k := k) h
    obtain ⟨L, e, hl, hL⟩ := fronts_enc order counts dress m (k + 1) _ (acc ++ [frontStep order counts dress k text]) _ h1
    refine ⟨frontStep order counts dress k text :: L, ?_, by simp [hl], fun i hi => ?_⟩
    · unfold frontsGo
      rw [e, List.append_assoc]; rfl
    · cases i with
      | zero =>
        show (frontStep order counts dress k text).cps.toList = _
        rw [h1]
        simp [List.range'_succ]
      | succ i =>
        show (L.getD i Str.empty).cps.toList = _
        rw [hL i (by omega), List.range'_succ (n := i + 1), List.flatMap_cons, List.append_assoc]

theorem bal_sh {o : Int} {r : List Tk} (dress : Int) (k : Nat) : balT (shTk dress k ++ r) o = balT r o := by
  unfold shTk
  split <;> rfl
theorem bal_op {r : List Tk} : ∀ (n : Nat) (o : Int), balT (List.replicate n .op ++ r) o = balT r (o + n)
  | 0, o => by simp
  | n + 1, o => by
    rw [List.replicate_succ, List.cons_append]
    show balT _ (o + 1) = _
    rw [bal_op n]
    congr 1
    omega
theorem bal_cl {r : List Tk} : ∀ (n : Nat) (o : Int), 0 ≤ o → balT (List.replicate n .cl ++ r) o = if o - n < 0 then false else balT r (o - n)
  | 0, o, h => by
    rw [if_neg (by simp; omega)]
    simp
  | n + 1, o, h => by
    rw [List.replicate_succ, List.cons_append]
    show (if o - 1 < 0 then false else balT (List.replicate n .cl ++ r) (o - 1)) = _
    by_cases h1 : o - 1 < 0
    · rw [if_pos h1, if_pos (by omega)]
    · rw [if_neg h1, bal_cl n (o - 1) (by omega)]
      have e : o - 1 - (n : Int) = o - ((n + 1 : Nat) : Int) := by omega
      rw [e]
theorem bal_one {order counts : List Int} {dress : Int} {k : Nat} {r : List Tk} {d : Int} (hd : 0 ≤ d) (hc : 0 ≤ counts.getD k 0) (ho : 0 ≤ order.getD k 0) :
    balT (frTk order counts dress k ++ r) d = if d + counts.getD k 0 - order.getD k 0 < 0 then false else balT r (d + counts.getD k 0 - order.getD k 0) := by
  unfold frTk
  have e : ∀ x : List Tk, balT ((if (k % 2 == 1) = true then shTk dress k else []) ++ x) d = balT x d := by
    intro x
    split
    · exact bal_sh dress k
    · rfl
  rw [List.append_assoc, e, List.append_assoc, bal_op, bal_cl _ _ (by omega), Int.toNat_of_nonneg hc, Int.toNat_of_nonneg ho]
theorem getD_mem {l : List Int} {k : Nat} (h : k < l.length) : l.getD k 0 ∈ l := by
  rw [List.getD_eq_getElem?_getD, List.getElem?_eq_getElem h]; exact List.getElem_mem _
theorem bal_all {order counts : List Int} {dress : Int} (ho : order.length = 7) (hc : counts.length = 7) (h1 : ∀ x ∈ order, 0 ≤ x) (h2 : ∀ x ∈ counts, 0 ≤ x) : ∀ (n k : Nat) (d : Int), k + n ≤ 7 → 0 ≤ d →
    balT ((List.range' k n).flatMap (frTk order counts dress)) d = balG (((counts.zip order).drop k).take n) d
  | 0, _, _, _, _ => by simp [balT, balG]
  | n + 1, k, d, hk, hd => by
    have hkc : k < counts.length := by omega
    have hko : k < order.length := by omega
    have hkz : k < (counts.zip order).length := by rw [List.length_zip]; omega
    rw [List.range'_succ, List.flatMap_cons, bal_one hd (h2 _ (getD_mem hkc)) (h1 _ (getD_mem hko)), List.drop_eq_getElem_cons hkz, List.take_succ_cons]
    have ez : (counts.zip order)[k] = (counts.getD k 0, order.getD k 0) := by
      rw [List.getElem_zip]
      simp [List.getD_eq_getElem?_getD, List.getElem?_eq_getElem hkc, List.getElem?_eq_getElem hko]
    rw [ez]
    show _ = if d + counts.getD k 0 - order.getD k 0 < 0 then false else balG _ _
    split
    · rfl
    · rename_i hn
      exact bal_all ho hc h1 h2 n (k + 1) _ (by omega) (by omega)

theorem enc_le (t : Tk) : t.enc.length ≤ 5 := by cases t <;> decide
theorem encs_le : ∀ ts : List Tk, (encs ts).length ≤ 5 * ts.length
  | [] => Nat.le_refl _
  | t :: r => by
    show (t.enc ++ encs r).length ≤ _
    have := encs_le r
    have := enc_le t
    rw [List.length_append, List.length_cons]; omega
theorem shTk_le (dress : Int) (k : Nat) : (shTk dress k).length ≤ 1 := by
  unfold shTk
  split <;> decide
theorem frTk_le {order counts : List Int} {dress : Int} {k : Nat} (hc : counts.getD k 0 ≤ 7) (ho : order.getD k 0 ≤ 6) : (frTk order counts dress k).length ≤ 14 := by
  unfold frTk
  rw [List.length_append, List.length_append, List.length_replicate, List.length_replicate]
  have : (if (k % 2 == 1) = true then shTk dress k else []).length ≤ 1 := by
    split
    · exact shTk_le dress k
    · exact Nat.zero_le _
  omega
theorem flat_le {f : Nat → List Tk} : ∀ (l : List Nat), (∀ k ∈ l, (f k).length ≤ 14) → (l.flatMap f).length ≤ 14 * l.length
  | [], _ => Nat.le_refl _
  | k :: r, h => by
    have := flat_le r fun x hx => h x (.tail _ hx)
    have := h k (.head _)
    rw [List.flatMap_cons, List.length_append, List.length_cons]; omega

/-- the fronts: what is kept of them -/
theorem fronts_facts {order counts : List Int} {dress : Int} (ho : order.length = 7) (hc : counts.length = 7) (h1 : ∀ x ∈ order, 0 ≤ x ∧ x ≤ 6) (h2 : ∀ x ∈ counts, 0 ≤ x ∧ x ≤ 7) :
    (frontsF order counts dress).length = 7 ∧ ∀ i, i < 7 → ((frontsF order counts dress).getD i Str.empty).length ≤ 2 ^ 10 ∧ parens ((frontsF order counts dress).getD i Str.empty) = balG ((counts.zip order).take (i + 1)) 0 := by
  obtain ⟨L, e, hl, hL⟩ := fronts_enc order counts dress 7 0 "" [] [] (by decide)
  have e' : frontsF order counts dress = L := e
  rw [e']
  refine ⟨hl, fun i hi => ?_⟩
  have hi' := hL i hi
  rw [List.nil_append] at hi'
  refine ⟨?_, ?_⟩
  · rw [cps_len, hi']
    have h3 := flat_le (f := frTk order counts dress) (List.range' 0 (i + 1)) fun k hk => by
      have hk7 : k < 7 := by have := List.mem_range'_1.mp hk; omega
      exact frTk_le (h2 _ (getD_mem (by omega))).2 (h1 _ (getD_mem (by omega))).2
    have h4 := encs_le ((List.range' 0 (i + 1)).flatMap (frTk order counts dress))
    rw [List.length_range'] at h3
    omega
  · rw [parens_enc hi', bal_all ho hc (fun x h => (h1 x h).1) (fun x h => (h2 x h).1) (i + 1) 0 0 (by omega) (by omega), List.drop_zero]
end Py

set_option maxRecDepth 100000
set_option maxHeartbeats 8000000
namespace Py

theorem pad_take (X : List Int) : X.take 6 ++ List.replicate (6 - (X.take 6).length) 0 = (X ++ List.replicate 6 0).take 6 := by
  rw [List.take_append, List.length_take, List.take_replicate]
  congr 2
  omega
theorem take_rep (acc z : List Int) (l : Int) (n : Nat) (h : 6 ≤ n) : (acc ++ List.replicate n l ++ z).take 6 = acc.take 6 ++ List.replicate (6 - acc.length) l := by
  rw [List.append_assoc, List.take_append, List.take_append, List.take_replicate, List.length_replicate, show min (6 - acc.length) n = 6 - acc.length by omega, show 6 - acc.length - n = 0 by omega, List.take_zero, List.append_nil]
theorem wants_told : ∀ (r acc : List Int), (wantsGo r acc ++ List.replicate 6 0).take 6 = (acc ++ (groupGo (acc.getLastD 0) r).1 ++ List.replicate 6 0).take 6
  | [], acc => by
    unfold wantsGo groupGo
    rw [List.append_nil]
  | s :: r, acc => by
    unfold wantsGo groupGo
    split
    · rw [List.append_nil]
    · split
      · show (acc ++ List.replicate 6 (acc.getLastD 0) ++ List.replicate 6 0).take 6 = (acc ++ List.replicate 7 (acc.getLastD 0) ++ List.replicate 6 0).take 6
        rw [take_rep acc _ _ 6 (by decide), take_rep acc _ _ 7 (by decide)]
      · have := wants_told r (acc ++ [s])
        rw [this]
        have e : (acc ++ [s]).getLastD 0 = s := by simp
        rw [e]
        simp
theorem told_wants (row : List Int) : toldF row = wantsF row := by
  unfold toldF wantsF
  rw [pad_take, wants_told row []]
  rfl
theorem wantsGo_mem : ∀ (r acc : List Int) (y : Int), y ∈ wantsGo r acc → y ∈ acc ∨ y = 0 ∨ (y ∈ r ∧ y ≠ 127)
  | [], acc, y, h => .inl h
  | s :: r, acc, y, h => by
    unfold wantsGo at h
    split at h
    · exact .inl h
    · rename_i h1
      split at h
      · rcases List.mem_append.mp h with h | h
        · exact .inl h
        · have := (List.mem_replicate.mp h).2
          cases acc with
          | nil => exact .inr (.inl this)
          | cons a b => exact .inl (by rw [this]; simp [List.getLastD_cons, List.getLastD_eq_getLast?, List.getLast?_eq_some_getLast, List.getLast_mem])
      · rcases wantsGo_mem r (acc ++ [s]) y h with h | h | h
        · rcases List.mem_append.mp h with h | h
          · exact .inl h
          · have := List.mem_singleton.mp h
            subst this
            exact .inr (.inr ⟨.head _, by simpa using h1⟩)
        · exact .inr (.inl h)
        · exact .inr (.inr ⟨.tail _ h.1, h.2⟩)
theorem rowOne_bound (c : Int) : rowOne c = 127 ∨ 0 ≤ rowOne c ∧ rowOne c ≤ 5 := by
  unfold rowOne
  split
  · right; omega
  · split
    · left; rfl
    · right; omega
theorem rowF_mem {cs : List Int} {x : Int} (h : x ∈ rowF cs) : x = 127 ∨ 0 ≤ x ∧ x ≤ 5 := by
  unfold rowF at h
  rcases List.mem_cons.mp h with rfl | h
  · right; omega
  · obtain ⟨c, _, rfl⟩ := List.mem_map.mp h
    exact rowOne_bound c
theorem rowF_head {cs : List Int} {s : Int} {r : List Int} (h : rowF cs = s :: r) : s ≠ 0 := by
  unfold rowF at h
  cases h
  omega
theorem rowF_len {cs : List Int} (h : cs.length = 7) : (rowF cs).length = 6 := by
  unfold rowF
  simp [h]
theorem wantsF_len (row : List Int) : (wantsF row).length = 6 := by
  unfold wantsF
  rw [List.length_take, List.length_append, List.length_replicate]
  omega
theorem wantsF_bound {cs : List Int} : ∀ x ∈ wantsF (rowF cs), 0 ≤ x ∧ x ≤ 5 := by
  intro x hx
  unfold wantsF at hx
  rcases List.mem_append.mp (List.mem_of_mem_take hx) with h | h
  · rcases wantsGo_mem _ _ _ h with h | h | ⟨h, h'⟩
    · cases h
    · omega
    · rcases rowF_mem h with q | q
      · exact absurd q h'
      · exact q
  · have := (List.mem_replicate.mp h).2
    omega
noncomputable def orderF (wants : List Int) : List Int := (srt (wants ++ [wants.sum % 2])).reverse
theorem perm_sum {a b : List Int} (h : a.Perm b) : a.sum = b.sum := by
  induction h with
  | nil => rfl
  | cons x _ ih => rw [List.sum_cons, List.sum_cons, ih]
  | swap x y l => simp only [List.sum_cons]; omega
  | trans _ _ h1 h2 => exact h1.trans h2
theorem orderF_perm (wants : List Int) : (orderF wants).Perm (wants ++ [wants.sum % 2]) := (List.reverse_perm _).trans (srt_perm _)
theorem orderF_facts {wants : List Int} (hl : wants.length = 6) (hb : ∀ x ∈ wants, 0 ≤ x ∧ x ≤ 5) : (orderF wants).length = 7 ∧ (∀ x ∈ orderF wants, 0 ≤ x ∧ x ≤ 5) ∧ orderF wants ∈ dec 7 5 ∧ (orderF wants).sum % 2 = 0 := by
  have hp := orderF_perm wants
  have h1 : (orderF wants).length = 7 := by rw [hp.length_eq, List.length_append, hl]; rfl
  have h2 : ∀ x ∈ orderF wants, 0 ≤ x ∧ x ≤ 5 := fun x hx => by
    rcases List.mem_append.mp (hp.mem_iff.mp hx) with h | h
    · exact hb x h
    · have := List.mem_singleton.mp h
      omega
  refine ⟨h1, h2, mem_dec 7 5 _ h1 ?_ h2, ?_⟩
  · unfold orderF
    rw [List.pairwise_reverse]
    exact (srt_sorted _).imp fun h => h
  · rw [perm_sum hp, List.sum_append]
    simp only [List.sum_cons, List.sum_nil]
    omega
theorem getD_bound {l : List Int} {n : Int} (hn : 0 ≤ n) (h : ∀ x ∈ l, 0 ≤ x ∧ x ≤ n) (k : Nat) : 0 ≤ l.getD k 0 ∧ l.getD k 0 ≤ n := by
  by_cases hk : k < l.length
  · exact h _ (getD_mem hk)
  · rw [List.getD_eq_getElem?_getD, List.getElem?_eq_none (by omega)]
    exact ⟨Int.le_refl 0, hn⟩
theorem cellsGo_len : ∀ (k : Nat) (ns cs : List Int), (cellsGo k ns cs).length = cs.length
  | _, [], _ => rfl
  | k, n :: ns, cs => by
    unfold cellsGo
    rw [cellsGo_len]; simp
theorem cellsF_len (ns : List Int) : (cellsF ns).length = 7 := by unfold cellsF; rw [cellsGo_len]; rfl

/-- what the law asks -/
theorem plain1 (ns : List Int) : ∃ order counts fronts : _, order = orderF (wantsF (rowF (cellsF ns))) ∧ counts = countsF order ∧ fronts = frontsF order counts ((cellsF ns).getD 6 0) ∧
    order.length = 7 ∧ (∀ x ∈ order, 0 ≤ x ∧ x ≤ 5) ∧ counts.length = 7 ∧ (∀ x ∈ counts, 0 ≤ x ∧ x ≤ 7) ∧ fronts.length = 7 ∧ (∀ x ∈ fronts, x.length ≤ 2 ^ 10) ∧
    (tiesF order = [] → (validate fronts).getD 6 Str.empty = "('', '')") ∧
    (tiesF order ≠ [] → (tiesF order).length = 7 ∧ (∀ x ∈ tiesF order, 0 ≤ x ∧ x < 128) ∧ validate fronts = (List.range 7).map fun (i : Nat) => if allSeen (tiesF order) ((i : Int) + 1) then fronts.getD i Str.empty else "('', '')") := by
  obtain ⟨o1, o2, o3, o4⟩ := orderF_facts (wantsF_len (rowF (cellsF ns))) wantsF_bound
  have hck := check_all o3 o4
  generalize orderF (wantsF (rowF (cellsF ns))) = order at o1 o2 hck
  have ec := counts_eq (getD_bound (by decide) o2)
  obtain ⟨c1, c2⟩ := cnts_bound order
  obtain ⟨f1, f2⟩ := fronts_facts (dress := (cellsF ns).getD 6 0) o1 c1 (fun x h => ⟨(o2 x h).1, by have := (o2 x h).2; omega⟩) c2
  rw [← ec] at f1 f2 c1 c2
  refine ⟨order, countsF order, _, rfl, rfl, rfl, o1, o2, c1, c2, f1, fun x hx => ?_, fun ht => ?_, fun ht => ?_⟩
  · obtain ⟨i, hi, rfl⟩ := List.mem_iff_getElem.mp hx
    have := (f2 i (by omega)).1
    rwa [List.getD_eq_getElem?_getD, List.getElem?_eq_getElem hi, Option.getD_some] at this
  · unfold check1 at hck
    rw [ht, if_pos (by decide), ← ec] at hck
    have h6 := (f2 6 (by decide)).2
    rw [List.take_of_length_le (by rw [List.length_zip]; omega)] at h6
    unfold validate
    rw [List.getD_eq_getElem?_getD, List.getElem?_map, List.getElem?_eq_getElem (by omega)]
    have e : (frontsF order (countsF order) ((cellsF ns).getD 6 0)).getD 6 Str.empty = (frontsF order (countsF order) ((cellsF ns).getD 6 0))[6] := by
      rw [List.getD_eq_getElem?_getD, List.getElem?_eq_getElem (by omega), Option.getD_some]
    rw [e] at h6
    show (if parens _ = true then _ else _) = _
    rw [h6]
    have : balG ((countsF order).zip order) 0 = false := by simpa using hck
    rw [this]; rfl
  · unfold check1 at hck
    rw [if_neg (by simpa using ht), ← ec, Bool.and_eq_true, Bool.and_eq_true] at hck
    obtain ⟨⟨h1, h2⟩, h3⟩ := hck
    refine ⟨by simpa using h1, fun x hx => ?_, ?_⟩
    · have := List.all_eq_true.mp h2 x hx
      simpa using this
    · unfold validate
      refine List.ext_getElem (by rw [List.length_map, List.length_map, f1, List.length_range]) fun i hi1 hi2 => ?_
      have hi : i < 7 := by rw [List.length_map, List.length_range] at hi2; exact hi2
      have hp := (f2 i hi).2
      have e : (frontsF order (countsF order) ((cellsF ns).getD 6 0)).getD i Str.empty = (frontsF order (countsF order) ((cellsF ns).getD 6 0))[i]'(by omega) := by
        rw [List.getD_eq_getElem?_getD, List.getElem?_eq_getElem (by omega), Option.getD_some]
      have hq := List.all_eq_true.mp h3 i (List.mem_range.mpr hi)
      have hq : balG (((countsF order).zip order).take (i + 1)) 0 = allSeen (tiesF order) ((i : Int) + 1) := by simpa using hq
      rw [List.getElem_map, List.getElem_map, List.getElem_range]
      rw [← hq, ← hp, e]
end Py

set_option maxRecDepth 100000
set_option maxHeartbeats 8000000
namespace Py
section
variable {C : Cx} {A : Around} {Z : Addr → Prop} {σ : List LV} {P : Post}
/-- a test that may touch its own frame's object -/
noncomputable def TstW (C : Cx) (A : Around) (Z : Addr → Prop) (σ : List LV) (e : Expr) (b : Bool) : Prop :=
  ∀ (s : Shared) (Q : Bool → Shared → Prop) (E : Value → Shared → Prop), St C Z σ s → (∀ s', St C Z σ s' → Frame C Z s Z s' → Lv s s' → Q b s') → wpAny C.M A (isTrue e C.env (eval e C.env)) Q E s
theorem tstW_not {e : Expr} {pos : Pos} {b : Bool} (h : TstW C A Z σ e b) : TstW C A Z σ (.UnaryOp .Not e pos) (!b) :=
  fun s Q E S hQ => wpAny_isTrue_Not (h s _ E S fun s1 S1 F1 L1 => hQ s1 S1 F1 L1)
theorem tstW_or {e f : Expr} {pos : Pos} {c : Bool} (h1 : TstW C A Z σ e false) (h2 : Tst C A Z σ f c) : TstW C A Z σ (.BoolOp .Or [e, f] pos) c := by
  intro s Q E S hQ
  refine wpAny_isTrue_BoolOp (wpAny_allTrue_Or_cons (h1 s _ E S fun s1 S1 F1 L1 => ?_))
  refine wpAny_allTrue_Or_cons (h2 s1 _ E S1 fun s2 X2 => ?_)
  have g : Q c s2 := hQ s2 (S1.ext X2) (F1.trans (.ofExt X2) L1) (L1.trans (Lv.ofKp X2.kp))
  cases c with
  | true => exact g
  | false => exact wpAny_allTrue_Or_nil g
theorem w1_ifW {test : Expr} {body orelse : List Stmt} {pos : Pos} {b : Bool} (ht : TstW C A Z σ test b) (h : if b then WS C A Z σ body P else WS C A Z σ orelse P) : W1 C A Z σ (.If test body orelse pos) P := by
  intro s Q E S hQ
  refine wpAny_If (ht s _ E S fun s1 S1 F1 L1 => ?_)
  have k : ∀ fl f Z' σ' s', P fl Z' σ' → St C Z' σ' s' → Frame C Z s1 Z' s' → Lv s1 s' → FlIs C s'.heap fl f → Q f s' :=
    fun fl f Z' σ' s' p S' F L hf => hQ fl f Z' σ' s' p S' (F1.trans F L1) (L1.trans L) hf
  cases b with
  | true => rw [if_pos rfl] at h ⊢; exact h s1 Q E S1 k
  | false => rw [if_neg Bool.false_ne_true] at h ⊢; exact h s1 Q E S1 k
theorem ev_and {e f : Expr} {pos : Pos} {k : RK} {b c : Bool} (h1 : Ev C A Z σ e k (.bool b)) (h2 : b = true → Ev C A Z σ f k (.bool c)) (hb : b = false → c = false) : Ev C A Z σ (.BoolOp .And [e, f] pos) .f (.bool c) := by
  intro s Q E S hQ
  refine BoolOp_and (h1 s _ E S fun v s1 X r => ?_)
  have hv : v = .bool b := r.toB
  subst hv
  refine wpAny_truthy_bool ?_
  cases b with
  | true =>
    show wpAny _ _ _ _ _ _
    refine BoolOp_one (h2 rfl s1 _ E (S.ext X) fun v s2 X2 r2 => ?_)
    have hv : v = .bool c := r2.toB
    exact hQ v s2 (X.trans X2) hv
  | false =>
    have := hb rfl
    subst this
    exact hQ _ s1 X rfl
end
end Py

set_option maxRecDepth 100000
set_option maxHeartbeats 8000000
namespace Py
section
variable {C : Cx} {P : Params} {mg mb : Str → Option Value}
theorem OpN.up {C : Cx} {m n : Nat} {f : List Value → Sem Value} {ps : List PV} {k : RK} {r : PV} (hmn : m ≤ n) (h : OpN C m f ps k r) : OpN C n f ps k r := h.le hmn
noncomputable def pfTextI (x : Int) : Str := pfText x.toNat
theorem law133 (G : Gd C P mg mb) {ns : List Int} (hn : ns.length ≤ 63) {A : Around} {Z : Addr → Prop} {s : Shared} {vs : List Value} {Q : Value → Shared → Prop} {E : Value → Shared → Prop} (H : Here C 8 A Z s) (hfr : A.frames = some []) (hr : RepBs s.heap Z [LI ns] vs)
    (hQ : ∀ s', Kp s.heap s'.heap → Oth s s' → Q (.bool true) s') : wpAny C.M A (call (.ref 133) vs) Q E s := by
  refine fn_callR (pn := ["script"]) (locs := ["cells", "row", "wants", "order", "fronts", "kept", "ties"]) (n := 7) (hclo := ?a1) (hco := ?a2) (hgen := ?a3) G.mono G.lim (G.obj (show List.lookup 133 (hd.heap_39 P) = some _ from rfl)) rfl rfl (G.code ?a4) ?a5 ?a6 rfl H hr ?a7
  case a1 => rfl
  case a2 => rfl
  case a3 => rfl
  case a4 => kernel_rfl
  case a5 => kernel_rfl
  case a6 => exact len1 fun _ => rfl
  case a7 =>
    intro s₁ E' ok hA T1 k1 o1
    obtain ⟨order, counts, fronts, eo, ec, ef, q1, q2, q3, q4, q5, q6, q7, q8⟩ := plain1 ns
    refine (show WS _ _ _ _ _ (Ends (.bool true)) from ?body) s₁ _ _ T1 (fun fl f Z' σ' s' hp S' F L hf => ?post)
    case post =>
      have hf' : f = .ret (.bool true) := by
        rcases hp with rfl | ⟨rfl, hp⟩
        · obtain ⟨v, rfl, rv⟩ := hf
          have : v = .bool true := rv
          rw [this]
        · cases hp
      subst hf'
      exact hQ s' S'.keep (o1.trans F.oth)
    case body =>
      have cl := cellsF_len ns
      have rl := rowF_len cl
      have wl := wantsF_len (rowF (cellsF ns))
      refine ws_cons (w1_assign ok A1 (Ev.toF (ev_call ok hA (g_law_cells G.hW) (.inr (.inr ⟨_, _, _, rfl, rfl, G.obj (show List.lookup 64 (hd.heap_39 P) = some _ from rfl)⟩)) (.cons (ev_name ok A0 rfl) .nil) ((f64 (C := fnCx C _ s.heap 133 _) ⟨G.hW, G.hB⟩ hn).up (by decide)))) ?_)
      refine ws_cons (w1_assign ok A2 (Ev.toF (ev_call ok hA (g_law_row G.hW) (.inr (.inr ⟨_, _, _, rfl, rfl, G.obj (show List.lookup 71 (hd.heap_39 P) = some _ from rfl)⟩)) (.cons (ev_name ok A1 rfl) .nil) ((f71 (C := fnCx C _ s.heap 133 _) ⟨G.hW, G.hB⟩ cl).up (by decide)))) ?_)
      refine ws_cons (w1_assign ok A3 (Ev.toF (ev_call ok hA (g_law_wants G.hW) (.inr (.inr ⟨_, _, _, rfl, rfl, G.obj (show List.lookup 78 (hd.heap_39 P) = some _ from rfl)⟩)) (.cons (ev_name ok A2 rfl) .nil) ((f78 (C := fnCx C _ s.heap 133 _) ⟨G.hW, G.hB⟩ (by omega) (fun s r e => rowF_head e)).up (by decide)))) ?_)
      have rh : ∀ s r, rowF (cellsF ns) = s :: r → s ≠ 0 := fun s r e => rowF_head e
      have etw : toldF (rowF (cellsF ns)) = wantsF (rowF (cellsF ns)) := told_wants _
      have esrt : (srt (wantsF (rowF (cellsF ns)) ++ [(wantsF (rowF (cellsF ns))).sum % 2])).reverse = order := eo.symm
      clear eo
      generalize wantsF (rowF (cellsF ns)) = wants at wl etw esrt ⊢
      generalize rowF (cellsF ns) = row at rl rh etw ⊢
      generalize cellsF ns = cells at cl ef ⊢
      refine ws_cons (w1_ifW (b := false) (tstW_or (tstW_not (b := true) fun s' Q E S hQ => tst92 (C := fnCx C _ s.heap 133 _) (row := row) ⟨G.hW, G.hB⟩ ok (hA.le (by decide)) (Around.frames_deeper hfr) rfl (.cons (Ev.toF (ev_bin ok hA (ev_list (ps := [.int 0]) ok hA (.cons ev_int .nil) (show 1 ≤ sizeLine by decide)) (ev_name ok A2 rfl) (op_lcat (by rw [List.length_map, rl]; decide)))) .nil) (g_law_refused G.hW) s' Q E S hQ)
        (Tst.cast (tst_cmp ok hA (ev_call ok hA (g_law_told G.hW) (.inr (.inr ⟨_, _, _, rfl, rfl, G.obj (show List.lookup 85 (hd.heap_39 P) = some _ from rfl)⟩)) (.cons (ev_name ok A2 rfl) .nil) ((f85 (C := fnCx C _ s.heap 133 _) ⟨G.hW, G.hB⟩ rh).up (by decide))) (ev_name ok A3 rfl) op_ne_ints) (by rw [etw]; simp))) ?_)
      rw [if_neg (by decide)]
      refine ws_nil ?_
      refine ws_cons (w1_assign ok A4 (Ev.toF (Ev.cast (ev_sorted_rev (ns := wants ++ [wants.sum % 2]) ok hA (g_sorted G.hW G.hB) (Ev.cast (ev_bin ok hA (ev_name ok A3 rfl) (ev_list (ps := [.int (wants.sum % 2)]) ok hA (.cons (ev_bin ok hA (ev_call ok hA (g_sum G.hW G.hB) (.inl ⟨_, rfl⟩) (.cons (ev_name ok A3 rfl) .nil) fn_sum) ev_int (op_mod (by decide))) .nil) (show 1 ≤ sizeLine by decide)) (op_lcat (by rw [List.length_map, wl]; exact (by decide : 6 + 1 ≤ sizeLine)))) (by rw [LI, List.map_append]; rfl)) ev_bool (by rw [List.length_append, wl]; exact (by decide : 6 + 1 < 64))) (congrArg LI esrt))) ?_)
      have o6 : ∀ x ∈ order, 0 ≤ x ∧ x ≤ 6 := fun x h => ⟨(q2 x h).1, by have := (q2 x h).2; omega⟩
      have o100 : ∀ x ∈ order, 0 ≤ x ∧ x ≤ 100 := fun x h => ⟨(q2 x h).1, by have := (q2 x h).2; omega⟩
      have c100 : ∀ x ∈ counts, 0 ≤ x ∧ x ≤ 100 := fun x h => ⟨(q4 x h).1, by have := (q4 x h).2; omega⟩
      refine ws_cons (w1_assign ok A5 (Ev.toF (Ev.cast (ev_call ok hA (g_law_fronts G.hW) (.inr (.inr ⟨_, _, _, rfl, rfl, G.obj (show List.lookup 116 (hd.heap_39 P) = some _ from rfl)⟩)) (.cons (ev_name ok A4 rfl) (.cons (Ev.cast (ev_call ok hA (g_law_counts G.hW) (.inr (.inr ⟨_, _, _, rfl, rfl, G.obj (show List.lookup 109 (hd.heap_39 P) = some _ from rfl)⟩)) (.cons (ev_name ok A4 rfl) .nil) ((f109 (C := fnCx C _ s.heap 133 _) ⟨G.hW, G.hB⟩ q1 o6).up (by decide))) (congrArg LI ec.symm)) (.cons (ev_item (p := .int (cells.getD 6 0)) (ev_name ok A1 rfl) ev_int (by decide) (by decide) (get_mapI PV.int cells 0 (by rw [cl]; decide))) .nil))) ((f116 (C := fnCx C _ s.heap 133 _) ⟨G.hW, G.hB⟩ q1 q3 o100 c100).up (by decide))) (congrArg LS ef.symm))) ?_)
      clear ef
      refine ws_cons (w1_assign ok A6 (Ev.toF (ev_call ok hA (g_pre_parse_validation G.hW) (.inr (.inr ⟨_, _, _, rfl, rfl, G.obj (show List.lookup 42 (hd.heap_39 P) = some _ from rfl)⟩)) (.cons (ev_name ok A5 rfl) .nil) ((f42 (C := fnCx C _ s.heap 133 _) ⟨G.hW, G.hB⟩ q6 (by rw [q5]; decide)).up (by decide)))) ?_)
      refine ws_cons (w1_assign ok A7 (Ev.toF (ev_call ok hA (g_law_ties G.hW) (.inr (.inr ⟨_, _, _, rfl, rfl, G.obj (show List.lookup 121 (hd.heap_39 P) = some _ from rfl)⟩)) (.cons (ev_name ok A4 rfl) .nil) ((f121 (C := fnCx C _ s.heap 133 _) ⟨G.hW, G.hB⟩ q1).up (by decide)))) ?_)
      have vl : (validate fronts).length = 7 := by unfold validate; rw [List.length_map, q5]
      generalize validate fronts = kept at q7 q8 vl ⊢
      generalize tiesF order = ties at q7 q8 ⊢
      refine ws_cons (w1_if (b := ties == []) (tst_cmp ok hA (ev_name ok A7 rfl) (ev_list0 ok hA) (op_eq_ints (ms := []))) ?_)
      cases et : (ties == []) with
      | true =>
        rw [if_pos rfl]
        have ht : ties = [] := by simpa using et
        refine ws_cons (w1_retb (ev_and (k := .f) (b := true) (c := true) ?e1 (fun _ => ?e2) (fun h => by cases h)) (.inl rfl))
        case e1 => exact Ev.cast (ev_cmp ok hA (ev_call ok hA (g_len G.hW G.hB) (.inl ⟨_, rfl⟩) (.cons (ev_name ok A6 rfl) .nil) (fn_len (by rw [List.length_map, vl]; decide))) ev_int op_eq) (by rw [List.length_map, vl]; rfl)
        case e2 => exact Ev.cast (ev_cmp ok hA (ev_item (p := .str (kept.getD 6 Str.empty)) (ev_name ok A6 rfl) ev_int (by decide) (by decide) (get_mapI PV.str kept (j := 6) Str.empty (by rw [vl]; decide))) ev_str op_eqs) (by rw [q7 ht]; rfl)
      | false =>
        rw [if_neg (by decide)]
        obtain ⟨t1, t2, t3⟩ := q8 (by simpa using et)
        refine ws_nil ?_
        have tl : (ties.map pfTextI) = ties.map lawWords := List.map_congr_left fun x hx => by
          have := t2 x hx
          unfold pfTextI
          rw [pf_words (by omega), Int.toNat_of_nonneg this.1]
        have tsz : ∀ f : Int → Str, ((ties.map f).map PV.str).length ≤ sizeLine := fun f => by rw [List.length_map, List.length_map, t1]; decide
        refine ws_cons (w1_if (b := false) (Tst.cast (tst_cmp ok hA (ev_comp ["mask"] [] (ps := ties.map .int) (out := (ties.map pfTextI).map .str) ok hA.h (by kernel_rfl) (iter_list (k := .f) ok hA.h (ev_name ok A7 rfl) (fun q => by cases q)).z .nil (by simp [owns]) (fun L Z' ok' => ?cp) (tsz _)) (ev_comp ["mask"] [] (ps := ties.map .int) (out := (ties.map lawWords).map .str) ok hA.h (by kernel_rfl) (iter_list (k := .f) ok hA.h (ev_name ok A7 rfl) (fun q => by cases q)).z .nil (by simp [owns]) (fun L Z' ok' => ?cw) (tsz _)) op_ne_strs) (by rw [tl]; simp)) ?_)
        case cp =>
          rw [List.map_map]
          refine WC.all PV.int _ _ _ fun x hx l => ⟨_, .name A0, rfl, ?_⟩
          have hx2 := t2 x hx
          refine Ev.toF (ev_call ok' hA (gpretty_flags G.hW) (.inr (.inr ⟨_, _, _, rfl, rfl, G.obj (show List.lookup 50 (hd.heap_39 P) = some _ from rfl)⟩)) (.cons (Ev.cast (q := .int ((x.toNat : Nat) : Int)) (ev_name ok' A0 rfl) (by rw [Int.toNat_of_nonneg hx2.1])) .nil) ((f50 (C := compCx (fnCx C _ s.heap 133 _) _ _ _) ⟨G.hW, G.hB⟩ (f := x.toNat) (by omega)).up (by decide)))
        case cw =>
          rw [List.map_map]
          refine WC.all PV.int _ _ _ fun x hx l => ⟨_, .name A0, rfl, ?_⟩
          exact Ev.toF (ev_call ok' hA (g_law_words G.hW) (.inr (.inr ⟨_, _, _, rfl, rfl, G.obj (show List.lookup 104 (hd.heap_39 P) = some _ from rfl)⟩)) (.cons (ev_name ok' A0 rfl) .nil) ((f104 (C := compCx (fnCx C _ s.heap 133 _) _ _ _) ⟨G.hW, G.hB⟩).up (by decide)))
        rw [if_neg (by decide)]
        refine ws_nil ?_
        have ksz : ((((List.range 7).map fun (i : Nat) => if allSeen ties ((i : Int) + 1) then fronts.getD i Str.empty else "('', '')").map PV.str)).length ≤ sizeLine := by rw [List.length_map, List.length_map, List.length_range]; decide
        refine ws_cons (w1_retb (Ev.cast (ev_cmp ok hA (ev_name ok A6 rfl) (ev_comp ["person"] ["fronts", "ties"] (ps := rangeP 0 7) (out := ((List.range 7).map fun (i : Nat) => if allSeen ties ((i : Int) + 1) then fronts.getD i Str.empty else "('', '')").map PV.str) ok hA.h (by kernel_rfl) (iter_range1 (k := 7) ok hA.h (g_range G.hW G.hB) (.cons ev_int .nil) (by decide) (by decide)).z (.cons A5 rfl (.cons A7 rfl .nil)) (by simp [owns]) (fun L Z' ok' => ?cx) ksz) op_eq_strs) (by rw [t3]; simp)) (.inl rfl))
        case cx =>
          rw [List.map_map]
          refine WC.all (fun (i : Nat) => PV.int (0 + (i : Int))) _ (List.range 7) _ fun i hi l => ⟨_, .name A0, rfl, ?_⟩
          have hi7 := List.mem_range.mp hi
          have e0 : (0 + (i : Int)) = (i : Int) := by omega
          refine ev_ifexp (b := allSeen ties ((i : Int) + 1)) (Tst.cast (tst_val ok' hA (ev_call ok' hA (g_law_all_seen G.hW) (.inr (.inr ⟨_, _, _, rfl, rfl, G.obj (show List.lookup 128 (hd.heap_39 P) = some _ from rfl)⟩)) (.cons (ev_name ok' A2 rfl) (.cons (ev_bin ok' hA (ev_name ok' A0 rfl) ev_int op_add) .nil)) ((f128 (C := compCx (fnCx C _ s.heap 133 _) _ _ _) (ties := ties) (size := 0 + (i : Int) + 1) ⟨G.hW, G.hB⟩ t1 (by omega) (by omega)).up (by decide))) tr_bool) (by rw [e0])) ?_
          cases hb : allSeen ties ((i : Int) + 1) with
          | true => rw [if_pos rfl]; exact Ev.cast (ev_item (p := .str (fronts.getD i Str.empty)) (ev_name ok' A1 rfl) (ev_name ok' A0 rfl) (by omega) (by omega) (get_map PV.str fronts Str.empty (by rw [q5]; exact hi7))) (by simp [hb])
          | false => rw [if_neg Bool.false_ne_true]; exact Ev.cast ev_str (by simp [hb])
end
end Py

set_option maxRecDepth 100000
set_option maxHeartbeats 8000000
namespace Py
theorem list_arg {h : Heap} {p : Params} {a : Addr} {vs : List Value} {ns : List Int} (w : Well p h (.ref a) (ofPy (PyData.list (ns.map PyData.int)))) (hL : h.IsList a vs.toArray) (hI : IntsAre vs ns) : RepBs h noZ [LI ns] [.ref a] := by
  refine ⟨.ref a, [], rfl, ⟨a, vs, rfl, ?_, IntsAre.reps hI⟩, rfl⟩
  cases w with
  | list e _ =>
    obtain ⟨o, e', hc, n, hd⟩ := hL
    rw [e] at e'
    cases e'
    cases hd
    exact ⟨_, e⟩
noncomputable def cx0 (prog : Program) (w : World) (K : Frag) (mg mb : Str → Option Value) (h : Heap) : Cx := { prog := prog, w := w, W := WW K mg mb, env := default, vs := [], h₀ := h }
theorem good_end {c : ClaimW} {cl : Str → Option Addr} {mean : ExcName → Option Value} {args : List WData} {s₁ s' : Shared} {b : Bool} (hr : ∀ cls, c.raises args cls = false) (hp : c.post args (.bool b) args = true) (k : Kp s₁.heap s'.heap) (o : Oth s₁ s') (hg : s₁.gens = #[]) :
    GoodWG c cl mean args s₁ (.ok (.ret (.bool b))) s' :=
  ⟨.inl ⟨_, _, [], rfl, hr, ReadsW.bool b, hp, fun _ => ⟨List.nodup_nil, fun _ hm => (nomatch hm)⟩⟩, .of_keep k, o.os, o.gk.2.2 (by rw [hg]; exact AllBare.empty)⟩
end Py
theorem PySem.Challenge.cw_wf0022_01_holds : PySem.Challenge.rw_wf0022_01.Holds := by
  refine Py.hd ?_
  k_fill
  intro w s₀ s₁ mg mb G Y fa o pm cd doc dV kV ho hd' hcd hD hmg hg args vals as hpre hlay hrd hwl hlo
  have KX := kIn_of Y
  refine Ground.open G ?_
  intro T B D TE TW
  have hfa : mg (Str.ofString "law") = some (.ref 133) := mg_of KX (Top.g T) (show nsIn (Py.hd.heap_39 w.params) mainGlobals "law" = some (some (.ref 133)) by kernel_rfl)
  wrow_args hpre hlay hrd hwl hlo
  rename Well _ _ _ _ => hw1
  rename Heap.IsList _ _ _ => hL1
  rename IntsAre _ _ => hI1
  rename ¬ (_ : Int) < _ => hlen
  have hfa' : fa = 133 := by
    have e := hmg.symm.trans hfa
    exact Value.ref.inj (Option.some.inj e)
  subst hfa'
  have hG : Py.Gd (Py.cx0 PySem.Challenge.rw_wf0022_01.row.prog w (Py.hd.heap_39 w.params) mg mb s₁.heap) w.params mg mb := ⟨rfl, Top.builtins T⟩
  exact Py.law133 (C := Py.cx0 PySem.Challenge.rw_wf0022_01.row.prog w (Py.hd.heap_39 w.params) mg mb s₁.heap) hG (by omega) (Z := Py.noZ) ⟨⟨rfl, by decide, by decide⟩, ⟨KX, Top.nolimit T, Top.g T, Top.b T⟩, Top.nolimit T, fun _ z => z.elim⟩ rfl (Py.list_arg hw1 hL1 hI1) fun s' k o => Py.good_end (fun _ => rfl) (by first | rfl | wrow_post) k o hg

