import PyProof.Rows.All
import Wide.All
import OpenK.AllK
import Wide.FinOn
import Lean
import PySem.Challenge.RW_sc0069_02
open PySem PySem.W PyProof.Rows PySem.Calls
set_option Elab.async false
set_option maxRecDepth 100000
set_option maxHeartbeats 2000000
set_option linter.unusedVariables false
namespace Mine
local macro_rules | `(tactic| omega) => `(tactic| lia)

inductive V where
  | none
  | bool (b : Bool)
  | int (i : Int)
  | str (s : Str)
  | list (l : List V)
  | tup (l : List V)

/-- the length that any list or text may have -/
noncomputable abbrev lim : Nat := 1048576

mutual
noncomputable def Rep (P : Addr → Prop) (h : Heap) : V → Value → Prop
  | .none, v => v = .none
  | .bool b, v => v = .bool b
  | .int i, v => ∃ t, v = .int i t
  | .str x, v => x.length ≤ lim ∧ ∃ t, v = .str x t
  | .list l, v => ∃ a vs, v = .ref a ∧ P a ∧ h.PlainList a (List.toArray vs) ∧ vs.length ≤ lim ∧ Reps P h l vs
  | .tup l, v => ∃ a vs, v = .ref a ∧ P a ∧ IsTup h a (List.toArray vs) ∧ vs.length ≤ lim ∧ Reps P h l vs
noncomputable def Reps (P : Addr → Prop) (h : Heap) : List V → List Value → Prop
  | [], vs => vs = []
  | x :: r, vs => ∃ v w, vs = v :: w ∧ Rep P h x v ∧ Reps P h r w
end

/-- the object of a list or a tuple -/
noncomputable def SeqObj (o : Obj) : Prop := (o.cls = .type "list" ∨ o.cls = .type "tuple") ∧ ∃ its n, o.data = .seq its n

theorem isList_kept {h h' : Heap} {a : Addr} {its : Array Value} (k : ∀ o, h.get? a = some o → SeqObj o → h'.get? a = some o) (x : h.PlainList a its) : h'.PlainList a its :=
  let ⟨n, ho⟩ := x; ⟨n, k _ ho ⟨.inl rfl, _, _, rfl⟩⟩
theorem isTup_kept {h h' : Heap} {a : Addr} {its : Array Value} (k : ∀ o, h.get? a = some o → SeqObj o → h'.get? a = some o) (x : IsTup h a its) : IsTup h' a its :=
  let ⟨o, ho, hc, n, hd⟩ := x; ⟨o, k o ho ⟨.inr hc, _, _, hd⟩, hc, n, hd⟩

mutual
theorem Rep.mono {P P' : Addr → Prop} {h h' : Heap} (hP : ∀ a, P a → P' a) (k : ∀ a o, P a → h.get? a = some o → SeqObj o → h'.get? a = some o) : ∀ (x : V) (v : Value), Rep P h x v → Rep P' h' x v
  | .none, v, r => by unfold Rep at r ⊢; exact r
  | .bool _, v, r => by unfold Rep at r ⊢; exact r
  | .int _, v, r => by unfold Rep at r ⊢; exact r
  | .str _, v, r => by unfold Rep at r ⊢; exact r
  | .list l, v, r => by
    unfold Rep at r ⊢
    obtain ⟨a, vs, e, p, il, hl, rs⟩ := r
    exact ⟨a, vs, e, hP a p, isList_kept (fun o ho hc => k a o p ho hc) il, hl, Reps.mono hP k l vs rs⟩
  | .tup l, v, r => by
    unfold Rep at r ⊢
    obtain ⟨a, vs, e, p, il, hl, rs⟩ := r
    exact ⟨a, vs, e, hP a p, isTup_kept (fun o ho hc => k a o p ho hc) il, hl, Reps.mono hP k l vs rs⟩
theorem Reps.mono {P P' : Addr → Prop} {h h' : Heap} (hP : ∀ a, P a → P' a) (k : ∀ a o, P a → h.get? a = some o → SeqObj o → h'.get? a = some o) : ∀ (xs : List V) (vs : List Value), Reps P h xs vs → Reps P' h' xs vs
  | [], vs, r => by unfold Reps at r ⊢; exact r
  | x :: xs, vs, r => by
    unfold Reps at r ⊢
    obtain ⟨v, w, e, r1, r2⟩ := r
    exact ⟨v, w, e, Rep.mono hP k x v r1, Reps.mono hP k xs w r2⟩
end

theorem Reps.length {P : Addr → Prop} {h : Heap} : ∀ {xs : List V} {vs : List Value}, Reps P h xs vs → vs.length = xs.length
  | [], vs, r => by unfold Reps at r; rw [r]; rfl
  | x :: xs, vs, r => by
    unfold Reps at r
    obtain ⟨v, w, e, _, r2⟩ := r
    rw [e]; simp [Reps.length r2]

theorem Reps.get {P : Addr → Prop} {h : Heap} : ∀ {xs : List V} {vs : List Value} {i : Nat} {x : V}, Reps P h xs vs → xs[i]? = some x → ∃ v, vs[i]? = some v ∧ Rep P h x v
  | [], vs, i, x, _, e => by simp at e
  | y :: xs, vs, i, x, r, e => by
    unfold Reps at r
    obtain ⟨v, w, rfl, r1, r2⟩ := r
    cases i with
    | zero => simp at e; subst e; exact ⟨v, by simp, r1⟩
    | succ i => simp at e; obtain ⟨u, hu, hr⟩ := Reps.get r2 e; exact ⟨u, by simpa using hu, hr⟩

theorem Reps.append {P : Addr → Prop} {h : Heap} : ∀ {xs ys : List V} {vs ws : List Value}, Reps P h xs vs → Reps P h ys ws → Reps P h (xs ++ ys) (vs ++ ws)
  | [], ys, vs, ws, r, r' => by unfold Reps at r; rw [r]; exact r'
  | x :: xs, ys, vs, ws, r, r' => by
    unfold Reps at r
    obtain ⟨v, w, rfl, r1, r2⟩ := r
    rw [List.cons_append, List.cons_append]
    unfold Reps
    exact ⟨v, w ++ ws, rfl, r1, Reps.append r2 r'⟩

theorem Reps.nil {P : Addr → Prop} {h : Heap} : Reps P h [] [] := by unfold Reps; rfl
theorem Reps.cons {P : Addr → Prop} {h : Heap} {x : V} {xs : List V} {v : Value} {vs : List Value} (r : Rep P h x v) (rs : Reps P h xs vs) : Reps P h (x :: xs) (v :: vs) := by
  unfold Reps; exact ⟨v, vs, rfl, r, rs⟩
theorem Reps.cons_inv {P : Addr → Prop} {h : Heap} {x : V} {xs : List V} {vs : List Value} (r : Reps P h (x :: xs) vs) : ∃ v w, vs = v :: w ∧ Rep P h x v ∧ Reps P h xs w := by
  unfold Reps at r; exact r
theorem Reps.nil_inv {P : Addr → Prop} {h : Heap} {vs : List Value} (r : Reps P h [] vs) : vs = [] := by unfold Reps at r; exact r

/-- the same list without an item, or with another order: any choice of places -/
theorem Reps.pick {P : Addr → Prop} {h : Heap} {xs : List V} {vs : List Value} (r : Reps P h xs vs) : ∀ (is : List Nat), Reps P h (is.filterMap fun i => xs[i]?) (is.filterMap fun i => vs[i]?)
  | [] => Reps.nil
  | i :: is => by
    by_cases h1 : i < xs.length
    · obtain ⟨v, hv, hr⟩ := r.get (List.getElem?_eq_getElem h1)
      rw [List.filterMap_cons, List.filterMap_cons, List.getElem?_eq_getElem h1, hv]
      exact Reps.cons hr (Reps.pick r is)
    · have e1 : xs[i]? = Option.none := List.getElem?_eq_none (by omega)
      have e2 : vs[i]? = Option.none := List.getElem?_eq_none (by have := r.length; omega)
      rw [List.filterMap_cons, List.filterMap_cons, e1, e2]
      exact Reps.pick r is

/-- a value without an address -/
noncomputable def V.flat : V → Bool
  | .list _ | .tup _ => false
  | _ => true
theorem Rep.flat {P P' : Addr → Prop} {h h' : Heap} {x : V} {v : Value} (e : x.flat = true) (r : Rep P h x v) : Rep P' h' x v := by
  cases x with
  | none => unfold Rep at r ⊢; exact r
  | bool => unfold Rep at r ⊢; exact r
  | int => unfold Rep at r ⊢; exact r
  | str => unfold Rep at r ⊢; exact r
  | list => cases e
  | tup => cases e

structure Tab where
  c : Addr
  P : Addr
  line : Nat
  col : Nat
  qual : Str

structure Cx where
  prog : Program
  w : World
  K : Frag
  mg : Str → Option Value
  mb : Str → Option Value
  tabs : List Tab
  kt : noTabs K = true
  bi : ∀ x : Str, x ≠ "__name__" → mb x = bootBuiltins x

noncomputable def TabOk (t : Tab) (h : Heap) : Prop :=
  CodeHd h t.c t.P ∧ ∃ ps, h.get? t.P = some (tabObj ps) ∧ (ps = #[] ∨ ∃ c' o vs tk, ps = #[rawInt t.line, rawInt t.col, .ref c'] ∧ h.get? c' = some o ∧ o.cls = .type "code" ∧ o.data = .fields vs ∧ vs[1]? = some (.str t.qual tk))

structure Inv (c : Cx) (s : Shared) : Prop where
  k : c.K.In s.heap
  g : s.heap.Ns mainGlobals c.mg
  b : s.heap.Ns builtinsNs c.mb
  nl : s.heap.NoLimit
  gens : AllBare s.gens
  tab : ∀ t ∈ c.tabs, TabOk t s.heap
  bmain : ∃ bm ob, c.mg "__builtins__" = some (.ref bm) ∧ bm ≠ builtinsNs ∧ s.heap.get? bm = some ob ∧ ob.cls = .type "module" ∧ ob.dict = some builtinsNs ∧ ob.data = .plain

structure Step (c : Cx) (s s' : Shared) : Prop where
  old : ∀ b o, s.heap.get? b = some o → (∀ t ∈ c.tabs, b ≠ t.P) → s'.heap.get? b = some o
  os : s'.os = s.os
  inv : Inv c s'
  gens : ∀ (i : Nat) (x : GenState), s.gens[i]? = some x → s'.gens[i]? = some x

theorem TabOk.keeps {t : Tab} {h h' : Heap} (x : TabOk t h) (k : ∀ b o, h.get? b = some o → h'.get? b = some o) : TabOk t h' := by
  obtain ⟨a, ps, e, r⟩ := x
  refine ⟨a.keeps k, ps, k _ _ e, ?_⟩
  rcases r with r | ⟨c', o, vs, tk, r, q, q'⟩
  · exact .inl r
  · exact .inr ⟨c', o, vs, tk, r, k _ _ q, q'⟩

theorem Inv.keeps {c : Cx} {s s' : Shared} (I : Inv c s) (k : ∀ b o, s.heap.get? b = some o → s'.heap.get? b = some o) (hg : AllBare s'.gens) : Inv c s' where
  k := I.k.keeps k
  g := I.g.keeps k
  b := I.b.keeps k
  nl := I.nl.keeps k
  gens := hg
  tab := fun t ht => (I.tab t ht).keeps k
  bmain := let ⟨bm, ob, a1, a2, a3, r⟩ := I.bmain; ⟨bm, ob, a1, a2, k _ _ a3, r⟩

theorem Step.refl {c : Cx} {s : Shared} (I : Inv c s) : Step c s s := ⟨fun _ _ e _ => e, rfl, I, fun _ _ e => e⟩
theorem Step.of {c : Cx} {s : Shared} (I : Inv c s) {h' : Heap} {tk : Nat} (k : ∀ b o, s.heap.get? b = some o → h'.get? b = some o) : Step c s { s with heap := h', toks := tk } :=
  ⟨fun b o e _ => k b o e, rfl, I.keeps k I.gens, fun _ _ e => e⟩
theorem Step.toks {c : Cx} {s : Shared} (I : Inv c s) {tk : Nat} : Step c s { s with toks := tk } := Step.of I (h' := s.heap) fun _ _ e => e
theorem Step.trans {c : Cx} {s s' s'' : Shared} (x : Step c s s') (y : Step c s' s'') : Step c s s'' :=
  ⟨fun b o e h => y.old b o (x.old b o e h) h, y.os.trans x.os, y.inv, fun i z e => y.gens i z (x.gens i z e)⟩

theorem Inv.tab_ne {c : Cx} {s : Shared} (I : Inv c s) {b : Addr} {o : Obj} (e : s.heap.get? b = some o) (h : o.cls ≠ .none ∨ ∀ f, o.data ≠ .fields f) : ∀ t ∈ c.tabs, b ≠ t.P := fun t ht q => by
  obtain ⟨_, ps, e', _⟩ := I.tab t ht
  rw [← q, e] at e'
  cases e'
  rcases h with h | h
  · exact h rfl
  · exact h _ rfl

theorem Step.get {c : Cx} {s s' : Shared} (x : Step c s s') (I : Inv c s) {b : Addr} {o : Obj} (e : s.heap.get? b = some o) (h : o.cls ≠ .none ∨ ∀ f, o.data ≠ .fields f) : s'.heap.get? b = some o :=
  x.old b o e (I.tab_ne e h)

theorem Step.gone {c : Cx} {s s' : Shared} (x : Step c s s') (I : Inv c s) {a : Addr} (e : s'.heap.get? a = none) : s.heap.get? a = none := by
  cases q : s.heap.get? a with
  | none => rfl
  | some o =>
    by_cases ht : ∃ t ∈ c.tabs, a = t.P
    · obtain ⟨t, ht, rfl⟩ := ht
      obtain ⟨_, ps, e', _⟩ := x.inv.tab t ht
      rw [e'] at e; cases e
    · rw [x.old a o q fun t h1 h2 => ht ⟨t, h1, h2⟩] at e; cases e

theorem Step.rep {c : Cx} {s s' : Shared} {P : Addr → Prop} (x : Step c s s') (I : Inv c s) {y : V} {v : Value} (r : Rep P s.heap y v) : Rep P s'.heap y v :=
  r.mono (fun _ h => h) (fun a o _ e hc => x.get I e (.inl (by rcases hc.1 with hc | hc <;> rw [hc] <;> nofun)))
theorem Step.reps {c : Cx} {s s' : Shared} {P : Addr → Prop} (x : Step c s s') (I : Inv c s) {y : List V} {v : List Value} (r : Reps P s.heap y v) : Reps P s'.heap y v :=
  r.mono (fun _ h => h) (fun a o _ e hc => x.get I e (.inl (by rcases hc.1 with hc | hc <;> rw [hc] <;> nofun)))
theorem Step.ns {c : Cx} {s s' : Shared} (x : Step c s s') (I : Inv c s) {a : Addr} {m : Str → Option Value} (hn : s.heap.Ns a m) : s'.heap.Ns a m :=
  let ⟨o, es, ep, e, hd, r⟩ := hn; ⟨o, es, ep, x.get I e (.inr (by rw [hd]; nofun)), hd, r⟩
theorem Step.cell {c : Cx} {s s' : Shared} (x : Step c s s') (I : Inv c s) {a : Addr} {v : Option Value} (hn : s.heap.IsCell a v) : s'.heap.IsCell a v :=
  let ⟨o, e, hd⟩ := hn; ⟨o, x.get I e (.inr (by rw [hd]; nofun)), hd⟩

noncomputable def VarAt (h : Heap) (env : Env) (x : Str) (v : Value) : Prop :=
  (env.kindOf x = some .local ∧ ∃ m, h.Ns env.locals m ∧ m x = some v) ∨
  ((env.kindOf x = some .cell ∨ (env.kindOf x = some .free ∧ (x == ("__classdict__" : Str)) = false)) ∧ ∃ a, env.cells.lookup x = some a ∧ h.IsCell a (some v))

theorem VarAt.step {c : Cx} {s s' : Shared} (x : Step c s s') (I : Inv c s) {env : Env} {n : Str} {v : Value} (h : VarAt s.heap env n v) : VarAt s'.heap env n v := by
  rcases h with ⟨k, m, hm, e⟩ | ⟨k, a, ha, hc⟩
  · exact .inl ⟨k, m, x.ns I hm, e⟩
  · exact .inr ⟨k, a, ha, x.cell I hc⟩

structure FrameAt (P : Addr → Prop) (h : Heap) (env : Env) (ρ : List (Str × V)) : Prop where
  fk : env.scope.kind = .function
  gl : env.globals = mainGlobals
  bu : env.builtins = builtinsNs
  var : ∀ x y, ρ.lookup x = some y → ∃ v, VarAt h env x v ∧ Rep P h y v

theorem FrameAt.step {c : Cx} {s s' : Shared} {P : Addr → Prop} {env : Env} {ρ : List (Str × V)} (x : Step c s s') (I : Inv c s) (F : FrameAt P s.heap env ρ) : FrameAt P s'.heap env ρ :=
  ⟨F.fk, F.gl, F.bu, fun n y e => let ⟨v, h1, h2⟩ := F.var n y e; ⟨v, h1.step x I, x.rep I h2⟩⟩

noncomputable def Fresh (P : Addr → Prop) (h : Heap) : Prop := ∀ a, h.get? a = none → P a
theorem Fresh.step {c : Cx} {s s' : Shared} {P : Addr → Prop} (x : Step c s s') (I : Inv c s) (f : Fresh P s.heap) : Fresh P s'.heap := fun a e => f a (x.gone I e)

noncomputable def Room (n : Nat) (A : Around) : Prop := A.handled = none ∧ A.depth + 10 * n < 900 ∧ A.units + 100 * n < 9000

/-- what a step from s may find -/
structure At (c : Cx) (n : Nat) (A : Around) (P : Addr → Prop) (s : Shared) : Prop where
  room : Room n A
  inv : Inv c s
  fresh : Fresh P s.heap
theorem At.step {c : Cx} {n : Nat} {A : Around} {P : Addr → Prop} {s s' : Shared} (a : At c n A P s) (x : Step c s s') : At c n A P s' := ⟨a.room, x.inv, a.fresh.step x a.inv⟩

/-- a tree that gives y (read at P) and changes nothing that stands -/
noncomputable def Gives (c : Cx) (n : Nat) (P : Addr → Prop) (pre : Heap → Prop) (t : Sem Value) (y : V) : Prop :=
  ∀ A E s, At c n A P s → pre s.heap → wpAny (model c.prog c.w) A t (fun v s' => Rep P s'.heap y v ∧ Step c s s') E s

structure Ev (c : Cx) (n : Nat) (env : Env) (ρ : List (Str × V)) (e : Expr) (y : V) : Prop where
  run : ∀ P A E s, At c n A P s → FrameAt P s.heap env ρ → wpAny (model c.prog c.w) A (eval e env) (fun v s' => Rep P s'.heap y v ∧ Step c s s') E s
structure Evs (c : Cx) (n : Nat) (env : Env) (ρ : List (Str × V)) (es : List Expr) (ys : List V) : Prop where
  run : ∀ P A E s pos, At c n A P s → FrameAt P s.heap env ρ → wpAny (model c.prog c.w) A (spliced (backTo pos (starEach es env))) (fun vs s' => Reps P s'.heap ys vs ∧ Step c s s') E s
structure Tst (c : Cx) (n : Nat) (env : Env) (ρ : List (Str × V)) (e : Expr) (b : Bool) : Prop where
  run : ∀ P A E s, At c n A P s → FrameAt P s.heap env ρ → wpAny (model c.prog c.w) A (isTrue e env (eval e env)) (fun b' s' => b' = b ∧ Step c s s') E s
structure Tsts (c : Cx) (n : Nat) (env : Env) (ρ : List (Str × V)) (op : BoolOp) (es : List Expr) (b : Bool) : Prop where
  run : ∀ P A E s, At c n A P s → FrameAt P s.heap env ρ → wpAny (model c.prog c.w) A (allTrue op es env) (fun b' s' => b' = b ∧ Step c s s') E s

/-- operators by value -/
structure BinV (c : Cx) (n : Nat) (op : Operator) (a b r : V) : Prop where
  run : ∀ P A E s va vb, At c n A P s → Rep P s.heap a va → Rep P s.heap b vb → wpAny (model c.prog c.w) A (binaryOp op va vb) (fun v s' => Rep P s'.heap r v ∧ Step c s s') E s
structure CmpV (c : Cx) (n : Nat) (op : CmpOp) (a b : V) (r : Bool) : Prop where
  run : ∀ P A E s va vb, At c n A P s → Rep P s.heap a va → Rep P s.heap b vb → wpAny (model c.prog c.w) A (compareOp op va vb) (fun v s' => v = .bool r ∧ Step c s s') E s
structure UnV (c : Cx) (n : Nat) (op : UnaryOp) (a r : V) : Prop where
  run : ∀ P A E s va, At c n A P s → Rep P s.heap a va → wpAny (model c.prog c.w) A (unaryOp op va) (fun v s' => Rep P s'.heap r v ∧ Step c s s') E s
structure TruV (c : Cx) (n : Nat) (a : V) (r : Bool) : Prop where
  run : ∀ P A E s va, At c n A P s → Rep P s.heap a va → wpAny (model c.prog c.w) A (truthy va) (fun v s' => v = r ∧ Step c s s') E s

section
variable {c : Cx} {n : Nat} {env : Env} {ρ : List (Str × V)}

theorem Ev.int {i : Int} {k : Nat} {pos : Pos} : Ev c n env ρ (.Constant (.int i) k pos) (.int i) := .mk fun P A E s a _ =>
  wpAny_Constant_int ⟨by unfold Rep; exact ⟨_, rfl⟩, Step.toks a.inv⟩
theorem Ev.str {x : Str} {k : Nat} {pos : Pos} (hx : x.length ≤ lim) : Ev c n env ρ (.Constant (.str x) k pos) (.str x) := .mk fun P A E s a _ =>
  Calls.Constant_str ⟨by unfold Rep; exact ⟨hx, _, rfl⟩, Step.toks a.inv⟩
theorem Ev.bool {b : Bool} {k : Nat} {pos : Pos} : Ev c n env ρ (.Constant (.bool b) k pos) (.bool b) := .mk fun P A E s a _ =>
  wpAny_Constant_bool ⟨by unfold Rep; rfl, Step.refl a.inv⟩
theorem Ev.none {k : Nat} {pos : Pos} : Ev c n env ρ (.Constant .none k pos) .none := .mk fun P A E s a _ =>
  wpAny_Constant_none ⟨by unfold Rep; rfl, Step.refl a.inv⟩

theorem load_var {M : Model} {A : Around} {E : Value → Shared → Prop} {s : Shared} {x : Str} {v : Value} {Q : Value → Shared → Prop} (fk : env.scope.kind = .function) (h : VarAt s.heap env x v) (q : Q v s) : wpAny M A (loadName env x) Q E s := by
  rcases h with ⟨k, m, hm, e⟩ | ⟨k | ⟨k, hd⟩, a, ha, hc⟩
  · exact wpAny_loadName_local fk k hm e q
  · exact wpAny_loadName_cell fk k ha hc q
  · exact wpAny_loadName_free fk k ha hc q hd

theorem Ev.name {x : Str} {pos : Pos} {y : V} (h : ρ.lookup x = some y) (hd : (x == ("__debug__" : Str)) = false) : Ev c n env ρ (.Name x pos) y := .mk fun P A E s a F => by
  obtain ⟨v, h1, h2⟩ := F.var x y h
  exact wpAny_Name (load_var F.fk h1 ⟨h2, Step.refl a.inv⟩) hd

theorem Ev.binop {l r : Expr} {op : Operator} {pos : Pos} {a b y : V} (h1 : Ev c n env ρ l a) (h2 : Ev c n env ρ r b) (h3 : BinV c n op a b y) : Ev c n env ρ (.BinOp l op r pos) y := .mk fun P A E s at_ F =>
  wpAny_BinOp (wpAny_mono (h1.run P A E s at_ F) (fun va s₁ ⟨r1, st1⟩ => wpAny_mono (h2.run P A E s₁ (at_.step st1) (F.step st1 at_.inv)) (fun vb s₂ ⟨r2, st2⟩ =>
    wpAny_mono (h3.run P A E s₂ va vb ((at_.step st1).step st2) (st2.rep st1.inv r1) r2) (fun v s₃ ⟨r3, st3⟩ => ⟨r3, (st1.trans st2).trans st3⟩) fun _ _ e => e) fun _ _ e => e) fun _ _ e => e)

theorem Ev.unary {x : Expr} {op : UnaryOp} {pos : Pos} {a y : V} (h1 : Ev c n env ρ x a) (h2 : UnV c n op a y) : Ev c n env ρ (.UnaryOp op x pos) y := .mk fun P A E s at_ F =>
  wpAny_UnaryOp (wpAny_mono (h1.run P A E s at_ F) (fun va s₁ ⟨r1, st1⟩ => wpAny_mono (h2.run P A E s₁ va (at_.step st1) r1) (fun v s₂ ⟨r2, st2⟩ => ⟨r2, st1.trans st2⟩) fun _ _ e => e) fun _ _ e => e)

theorem Ev.cmp {l r : Expr} {op : CmpOp} {pos : Pos} {a b : V} {y : Bool} (h1 : Ev c n env ρ l a) (h2 : Ev c n env ρ r b) (h3 : CmpV c n op a b y) (hm : behindInMarks op r = false) : Ev c n env ρ (.Compare l [op] [r] pos) (.bool y) := .mk fun P A E s at_ F =>
  wpAny_Compare1 (wpAny_mono (h1.run P A E s at_ F) (fun va s₁ ⟨r1, st1⟩ => wpAny_mono (h2.run P A E s₁ (at_.step st1) (F.step st1 at_.inv)) (fun vb s₂ ⟨r2, st2⟩ =>
    wpAny_mono (h3.run P A E s₂ va vb ((at_.step st1).step st2) (st2.rep st1.inv r1) r2) (fun v s₃ ⟨r3, st3⟩ => ⟨by rw [r3]; unfold Rep; rfl, (st1.trans st2).trans st3⟩) fun _ _ e => e) fun _ _ e => e) fun _ _ e => e) hm

theorem Ev.ite {t x z : Expr} {pos : Pos} {b : Bool} {y1 y2 y : V} (h1 : Tst c n env ρ t b) (h2 : b = true → Ev c n env ρ x y1) (h3 : b = false → Ev c n env ρ z y2) (hy : y = if b then y1 else y2) : Ev c n env ρ (.IfExp t x z pos) y := .mk fun P A E s at_ F =>
  wpAny_IfExp (wpAny_mono (h1.run P A E s at_ F) (fun b' s₁ ⟨e, st1⟩ => by
    subst e
    cases b' with
    | true =>
      rw [if_pos rfl] at hy; subst hy
      exact wpAny_mono ((h2 rfl).run P A E s₁ (at_.step st1) (F.step st1 at_.inv)) (fun v s₂ ⟨r2, st2⟩ => ⟨r2, st1.trans st2⟩) fun _ _ e => e
    | false =>
      rw [if_neg Bool.false_ne_true] at hy; subst hy
      exact wpAny_mono ((h3 rfl).run P A E s₁ (at_.step st1) (F.step st1 at_.inv)) (fun v s₂ ⟨r2, st2⟩ => ⟨r2, st1.trans st2⟩) fun _ _ e => e) fun _ _ e => e)

theorem Ev.eq {e : Expr} {y y' : V} (h : Ev c n env ρ e y) (q : y = y') : Ev c n env ρ e y' := q ▸ h
theorem Tst.eq {e : Expr} {y y' : Bool} (h : Tst c n env ρ e y) (q : y = y') : Tst c n env ρ e y' := q ▸ h

theorem Tst.cmp {l r : Expr} {op : CmpOp} {pos : Pos} {a b : V} {y : Bool} (h1 : Ev c n env ρ l a) (h2 : Ev c n env ρ r b) (h3 : CmpV c n op a b y) (hm : behindInMarks op r = false) : Tst c n env ρ (.Compare l [op] [r] pos) y := .mk fun P A E s at_ F =>
  wpAny_isTrue_Compare1 (wpAny_mono (h1.run P A E s at_ F) (fun va s₁ ⟨r1, st1⟩ => wpAny_mono (h2.run P A E s₁ (at_.step st1) (F.step st1 at_.inv)) (fun vb s₂ ⟨r2, st2⟩ =>
    wpAny_mono (h3.run P A E s₂ va vb ((at_.step st1).step st2) (st2.rep st1.inv r1) r2) (fun v s₃ ⟨r3, st3⟩ => by subst r3; exact wpAny_truthy_bool ⟨rfl, (st1.trans st2).trans st3⟩) fun _ _ e => e) fun _ _ e => e) fun _ _ e => e) hm
theorem Tst.not {x : Expr} {pos : Pos} {b : Bool} (h : Tst c n env ρ x b) : Tst c n env ρ (.UnaryOp .Not x pos) (!b) := .mk fun P A E s at_ F =>
  wpAny_isTrue_Not (wpAny_mono (h.run P A E s at_ F) (fun b' s₁ ⟨e, st⟩ => ⟨by rw [e], st⟩) fun _ _ e => e)
theorem Tst.val {e : Expr} {a : V} {b : Bool} (h : Ev c n env ρ e a) (h2 : TruV c n a b) (he : ∀ whole, isTrue e env whole = (do let v ← whole; standAt e.pos; holding [v] (truthy v))) : Tst c n env ρ e b := .mk fun P A E s at_ F =>
  wpAny_isTrue_value (wpAny_mono (h.run P A E s at_ F) (fun v s₁ ⟨r, st⟩ => wpAny_mono (h2.run P A E s₁ v (at_.step st) r) (fun b' s₂ ⟨e, st2⟩ => ⟨e, st.trans st2⟩) fun _ _ e => e) fun _ _ e => e) (he _)
theorem Tst.bools {op : BoolOp} {es : List Expr} {pos : Pos} {b : Bool} (h : Tsts c n env ρ op es b) : Tst c n env ρ (.BoolOp op es pos) b := .mk fun P A E s at_ F =>
  wpAny_isTrue_BoolOp (h.run P A E s at_ F)
theorem Tsts.and_nil : Tsts c n env ρ .And [] true := .mk fun P A E s at_ _ => wpAny_allTrue_And_nil ⟨rfl, Step.refl at_.inv⟩
theorem Tsts.or_nil : Tsts c n env ρ .Or [] false := .mk fun P A E s at_ _ => wpAny_allTrue_Or_nil ⟨rfl, Step.refl at_.inv⟩
theorem Tsts.and {e : Expr} {es : List Expr} {a b : Bool} (h1 : Tst c n env ρ e a) (h2 : a = true → Tsts c n env ρ .And es b) : Tsts c n env ρ .And (e :: es) (a && b) := .mk fun P A E s at_ F =>
  wpAny_allTrue_And_cons (wpAny_mono (h1.run P A E s at_ F) (fun b' s₁ ⟨e, st⟩ => by
    subst e
    cases b' with
    | true => exact wpAny_mono ((h2 rfl).run P A E s₁ (at_.step st) (F.step st at_.inv)) (fun b'' s₂ ⟨e, st2⟩ => ⟨by simp [e], st.trans st2⟩) fun _ _ e => e
    | false => exact ⟨rfl, st⟩) fun _ _ e => e)
theorem Tsts.or {e : Expr} {es : List Expr} {a b : Bool} (h1 : Tst c n env ρ e a) (h2 : a = false → Tsts c n env ρ .Or es b) : Tsts c n env ρ .Or (e :: es) (a || b) := .mk fun P A E s at_ F =>
  wpAny_allTrue_Or_cons (wpAny_mono (h1.run P A E s at_ F) (fun b' s₁ ⟨e, st⟩ => by
    subst e
    cases b' with
    | false => exact wpAny_mono ((h2 rfl).run P A E s₁ (at_.step st) (F.step st at_.inv)) (fun b'' s₂ ⟨e, st2⟩ => ⟨by simp [e], st.trans st2⟩) fun _ _ e => e
    | true => exact ⟨rfl, st⟩) fun _ _ e => e)

theorem Ev.and2 {x z : Expr} {pos : Pos} {a b y : V} {t : Bool} (h1 : Ev c n env ρ x a) (ht : TruV c n a t) (h2 : t = true → Ev c n env ρ z b) (hy : y = if t then b else a) : Ev c n env ρ (.BoolOp .And [x, z] pos) y := .mk fun P A E s at_ F =>
  wpAny_And2 (wpAny_mono (h1.run P A E s at_ F) (fun v s₁ ⟨r, st⟩ => wpAny_mono (ht.run P A E s₁ v (at_.step st) r) (fun t' s₂ ⟨e, st2⟩ => by
    subst e
    cases t' with
    | true =>
      subst hy
      exact wpAny_mono ((h2 rfl).run P A E s₂ ((at_.step st).step st2) ((F.step st at_.inv).step st2 st.inv)) (fun v' s₃ ⟨r3, st3⟩ => ⟨r3, (st.trans st2).trans st3⟩) fun _ _ e => e
    | false => subst hy; exact ⟨st2.rep st.inv r, st.trans st2⟩) fun _ _ e => e) fun _ _ e => e)
theorem Ev.or2 {x z : Expr} {pos : Pos} {a b y : V} {t : Bool} (h1 : Ev c n env ρ x a) (ht : TruV c n a t) (h2 : t = false → Ev c n env ρ z b) (hy : y = if t then a else b) : Ev c n env ρ (.BoolOp .Or [x, z] pos) y := .mk fun P A E s at_ F =>
  wpAny_Or2 (wpAny_mono (h1.run P A E s at_ F) (fun v s₁ ⟨r, st⟩ => wpAny_mono (ht.run P A E s₁ v (at_.step st) r) (fun t' s₂ ⟨e, st2⟩ => by
    subst e
    cases t' with
    | false =>
      subst hy
      exact wpAny_mono ((h2 rfl).run P A E s₂ ((at_.step st).step st2) ((F.step st at_.inv).step st2 st.inv)) (fun v' s₃ ⟨r3, st3⟩ => ⟨r3, (st.trans st2).trans st3⟩) fun _ _ e => e
    | true => subst hy; exact ⟨st2.rep st.inv r, st.trans st2⟩) fun _ _ e => e) fun _ _ e => e)

theorem Evs.nil : Evs c n env ρ [] [] := .mk fun P A E s pos at_ _ => wpAny_items_nil ⟨Reps.nil, Step.refl at_.inv⟩
theorem Evs.cons {e : Expr} {es : List Expr} {y : V} {ys : List V} (h1 : Ev c n env ρ e y) (h2 : Evs c n env ρ es ys) (he : starEach (e :: es) env = (false, eval e env) :: starEach es env) : Evs c n env ρ (e :: es) (y :: ys) := .mk fun P A E s pos at_ F =>
  wpAny_items_cons (wpAny_mono (h1.run P A E s at_ F) (fun v s₁ ⟨r, st⟩ => wpAny_mono (h2.run P A E s₁ pos (at_.step st) (F.step st at_.inv)) (fun vs s₂ ⟨rs, st2⟩ => ⟨Reps.cons (st2.rep st.inv r) rs, st.trans st2⟩) fun _ _ e => e) fun _ _ e => e) he

theorem Ev.tuple {es : List Expr} {k : Nat} {pos : Pos} {ys : List V} (h : Evs c n env ρ es ys) (hl : ys.length ≤ lim) : Ev c n env ρ (.Tuple es k pos) (.tup ys) := .mk fun P A E s at_ F =>
  wpAny_Tuple (wpAny_mono (h.run P A E s pos at_ F) (fun vs s₁ ⟨rs, st⟩ => by
    have hlen : vs.length ≤ lim := by rw [rs.length]; exact hl
    have st' : Step c s₁ { s₁ with heap := s₁.heap.push { cls := .type "tuple", data := .seq vs.toArray } } := Step.of st.inv fun b o e => Heap.get?_push_of_some _ e
    refine ⟨Nat.le_trans hlen (by rw [sizeLine_eq]; decide), ?_, st.trans st'⟩
    unfold Rep
    refine ⟨_, vs, rfl, (at_.fresh.step st at_.inv) _ ?_, ⟨_, Heap.get?_push_size _ rfl, rfl, _, rfl⟩, hlen, st'.reps st.inv rs⟩
    exact Heap.get?_none_of_le (Nat.le_refl _)) fun _ _ e => e)
theorem Ev.list {es : List Expr} {pos : Pos} {ys : List V} (h : Evs c n env ρ es ys) (hl : ys.length ≤ lim) : Ev c n env ρ (.List es pos) (.list ys) := .mk fun P A E s at_ F =>
  wpAny_List (wpAny_mono (h.run P A E s pos at_ F) (fun vs s₁ ⟨rs, st⟩ => by
    have hlen : vs.length ≤ lim := by rw [rs.length]; exact hl
    have st' : Step c s₁ { s₁ with heap := s₁.heap.push { cls := .type "list", data := .seq vs.toArray } } := Step.of st.inv fun b o e => Heap.get?_push_of_some _ e
    refine ⟨Nat.le_trans hlen (by rw [sizeLine_eq]; decide), ?_, st.trans st'⟩
    unfold Rep
    refine ⟨_, vs, rfl, (at_.fresh.step st at_.inv) _ ?_, ⟨_, Heap.get?_push_size _ rfl⟩, hlen, st'.reps st.inv rs⟩
    exact Heap.get?_none_of_le (Nat.le_refl _)) fun _ _ e => e)
end


theorem sl_lim {n : Nat} (h : n ≤ lim) : n ≤ sizeLine := Nat.le_trans h (by rw [sizeLine_eq]; decide)
theorem rep_int {P : Addr → Prop} {h : Heap} {i : Int} {t : Tok} : Rep P h (.int i) (.int i t) := by unfold Rep; exact ⟨t, rfl⟩
theorem rep_bool {P : Addr → Prop} {h : Heap} {b : Bool} : Rep P h (.bool b) (.bool b) := by unfold Rep; rfl
theorem rep_none {P : Addr → Prop} {h : Heap} : Rep P h .none .none := by unfold Rep; rfl
theorem rep_str {P : Addr → Prop} {h : Heap} {x : Str} {t : Tok} (hx : x.length ≤ lim) : Rep P h (.str x) (.str x t) := by unfold Rep; exact ⟨hx, t, rfl⟩
theorem Rep.int_inv {P : Addr → Prop} {h : Heap} {i : Int} {v : Value} (r : Rep P h (.int i) v) : ∃ t, v = .int i t := by unfold Rep at r; exact r
theorem Rep.bool_inv {P : Addr → Prop} {h : Heap} {i : Bool} {v : Value} (r : Rep P h (.bool i) v) : v = .bool i := by unfold Rep at r; exact r
theorem Rep.none_inv {P : Addr → Prop} {h : Heap} {v : Value} (r : Rep P h .none v) : v = .none := by unfold Rep at r; exact r
theorem Rep.str_inv {P : Addr → Prop} {h : Heap} {x : Str} {v : Value} (r : Rep P h (.str x) v) : x.length ≤ lim ∧ ∃ t, v = .str x t := by unfold Rep at r; exact r
theorem Rep.list_inv {P : Addr → Prop} {h : Heap} {l : List V} {v : Value} (r : Rep P h (.list l) v) : ∃ a vs, v = .ref a ∧ P a ∧ h.PlainList a (List.toArray vs) ∧ vs.length ≤ lim ∧ Reps P h l vs := by unfold Rep at r; exact r
theorem Rep.tup_inv {P : Addr → Prop} {h : Heap} {l : List V} {v : Value} (r : Rep P h (.tup l) v) : ∃ a vs, v = .ref a ∧ P a ∧ IsTup h a (List.toArray vs) ∧ vs.length ≤ lim ∧ Reps P h l vs := by unfold Rep at r; exact r

theorem Step.push {c : Cx} {s : Shared} (I : Inv c s) (o : Obj) : Step c s { s with heap := s.heap.push o } := Step.of I fun b x e => Heap.get?_push_of_some _ e
theorem Step.push' {c : Cx} {s : Shared} (I : Inv c s) (o : Obj) {tk : Nat} : Step c s { s with heap := s.heap.push o, toks := tk } := Step.of I fun b x e => Heap.get?_push_of_some _ e

/-- a list that has just been laid at the heap's end -/
theorem rep_new_list {c : Cx} {n : Nat} {A : Around} {P : Addr → Prop} {s : Shared} (a : At c n A P s) {l : List V} {vs : List Value} {k : Nat} {tk : Nat} (rs : Reps P s.heap l vs) (hl : l.length ≤ lim) :
    Rep P (s.heap.push { cls := .type "list", data := .seq vs.toArray k }) (.list l) (.ref s.heap.objs.size) ∧ Step c s { s with heap := s.heap.push { cls := .type "list", data := .seq vs.toArray k }, toks := tk } := by
  have st := Step.push' a.inv { cls := .type "list", data := .seq vs.toArray k } (tk := tk)
  refine ⟨?_, st⟩
  unfold Rep
  exact ⟨_, vs, rfl, a.fresh _ (Heap.get?_none_of_le (Nat.le_refl _)), ⟨_, Heap.get?_push_size _ rfl⟩, by rw [rs.length]; exact hl, st.reps a.inv rs⟩
theorem rep_new_tup {c : Cx} {n : Nat} {A : Around} {P : Addr → Prop} {s : Shared} (a : At c n A P s) {l : List V} {vs : List Value} {k : Nat} {tk : Nat} (rs : Reps P s.heap l vs) (hl : l.length ≤ lim) :
    Rep P (s.heap.push { cls := .type "tuple", data := .seq vs.toArray k }) (.tup l) (.ref s.heap.objs.size) ∧ Step c s { s with heap := s.heap.push { cls := .type "tuple", data := .seq vs.toArray k }, toks := tk } := by
  have st := Step.push' a.inv { cls := .type "tuple", data := .seq vs.toArray k } (tk := tk)
  refine ⟨?_, st⟩
  unfold Rep
  exact ⟨_, vs, rfl, a.fresh _ (Heap.get?_none_of_le (Nat.le_refl _)), ⟨_, Heap.get?_push_size _ rfl, rfl, _, rfl⟩, by rw [rs.length]; exact hl, st.reps a.inv rs⟩

section
variable {c : Cx} {n : Nat}

theorem BinV.add_int {a b : Int} : BinV c n .Add (.int a) (.int b) (.int (a + b)) := .mk fun P A E s va vb at_ ra rb => by
  obtain ⟨t, rfl⟩ := ra.int_inv; obtain ⟨u, rfl⟩ := rb.int_inv
  exact PyProof.Rows.add_int ⟨rep_int, Step.toks at_.inv⟩
theorem BinV.sub_int {a b : Int} : BinV c n .Sub (.int a) (.int b) (.int (a - b)) := .mk fun P A E s va vb at_ ra rb => by
  obtain ⟨t, rfl⟩ := ra.int_inv; obtain ⟨u, rfl⟩ := rb.int_inv
  exact PyProof.Rows.sub_int ⟨rep_int, Step.toks at_.inv⟩
theorem mulOk_small {a b : Int} (h : a.natAbs < 2 ^ 64 ∨ b.natAbs < 2 ^ 64) : IntMulOk a b := by
  unfold IntMulOk
  intro q
  rw [Bool.and_eq_true, Bool.and_eq_true] at q
  obtain ⟨⟨q1, q2⟩, _⟩ := q
  have q1 := of_decide_eq_true q1
  have q2 := of_decide_eq_true q2
  have e : shortFactorBits = 64 := rfl
  rw [e] at q1 q2
  rcases h with h | h
  · have := intBits_le_64 (k := a) (by omega) (by omega); omega
  · have := intBits_le_64 (k := b) (by omega) (by omega); omega
theorem BinV.mul_int {a b : Int} (h : a.natAbs < 2 ^ 64 ∨ b.natAbs < 2 ^ 64) : BinV c n .Mult (.int a) (.int b) (.int (a * b)) := .mk fun P A E s va vb at_ ra rb => by
  obtain ⟨t, rfl⟩ := ra.int_inv; obtain ⟨u, rfl⟩ := rb.int_inv
  exact PyProof.Rows.mul_int ⟨rep_int, Step.toks at_.inv⟩ (mulOk_small h)
theorem BinV.div_int {a b : Int} (hb : b ≠ 0) (h : b.natAbs < 1073741824) : BinV c n .FloorDiv (.int a) (.int b) (.int (a.fdiv b)) := .mk fun P A E s va vb at_ ra rb => by
  obtain ⟨t, rfl⟩ := ra.int_inv; obtain ⟨u, rfl⟩ := rb.int_inv
  exact PyProof.Rows.floordiv_int hb ⟨rep_int, Step.toks at_.inv⟩ (.inl (PyProof.noPylong_small h))
theorem BinV.mod_int {a b : Int} (hb : b ≠ 0) : BinV c n .Mod (.int a) (.int b) (.int (a.fmod b)) := .mk fun P A E s va vb at_ ra rb => by
  obtain ⟨t, rfl⟩ := ra.int_inv; obtain ⟨u, rfl⟩ := rb.int_inv
  exact PyProof.Rows.mod_int' hb ⟨rep_int, Step.toks at_.inv⟩
theorem BinV.pow_int {a b : Int} (hb : 0 ≤ b) (h : (Builtin.Int.intBits a : Int) * b ≤ 2 ^ 27) : BinV c n .Pow (.int a) (.int b) (.int (a ^ b.toNat)) := .mk fun P A E s va vb at_ ra rb => by
  obtain ⟨t, rfl⟩ := ra.int_inv; obtain ⟨u, rfl⟩ := rb.int_inv
  exact PyProof.Rows.pow_int hb h ⟨rep_int, Step.toks at_.inv⟩
theorem BinV.sub_bool {a b : Bool} : BinV c n .Sub (.bool a) (.bool b) (.int ((if a then 1 else 0) - (if b then 1 else 0))) := .mk fun P A E s va vb at_ ra rb => by
  obtain rfl := ra.bool_inv; obtain rfl := rb.bool_inv
  exact PyProof.Rows.sub_bool ⟨by cases a <;> cases b <;> exact rep_int, Step.toks at_.inv⟩
theorem BinV.add_str {a b : Str} (h : a.length + b.length ≤ lim) : BinV c n .Add (.str a) (.str b) (.str (a ++ b)) := .mk fun P A E s va vb at_ ra rb => by
  obtain ⟨ha, t, rfl⟩ := ra.str_inv; obtain ⟨hb, u, rfl⟩ := rb.str_inv
  exact PyProof.Rows.add_str (fun t' tk => ⟨rep_str (by rw [Str.length_append]; exact h), Step.toks at_.inv⟩) (sl_lim h)
theorem BinV.mul_str {a : Str} {k : Int} (hk : -(2 ^ 63 : Int) ≤ k) (hk2 : k ≤ 4096) (ha : a.length ≤ 256) : BinV c n .Mult (.str a) (.int k) (.str (Txt.mul a k)) := .mk fun P A E s va vb at_ ra rb => by
  obtain ⟨_, t, rfl⟩ := ra.str_inv; obtain ⟨u, rfl⟩ := rb.int_inv
  refine SB.mul (mulOk_of 256 4096 ha hk2 hk (by decide) (by decide)) fun t' k' => ⟨rep_str ?_, Step.toks at_.inv⟩
  exact Nat.le_trans (len_mul_leN (N := 4096) ha hk2) (by decide)

theorem BinV.add_list {a b : List V} (h : a.length + b.length ≤ lim) : BinV c n .Add (.list a) (.list b) (.list (a ++ b)) := .mk fun P A E s va vb at_ ra rb => by
  obtain ⟨l, vs, rfl, _, hl, _, rs⟩ := ra.list_inv; obtain ⟨l', ws, rfl, _, hl', _, rs'⟩ := rb.list_inv
  obtain ⟨n, ho⟩ := id hl
  obtain ⟨n2, ho2⟩ := id hl'
  have e : vs.toArray ++ ws.toArray = (vs ++ ws).toArray := by simp
  refine concat_meets ⟨_, ho, rfl⟩ ⟨_, ho2, rfl⟩ noFill_list_add seq_list_add PySem.F.slot_list_add PySem.F.entry_list_add (PySem.F.args_list_add_2 _ _)
    (list_addW l l' vs.toArray ws.toArray n n2 _ _ _ _ (by simpa [rs.length, rs'.length] using sl_lim h)) ⟨ho, ho2, ?_⟩
  rw [e]
  exact rep_new_list at_ (rs.append rs') (by simpa using h)

theorem Reps.flat {P : Addr → Prop} {h : Heap} {l : List V} {vs : List Value} (r : Reps P h l vs) : ∀ k : Nat, Reps P h (List.replicate k l).flatten (List.replicate k vs).flatten
  | 0 => by simpa using Reps.nil
  | k + 1 => by simpa [List.replicate_succ] using r.append (r.flat k)

theorem BinV.mul_list {a : List V} {k : Int} (hk : -(2 ^ 63 : Int) ≤ k) (hk2 : k < 2 ^ 63) (hs : a.length * k.toNat ≤ lim) : BinV c n .Mult (.list a) (.int k) (.list (List.replicate k.toNat a).flatten) := .mk fun P A E s va vb at_ ra rb => by
  obtain ⟨l, vs, rfl, _, hl, _, rs⟩ := ra.list_inv; obtain ⟨u, rfl⟩ := rb.int_inv
  obtain ⟨k', ho⟩ := id hl
  have hsz' : vs.toArray.size * k.toNat ≤ 2 ^ 24 := by
    have := sl_lim hs
    rw [sizeLine_eq] at this
    simpa [rs.length] using this
  refine wpAny_binaryOp_repeat_ref (T := "list") (U := "int") (by decide) ⟨_, ho, rfl⟩ (fun s' => typeIs_int s' k u) noFill_list_mul F.fills_int_mul F.slot_int_rmul repeat_list F.slot_int_index.lookup
    (call_meets F.slot_int_rmul (typeIs_int s k u) F.entry_int_rmul (F.args_int_rmul_2 _ _) (lm_int_rmul_list_any k u l vs.toArray k' _ _)
      ⟨ho, rfl, ⟨_, ho, rfl⟩, call_meets F.slot_list_mul ⟨_, ho, rfl⟩ F.entry_list_mul (F.args_list_mul_2 _ _)
        (lm_list_mul_any l vs.toArray k' _ _ k u (by simp [Builtin.List.listFitsIndex]; omega) (by omega) (by simp [Builtin.List.listTooLong, sizeLine]; omega))
        ⟨ho, ?_⟩⟩)
  rw [listMul_foldl_if]
  exact rep_new_list at_ (rs.flat _) (by simpa [Nat.mul_comm] using hs)

theorem UnV.neg {a : Int} : UnV c n .USub (.int a) (.int (-a)) := .mk fun P A E s va at_ ra => by
  obtain ⟨t, rfl⟩ := ra.int_inv
  exact PyProof.Rows.neg_int ⟨rep_int, Step.toks at_.inv⟩
theorem UnV.inv {a : Int} : UnV c n .Invert (.int a) (.int (Builtin.bitNot a)) := .mk fun P A E s va at_ ra => by
  obtain ⟨t, rfl⟩ := ra.int_inv
  exact PyProof.Rows.invert_int ⟨rep_int, Step.toks at_.inv⟩
theorem UnV.not {a : V} {b : Bool} (h : TruV c n a b) : UnV c n .Not a (.bool (!b)) := .mk fun P A E s va at_ ra =>
  not_value (wpAny_mono (h.run P A E s va at_ ra) (fun v s' ⟨e, st⟩ => ⟨by rw [e]; exact rep_bool, st⟩) fun _ _ e => e)

theorem TruV.bool {b : Bool} : TruV c n (.bool b) b := .mk fun P A E s va at_ ra => by
  obtain rfl := ra.bool_inv
  exact wpAny_truthy_bool ⟨rfl, Step.refl at_.inv⟩
theorem TruV.int {a : Int} : TruV c n (.int a) (a != 0) := .mk fun P A E s va at_ ra => by
  obtain ⟨t, rfl⟩ := ra.int_inv
  exact PySem.P.truthy_int ⟨rfl, Step.refl at_.inv⟩
theorem TruV.str {x : Str} : TruV c n (.str x) (x.length != 0) := .mk fun P A E s va at_ ra => by
  obtain ⟨h, t, rfl⟩ := ra.str_inv
  refine PySem.P.truthy_str (by have : lim = 1048576 := rfl; omega) ⟨?_, Step.toks at_.inv⟩
  rw [Bool.eq_iff_iff]; simp only [bne_iff_ne, ne_eq]; omega

theorem CmpV.lt {a b : Int} : CmpV c n .Lt (.int a) (.int b) (decide (a < b)) := .mk fun P A E s va vb at_ ra rb => by
  obtain ⟨t, rfl⟩ := ra.int_inv; obtain ⟨u, rfl⟩ := rb.int_inv
  exact PySem.P.lt_int ⟨rfl, Step.refl at_.inv⟩
theorem CmpV.le {a b : Int} : CmpV c n .LtE (.int a) (.int b) (decide (a ≤ b)) := .mk fun P A E s va vb at_ ra rb => by
  obtain ⟨t, rfl⟩ := ra.int_inv; obtain ⟨u, rfl⟩ := rb.int_inv
  exact PySem.P.le_int ⟨rfl, Step.refl at_.inv⟩
theorem CmpV.gt {a b : Int} : CmpV c n .Gt (.int a) (.int b) (decide (a > b)) := .mk fun P A E s va vb at_ ra rb => by
  obtain ⟨t, rfl⟩ := ra.int_inv; obtain ⟨u, rfl⟩ := rb.int_inv
  exact PySem.P.gt_int ⟨rfl, Step.refl at_.inv⟩
theorem CmpV.ge {a b : Int} : CmpV c n .GtE (.int a) (.int b) (decide (a ≥ b)) := .mk fun P A E s va vb at_ ra rb => by
  obtain ⟨t, rfl⟩ := ra.int_inv; obtain ⟨u, rfl⟩ := rb.int_inv
  exact PySem.P.ge_int ⟨rfl, Step.refl at_.inv⟩
theorem CmpV.eq {a b : Int} : CmpV c n .Eq (.int a) (.int b) (a == b) := .mk fun P A E s va vb at_ ra rb => by
  obtain ⟨t, rfl⟩ := ra.int_inv; obtain ⟨u, rfl⟩ := rb.int_inv
  exact PySem.P.eq_int ⟨rfl, Step.refl at_.inv⟩
theorem CmpV.ne {a b : Int} : CmpV c n .NotEq (.int a) (.int b) (a != b) := .mk fun P A E s va vb at_ ra rb => by
  obtain ⟨t, rfl⟩ := ra.int_inv; obtain ⟨u, rfl⟩ := rb.int_inv
  exact PySem.P.ne_int ⟨rfl, Step.refl at_.inv⟩
theorem CmpV.ne_bool {a b : Bool} : CmpV c n .NotEq (.bool a) (.bool b) (a != b) := .mk fun P A E s va vb at_ ra rb => by
  obtain rfl := ra.bool_inv; obtain rfl := rb.bool_inv
  exact PyProof.Rows.ne_bool ⟨rfl, Step.refl at_.inv⟩
theorem CmpV.eq_str {a b : Str} : CmpV c n .Eq (.str a) (.str b) (a == b) := .mk fun P A E s va vb at_ ra rb => by
  obtain ⟨_, t, rfl⟩ := ra.str_inv; obtain ⟨_, u, rfl⟩ := rb.str_inv
  exact PyProof.Rows.eq_str ⟨rfl, Step.refl at_.inv⟩
theorem CmpV.ne_str {a b : Str} : CmpV c n .NotEq (.str a) (.str b) (a != b) := .mk fun P A E s va vb at_ ra rb => by
  obtain ⟨_, t, rfl⟩ := ra.str_inv; obtain ⟨_, u, rfl⟩ := rb.str_inv
  exact PyProof.Rows.ne_str ⟨rfl, Step.refl at_.inv⟩
theorem CmpV.lt_str {a b : Str} : CmpV c n .Lt (.str a) (.str b) (decide (a.cps.toList < b.cps.toList)) := .mk fun P A E s va vb at_ ra rb => by
  obtain ⟨_, t, rfl⟩ := ra.str_inv; obtain ⟨_, u, rfl⟩ := rb.str_inv
  exact PyProof.Rows.lt_str ⟨rfl, Step.refl at_.inv⟩
theorem CmpV.gt_str {a b : Str} : CmpV c n .Gt (.str a) (.str b) (decide (b.cps.toList < a.cps.toList)) := .mk fun P A E s va vb at_ ra rb => by
  obtain ⟨_, t, rfl⟩ := ra.str_inv; obtain ⟨_, u, rfl⟩ := rb.str_inv
  exact PySem.P.gt_str ⟨rfl, Step.refl at_.inv⟩
theorem CmpV.in_str {a b : Str} : CmpV c n .In (.str a) (.str b) (Txt.contains b a) := .mk fun P A E s va vb at_ ra rb => by
  obtain ⟨_, t, rfl⟩ := ra.str_inv; obtain ⟨_, u, rfl⟩ := rb.str_inv
  exact SB.contains ⟨rfl, Step.refl at_.inv⟩

mutual
noncomputable def V.data : V → PyData
  | .none => .none
  | .bool b => .bool b
  | .int i => .int i
  | .str x => .str x
  | .list l => .list (V.datas l)
  | .tup l => .tuple (V.datas l)
noncomputable def V.datas : List V → List PyData
  | [] => []
  | x :: r => x.data :: V.datas r
end
mutual
theorem Rep.reads {P : Addr → Prop} {h : Heap} : ∀ {x : V} {v : Value}, Rep P h x v → ∃ as, Reads h v x.data as
  | .none, v, r => by rw [r.none_inv]; exact ⟨_, .none⟩
  | .bool b, v, r => by rw [r.bool_inv]; exact ⟨_, .bool b⟩
  | .int i, v, r => by obtain ⟨t, rfl⟩ := r.int_inv; exact ⟨_, .int i t⟩
  | .str x, v, r => by obtain ⟨_, t, rfl⟩ := r.str_inv; exact ⟨_, .str x t⟩
  | .list l, v, r => by
    obtain ⟨a, vs, rfl, _, hl, _, rs⟩ := r.list_inv
    obtain ⟨o, ho, hc, n, hd⟩ := hl.isList
    obtain ⟨as, h'⟩ := Reps.reads rs
    exact ⟨_, .list ho hc hd (by simpa using h')⟩
  | .tup l, v, r => by
    obtain ⟨a, vs, rfl, _, ⟨o, ho, hc, n, hd⟩, _, rs⟩ := r.tup_inv
    obtain ⟨as, h'⟩ := Reps.reads rs
    exact ⟨_, .tuple ho hc hd (by simpa using h')⟩
theorem Reps.reads {P : Addr → Prop} {h : Heap} : ∀ {x : List V} {v : List Value}, Reps P h x v → ∃ as, ReadsAll h v (V.datas x) as
  | [], v, r => by rw [r.nil_inv]; exact ⟨_, .nil⟩
  | x :: xs, v, r => by
    obtain ⟨v, w, rfl, r1, r2⟩ := r.cons_inv
    obtain ⟨as, h1⟩ := Rep.reads r1
    obtain ⟨bs, h2⟩ := Reps.reads r2
    exact ⟨_, .cons h1 h2⟩
end

theorem Room.units {n : Nat} {A : Around} (r : Room n A) {k : Nat} (h : k ≤ 800) : A.units + k < cLine := by
  have := r.2.2; rw [cLine_is]; omega

theorem CmpV.eq_data {a b : V} (ha : SeqAt.shaped a.data = true) (hb : SeqAt.shaped b.data = true) : CmpV c n .Eq a b (PyData.eqv a.data b.data) := .mk fun P A E s va vb at_ ra rb => by
  obtain ⟨as, h1⟩ := ra.reads; obtain ⟨bs, h2⟩ := rb.reads
  exact PyProof.Rows.eq_dataH h1 h2 ha hb (at_.room.units (by decide)) ⟨rfl, Step.refl at_.inv⟩
theorem CmpV.ne_data {a b : V} (ha : SeqAt.shaped a.data = true) (hb : SeqAt.shaped b.data = true) : CmpV c n .NotEq a b (!PyData.eqv a.data b.data) := .mk fun P A E s va vb at_ ra rb => by
  obtain ⟨as, h1⟩ := ra.reads; obtain ⟨bs, h2⟩ := rb.reads
  exact PyProof.Rows.ne_dataH h1 h2 ha hb (at_.room.units (by decide)) ⟨rfl, Step.refl at_.inv⟩
end


noncomputable abbrev V.s (l : List Nat) : V := .str ⟨l.toArray⟩

inductive Ix where
  | val (y : V)
  | slice (lo hi st : Option Int)
noncomputable def RepIx (P : Addr → Prop) (h : Heap) : Ix → Value → Prop
  | .val y, v => Rep P h y v
  | .slice lo hi st, v => ∃ a vl vu vs, v = .ref a ∧ h.IsSliceOf a vl vu vs ∧ IsPart vl lo ∧ IsPart vu hi ∧ IsPart vs st

structure EvIx (c : Cx) (n : Nat) (env : Env) (ρ : List (Str × V)) (e : Expr) (ix : Ix) : Prop where
  run : ∀ P A E s, At c n A P s → FrameAt P s.heap env ρ → wpAny (model c.prog c.w) A (eval e env) (fun v s' => RepIx P s'.heap ix v ∧ Step c s s') E s
structure EvPart (c : Cx) (n : Nat) (env : Env) (ρ : List (Str × V)) (e : Option Expr) (p : Option Int) : Prop where
  run : ∀ P A E s, At c n A P s → FrameAt P s.heap env ρ → wpAny (model c.prog c.w) A (evalPart e env) (fun v s' => IsPart v p ∧ Step c s s') E s
structure SubV (c : Cx) (n : Nat) (a : V) (ix : Ix) (y : V) : Prop where
  run : ∀ P A E s va vi, At c n A P s → Rep P s.heap a va → RepIx P s.heap ix vi →
    (∃ T id, s.TypeIs va T ∧ typeLookup (.type T) "__getitem__" = pure (some (.builtin id))) ∧ wpAny (model c.prog c.w) A (getItem va vi) (fun v s' => Rep P s'.heap y v ∧ Step c s s') E s

/-- the items that a slice takes -/
noncomputable def pick {α : Type} (l : List α) (lo hi st : Option Int) : List α :=
  (sliceRange (sliceBounds lo hi st l.length).1 (sliceBounds lo hi st l.length).2.1 (sliceBounds lo hi st l.length).2.2).filterMap (l[·]?)

theorem subscripted_is (slice : Expr) (o i : Value) : ∃ l, subscripted slice false o i = operate l (getItem o i) := by
  unfold subscripted
  split
  · exact ⟨_, rfl⟩
  · rename_i h; cases h
  · exact ⟨_, rfl⟩

theorem operate_any {M : Model} {A : Around} {E : Value → Shared → Prop} {s : Shared} {vs : List Value} {m : Sem Value} {Q : Value → Shared → Prop} (h : wpAny M A m Q E s) : wpAny M A (operate vs m) Q E s :=
  fun Γ p hΓ => by rw [Sem.wp_operate]; exact h Γ p hΓ

section
variable {c : Cx} {n : Nat} {env : Env} {ρ : List (Str × V)}

theorem EvIx.val {e : Expr} {y : V} (h : Ev c n env ρ e y) : EvIx c n env ρ e (.val y) := .mk fun P A E s a F => h.run P A E s a F
theorem EvPart.none : EvPart c n env ρ Option.none Option.none := .mk fun P A E s a F => wpAny_pure ⟨.none, Step.refl a.inv⟩
theorem EvPart.some {e : Expr} {i : Int} (h : Ev c n env ρ e (.int i)) : EvPart c n env ρ (Option.some e) (Option.some i) := .mk fun P A E s a F =>
  wpAny_mono (h.run P A E s a F) (fun v s' ⟨r, st⟩ => by obtain ⟨t, rfl⟩ := r.int_inv; exact ⟨.int i t, st⟩) fun _ _ e => e
theorem EvPart.no {e : Expr} (h : Ev c n env ρ e .none) : EvPart c n env ρ (Option.some e) Option.none := .mk fun P A E s a F =>
  wpAny_mono (h.run P A E s a F) (fun v s' ⟨r, st⟩ => by rw [r.none_inv]; exact ⟨.none, st⟩) fun _ _ e => e

theorem isSliceOf_step {s s' : Shared} (st : Step c s s') (I : Inv c s) {a : Addr} {l u t : Value} (h : s.heap.IsSliceOf a l u t) : s'.heap.IsSliceOf a l u t :=
  let ⟨o, ho, hc, hd⟩ := h; ⟨o, st.get I ho (.inl (by rw [hc]; nofun)), hc, hd⟩

theorem EvIx.slice {lo hi st : Option Expr} {p : Pos} {a b d : Option Int} (h1 : EvPart c n env ρ lo a) (h2 : EvPart c n env ρ hi b) (h3 : EvPart c n env ρ st d) : EvIx c n env ρ (.Slice lo hi st p) (.slice a b d) := .mk fun P A E s at_ F =>
  wpAny_Slice (wpAny_mono (h1.run P A E s at_ F) (fun v1 s₁ ⟨r1, st1⟩ => wpAny_mono (h2.run P A E s₁ (at_.step st1) (F.step st1 at_.inv)) (fun v2 s₂ ⟨r2, st2⟩ =>
    wpAny_mono (h3.run P A E s₂ ((at_.step st1).step st2) ((F.step st1 at_.inv).step st2 st1.inv)) (fun v3 s₃ ⟨r3, st3⟩ =>
      ⟨⟨_, _, _, _, rfl, Heap.IsSliceOf.new .., r1, r2, r3⟩, ((st1.trans st2).trans st3).trans (Step.push st3.inv _)⟩) fun _ _ e => e) fun _ _ e => e) fun _ _ e => e)

theorem RepIx.step {s s' : Shared} {P : Addr → Prop} {ix : Ix} {v : Value} (st : Step c s s') (I : Inv c s) (r : RepIx P s.heap ix v) : RepIx P s'.heap ix v := by
  cases ix with
  | val y => exact st.rep I r
  | slice lo hi d => obtain ⟨a, vl, vu, vs, e, h, r⟩ := r; exact ⟨a, vl, vu, vs, e, isSliceOf_step st I h, r⟩

theorem Ev.sub {value slice : Expr} {pos : Pos} {a y : V} {ix : Ix} (h1 : Ev c n env ρ value a) (h2 : EvIx c n env ρ slice ix) (h3 : SubV c n a ix y) : Ev c n env ρ (.Subscript value slice pos) y := .mk fun P A E s at_ F => by
  rw [eval_Subscript]
  refine wpAny_bind (wpAny_mono (h1.run P A E s at_ F) (fun o s₁ ⟨r1, st1⟩ => wpAny_bind (wpAny_holding (wpAny_mono (h2.run P A E s₁ (at_.step st1) (F.step st1 at_.inv)) (fun i s₂ ⟨r2, st2⟩ => wpAny_bind (wpAny_standAt ?_)) fun _ _ e => e))) fun _ _ e => e)
  obtain ⟨⟨T, id, hT, hl⟩, hw⟩ := h3.run P A E s₂ o i ((at_.step st1).step st2) (st2.rep st1.inv r1) r2
  refine wpAny_bind ?_
  rw [getitemInPython_of_ne hT.not_modules]
  refine wpAny_bind (wpAny_specialOf hT hl ?_)
  refine wpAny_pure ?_
  obtain ⟨l, hl⟩ := subscripted_is slice o i
  rw [hl]
  exact wpAny_bind (operate_any (wpAny_mono hw (fun r s₃ ⟨r3, st3⟩ => wpAny_bind (wpAny_letTemporaryGo (wpAny_pure ⟨r3, (st1.trans st2).trans st3⟩))) fun _ _ e => e))

theorem SubV.list {l : List V} {i : Int} {k : Nat} {y : V} (hk : seqIndex? i l.length = some k) (hy : l[k]? = some y) : SubV c n (.list l) (.val (.int i)) y := .mk fun P A E s va vi at_ ra ri => by
  obtain ⟨a, vs, rfl, hP, hl, hlen, rs⟩ := ra.list_inv
  obtain ⟨t, rfl⟩ := Rep.int_inv (P := P) (h := s.heap) ri
  obtain ⟨v, hv, rv⟩ := rs.get hy
  have hlv := rs.length
  have hl20 : vs.length ≤ 1048576 := hlen
  refine ⟨⟨"list", _, hl.isList.typeIs, list_getitem_lookup⟩, ?_⟩
  unfold seqIndex? at hk
  by_cases hi : i < 0
  · rw [if_pos hi] at hk
    dsimp only at hk
    split at hk
    · rename_i hc
      simp only [Bool.and_eq_true, decide_eq_true_eq] at hc
      injection hk with hk
      refine wpAny_getItem_list_neg hl.isList hi (by simp only [List.size_toArray]; omega) (by omega) (x := v) ?_ ⟨rv, Step.refl at_.inv⟩
      simp only [List.size_toArray, List.getElem?_toArray, hlv, hk]; exact hv
    · cases hk
  · rw [if_neg hi] at hk
    dsimp only at hk
    split at hk
    · rename_i hc
      simp only [Bool.and_eq_true, decide_eq_true_eq] at hc
      injection hk with hk
      refine wpAny_getItem_list hl.isList (by omega) (by omega) (x := v) ?_ ⟨rv, Step.refl at_.inv⟩
      rw [hk]; simpa using hv
    · cases hk

theorem SubV.tup {l : List V} {i : Int} {k : Nat} {y : V} (hk : seqIndex? i l.length = some k) (hy : l[k]? = some y) (hi : -(2 ^ 63) ≤ i) (hi2 : i < 2 ^ 63) : SubV c n (.tup l) (.val (.int i)) y := .mk fun P A E s va vi at_ ra ri => by
  obtain ⟨a, vs, rfl, hP, hl, hlen, rs⟩ := ra.tup_inv
  obtain ⟨t, rfl⟩ := Rep.int_inv (P := P) (h := s.heap) ri
  obtain ⟨v, hv, rv⟩ := rs.get hy
  refine ⟨⟨"tuple", _, (let ⟨o, ho, hc, _⟩ := hl; ⟨o, ho, hc⟩), PySem.F.slot_tuple_getitem.lookup⟩, ?_⟩
  exact PyProof.Rows.getItem_tuple hl hi hi2 (j := k) (by rw [List.size_toArray, rs.length]; exact hk) (x := v) (by simpa using hv) ⟨rv, Step.refl at_.inv⟩

theorem SubV.str {l : List Nat} {i : Int} {k ch : Nat} (hk : seqIndex? i l.length = some k) (hy : l[k]? = some ch) : SubV c n (V.s l) (.val (.int i)) (V.s [ch]) := .mk fun P A E s va vi at_ ra ri => by
  obtain ⟨hlen, t, rfl⟩ := ra.str_inv
  obtain ⟨u, rfl⟩ := Rep.int_inv (P := P) (h := s.heap) ri
  have hc : Txt.charAt ⟨l.toArray⟩ i = some ch := by
    unfold Txt.charAt
    show (seqIndex? i l.toArray.size).bind _ = _
    rw [List.size_toArray, hk]
    simpa using hy
  have hlen' : l.length ≤ 1048576 := by simpa [Str.length] using hlen
  have hr : -(l.length : Int) ≤ i ∧ i < l.length := by
    unfold seqIndex? at hk
    by_cases hi : i < 0
    · rw [if_pos hi] at hk; dsimp only at hk; split at hk
      · rename_i hc; simp only [Bool.and_eq_true, decide_eq_true_eq] at hc; omega
      · cases hk
    · rw [if_neg hi] at hk; dsimp only at hk; split at hk
      · rename_i hc; simp only [Bool.and_eq_true, decide_eq_true_eq] at hc; omega
      · cases hk
  refine ⟨⟨"str", _, typeIs_str _ _ _, PySem.F.slot_str_getitem.lookup⟩, ?_⟩
  refine SB.getItem (fitsSsize_of (N := 9223372036854775808) (by omega) (by omega) (Int.le_refl _)) (by rw [hc]; rfl) ⟨?_, Step.toks at_.inv⟩
  have e : Txt.item ⟨l.toArray⟩ i = ⟨#[ch]⟩ := by unfold Txt.item; rw [hc]; rfl
  rw [e]
  exact rep_str (by show 1 ≤ lim; decide)

theorem pick_length_le {α : Type} (l : List α) (lo hi st : Option Int) : (pick l lo hi st).length ≤ l.length := by
  have h := slicePick_size_le ((List.replicate l.length Value.none).toArray) lo hi st
  unfold slicePick at h
  rw [List.size_toArray, List.size_toArray, List.length_replicate] at h
  unfold pick
  refine Nat.le_trans (Nat.le_of_eq ?_) h
  generalize sliceRange _ _ _ = is
  induction is with
  | nil => rfl
  | cons i is ih =>
    by_cases hi : i < l.length
    · rw [List.filterMap_cons, List.filterMap_cons, List.getElem?_eq_getElem hi]
      have : ((List.replicate l.length Value.none).toArray)[i]? = some Value.none := by simp [hi]
      rw [this]; simp [ih]
    · rw [List.filterMap_cons, List.filterMap_cons, List.getElem?_eq_none (by omega)]
      have : ((List.replicate l.length Value.none).toArray)[i]? = Option.none := by simp; omega
      rw [this]; exact ih

theorem SubV.slice {l : List V} {lo hi st : Option Int} (h0 : st ≠ some 0) : SubV c n (.list l) (.slice lo hi st) (.list (pick l lo hi st)) := .mk fun P A E s va vi at_ ra ri => by
  obtain ⟨a, vs, rfl, hP, hl, hlen, rs⟩ := ra.list_inv
  obtain ⟨b, vl, vu, vt, rfl, hs, p1, p2, p3⟩ := ri
  refine ⟨⟨"list", _, hl.isList.typeIs, list_getitem_lookup⟩, ?_⟩
  have e : slicePick vs.toArray lo hi st = (pick vs lo hi st).toArray := by
    unfold slicePick pick; simp only [List.size_toArray, List.getElem?_toArray]
  refine wpAny_getItem_list_slice hl.isList hs p1 p2 p3 h0 ?_ (by rw [List.size_toArray]; exact sl_lim hlen)
  rw [e]
  have hrep : Reps P s.heap (pick l lo hi st) (pick vs lo hi st) := by
    unfold pick; rw [rs.length]; exact rs.pick _
  exact rep_new_list at_ hrep (Nat.le_trans (pick_length_le _ _ _ _) (by rw [← rs.length]; exact hlen))

theorem clipAt_le (n : Nat) (i : Int) : clipAt n i ≤ n := by
  have := clipAt_cast n i
  omega

theorem pick_plain {α : Type} (l : List α) (lo hi : Option Int) : pick l lo hi Option.none = (l.drop (lo.elim 0 (clipAt l.length))).take (hi.elim l.length (clipAt l.length) - lo.elim 0 (clipAt l.length)) := by
  unfold pick
  rw [sliceBounds_plain]
  generalize ha : (lo.elim 0 (clipAt l.length)) = a
  generalize hb : (hi.elim l.length (clipAt l.length)) = b
  have hb' : b ≤ l.length := by rw [← hb]; cases hi with
    | none => exact Nat.le_refl _
    | some i => exact clipAt_le _ _
  have e : sliceRange (a : Int) (b : Int) 1 = (List.range (b - a)).map (a + ·) := by
    unfold sliceRange
    by_cases h : (a : Int) < b
    · simp only [h, if_true, gt_iff_lt, Int.zero_lt_one, Int.add_sub_cancel, Int.ediv_one]
      have : ((b : Int) - a).toNat = b - a := by omega
      rw [this]
      refine List.map_congr_left fun k _ => ?_
      omega
    · simp only [h, if_false, gt_iff_lt, Int.zero_lt_one, if_true]
      have : b - a = 0 := by omega
      rw [this]; rfl
  simp only [e]
  rw [List.filterMap_map]
  apply List.ext_getElem?
  intro k
  rw [List.getElem?_take, List.getElem?_drop]
  have key : ∀ m : Nat, a + m ≤ l.length → (List.range m).filterMap ((fun x => l[x]?) ∘ (a + ·)) = (l.drop a).take m := by
    intro m hm
    induction m with
    | zero => simp
    | succ m ih =>
      rw [List.range_succ, List.filterMap_append, ih (by omega), List.take_succ_eq_append_getElem (by rw [List.length_drop]; omega)]
      congr 1
      simp [List.getElem?_eq_getElem (show a + m < l.length by omega)]
  by_cases hab : a ≤ b
  · rw [key (b - a) (by omega), List.getElem?_take, List.getElem?_drop]
  · have : b - a = 0 := by omega
    rw [this]; simp

theorem pick_all {α : Type} (l : List α) (lo hi : Option Int) (h : (pick l lo hi Option.none).length = l.length) : pick l lo hi Option.none = l := by
  rw [pick_plain] at h ⊢
  rw [List.length_take, List.length_drop] at h
  rcases Nat.eq_zero_or_pos l.length with h0 | h0
  · have : l = [] := List.length_eq_zero_iff.mp h0
    subst this; simp
  · have h1 : lo.elim 0 (clipAt l.length) = 0 := by omega
    rw [h1] at h ⊢
    rw [List.drop_zero]
    exact List.take_of_length_le (by omega)

theorem SubV.str_slice {l : List Nat} {lo hi st : Option Int} (h0 : st ≠ some 0) (h1 : st ≠ some 1) : SubV c n (V.s l) (.slice lo hi st) (V.s (pick l lo hi st)) := .mk fun P A E s va vi at_ ra ri => by
  obtain ⟨hlen, t, rfl⟩ := ra.str_inv
  obtain ⟨b, vl, vu, vt, rfl, hs, p1, p2, p3⟩ := ri
  have hlen' : l.length ≤ lim := by simpa [Str.length] using hlen
  refine ⟨⟨"str", _, typeIs_str _ _ _, PySem.F.slot_str_getitem.lookup⟩, ?_⟩
  obtain ⟨l', hl', el'⟩ : ∃ l', partValue l' = vl ∧ l'.map (·.1) = lo := by
    cases p1 with
    | none => exact ⟨Option.none, rfl, rfl⟩
    | int i t => exact ⟨some (i, t), rfl, rfl⟩
  obtain ⟨u', hu', eu'⟩ : ∃ l', partValue l' = vu ∧ l'.map (·.1) = hi := by
    cases p2 with
    | none => exact ⟨Option.none, rfl, rfl⟩
    | int i t => exact ⟨some (i, t), rfl, rfl⟩
  obtain ⟨t', ht', et'⟩ : ∃ l', partValue l' = vt ∧ l'.map (·.1) = st := by
    cases p3 with
    | none => exact ⟨Option.none, rfl, rfl⟩
    | int i t => exact ⟨some (i, t), rfl, rfl⟩
  subst hl' hu' ht'
  have e0 : ((t'.map (·.1)).getD 1 == 0) = false := by
    rw [et']
    cases st with
    | none => rfl
    | some k => simp only [Option.getD_some, beq_eq_false_iff_ne]; exact fun q => h0 (by rw [q])
  refine wpAny_getItem_str_slice (l := l') (u := u') (st := t') hs e0 ?_
  have epick : slicePicked ⟨l.toArray⟩ l' u' t' = sliceRange (sliceBounds lo hi st l.length).1 (sliceBounds lo hi st l.length).2.1 (sliceBounds lo hi st l.length).2.2 := by
    unfold slicePicked
    rw [el', eu', et']
    show Builtin.Str.strSliceIndices lo hi (st.getD 1) l.toArray.size = _
    rw [List.size_toArray]
    rfl
  have efm : (⟨((slicePicked ⟨l.toArray⟩ l' u' t').filterMap (l.toArray[·]?)).toArray⟩ : Str) = ⟨(pick l lo hi st).toArray⟩ := by
    rw [epick]; unfold pick; simp only [List.getElem?_toArray]
  have hl1 : (pick l lo hi st).length ≤ lim := Nat.le_trans (pick_length_le _ _ _ _) hlen'
  unfold sliceMade
  split
  · rename_i hc
    simp only [Bool.and_eq_true, beq_iff_eq] at hc
    obtain ⟨c1, c2⟩ := hc
    have hst : st = Option.none := by
      rw [et'] at c1
      cases st with
      | none => rfl
      | some k => exact absurd (by rw [← c1]; rfl) h1
    subst hst
    refine ⟨?_, Step.refl at_.inv⟩
    have : pick l lo hi Option.none = l := by
      refine pick_all l lo hi ?_
      rw [epick] at c2
      have e2 : (⟨l.toArray⟩ : Str).length = l.length := by show l.toArray.size = _; simp
      rw [e2] at c2
      rw [← c2]
      unfold pick
      have hin : ∀ i ∈ sliceRange (sliceBounds lo hi Option.none l.length).1 (sliceBounds lo hi Option.none l.length).2.1 (sliceBounds lo hi Option.none l.length).2.2, (l[i]?).isSome := by
        intro i hi'
        rw [sliceBounds_plain] at hi'
        unfold sliceRange at hi'
        simp only [gt_iff_lt, Int.zero_lt_one, if_true, List.mem_map, List.mem_range] at hi'
        obtain ⟨k, hk, rfl⟩ := hi'
        split at hk
        · rename_i hlt
          have hb : (hi.elim l.length (clipAt l.length)) ≤ l.length := by cases hi with
            | none => exact Nat.le_refl _
            | some i => exact clipAt_le _ _
          have e3 : (((hi.elim l.length (clipAt l.length) : Nat) : Int) - ((lo.elim 0 (clipAt l.length) : Nat) : Int) + 1 - 1) / 1 = ((hi.elim l.length (clipAt l.length) : Nat) : Int) - ((lo.elim 0 (clipAt l.length) : Nat) : Int) := by rw [Int.add_sub_cancel, Int.ediv_one]
          rw [e3] at hk
          have : (((lo.elim 0 (clipAt l.length) : Nat) : Int) + 1 * (k : Int)).toNat < l.length := by omega
          rw [List.getElem?_eq_getElem this]; rfl
        · omega
      revert hin
      generalize sliceRange _ _ _ = is
      intro hin
      induction is with
      | nil => rfl
      | cons i is ih =>
        obtain ⟨x, hx⟩ := Option.isSome_iff_exists.mp (hin i (List.mem_cons_self))
        rw [List.filterMap_cons, hx]
        simp [ih fun j hj => hin j (List.mem_cons_of_mem _ hj)]
    rw [this]; exact ra
  · show Made.post (.str ⟨((slicePicked ⟨l.toArray⟩ l' u' t').filterMap (l.toArray[·]?)).toArray⟩) _ s
    rw [efm]
    refine ⟨?_, ?_, Step.toks at_.inv⟩
    · show (Array.size _) ≤ _
      rw [List.size_toArray]; exact sl_lim hl1
    · exact rep_str (by show (Array.size _) ≤ _; rw [List.size_toArray]; exact hl1)
end


structure CallV (c : Cx) (n : Nat) (f : Value) (ys : List V) (y : V) : Prop where
  run : ∀ P A E s vs, At c n A P s → Reps P s.heap ys vs → wpAny (model c.prog c.w) A (call f vs) (fun v s' => Rep P s'.heap y v ∧ Step c s s') E s

noncomputable def Glo (c : Cx) (env : Env) (x : Str) (f : Value) : Prop :=
  env.kindOf x = some .globalImplicit ∧ (c.mg x = some f ∨ (c.mg x = none ∧ bootBuiltins x = some f ∧ x ≠ "__name__")) ∧ (x == ("__debug__" : Str)) = false

theorem Room.mono {m n : Nat} {A : Around} (h : m ≤ n) (r : Room n A) : Room m A := ⟨r.1, by have := r.2.1; omega, by have := r.2.2; omega⟩
theorem At.mono {c : Cx} {m n : Nat} {A : Around} {P : Addr → Prop} {s : Shared} (h : m ≤ n) (a : At c n A P s) : At c m A P s := ⟨a.room.mono h, a.inv, a.fresh⟩
theorem CallV.up {c : Cx} {m n : Nat} {f : Value} {ys : List V} {y : V} (h : CallV c m f ys y) (hm : m ≤ n) : CallV c n f ys y := .mk fun P A E s vs a r => h.run P A E s vs (a.mono hm) r
theorem CallV.eq {c : Cx} {n : Nat} {f : Value} {ys : List V} {y y' : V} (h : CallV c n f ys y) (e : y = y') : CallV c n f ys y' := e ▸ h

section
variable {M : Model} {A : Around} {E : Value → Shared → Prop} {s : Shared} {env : Env}
theorem callWith_mach {pos : Pos} {f : Value} {first : List Value} {args : List (Bool × Sem Value)} {Q : Value → Shared → Prop} (hf : keeperOf f = pure .machine) (hplain : args.any (·.1) = false)
    (h : wpAny M A (evalArgs f true args []) (fun a s₁ => wpAny M A (call f (first ++ a.pos) a.kw) Q E s₁) E s) :
    wpAny M A (callWith pos f first args []) Q E s := by
  unfold callWith
  refine wpAny_bind (wpAny_holding (wpAny_mono h (fun a s₁ h₁ => wpAny_bind (wpAny_standAt ?_)) fun _ _ x => x))
  rw [hf]
  simp only [hplain, List.any_nil, Bool.or_false]
  refine wpAny_bind (wpAny_pure ?_)
  exact wpAny_bind (wpAny_mono h₁ (fun r s₂ hr => wpAny_bind (wpAny_holding (wpAny_point (wpAny_pure hr)))) fun _ _ x => x)

theorem backTo_any {pos : Pos} (t : List (Bool × Sem Value)) (h : t.any (·.1) = false) : (backTo pos t).any (·.1) = false := by
  unfold backTo; rw [List.any_map]; exact h
theorem evalArgs_trees {f : Value} {pos : Pos} {t : List (Bool × Sem Value)} {Q : Args → Shared → Prop} (h : t.any (·.1) = false)
    (hs : wpAny M A (spliced (backTo pos t)) (fun vs s' => Q ⟨vs, []⟩ s') E s) : wpAny M A (evalArgs f true (backTo pos t) []) Q E s := by
  have key : evalArgs f true (backTo pos t) [] = (do
      let p ← spliced (backTo pos t)
      holding (p ++ ([] : List Value)) (do
        let kw := (([] : List (Option Str × Sem Value)).filterMap (·.1)).zip (← evalAll (([] : List (Option Str × Sem Value)).map (·.2)))
        return ⟨p, kw⟩) : Sem Args) := by
    cases t with
    | nil => rfl
    | cons x r =>
      obtain ⟨b, x⟩ := x
      rw [List.any_cons, Bool.or_eq_false_iff] at h
      obtain ⟨h1, h2⟩ := h
      dsimp only at h1
      subst h1
      rfl
  rw [key]
  refine wpAny_bind (wpAny_mono hs (fun vs s' h' => ?_) fun _ _ e => e)
  refine wpAny_holding ?_
  exact wpAny_bind (wpAny_pure (wpAny_pure h'))
end

section
variable {c : Cx} {n : Nat} {env : Env} {ρ : List (Str × V)}

theorem ev_glo {P : Addr → Prop} {A : Around} {E : Value → Shared → Prop} {s : Shared} {x : Str} {pos : Pos} {f : Value} {Q : Value → Shared → Prop} (I : Inv c s) (F : FrameAt P s.heap env ρ) (g : Glo c env x f) (h : Q f s) :
    wpAny (model c.prog c.w) A (eval (.Name x pos) env) Q E s := by
  obtain ⟨hk, hg, hd⟩ := g
  rcases hg with hg | ⟨hg, hb, hn⟩
  · exact Name_function_global F.fk hk (loadGlobal_global (by rw [F.gl]; exact I.g) hg h) hd
  · exact Name_function_global F.fk hk (loadGlobal_builtin (by rw [F.gl]; exact I.g) hg (by rw [F.bu]; exact I.b) ((c.bi x hn).trans hb) h) hd

theorem Ev.call {id : Str} {p pos : Pos} {es : List Expr} {f : Value} {ys : List V} {y : V} (g : Glo c env id f) (hf : keeperOf f = pure .machine) (hns : (starEach es env).any (·.1) = false)
    (h1 : Evs c n env ρ es ys) (h2 : CallV c n f ys y) : Ev c n env ρ (.Call (.Name id p) es [] pos) y := .mk fun P A E s at_ F =>
  wpAny_Call_Name_kw (ev_glo at_.inv F g (callWith_mach hf (backTo_any _ hns) (evalArgs_trees hns (wpAny_mono (h1.run P A E s pos at_ F) (fun vs s₁ ⟨rs, st⟩ =>
    wpAny_mono (h2.run P A E s₁ vs (at_.step st) rs) (fun v s₂ ⟨r, st2⟩ => ⟨r, st.trans st2⟩) fun _ _ e => e) fun _ _ e => e))))

/-- a def of the text's own: its object stands in the written part -/
theorem Ev.callF {id : Str} {p pos : Pos} {es : List Expr} {a : Addr} {o : Obj} {fd : FuncData} {ys : List V} {y : V} (g : Glo c env id (.ref a)) (ho : c.K.lookup a = some o) (hd : o.data = .func fd) (hns : (starEach es env).any (·.1) = false)
    (h1 : Evs c n env ρ es ys) (h2 : CallV c n (.ref a) ys y) : Ev c n env ρ (.Call (.Name id p) es [] pos) y := .mk fun P A E s at_ F =>
  wpAny_Call_Name_kw (ev_glo at_.inv F g (callWith_function (o := o) (fd := fd) (evalArgs_trees hns (wpAny_mono (h1.run P A E s pos at_ F) (fun vs s₁ ⟨rs, st⟩ =>
    ⟨⟨st.inv.k _ _ ho, hd⟩, wpAny_mono (h2.run P A E s₁ vs (at_.step st) rs) (fun v s₂ ⟨r, st2⟩ => ⟨r, st.trans st2⟩) fun _ _ e => e⟩) fun _ _ e => e))))

noncomputable def MethV (c : Cx) (n : Nat) (a : V) (name : Str) (ys : List V) (y : V) : Prop :=
  ∃ T id, PlainAttrs T ∧ Slot T name id ∧ typeOf (.builtin id) = pure (.type "method_descriptor") ∧
    (∀ (P : Addr → Prop) (s : Shared) (va : Value), Rep P s.heap a va → s.TypeIs va T ∧ ∀ b, va = .ref b → ∃ ob, s.heap.get? b = some ob ∧ ob.dict = none) ∧ CallV c n (.builtin id) (a :: ys) y

theorem Ev.meth {o : Expr} {name : Str} {apos pos : Pos} {es : List Expr} {a : V} {ys : List V} {y : V} (hb : attributeBase o name env (eval o env) = eval o env)
    (hline : (apos.endLine == pos.line) = true) (hns : (starEach es env).any (·.1) = false) (hlen : es.length < 30) (h0 : Ev c n env ρ o a) (h1 : Evs c n env ρ es ys) (hm : MethV c n a name ys y) :
    Ev c n env ρ (.Call (.Attribute o name apos) es [] pos) y := .mk fun P A E s at_ F => by
  obtain ⟨T, id, pa, slot, hty, hT, hc⟩ := hm
  refine wpAny_Call_method_lateS hb ?_ hline (wpAny_mono (h0.run P A E s at_ F) (fun va s₁ ⟨r0, st⟩ => ?_) fun _ _ e => e)
  · have e1 : (backTo pos (starEach es env)).all (fun x => !x.1) = true := by
      have := backTo_any (pos := pos) _ hns
      rw [List.any_eq_false] at this
      rw [List.all_eq_true]
      intro x hx
      simpa using this x hx
    rw [e1]
    simp only [Bool.true_and, Bool.and_eq_true, decide_eq_true_eq]
    exact ⟨rfl, by simpa using hlen⟩
  · refine ⟨T, id, pa, slot, hty, (hT P s₁ va r0).1, (hT P s₁ va r0).2, ?_⟩
    refine callWith_mach rfl (backTo_any _ hns) (evalArgs_trees hns (wpAny_mono (h1.run P A E s₁ pos (at_.step st) (F.step st at_.inv)) (fun vs s₂ ⟨rs, st2⟩ => ?_) fun _ _ e => e))
    exact wpAny_mono (hc.run P A E s₂ (va :: vs) ((at_.step st).step st2) (Reps.cons (st2.rep st.inv r0) rs)) (fun v s₃ ⟨r, st3⟩ => ⟨r, (st.trans st2).trans st3⟩) fun _ _ e => e

/-! the built-in functions -/
theorem CallV.len_list {l : List V} : CallV c n (.builtin "len") [.list l] (.int l.length) := .mk fun P A E s vs at_ rs => by
  obtain ⟨v, w, rfl, r, rs⟩ := rs.cons_inv
  obtain rfl := rs.nil_inv
  obtain ⟨a, vs, rfl, hP, hl, hlen, rs⟩ := r.list_inv
  have h20 : vs.length ≤ 1048576 := hlen
  refine call_len_list hl.isList (by rw [List.size_toArray]; omega) ⟨?_, Step.toks at_.inv⟩
  rw [List.size_toArray, rs.length]; exact rep_int
theorem CallV.len_tup {l : List V} : CallV c n (.builtin "len") [.tup l] (.int l.length) := .mk fun P A E s vs at_ rs => by
  obtain ⟨v, w, rfl, r, rs⟩ := rs.cons_inv
  obtain rfl := rs.nil_inv
  obtain ⟨a, vs, rfl, hP, hl, hlen, rs⟩ := r.tup_inv
  have h20 : vs.length ≤ 1048576 := hlen
  refine PyProof.Rows.len_tuple hl (by rw [List.size_toArray]; omega) ⟨?_, Step.toks at_.inv⟩
  rw [List.size_toArray, rs.length]; exact rep_int
theorem CallV.len_str {x : Str} : CallV c n (.builtin "len") [.str x] (.int x.length) := .mk fun P A E s vs at_ rs => by
  obtain ⟨v, w, rfl, r, rs⟩ := rs.cons_inv
  obtain rfl := rs.nil_inv
  obtain ⟨hx, t, rfl⟩ := r.str_inv
  have h20 : x.length ≤ 1048576 := hx
  exact PyProof.Rows.len_str (by omega) ⟨rep_int, Step.toks at_.inv⟩
theorem CallV.abs {a : Int} : CallV c n (.builtin "abs") [.int a] (.int (if a < 0 then -a else a)) := .mk fun P A E s vs at_ rs => by
  obtain ⟨v, w, rfl, r, rs⟩ := rs.cons_inv
  obtain rfl := rs.nil_inv
  obtain ⟨t, rfl⟩ := r.int_inv
  exact PyProof.Rows.call_abs_int fun u tk => ⟨rep_int, Step.toks at_.inv⟩
theorem CallV.min {a b : Int} : CallV c n (.builtin "min") [.int a, .int b] (.int (if b < a then b else a)) := .mk fun P A E s vs at_ rs => by
  obtain ⟨v, w, rfl, r, rs⟩ := rs.cons_inv
  obtain ⟨v', w, rfl, r', rs⟩ := rs.cons_inv
  obtain rfl := rs.nil_inv
  obtain ⟨t, rfl⟩ := r.int_inv; obtain ⟨u, rfl⟩ := r'.int_inv
  refine min_two_ints at_.room.1 fun h' tk hk => ⟨?_, Step.of at_.inv hk⟩
  split <;> exact rep_int
theorem CallV.max {a b : Int} : CallV c n (.builtin "max") [.int a, .int b] (.int (if b > a then b else a)) := .mk fun P A E s vs at_ rs => by
  obtain ⟨v, w, rfl, r, rs⟩ := rs.cons_inv
  obtain ⟨v', w, rfl, r', rs⟩ := rs.cons_inv
  obtain rfl := rs.nil_inv
  obtain ⟨t, rfl⟩ := r.int_inv; obtain ⟨u, rfl⟩ := r'.int_inv
  refine max_two_ints at_.room.1 fun h' tk hk => ⟨?_, Step.of at_.inv hk⟩
  split <;> exact rep_int

/-- the ints of a list of ints -/
noncomputable def ints? : List V → Option (List Int)
  | [] => some []
  | .int i :: r => (ints? r).map (i :: ·)
  | _ :: _ => none
theorem ints?_eq : ∀ {l : List V} {ns : List Int}, ints? l = some ns → l = ns.map V.int
  | [], ns, h => by cases h; rfl
  | x :: r, ns, h => by
    cases x with
    | int i =>
      unfold ints? at h
      cases hr : ints? r with
      | none => rw [hr] at h; cases h
      | some ms => rw [hr] at h; cases h; rw [List.map_cons, ints?_eq hr]
    | none => cases h
    | bool => cases h
    | str => cases h
    | list => cases h
    | tup => cases h
theorem ints?_map (ns : List Int) : ints? (ns.map V.int) = some ns := by
  induction ns with
  | nil => rfl
  | cons i r ih => rw [List.map_cons, ints?, ih]; rfl

theorem reps_ints {P : Addr → Prop} {h : Heap} : ∀ {ns : List Int} {vs : List Value}, Reps P h (ns.map V.int) vs → IntsAre vs ns
  | [], vs, r => by rw [r.nil_inv]; exact .nil
  | i :: ns, vs, r => by
    rw [List.map_cons] at r
    obtain ⟨v, w, rfl, r1, r2⟩ := r.cons_inv
    obtain ⟨t, rfl⟩ := r1.int_inv
    exact .cons i t (reps_ints r2)
theorem ints_reps {P : Addr → Prop} {h : Heap} : ∀ {ns : List Int} {vs : List Value}, IntsAre vs ns → Reps P h (ns.map V.int) vs
  | _, _, .nil => Reps.nil
  | _, _, .cons i t r => Reps.cons rep_int (ints_reps r)

theorem CallV.sum {l : List V} {ns : List Int} (hl : ints? l = some ns) : CallV c n (.builtin "sum") [.list l] (.int ns.sum) := .mk fun P A E s vs at_ rs => by
  obtain rfl := ints?_eq hl
  obtain ⟨v, w, rfl, r, rs⟩ := rs.cons_inv
  obtain rfl := rs.nil_inv
  obtain ⟨a, vs, rfl, hP, hl, hlen, rs⟩ := r.list_inv
  have hi := reps_ints rs
  obtain ⟨xs, hxs⟩ := hi.allInts.items
  rw [hxs] at hl
  refine sum_intListG at_.room.1 hl.isList fun h' tk t' hk => ⟨?_, Step.of at_.inv hk⟩
  have e1 := nums_intItems xs
  rw [← hxs, show vs.toArray.toList = vs from rfl, hi.numsOf] at e1
  rw [preSum_eq, List.take_of_length_le (by simp), ← e1]
  exact rep_int

theorem CallV.sorted {l : List V} {ns ms : List Int} (hl : ints? l = some ns) (h64 : ns.length < 64) (hu : ∀ ns' : List Int, ns'.Perm ns → ns'.Pairwise (· ≤ ·) → ns' = ms) : CallV c n (.builtin "sorted") [.list l] (.list (ms.map V.int)) := .mk fun P A E s vs at_ rs => by
  obtain rfl := ints?_eq hl
  obtain ⟨v, w, rfl, r, rs⟩ := rs.cons_inv
  obtain rfl := rs.nil_inv
  obtain ⟨a, vs, rfl, hP, hl, hlen, rs⟩ := r.list_inv
  have hi := reps_ints rs
  refine PyProof.Rows.sorted_ints hl.isList hi (by rw [hi.length]; exact h64) fun out ns' a1 a2 a3 => ?_
  obtain rfl := hu ns' a2 a3
  obtain ⟨e, he⟩ := sortedAll_at s.heap vs out
  have hk : ∀ b o, s.heap.get? b = some o → (sortedAll s.heap vs out).get? b = some o := fun b o => sortedAll_old
  have st : Step c s { s with heap := sortedAll s.heap vs out } := Step.of at_.inv hk
  refine ⟨?_, st⟩
  unfold Rep
  refine ⟨_, out.toList, rfl, ?_, ⟨e, by simpa using he⟩, ?_, ints_reps a1⟩
  · exact at_.fresh _ (Heap.get?_none_of_le (Nat.le_succ _))
  · rw [a1.length, a2.length_eq]; have : lim = 1048576 := rfl; omega

theorem Ev.isinst {p1 p2 pos : Pos} {e : Expr} {T : String} {Tn : Str} {a : V} {b : Bool} (g : Glo c env "isinstance" (.builtin "isinstance")) (g2 : Glo c env Tn (.type T)) (hns : (starEach [e, .Name Tn p2] env) = [(false, eval e env), (false, eval (.Name Tn p2) env)])
    (h : Ev c n env ρ e a) (hq : ∀ P A E s va, At c n A P s → Rep P s.heap a va → wpAny (model c.prog c.w) A (PySem.call (.builtin "isinstance") [va, .type T]) (fun v s' => v = .bool b ∧ Step c s s') E s) :
    Ev c n env ρ (.Call (.Name "isinstance" p1) [e, .Name Tn p2] [] pos) (.bool b) := .mk fun P A E s at_ F => by
  have hn : (starEach [e, .Name Tn p2] env).any (·.1) = false := by rw [hns]; rfl
  refine wpAny_Call_Name_kw (ev_glo at_.inv F g (callWith_mach rfl (backTo_any _ hn) (evalArgs_trees hn ?_)))
  rw [hns]
  show wpAny _ _ (spliced [(false, eval e env), (false, eval (.Name Tn p2) env)]) _ _ _
  refine Calls.spliced_cons (wpAny_mono (h.run P A E s at_ F) (fun va s₁ ⟨r, st⟩ => Calls.spliced_cons (ev_glo st.inv (F.step st at_.inv) g2 (Calls.spliced_nil ?_))) fun _ _ e => e)
  exact wpAny_mono (hq P A E s₁ va (at_.step st) r) (fun v s₂ ⟨e, st2⟩ => ⟨by rw [e]; exact rep_bool, st.trans st2⟩) fun _ _ e => e
theorem isinst_int_int {i : Int} : ∀ P A E s va, At c n A P s → Rep P s.heap (.int i) va → wpAny (model c.prog c.w) A (PySem.call (.builtin "isinstance") [va, .type "int"]) (fun v s' => v = .bool true ∧ Step c s s') E s := fun P A E s va at_ r => by
  obtain ⟨t, rfl⟩ := r.int_inv
  exact PySem.IsiPair.int_int ⟨rfl, Step.refl at_.inv⟩
theorem isinst_int_bool {i : Int} : ∀ P A E s va, At c n A P s → Rep P s.heap (.int i) va → wpAny (model c.prog c.w) A (PySem.call (.builtin "isinstance") [va, .type "bool"]) (fun v s' => v = .bool false ∧ Step c s s') E s := fun P A E s va at_ r => by
  obtain ⟨t, rfl⟩ := r.int_inv
  exact PySem.IsiPair.int_bool ⟨rfl, Step.toks at_.inv⟩

/-! methods of texts and lists -/
theorem meth_str {x : Str} : ∀ (P : Addr → Prop) (s : Shared) (va : Value), Rep P s.heap (.str x) va → s.TypeIs va "str" ∧ ∀ b, va = .ref b → ∃ ob, s.heap.get? b = some ob ∧ ob.dict = none := fun P s va r => by
  obtain ⟨_, t, rfl⟩ := r.str_inv
  exact ⟨typeIs_str _ _ _, fun b e => nomatch e⟩
theorem meth_list {l : List V} : ∀ (P : Addr → Prop) (s : Shared) (va : Value), Rep P s.heap (.list l) va → s.TypeIs va "list" ∧ ∀ b, va = .ref b → ∃ ob, s.heap.get? b = some ob ∧ ob.dict = none := fun P s va r => by
  obtain ⟨a, vs, rfl, _, ⟨n, ho⟩, _⟩ := r.list_inv
  exact ⟨⟨_, ho, rfl⟩, fun b e => by cases e; exact ⟨_, ho, rfl⟩⟩

theorem MethV.lower {x : Str} (hx : x.length ≤ 1000) : MethV c n (.str x) "lower" [] (.str (Txt.lower x)) :=
  ⟨"str", "str.lower", PySem.F.plainAttrs_str, PySem.F.slot_str_lower, PySem.F.type_str_lower, meth_str, .mk fun P A E s vs at_ rs => by
    obtain ⟨v, w, rfl, r, rs⟩ := rs.cons_inv
    obtain rfl := rs.nil_inv
    obtain ⟨_, t, rfl⟩ := r.str_inv
    refine SC.lower (fit_lower (by omega)) ⟨rep_str ?_, Step.toks at_.inv⟩
    have := len_lower x
    have e : lim = 1048576 := rfl
    omega⟩
theorem MethV.upper {x : Str} (hx : x.length ≤ 1000) : MethV c n (.str x) "upper" [] (.str (Txt.upper x)) :=
  ⟨"str", "str.upper", PySem.F.plainAttrs_str, PySem.F.slot_str_upper, PySem.F.type_str_upper, meth_str, .mk fun P A E s vs at_ rs => by
    obtain ⟨v, w, rfl, r, rs⟩ := rs.cons_inv
    obtain rfl := rs.nil_inv
    obtain ⟨_, t, rfl⟩ := r.str_inv
    refine SC.upper (fit_upper (by omega)) ⟨rep_str ?_, Step.toks at_.inv⟩
    have := len_upper x
    have e : lim = 1048576 := rfl
    omega⟩
end


/-- an object that may change without harm -/
noncomputable def Mut (o : Obj) : Prop := ¬ ((o.cls = .none ∨ o.cls = .type "code") ∧ ∃ f, o.data = .fields f)

theorem mut_dict {o : Obj} {es : Array DictEntry} {k : Nat} (h : o.data = .dict es k) : Mut o := fun ⟨_, f, e⟩ => by rw [h] at e; cases e
theorem mut_cell {o : Obj} {v : Option Value} (h : o.data = .cell v) : Mut o := fun ⟨_, f, e⟩ => by rw [h] at e; cases e
theorem mut_seq {o : Obj} {v : Array Value} {k : Nat} (h : o.data = .seq v k) : Mut o := fun ⟨_, f, e⟩ => by rw [h] at e; cases e
theorem mut_cls {o : Obj} {T : String} (h : o.cls = .type T) (hT : T ≠ "code") : Mut o := fun ⟨e, _⟩ => by
  rcases e with e | e <;> rw [h] at e
  · cases e
  · exact hT (Value.type.inj e)

theorem Step.muts {c : Cx} {s₀ s : Shared} (st : Step c s₀ s) (I₀ : Inv c s₀) {D : Addr → Prop} (hD : ∀ b, D b → s₀.heap.get? b = none) (hM : ∀ b o, D b → s.heap.get? b = some o → Mut o) {h' : Heap} {tk : Nat}
    (k : ∀ b o, ¬ D b → s.heap.get? b = some o → h'.get? b = some o) : Step c s₀ { s with heap := h', toks := tk } := by
  have old : ∀ b o, s₀.heap.get? b = some o → (∀ t ∈ c.tabs, b ≠ t.P) → h'.get? b = some o := fun b o e ht => k b o (fun d => by rw [hD b d] at e; cases e) (st.old b o e ht)
  have old' : ∀ b o, s₀.heap.get? b = some o → (o.cls ≠ .none ∨ ∀ f, o.data ≠ .fields f) → h'.get? b = some o := fun b o e h => old b o e (I₀.tab_ne e h)
  refine ⟨old, st.os, ?_, st.gens⟩
  have ns : ∀ {a : Addr} {m : Str → Option Value}, s₀.heap.Ns a m → h'.Ns a m := fun hn =>
    let ⟨o, es, ep, e, hd, r⟩ := hn; ⟨o, es, ep, old' _ _ e (.inr (by rw [hd]; nofun)), hd, r⟩
  have sk : ∀ b o, s.heap.get? b = some o → (o.cls = .none ∨ o.cls = .type "code") → (∃ f, o.data = .fields f) → h'.get? b = some o := fun b o e h1 h2 =>
    k b o (fun d => hM b o d e ⟨h1, h2⟩) e
  exact {
    k := fun a o e => old' a o (I₀.k a o e) (by
      have h2 := List.all_eq_true.mp c.kt (a, o) (mem_of_lookupK e)
      by_cases h : o.cls = Value.none
      · by_cases h' : ∃ f, o.data = Data.fields f
        · exfalso
          obtain ⟨f, hf⟩ := h'
          dsimp only at h2
          rw [h, hf] at h2
          cases h2
        · exact .inr fun f hf => h' ⟨f, hf⟩
      · exact .inl h)
    g := ns I₀.g
    b := ns I₀.b
    nl := let ⟨mc, a, r⟩ := I₀.nl; ⟨mc, ns a, r⟩
    gens := st.inv.gens
    tab := fun t ht => by
      obtain ⟨⟨o, vs, file, tf, flags, tg, inF, text, tt, e, hc, hd, r⟩, ps, eP, r2⟩ := st.inv.tab t ht
      refine ⟨⟨o, vs, file, tf, flags, tg, inF, text, tt, sk _ _ e (.inr hc) ⟨_, hd⟩, hc, hd, r⟩, ps, sk _ _ eP (.inl rfl) ⟨_, rfl⟩, ?_⟩
      rcases r2 with r2 | ⟨c', o', vs', tk', r2, q1, q2, q3, q4⟩
      · exact .inl r2
      · exact .inr ⟨c', o', vs', tk', r2, sk _ _ q1 (.inr q2) ⟨_, q3⟩, q2, q3, q4⟩
    bmain := let ⟨bm, ob, a1, a2, a3, a4, a5, a6⟩ := I₀.bmain; ⟨bm, ob, a1, a2, old' _ _ a3 (.inl (by rw [a4]; nofun)), a4, a5, a6⟩ }

noncomputable def Ex (P : Addr → Prop) (h : Heap) (b : Addr) : Prop := P b ∧ ∃ o, h.get? b = some o
noncomputable def KeptP (P : Addr → Prop) (h h' : Heap) : Prop := ∀ a o, P a → h.get? a = some o → SeqObj o → h'.get? a = some o

mutual
theorem Rep.ex {P : Addr → Prop} {h : Heap} : ∀ {x : V} {v : Value}, Rep P h x v → Rep (Ex P h) h x v
  | .none, v, r => by unfold Rep at r ⊢; exact r
  | .bool b, v, r => by unfold Rep at r ⊢; exact r
  | .int i, v, r => by unfold Rep at r ⊢; exact r
  | .str x, v, r => by unfold Rep at r ⊢; exact r
  | .list l, v, r => by
    unfold Rep at r ⊢
    obtain ⟨a, vs, e, hP, ⟨n, ho⟩, hl, rs⟩ := r
    exact ⟨a, vs, e, ⟨hP, _, ho⟩, ⟨n, ho⟩, hl, Reps.ex rs⟩
  | .tup l, v, r => by
    unfold Rep at r ⊢
    obtain ⟨a, vs, e, hP, ⟨o, ho, q⟩, hl, rs⟩ := r
    exact ⟨a, vs, e, ⟨hP, _, ho⟩, ⟨o, ho, q⟩, hl, Reps.ex rs⟩
theorem Reps.ex {P : Addr → Prop} {h : Heap} : ∀ {x : List V} {v : List Value}, Reps P h x v → Reps (Ex P h) h x v
  | [], v, r => by rw [r.nil_inv]; exact Reps.nil
  | x :: xs, v, r => by
    obtain ⟨v, w, rfl, r1, r2⟩ := r.cons_inv
    exact Reps.cons (Rep.ex r1) (Reps.ex r2)
end

noncomputable def Items (P : Addr → Prop) (h : Heap) (xs : List V) (i : Nat) (v : Value) : Prop := ∃ x, xs[i]? = some x ∧ Rep (Ex P h) h x v

theorem walks_weaken {prog : Program} {w : World} {A : Around} {I : Addr} {fp wr : List Addr} {n : Nat} {P P' : Nat → Value → Prop} {St : Nat → Heap → Prop} (W : Walks prog w A I fp wr n P St) (h : ∀ i v, i < n → P i v → P' i v) : Walks prog w A I fp wr n P' St where
  sub := W.sub
  frame := W.frame
  item := fun i s Q E hi st hQ => W.item i s Q E hi st fun v h' tk hp => hQ v h' tk (h i v hi hp)
  done := W.done
  self := W.self

noncomputable def ownedIds : List String := ["enumerate", "zip", "dict_itemiterator", "dict_reverseitemiterator", "odict_iterator", "itertools.zip_longest", "itertools.pairwise"]
theorem letOwned_any {M : Model} {A : Around} {E : Value → Shared → Prop} {s : Shared} {tgt : Expr} {I : Addr} {v : Value} {o : Obj} {T : String} {Q : Unit → Shared → Prop} (ho : s.heap.get? I = some o) (hc : o.cls = .type T) (hT : ownedIds.contains T = false) (h : Q () s) :
    wpAny M A (letOwnedTupleGo tgt (.ref I) v) Q E s := by
  have core : wpAny M A (do
      let (.ref r, .ref a) := (Value.ref I, v) | return
      let o ← load r
      match o.cls, o.data with
      | .type n, .fields vs =>
        if ownedIds.contains n && vs[0]? == some (rawInt a) then
          rule "for.unpacks-the-owned-tuple"
          updateField r 0 .none
      | _, _ => pure () : Sem Unit) Q E s := by
    cases v with
    | ref a =>
      refine wpAny_bind (wpAny_load ho ?_)
      rw [hc]
      cases hd : o.data with
      | fields vs =>
        show wpAny M A (if (ownedIds.contains T && vs[0]? == some (rawInt a)) = true then _ else _) Q E s
        rw [hT, Bool.false_and, if_neg Bool.false_ne_true]
        exact wpAny_pure h
      | _ => exact wpAny_pure h
    | _ => exact wpAny_pure h
  unfold letOwnedTupleGo
  split
  · exact core
  · exact core
  · exact wpAny_pure h

/-- an iterator that is to hand out xs, laid since s₀ -/
noncomputable def ItAt (c : Cx) (P : Addr → Prop) (xs : List V) (s₀ : Shared) (it : Value) (s : Shared) : Prop :=
  Step c s₀ s ∧ ∃ I fp wr St, it = .ref I ∧ (∀ A : Around, A.handled = none → Walks c.prog c.w A I fp wr xs.length (Items P s.heap xs) St) ∧ St 0 s.heap ∧ (∀ b ∈ fp, b < s.heap.objs.size) ∧
    (∀ b ∈ wr, s₀.heap.get? b = none) ∧ (∀ b ∈ wr, ∀ i h o, St i h → h.get? b = some o → Mut o ∧ ¬ SeqObj o) ∧
    (∀ b ∈ fp, b ∈ wr ∨ (P b ∧ ∃ o, s.heap.get? b = some o ∧ SeqObj o)) ∧ (∀ i h, St i h → ∃ o T, h.get? I = some o ∧ o.cls = .type T ∧ ownedIds.contains T = false)

structure It (c : Cx) (n : Nat) (env : Env) (ρ : List (Str × V)) (e : Expr) (xs : List V) : Prop where
  run : ∀ P A E s, At c n A P s → FrameAt P s.heap env ρ → wpAny (model c.prog c.w) A (eval e env) (fun x s₁ => wpAny (model c.prog c.w) A (pyIter x) (fun it s₂ => ItAt c P xs s it s₂) E s₁) E s

section
variable {c : Cx} {n : Nat} {env : Env} {ρ : List (Str × V)}

theorem It.list {e : Expr} {xs : List V} (h : Ev c n env ρ e (.list xs)) : It c n env ρ e xs := .mk fun P A E s at_ F =>
  wpAny_mono (h.run P A E s at_ F) (fun x s₁ ⟨r, st⟩ => by
    obtain ⟨a, vs, rfl, hP, hl, hlen, rs⟩ := r.list_inv
    have hlt : ∀ b o, s₁.heap.get? b = some o → b < s₁.heap.objs.size := fun b o e => Heap.lt_size e
    obtain ⟨k, ho⟩ := id hl
    refine wpAny_pyIter_list hl.isList ?_
    show ItAt c P xs s _ _
    unfold ItAt
    refine ⟨st.trans (Step.push st.inv _), s₁.heap.objs.size, [s₁.heap.objs.size, a], [s₁.heap.objs.size], (fun i h => h.IsListIter s₁.heap.objs.size a i ∧ h.IsList a vs.toArray), rfl, fun A' hA => ?_, ⟨⟨_, Heap.get?_push_size _ rfl, rfl, rfl⟩, hl.isList.push _⟩, ?_, ?_, ?_, ?_, fun i h hst => (let ⟨⟨o, e1, e2, _⟩, _⟩ := hst; ⟨o, _, e1, e2, by decide⟩)⟩
    · have W := Walks.list (prog := c.prog) (w := c.w) (A := A') hA s₁.heap.objs.size a (Nat.ne_of_lt (hlt _ _ ho)) vs.toArray
      have hsz : vs.toArray.size = xs.length := by rw [List.size_toArray]; exact rs.length
      rw [hsz] at W
      refine walks_weaken W fun i v hi hv => ?_
      have rs' := (Step.push st.inv { cls := .type "list_iterator", data := .fields #[.ref a, .int 0 0] }).reps st.inv rs
      obtain ⟨v', hv', rv⟩ := rs'.ex.get (List.getElem?_eq_getElem hi)
      refine ⟨_, List.getElem?_eq_getElem hi, ?_⟩
      rw [List.getElem?_toArray] at hv
      rw [hv] at hv'
      cases hv'
      exact rv
    · intro b hb
      simp only [List.mem_cons, List.not_mem_nil, or_false] at hb
      rw [Heap.size_push]
      rcases hb with rfl | rfl
      · exact Nat.lt_succ_self _
      · exact Nat.lt_succ_of_lt (hlt _ _ ho)
    · intro b hb
      simp only [List.mem_cons, List.not_mem_nil, or_false] at hb
      subst hb
      exact st.gone at_.inv (Heap.get?_none_of_le (Nat.le_refl _))
    · intro b hb i h o hst ho'
      simp only [List.mem_cons, List.not_mem_nil, or_false] at hb
      subst hb
      obtain ⟨⟨o2, e1, e2, _⟩, _⟩ := hst
      rw [ho'] at e1; cases e1
      exact ⟨mut_cls e2 (by decide), fun q => by rcases q.1 with q | q <;> rw [e2] at q <;> exact absurd (Value.type.inj q) (by decide)⟩
    · intro b hb
      simp only [List.mem_cons, List.not_mem_nil, or_false] at hb
      rcases hb with rfl | rfl
      · exact .inl (by simp)
      · exact .inr ⟨hP, _, Heap.get?_push_of_some _ ho, .inl rfl, _, _, rfl⟩) fun _ _ e => e

theorem It.one {xs : List V} {P : Addr → Prop} {A : Around} {s s₁ : Shared} (at_ : At c n A P s) (st : Step c s s₁) {o : Obj} {T : String} {St : Nat → Heap → Prop} {Pi : Nat → Value → Prop}
    (hT : T ≠ "code" ∧ T ≠ "list" ∧ T ≠ "tuple" ∧ ownedIds.contains T = false)
    (hW : ∀ A : Around, A.handled = none → Walks c.prog c.w A s₁.heap.objs.size [s₁.heap.objs.size] [s₁.heap.objs.size] xs.length Pi St) (h0 : St 0 (s₁.heap.push o)) (hcls : ∀ i h, St i h → ∃ o, h.get? s₁.heap.objs.size = some o ∧ o.cls = .type T)
    (hPi : ∀ i v, i < xs.length → Pi i v → Items P (s₁.heap.push o) xs i v) {tk : Nat} : ItAt c P xs s (.ref s₁.heap.objs.size) { s₁ with heap := s₁.heap.push o, toks := tk } := by
  refine ⟨st.trans (Step.push' st.inv o), s₁.heap.objs.size, [s₁.heap.objs.size], [s₁.heap.objs.size], St, rfl, fun A hA => walks_weaken (hW A hA) hPi, h0, ?_, ?_, ?_, ?_, fun i h hst => (let ⟨o, e1, e2⟩ := hcls i h hst; ⟨o, T, e1, e2, hT.2.2.2⟩)⟩
  · intro b hb
    simp only [List.mem_cons, List.not_mem_nil, or_false] at hb
    subst hb
    show _ < (s₁.heap.push o).objs.size
    rw [Heap.size_push]; exact Nat.lt_succ_self _
  · intro b hb
    simp only [List.mem_cons, List.not_mem_nil, or_false] at hb
    subst hb
    exact st.gone at_.inv (Heap.get?_none_of_le (Nat.le_refl _))
  · intro b hb i h o' hst ho'
    simp only [List.mem_cons, List.not_mem_nil, or_false] at hb
    subst hb
    obtain ⟨o2, e1, e2⟩ := hcls i h hst
    rw [ho'] at e1; cases e1
    exact ⟨mut_cls e2 hT.1, fun q => by
      rcases q.1 with q | q <;> rw [e2] at q
      · exact hT.2.1 (Value.type.inj q)
      · exact hT.2.2.1 (Value.type.inj q)⟩
  · intro b hb
    exact .inl hb

theorem It.str {e : Expr} {l : List Nat} (h : Ev c n env ρ e (V.s l)) : It c n env ρ e (l.map fun ch => V.s [ch]) := .mk fun P A E s at_ F =>
  wpAny_mono (h.run P A E s at_ F) (fun x s₁ ⟨r, st⟩ => by
    obtain ⟨hlen, t, rfl⟩ := r.str_inv
    have items : ∀ (o : Obj) i v, i < (l.map fun ch => V.s [ch]).length → SignAt ⟨l.toArray⟩ i v → Items P (s₁.heap.push o) (l.map fun ch => V.s [ch]) i v := by
      intro o i v hi ⟨ch, u, h1, h2⟩
      refine ⟨V.s [ch], ?_, ?_⟩
      · rw [List.getElem?_map]
        have : l[i]? = some ch := by simpa using h1
        rw [this]; rfl
      · subst h2
        exact rep_str (by show 1 ≤ lim; decide)
    have hsz : (⟨l.toArray⟩ : Str).cps.size = (l.map fun ch => V.s [ch]).length := by simp
    cases ha : (⟨l.toArray⟩ : Str).cps.all (· < 128)
    · refine wpAny_pyIter_wide ha (It.one (T := "str_iterator") (Pi := SignAt ⟨l.toArray⟩) at_ st (by decide) (fun A hA => hsz ▸ Walks.strWide hA _ _ t) ⟨_, Heap.get?_push_size _ rfl, rfl, rfl⟩ (fun i h hst => ?_) (items _))
      exact let ⟨o, e1, e2, _⟩ := hst; ⟨o, e1, e2⟩
    · refine wpAny_pyIter_ascii ha (It.one (T := "str_ascii_iterator") (Pi := SignAt ⟨l.toArray⟩) at_ st (by decide) (fun A hA => hsz ▸ Walks.strAscii hA _ _ t) ⟨_, Heap.get?_push_size _ rfl, rfl, rfl⟩ (fun i h hst => ?_) (items _))
      exact let ⟨o, e1, e2, _⟩ := hst; ⟨o, e1, e2⟩) fun _ _ e => e

/-- the ints a, a + d, .. (k of them) -/
noncomputable def steps (a d : Int) (k : Nat) : List V := (List.range k).map fun (i : Nat) => V.int (a + i * d)

theorem fitsLong {i : Int} (h1 : -(2 ^ 62) ≤ i) (h2 : i ≤ 2 ^ 62) : Builtin.Range.rangeFitsLong i = true := by
  unfold Builtin.Range.rangeFitsLong
  simp only [Bool.and_eq_true, decide_eq_true_eq]
  omega

theorem It.ofRange {P : Addr → Prop} {A : Around} {E : Value → Shared → Prop} {s s₁ : Shared} (at_ : At c n A P s) (st : Step c s s₁) {r : Addr} {a b d : Int} {t u v : Tok} (hr : IsRange s₁.heap r a b d t u v) {k : Nat}
    (hs : Builtin.Range.small a b d = true) (hk : Builtin.Range.rangeSize a b d = k) : wpAny (model c.prog c.w) A (pyIter (.ref r)) (fun it s₂ => ItAt c P (steps a d k) s it s₂) E s₁ := by
  refine wpAny_pyIter_range hr hs ?_
  have hl : (steps a d k).length = k := by unfold steps; simp
  refine It.one (T := "range_iterator") (Pi := fun i v => ∃ t, v = .int (a + i * d) t) at_ st (by decide) (fun A hA => hl.symm ▸ Walks.range hA s₁.heap.objs.size a d k) ?_ (fun i h hst => ⟨_, hst, rfl⟩) ?_
  · rw [hk]
    have e := Heap.get?_push_size s₁.heap (o := { cls := .type "range_iterator", data := .fields #[rawInt a, rawInt (k : Int), rawInt d] }) rfl
    simpa [hl] using e
  · intro i v hi ⟨t, ht⟩
    refine ⟨V.int (a + i * d), ?_, by rw [ht]; exact rep_int⟩
    unfold steps
    rw [hl] at hi
    rw [List.getElem?_map, List.getElem?_range hi]; rfl

theorem small_one {a b : Int} (ha : -(2 ^ 40) ≤ a ∧ a ≤ 2 ^ 40) (hb : -(2 ^ 40) ≤ b ∧ b ≤ 2 ^ 40) : Builtin.Range.small a b 1 = true := by
  unfold Builtin.Range.small
  rw [rangeSize_nat]
  have f1 := fitsLong (i := a) (by omega) (by omega)
  have f2 := fitsLong (i := b) (by omega) (by omega)
  have f3 := fitsLong (i := ((b - a).toNat : Int)) (by omega) (by omega)
  have f4 : Builtin.Range.rangeFitsLong 1 = true := fitsLong (by decide) (by decide)
  rw [f1, f2, f3, f4]
  simp [f2]

theorem It.range1 {p pos : Pos} {e : Expr} {b : Int} (g : Glo c env "range" (.type "range")) (hns : (starEach [e] env).any (·.1) = false) (h : Evs c n env ρ [e] [.int b]) (hb : -(2 ^ 40) ≤ b ∧ b ≤ 2 ^ 40) : It c n env ρ (.Call (.Name "range" p) [e] [] pos) (steps 0 1 b.toNat) := .mk fun P A E s at_ F =>
  wpAny_Call_Name_kw (ev_glo at_.inv F g (callWith_mach rfl (backTo_any _ hns) (evalArgs_trees hns (wpAny_mono (h.run P A E s pos at_ F) (fun vs s₁ ⟨rs, st⟩ => by
    obtain ⟨v, w, rfl, r, rs⟩ := rs.cons_inv
    obtain rfl := rs.nil_inv
    obtain ⟨t, rfl⟩ := r.int_inv
    have hsz : Builtin.Range.rangeSize 0 b 1 = ((b - 0).toNat : Int) := rangeSize_nat 0 b
    rw [Int.sub_zero] at hsz
    refine PySem.call_range_1 (It.ofRange at_ (st.trans (Step.push' st.inv _)) (Heap.get?_push_size _ rfl) ?_ hsz)
    refine small_one (by decide) hb) fun _ _ e => e))))
theorem It.range2 {p pos : Pos} {e1 e2 : Expr} {a b : Int} (g : Glo c env "range" (.type "range")) (hns : (starEach [e1, e2] env).any (·.1) = false) (h : Evs c n env ρ [e1, e2] [.int a, .int b]) (ha : -(2 ^ 40) ≤ a ∧ a ≤ 2 ^ 40) (hb : -(2 ^ 40) ≤ b ∧ b ≤ 2 ^ 40) : It c n env ρ (.Call (.Name "range" p) [e1, e2] [] pos) (steps a 1 (b - a).toNat) := .mk fun P A E s at_ F =>
  wpAny_Call_Name_kw (ev_glo at_.inv F g (callWith_mach rfl (backTo_any _ hns) (evalArgs_trees hns (wpAny_mono (h.run P A E s pos at_ F) (fun vs s₁ ⟨rs, st⟩ => by
    obtain ⟨v, w, rfl, r, rs⟩ := rs.cons_inv
    obtain ⟨v', w, rfl, r', rs⟩ := rs.cons_inv
    obtain rfl := rs.nil_inv
    obtain ⟨t, rfl⟩ := r.int_inv
    obtain ⟨u, rfl⟩ := r'.int_inv
    exact PySem.call_range_2 (It.ofRange at_ (st.trans (Step.push' st.inv _)) (Heap.get?_push_size _ rfl) (small_one ha hb) (rangeSize_nat a b))) fun _ _ e => e))))
end


inductive All2 {α β : Type} (R : α → β → Prop) : List α → List β → Prop where
  | nil : All2 R [] []
  | cons {a : α} {b : β} {l : List α} {m : List β} : R a b → All2 R l m → All2 R (a :: l) (b :: m)
theorem All2.length {α β : Type} {R : α → β → Prop} : ∀ {l : List α} {m : List β}, All2 R l m → l.length = m.length
  | _, _, .nil => rfl
  | _, _, .cons _ t => by simp [t.length]
theorem All2.get {α β : Type} {R : α → β → Prop} : ∀ {l : List α} {m : List β} (i : Nat) (a : α), All2 R l m → l[i]? = some a → ∃ b, m[i]? = some b ∧ R a b
  | _, _, i, a, .nil, e => by simp at e
  | _, _, 0, a, .cons h _, e => by simp at e; subst e; exact ⟨_, by simp, h⟩
  | _, _, i + 1, a, .cons _ t, e => by simp at e; obtain ⟨b, h1, h2⟩ := t.get i a e; exact ⟨b, by simpa using h1, h2⟩
theorem All2.map {ι α β : Type} {R : α → β → Prop} {f : ι → α} {g : ι → β} : ∀ {l : List ι}, (∀ i ∈ l, R (f i) (g i)) → All2 R (l.map f) (l.map g)
  | [], _ => .nil
  | i :: l, h => .cons (h i List.mem_cons_self) (All2.map fun j hj => h j (List.mem_cons_of_mem _ hj))

noncomputable def closOf (cells : List (Str × Addr)) : List (Str × NameKind) → List (Str × Addr) → List (Str × Addr)
  | [], acc => acc
  | (n, k) :: r, acc => if k == .free then closOf cells r ((n, (cells.lookup n).getD 0) :: acc) else closOf cells r acc

theorem closureFor_is {scope : Scope} {env : Env} (h : ∀ p ∈ scope.names, p.2 = .free → (env.cells.lookup p.1).isSome) : closureFor scope env = pure (closOf env.cells scope.names []) := by
  have key : ∀ (names : List (Str × NameKind)) (acc : List (Str × Addr)) (f : Str × NameKind → List (Str × Addr) → Sem (ForInStep (List (Str × Addr)))),
      (∀ n k cs, f (n, k) cs = if k == .free then (do let a ← cellOf env n; pure (.yield ((n, a) :: cs))) else pure (.yield cs)) →
      (∀ p ∈ names, p.2 = .free → (env.cells.lookup p.1).isSome) → forIn names acc f = pure (closOf env.cells names acc) := by
    intro names
    induction names with
    | nil => intro acc f hf h; rfl
    | cons p r ih =>
      intro acc f hf h
      obtain ⟨n, k⟩ := p
      rw [List.forIn_cons, hf]
      unfold closOf
      split
      · rename_i hk
        have hk' : k = .free := by simpa using hk
        obtain ⟨a, ha⟩ := Option.isSome_iff_exists.mp (h (n, k) List.mem_cons_self hk')
        dsimp only at ha
        have e : cellOf env n = pure a := by unfold cellOf; rw [ha]
        rw [e, ha]
        exact ih _ f hf fun p hp => h p (List.mem_cons_of_mem _ hp)
      · exact ih _ f hf fun p hp => h p (List.mem_cons_of_mem _ hp)
  unfold closureFor
  exact (congrArg (fun m : Sem (List (Str × Addr)) => m >>= pure) (key scope.names [] _ (fun n k cs => rfl) h)).trans rfl

theorem closOf_lookup {cells : List (Str × Addr)} {x : Str} : ∀ (names : List (Str × NameKind)) (acc : List (Str × Addr)), names.lookup x = some .free → (closOf cells names acc).lookup x = some ((cells.lookup x).getD 0)
  | [], acc, h => by cases h
  | (n, k) :: r, acc, h => by
    have keep : ∀ (names : List (Str × NameKind)) (acc : List (Str × Addr)), acc.lookup x = some ((cells.lookup x).getD 0) → (closOf cells names acc).lookup x = some ((cells.lookup x).getD 0) := by
      intro names
      induction names with
      | nil => intro acc h; exact h
      | cons p r ih =>
        intro acc h
        obtain ⟨n, k⟩ := p
        unfold closOf
        split
        · refine ih _ ?_
          rw [List.lookup_cons]
          cases hx : x == n with
          | true => rw [beq_iff_eq.mp hx]
          | false => exact h
        · exact ih _ h
    rw [List.lookup_cons] at h
    unfold closOf
    cases hx : x == n with
    | true =>
      rw [hx] at h
      cases h
      rw [if_pos (by rfl)]
      refine keep _ _ ?_
      rw [List.lookup_cons, hx, beq_iff_eq.mp hx]
    | false =>
      rw [hx] at h
      split
      · exact closOf_lookup r _ h
      · exact closOf_lookup r _ h

theorem lookup_relabel_free {env : Env} (hf : env.scope.kind = .function) : ∀ {names : List (Str × NameKind)} {x : Str}, names.lookup x = some .free →
    (names.map fun (n, k) => if (k == NameKind.free && env.scope.kind == .function && env.kindOf n == some .cell) then (n, NameKind.cell) else (n, k)).lookup x = some (if env.kindOf x == some .cell then .cell else .free)
  | [], _, h => by simp at h
  | (n, k) :: r, x, h => by
    have ih := @lookup_relabel_free env hf r x
    show List.lookup x ((if (k == NameKind.free && env.scope.kind == .function && env.kindOf n == some .cell) = true then (n, NameKind.cell) else (n, k)) :: _) = _
    cases hx : x == n with
    | true =>
      simp only [List.lookup_cons, hx] at h
      cases h
      have hn : x = n := beq_iff_eq.mp hx
      subst hn
      rw [hf]
      by_cases hc : (env.kindOf x == some .cell) = true
      · simp [List.lookup_cons, hc]
      · simp [List.lookup_cons, hc]
    | false =>
      simp only [List.lookup_cons, hx] at h
      by_cases hc : (k == NameKind.free && env.scope.kind == .function && env.kindOf n == some .cell) = true
      · rw [if_pos hc]; simp only [List.lookup_cons, hx]; exact ih h
      · rw [if_neg hc]; simp only [List.lookup_cons, hx]; exact ih h

/-- the frame of a comprehension -/
noncomputable abbrev cenvOf (scope : Scope) (env : Env) (C : Addr) : Env := compEnvC scope (closOf env.cells scope.names []) C env

/-- of what stands in the frame around, what the comprehension reads -/
structure FreeOf (scope : Scope) (env : Env) (ρ ρf : List (Str × V)) : Prop where
  var : ∀ x y, ρf.lookup x = some y → ρ.lookup x = some y ∧ scope.names.lookup x = some .free ∧ (env.kindOf x = some .cell ∨ env.kindOf x = some .free)

structure AsgC (c : Cx) (n : Nat) (cenv : Env) (tgt : Expr) (x : V) (bs : List (Str × V)) : Prop where
  run : ∀ P A E s₀ s v m, Room n A → Inv c s₀ → Step c s₀ s → Fresh P s.heap → s₀.heap.get? cenv.locals = none → s.heap.Ns cenv.locals m → Rep P s.heap x v →
    wpAny (model c.prog c.w) A (assign tgt cenv v) (fun _ s' => Step c s₀ s' ∧ (∀ b o, b ≠ cenv.locals → s.heap.get? b = some o → s'.heap.get? b = some o) ∧ (∃ o, s'.heap.get? cenv.locals = some o) ∧
      ∃ m', s'.heap.Ns cenv.locals m' ∧ ∀ y z, bs.lookup y = some z → cenv.kindOf y = some .local ∧ ∃ u, m' y = some u ∧ Rep P s'.heap z u) E s

theorem ns_not_seq {h : Heap} {L : Addr} {m : Str → Option Value} (hL : h.Ns L m) {o : Obj} (e : h.get? L = some o) : ¬ SeqObj o := fun ⟨_, its, n, hd⟩ => by
  obtain ⟨o', es, ep, e', hd', _⟩ := hL
  rw [e] at e'; cases e'
  rw [hd] at hd'; cases hd'
theorem Rep.extBut {P : Addr → Prop} {h h' : Heap} {L : Addr} {m : Str → Option Value} (hL : h.Ns L m) (k : ∀ b o, b ≠ L → h.get? b = some o → h'.get? b = some o) {x : V} {v : Value} (r : Rep P h x v) : Rep P h' x v :=
  r.mono (fun _ h => h) fun a o _ e hc => k a o (fun q => ns_not_seq hL (q ▸ e) hc) e

section
variable {c : Cx} {n : Nat} {cenv : Env}
theorem noclass {L : Env} (h : L.scope.kind = .function) : (L.scope.kind == .class || (L.scope.kind == .module && L.locals != L.globals)) = false := by rw [h]; rfl

theorem AsgC.name {x : Str} {pos : Pos} {y : V} (hk : cenv.kindOf x = some .local) (hf : cenv.scope.kind = .function) : AsgC c n cenv (.Name x pos) y [(x, y)] := .mk fun P A E s₀ s v m hr I₀ st hfr h0 hn r => by
  refine wpAny_assign_Name (wpAny_storeName_local hk hn (fun h' hn' hs => ?_) (noclass hf))
  have ho := hn
  obtain ⟨o, es, ep, e, hd, _⟩ := ho
  refine ⟨st.muts I₀ (D := (· = cenv.locals)) (fun b hb => by rw [hb]; exact h0) (fun b o' hb e' => by rw [hb, e] at e'; cases e'; exact mut_dict hd) (fun b o' hb e' => hs.extBut b o' hb e'),
    fun b o hb e => hs.extBut b o hb e, (let ⟨o', _, _, e', _⟩ := hn'; ⟨o', e'⟩), _, hn', ?_⟩
  intro y' z hz
  rw [List.lookup_cons, List.lookup_nil] at hz
  cases hx : y' == x with
  | true =>
    rw [hx] at hz
    cases hz
    have := beq_iff_eq.mp hx
    subst this
    exact ⟨hk, v, by simp, r.extBut hn fun b o hb e => hs.extBut b o hb e⟩
  | false => rw [hx] at hz; cases hz

theorem AsgC.pair {x1 x2 : Str} {p1 p2 pos : Pos} {k : Nat} {y1 y2 : V} (hk1 : cenv.kindOf x1 = some .local) (hk2 : cenv.kindOf x2 = some .local) (hne : x2 ≠ x1) (hf : cenv.scope.kind = .function) :
    AsgC c n cenv (.Tuple [.Name x1 p1, .Name x2 p2] k pos) (.tup [y1, y2]) [(x1, y1), (x2, y2)] := .mk fun P A E s₀ s v m hr I₀ st hfr h0 hn r => by
  obtain ⟨t, vs, rfl, hP, ht, hlen, rs⟩ := r.tup_inv
  obtain ⟨v1, w, rfl, r1, rs⟩ := rs.cons_inv
  obtain ⟨v2, w, rfl, r2, rs⟩ := rs.cons_inv
  obtain rfl := rs.nil_inv
  refine assign_Tuple_tuple hr.1 ht rfl rfl fun h' hx => ?_
  have lt : ∀ b o, s.heap.get? b = some o → b ≠ s.heap.objs.size := fun b o e => Nat.ne_of_lt (Heap.lt_size e)
  have st1 : Step c s₀ { s with heap := h' } := st.trans (Step.of st.inv fun b o e => hx b o (lt b o e) e)
  have hn1 : h'.Ns cenv.locals m := hn.keeps fun b o e => hx b o (lt b o e) e
  have r1' : Rep P h' y1 v1 := r1.mono (fun _ h => h) fun a o _ e _ => hx a o (lt a o e) e
  have r2' : Rep P h' y2 v2 := r2.mono (fun _ h => h) fun a o _ e _ => hx a o (lt a o e) e
  show wpAny _ _ (do holding [v2] (assign (.Name x1 p1) cenv v1); assignInOrder [assign (.Name x2 p2) cenv] [v2]) _ _ _
  refine wpAny_bind (wpAny_holding ?_)
  refine wpAny_assign_Name (wpAny_storeName_local hk1 hn1 (fun h2 hn2 hs2 => ?_) (noclass hf))
  show wpAny _ _ (do holding ([] : List Value) (assign (.Name x2 p2) cenv v2); assignInOrder [] []) _ _ _
  refine wpAny_bind (wpAny_holding ?_)
  refine wpAny_assign_Name (wpAny_storeName_local hk2 hn2 (fun h3 hn3 hs3 => ?_) (noclass hf))
  have k2 : ∀ b o, b ≠ cenv.locals → h'.get? b = some o → h3.get? b = some o := fun b o hb e => hs3.extBut b o hb (hs2.extBut b o hb e)
  have hn1' := hn1
  obtain ⟨o, es, ep, e, hd, _⟩ := hn1'
  refine wpAny_pure ⟨st1.muts I₀ (D := (· = cenv.locals)) (fun b hb => by rw [hb]; exact h0) (fun b o' hb e' => by rw [hb] at e'; rw [show h'.get? cenv.locals = some o' from e'] at e; cases e; exact mut_dict hd) (fun b o' hb e' => k2 b o' hb e'),
    fun b o hb e => k2 b o hb (hx b o (lt b o e) e), (let ⟨o', _, _, e', _⟩ := hn3; ⟨o', e'⟩), _, hn3, ?_⟩
  have R1 : Rep P h3 y1 v1 := r1'.extBut hn1 k2
  have R2 : Rep P h3 y2 v2 := r2'.extBut hn1 k2
  intro y' z hz
  rw [List.lookup_cons] at hz
  cases hx1 : y' == x1 with
  | true =>
    rw [hx1] at hz
    cases hz
    have := beq_iff_eq.mp hx1
    subst this
    exact ⟨hk1, v1, by simp [Ne.symm hne], R1⟩
  | false =>
    rw [hx1, List.lookup_cons, List.lookup_nil] at hz
    cases hx2 : y' == x2 with
    | true =>
      rw [hx2] at hz
      cases hz
      have := beq_iff_eq.mp hx2
      subst this
      exact ⟨hk2, v2, by simp, R2⟩
    | false => rw [hx2] at hz; cases hz
end


section
variable {prog : Program} {w : World} {A : Around} {E : Value → Shared → Prop} {R : Result → Shared → Prop} {s : Shared}
noncomputable abbrev testsOf (ifs : List Expr) (env : Env) : Sem Bool := forIn ifs true fun c r => if r = true then do let ok ← isTrue c env (eval c env); pure (ForInStep.yield ok) else pure (ForInStep.yield r)

theorem compLoop_any {elt target iter : Expr} {ifs : List Expr} {scope : Scope} {pos : Pos} {it acc : Value} {env : Env} (I : Nat → Shared → Prop)
    (turn : ∀ n s, I n s → wpAny (model prog w) A (pyNext it) (fun r s₁ => match r with
      | none => R (.ok .next) s₁
      | some v => wpAny (model prog w) A (letOwnedTupleGo target it v) (fun _ s₁ => wpAny (model prog w) A (assign target env v) (fun _ s₂ =>
          wpAny (model prog w) A (testsOf ifs env) (fun ok s₃ =>
            if ok = true then wpAny (model prog w) A (eval elt env) (fun x s₄ =>
              wpAny (model prog w) A (call (.builtin "list.append") [acc, x]) (fun _ s₅ => ∃ m, m < n ∧ I m s₅) (notedBy (model prog w) A env fun e s' => R (.error e) s') s₄) (notedBy (model prog w) A env fun e s' => R (.error e) s') s₃
            else ∃ m, m < n ∧ I m s₃) (notedBy (model prog w) A env fun e s' => R (.error e) s') s₂) (notedBy (model prog w) A env fun e s' => R (.error e) s') s₁) (notedBy (model prog w) A env fun e s' => R (.error e) s') s₁) (notedBy (model prog w) A env fun e s' => R (.error e) s') s)
    (n : Nat) (h : I n s) :
    codeAny (model prog w) A (.compLoop (.ListComp elt [⟨target, iter, ifs, 0⟩] scope pos) 0 it acc env) R s := by
  refine codeAny_loop rfl I (fun n s hI => ?_) n h
  show wpAny _ A ((compTurn (.ListComp elt [⟨target, iter, ifs, 0⟩] scope pos) 0 it acc env).onRaise (fun x => do noteFrame x env; theTreesLotGoes x)) _ _ s
  refine wpAny_noted ?_
  rw [compTurn_list]
  refine wpAny_bind (wpAny_standAt (wpAny_bind (wpAny_mono (turn n s hI) (fun r s₁ h₁ => ?_) fun _ _ h' => h')))
  cases r with
  | none => exact wpAny_pure h₁
  | some v =>
    refine wpAny_bind (wpAny_mono h₁ (fun _ s₁' h₁' => ?_) fun _ _ h' => h')
    refine wpAny_bind (wpAny_mono h₁' (fun _ s₂ h₂ => wpAny_bind (wpAny_mono h₂ (fun ok s₃ h₃ => ?_) fun _ _ h' => h')) fun _ _ h' => h')
    cases ok with
    | false => exact wpAny_pure ⟨rfl, h₃⟩
    | true =>
      exact wpAny_bind (wpAny_bind (wpAny_mono h₃ (fun x s₄ h₄ => wpAny_bind (wpAny_mono h₄ (fun _ s₅ h₅ => wpAny_pure (wpAny_pure ⟨rfl, h₅⟩)) fun _ _ h' => h')) fun _ _ h' => h'))
end

noncomputable def TstIf (c : Cx) (n : Nat) (env : Env) (ρ : List (Str × V)) : List Expr → Bool → Prop
  | [], b => b = true
  | [e], b => Tst c n env ρ e b
  | _ :: _ :: _, _ => False

theorem TstIf.run {c : Cx} {n : Nat} {env : Env} {ρ : List (Str × V)} {ifs : List Expr} {b : Bool} (h : TstIf c n env ρ ifs b) {P : Addr → Prop} {A : Around} {E : Value → Shared → Prop} {s : Shared} (at_ : At c n A P s) (F : FrameAt P s.heap env ρ) :
    wpAny (model c.prog c.w) A (testsOf ifs env) (fun b' s' => b' = b ∧ Step c s s') E s := by
  cases ifs with
  | nil => exact wpAny_tests_nil ⟨h.symm, Step.refl at_.inv⟩
  | cons e r =>
    cases r with
    | nil => exact wpAny_tests_one (Tst.run h P A E s at_ F)
    | cons e' r => exact h.elim

noncomputable def CompR (c : Cx) (n : Nat) (env : Env) (scope : Scope) (tgt : Expr) (ifs : List Expr) (elt : Expr) (ρf : List (Str × V)) (x : V) (o : Option V) : Prop :=
  ∃ bs, (∀ C, AsgC c n (cenvOf scope env C) tgt x bs) ∧ (∀ C, TstIf c n (cenvOf scope env C) (bs ++ ρf) ifs o.isSome) ∧ ∀ y, o = some y → ∀ C, Ev c n (cenvOf scope env C) (bs ++ ρf) elt y

theorem lookup_append' {l m : List (Str × V)} {x : Str} {y : V} (h : (l ++ m).lookup x = some y) : l.lookup x = some y ∨ (l.lookup x = none ∧ m.lookup x = some y) := by
  rw [List.lookup_append] at h
  cases hl : l.lookup x with
  | some z => rw [hl] at h; exact .inl h
  | none => rw [hl] at h; exact .inr ⟨rfl, h⟩

/-- the frame of the comprehension, its own names bound -/
theorem frame_comp {P : Addr → Prop} {h : Heap} {env : Env} {ρ ρf bs : List (Str × V)} {scope : Scope} {C : Addr} {m : Str → Option Value} (F : FrameAt P h env ρ) (hf : FreeOf scope env ρ ρf)
    (hcells : ∀ p ∈ scope.names, p.2 = .free → (env.cells.lookup p.1).isSome) (hkind : scope.kind = .function) (hn : h.Ns C m) (hb : ∀ y z, bs.lookup y = some z → (cenvOf scope env C).kindOf y = some .local ∧ ∃ u, m y = some u ∧ Rep P h z u) :
    FrameAt P h (cenvOf scope env C) (bs ++ ρf) := by
  refine ⟨hkind, F.gl, F.bu, fun x y e => ?_⟩
  rcases lookup_append' e with e | ⟨_, e⟩
  · obtain ⟨hk, u, hu, r⟩ := hb x y e
    exact ⟨u, .inl ⟨hk, m, hn, hu⟩, r⟩
  · obtain ⟨e1, e2, e3⟩ := hf.var x y e
    obtain ⟨v, hv, r⟩ := F.var x y e1
    refine ⟨v, .inr ?_, r⟩
    have hl := closOf_lookup (cells := env.cells) scope.names [] e2
    have hk : (cenvOf scope env C).kindOf x = some (if env.kindOf x == some .cell then .cell else .free) := lookup_relabel_free F.fk e2
    rcases hv with ⟨k, _⟩ | ⟨k, a, ha, hc⟩
    · rcases e3 with e3 | e3 <;> rw [e3] at k <;> cases k
    · refine ⟨?_, a, by show (closOf env.cells scope.names []).lookup x = some a; rw [hl, ha]; rfl, hc⟩
      rw [hk]
      rcases k with k | ⟨k, kd⟩
      · exact .inl (by rw [k]; rfl)
      · exact .inr ⟨by rw [k]; rfl, kd⟩

section
variable {c : Cx} {n : Nat} {env : Env} {ρ : List (Str × V)}

theorem comp_block {elt tgt iter : Expr} {ifs : List Expr} {scope : Scope} {pos : Pos} {ρf : List (Str × V)} {xs : List V} {outs : List (Option V)} {P : Addr → Prop} {A : Around} {E : Value → Shared → Prop} {s s₂ : Shared} {it : Value} {RR : Value → Addr → Result → Shared → Prop}
    (at_ : At c n A P s) (F : FrameAt P s.heap env ρ) (hI : ItAt c P xs s it s₂) (hlen : xs.length ≤ lim) (hf : FreeOf scope env ρ ρf) (hcells : ∀ p ∈ scope.names, p.2 = .free → (env.cells.lookup p.1).isSome)
    (hcell : ∀ y ∈ scope.names, y.2 ≠ .cell) (hkind : scope.kind = .function) (hr : All2 (CompR c n env scope tgt ifs elt ρf) xs outs)
    (hRR : ∀ D C s' m, Step c s s' → Rep P s'.heap (.list (outs.filterMap id)) (.ref D) → s'.heap.Ns C m → s.heap.get? C = none → D ≠ C → RR (.ref D) C (.ok .next) s') :
    wpAny (model c.prog c.w) A (newList []) (fun acc s₃ => wpAny (model c.prog c.w) A (newFunctionEnv scope env.globals (closOf env.cells scope.names []) [] env.qual none .none (some env)) (fun cenv s₄ =>
      codeAny (model c.prog c.w) A (.compStart (.ListComp elt [⟨tgt, iter, ifs, 0⟩] scope pos) 0 it acc { cenv with scope := relabel scope env }) (RR acc cenv.locals) s₄) E s₃) E s₂ := by
  obtain ⟨st2, I, fp, wr, St, rfl, hW, hst, hfp, hwr, hwrm, hfpP, hown⟩ := hI
  have W := hW A at_.room.1
  refine wpAny_newObj_type (wpAny_newFunctionEnv hcell (by intro y hy; simp at hy) (fun h₁ hns₁ hsb₁ => ?_) hkind)
  dsimp only at hns₁ hsb₁ ⊢
  generalize hH2 : s₂.heap.push { cls := .type "list", dict := none, data := .seq ([] : List Value).toArray } = H2 at hns₁ hsb₁ ⊢
  have hC : H2.objs.size = s₂.heap.objs.size + 1 := by rw [← hH2, Heap.size_push]
  have hDC : s₂.heap.objs.size ≠ H2.objs.size := by rw [hC]; exact Nat.ne_of_lt (Nat.lt_succ_self _)
  have below : ∀ b, b < s₂.heap.objs.size → b ≠ H2.objs.size ∧ b ≠ s₂.heap.objs.size := fun b hb => ⟨by rw [hC]; exact Nat.ne_of_lt (Nat.lt_succ_of_lt hb), Nat.ne_of_lt hb⟩
  have old : ∀ b o, s₂.heap.get? b = some o → h₁.get? b = some o := fun b o e => hsb₁.extBut b o (below b (Heap.lt_size e)).1 (Heap.get?_push_of_some _ (hH2 ▸ Heap.get?_push_of_some _ e))
  have hacc : h₁.PlainList s₂.heap.objs.size #[] := ⟨_, hsb₁.extBut _ _ hDC (Heap.get?_push_of_some _ (hH2 ▸ Heap.get?_push_size _ rfl))⟩
  have hst₁ : St 0 h₁ := W.frame _ _ _ hst fun b _ o e => old b o e
  have hD0 : s₂.heap.get? s₂.heap.objs.size = none := Heap.get?_none_of_le (Nat.le_refl _)
  have hC0 : s₂.heap.get? H2.objs.size = none := Heap.get?_none_of_le (by rw [hC]; exact Nat.le_succ _)
  have hDs : s.heap.get? s₂.heap.objs.size = none := st2.gone at_.inv hD0
  have hCs : s.heap.get? H2.objs.size = none := st2.gone at_.inv hC0
  have hDf : s₂.heap.objs.size ∉ fp := fun hm => Nat.lt_irrefl _ (hfp _ hm)
  have hCf : H2.objs.size ∉ fp := fun hm => by have := hfp _ hm; rw [hC] at this; exact Nat.lt_irrefl _ (Nat.lt_of_succ_lt this)
  have hDw : s₂.heap.objs.size ∉ wr := fun h => hDf (W.sub _ h)
  have hCw : H2.objs.size ∉ wr := fun h => hCf (W.sub _ h)
  generalize hDd : s₂.heap.objs.size = D at *
  generalize hCd : H2.objs.size = C at *
  -- the list that grows is none of the values' own
  let P' : Addr → Prop := fun b => P b ∧ b ≠ D
  have F' : ∀ s', Step c s s' → FrameAt P' s'.heap env ρ := fun s' st => by
    have F0 : FrameAt (Ex P s.heap) s.heap env ρ := ⟨F.fk, F.gl, F.bu, fun x y e => let ⟨v, a, b⟩ := F.var x y e; ⟨v, a, b.ex⟩⟩
    have F1 := F0.step st at_.inv
    refine ⟨F.fk, F.gl, F.bu, fun x y e => let ⟨v, a, b⟩ := F1.var x y e; ⟨v, a, b.mono (fun a ⟨h1, o, h2⟩ => ⟨h1, fun q => by rw [q, hDs] at h2; cases h2⟩) fun a o _ e _ => e⟩⟩
  have loop : ∀ s₃ : Shared, s₃ = { s₂ with heap := h₁, toks := s₂.toks + ([] : List (Str × Value)).length } →
      codeAny (model c.prog c.w) A (.compLoop (.ListComp elt [⟨tgt, iter, ifs, 0⟩] scope pos) 0 (.ref I) (.ref D) (cenvOf scope env C)) (RR (.ref D) C) s₃ := by
    rintro s₃ rfl
    refine compLoop_any
      (fun k s' => ∃ i ys m', Step c s s' ∧ St i s'.heap ∧ s'.heap.PlainList D ys ∧ Reps P' s'.heap ((outs.take i).filterMap id) ys.toList ∧ s'.heap.Ns C m' ∧ KeptP (Ex P s₂.heap) s₂.heap s'.heap ∧ ys.size ≤ i ∧ i ≤ xs.length ∧ k = xs.length + 1 - i) ?_ (xs.length + 1)
      ⟨0, #[], _, st2.trans (Step.of st2.inv old), hst₁, hacc, by simpa using Reps.nil, hns₁, fun a o _ e _ => old a o e, Nat.zero_le _, Nat.zero_le _, rfl⟩
    rintro k s' ⟨i, ys, m', st', hst', hacc', hys, hn', hkp, hsz, hi, rfl⟩
    have hbad : ∀ b, (b = C ∨ b = D ∨ b ∈ wr) → s.heap.get? b = none := fun b hb => by
      rcases hb with rfl | rfl | hb
      · exact hCs
      · exact hDs
      · exact hwr b hb
    have hmut : ∀ b o, (b = C ∨ b = D ∨ b ∈ wr) → s'.heap.get? b = some o → Mut o := fun b o hb e => by
      rcases hb with rfl | rfl | hb
      · obtain ⟨o', es, ep, e', hd, _⟩ := hn'
        rw [e] at e'; cases e'; exact mut_dict hd
      · obtain ⟨k', e'⟩ := hacc'
        rw [e] at e'; cases e'; exact mut_seq rfl
      · exact (hwrm b hb i _ o hst' e).1
    by_cases hlt : i < xs.length
    · refine W.item i s' _ _ hlt hst' fun v h2 tk2 hPv hst2 hk2 => ?_
      obtain ⟨o, ho, bs, hasg, htst, helt⟩ := hr.get i xs[i] (List.getElem?_eq_getElem hlt)
      have stA : Step c s { s' with heap := h2, toks := tk2 } := st'.muts at_.inv hbad hmut fun b o hb e => hk2 b o (fun hw => hb (.inr (.inr hw))) e
      have seqk : ∀ b o, SeqObj o → s'.heap.get? b = some o → h2.get? b = some o := fun b o hq e => hk2 b o (fun hw => (hwrm b hw i _ o hst' e).2 hq) e
      have haccA : h2.PlainList D ys := let ⟨k', e'⟩ := hacc'; ⟨k', hk2 _ _ hDw e'⟩
      have hysA : Reps P' h2 ((outs.take i).filterMap id) ys.toList := hys.mono (fun _ h => h) fun a o _ e hq => seqk a o hq e
      have hnA : h2.Ns C m' := let ⟨o', es, ep, e', hd, r⟩ := hn'; ⟨o', es, ep, hk2 _ _ hCw e', hd, r⟩
      have hkpA : KeptP (Ex P s₂.heap) s₂.heap h2 := fun a o hp e hq => seqk a o hq (hkp a o hp e hq)
      obtain ⟨x, hx, rx⟩ := hPv
      rw [List.getElem?_eq_getElem hlt] at hx
      cases hx
      have rxA : Rep P' h2 xs[i] v := rx.mono (fun a ⟨hp, o', e'⟩ => ⟨hp, fun q => by rw [q, hD0] at e'; cases e'⟩) fun a o' hp e' hq => hkpA a o' hp e' hq
      have hfr : ∀ s'' : Shared, Step c s s'' → (∃ o, s''.heap.get? D = some o) → Fresh P' s''.heap := fun s'' st ⟨o', e'⟩ a e => ⟨(at_.fresh.step st at_.inv) a e, fun q => by rw [q, e'] at e; cases e⟩
      obtain ⟨oI, T, e1, e2, e3⟩ := hown (i + 1) h2 hst2
      have fpt : ∀ b ∈ fp, ∀ t ∈ c.tabs, b ≠ t.P := fun b hb t ht q => by
        rcases hfpP b hb with hb | ⟨_, o', e', hq⟩
        · obtain ⟨_, ps, e', _⟩ := at_.inv.tab t ht
          have := hwr b hb
          rw [q, e'] at this; cases this
        · exact st2.inv.tab_ne e' (.inl (by rcases hq.1 with hc | hc <;> rw [hc] <;> nofun)) t ht q
      refine letOwned_any e1 e2 e3 ?_
      refine wpAny_mono ((hasg C).run P' A _ s _ v m' at_.room at_.inv stA (hfr _ stA (let ⟨_, e⟩ := haccA; ⟨_, e⟩)) hCs hnA rxA) (fun _ s₃ ⟨st3, hk3, ⟨oC, hoC⟩, m3, hn3, hb3⟩ => ?_) fun _ _ e => e
      have hk3 : ∀ b o, b ≠ C → h2.get? b = some o → s₃.heap.get? b = some o := hk3
      have hn3 : s₃.heap.Ns C m3 := hn3
      have hacc3 : s₃.heap.PlainList D ys := let ⟨k', e'⟩ := haccA; ⟨k', hk3 _ _ hDC e'⟩
      have hys3 : Reps P' s₃.heap ((outs.take i).filterMap id) ys.toList := hysA.mono (fun _ h => h) fun a o _ e hq => hk3 a o (fun q => ns_not_seq hnA (q ▸ e) hq) e
      have hkp3 : KeptP (Ex P s₂.heap) s₂.heap s₃.heap := fun a o hp e hq => by
        have := hkpA a o hp e hq
        exact hk3 a o (fun q => ns_not_seq hnA (q ▸ this) hq) this
      have hst3 : St (i + 1) s₃.heap := W.frame _ _ _ hst2 fun b hb o e => hk3 b o (fun q => hCf (q ▸ hb)) e
      have at3 : At c n A P' s₃ := ⟨at_.room, st3.inv, hfr s₃ st3 (let ⟨_, e⟩ := hacc3; ⟨_, e⟩)⟩
      have F3 : FrameAt P' s₃.heap (cenvOf scope env C) (bs ++ ρf) := frame_comp (F' s₃ st3) hf hcells hkind hn3 hb3
      refine wpAny_mono ((htst C).run at3 F3) (fun ok s₄ ⟨hok, st4⟩ => ?_) fun _ _ e => e
      have stepKeep : ∀ {u v : Shared}, Inv c u → Step c u v → KeptP (Ex P s₂.heap) s₂.heap u.heap → KeptP (Ex P s₂.heap) s₂.heap v.heap := fun I st hk a o hp e hq => st.get I (hk a o hp e hq) (.inl (by rcases hq.1 with hc | hc <;> rw [hc] <;> nofun))
      have listStep : ∀ {u v : Shared} {a : Addr} {its : Array Value}, Inv c u → Step c u v → u.heap.PlainList a its → v.heap.PlainList a its := fun I st ⟨k', e'⟩ => ⟨k', st.get I e' (.inr nofun)⟩
      subst hok
      cases o with
      | none =>
        rw [if_neg (by simp)]
        have e : (outs.take (i + 1)).filterMap id = (outs.take i).filterMap id := by rw [List.take_add_one, ho]; simp
        refine ⟨xs.length + 1 - (i + 1), by omega, i + 1, ys, m3, st3.trans st4, W.frame _ _ _ hst3 fun b hb o e => st4.old b o e (fpt b hb), listStep st3.inv st4 hacc3, ?_, st4.ns st3.inv hn3, stepKeep st3.inv st4 hkp3, by omega, hlt, rfl⟩
        rw [e]; exact st4.reps st3.inv hys3
      | some y =>
        rw [if_pos (by rfl)]
        refine wpAny_mono ((helt y rfl C).run P' A _ s₄ (at3.step st4) (F3.step st4 st3.inv)) (fun z s₅ ⟨rz, st5⟩ => ?_) fun _ _ e => e
        have st45 := st4.trans st5
        have hacc5 := listStep st3.inv st45 hacc3
        refine wpAny_list_append_plain hacc5 (fun h6 hl6 hs6 => ?_) (by have : sizeLine = 16777216 := sizeLine_eq; have hl : lim = 1048576 := rfl; omega)
        have k6 : ∀ b o, b ≠ D → s₅.heap.get? b = some o → h6.get? b = some o := fun b o hb e => hs6.extBut b o hb e
        have st6 : Step c s { s₅ with heap := h6 } := (st3.trans st45).muts at_.inv (D := (· = D)) (fun b hb => by rw [hb]; exact hDs) (fun b o hb e => by
          obtain ⟨k', e'⟩ := hacc5
          rw [hb, e'] at e; cases e; exact mut_seq rfl) fun b o hb e => k6 b o hb e
        have e : (outs.take (i + 1)).filterMap id = (outs.take i).filterMap id ++ [y] := by rw [List.take_add_one, ho]; simp
        refine ⟨xs.length + 1 - (i + 1), by omega, i + 1, ys.push z, m3, st6, W.frame _ _ _ hst3 fun b hb o e => k6 b o (fun q => hDf (q ▸ hb)) (st45.old b o e (fpt b hb)), hl6, ?_, ?_, ?_, by simp; omega, hlt, rfl⟩
        · rw [e, Array.toList_push]
          refine Reps.append ?_ (Reps.cons ?_ Reps.nil)
          · exact (st45.reps st3.inv hys3).mono (fun _ h => h) fun a o hp e _ => k6 a o hp.2 e
          · exact rz.mono (fun _ h => h) fun a o hp e _ => k6 a o hp.2 e
        · obtain ⟨o', es, ep, e', hd, r⟩ := st45.ns st3.inv hn3
          exact ⟨o', es, ep, k6 _ _ (Ne.symm hDC) e', hd, r⟩
        · exact fun a o hp e hq => k6 a o (fun q => by obtain ⟨_, o', e'⟩ := hp; rw [q, hD0] at e'; cases e') (stepKeep st3.inv st45 hkp3 a o hp e hq)
    · have hix : i = xs.length := by omega
      subst hix
      refine W.done s' _ _ hst' fun h2 tk2 hk2 => ?_
      have stA : Step c s { s' with heap := h2, toks := tk2 } := st'.muts at_.inv hbad hmut fun b o hb e => hk2 b o (fun hw => hb (.inr (.inr hw))) e
      have hnA : h2.Ns C m' := let ⟨o', es, ep, e', hd, r⟩ := hn'; ⟨o', es, ep, hk2 _ _ hCw e', hd, r⟩
      have haccA : h2.PlainList D ys := let ⟨k', e'⟩ := hacc'; ⟨k', hk2 _ _ hDw e'⟩
      refine hRR D C _ m' stA ?_ hnA hCs hDC
      unfold Rep
      refine ⟨D, ys.toList, rfl, at_.fresh D hDs, haccA, by simp; omega, ?_⟩
      have e : outs.take xs.length = outs := List.take_of_length_le (by rw [hr.length]; exact Nat.le_refl _)
      rw [e] at hys
      exact hys.mono (fun _ h => h.1) fun a o _ e hq => hk2 a o (fun hw => (hwrm a hw _ _ o hst' e).2 hq) e
  exact codeAny_compStart_list (loop _ rfl) (W.self 0 _ _ _ hst₁ (loop _ rfl))
end


/-- what of the frame around is within reach of a comprehension's own frame -/
noncomputable def within (scope : Scope) (ρ : List (Str × V)) : List (Str × V) := ρ.filter fun p => scope.names.lookup p.1 == some .free
theorem lookup_filter {l : List (Str × V)} {p : Str → Bool} {x : Str} {y : V} (h : (l.filter fun q => p q.1).lookup x = some y) : l.lookup x = some y ∧ p x = true := by
  induction l with
  | nil => cases h
  | cons q r ih =>
    rw [List.filter_cons] at h
    split at h
    · rename_i hq
      rw [List.lookup_cons] at h ⊢
      cases hx : x == q.1 with
      | true => rw [hx] at h; rw [beq_iff_eq.mp hx]; exact ⟨h, hq⟩
      | false => rw [hx] at h; exact ih h
    · rename_i hq
      rw [List.lookup_cons]
      obtain ⟨h1, h2⟩ := ih h
      cases hx : x == q.1 with
      | true => rw [← beq_iff_eq.mp hx] at hq; exact absurd h2 hq
      | false => exact ⟨h1, h2⟩

/-- the side conditions on a comprehension's own scope -/
structure ScopeOk (scope : Scope) (env : Env) (ρ : List (Str × V)) : Prop where
  kind : scope.kind = .function
  cell : ∀ y ∈ scope.names, y.2 ≠ .cell
  loc : ∀ y ∈ scope.names, y.2 = .local → scope.names.lookup y.1 = some .local
  free : ∀ y ∈ scope.names, y.2 = .free → (env.kindOf y.1 = some .cell ∨ env.kindOf y.1 = some .free) ∧ (ρ.lookup y.1).isSome = true

theorem ScopeOk.freeOf {scope : Scope} {env : Env} {ρ : List (Str × V)} (S : ScopeOk scope env ρ) : FreeOf scope env ρ (within scope ρ) := ⟨fun x y h => by
  obtain ⟨h1, h2⟩ := lookup_filter (p := fun n => scope.names.lookup n == some .free) h
  have h3 : scope.names.lookup x = some .free := beq_iff_eq.mp h2
  exact ⟨h1, h3, (S.free (x, .free) (mem_of_lookup h3) rfl).1⟩⟩
theorem ScopeOk.cells {scope : Scope} {env : Env} {ρ : List (Str × V)} (S : ScopeOk scope env ρ) {P : Addr → Prop} {h : Heap} (F : FrameAt P h env ρ) : ∀ p ∈ scope.names, p.2 = .free → (env.cells.lookup p.1).isSome := fun p hp hf => by
  obtain ⟨h1, h2⟩ := S.free p hp hf
  obtain ⟨y, hy⟩ := Option.isSome_iff_exists.mp h2
  obtain ⟨v, hv, _⟩ := F.var _ _ hy
  rcases hv with ⟨k, _⟩ | ⟨_, a, ha, _⟩
  · rcases h1 with h1 | h1 <;> rw [h1] at k <;> cases k
  · rw [ha]; rfl

section
variable {c : Cx} {n : Nat} {env : Env} {ρ : List (Str × V)}

theorem Ev.comp {elt tgt iter : Expr} {ifs : List Expr} {scope : Scope} {pos : Pos} {xs : List V} {outs : List (Option V)} (hi : It c n env ρ iter xs) (hlen : xs.length ≤ lim) (S : ScopeOk scope env ρ)
    (hr : All2 (CompR c n env scope tgt ifs elt (within scope ρ)) xs outs) (hs : ∀ x, foldedSetIterable iter env x = pure x := by intro _; rfl) :
    Ev c n env ρ (.ListComp elt [⟨tgt, iter, ifs, 0⟩] scope pos) (.list (outs.filterMap id)) := .mk fun P A E s at_ F => by
  rw [eval_ListComp]
  show wpAny _ A (comprehension _ scope env _ (newList []) false (eval iter env)) _ _ _
  refine wpAny_comprehension_free (g := ⟨tgt, iter, ifs, 0⟩) (gs := []) (use := Option.none) rfl hs (closureFor_is (S.cells F)) S.kind S.loc ?_
  refine wpAny_mono (hi.run P A E s at_ F) (fun x s₁ h₁ => wpAny_mono h₁ (fun it s₂ h₂ => ?_) fun _ _ e => e) fun _ _ e => e
  refine comp_block (RR := fun acc C r s' => compPost (model c.prog c.w) A E Option.none (fun v s' => Rep P s'.heap (.list (outs.filterMap id)) v ∧ Step c s s') acc C r s') at_ F h₂ hlen S.freeOf (S.cells F) S.cell S.kind hr fun D C s' m st r hn hC hDC => ?_
  refine ⟨m, hn, fun h' hs' => ?_⟩
  have hk : ∀ b o, b ≠ C → s'.heap.get? b = some o → h'.get? b = some o := fun b o hb e => hs'.extBut b o hb e
  obtain ⟨o, es, ep, e, hd, _⟩ := id hn
  exact ⟨r.extBut hn hk, st.muts at_.inv (D := (· = C)) (fun b hb => by rw [hb]; exact hC) (fun b o' hb e' => by rw [hb, e] at e'; cases e'; exact mut_dict hd) hk⟩
end


/-- the one list that a function's text changes: its name, its place and what it holds -/
noncomputable abbrev Own := Option (Str × Addr × List V)
noncomputable abbrev Frame := List (Str × V)
noncomputable def Bar (P : Addr → Prop) (own : Own) : Addr → Prop := fun b => P b ∧ ∀ x a ys, own = some (x, a, ys) → b ≠ a
noncomputable def full (ρ : Frame) : Own → Frame
  | none => ρ
  | some (x, _, ys) => (x, .list ys) :: ρ

structure EnvOk (env : Env) (h₀ : Heap) : Prop where
  fk : env.scope.kind = .function
  gl : env.globals = mainGlobals
  bu : env.builtins = builtinsNs
  loc0 : h₀.get? env.locals = none
  cell0 : ∀ x a, env.kindOf x = some .cell → env.cells.lookup x = some a → h₀.get? a = none
  inj : ∀ x y a, env.kindOf x = some .cell → env.cells.lookup x = some a → env.cells.lookup y = some a → x = y

structure St (c : Cx) (s₀ : Shared) (P : Addr → Prop) (env : Env) (ρ : Frame) (own : Own) (s : Shared) : Prop where
  step : Step c s₀ s
  eok : EnvOk env s₀.heap
  frame : FrameAt (Bar P own) s.heap env ρ
  ns : ∃ m, s.heap.Ns env.locals m
  cellv : ∀ x a, env.kindOf x = some .cell ∨ env.kindOf x = some .free → env.cells.lookup x = some a → ∃ v, s.heap.IsCell a v
  own : ∀ x a ys, own = some (x, a, ys) → s₀.heap.get? a = none ∧ VarAt s.heap env x (.ref a) ∧ ∃ vs : List Value, s.heap.PlainList a vs.toArray ∧ vs.length ≤ lim ∧ Reps (Bar P own) s.heap ys vs

theorem isCell_get {h : Heap} {a : Addr} {v : Option Value} (x : h.IsCell a v) {o : Obj} (e : h.get? a = some o) : o.data = .cell v := let ⟨o', e', d⟩ := x; by rw [e] at e'; cases e'; exact d
theorem ns_get {h : Heap} {a : Addr} {m : Str → Option Value} (x : h.Ns a m) {o : Obj} (e : h.get? a = some o) : ∃ es k, o.data = .dict es k := let ⟨o', es, k, e', d, _⟩ := x; by rw [e] at e'; cases e'; exact ⟨es, k, d⟩
theorem ns_uniq {h : Heap} {a : Addr} {m m' : Str → Option Value} (x : h.Ns a m) (y : h.Ns a m') (z : Str) : m z = m' z := by
  obtain ⟨o, es, k, e, d, _, f⟩ := x
  obtain ⟨o', es', k', e', d', _, f'⟩ := y
  rw [e] at e'; cases e'; rw [d] at d'; cases d'
  rw [← f, ← f']
theorem cell_not_ns {h : Heap} {a : Addr} {v : Option Value} {m : Str → Option Value} (x : h.IsCell a v) (y : h.Ns a m) : False := by
  obtain ⟨o, e, d⟩ := x
  obtain ⟨es, k, d'⟩ := ns_get y e
  rw [d] at d'; cases d'
theorem list_not_ns {h : Heap} {a : Addr} {vs : Array Value} {m : Str → Option Value} (x : h.PlainList a vs) (y : h.Ns a m) : False := by
  obtain ⟨n, e⟩ := x
  obtain ⟨es, k, d'⟩ := ns_get y e
  cases d'
theorem list_not_cell {h : Heap} {a : Addr} {vs : Array Value} {v : Option Value} (x : h.PlainList a vs) (y : h.IsCell a v) : False := by
  obtain ⟨n, e⟩ := x
  have := isCell_get y e
  cases this
theorem plainList_step {c : Cx} {u v : Shared} {a : Addr} {its : Array Value} (I : Inv c u) (st : Step c u v) (x : u.heap.PlainList a its) : v.heap.PlainList a its := let ⟨k', e'⟩ := x; ⟨k', st.get I e' (.inr nofun)⟩

section
variable {c : Cx} {s₀ s : Shared} {P : Addr → Prop} {env : Env} {ρ : Frame} {own : Own}

theorem St.stepTo (X : St c s₀ P env ρ own s) {s' : Shared} (st : Step c s s') : St c s₀ P env ρ own s' where
  step := X.step.trans st
  eok := X.eok
  frame := X.frame.step st X.step.inv
  ns := let ⟨m, h⟩ := X.ns; ⟨m, st.ns X.step.inv h⟩
  cellv := fun x a h e => let ⟨v, h⟩ := X.cellv x a h e; ⟨v, st.cell X.step.inv h⟩
  own := fun x a ys e => let ⟨h1, h2, vs, h3, h4, h5⟩ := X.own x a ys e; ⟨h1, h2.step st X.step.inv, vs, plainList_step X.step.inv st h3, h4, st.reps X.step.inv h5⟩

theorem Bar.exists (X : St c s₀ P env ρ own s) {n : Nat} {A : Around} (at_ : At c n A P s₀) : At c n A (Bar P own) s := ⟨at_.room, X.step.inv, fun a e => ⟨(at_.fresh.step X.step at_.inv) a e, fun x b ys h q => by
  obtain ⟨_, _, vs, ⟨k, h3⟩, _⟩ := X.own x b ys h
  rw [q, h3] at e; cases e⟩⟩
theorem St.at (X : St c s₀ P env ρ own s) {n : Nat} {A : Around} (at_ : At c n A P s₀) : At c n A P s := at_.step X.step

theorem St.full (X : St c s₀ P env ρ own s) {n : Nat} {A : Around} (at_ : At c n A P s₀) : FrameAt P s.heap env (full ρ own) := by
  refine ⟨X.frame.fk, X.frame.gl, X.frame.bu, ?_⟩
  have base : ∀ z y, ρ.lookup z = some y → ∃ v, VarAt s.heap env z v ∧ Rep P s.heap y v := fun z y e => let ⟨v, h1, h2⟩ := X.frame.var z y e; ⟨v, h1, h2.mono (fun _ h => h.1) fun _ _ _ e _ => e⟩
  cases own with
  | none => exact base
  | some o =>
    obtain ⟨x, a, ys⟩ := o
    intro z y e
    change List.lookup z ((x, V.list ys) :: ρ) = some y at e
    rw [List.lookup_cons] at e
    cases hx : z == x with
    | false => rw [hx] at e; exact base z y e
    | true =>
      rw [hx] at e; cases e
      obtain rfl := beq_iff_eq.mp hx
      obtain ⟨h1, h2, vs, h3, h4, h5⟩ := X.own z a ys rfl
      refine ⟨_, h2, ?_⟩
      unfold Rep
      exact ⟨a, vs, rfl, at_.fresh a h1, h3, h4, h5.mono (fun _ h => h.1) fun _ _ _ e _ => e⟩

/-- what does not belong to the frame may change -/
theorem St.touch (X : St c s₀ P env ρ own s) (I₀ : Inv c s₀) {D : Addr → Prop} (hD : ∀ b, D b → s₀.heap.get? b = none) (hM : ∀ b o, D b → s.heap.get? b = some o → Mut o) (hL : ¬ D env.locals)
    (hC : ∀ x a, env.kindOf x = some .cell ∨ env.kindOf x = some .free → env.cells.lookup x = some a → ¬ D a) (hP : ∀ b o, D b → Bar P own b → s.heap.get? b = some o → ¬ SeqObj o) (hO : ∀ x a ys, own = some (x, a, ys) → ¬ D a)
    {h' : Heap} {tk : Nat} (k : ∀ b o, ¬ D b → s.heap.get? b = some o → h'.get? b = some o) : St c s₀ P env ρ own { s with heap := h', toks := tk } := by
  have hrep : ∀ {y v}, Rep (Bar P own) s.heap y v → Rep (Bar P own) h' y v := fun r => r.mono (fun _ h => h) fun a o hp e hq => k a o (fun d => hP a o d hp e hq) e
  have hreps : ∀ {y v}, Reps (Bar P own) s.heap y v → Reps (Bar P own) h' y v := fun r => r.mono (fun _ h => h) fun a o hp e hq => k a o (fun d => hP a o d hp e hq) e
  have hcell : ∀ {a v}, ¬ D a → s.heap.IsCell a v → h'.IsCell a v := fun hd ⟨o, e, d⟩ => ⟨o, k _ o hd e, d⟩
  have hvar : ∀ {z v}, VarAt s.heap env z v → VarAt h' env z v := fun h => by
    rcases h with ⟨q, m, hm, e⟩ | ⟨q, a, ha, hc⟩
    · obtain ⟨o, es, ep, e', hd, r⟩ := hm
      exact .inl ⟨q, m, ⟨o, es, ep, k _ o hL e', hd, r⟩, e⟩
    · exact .inr ⟨q, a, ha, hcell (hC _ a (q.imp id And.left) ha) hc⟩
  exact {
    step := X.step.muts I₀ hD hM k
    eok := X.eok
    frame := ⟨X.frame.fk, X.frame.gl, X.frame.bu, fun z y e => let ⟨v, h1, h2⟩ := X.frame.var z y e; ⟨v, hvar h1, hrep h2⟩⟩
    ns := let ⟨m, o, es, ep, e', hd, r⟩ := X.ns; ⟨m, o, es, ep, k _ o hL e', hd, r⟩
    cellv := fun x a h e => let ⟨v, h'⟩ := X.cellv x a h e; ⟨v, hcell (hC x a h e) h'⟩
    own := fun x a ys e => let ⟨h1, h2, vs, ⟨n, h3⟩, h4, h5⟩ := X.own x a ys e; ⟨h1, hvar h2, vs, ⟨n, k _ _ (hO x a ys e) h3⟩, h4, hreps h5⟩ }

theorem St.weak (X : St c s₀ P env ρ own s) {ρ' : Frame} (h : ∀ x y, ρ'.lookup x = some y → ρ.lookup x = some y) : St c s₀ P env ρ' own s :=
  { X with frame := ⟨X.frame.fk, X.frame.gl, X.frame.bu, fun x y e => X.frame.var x y (h x y e)⟩ }

theorem Bar.none_iff {b : Addr} : Bar P none b ↔ P b := ⟨fun h => h.1, fun h => ⟨h, nofun⟩⟩
theorem FrameAt.monoP {P P' : Addr → Prop} {h : Heap} (F : FrameAt P h env ρ) (hp : ∀ a, P a → P' a) : FrameAt P' h env ρ := ⟨F.fk, F.gl, F.bu, fun x y e => let ⟨v, h1, h2⟩ := F.var x y e; ⟨v, h1, h2.mono hp fun _ _ _ e _ => e⟩⟩
theorem Reps.monoP {P P' : Addr → Prop} {h : Heap} {ys : List V} {vs : List Value} (r : Reps P h ys vs) (hp : ∀ a, P a → P' a) : Reps P' h ys vs := r.mono hp fun _ _ _ e _ => e
theorem Rep.monoP {P P' : Addr → Prop} {h : Heap} {y : V} {v : Value} (r : Rep P h y v) (hp : ∀ a, P a → P' a) : Rep P' h y v := r.mono hp fun _ _ _ e _ => e

theorem St.drop (X : St c s₀ P env ρ own s) : St c s₀ (Bar P own) env ρ none s :=
  { X with frame := X.frame.monoP fun a h => Bar.none_iff.mpr h, own := nofun }
theorem St.put {x : Str} {a : Addr} {ys : List V} (X : St c s₀ (Bar P (some (x, a, ys))) env ρ none s) (h0 : s₀.heap.get? a = none) (hv : VarAt s.heap env x (.ref a)) {vs : List Value} (hl : s.heap.PlainList a vs.toArray) (hn : vs.length ≤ lim) (hr : Reps (Bar P (some (x, a, ys))) s.heap ys vs) :
    St c s₀ P env ρ (some (x, a, ys)) s :=
  { X with frame := X.frame.monoP fun a h => Bar.none_iff.mp h, own := fun x' a' ys' e => by cases e; exact ⟨h0, hv, vs, hl, hn, hr⟩ }
theorem Bar.sub {x x' : Str} {a : Addr} {ys ys' : List V} : ∀ b, Bar P (some (x, a, ys)) b → Bar P (some (x', a, ys')) b := fun b h => ⟨h.1, fun x'' a'' ys'' e => by cases e; exact h.2 x a ys rfl⟩
end

/-- what a text may have changed, of what stood at its start -/
structure Kp (c : Cx) (env : Env) (own : Own) (s : Shared) (own' : Own) (s' : Shared) : Prop where
  keep : ∀ b o, b ≠ env.locals → (∀ x, env.kindOf x = some .cell → env.cells.lookup x ≠ some b) → (∀ x ys, own ≠ some (x, b, ys)) → (∀ t ∈ c.tabs, b ≠ t.P) → s.heap.get? b = some o → s'.heap.get? b = some o
  own : ∀ x a ys, own' = some (x, a, ys) → (∃ x' ys', own = some (x', a, ys')) ∨ s.heap.get? a = none
  stay : ∀ b o, s.heap.get? b = some o → ∃ o', s'.heap.get? b = some o'
  gens : ∀ (i : Nat) (x : GenState), s.gens[i]? = some x → s'.gens[i]? = some x

theorem Step.stay {c : Cx} {s s' : Shared} (st : Step c s s') (b : Addr) (o : Obj) (e : s.heap.get? b = some o) : ∃ o', s'.heap.get? b = some o' := by
  by_cases h4 : ∃ t ∈ c.tabs, b = t.P
  · obtain ⟨t, ht, rfl⟩ := h4
    obtain ⟨_, ps, e', _⟩ := st.inv.tab t ht
    exact ⟨_, e'⟩
  · exact ⟨o, st.old b o e fun t ht q => h4 ⟨t, ht, q⟩⟩
theorem Kp.step {c : Cx} {env : Env} {own : Own} {s s' : Shared} (st : Step c s s') : Kp c env own s own s' := ⟨fun b o _ _ _ ht e => st.old b o e ht, fun x a ys e => .inl ⟨x, ys, e⟩, st.stay, st.gens⟩
theorem Kp.trans {c : Cx} {env : Env} {o1 o2 o3 : Own} {s1 s2 s3 : Shared} (h : Kp c env o1 s1 o2 s2) (h' : Kp c env o2 s2 o3 s3) : Kp c env o1 s1 o3 s3 := by
  refine ⟨fun b o h1 h2 h3 h4 e => h'.keep b o h1 h2 (fun x ys q => ?_) h4 (h.keep b o h1 h2 h3 h4 e), fun x a ys q => ?_, fun b o e => let ⟨o', e'⟩ := h.stay b o e; h'.stay b o' e', fun i z e => h'.gens i z (h.gens i z e)⟩
  · rcases h.own x b ys q with ⟨x', ys', q'⟩ | q'
    · exact h3 x' ys' q'
    · rw [e] at q'; cases q'
  · rcases h'.own x a ys q with ⟨x', ys', q'⟩ | q'
    · rcases h.own x' a ys' q' with r | r
      · exact .inl r
      · exact .inr r
    · cases e : s1.heap.get? a with
      | none => exact .inr rfl
      | some o => obtain ⟨o', e'⟩ := h.stay a o e; rw [e'] at q'; cases q'

structure Post where
  next : Frame → Own → Prop := fun _ _ => False
  brk : Frame → Own → Prop := fun _ _ => False
  cont : Frame → Own → Prop := fun _ _ => False
  ret : V → Prop := fun _ => False

noncomputable def Fin (c : Cx) (s₀ : Shared) (P : Addr → Prop) (env : Env) (own : Own) (s : Shared) (Q : Post) : Flow → Shared → Prop
  | .next, s' => ∃ ρ' own', Q.next ρ' own' ∧ St c s₀ P env ρ' own' s' ∧ Kp c env own s own' s'
  | .brk, s' => ∃ ρ' own', Q.brk ρ' own' ∧ St c s₀ P env ρ' own' s' ∧ Kp c env own s own' s'
  | .cont, s' => ∃ ρ' own', Q.cont ρ' own' ∧ St c s₀ P env ρ' own' s' ∧ Kp c env own s own' s'
  | .ret v, s' => ∃ y, Q.ret y ∧ Rep P s'.heap y v ∧ Step c s₀ s'

structure WS (c : Cx) (n : Nat) (env : Env) (ss : List Stmt) (ρ : Frame) (own : Own) (Q : Post) : Prop where
  run : ∀ P A E s₀ s, At c n A P s₀ → St c s₀ P env ρ own s → wpAny (model c.prog c.w) A (execs ss env) (Fin c s₀ P env own s Q) E s
structure WX (c : Cx) (n : Nat) (env : Env) (x : Stmt) (ρ : Frame) (own : Own) (Q : Post) : Prop where
  run : ∀ P A E s₀ s, At c n A P s₀ → St c s₀ P env ρ own s → wpAny (model c.prog c.w) A (exec x env) (Fin c s₀ P env own s Q) E s



noncomputable def Var (env : Env) (x : Str) : Prop := env.kindOf x = some .local ∨ (env.kindOf x = some .cell ∧ (env.cells.lookup x).isSome = true)

section
variable {c : Cx} {n : Nat} {s₀ s : Shared} {P : Addr → Prop} {env : Env} {ρ : Frame} {own : Own} {A : Around}

theorem Kp.one {s' : Shared} {d : Addr} (hd : d = env.locals ∨ ∃ x, env.kindOf x = some .cell ∧ env.cells.lookup x = some d) (k : ∀ b o, b ≠ d → s.heap.get? b = some o → s'.heap.get? b = some o) (he : ∃ o, s'.heap.get? d = some o) (hg : ∀ (i : Nat) (x : GenState), s.gens[i]? = some x → s'.gens[i]? = some x) : Kp c env own s own s' where
  gens := hg
  keep := fun b o h1 h2 _ _ e => k b o (fun q => by
    rcases hd with rfl | ⟨x, k1, k2⟩
    · exact h1 q
    · exact h2 x k1 (q ▸ k2)) e
  own := fun x a ys e => .inl ⟨x, ys, e⟩
  stay := fun b o e => by
    by_cases q : b = d
    · rw [q]; exact he
    · exact ⟨o, k b o q e⟩

/-- a name bound anew -/
structure Put (c : Cx) (s₀ s : Shared) (env : Env) (own : Own) (x : Str) (v : Value) (s' : Shared) : Prop where
  step : Step c s₀ s'
  var : VarAt s'.heap env x v
  rest : ∀ z w, z ≠ x → VarAt s.heap env z w → VarAt s'.heap env z w
  ns : ∃ m, s'.heap.Ns env.locals m
  cellv : ∀ x a, env.kindOf x = some .cell ∨ env.kindOf x = some .free → env.cells.lookup x = some a → ∃ v, s'.heap.IsCell a v
  seq : ∀ a o, SeqObj o → s.heap.get? a = some o → s'.heap.get? a = some o
  kp : Kp c env own s own s'

theorem St.putName (X : St c s₀ P env ρ own s) (I₀ : Inv c s₀) {M : Model} {E : Value → Shared → Prop} {x : Str} {v : Value} (hk : Var env x) :
    wpAny M A (storeName env x v) (fun _ s' => Put c s₀ s env own x v s') E s := by
  obtain ⟨m, hn⟩ := X.ns
  have fin : ∀ {d : Addr} {h' : Heap} {tk : Nat}, s₀.heap.get? d = none → (∀ o, s.heap.get? d = some o → Mut o ∧ ¬ SeqObj o) → (d = env.locals ∨ ∃ x, env.kindOf x = some .cell ∧ env.cells.lookup x = some d) → (∃ o, h'.get? d = some o) →
      (∀ b o, b ≠ d → s.heap.get? b = some o → h'.get? b = some o) → Step c s₀ { s with heap := h', toks := tk } ∧ (∀ a o, SeqObj o → s.heap.get? a = some o → h'.get? a = some o) ∧ Kp c env own s own { s with heap := h', toks := tk } :=
    fun {d h' tk} hd0 hm hd he k => ⟨X.step.muts I₀ (D := (· = d)) (fun b hb => by rw [hb]; exact hd0) (fun b o hb e => (hm o (hb ▸ e)).1) k, fun a o hq e => k a o (fun q => (hm o (q ▸ e)).2 hq) e, Kp.one hd k he fun _ _ e => e⟩
  rcases hk with hk | ⟨hk, ha⟩
  · refine wpAny_storeName_local hk hn (fun h' hn' hs => ?_) (noclass X.eok.fk)
    have k : ∀ b o, b ≠ env.locals → s.heap.get? b = some o → h'.get? b = some o := fun b o hb e => hs.extBut b o hb e
    obtain ⟨f1, f2, f3⟩ := fin (tk := s.toks + 1) X.eok.loc0 (fun o e => by
      obtain ⟨es, q, d⟩ := ns_get hn e
      exact ⟨mut_dict d, ns_not_seq hn e⟩) (.inl rfl) (let ⟨o, _, _, e, _⟩ := hn'; ⟨o, e⟩) k
    refine ⟨f1, .inl ⟨hk, _, hn', by simp⟩, fun z w hz h => ?_, ⟨_, hn'⟩, fun z a h e => ?_, f2, f3⟩
    · rcases h with ⟨q, m₁, hm₁, e⟩ | ⟨q, a, ha, hc⟩
      · refine .inl ⟨q, _, hn', ?_⟩
        simp only [hz, if_false]
        rw [ns_uniq hn hm₁ z]; exact e
      · refine .inr ⟨q, a, ha, ?_⟩
        obtain ⟨o, e, d⟩ := id hc
        exact ⟨o, k a o (fun q => cell_not_ns hc (q ▸ hn)) e, d⟩
    · obtain ⟨v', hc⟩ := X.cellv z a h e
      obtain ⟨o, e, d⟩ := id hc
      exact ⟨v', o, k a o (fun q => cell_not_ns hc (q ▸ hn)) e, d⟩
  · obtain ⟨a, ha⟩ := Option.isSome_iff_exists.mp ha
    obtain ⟨v₀, hc⟩ := X.cellv x a (.inl hk) ha
    refine wpAny_storeName_cell X.eok.fk hk ha hc fun h' hc' hs => ?_
    have k : ∀ b o, b ≠ a → s.heap.get? b = some o → h'.get? b = some o := fun b o hb e => hs.extBut b o hb e
    have hn' : h'.Ns env.locals m := hn.sameBut hs fun q => cell_not_ns hc (q ▸ hn)
    obtain ⟨f1, f2, f3⟩ := fin (tk := s.toks) (X.eok.cell0 x a hk ha) (fun o e => by
      have d := isCell_get hc e
      exact ⟨mut_cell d, fun q => by obtain ⟨_, its, _, d'⟩ := q; rw [d] at d'; cases d'⟩) (.inr ⟨x, hk, ha⟩) (let ⟨o, e, _⟩ := hc'; ⟨o, e⟩) k
    refine ⟨f1, .inr ⟨.inl hk, a, ha, hc'⟩, fun z w hz h => ?_, ⟨_, hn'⟩, fun z b h e => ?_, f2, f3⟩
    · rcases h with ⟨q, m₁, hm₁, e⟩ | ⟨q, b, hb, hcb⟩
      · exact .inl ⟨q, m₁, hm₁.sameBut hs (fun q => cell_not_ns hc (q ▸ hm₁)), e⟩
      · have hba : b ≠ a := fun q => hz (X.eok.inj x z a hk ha (q ▸ hb)).symm
        exact .inr ⟨q, b, hb, let ⟨o, e, d⟩ := hcb; ⟨o, k b o hba e, d⟩⟩
    · by_cases q : b = a
      · subst q; exact ⟨_, hc'⟩
      · obtain ⟨v', o, e, d⟩ := X.cellv z b h e
        exact ⟨v', o, k b o q e, d⟩

theorem Put.st {x : Str} {y : V} {v : Value} {s' : Shared} (p : Put c s₀ s env own x v s') (X : St c s₀ P env ρ own s) (hx : ∀ a ys, own ≠ some (x, a, ys)) (r : Rep (Bar P own) s.heap y v) : St c s₀ P env ((x, y) :: ρ) own s' where
  step := p.step
  eok := X.eok
  frame := ⟨X.frame.fk, X.frame.gl, X.frame.bu, fun z w e => by
      rw [List.lookup_cons] at e
      cases hzx : z == x with
      | true =>
        rw [hzx] at e; cases e
        obtain rfl := beq_iff_eq.mp hzx
        exact ⟨v, p.var, r.mono (fun _ h => h) fun a o _ e hq => p.seq a o hq e⟩
      | false =>
        rw [hzx] at e
        obtain ⟨u, h1, h2⟩ := X.frame.var z w e
        exact ⟨u, p.rest z u (fun q => by rw [q] at hzx; simp at hzx) h1, h2.mono (fun _ h => h) fun a o _ e hq => p.seq a o hq e⟩⟩
  ns := p.ns
  cellv := p.cellv
  own := fun x' a ys e => by
      obtain ⟨h1, h2, vs, ⟨q, h3⟩, h4, h5⟩ := X.own x' a ys e
      exact ⟨h1, p.rest _ _ (fun q => hx a ys (q ▸ e)) h2, vs, ⟨q, p.seq _ _ ⟨.inl rfl, _, _, rfl⟩ h3⟩, h4, h5.mono (fun _ h => h) fun a o _ e hq => p.seq a o hq e⟩

theorem St.store (X : St c s₀ P env ρ own s) (I₀ : Inv c s₀) {M : Model} {E : Value → Shared → Prop} {x : Str} {y : V} {v : Value} (hk : Var env x) (hx : ∀ a ys, own ≠ some (x, a, ys)) (r : Rep (Bar P own) s.heap y v) :
    wpAny M A (storeName env x v) (fun _ s' => St c s₀ P env ((x, y) :: ρ) own s' ∧ Kp c env own s own s') E s :=
  wpAny_mono (X.putName I₀ hk) (fun _ s' p => ⟨p.st X hx r, p.kp⟩) fun _ _ e => e
end

structure Evo (c : Cx) (n : Nat) (env : Env) (ρ : Frame) (own : Own) (e : Expr) (y : V) : Prop where
  run : ∀ P A E s₀ s, At c n A P s₀ → St c s₀ P env ρ own s → wpAny (model c.prog c.w) A (eval e env) (fun v s' => Rep (Bar P own) s'.heap y v ∧ Step c s s') E s

section
variable {c : Cx} {n : Nat} {env : Env} {ρ : Frame} {own : Own} {Q : Post}

theorem Evo.of {e : Expr} {y : V} (h : Ev c n env ρ e y) : Evo c n env ρ own e y := .mk fun P A E s₀ s at_ X => h.run _ A E s (Bar.exists X at_) X.frame
theorem Evo.flat {e : Expr} {y : V} (h : Ev c n env (full ρ own) e y) (hy : y.flat = true) : Evo c n env ρ own e y := .mk fun P A E s₀ s at_ X =>
  wpAny_mono (h.run P A E s (X.at at_) (X.full at_)) (fun v s' ⟨r, st⟩ => ⟨r.flat hy, st⟩) fun _ _ e => e

theorem WS.nil (h : Q.next ρ own) : WS c n env [] ρ own Q := .mk fun P A E s₀ s at_ X => wpAny_execs_nil ⟨ρ, own, h, X, Kp.step (Step.refl X.step.inv)⟩

theorem WS.cons {x : Stmt} {rest : List Stmt} (h : WX c n env x ρ own { Q with next := fun ρ' own' => WS c n env rest ρ' own' Q }) : WS c n env (x :: rest) ρ own Q := .mk fun P A E s₀ s at_ X =>
  wpAny_execs_cons (wpAny_mono (h.run P A E s₀ s at_ X) (fun f s' hf => by
    cases f with
    | next =>
      obtain ⟨ρ', own', hq, X', k⟩ := hf
      refine wpAny_mono (hq.run P A E s₀ s' at_ X') (fun f s'' hf => ?_) fun _ _ e => e
      cases f with
      | next => obtain ⟨ρ'', own'', hq, X'', k'⟩ := hf; exact ⟨ρ'', own'', hq, X'', k.trans k'⟩
      | brk => obtain ⟨ρ'', own'', hq, X'', k'⟩ := hf; exact ⟨ρ'', own'', hq, X'', k.trans k'⟩
      | cont => obtain ⟨ρ'', own'', hq, X'', k'⟩ := hf; exact ⟨ρ'', own'', hq, X'', k.trans k'⟩
      | ret v => exact hf
    | brk => exact hf
    | cont => exact hf
    | ret v => exact hf) fun _ _ e => e)

theorem Fin.from {s₀ s s₁ : Shared} {P : Addr → Prop} {f : Flow} {s' : Shared} {own₁ : Own} (k : Kp c env own s own₁ s₁) (h : Fin c s₀ P env own₁ s₁ Q f s') : Fin c s₀ P env own s Q f s' := by
  cases f with
  | next => obtain ⟨ρ'', own'', hq, X'', k'⟩ := h; exact ⟨ρ'', own'', hq, X'', k.trans k'⟩
  | brk => obtain ⟨ρ'', own'', hq, X'', k'⟩ := h; exact ⟨ρ'', own'', hq, X'', k.trans k'⟩
  | cont => obtain ⟨ρ'', own'', hq, X'', k'⟩ := h; exact ⟨ρ'', own'', hq, X'', k.trans k'⟩
  | ret v => exact h

theorem WS.weak {ss : List Stmt} {ρ' : Frame} (h : WS c n env ss ρ' own Q) (hs : ∀ x y, ρ'.lookup x = some y → ρ.lookup x = some y) : WS c n env ss ρ own Q := .mk fun P A E s₀ s at_ X => h.run P A E s₀ s at_ (X.weak hs)
theorem WS.post {ss : List Stmt} {Q' : Post} (h : WS c n env ss ρ own Q) (h1 : ∀ a b, Q.next a b → Q'.next a b) (h2 : ∀ a b, Q.brk a b → Q'.brk a b) (h3 : ∀ a b, Q.cont a b → Q'.cont a b) (h4 : ∀ y, Q.ret y → Q'.ret y) : WS c n env ss ρ own Q' := .mk fun P A E s₀ s at_ X =>
  wpAny_mono (h.run P A E s₀ s at_ X) (fun f s' hf => by
    cases f with
    | next => obtain ⟨ρ'', own'', hq, r⟩ := hf; exact ⟨ρ'', own'', h1 _ _ hq, r⟩
    | brk => obtain ⟨ρ'', own'', hq, r⟩ := hf; exact ⟨ρ'', own'', h2 _ _ hq, r⟩
    | cont => obtain ⟨ρ'', own'', hq, r⟩ := hf; exact ⟨ρ'', own'', h3 _ _ hq, r⟩
    | ret v => obtain ⟨y, hq, r⟩ := hf; exact ⟨y, h4 _ hq, r⟩) fun _ _ e => e

theorem WX.assign {x : Str} {p pos : Pos} {e : Expr} {y : V} (h : Evo c n env ρ own e y) (hk : Var env x) (hx : ∀ a ys, own ≠ some (x, a, ys)) (hq : Q.next ((x, y) :: ρ) own)
    (hs : swapsWith e (some (.Name x p)) pos.line env = pure false := by rfl) : WX c n env (.Assign [.Name x p] e pos) ρ own Q := .mk fun P A E s₀ s at_ X =>
  wpAny_Assign_Name (wpAny_mono (h.run P A E s₀ s at_ X) (fun v s₁ ⟨r, st⟩ => wpAny_mono ((X.stepTo st).store at_.inv hk hx r) (fun _ s₂ ⟨X', k⟩ => ⟨_, own, hq, X', (Kp.step st).trans k⟩) fun _ _ e => e) fun _ _ e => e) hs

theorem WX.chain {x1 x2 : Str} {p1 p2 pos : Pos} {e : Expr} {y : V} (h : Evo c n env ρ own e y) (hk1 : Var env x1) (hk2 : Var env x2) (hx1 : ∀ a ys, own ≠ some (x1, a, ys)) (hx2 : ∀ a ys, own ≠ some (x2, a, ys)) (hy : y.flat = true)
    (hq : Q.next ((x2, y) :: (x1, y) :: ρ) own) : WX c n env (.Assign [.Name x1 p1, .Name x2 p2] e pos) ρ own Q := .mk fun P A E s₀ s at_ X =>
  wpAny_Assign_two (wpAny_mono (h.run P A E s₀ s at_ X) (fun v s₁ ⟨r, st⟩ => wpAny_assign_Name (wpAny_mono ((X.stepTo st).store at_.inv hk1 hx1 r) (fun _ s₂ ⟨X', k⟩ =>
    wpAny_assign_Name (wpAny_mono (X'.store at_.inv hk2 hx2 (r.flat hy)) (fun _ s₃ ⟨X'', k'⟩ => ⟨_, own, hq, X'', ((Kp.step st).trans k).trans k'⟩) fun _ _ e => e)) fun _ _ e => e)) fun _ _ e => e)

theorem WX.aug {x : Str} {p pos : Pos} {op : Operator} {e : Expr} {a b z : Int} (hl : ρ.lookup x = some (.int a)) (h : Evo c n env ρ own e (.int b)) (hk : Var env x) (hx : ∀ a ys, own ≠ some (x, a, ys))
    (hop : (op = .Add ∧ z = a + b) ∨ (op = .Sub ∧ z = a - b)) (hq : Q.next ((x, .int z) :: ρ) own) : WX c n env (.AugAssign (.Name x p) op e pos) ρ own Q := .mk fun P A E s₀ s at_ X => by
  obtain ⟨v, hv, r⟩ := X.frame.var x _ hl
  obtain ⟨t, rfl⟩ := r.int_inv
  refine wpAny_AugAssign_Name (load_var X.eok.fk hv (wpAny_mono (h.run P A E s₀ s at_ X) (fun v s₁ ⟨r', st⟩ => ?_) fun _ _ e => e))
  obtain ⟨u, rfl⟩ := r'.int_inv
  have fin : ∀ (tk : Nat) (v : Value), Rep (Bar P own) s₁.heap (.int z) v → wpAny (model c.prog c.w) A (storeName env x v) (fun _ => Fin c s₀ P env own s Q .next) E { s₁ with toks := tk } := fun tk v r => by
    have st' : Step c s₁ { s₁ with toks := tk } := Step.toks st.inv
    exact wpAny_mono (((X.stepTo st).stepTo st').store at_.inv hk hx r) (fun _ s₂ ⟨X', k⟩ => ⟨_, own, hq, X', ((Kp.step st).trans (Kp.step st')).trans k⟩) fun _ _ e => e
  rcases hop with ⟨rfl, rfl⟩ | ⟨rfl, rfl⟩
  · exact AutoIntOps.iadd_0 (fin _ _ rep_int)
  · exact AutoIntOps.isub_0 (fin _ _ rep_int)

theorem WX.ite {t : Expr} {a b : List Stmt} {pos : Pos} {v : Bool} (h : Tst c n env (full ρ own) t v) (h1 : v = true → WS c n env a ρ own Q) (h2 : v = false → WS c n env b ρ own Q) : WX c n env (.If t a b pos) ρ own Q := .mk fun P A E s₀ s at_ X =>
  wpAny_If (wpAny_mono (h.run P A E s (X.at at_) (X.full at_)) (fun b' s₁ ⟨e, st⟩ => by
    subst e
    cases b' with
    | true => exact wpAny_mono ((h1 rfl).run P A E s₀ s₁ at_ (X.stepTo st)) (fun f s' hf => Fin.from (Kp.step st) hf) fun _ _ e => e
    | false => exact wpAny_mono ((h2 rfl).run P A E s₀ s₁ at_ (X.stepTo st)) (fun f s' hf => Fin.from (Kp.step st) hf) fun _ _ e => e) fun _ _ e => e)

theorem WX.ret {e : Expr} {pos : Pos} {y : V} (h : Ev c n env (full ρ own) e y) (hq : Q.ret y) : WX c n env (.Return (some e) pos) ρ own Q := .mk fun P A E s₀ s at_ X =>
  wpAny_Return_some (wpAny_mono (h.run P A E s (X.at at_) (X.full at_)) (fun v s₁ ⟨r, st⟩ => ⟨y, hq, r, X.step.trans st⟩) fun _ _ e => e)
theorem WX.ret_none {pos : Pos} (hq : Q.ret .none) : WX c n env (.Return none pos) ρ own Q := .mk fun P A E s₀ s at_ X =>
  wpAny_Return_none ⟨.none, hq, by unfold Rep; rfl, X.step⟩
theorem WX.brk {pos : Pos} (hq : Q.brk ρ own) : WX c n env (.Break pos) ρ own Q := .mk fun P A E s₀ s at_ X =>
  wpAny_Break ⟨ρ, own, hq, X, Kp.step (Step.refl X.step.inv)⟩

theorem WX.while {t : Expr} {body : List Stmt} {pos : Pos} (I : Nat → Frame → Own → Prop) (m : Nat) (h0 : I m ρ own)
    (turn : ∀ m ρ' own', I m ρ' own' → ∃ v, Tst c n env (full ρ' own') t v ∧ (v = true → WS c n env body ρ' own' { next := fun a b => ∃ m', m' < m ∧ I m' a b, cont := fun a b => ∃ m', m' < m ∧ I m' a b, brk := Q.next, ret := Q.ret }) ∧ (v = false → Q.next ρ' own')) :
    WX c n env (.While t body [] pos) ρ own Q := .mk fun P A E s₀ s at_ X =>
  wpAny_While (codeAny_whileLoop (fun m s' => ∃ ρ' own', I m ρ' own' ∧ St c s₀ P env ρ' own' s' ∧ Kp c env own s own' s') (fun m s' hI => by
    obtain ⟨ρ', own', hi, X', k⟩ := hI
    obtain ⟨v, ht, hb, hd⟩ := turn m ρ' own' hi
    refine wpAny_mono (ht.run P A _ s' (X'.at at_) (X'.full at_)) (fun b' s₁ ⟨e, st⟩ => ?_) fun _ _ e => e
    subst e
    cases b' with
    | true =>
      rw [if_pos rfl]
      refine wpAny_mono ((hb rfl).run P A _ s₀ s₁ at_ (X'.stepTo st)) (fun f s' hf => ?_) fun _ _ e => e
      have hf := Fin.from (k.trans (Kp.step st)) hf
      cases f with
      | next => obtain ⟨ρ'', own'', ⟨m', hm, hq⟩, r1, r2⟩ := hf; exact ⟨m', hm, ρ'', own'', hq, r1, r2⟩
      | cont => obtain ⟨ρ'', own'', ⟨m', hm, hq⟩, r1, r2⟩ := hf; exact ⟨m', hm, ρ'', own'', hq, r1, r2⟩
      | brk => exact hf
      | ret v => exact hf
    | false =>
      rw [if_neg Bool.false_ne_true]
      exact wpAny_execs_nil ⟨ρ', own', hd rfl, X'.stepTo st, k.trans (Kp.step st)⟩) m ⟨ρ, own, h0, X, Kp.step (Step.refl X.step.inv)⟩)

theorem WX.for {x : Str} {p pos : Pos} {iter : Expr} {body : List Stmt} {xs : List V} (I : Nat → Frame → Own → Prop) (hi : It c n env ρ iter xs) (hk : Var env x) (h0 : I 0 ρ own)
    (turn : ∀ i (h : i < xs.length) ρ' own', I i ρ' own' → (∀ a ys, own' ≠ some (x, a, ys)) ∧ WS c n env body ((x, xs[i]) :: ρ') own' { next := I (i + 1), cont := I (i + 1), brk := Q.next, ret := Q.ret })
    (hown : ∀ i ρ' own', I i ρ' own' → ∀ a, (∃ z ys, own' = some (z, a, ys)) → ∃ z ys, own = some (z, a, ys))
    (done : ∀ ρ' own', I xs.length ρ' own' → Q.next ρ' own') (hs : ∀ x, foldedSetIterable iter env x = pure x := by intro _; rfl) : WX c n env (.For (.Name x p) iter body [] pos) ρ own Q := .mk fun P A E s₀ s at_ X => by
  refine wpAny_For (wpAny_mono (hi.run _ A E s (Bar.exists X at_) X.frame) (fun v s₁ h₁ => wpAny_mono h₁ (fun it s₂ h₂ => ?_) fun _ _ e => e) fun _ _ e => e) hs
  obtain ⟨st2, I', fp, wr, St', rfl, hW, hst, hfp, hwr, hwrm, hfpP, hown'⟩ := h₂
  have W := hW A at_.room.1
  have X2 := X.stepTo st2
  have I2 := X2.step.inv
  have wr0 : ∀ b ∈ wr, s₀.heap.get? b = none := fun b hb => X.step.gone at_.inv (hwr b hb)
  have ex : ∀ b o, s.heap.get? b = some o → b ∉ wr := fun b o e hb => by rw [hwr b hb] at e; cases e
  have wrL : env.locals ∉ wr := let ⟨m, o, _, _, e, _⟩ := X.ns; ex _ o e
  have wrC : ∀ z a, env.kindOf z = some .cell ∨ env.kindOf z = some .free → env.cells.lookup z = some a → a ∉ wr := fun z a h e => let ⟨v, o, e', _⟩ := X.cellv z a h e; ex _ o e'
  have wrO : ∀ z a ys, own = some (z, a, ys) → a ∉ wr := fun z a ys e => let ⟨_, _, vs, ⟨k, e'⟩, _⟩ := X.own z a ys e; ex _ _ e'
  have seqk : ∀ a o, Bar P own a → s₂.heap.get? a = some o → SeqObj o → a ≠ env.locals ∧ (∀ z, env.kindOf z = some .cell → env.cells.lookup z ≠ some a) ∧ (∀ z ys, own ≠ some (z, a, ys)) ∧ (∀ t ∈ c.tabs, a ≠ t.P) := fun b o hp e hq => by
    refine ⟨fun q => ?_, fun z k1 k2 => ?_, fun z ys q => hp.2 z b ys q rfl, I2.tab_ne e (.inl (by rcases hq.1 with hc | hc <;> rw [hc] <;> nofun))⟩
    · obtain ⟨m, hn⟩ := X2.ns
      exact ns_not_seq hn (q ▸ e) hq
    · obtain ⟨v, hc⟩ := X2.cellv z b (.inl k1) k2
      obtain ⟨_, its, _, d'⟩ := hq
      rw [isCell_get hc e] at d'; cases d'
  have fpk : ∀ b ∈ fp, b ≠ env.locals ∧ (∀ z, env.kindOf z = some .cell → env.cells.lookup z ≠ some b) ∧ (∀ z ys, own ≠ some (z, b, ys)) ∧ (∀ t ∈ c.tabs, b ≠ t.P) := fun b hb => by
    rcases hfpP b hb with hw | ⟨hp, o, e, hq⟩
    · refine ⟨fun q => wrL (q ▸ hw), fun z k1 k2 => wrC z b (.inl k1) k2 hw, fun z ys q => wrO z b ys q hw, fun t ht q => ?_⟩
      obtain ⟨_, ps, e', _⟩ := X.step.inv.tab t ht
      exact ex _ _ e' (q ▸ hw)
    · exact seqk b o hp e hq
  have own_ne : ∀ i ρ' own' a, I i ρ' own' → (∀ z ys, own ≠ some (z, a, ys)) → ∀ z ys, own' ≠ some (z, a, ys) := fun i ρ' own' a hii h z ys q => by
    obtain ⟨z', ys', e'⟩ := hown i ρ' own' hii a ⟨z, ys, q⟩
    exact h z' ys' e'
  refine codeAny_forLoop (fun m s' => ∃ i ρ' own', I i ρ' own' ∧ St c s₀ P env ρ' own' s' ∧ Kp c env own s own' s' ∧ KeptP (Ex (Bar P own) s₂.heap) s₂.heap s'.heap ∧ St' i s'.heap ∧ i ≤ xs.length ∧ m = xs.length + 1 - i) ?_ (xs.length + 1)
    ⟨0, ρ, own, h0, X2, Kp.step st2, fun _ _ _ e _ => e, hst, Nat.zero_le _, rfl⟩
  rintro m s' ⟨i, ρ', own', hii, X', k, hkp, hst', hle, rfl⟩
  have touch : ∀ {h2 : Heap} {tk2 : Nat}, (∀ b o, b ∉ wr → s'.heap.get? b = some o → h2.get? b = some o) → St c s₀ P env ρ' own' { s' with heap := h2, toks := tk2 } := fun hk2 =>
    X'.touch at_.inv (D := (· ∈ wr)) wr0 (fun b o hb e => (hwrm b hb i _ o hst' e).1) wrL wrC (fun b o hb _ e => (hwrm b hb i _ o hst' e).2) (fun z a ys e => by
      obtain ⟨z', ys', e'⟩ := hown i ρ' own' hii a ⟨z, ys, e⟩
      exact wrO z' a ys' e') hk2
  have kpt : ∀ {h2 : Heap} {tk2 : Nat}, (∀ b o, b ∉ wr → s'.heap.get? b = some o → h2.get? b = some o) → Kp c env own s own' { s' with heap := h2, toks := tk2 } := fun {h2 tk2} hk2 =>
    ⟨fun b o h1 h2' h3 h4 e => hk2 b o (ex b o e) (k.keep b o h1 h2' h3 h4 e), k.own, fun b o e => let ⟨o', e'⟩ := k.stay b o e; ⟨o', hk2 b o' (ex b o e) e'⟩, k.gens⟩
  by_cases hlt : i < xs.length
  · refine W.item i s' _ _ hlt hst' fun v h2 tk2 hPv hst2 hk2 => ?_
    obtain ⟨hx, hw⟩ := turn i hlt ρ' own' hii
    have XA := touch (tk2 := tk2) hk2
    have kA := kpt (tk2 := tk2) hk2
    have hkpA : KeptP (Ex (Bar P own) s₂.heap) s₂.heap h2 := fun a o hp e hq => hk2 a o (fun hm => (hwrm a hm i _ o hst' (hkp a o hp e hq)).2 hq) (hkp a o hp e hq)
    obtain ⟨y, hy, ry⟩ := hPv
    rw [List.getElem?_eq_getElem hlt] at hy; cases hy
    have ry' : Rep (Bar P own') h2 xs[i] v := ry.mono (fun a ⟨hp, o, e⟩ => ⟨hp.1, fun z b ys q => by
        obtain ⟨z', ys', e'⟩ := hown i ρ' own' hii b ⟨z, ys, q⟩
        exact hp.2 z' b ys' e'⟩) fun a o hp e hq => hkpA a o hp e hq
    have kpK : ∀ {u u' : Shared} {own'' : Own}, Kp c env own' u own'' u' → KeptP (Ex (Bar P own) s₂.heap) s₂.heap u.heap → KeptP (Ex (Bar P own) s₂.heap) s₂.heap u'.heap := fun kk hh a o hp e hq => by
      obtain ⟨q1, q2, q3, q4⟩ := seqk a o hp.1 e hq
      exact kk.keep a o q1 q2 (own_ne i ρ' own' a hii q3) q4 (hh a o hp e hq)
    have kpS : ∀ {u u' : Shared} {own'' : Own}, Kp c env own' u own'' u' → St' (i + 1) u.heap → St' (i + 1) u'.heap := fun kk hh => W.frame _ _ _ hh fun b hb o e => by
      obtain ⟨q1, q2, q3, q4⟩ := fpk b hb
      exact kk.keep b o q1 q2 (own_ne i ρ' own' b hii q3) q4 e
    refine wpAny_assign_Name (wpAny_mono (XA.store at_.inv hk hx ry') (fun _ sB ⟨XB, kB⟩ => ?_) fun _ _ e => e)
    refine wpAny_mono (hw.run P A _ s₀ sB at_ XB) (fun f s' hf => ?_) fun _ _ e => e
    have fin : ∀ {ρ'' own'' u}, I (i + 1) ρ'' own'' → St c s₀ P env ρ'' own'' u → Kp c env own' sB own'' u → ∃ m, m < xs.length + 1 - i ∧ ∃ i ρ' own', I i ρ' own' ∧ St c s₀ P env ρ' own' u ∧ Kp c env own s own' u ∧ KeptP (Ex (Bar P own) s₂.heap) s₂.heap u.heap ∧ St' i u.heap ∧ i ≤ xs.length ∧ m = xs.length + 1 - i :=
      fun hI XC kC => ⟨xs.length + 1 - (i + 1), by omega, i + 1, _, _, hI, XC, (kA.trans kB).trans kC, kpK kC (kpK kB hkpA), kpS kC (kpS kB hst2), hlt, rfl⟩
    cases f with
    | next => obtain ⟨ρ'', own'', hI, XC, kC⟩ := hf; exact fin hI XC kC
    | cont => obtain ⟨ρ'', own'', hI, XC, kC⟩ := hf; exact fin hI XC kC
    | brk => obtain ⟨ρ'', own'', hq, XC, kC⟩ := hf; exact ⟨ρ'', own'', hq, XC, (kA.trans kB).trans kC⟩
    | ret v => exact hf
  · have hix : i = xs.length := by omega
    subst hix
    exact W.done s' _ _ hst' fun h2 tk2 hk2 => wpAny_execs_nil ⟨ρ', own', done _ _ hii, touch hk2, kpt hk2⟩
end


section
variable {c : Cx} {n : Nat} {env : Env} {ρ : Frame} {own : Own} {Q : Post}

theorem WX.assignComp {elt tgt iter : Expr} {ifs : List Expr} {scope : Scope} {cpos : Pos} {x : Str} {p pos : Pos} {xs : List V} {outs : List (Option V)} (hi : It c n env ρ iter xs) (hlen : xs.length ≤ lim) (S : ScopeOk scope env ρ)
    (hr : All2 (CompR c n env scope tgt ifs elt (within scope ρ)) xs outs) (hk : Var env x) (hx : ∀ a ys, own ≠ some (x, a, ys)) (hq : Q.next ((x, .list (outs.filterMap id)) :: ρ) own)
    (hsw : swapsWith (.ListComp elt [⟨tgt, iter, ifs, 0⟩] scope cpos) (some (.Name x p)) pos.line env = pure true := by rfl) (hs : ∀ x, foldedSetIterable iter env x = pure x := by intro _; rfl) :
    WX c n env (.Assign [.Name x p] (.ListComp elt [⟨tgt, iter, ifs, 0⟩] scope cpos) pos) ρ own Q := .mk fun P A E s₀ s at_ X => by
  rw [exec_Assign_Name_used _ _ _ _ hsw]
  refine wpAny_bind (wpAny_standAt (wpAny_bind ?_))
  show wpAny _ A (do let _ ← comprehension (.ListComp elt [⟨tgt, iter, ifs, 0⟩] scope cpos) scope env _ (newList []) false (eval iter env) (some (PySem.assign (.Name x p) env))) _ _ s
  have F := X.frame
  have at' := Bar.exists X at_
  refine wpAny_bind (wpAny_mono (wpAny_comprehension_free (Q := fun _ s' => Fin c s₀ P env own s Q .next s') (g := ⟨tgt, iter, ifs, 0⟩) (gs := []) rfl hs (closureFor_is (S.cells F)) S.kind S.loc
    (wpAny_mono (hi.run _ A E s at' F) (fun xv s₁ h₁ => wpAny_mono h₁ (fun it s₂ h₂ => ?_) fun _ _ e => e) fun _ _ e => e)) (fun _ s' hq => wpAny_pure (wpAny_pure hq)) fun _ _ e => e)
  refine comp_block (RR := fun acc C r s' => compPost (model c.prog c.w) A E (some (PySem.assign (.Name x p) env)) (fun _ s' => Fin c s₀ P env own s Q .next s') acc C r s') at' F h₂ hlen S.freeOf (S.cells F) S.cell S.kind hr fun D C s' m st r hn hC hDC => ?_
  refine wpAny_assign_Name (wpAny_mono ((X.stepTo st).store at_.inv hk hx r) (fun _ s'' ⟨X', k⟩ => ?_) fun _ _ e => e)
  have nC : ∀ b o, s.heap.get? b = some o → b ≠ C := fun b o e q => by rw [q, hC] at e; cases e
  have hkC : ∀ o, s'.heap.get? C = some o → s''.heap.get? C = some o := fun o e => k.keep C o (fun q => by
      obtain ⟨m, o, _, _, e', _⟩ := X.ns
      exact nC _ o e' q.symm) (fun z k1 k2 => by
      obtain ⟨v, o, e', _⟩ := X.cellv z C (.inl k1) k2
      exact nC _ o e' rfl) (fun z ys q => by
      obtain ⟨_, _, vs, ⟨_, e'⟩, _⟩ := X.own z C ys q
      exact nC _ _ e' rfl) (fun t ht q => by
      obtain ⟨_, ps, e', _⟩ := X.step.inv.tab t ht
      exact nC _ _ e' q.symm) e
  refine ⟨m, let ⟨o, es, ep, e, r⟩ := hn; ⟨o, es, ep, hkC o e, r⟩, fun h' hs' => ?_⟩
  have hk' : ∀ b o, b ≠ C → s''.heap.get? b = some o → h'.get? b = some o := fun b o hb e => hs'.extBut b o hb e
  obtain ⟨oC, es, ep, eC, hd, _⟩ := id hn
  have eC' := hkC _ eC
  refine ⟨_, own, hq, X'.touch at_.inv (tk := s''.toks) (D := (· = C)) (fun b hb => by rw [hb]; exact X.step.gone at_.inv hC) (fun b o hb e => by rw [hb, eC'] at e; cases e; exact mut_dict hd) (fun q => ?_) (fun z a h e q => ?_) (fun b o hb _ e => by rw [hb, eC'] at e; cases e; exact fun q => by obtain ⟨_, its, _, d'⟩ := q; rw [hd] at d'; cases d') (fun z a ys e q => ?_) hk', ?_⟩
  · obtain ⟨m, o, _, _, e', _⟩ := X.ns
    exact nC _ o e' q
  · obtain ⟨v, o, e', _⟩ := X.cellv z a h e
    exact nC _ o e' q
  · obtain ⟨_, _, vs, ⟨_, e'⟩, _⟩ := X.own z a ys e
    exact nC _ _ e' q
  · have k' := (Kp.step (own := own) (env := env) st).trans k
    refine ⟨fun b o h1 h2 h3 h4 e => hk' b o (nC b o e) (k'.keep b o h1 h2 h3 h4 e), k'.own, fun b o e => ?_, k'.gens⟩
    obtain ⟨o', e'⟩ := k'.stay b o e
    exact ⟨o', hk' b o' (nC b o e) e'⟩

theorem WX.unpack2 {x1 x2 : Str} {p1 p2 tpos pos : Pos} {k : Nat} {e : Expr} {y1 y2 : V} (h : Evo c n env ρ own e (.tup [y1, y2])) (hk1 : Var env x1) (hk2 : Var env x2) (hx1 : ∀ a ys, own ≠ some (x1, a, ys)) (hx2 : ∀ a ys, own ≠ some (x2, a, ys))
    (h1 : y1.flat = true) (h2 : y2.flat = true) (hq : Q.next ((x2, y2) :: (x1, y1) :: ρ) own) (hs : swapsWithSole [.Tuple [.Name x1 p1, .Name x2 p2] k tpos] e pos.line env = pure false := by rfl) (hw : swappedStores [.Tuple [.Name x1 p1, .Name x2 p2] k tpos] e env = pure none := by rfl) :
    WX c n env (.Assign [.Tuple [.Name x1 p1, .Name x2 p2] k tpos] e pos) ρ own Q := .mk fun P A E s₀ s at_ X => by
  refine wpAny_Assign_stores (wpAny_mono (h.run P A E s₀ s at_ X) (fun v s₁ ⟨r, st⟩ => ?_) fun _ _ e => e) hs hw
  obtain ⟨t, vs, rfl, hP, ht, hlen, rs⟩ := r.tup_inv
  obtain ⟨v1, w, rfl, r1, rs⟩ := rs.cons_inv
  obtain ⟨v2, w, rfl, r2, rs⟩ := rs.cons_inv
  obtain rfl := rs.nil_inv
  show wpAny _ _ (PySem.assign (.Tuple [.Name x1 p1, .Name x2 p2] k tpos) env (.ref t)) _ _ _
  refine assign_Tuple_tuple at_.room.1 ht rfl rfl fun h' hx => ?_
  have lt : ∀ b o, s₁.heap.get? b = some o → b ≠ s₁.heap.objs.size := fun b o e => Nat.ne_of_lt (Heap.lt_size e)
  have st1 : Step c s₁ { s₁ with heap := h' } := Step.of st.inv fun b o e => hx b o (lt b o e) e
  show wpAny _ _ (do holding [v2] (PySem.assign (.Name x1 p1) env v1); assignInOrder [PySem.assign (.Name x2 p2) env] [v2]) _ _ _
  refine wpAny_bind (wpAny_holding (wpAny_assign_Name (wpAny_mono (((X.stepTo st).stepTo st1).store at_.inv hk1 hx1 (r1.flat h1)) (fun _ s₂ ⟨X2, k2⟩ => ?_) fun _ _ e => e)))
  show wpAny _ _ (do holding ([] : List Value) (PySem.assign (.Name x2 p2) env v2); assignInOrder [] []) _ _ _
  refine wpAny_bind (wpAny_holding (wpAny_assign_Name (wpAny_mono (X2.store at_.inv hk2 hx2 (r2.flat h2)) (fun _ s₃ ⟨X3, k3⟩ => ?_) fun _ _ e => e)))
  exact wpAny_pure ⟨_, own, hq, X3, (((Kp.step st).trans (Kp.step st1)).trans k2).trans k3⟩

theorem bn {M : Model} {A : Around} {E : Value → Shared → Prop} {x : Str} {v : Value} {Q : Unit → Shared → Prop} {s : Shared} (h : wpAny M A (storeName env x v) Q E s) : wpAny M A (bindName env x v) Q E s := fun Γ p hΓ => by
  simp only [Sem.wp_bindName]; exact h Γ p hΓ

theorem WX.swap2 {x1 x2 : Str} {p1 p2 tpos pos vpos : Pos} {k vk : Nat} {e1 e2 : Expr} {y1 y2 : V} (h : Evo c n env ρ own (.Tuple [e1, e2] vk vpos) (.tup [y1, y2])) (hk1 : Var env x1) (hk2 : Var env x2) (hx1 : ∀ a ys, own ≠ some (x1, a, ys)) (hx2 : ∀ a ys, own ≠ some (x2, a, ys))
    (h1 : y1.flat = true) (h2 : y2.flat = true) (hq : Q.next ((x1, y1) :: (x2, y2) :: ρ) own) (hw : swappedStores [.Tuple [.Name x1 p1, .Name x2 p2] k tpos] (.Tuple [e1, e2] vk vpos) env = pure (some [x1, x2])) :
    WX c n env (.Assign [.Tuple [.Name x1 p1, .Name x2 p2] k tpos] (.Tuple [e1, e2] vk vpos) pos) ρ own Q := .mk fun P A E s₀ s at_ X => by
  rw [exec_Assign_arm]
  refine wpAny_bind (wpAny_standAt ?_)
  show wpAny _ _ (do
      let v ← eval (.Tuple [e1, e2] vk vpos) env
      assignStores env v (← swappedStores [.Tuple [.Name x1 p1, .Name x2 p2] k tpos] (.Tuple [e1, e2] vk vpos) env) _) _ _ _
  refine wpAny_bind (wpAny_mono (h.run P A E s₀ s at_ X) (fun v s₁ ⟨r, st⟩ => ?_) fun _ _ e => e)
  rw [hw]
  obtain ⟨t, vs, rfl, hP, ht, hlen, rs⟩ := r.tup_inv
  obtain ⟨v1, w, rfl, r1, rs⟩ := rs.cons_inv
  obtain ⟨v2, w, rfl, r2, rs⟩ := rs.cons_inv
  obtain rfl := rs.nil_inv
  refine wpAny_bind (wpAny_pure ?_)
  show wpAny _ _ (do
      rule "assign.swapped-stores"
      let items ← unpackItems (.ref t) 2 none
      assignInOrder ([x1, x2].reverse.map fun n => bindName env n) items.reverse
      pure Flow.next) _ _ _
  refine wpAny_bind (wpAny_rule (wpAny_bind (unpackItems_tuple (items := [v1, v2].toArray) at_.room.1 ht fun h' hx => ?_)))
  have lt : ∀ b o, s₁.heap.get? b = some o → b ≠ s₁.heap.objs.size := fun b o e => Nat.ne_of_lt (Heap.lt_size e)
  have st1 : Step c s₁ { s₁ with heap := h' } := Step.of st.inv fun b o e => hx b o (lt b o e) e
  show wpAny _ _ (do
      (do holding [v1] (bindName env x2 v2); (do holding ([] : List Value) (bindName env x1 v1); pure ()))
      pure Flow.next) _ _ _
  refine wpAny_bind (wpAny_bind (wpAny_holding (bn (wpAny_mono (((X.stepTo st).stepTo st1).store at_.inv hk2 hx2 (r2.flat h2)) (fun _ s₂ ⟨X2, k2⟩ => ?_) fun _ _ e => e))))
  refine wpAny_bind (wpAny_holding (bn (wpAny_mono (X2.store at_.inv hk1 hx1 (r1.flat h1)) (fun _ s₃ ⟨X3, k3⟩ => ?_) fun _ _ e => e)))
  exact wpAny_pure (wpAny_pure ⟨_, own, hq, X3, (((Kp.step st).trans (Kp.step st1)).trans k2).trans k3⟩)
end


/-- an expression that makes a new list -/
structure EvNew (c : Cx) (n : Nat) (env : Env) (ρ : Frame) (e : Expr) (ys : List V) : Prop where
  run : ∀ P A E s, At c n A P s → FrameAt P s.heap env ρ → wpAny (model c.prog c.w) A (eval e env) (fun v s' => ∃ a, ∃ vs : List Value, v = .ref a ∧ s.heap.get? a = none ∧ s'.heap.PlainList a vs.toArray ∧ vs.length ≤ lim ∧ Reps (fun b => P b ∧ b ≠ a) s'.heap ys vs ∧ Step c s s') E s

theorem Reps.flats {P P' : Addr → Prop} {h h' : Heap} : ∀ {xs : List V} {vs : List Value}, (∀ x ∈ xs, x.flat = true) → Reps P h xs vs → Reps P' h' xs vs
  | [], vs, _, r => by rw [r.nil_inv]; exact Reps.nil
  | x :: xs, vs, hf, r => by
    obtain ⟨v, w, rfl, r1, r2⟩ := r.cons_inv
    exact Reps.cons (r1.flat (hf x List.mem_cons_self)) (Reps.flats (fun y hy => hf y (List.mem_cons_of_mem _ hy)) r2)

theorem Bar.of_some {P : Addr → Prop} {x : Str} {a : Addr} {ys : List V} {b : Addr} : Bar P (some (x, a, ys)) b ↔ P b ∧ b ≠ a := ⟨fun h => ⟨h.1, h.2 x a ys rfl⟩, fun h => ⟨h.1, fun x' a' ys' e => by cases e; exact h.2⟩⟩

section
variable {c : Cx} {n : Nat} {env : Env} {ρ : Frame} {own : Own} {Q : Post}

theorem EvNew.list {es : List Expr} {pos : Pos} {ys : List V} (h : Evs c n env ρ es ys) (hf : ∀ y ∈ ys, y.flat = true) (hl : ys.length ≤ lim) : EvNew c n env ρ (.List es pos) ys := .mk fun P A E s at_ F =>
  wpAny_List (wpAny_mono (h.run P A E s pos at_ F) (fun vs s₁ ⟨rs, st⟩ => by
    have hlen : vs.length ≤ lim := by rw [rs.length]; exact hl
    have st' : Step c s₁ { s₁ with heap := s₁.heap.push { cls := .type "list", data := .seq vs.toArray } } := Step.of st.inv fun b o e => Heap.get?_push_of_some _ e
    exact ⟨Nat.le_trans hlen (by rw [sizeLine_eq]; decide), _, vs, rfl, st.gone at_.inv (Heap.get?_none_of_le (Nat.le_refl _)), ⟨_, Heap.get?_push_size _ rfl⟩, hlen, rs.flats hf, st.trans st'⟩) fun _ _ e => e)

theorem WX.new {x : Str} {p pos : Pos} {e : Expr} {ys : List V} (h : EvNew c n env ρ e ys) (hk : Var env x) (hx : ρ.lookup x = none) (hq : ∀ a, Q.next ρ (some (x, a, ys)))
    (hs : swapsWith e (some (.Name x p)) pos.line env = pure false := by rfl) : WX c n env (.Assign [.Name x p] e pos) ρ none Q := .mk fun P A E s₀ s at_ X =>
  wpAny_Assign_Name (wpAny_mono (h.run P A E s (X.at at_) (X.frame.monoP fun a h => Bar.none_iff.mp h)) (fun v s₁ ⟨a, vs, e, ha, hl, hn, rs, st⟩ => by
    subst e
    have X1 := X.stepTo st
    refine wpAny_mono (X1.putName at_.inv (v := .ref a) hk) (fun _ s₂ p => ?_) fun _ _ e => e
    have FE : FrameAt (Ex P s.heap) s.heap env ρ := ⟨X.frame.fk, X.frame.gl, X.frame.bu, fun z y e => let ⟨w, h1, h2⟩ := X.frame.var z y e; ⟨w, h1, (h2.monoP fun a h => Bar.none_iff.mp h).ex⟩⟩
    have FE1 := FE.step st X.step.inv
    have bar : ∀ b, Ex P s.heap b → Bar P (some (x, a, ys)) b := fun b ⟨hp, o, e⟩ => Bar.of_some.mpr ⟨hp, fun q => by rw [q, ha] at e; cases e⟩
    have XN : St c s₀ (Bar P (some (x, a, ys))) env ρ none s₂ := {
      step := p.step
      eok := X.eok
      frame := ⟨X.frame.fk, X.frame.gl, X.frame.bu, fun z y e => by
        obtain ⟨w, h1, h2⟩ := FE1.var z y e
        refine ⟨w, p.rest z w (fun q => by rw [q, hx] at e; cases e) h1, ?_⟩
        exact h2.mono (fun b hb => Bar.none_iff.mpr (bar b hb)) fun a o _ e hq => p.seq a o hq e⟩
      ns := p.ns
      cellv := p.cellv
      own := nofun }
    refine ⟨ρ, some (x, a, ys), hq a, XN.put (X.step.gone at_.inv ha) p.var (vs := vs) ?_ hn ?_, ?_⟩
    · obtain ⟨k, e⟩ := hl
      exact ⟨k, p.seq _ _ ⟨.inl rfl, _, _, rfl⟩ e⟩
    · exact rs.mono (fun b hb => Bar.of_some.mpr hb) fun a o _ e hq => p.seq a o hq e
    · have k := (Kp.step (env := env) (own := none) st).trans p.kp
      exact ⟨k.keep, fun x' a' ys' e => by cases e; exact .inr ha, k.stay, k.gens⟩) fun _ _ e => e) hs

/-- the own list changed in place -/
theorem St.mutate {s₀ s : Shared} {P : Addr → Prop} {x : Str} {a : Addr} {ys ys' : List V} (X : St c s₀ P env ρ (some (x, a, ys)) s) (I₀ : Inv c s₀) {h' : Heap} {tk : Nat} (hk : ∀ b o, b ≠ a → s.heap.get? b = some o → h'.get? b = some o)
    {vs : List Value} (hl : h'.PlainList a vs.toArray) (hn : vs.length ≤ lim) (hr : Reps (Bar P (some (x, a, ys))) s.heap ys' vs) :
    St c s₀ P env ρ (some (x, a, ys')) { s with heap := h', toks := tk } ∧ Kp c env (some (x, a, ys)) s (some (x, a, ys')) { s with heap := h', toks := tk } := by
  obtain ⟨h0, hv, vs0, hl0, _, _⟩ := X.own x a ys rfl
  have XD := X.drop.touch I₀ (D := (· = a)) (tk := tk) (fun b hb => by rw [hb]; exact h0) (fun b o hb e => by
      obtain ⟨k, e'⟩ := hl0
      rw [hb, e'] at e; cases e; exact mut_seq rfl) (fun q => let ⟨m, hm⟩ := X.ns; list_not_ns hl0 (q ▸ hm)) (fun z b h e q => let ⟨v, hc⟩ := X.cellv z b h e; list_not_cell hl0 (q ▸ hc))
      (fun b o hb hp _ => absurd hb (hp.1.2 x a ys rfl)) nofun hk
  have hv' : VarAt h' env x (.ref a) := by
    rcases hv with ⟨q, m, hm, e⟩ | ⟨q, b, hb, hc⟩
    · obtain ⟨o, es, ep, e', hd, r⟩ := id hm
      exact .inl ⟨q, m, ⟨o, es, ep, hk _ o (fun qq => list_not_ns hl0 (qq ▸ hm)) e', hd, r⟩, e⟩
    · exact .inr ⟨q, b, hb, let ⟨o, e, d⟩ := hc; ⟨o, hk b o (fun qq => list_not_cell hl0 (qq ▸ hc)) e, d⟩⟩
  have sub : ∀ b, Bar P (some (x, a, ys)) b → Bar P (some (x, a, ys')) b := Bar.sub
  refine ⟨St.put { XD with frame := XD.frame.monoP fun b hb => Bar.none_iff.mpr (sub b (Bar.none_iff.mp hb)), own := nofun } h0 hv' hl hn (hr.mono sub fun b o hp e _ => hk b o (hp.2 x a ys rfl) e), ?_⟩
  refine ⟨fun b o _ _ h3 _ e => hk b o (fun q => h3 x ys (q ▸ rfl)) e, fun x' a' ys'' e => by cases e; exact .inl ⟨x, ys, rfl⟩, fun b o e => ?_, fun _ _ e => e⟩
  by_cases q : b = a
  · obtain ⟨k, e'⟩ := hl; exact ⟨_, q ▸ e'⟩
  · exact ⟨o, hk b o q e⟩

/-- a method of the own list, called for what it does -/
theorem WX.mut {x : Str} {name : Str} {id : String} {npos apos cpos pos : Pos} {es : List Expr} {a : Addr} {ys zs ys' : List V} (slot : Slot "list" name id) (hty : typeOf (.builtin id) = pure (.type "method_descriptor"))
    (hb : attributeBase (.Name x npos) name env (eval (.Name x npos) env) = eval (.Name x npos) env) (hline : (apos.endLine == cpos.line) = true) (hns : (starEach es env).any (·.1) = false) (hlen : es.length < 30)
    (h1 : Evs c n env ((x, .list ys) :: ρ) es zs) (hz : ∀ z ∈ zs, z.flat = true) (hd : (x == ("__debug__" : Str)) = false)
    (hcall : ∀ (A : Around) (E : Value → Shared → Prop) (s : Shared) (P : Addr → Prop) (vs ws : List Value) (Q : Value → Shared → Prop), s.heap.PlainList a vs.toArray → vs.length ≤ lim → Reps P s.heap ys vs → Reps P s.heap zs ws →
      (∀ h' tk, ∀ vs' : List Value, h'.PlainList a vs'.toArray → vs'.length ≤ lim → Reps P s.heap ys' vs' → (∀ b o, b ≠ a → s.heap.get? b = some o → h'.get? b = some o) → Q .none { s with heap := h', toks := tk }) → wpAny (model c.prog c.w) A (PySem.call (.builtin id) (.ref a :: ws)) Q E s)
    (hq : Q.next ρ (some (x, a, ys'))) (hi : interactive env = false := by rfl) :
    WX c n env (.Expr (.Call (.Attribute (.Name x npos) name apos) es [] cpos) pos) ρ (some (x, a, ys)) Q := .mk fun P A E s₀ s at_ X => by
  refine wpAny_Expr ?_ hi
  obtain ⟨h0, hv, vs0, hl0, hn0, hr0⟩ := X.own x a ys rfl
  refine wpAny_Call_method_lateS hb ?_ hline (wpAny_Name (load_var X.eok.fk hv ?_) hd)
  · have e1 : (backTo cpos (starEach es env)).all (fun x => !x.1) = true := by
      have := backTo_any (pos := cpos) _ hns
      rw [List.any_eq_false] at this
      rw [List.all_eq_true]
      intro x hx
      simpa using this x hx
    rw [e1]
    simp only [Bool.true_and, Bool.and_eq_true, decide_eq_true_eq]
    exact ⟨rfl, by simpa using hlen⟩
  · have hl0' := hl0
    obtain ⟨k0, e0⟩ := hl0'
    refine ⟨"list", id, PySem.F.plainAttrs_list, slot, hty, ⟨_, e0, rfl⟩, fun b hb => (by cases hb; exact ⟨_, e0, rfl⟩), ?_⟩
    refine callWith_mach rfl (backTo_any _ hns) (evalArgs_trees hns (wpAny_mono (h1.run P A E s cpos (X.at at_) (X.full at_)) (fun ws s₁ ⟨rs, st⟩ => ?_) fun _ _ e => e))
    have X1 := X.stepTo st
    obtain ⟨_, _, vs1, hl1, hn1, hr1⟩ := X1.own x a ys rfl
    refine hcall A E s₁ (Bar P (some (x, a, ys))) vs1 ws _ hl1 hn1 hr1 (rs.flats hz) fun h' tk vs' hl' hn' hr' hk' => ?_
    obtain ⟨X2, k2⟩ := X1.mutate at_.inv (tk := tk) hk' hl' hn' hr'
    exact ⟨ρ, _, hq, X2, (Kp.step st).trans k2⟩

theorem WX.append {x : Str} {npos apos cpos pos : Pos} {e : Expr} {a : Addr} {ys : List V} {z : V}
    (hb : attributeBase (.Name x npos) "append" env (eval (.Name x npos) env) = eval (.Name x npos) env) (hline : (apos.endLine == cpos.line) = true) (hns : starEach [e] env = [(false, eval e env)])
    (h1 : Ev c n env ((x, .list ys) :: ρ) e z) (hz : z.flat = true) (hl : ys.length < lim) (hq : Q.next ρ (some (x, a, ys ++ [z]))) (hd : (x == ("__debug__" : Str)) = false := by decide) (hi : interactive env = false := by rfl) :
    WX c n env (.Expr (.Call (.Attribute (.Name x npos) "append" apos) [e] [] cpos) pos) ρ (some (x, a, ys)) Q :=
  WX.mut (id := "list.append") (zs := [z]) slot_list_append type_list_append hb hline (by rw [hns]; rfl) (by simp) (Evs.cons h1 Evs.nil (by rw [hns]; rfl)) (by intro z' h; simp at h; rw [h]; exact hz) hd (fun A E s P vs ws Q hl0 hn0 hr0 hws hQ => by
    obtain ⟨w, ws', rfl, r1, r2⟩ := hws.cons_inv
    obtain rfl := r2.nil_inv
    refine wpAny_list_append_plain hl0 (fun h' hl' hs' => hQ h' _ (vs ++ [w]) (by simpa using hl') ?_ (hr0.append (Reps.cons r1 Reps.nil)) fun b o hb e => hs'.extBut b o hb e) ?_
    · have := hr0.length; simp; omega
    · have : sizeLine = 16777216 := sizeLine_eq
      have hl : lim = 1048576 := rfl
      simp; omega) hq hi

theorem Reps.reverse {P : Addr → Prop} {h : Heap} : ∀ {xs : List V} {vs : List Value}, Reps P h xs vs → Reps P h xs.reverse vs.reverse
  | [], vs, r => by rw [r.nil_inv]; exact Reps.nil
  | x :: xs, vs, r => by
    obtain ⟨v, w, rfl, r1, r2⟩ := r.cons_inv
    rw [List.reverse_cons, List.reverse_cons]
    exact r2.reverse.append (Reps.cons r1 Reps.nil)

theorem WX.reverse {x : Str} {npos apos cpos pos : Pos} {a : Addr} {ys : List V}
    (hb : attributeBase (.Name x npos) "reverse" env (eval (.Name x npos) env) = eval (.Name x npos) env) (hline : (apos.endLine == cpos.line) = true) (hq : Q.next ρ (some (x, a, ys.reverse))) (hd : (x == ("__debug__" : Str)) = false := by decide) (hi : interactive env = false := by rfl) :
    WX c n env (.Expr (.Call (.Attribute (.Name x npos) "reverse" apos) [] [] cpos) pos) ρ (some (x, a, ys)) Q :=
  WX.mut (id := "list.reverse") (zs := []) PySem.F.slot_list_reverse PySem.F.type_list_reverse hb hline rfl (by simp) Evs.nil nofun hd (fun A E s P vs ws Q hl0 hn0 hr0 hws hQ => by
    obtain rfl := hws.nil_inv
    obtain ⟨k, ho⟩ := hl0
    have : sizeLine = 16777216 := sizeLine_eq
    have hlm : lim = 1048576 := rfl
    refine call_meets PySem.F.slot_list_reverse ⟨_, ho, rfl⟩ PySem.F.entry_list_reverse (PySem.F.args_list_reverse_1 _) (AutoSeq1.list_reverse_list_0 a vs.toArray k (by simp; omega)) ⟨ho, ?_⟩
    refine hQ _ _ vs.reverse ?_ (by simpa using hn0) hr0.reverse fun b o hb e => (Heap.SameBut.update ..).extBut b o hb e
    refine ⟨k, ?_⟩
    rw [Heap.get?_update_self _ ho (by rw [mapSeq_reverse]; rfl), mapSeq_reverse]) hq hi
end


theorem mapSeq_set (vs : List Value) (n j : Nat) (v : Value) :
    Obj.mapSeq (·.setIfInBounds j v) { cls := .type "list", data := .seq vs.toArray n } = { cls := .type "list", data := .seq (vs.set j v).toArray n } := by
  simp [Obj.mapSeq]

theorem setItem_plain' {prog : Program} {w : World} {A : Around} {E : Value → Shared → Prop} {s : Shared} {a : Addr} {vs : List Value} {k : Int} {j : Nat} (hkj : k = (j : Int)) (hfit : Builtin.List.listFitsIndex k = true) {t : Tok} {v : Value} {Q : Unit → Shared → Prop} (hl : s.heap.PlainList a vs.toArray)
    (hj : j < vs.length) (hlen : vs.length ≤ lim) (hQ : ∀ h', h'.PlainList a (vs.set j v).toArray → (∀ b o, b ≠ a → s.heap.get? b = some o → h'.get? b = some o) → Q () { s with heap := h' }) :
    wpAny (model prog w) A (setItem (.ref a) (.int k t) v) Q E s := by
  have hty := hl.isList.typeIs
  obtain ⟨n, ho⟩ := hl
  unfold setItem
  try with_reducible refine wpAny_holding ?_
  first | refine wpAny_bind (wpAny_pure ?_) | skip
  refine wpAny_bind (wpAny_sequenceKey hty (by decide) ?_)
  refine wpAny_bind (wpAny_callSpecial?_slot (name := Str.ofString "__setitem__") hty slot_list_setitem (wpAny_call_entry slot_list_setitem hty entry_list_setitem ?_ (args_list_setitem _ _ _)))
  show wpAny _ _ (Builtin.List.listSubscript? (.int k t) >>= _) _ _ s
  refine wpAny_bind (wpAny_listSubscript_int hfit ?_)
  clear hfit
  subst hkj
  have hx : vs.toArray[j]? = some vs[j] := by simp [hj]
  show wpAny _ _ ((seqItemAt a j >>= fun r => pure (r.map (j, ·))) >>= _) _ _ s
  refine wpAny_bind (wpAny_bind (wpAny_seqItemAt ho rfl (wpAny_pure ?_)))
  rw [hx]
  show wpAny _ _ (setSeqItemAt a j v >>= _) _ _ s
  have fin : (s.heap.update a (Obj.mapSeq (·.setIfInBounds j v))).PlainList a (vs.set j v).toArray :=
    ⟨n, by rw [Heap.get?_update_self _ ho (by rw [mapSeq_set]; rfl), mapSeq_set]⟩
  refine wpAny_bind (wpAny_setSeqItemAt ho rfl ?_)
  have fin' := hQ _ fin fun b o hb e => (Heap.SameBut.update ..).extBut b o hb e
  first
    | exact wpAny_bind (wpAny_pure (wpAny_pure ⟨.none, rfl, wpAny_pure fin'⟩))
    | exact wpAny_pure ⟨.none, rfl, wpAny_pure fin'⟩

theorem setItem_plain {prog : Program} {w : World} {A : Around} {E : Value → Shared → Prop} {s : Shared} {a : Addr} {vs : List Value} {j : Nat} {t : Tok} {v : Value} {Q : Unit → Shared → Prop} (hl : s.heap.PlainList a vs.toArray)
    (hj : j < vs.length) (hlen : vs.length ≤ lim) (hQ : ∀ h', h'.PlainList a (vs.set j v).toArray → (∀ b o, b ≠ a → s.heap.get? b = some o → h'.get? b = some o) → Q () { s with heap := h' }) :
    wpAny (model prog w) A (setItem (.ref a) (.int (j : Int) t) v) Q E s :=
  setItem_plain' rfl (fitsIndex_of (by omega) (by have hlm : lim = 1048576 := rfl; omega)) hl hj hlen hQ

theorem Reps.set {P : Addr → Prop} {h : Heap} : ∀ {xs : List V} {vs : List Value} (j : Nat) {y : V} {v : Value}, Reps P h xs vs → Rep P h y v → Reps P h (xs.set j y) (vs.set j v)
  | [], vs, j, y, v, r, _ => by rw [r.nil_inv]; exact Reps.nil
  | x :: xs, vs, 0, y, v, r, q => by
    obtain ⟨v', w, rfl, r1, r2⟩ := r.cons_inv
    exact Reps.cons q r2
  | x :: xs, vs, j + 1, y, v, r, q => by
    obtain ⟨v', w, rfl, r1, r2⟩ := r.cons_inv
    exact Reps.cons r1 (Reps.set j r2 q)

section
variable {c : Cx} {n : Nat} {env : Env} {ρ : Frame} {own : Own} {Q : Post}

theorem WX.setitem {x : Str} {np ip pos : Pos} {i e : Expr} {a : Addr} {ys : List V} {y : V} {j : Nat} (hv : Ev c n env ((x, .list ys) :: ρ) e y) (hy : y.flat = true) (hi : Ev c n env ((x, .list ys) :: ρ) i (.int j)) (hj : j < ys.length)
    (hq : Q.next ρ (some (x, a, ys.set j y))) (hd : (x == ("__debug__" : Str)) = false := by decide) (hs : swapsWith e (some (.Subscript (.Name x np) i ip)) pos.line env = pure false := by rfl) :
    WX c n env (.Assign [.Subscript (.Name x np) i ip] e pos) ρ (some (x, a, ys)) Q := .mk fun P A E s₀ s at_ X => by
  refine wpAny_Assign_Subscript (wpAny_mono (hv.run P A E s (X.at at_) (X.full at_)) (fun v s₁ ⟨r, st⟩ => ?_) fun _ _ e => e) hs
  have X1 := X.stepTo st
  obtain ⟨h0, hvar, _⟩ := X1.own x a ys rfl
  refine wpAny_Name (load_var X.eok.fk hvar ?_) hd
  refine wpAny_mono (hi.run P A E s₁ (X1.at at_) (X1.full at_)) (fun k s₂ ⟨r', st'⟩ => ?_) fun _ _ e => e
  obtain ⟨t, rfl⟩ := r'.int_inv
  have X2 := X1.stepTo st'
  obtain ⟨_, _, vs, hl, hn, hr⟩ := X2.own x a ys rfl
  refine setItem_plain hl (by rw [hr.length]; exact hj) hn fun h' hl' hk' => ?_
  obtain ⟨X3, k3⟩ := X2.mutate at_.inv (tk := s₂.toks) (ys' := ys.set j y) hk' hl' (by simpa using hn) (hr.set j (r.flat hy))
  exact ⟨ρ, _, hq, X3, ((Kp.step st).trans (Kp.step st')).trans k3⟩
end


theorem bindL_notin {kindOf : Str → Option NameKind} {x : Str} : ∀ {binds : List (Str × Value)} {m : Str → Option Value}, (∀ p ∈ binds, p.1 ≠ x) → bindL kindOf binds m x = m x
  | [], m, _ => rfl
  | (n, v) :: r, m, h => by
    unfold bindL
    rw [bindL_notin fun p hp => h p (List.mem_cons_of_mem _ hp)]
    have hn : n ≠ x := h (n, v) List.mem_cons_self
    split
    · simp [Ne.symm hn]
    · rfl
theorem bindC_notin {kindOf : Str → Option NameKind} {x : Str} : ∀ {binds : List (Str × Value)} {m : Str → Option Value}, (∀ p ∈ binds, p.1 ≠ x) → bindC kindOf binds m x = m x
  | [], m, _ => rfl
  | (n, v) :: r, m, h => by
    unfold bindC
    rw [bindC_notin fun p hp => h p (List.mem_cons_of_mem _ hp)]
    have hn : n ≠ x := h (n, v) List.mem_cons_self
    split
    · rfl
    · simp [Ne.symm hn]
theorem bindL_lookup {kindOf : Str → Option NameKind} {x : Str} {v : Value} (hk : kindOf x = some .local) : ∀ {binds : List (Str × Value)} {m : Str → Option Value}, (binds.map (·.1)).Nodup → binds.lookup x = some v → bindL kindOf binds m x = some v
  | [], m, _, h => by cases h
  | (n, u) :: r, m, hd, h => by
    rw [List.map_cons, List.nodup_cons] at hd
    rw [List.lookup_cons] at h
    unfold bindL
    cases hx : x == n with
    | true =>
      rw [hx] at h; cases h
      obtain rfl := beq_iff_eq.mp hx
      rw [bindL_notin fun p hp q => hd.1 (List.mem_map.mpr ⟨p, hp, q⟩), if_pos hk]
      simp
    | false => rw [hx] at h; exact bindL_lookup hk hd.2 h
theorem bindC_lookup {kindOf : Str → Option NameKind} {x : Str} {v : Value} (hk : kindOf x ≠ some .local) : ∀ {binds : List (Str × Value)} {m : Str → Option Value}, (binds.map (·.1)).Nodup → binds.lookup x = some v → bindC kindOf binds m x = some v
  | [], m, _, h => by cases h
  | (n, u) :: r, m, hd, h => by
    rw [List.map_cons, List.nodup_cons] at hd
    rw [List.lookup_cons] at h
    unfold bindC
    cases hx : x == n with
    | true =>
      rw [hx] at h; cases h
      obtain rfl := beq_iff_eq.mp hx
      rw [bindC_notin fun p hp q => hd.1 (List.mem_map.mpr ⟨p, hp, q⟩), if_neg hk]
      simp
    | false => rw [hx] at h; exact bindC_lookup hk hd.2 h

theorem cellsFrom_lookup {x : Str} : ∀ (names : List (Str × NameKind)) (L : Nat) (acc : List (Str × Addr)), ((x, NameKind.cell) ∈ names ∨ (acc.lookup x).isSome) → ((cellsFrom L names acc).lookup x).isSome
  | [], L, acc, h => by
    rcases h with h | h
    · cases h
    · exact h
  | (n, k) :: r, L, acc, h => by
    unfold cellsFrom
    split
    · rename_i hk
      refine cellsFrom_lookup r _ _ ?_
      rcases h with h | h
      · rcases List.mem_cons.mp h with h | h
        · cases h; exact .inr (by simp)
        · exact .inl h
      · refine .inr ?_
        rw [List.lookup_cons]
        cases hx : x == n with
        | true => rfl
        | false => exact h
    · rename_i hk
      refine cellsFrom_lookup r _ _ ?_
      rcases h with h | h
      · rcases List.mem_cons.mp h with h | h
        · cases h; exact absurd (by rfl) hk
        · exact .inl h
      · exact .inr h

theorem zip_lookup {P : Addr → Prop} {h : Heap} {x : Str} {y : V} : ∀ {ps : List Str} {ys : List V} {vs : List Value}, Reps P h ys vs → (ps.zip ys).lookup x = some y → ∃ v, (ps.zip vs).lookup x = some v ∧ Rep P h y v
  | [], ys, vs, _, e => by simp at e
  | p :: ps, [], vs, _, e => by simp at e
  | p :: ps, z :: ys, vs, r, e => by
    obtain ⟨v, w, rfl, r1, r2⟩ := r.cons_inv
    rw [List.zip_cons_cons, List.lookup_cons] at e
    rw [List.zip_cons_cons, List.lookup_cons]
    cases hx : x == p with
    | true => rw [hx] at e; cases e; exact ⟨v, rfl, r1⟩
    | false => rw [hx] at e; exact zip_lookup r2 e

theorem zip_names : ∀ {α β : Type} {ps : List α} {vs : List β}, vs.length = ps.length → (ps.zip vs).map (·.1) = ps
  | _, _, [], vs, _ => by simp
  | _, _, p :: ps, [], h => by simp at h
  | _, _, p :: ps, v :: vs, h => by simp at h; simp [zip_names h]

/-- the frame that a call of a function of the text runs in -/
noncomputable abbrev envC (scope : Scope) (L : Addr) (q : Str) (f : Addr) (cd : Value) : Env := newEnv scope L mainGlobals (cellsFrom (L + 1) scope.names []) (q ++ ".<locals>.") (some f) cd none builtinsNs

theorem CallV.fn {c : Cx} {n : Nat} {K : Frag} {f : Addr} {o : Obj} {fd : FuncData} {scope : Scope} {body : List Stmt} {q : Str} {cd : Value} {ps : List Str} {ys : List V} {y : V} (hK : c.K = K) (ho : K.lookup f = some o) (hd : o.data = .func fd) (hsc : fd.scope = scope) (hbody : fd.body = .stmts body)
    (hgl : fd.globals = mainGlobals) (hcl : fd.closure = []) (hbu : fd.builtins = builtinsNs) (hq : fd.qualname = q) (hcd : fd.code = cd) (hcode : codeIn K cd q = true)
    (hbind : ∀ vs : List Value, vs.length = ps.length → bindArgs fd ⟨vs, []⟩ = pure (ps.zip vs)) (hps : ∀ x ∈ ps, scope.names.lookup x = some .local ∨ scope.names.lookup x = some .cell) (hnd : ps.Nodup)
    (hlen : ys.length = ps.length) (hws : ∀ L, WS c n (envC scope L q f cd) body (ps.zip ys) none { next := fun _ _ => y = .none, ret := fun z => z = y })
    (hco : scope.isCoroutine = false := by rfl) (hgen : scope.isGenerator = false := by rfl) (hk : scope.kind = .function := by rfl) : CallV c (n + 1) (.ref f) ys y := .mk fun P A E s vs at_ rs => by
  subst hK hsc hq hcd
  have hlv : vs.length = ps.length := rs.length.trans hlen
  have lkc : ∀ x, fd.scope.names.lookup x = some .cell → ∀ L, ((cellsFrom L fd.scope.names []).lookup x).isSome = true := fun x h L => cellsFrom_lookup _ _ _ (.inl (mem_of_lookup h))
  refine wpAny_call (codeAny_call_cells (by have := at_.room.2.1; have : recursionLimit = 1000 := rfl; omega) (at_.inv.k _ _ ho) hd at_.inv.nl (codeRec_of at_.inv.k hcode) hbody (hbind vs hlv) hcl (fun x hx => ?_) (fun s₁ X => ?_) hco hgen hk)
  · have : x.1 ∈ ps := by
      have := List.mem_map_of_mem (f := (·.1)) hx
      rwa [zip_names hlv] at this
    exact (hps _ this).imp id fun h => ⟨h, lkc _ h _⟩
  · have he : callEnvC fd s.heap.objs.size f = envC fd.scope s.heap.objs.size fd.qualname f fd.code := by
      unfold callEnvC; rw [hgl, hbu]
    rw [he] at X ⊢
    obtain ⟨h', tk, rfl, keep⟩ := X.done
    have st : Step c s { s with heap := h', toks := tk } := Step.of at_.inv keep
    have hnone : ∀ b, s.heap.objs.size ≤ b → s.heap.get? b = none := fun b hb => Heap.get?_none_of_le hb
    have eo : EnvOk (envC fd.scope s.heap.objs.size fd.qualname f fd.code) s.heap := {
      fk := hk
      gl := rfl
      bu := rfl
      loc0 := hnone _ (Nat.le_refl _)
      cell0 := fun x a _ e => hnone _ (Nat.le_of_lt (X.above x a (mem_of_lookup e)))
      inj := fun x z a _ e e' => name_of_addr X.apart (mem_of_lookup e) (mem_of_lookup e') }
    have hname : ((ps.zip vs).map (·.1)).Nodup := by rw [zip_names hlv]; exact hnd
    have XS : St c s P (envC fd.scope s.heap.objs.size fd.qualname f fd.code) (ps.zip ys) none { s with heap := h', toks := tk } := {
      step := st
      eok := eo
      frame := ⟨hk, rfl, rfl, fun x z e => by
        obtain ⟨v, hv, r⟩ := zip_lookup rs e
        refine ⟨v, ?_, (st.rep at_.inv r).monoP fun a h => Bar.none_iff.mpr h⟩
        have hx : x ∈ ps := by
          have := List.mem_map_of_mem (f := (·.1)) (mem_of_lookup_some hv)
          rwa [zip_names hlv] at this
        rcases hps x hx with hl | hc
        · exact .inl ⟨hl, _, X.toInCall.ns, bindL_lookup hl hname hv⟩
        · obtain ⟨a, ha⟩ := Option.isSome_iff_exists.mp (lkc x hc (s.heap.objs.size + 1))
          refine .inr ⟨.inl hc, a, ha, ?_⟩
          have := X.cell x a ha
          rwa [bindC_lookup (v := v) (fun q => by have q' : fd.scope.names.lookup x = some .local := q; rw [hc] at q'; cases q') hname hv] at this⟩
      ns := ⟨_, X.toInCall.ns⟩
      cellv := fun x a _ e => ⟨_, X.cell x a e⟩
      own := nofun }
    have at' : At c n (A.deeper (envC fd.scope s.heap.objs.size fd.qualname f fd.code)) P s := ⟨⟨at_.room.1, by have := at_.room.2.1; show A.depth + 1 + 10 * n < 900; omega, by have := at_.room.2.2; show A.units + 3 + 100 * n < 9000; omega⟩, at_.inv, at_.fresh⟩
    refine wpAny_mono ((hws s.heap.objs.size).run P _ _ s _ at' XS) (fun fl s' hf => ?_) fun _ _ e => e
    cases fl with
    | next => obtain ⟨ρ', own', hq, X', _⟩ := hf; subst hq; exact ⟨by unfold Rep; rfl, X'.step⟩
    | brk => obtain ⟨ρ', own', hq, _⟩ := hf; exact hq.elim
    | cont => obtain ⟨ρ', own', hq, _⟩ := hf; exact hq.elim
    | ret v => obtain ⟨z, hq, r, st'⟩ := hf; subst hq; exact ⟨r, st'⟩

/-- the same, the function's parts read off its object -/
theorem CallV.def {c : Cx} {n : Nat} {K : Frag} {f : Addr} {o : Obj} {name q : Str} {params : Arguments} {body : List Stmt} {scope : Scope} {dV kV doc pm cd ct : Value} {an : Option Addr} {ps : List Str} {ys : List V} {y : V} (hK : c.K = K) (ho : K.lookup f = some o)
    (hd : o.data = .func (fnX name q params body scope [] dV kV doc pm an cd ct)) (hcode : codeIn K cd q = true)
    (hbind : ∀ vs : List Value, vs.length = ps.length → bindArgs (fnX name q params body scope [] dV kV doc pm an cd ct) ⟨vs, []⟩ = pure (ps.zip vs)) (hps : ∀ x ∈ ps, scope.names.lookup x = some .local ∨ scope.names.lookup x = some .cell) (hnd : ps.Nodup)
    (hlen : ys.length = ps.length) (hws : ∀ L, WS c n (envC scope L q f cd) body (ps.zip ys) none { next := fun _ _ => y = .none, ret := fun z => z = y })
    (hco : scope.isCoroutine = false := by rfl) (hgen : scope.isGenerator = false := by rfl) (hk : scope.kind = .function := by rfl) : CallV c (n + 1) (.ref f) ys y :=
  CallV.fn hK ho hd rfl rfl rfl rfl rfl rfl rfl hcode hbind hps hnd hlen hws hco hgen hk


structure Cok (c : Cx) (K : Frag) : Prop where
  hK : c.K = K
  hg : ∀ x v, nsIn K mainGlobals x = some v → c.mg x = v

noncomputable def isFunc (K : Frag) (a : Addr) : Bool := match K.lookup a with
  | some o => (match o.data with
    | .func _ => true
    | _ => false)
  | none => false

section
variable {c : Cx} {K : Frag} {n : Nat} {env : Env} {ρ : List (Str × V)}

theorem Glo.g (H : Cok c K) {x : Str} {f : Value} (h : nsIn K mainGlobals x = some (some f)) (hk : env.kindOf x = some .globalImplicit) (hd : (x == ("__debug__" : Str)) = false) : Glo c env x f :=
  ⟨hk, .inl (H.hg _ _ h), hd⟩
theorem Glo.b (H : Cok c K) {x : Str} {f : Value} (h : nsIn K mainGlobals x = some none) (hb : bootBuiltins x = some f) (hn : x ≠ "__name__") (hk : env.kindOf x = some .globalImplicit) (hd : (x == ("__debug__" : Str)) = false) : Glo c env x f :=
  ⟨hk, .inr ⟨H.hg _ _ h, hb, hn⟩, hd⟩

theorem Ev.gint {x : Str} {pos : Pos} {i : Int} {t : Tok} (g : Glo c env x (.int i t)) : Ev c n env ρ (.Name x pos) (.int i) := .mk fun P A E s at_ F =>
  ev_glo at_.inv F g ⟨rep_int, Step.refl at_.inv⟩

theorem Ev.fn {id : Str} {p pos : Pos} {es : List Expr} {a : Addr} {ys : List V} {y : V} (H : Cok c K) (g : Glo c env id (.ref a)) (hf : isFunc K a = true) (hns : (starEach es env).any (·.1) = false)
    (h1 : Evs c n env ρ es ys) (h2 : CallV c n (.ref a) ys y) : Ev c n env ρ (.Call (.Name id p) es [] pos) y := by
  unfold isFunc at hf
  cases e : K.lookup a with
  | none => rw [e] at hf; cases hf
  | some o =>
    rw [e] at hf
    cases ed : o.data with
    | func fd => exact Ev.callF g (by rw [H.hK]; exact e) ed hns h1 h2
    | _ => simp [ed] at hf

/-! texts, as lists of letters -/
theorem Ev.s {x : Str} {k : Nat} {pos : Pos} {l : List Nat} (hx : x = ⟨l.toArray⟩) (hl : l.length ≤ lim) : Ev c n env ρ (.Constant (.str x) k pos) (V.s l) := by
  subst hx; exact Ev.str hl
theorem str_inj {l m : List Nat} : ((⟨l.toArray⟩ : Str) == ⟨m.toArray⟩) = decide (l = m) := by
  by_cases h : l = m
  · subst h; simp
  · have : ¬ ((⟨l.toArray⟩ : Str) = ⟨m.toArray⟩) := fun q => h (by simpa using q)
    simp [h, this]
theorem CmpV.eq_s {l m : List Nat} : CmpV c n .Eq (V.s l) (V.s m) (decide (l = m)) := str_inj ▸ CmpV.eq_str
theorem CmpV.ne_s {l m : List Nat} : CmpV c n .NotEq (V.s l) (V.s m) (!decide (l = m)) := by
  have := CmpV.ne_str (c := c) (n := n) (a := (⟨l.toArray⟩ : Str)) (b := ⟨m.toArray⟩)
  rwa [show ((⟨l.toArray⟩ : Str) != ⟨m.toArray⟩) = !decide (l = m) by rw [bne, str_inj]] at this
theorem CmpV.lt_s {l m : List Nat} : CmpV c n .Lt (V.s l) (V.s m) (decide (l < m)) := CmpV.lt_str
theorem CmpV.gt_s {l m : List Nat} : CmpV c n .Gt (V.s l) (V.s m) (decide (m < l)) := CmpV.gt_str
theorem CallV.len_s {l : List Nat} : CallV c n (.builtin "len") [V.s l] (.int l.length) := CallV.len_str
theorem TruV.s {l : List Nat} : TruV c n (V.s l) (!l.isEmpty) := by
  have := TruV.str (c := c) (n := n) (x := (⟨l.toArray⟩ : Str))
  rwa [show (Str.length ⟨l.toArray⟩ != 0) = !l.isEmpty by cases l <;> rfl] at this
theorem BinV.add_s {a b : List Nat} (h : a.length + b.length ≤ lim) : BinV c n .Add (V.s a) (V.s b) (V.s (a ++ b)) := by
  have := BinV.add_str (c := c) (n := n) (a := (⟨a.toArray⟩ : Str)) (b := ⟨b.toArray⟩) h
  rwa [show ((⟨a.toArray⟩ : Str) ++ ⟨b.toArray⟩) = ⟨(a ++ b).toArray⟩ by show Str.mk (a.toArray ++ b.toArray) = _; simp] at this
end


theorem hx_some {z x : Str} {b : Addr} {zs : List V} (h : (x == z) = false) : ∀ a ys, (some (z, b, zs) : Own) ≠ some (x, a, ys) := fun a ys e => by
  cases e; simp at h
theorem hx_none {x : Str} : ∀ a ys, (none : Own) ≠ some (x, a, ys) := nofun

noncomputable def Has (ρ' canon : List (Str × V)) : Prop := ∀ x y, canon.lookup x = some y → ρ'.lookup x = some y
theorem has_nil {ρ : List (Str × V)} : Has ρ [] := nofun
theorem has_cons {ρ r : List (Str × V)} {x : Str} {y : V} (h : ρ.lookup x = some y) (t : Has ρ r) : Has ρ ((x, y) :: r) := fun z w e => by
  rw [List.lookup_cons] at e
  cases hz : z == x with
  | true => rw [hz] at e; cases e; rw [beq_iff_eq.mp hz]; exact h
  | false => rw [hz] at e; exact t z w e
theorem Has.refl {ρ : List (Str × V)} : Has ρ ρ := fun _ _ h => h

theorem binds_len {α : Type} {p : List Value → Prop} : ∀ k : Nat, (∀ vs : List Value, vs.length = k → p vs) ↔ (match k with
  | 0 => p []
  | k + 1 => ∀ v, ∀ vs : List Value, vs.length = k → p (v :: vs))
  | 0 => ⟨fun h => h [] rfl, fun h vs e => by cases vs with
    | nil => exact h
    | cons v vs => simp at e⟩
  | k + 1 => ⟨fun h v vs e => h (v :: vs) (by simp [e]), fun h vs e => by cases vs with
    | nil => simp at e
    | cons v vs => exact h v vs (by simpa using e)⟩

section
variable {c : Cx} {n : Nat} {env : Env} {ρ : Frame} {own : Own} {Q : Post}
theorem WS.canon {ss : List Stmt} {ρ' : Frame} (hs : Has ρ ρ') (h : WS c n env ss ρ' own Q) : WS c n env ss ρ own Q := WS.weak h hs
theorem Ev.canon {ρ' : Frame} {e : Expr} {y : V} (hs : Has ρ ρ') (h : Ev c n env ρ' e y) : Ev c n env ρ e y := .mk fun P A E s at_ F => h.run P A E s at_ ⟨F.fk, F.gl, F.bu, fun x y e => F.var x y (hs x y e)⟩
end

/-! letters -/
noncomputable def lo (ch : Nat) : Nat := if 65 ≤ ch ∧ ch ≤ 90 then ch + 32 else ch
noncomputable def up (ch : Nat) : Nat := if 97 ≤ ch ∧ ch ≤ 122 then ch - 32 else ch
noncomputable def Ascii (l : List Nat) : Prop := ∀ x ∈ l, x < 128
theorem lower_s {l : List Nat} (h : Ascii l) : Txt.lower ⟨l.toArray⟩ = ⟨(l.map lo).toArray⟩ := by
  rw [lower_ascii (by intro x hx; exact h x (by simpa using hx))]
  congr 1
  simp only [List.map_toArray]
  congr 1
theorem upper_s {l : List Nat} (h : Ascii l) : Txt.upper ⟨l.toArray⟩ = ⟨(l.map up).toArray⟩ := by
  rw [upper_ascii (by intro x hx; exact h x (by simpa using hx))]
  congr 1
  simp only [List.map_toArray]
  congr 1
theorem MethV.lower_s {c : Cx} {n : Nat} {l : List Nat} (h : Ascii l) (hl : l.length ≤ 1000) : MethV c n (V.s l) "lower" [] (V.s (l.map lo)) := by
  have := MethV.lower (c := c) (n := n) (x := ⟨l.toArray⟩) hl
  rwa [Mine.lower_s h] at this
theorem MethV.upper_s {c : Cx} {n : Nat} {l : List Nat} (h : Ascii l) (hl : l.length ≤ 1000) : MethV c n (V.s l) "upper" [] (V.s (l.map up)) := by
  have := MethV.upper (c := c) (n := n) (x := ⟨l.toArray⟩) hl
  rwa [Mine.upper_s h] at this


theorem clipAt_nat (n k : Nat) : clipAt n (k : Int) = min k n := by unfold clipAt; omega
theorem clipAt_neg (n k : Nat) (hk : 0 < k) : clipAt n (-(k : Int)) = n - k := by unfold clipAt; omega
theorem seqIndex_nat {k n : Nat} (h : k < n) : seqIndex? (k : Int) n = some k := by
  unfold seqIndex?
  have h1 : ¬ ((k : Int) < 0) := by omega
  simp only [h1, if_false]
  have : (decide (0 ≤ (k : Int)) && decide ((k : Int) < n)) = true := by simp; omega
  rw [if_pos this]; simp
theorem seqIndex_neg {k n : Nat} (h0 : 0 < k) (h : k ≤ n) : seqIndex? (-(k : Int)) n = some (n - k) := by
  unfold seqIndex?
  have h1 : (-(k : Int) < 0) := by omega
  simp only [h1, if_true]
  have : (decide (0 ≤ -(k : Int) + n) && decide (-(k : Int) + n < n)) = true := by simp; omega
  rw [if_pos this]; congr 1; omega

section
variable {α : Type} (l : List α)
theorem pick_from (k : Nat) : pick l (some (k : Int)) none none = l.drop k := by
  rw [pick_plain]
  simp only [Option.elim, clipAt_nat]
  rcases Nat.le_total k l.length with h | h
  · rw [Nat.min_eq_left h]; exact List.take_of_length_le (by simp)
  · rw [Nat.min_eq_right h]; simp [List.drop_eq_nil_of_le h]
theorem pick_upto (k : Nat) : pick l none (some (k : Int)) none = l.take k := by
  rw [pick_plain]
  simp only [Option.elim, clipAt_nat, List.drop_zero, Nat.sub_zero]
  rcases Nat.le_total k l.length with h | h
  · rw [Nat.min_eq_left h]
  · rw [Nat.min_eq_right h, List.take_of_length_le (Nat.le_refl _), List.take_of_length_le h]
theorem pick_upto_neg (k : Nat) (hk : 0 < k) : pick l none (some (-(k : Int))) none = l.take (l.length - k) := by
  rw [pick_plain]
  simp only [Option.elim, clipAt_neg _ _ hk, List.drop_zero, Nat.sub_zero]
theorem pick_from_neg (k : Nat) (hk : 0 < k) : pick l (some (-(k : Int))) none none = l.drop (l.length - k) := by
  rw [pick_plain]
  simp only [Option.elim, clipAt_neg _ _ hk]
  exact List.take_of_length_le (by simp)
theorem pick_whole : pick l none none none = l := by
  rw [pick_plain]; simp
theorem pick_mid (j k : Nat) : pick l (some (j : Int)) (some (k : Int)) none = (l.drop j).take (k - j) := by
  rw [pick_plain]
  simp only [Option.elim, clipAt_nat]
  apply List.ext_getElem?
  intro i
  rw [List.getElem?_take, List.getElem?_take, List.getElem?_drop, List.getElem?_drop]
  by_cases h1 : j ≤ l.length
  · rw [Nat.min_eq_left (show j ≤ l.length from h1)]
    by_cases h : i < k - j
    · by_cases h2 : i < min k l.length - j
      · rw [if_pos h2, if_pos h]
      · rw [if_neg h2, if_pos h, List.getElem?_eq_none (by omega)]
    · rw [if_neg h, if_neg (by omega)]
  · rw [Nat.min_eq_right (show l.length ≤ j by omega)]
    rw [if_neg (by omega), List.getElem?_eq_none (by omega)]
    split <;> rfl
theorem pick_rev : pick l none none (some (-1)) = l.reverse := by
  unfold pick
  have hb : sliceBounds none none (some (-1)) l.length = ((l.length : Int) - 1, -1, -1) := by simp [sliceBounds]
  rw [hb]
  dsimp only
  have e : sliceRange ((l.length : Int) - 1) (-1) (-1) = (List.range l.length).map fun k => l.length - 1 - k := by
    unfold sliceRange
    have h0 : ¬ ((-1 : Int) > 0) := by decide
    simp only [h0, if_false]
    by_cases h : (l.length : Int) - 1 > -1
    · rw [if_pos h]
      have : (((l.length : Int) - 1 - (-1) - (-1) - 1) / (- (-1))).toNat = l.length := by
        rw [show (-(-1) : Int) = 1 by decide, Int.ediv_one]; omega
      rw [this]
      exact List.map_congr_left fun k _ => by omega
    · rw [if_neg h]
      have : l.length = 0 := by omega
      rw [this]; rfl
  rw [e, List.filterMap_map]
  apply List.ext_getElem?
  intro i
  have key : ∀ m : Nat, m ≤ l.length → (List.range m).filterMap ((fun x => l[x]?) ∘ fun k => l.length - 1 - k) = l.reverse.take m := by
    intro m hm
    induction m with
    | zero => simp
    | succ m ih =>
      rw [List.range_succ, List.filterMap_append, ih (by omega), List.take_succ_eq_append_getElem (by rw [List.length_reverse]; omega)]
      congr 1
      simp [List.getElem?_eq_getElem (show l.length - 1 - m < l.length by omega), List.getElem_reverse]
  rw [key _ (Nat.le_refl _), List.take_of_length_le (by simp)]
end

section
variable {c : Cx} {n : Nat} {env : Env} {ρ : List (Str × V)}

theorem getElem?_getD {α : Type} {l : List α} {k : Nat} (d : α) (h : k < l.length) : l[k]? = some (l.getD k d) := by
  rw [List.getD_eq_getElem?_getD, List.getElem?_eq_getElem h]; rfl

theorem SubV.s_nat {l : List Nat} {k : Nat} (h : k < l.length) : SubV c n (V.s l) (.val (.int (k : Int))) (V.s [l.getD k 0]) := SubV.str (seqIndex_nat h) (getElem?_getD 0 h)
theorem SubV.s_neg {l : List Nat} {k : Nat} (h0 : 0 < k) (h : k ≤ l.length) : SubV c n (V.s l) (.val (.int (-(k : Int)))) (V.s [l.getD (l.length - k) 0]) := SubV.str (seqIndex_neg h0 h) (getElem?_getD 0 (by omega))
theorem SubV.l_nat {l : List V} {k : Nat} (h : k < l.length) : SubV c n (.list l) (.val (.int (k : Int))) (l.getD k .none) := SubV.list (seqIndex_nat h) (getElem?_getD .none h)
theorem map_getD {α β : Type} {f : α → β} {l : List α} {k : Nat} (d : α) (e : β) (h : k < l.length) : (l.map f).getD k e = f (l.getD k d) := by
  rw [List.getD_eq_getElem?_getD, List.getElem?_map, List.getD_eq_getElem?_getD, List.getElem?_eq_getElem h]; rfl
theorem SubV.map_nat {α : Type} (d : α) {f : α → V} {l : List α} {k : Nat} (h : k < l.length) : SubV c n (.list (l.map f)) (.val (.int (k : Int))) (f (l.getD k d)) := by
  have := SubV.l_nat (c := c) (n := n) (l := l.map f) (k := k) (by simpa using h)
  rwa [map_getD d V.none h] at this
theorem SubV.ints_nat {l : List Int} {k : Nat} (h : k < l.length) : SubV c n (.list (l.map V.int)) (.val (.int (k : Int))) (.int (l.getD k 0)) := SubV.map_nat 0 h
theorem SubV.texts_nat {l : List (List Nat)} {k : Nat} (h : k < l.length) : SubV c n (.list (l.map V.s)) (.val (.int (k : Int))) (V.s (l.getD k [])) := SubV.map_nat [] h
theorem SubV.map_neg {α : Type} (d : α) {f : α → V} {l : List α} {k : Nat} (h0 : 0 < k) (h : k ≤ l.length) : SubV c n (.list (l.map f)) (.val (.int (-(k : Int)))) (f (l.getD (l.length - k) d)) := by
  have := SubV.list (c := c) (n := n) (l := l.map f) (i := -(k : Int)) (k := l.length - k) (y := f (l.getD (l.length - k) d)) (by rw [List.length_map]; exact seqIndex_neg h0 h) (by
    rw [List.getElem?_map, getElem?_getD d (by omega)]; rfl)
  exact this
theorem SubV.ints_neg {l : List Int} {k : Nat} (h0 : 0 < k) (h : k ≤ l.length) : SubV c n (.list (l.map V.int)) (.val (.int (-(k : Int)))) (.int (l.getD (l.length - k) 0)) := SubV.map_neg 0 h0 h
theorem SubV.eq {a : V} {ix : Ix} {y y' : V} (h : SubV c n a ix y) (e : y = y') : SubV c n a ix y' := e ▸ h

theorem SubV.s_from {l : List Nat} {k : Nat} : SubV c n (V.s l) (.slice (some (k : Int)) none none) (V.s (l.drop k)) := by
  have := SubV.str_slice (c := c) (n := n) (l := l) (lo := some (k : Int)) (hi := none) (st := none) nofun nofun
  rwa [pick_from] at this
theorem SubV.s_upto {l : List Nat} {k : Nat} : SubV c n (V.s l) (.slice none (some (k : Int)) none) (V.s (l.take k)) := by
  have := SubV.str_slice (c := c) (n := n) (l := l) (lo := none) (hi := some (k : Int)) (st := none) nofun nofun
  rwa [pick_upto] at this
theorem SubV.s_upto_neg {l : List Nat} {k : Nat} (hk : 0 < k) : SubV c n (V.s l) (.slice none (some (-(k : Int))) none) (V.s (l.take (l.length - k))) := by
  have := SubV.str_slice (c := c) (n := n) (l := l) (lo := none) (hi := some (-(k : Int))) (st := none) nofun nofun
  rwa [pick_upto_neg _ _ hk] at this
theorem SubV.s_whole {l : List Nat} : SubV c n (V.s l) (.slice none none none) (V.s l) := by
  have := SubV.str_slice (c := c) (n := n) (l := l) (lo := none) (hi := none) (st := none) nofun nofun
  rwa [pick_whole] at this
theorem SubV.s_rev {l : List Nat} : SubV c n (V.s l) (.slice none none (some (-1))) (V.s l.reverse) := by
  have := SubV.str_slice (c := c) (n := n) (l := l) (lo := none) (hi := none) (st := some (-1)) (by decide) (by decide)
  rwa [pick_rev] at this
theorem SubV.l_from {l : List V} {k : Nat} : SubV c n (.list l) (.slice (some (k : Int)) none none) (.list (l.drop k)) := by
  have := SubV.slice (c := c) (n := n) (l := l) (lo := some (k : Int)) (hi := none) (st := none) nofun
  rwa [pick_from] at this
theorem SubV.l_upto {l : List V} {k : Nat} : SubV c n (.list l) (.slice none (some (k : Int)) none) (.list (l.take k)) := by
  have := SubV.slice (c := c) (n := n) (l := l) (lo := none) (hi := some (k : Int)) (st := none) nofun
  rwa [pick_upto] at this
theorem SubV.l_mid {l : List V} {j k : Nat} : SubV c n (.list l) (.slice (some (j : Int)) (some (k : Int)) none) (.list ((l.drop j).take (k - j))) := by
  have := SubV.slice (c := c) (n := n) (l := l) (lo := some (j : Int)) (hi := some (k : Int)) (st := none) nofun
  rwa [pick_mid] at this
theorem SubV.l_from_neg {l : List V} {k : Nat} (hk : 0 < k) : SubV c n (.list l) (.slice (some (-(k : Int))) none none) (.list (l.drop (l.length - k))) := by
  have := SubV.slice (c := c) (n := n) (l := l) (lo := some (-(k : Int))) (hi := none) (st := none) nofun
  rwa [pick_from_neg _ _ hk] at this
theorem SubV.l_rev {l : List V} : SubV c n (.list l) (.slice none none (some (-1))) (.list l.reverse) := by
  have := SubV.slice (c := c) (n := n) (l := l) (lo := none) (hi := none) (st := some (-1)) (by decide)
  rwa [pick_rev] at this
end

section
variable {c : Cx} {n : Nat} {env : Env} {ρ : Frame} {own : Own} {Q : Post}

theorem WS.asg {x : Str} {p pos : Pos} {e : Expr} {y : V} {rest : List Stmt} (hk : Var env x) (hx : ∀ a ys, own ≠ some (x, a, ys)) (hs : swapsWith e (some (.Name x p)) pos.line env = pure false) (h : Ev c n env ρ e y) (hq : WS c n env rest ((x, y) :: ρ) own Q) :
    WS c n env (.Assign [.Name x p] e pos :: rest) ρ own Q := WS.cons (WX.assign (Evo.of h) hk hx hq hs)
theorem WS.asgf {x : Str} {p pos : Pos} {e : Expr} {y : V} {rest : List Stmt} (hk : Var env x) (hx : ∀ a ys, own ≠ some (x, a, ys)) (hs : swapsWith e (some (.Name x p)) pos.line env = pure false) (h : Ev c n env (full ρ own) e y) (hf : y.flat = true) (hq : WS c n env rest ((x, y) :: ρ) own Q) :
    WS c n env (.Assign [.Name x p] e pos :: rest) ρ own Q := WS.cons (WX.assign (Evo.flat h hf) hk hx hq hs)
theorem WS.return {e : Expr} {pos : Pos} {y : V} {rest : List Stmt} (h : Ev c n env (full ρ own) e y) (hq : Q.ret y) : WS c n env (.Return (some e) pos :: rest) ρ own Q := WS.cons (WX.ret h hq)
theorem WS.ite {t : Expr} {a b rest : List Stmt} {pos : Pos} (v : Bool) (h : Tst c n env (full ρ own) t v) (h1 : v = true → WS c n env a ρ own { Q with next := fun ρ' own' => WS c n env rest ρ' own' Q }) (h2 : v = false → WS c n env b ρ own { Q with next := fun ρ' own' => WS c n env rest ρ' own' Q }) : WS c n env (.If t a b pos :: rest) ρ own Q :=
  WS.cons (WX.ite h h1 h2)
/-- a test without an else -/
theorem WS.if {t : Expr} {a rest : List Stmt} {pos : Pos} (v : Bool) (h : Tst c n env (full ρ own) t v) (h1 : v = true → WS c n env a ρ own { Q with next := fun ρ' own' => WS c n env rest ρ' own' Q }) (h2 : v = false → WS c n env rest ρ own Q) : WS c n env (.If t a [] pos :: rest) ρ own Q :=
  WS.cons (WX.ite h h1 fun e => WS.nil (h2 e))
end

section
variable {c : Cx} {n : Nat} {env : Env} {ρ : Frame} {own : Own} {Q : Post}

theorem WX.post {x : Stmt} {Q' : Post} (h : WX c n env x ρ own Q) (h1 : ∀ a b, Q.next a b → Q'.next a b) (h2 : ∀ a b, Q.brk a b → Q'.brk a b) (h3 : ∀ a b, Q.cont a b → Q'.cont a b) (h4 : ∀ y, Q.ret y → Q'.ret y) : WX c n env x ρ own Q' := .mk fun P A E s₀ s at_ X =>
  wpAny_mono (h.run P A E s₀ s at_ X) (fun f s' hf => by
    cases f with
    | next => obtain ⟨ρ'', own'', hq, r⟩ := hf; exact ⟨ρ'', own'', h1 _ _ hq, r⟩
    | brk => obtain ⟨ρ'', own'', hq, r⟩ := hf; exact ⟨ρ'', own'', h2 _ _ hq, r⟩
    | cont => obtain ⟨ρ'', own'', hq, r⟩ := hf; exact ⟨ρ'', own'', h3 _ _ hq, r⟩
    | ret v => obtain ⟨y, hq, r⟩ := hf; exact ⟨y, h4 _ hq, r⟩) fun _ _ e => e
/-- a statement, and what is to hold behind it -/
theorem WS.cut {x : Stmt} {rest : List Stmt} (J : Frame → Own → Prop) (h : WX c n env x ρ own { Q with next := J }) (hr : ∀ ρ' own', J ρ' own' → WS c n env rest ρ' own' Q) : WS c n env (x :: rest) ρ own Q :=
  WS.cons (WX.post h hr (fun _ _ h => h) (fun _ _ h => h) fun _ h => h)

theorem Ev.upto_or {value : Expr} {x : Str} {p1 p2 p3 pos np : Pos} {nk : Nat} {l : List Nat} {k : Nat} {i : Int} (hi : i = -(k : Int)) (hv : Ev c n env ρ value (V.s l)) (hx : ρ.lookup x = some (.int i)) (hd : (x == ("__debug__" : Str)) = false) :
    Ev c n env ρ (.Subscript value (.Slice Option.none (Option.some (.BoolOp .Or [.Name x p1, .Constant .none nk np] p2)) Option.none p3) pos) (V.s (l.take (l.length - k))) := by
  subst hi
  rcases Nat.eq_zero_or_pos k with rfl | hk
  · refine Ev.sub hv (EvIx.slice EvPart.none (EvPart.no (Ev.or2 (Ev.name hx hd) TruV.int (fun _ => Ev.none) ?_)) EvPart.none) ?_
    · rfl
    · have := SubV.s_whole (c := c) (n := n) (l := l)
      rwa [show l.take (l.length - 0) = l by simp]
  · refine Ev.sub hv (EvIx.slice EvPart.none (EvPart.some (i := -(k : Int)) (Ev.or2 (b := .none) (Ev.name hx hd) TruV.int (fun _ => Ev.none) ?_)) EvPart.none) (SubV.s_upto_neg hk)
    rw [if_pos (by simp; omega)]

theorem rangeSmall {a b d : Int} {k : Nat} (hk : Builtin.Range.rangeSize a b d = k) (hk' : k ≤ 2 ^ 30) (ha : -(2 ^ 40) ≤ a ∧ a ≤ 2 ^ 40) (hb : -(2 ^ 40) ≤ b ∧ b ≤ 2 ^ 40) (hd : -(2 ^ 20) ≤ d ∧ d ≤ 2 ^ 20) : Builtin.Range.small a b d = true := by
  unfold Builtin.Range.small
  rw [hk]
  have f1 := fitsLong (i := a) (by omega) (by omega)
  have f2 := fitsLong (i := b) (by omega) (by omega)
  have f3 := fitsLong (i := (k : Int)) (by omega) (by omega)
  have f4 := fitsLong (i := d) (by omega) (by omega)
  have f5 := fitsLong (i := b + (d - 1)) (by omega) (by omega)
  have f6 := fitsLong (i := b + (d + 1)) (by omega) (by omega)
  rw [f1, f2, f4]
  simp [f3, f5, f6]

theorem EvNew.list_range {p p2 pos pos2 : Pos} {e1 e2 e3 : Expr} {a b d : Int} {k : Nat} (g : Glo c env "list" (.type "list")) (g2 : Glo c env "range" (.type "range")) (hns : (starEach [e1, e2, e3] env).any (·.1) = false) (hns2 : starEach [.Call (.Name "range" p2) [e1, e2, e3] [] pos2] env = [(false, eval (.Call (.Name "range" p2) [e1, e2, e3] [] pos2) env)])
    (h : Evs c n env ρ [e1, e2, e3] [.int a, .int b, .int d]) (hk : Builtin.Range.rangeSize a b d = k) (hk' : k ≤ 2 ^ 20) (hd0 : d ≠ 0) (ha : -(2 ^ 40) ≤ a ∧ a ≤ 2 ^ 40) (hb : -(2 ^ 40) ≤ b ∧ b ≤ 2 ^ 40) (hd : -(2 ^ 20) ≤ d ∧ d ≤ 2 ^ 20) (hpl : Builtin.divisionGoesByPylong (b - a) d = false) :
    EvNew c n env ρ (.Call (.Name "list" p) [.Call (.Name "range" p2) [e1, e2, e3] [] pos2] [] pos) (steps a d k) := .mk fun P A E s at_ F => by
  have hn : (starEach [.Call (.Name "range" p2) [e1, e2, e3] [] pos2] env).any (·.1) = false := by rw [hns2]; rfl
  refine wpAny_Call_Name_kw (ev_glo at_.inv F g (callWith_mach rfl (backTo_any _ hn) (evalArgs_trees hn ?_)))
  refine wpAny_items_cons (rest := []) ?_ (by rw [hns2]; rfl)
  refine wpAny_Call_Name_kw (ev_glo at_.inv F g2 (callWith_mach rfl (backTo_any _ hns) (evalArgs_trees hns (wpAny_mono (h.run P A E s _ at_ F) (fun vs s₁ ⟨rs, st⟩ => ?_) fun _ _ e => e))))
  obtain ⟨v, w, rfl, r, rs⟩ := rs.cons_inv
  obtain ⟨v', w, rfl, r', rs⟩ := rs.cons_inv
  obtain ⟨v'', w, rfl, r'', rs⟩ := rs.cons_inv
  obtain rfl := rs.nil_inv
  obtain ⟨t, rfl⟩ := r.int_inv
  obtain ⟨u, rfl⟩ := r'.int_inv
  obtain ⟨u', rfl⟩ := r''.int_inv
  refine PySem.call_range_3 hd0 (wpAny_items_nil ?_) (.inl hpl)
  have st1 : Step c s₁ { s₁ with heap := s₁.heap.push { cls := .type "range", data := .fields #[.int a t, .int b u, .int d u'] }, toks := s₁.toks } := Step.push' st.inv _
  refine call_list_range at_.room.1 (Heap.get?_push_size _ rfl) (rangeSmall hk (by omega) ha hb hd) hk (by omega) fun h' tk acc c' hold hlist hits => ?_
  have st2 := (st.trans st1).trans (Step.of st1.inv (h' := h') (tk := tk) hold)
  have hlim : lim = 1048576 := rfl
  refine ⟨_, acc.toList, rfl, ?_, ⟨c', by simpa using hlist⟩, ?_, ?_, st2⟩
  · exact (st.trans st1).gone at_.inv (Heap.get?_none_of_le (Nat.le_refl _))
  · have := hits.1; simp; omega
  · have key : ∀ (P' : Addr → Prop) (m : Nat) (vs : List Value), vs.length = m → ∀ j0 : Nat, (∀ (j : Nat) (v : Value), vs[j]? = some v → ∃ t, v = Value.int (a + (j0 + j : Nat) * d) t) → Reps P' h' ((List.range m).map fun (i : Nat) => V.int (a + (j0 + i : Nat) * d)) vs := by
      intro P' m
      induction m with
      | zero => intro vs hl j0 _; cases vs with
        | nil => exact Reps.nil
        | cons v vs => simp at hl
      | succ m ih =>
        intro vs hl j0 hv
        cases vs with
        | nil => simp at hl
        | cons v vs =>
          rw [List.range_succ_eq_map, List.map_cons, List.map_map]
          obtain ⟨t0, e0⟩ := hv 0 v (by simp)
          refine Reps.cons (by rw [e0]; exact rep_int) ?_
          have := ih vs (by simpa using hl) (j0 + 1) (fun j v' e => by
            obtain ⟨t', e'⟩ := hv (j + 1) v' (by simpa using e)
            exact ⟨t', by rw [e', show j0 + (j + 1) = j0 + 1 + j by omega]⟩)
          rw [show (List.range m).map ((fun (i : Nat) => V.int (a + (j0 + i : Nat) * d)) ∘ Nat.succ) = (List.range m).map fun (i : Nat) => V.int (a + (j0 + 1 + i : Nat) * d) from ?_]
          · exact this
          refine List.map_congr_left fun i _ => ?_
          show V.int (a + ((j0 + (i + 1) : Nat) : Int) * d) = V.int (a + ((j0 + 1 + i : Nat) : Int) * d)
          rw [show j0 + 1 + i = j0 + (i + 1) by omega]
    have := fun P' => key P' k acc.toList (by simpa using hits.1) 0 (fun j v e => by
      obtain ⟨t', e'⟩ := hits.2 j v (by simpa using e)
      exact ⟨t', by rw [e']; simp⟩)
    unfold steps
    simpa using this _
end

theorem steps_length {a d : Int} {k : Nat} : (steps a d k).length = k := by simp [steps]
theorem steps_get {a d : Int} {k i : Nat} (h : i < (steps a d k).length) : (steps a d k)[i] = V.int (a + i * d) := by simp [steps]
section
variable {c : Cx} {n : Nat} {env : Env} {ρ : Frame} {own : Own} {Q : Post}

theorem WX.range1 {x : Str} {p rp rpos pos : Pos} {e : Expr} {body : List Stmt} {k : Nat} (I : Nat → Frame → Own → Prop) (hk : Var env x) (g : Glo c env "range" (.type "range")) (hns : (starEach [e] env).any (·.1) = false) (he : Evs c n env ρ [e] [.int (k : Int)]) (hk2 : k ≤ 2 ^ 30) (h0 : I 0 ρ own)
    (turn : ∀ i ρ' own', i < k → I i ρ' own' → (∀ a ys, own' ≠ some (x, a, ys)) ∧ WS c n env body ((x, .int (i : Int)) :: ρ') own' { next := I (i + 1), cont := I (i + 1), brk := Q.next, ret := Q.ret })
    (hown : ∀ i ρ' own', I i ρ' own' → ∀ a, (∃ z ys, own' = some (z, a, ys)) → ∃ z ys, own = some (z, a, ys)) (done : ∀ ρ' own', I k ρ' own' → Q.next ρ' own') : WX c n env (.For (.Name x p) (.Call (.Name "range" rp) [e] [] rpos) body [] pos) ρ own Q :=
  WX.for (xs := steps 0 1 k) I (It.range1 g hns he (by omega)) hk h0 (fun i h ρ' own' hI => by
    obtain ⟨h1, h2⟩ := turn i ρ' own' (by rwa [steps_length] at h) hI
    refine ⟨h1, ?_⟩
    rw [steps_get, show (0 : Int) + i * 1 = (i : Int) by omega]
    exact h2) hown (by rw [steps_length]; exact done)

theorem WX.range2 {x : Str} {p rp rpos pos : Pos} {e1 e2 : Expr} {body : List Stmt} {j k : Nat} (I : Nat → Frame → Own → Prop) (hk : Var env x) (g : Glo c env "range" (.type "range")) (hns : (starEach [e1, e2] env).any (·.1) = false) (he : Evs c n env ρ [e1, e2] [.int (j : Int), .int (k : Int)]) (hj : j ≤ 2 ^ 30) (hk2 : k ≤ 2 ^ 30) (h0 : I 0 ρ own)
    (turn : ∀ i ρ' own', i < k - j → I i ρ' own' → (∀ a ys, own' ≠ some (x, a, ys)) ∧ WS c n env body ((x, .int ((j + i : Nat) : Int)) :: ρ') own' { next := I (i + 1), cont := I (i + 1), brk := Q.next, ret := Q.ret })
    (hown : ∀ i ρ' own', I i ρ' own' → ∀ a, (∃ z ys, own' = some (z, a, ys)) → ∃ z ys, own = some (z, a, ys)) (done : ∀ ρ' own', I (k - j) ρ' own' → Q.next ρ' own') : WX c n env (.For (.Name x p) (.Call (.Name "range" rp) [e1, e2] [] rpos) body [] pos) ρ own Q := by
  have e : ((k : Int) - j).toNat = k - j := by omega
  exact WX.for (xs := steps j 1 (k - j)) I (e ▸ It.range2 g hns he (by omega) (by omega)) hk h0 (fun i h ρ' own' hI => by
    obtain ⟨h1, h2⟩ := turn i ρ' own' (by rwa [steps_length] at h) hI
    refine ⟨h1, ?_⟩
    rw [steps_get, show (j : Int) + i * 1 = ((j + i : Nat) : Int) by omega]
    exact h2) hown (by rw [steps_length]; exact done)
end


theorem codeHd_of {h : Heap} {c P : Addr} {ps : Array Value} (hc : h.IsCode c P ps) (ht : h.TableAt c P ps) : CodeHd h c P := CodeHd.of hc ht

/-- a table written on -/
theorem Step.table {c : Cx} {s : Shared} (I : Inv c s) {t : Tab} (ht : t ∈ c.tabs) (hu : ∀ t' ∈ c.tabs, t'.P = t.P → t' = t) {h' : Heap} {tk : Nat} (hx : ∀ b o, b ≠ t.P → s.heap.get? b = some o → h'.get? b = some o) (hn : TabOk t h') :
    Step c s { s with heap := h', toks := tk } := by
  have ne : ∀ {b : Addr} {o : Obj}, s.heap.get? b = some o → (o.cls ≠ .none ∨ ∀ f, o.data ≠ .fields f) → b ≠ t.P := fun e h => I.tab_ne e h t ht
  have ns : ∀ {a : Addr} {m : Str → Option Value}, s.heap.Ns a m → h'.Ns a m := fun ⟨o, es, ep, e, hd, r⟩ => ⟨o, es, ep, hx _ _ (ne e (.inr (by rw [hd]; nofun))) e, hd, r⟩
  refine ⟨fun b o e h => hx b o (h t ht) e, rfl, ?_, fun _ _ e => e⟩
  exact {
    k := fun a o e => hx a o (ne (I.k a o e) (by
      have h2 := List.all_eq_true.mp c.kt (a, o) (mem_of_lookupK e)
      by_cases h : o.cls = Value.none
      · by_cases h' : ∃ f, o.data = Data.fields f
        · exfalso
          obtain ⟨f, hf⟩ := h'
          dsimp only at h2
          rw [h, hf] at h2
          cases h2
        · exact .inr fun f hf => h' ⟨f, hf⟩
      · exact .inl h)) (I.k a o e)
    g := ns I.g
    b := ns I.b
    nl := let ⟨mc, a, r⟩ := I.nl; ⟨mc, ns a, r⟩
    gens := I.gens
    tab := fun t' ht' => by
      by_cases h : t'.P = t.P
      · rw [hu t' ht' h]; exact hn
      · obtain ⟨⟨o, vs, file, tf, flags, tg, inF, text, tt, e, hc, hd, r⟩, ps, eP, r2⟩ := I.tab t' ht'
        refine ⟨⟨o, vs, file, tf, flags, tg, inF, text, tt, hx _ _ (ne e (.inl (by rw [hc]; nofun))) e, hc, hd, r⟩, ps, hx _ _ h eP, ?_⟩
        rcases r2 with r2 | ⟨c', o', vs', tk', r2, q1, q2, q3⟩
        · exact .inl r2
        · exact .inr ⟨c', o', vs', tk', r2, hx _ _ (ne q1 (.inl (by rw [q2]; nofun))) q1, q2, q3⟩
    bmain := let ⟨bm, ob, a1, a2, a3, a4, r⟩ := I.bmain; ⟨bm, ob, a1, a2, hx _ _ (ne a3 (.inl (by rw [a4]; nofun))) a3, a4, r⟩ }

/-- a code object of that name -/
noncomputable def CodeObjAt (h : Heap) (cd : Addr) (q : Str) : Prop := ∃ oc vs t, h.get? cd = some oc ∧ oc.cls = .type "code" ∧ oc.data = .fields vs ∧ vs[1]? = some (.str q t)
/-- what a nested def makes -/
noncomputable def NestMade (c : Cx) (s : Shared) (name qual : Str) (params : Arguments) (body : List Stmt) (scope : Scope) (clos : List (Str × Addr)) (v : Value) (s' : Shared) : Prop :=
  Step c s s' ∧ ∃ F doc pm cd ctv, v = .ref F ∧ s.heap.get? F = none ∧ s'.heap.get? F = some { cls := .type "function", data := .func (fnX name qual params body scope clos .none .none doc pm none (.ref cd) ctv) } ∧ CodeObjAt s'.heap cd qual

theorem nestMake {c : Cx} {M : Model} {A : Around} {E : Value → Shared → Prop} {s : Shared} {name qual : Str} {params : Arguments} {body : List Stmt} {scope : Scope} {env : Env} {pos : Pos} {firstLine : Nat} {clos : List (Str × Addr)} {t : Tab}
    (I : Inv c s) (ht : t ∈ c.tabs) (hu : ∀ t' ∈ c.tabs, t'.P = t.P → t' = t) (hcode : env.code = .ref t.c) (hgl : env.globals = mainGlobals) (hcl : closureFor scope env = pure clos) (hl : pos.line = t.line) (hc : pos.col = t.col) (hq : qual = t.qual) :
    wpAny M A (makeFunction name qual params (.stmts body) scope env [] [] [] pos firstLine) (NestMade c s name qual params body scope clos) E s := by
  obtain ⟨C, ps, hP, hps⟩ := I.tab t ht
  obtain ⟨bm, ob, b1, b2, b3, b4, b5, b6⟩ := I.bmain
  have hgP : mainGlobals ≠ t.P := fun q => by
    obtain ⟨o, es, ep, e, hd, _⟩ := I.g
    rw [q, hP] at e; cases e; cases hd
  have hbP : bm ≠ t.P := I.tab_ne b3 (.inl (by rw [b4]; nofun)) t ht
  have hbG : bm ≠ mainGlobals := fun q => by
    obtain ⟨o, es, ep, e, hd, _⟩ := I.g
    rw [q, e] at b3; cases b3; rw [hd] at b6; cases b6
  have hb : s.heap.BuiltinsAt c.mg t.P := ⟨bm, ob, b1, b2, hbG, hbP, b3, b4, b5, b6⟩
  rcases hps with rfl | ⟨c', o', vs', tk', rfl, q1, q2, q3, q4⟩
  · have fin : ∀ (c' : Addr) (ctv doc pm : Value) (h' : Heap) (tk : Tok), Heap.ExtBut t.P s.heap h' → s.heap.objs.size ≤ h'.objs.size → h'.CodeRec (.ref c') qual → h'.TableAt t.c t.P (#[] ++ #[rawInt pos.line, rawInt pos.col, .ref c']) → (∃ P', h'.TableAt c' P' #[]) →
        NestMade c s name qual params body scope clos (.ref h'.objs.size) { s with heap := h'.push { cls := .type "function", data := .func (fnX name qual params body scope clos .none .none doc pm none (.ref c') ctv) }, toks := tk } := by
      intro c' ctv doc pm h' tk hx hsz hrec htab ⟨P', htab'⟩
      obtain ⟨c₂, oc, vs, tq, e2, hoc, hd, hv⟩ := hrec
      cases e2
      obtain ⟨⟨oc', vs', e1, ecls, ed, _⟩, _⟩ := htab'
      rw [hoc] at e1; cases e1
      rw [hd] at ed; cases ed
      have tab : TabOk t h' := by
        refine ⟨?_, _, htab.2, .inr ⟨c', oc, vs, tq, ?_, hoc, ecls, hd, by rw [← hq]; exact hv⟩⟩
        · obtain ⟨o, vs2, file, tf, flags, tg, inF, text, tt, e, hcl, r⟩ := C
          exact ⟨o, vs2, file, tf, flags, tg, inF, text, tt, hx _ _ (I.tab_ne e (.inl (by rw [hcl]; nofun)) t ht) e, hcl, r⟩
        · rw [hl, hc]; rfl
      have st1 : Step c s { s with heap := h', toks := tk } := Step.table I ht hu hx tab
      have st2 := Step.push st1.inv { cls := .type "function", data := .func (fnX name qual params body scope clos .none .none doc pm none (.ref c') ctv) }
      refine ⟨st1.trans st2, _, doc, pm, c', ctv, rfl, Heap.get?_none_of_le hsz, Heap.get?_push_size _ rfl, oc, vs, tq, Heap.get?_push_of_some _ hoc, ecls, hd, hv⟩
    rw [makeFunction_eq]
    simp only [List.zip_nil_right, List.filterMap_nil, List.isEmpty_nil, if_true, pure_bind]
    unfold makeTail
    rw [hcl, hgl]
    refine wpAny_bind (wpAny_pure ?_)
    cases clos with
    | nil =>
      simp only [List.isEmpty_nil, if_true]
      refine wpAny_bind (wpAny_pure ?_)
      refine wpAny_bind (wpAny_functionCodeX hcode (C.code hP trivial) (C.tab hP) rfl fun c' h' tk hx hge hlt _ hrec htb hP' => ?_)
      have hg' := I.g.extBut hx hgP
      refine wpAny_bind (wpAny_builtinsFor hg' b1 b2 (hx _ _ hbP b3) b4 b5 b6 ?_)
      refine wpAny_bind (wpAny_nsGet hg' ?_)
      have f := fun ctv doc pm tk => fin c' ctv doc pm h' tk hx (Nat.le_of_lt (Nat.lt_of_le_of_lt hge hlt)) hrec htb (let ⟨P', _, _, x⟩ := hP'; ⟨P', x⟩)
      cases hdoc : docOf body with
      | none => exact wpAny_bind (wpAny_pure (wpAny_newObj_type (f _ _ _ _) (by size_fits)))
      | some t => exact wpAny_bind (wpAny_mkText (wpAny_newObj_type (f _ _ _ _) (by size_fits)))
    | cons q r =>
      simp only [List.isEmpty_cons, Bool.false_eq_true, if_false]
      refine wpAny_bind (wpAny_newTextTuple ?_)
      refine wpAny_bind (wpAny_functionCodeX hcode ((C.keeps fun b o e => Heap.get?_push_of_some _ e).code (Heap.get?_push_of_some _ hP) trivial) ((C.keeps fun b o e => Heap.get?_push_of_some _ e).tab (Heap.get?_push_of_some _ hP)) rfl fun c' h' tk hx hge hlt _ hrec htb hP' => ?_)
      have hg' := (I.g.push _).extBut hx hgP
      have hx' : Heap.ExtBut t.P s.heap h' := fun b o hb' e => hx b o hb' (Heap.get?_push_of_some _ e)
      have hge' : s.heap.objs.size ≤ c' := Nat.le_trans (by rw [Heap.size_push]; omega) hge
      refine wpAny_bind (wpAny_builtinsFor hg' b1 b2 (hx' _ _ hbP b3) b4 b5 b6 ?_)
      refine wpAny_bind (wpAny_nsGet hg' ?_)
      have f := fun ctv doc pm tk => fin c' ctv doc pm h' tk hx' (Nat.le_of_lt (Nat.lt_of_le_of_lt hge' hlt)) hrec htb (let ⟨P', _, _, x⟩ := hP'; ⟨P', x⟩)
      cases hdoc : docOf body with
      | none => exact wpAny_bind (wpAny_pure (wpAny_newObj_type (f _ _ _ _) (by size_fits)))
      | some t => exact wpAny_bind (wpAny_mkText (wpAny_newObj_type (f _ _ _ _) (by size_fits)))
  · refine makeFunction_hit (cv := .ref c') hcl hgl I.g hcode C hP trivial ?_ hb fun ctv doc h' tk hk hsz => ?_
    · show (if ((t.line : Int) == pos.line && (t.col : Int) == pos.col) = true then some (Value.ref c') else _) = _
      rw [hl, hc]; simp
    · have st1 : Step c s { s with heap := h', toks := tk } := Step.of I hk
      have st2 := Step.push st1.inv { cls := .type "function", data := .func (fnX name qual params body scope clos .none .none doc ((c.mg "__name__").getD .none) none (.ref c') ctv) }
      exact ⟨st1.trans st2, _, doc, _, c', ctv, rfl, Heap.get?_none_of_le hsz, Heap.get?_push_size _ rfl, o', vs', tk', Heap.get?_push_of_some _ (hk _ _ q1), q2, q3, hq ▸ q4⟩


theorem noTabs_append {a b : Frag} (h : noTabs a = true) (h1 : noTabs b = true) : noTabs (a ++ b) = true := by
  unfold noTabs at h h1 ⊢
  rw [List.all_append, h, h1]; rfl
/-- the same, and some objects more that are known -/
noncomputable def Cx.ext (c : Cx) (fr : Frag) (h : noTabs fr = true) : Cx := { c with K := fr ++ c.K, kt := noTabs_append h c.kt }

theorem lookup_append_K {fr K : Frag} {a : Addr} {o : Obj} (h : (fr ++ K).lookup a = some o) : fr.lookup a = some o ∨ (fr.lookup a = none ∧ K.lookup a = some o) := by
  rw [List.lookup_append] at h
  cases e : fr.lookup a with
  | some x => rw [e] at h; exact .inl h
  | none => rw [e] at h; exact .inr ⟨rfl, h⟩
theorem lookup_fr {fr K : Frag} {a : Addr} {o : Obj} (h : fr.lookup a = some o) : (fr ++ K).lookup a = some o := by
  rw [List.lookup_append, h]; rfl

section
variable {c : Cx} {fr : Frag} {hfr : noTabs fr = true}
theorem Inv.ext {s : Shared} (I : Inv c s) (h : fr.In s.heap) : Inv (c.ext fr hfr) s :=
  { k := fun a o e => by
      rcases lookup_append_K e with e | ⟨_, e⟩
      · exact h a o e
      · exact I.k a o e
    g := I.g, b := I.b, nl := I.nl, gens := I.gens, tab := I.tab, bmain := I.bmain }
/-- the objects known more do not stand in the way of those known before -/
noncomputable def Agree (c : Cx) (fr : Frag) : Prop := ∀ a o o', fr.lookup a = some o → c.K.lookup a = some o' → o = o'
theorem Agree.of {s : Shared} (I : Inv c s) (h : fr.In s.heap) : Agree c fr := fun a o o' e e' => by
  have h1 := h a o e
  have h2 := I.k a o' e'
  rw [h1] at h2; cases h2; rfl
theorem Inv.unext (ag : Agree c fr) {s : Shared} (I : Inv (c.ext fr hfr) s) : Inv c s :=
  { k := fun a o e => by
      cases h : fr.lookup a with
      | some o' => rw [← ag a o' o h e]; exact I.k a o' (lookup_fr h)
      | none => exact I.k a o (by show (fr ++ c.K).lookup a = some o; rw [List.lookup_append, h]; exact e)
    g := I.g, b := I.b, nl := I.nl, gens := I.gens, tab := I.tab, bmain := I.bmain }
theorem Step.unext (ag : Agree c fr) {s s' : Shared} (st : Step (c.ext fr hfr) s s') : Step c s s' := ⟨st.old, st.os, st.inv.unext ag, st.gens⟩
theorem At.ext {n : Nat} {A : Around} {P : Addr → Prop} {s : Shared} (a : At c n A P s) (h : fr.In s.heap) : At (c.ext fr hfr) n A P s := ⟨a.room, a.inv.ext h, a.fresh⟩
end

noncomputable abbrev envN (scope : Scope) (L : Addr) (q : Str) (f : Addr) (cd : Value) (clos : List (Str × Addr)) : Env := newEnv scope L mainGlobals clos (q ++ ".<locals>.") (some f) cd none builtinsNs

/-- a cell that is known to hold v -/
noncomputable def CellK (c : Cx) (a : Addr) (v : Value) : Prop := ∃ o, c.K.lookup a = some o ∧ o.data = .cell (some v)

theorem CellK.var {c : Cx} {s : Shared} {env : Env} {x : Str} {a : Addr} {v : Value} (h : CellK c a v) (I : Inv c s) (hk : env.kindOf x = some .free) (hx : (x == ("__classdict__" : Str)) = false) (ha : env.cells.lookup x = some a) : VarAt s.heap env x v :=
  let ⟨o, e, d⟩ := h; .inr ⟨.inr ⟨hk, hx⟩, a, ha, o, I.k a o e, d⟩

theorem nest_call {c : Cx} {n : Nat} {F : Addr} {o : Obj} {name q : Str} {params : Arguments} {body : List Stmt} {scope : Scope} {clos : List (Str × Addr)} {dV kV doc pm cd ct : Value} {an : Option Addr} {ps : List Str} {ys : List V} {ρf : Frame} {own : Own}
    (ho : c.K.lookup F = some o) (hd : o.data = .func (fnX name q params body scope clos dV kV doc pm an cd ct)) (hcode : ∀ h, c.K.In h → h.CodeRec cd q)
    (hbind : ∀ vs : List Value, vs.length = ps.length → bindArgs (fnX name q params body scope clos dV kV doc pm an cd ct) ⟨vs, []⟩ = pure (ps.zip vs)) (hps : ∀ x ∈ ps, scope.names.lookup x = some .local) (hnd : ps.Nodup) (hcell : ∀ y ∈ scope.names, y.2 ≠ .cell)
    (hlen : ys.length = ps.length) (hfree : ∀ x a, scope.names.lookup x = some .free → clos.lookup x = some a → ∃ v, CellK c a v)
    (hρf : ∀ x y, ρf.lookup x = some y → scope.names.lookup x = some .free ∧ (x == ("__classdict__" : Str)) = false ∧ ∃ a v, clos.lookup x = some a ∧ CellK c a v ∧ ∀ P h, Rep P h y v)
    {P : Addr → Prop} {A : Around} {E : Value → Shared → Prop} {s₀ s : Shared} {vs : List Value} {Q : Value → Shared → Prop} (at_ : At c (n + 1) A P s₀) (st : Step c s₀ s) (rs : Reps (Bar P own) s.heap ys vs)
    (hown : ∀ x a zs, own = some (x, a, zs) → s₀.heap.get? a = none ∧ (scope.names.lookup x = some .free ∧ (x == ("__classdict__" : Str)) = false ∧ ∃ b, clos.lookup x = some b ∧ CellK c b (.ref a)) ∧ ∃ ws : List Value, s.heap.PlainList a ws.toArray ∧ ws.length ≤ lim ∧ Reps (Bar P own) s.heap zs ws)
    (h : ∀ L E' s₁, At c n (A.deeper (envN scope L q F cd clos)) P s₀ → s.heap.get? L = none → St c s₀ P (envN scope L q F cd clos) (ps.zip ys ++ ρf) own s₁ → (∀ b o, s.heap.get? b = some o → s₁.heap.get? b = some o) → (∀ (i : Nat) (x : GenState), s.gens[i]? = some x → s₁.gens[i]? = some x) → (∀ z, scope.names.lookup z ≠ some .cell) →
      wpAny (model c.prog c.w) (A.deeper (envN scope L q F cd clos)) (execs body (envN scope L q F cd clos)) (fun f s' => Q (match f with | .ret v => v | _ => .none) s') E' s₁)
    (hco : scope.isCoroutine = false := by rfl) (hgen : scope.isGenerator = false := by rfl) (hk : scope.kind = .function := by rfl) :
    wpAny (model c.prog c.w) A (PySem.call (.ref F) vs) Q E s := by
  have hlv : vs.length = ps.length := rs.length.trans hlen
  have I := st.inv
  refine wpAny_call (codeAny_call_function (by have := at_.room.2.1; have : recursionLimit = 1000 := rfl; omega) (I.k _ _ ho) hd hco hgen rfl (hcode _ I.k) ?_)
  rw [hbind vs hlv]
  refine wpAny_pure (wpAny_newFunctionEnv hcell (fun x hx => ?_) (fun h' hn hs => ?_) hk)
  · have : x.1 ∈ ps := by
      have := List.mem_map_of_mem (f := (·.1)) hx
      rwa [zip_names hlv] at this
    exact hps _ this
  · have keep : ∀ b o, s.heap.get? b = some o → h'.get? b = some o := fun b o e => hs.extBut b o (Nat.ne_of_lt (Heap.lt_size e)) (Heap.get?_push_of_some _ e)
    have st1 : Step c s { s with heap := h', toks := s.toks + (ps.zip vs).length } := Step.of I keep
    refine ⟨st1.inv.nl, codeAny_func ?_⟩
    have hnone : s.heap.get? s.heap.objs.size = none := Heap.get?_none_of_le (Nat.le_refl _)
    have hnone0 : s₀.heap.get? s.heap.objs.size = none := st.gone at_.inv hnone
    have nocell : ∀ x, scope.names.lookup x ≠ some .cell := fun x e => hcell (x, .cell) (mem_of_lookup e) rfl
    have hname : ((ps.zip vs).map (·.1)).Nodup := by rw [zip_names hlv]; exact hnd
    have at1 : At c n (A.deeper (envN scope s.heap.objs.size q F cd clos)) P s₀ := ⟨⟨at_.room.1, by have := at_.room.2.1; show A.depth + 1 + 10 * n < 900; omega, by have := at_.room.2.2; show A.units + 3 + 100 * n < 9000; omega⟩, at_.inv, at_.fresh⟩
    have rev : ∀ x v, (ps.zip vs).lookup x = some v → (ps.zip vs).reverse.lookup x = some v := by
      have key : ∀ (l : List (Str × Value)) (x : Str) (v : Value), (l.map (·.1)).Nodup → l.lookup x = some v → l.reverse.lookup x = some v := by
        intro l
        induction l with
        | nil => intro x v _ e; cases e
        | cons p r ih =>
          intro x v hd e
          rw [List.map_cons, List.nodup_cons] at hd
          rw [List.reverse_cons, List.lookup_append]
          rw [List.lookup_cons] at e
          cases hx : x == p.1 with
          | true =>
            rw [hx] at e; cases e
            obtain rfl := beq_iff_eq.mp hx
            have : r.reverse.lookup p.1 = none := by
              cases e : r.reverse.lookup p.1 with
              | none => rfl
              | some u =>
                have := mem_of_lookup_some e
                exact absurd (List.mem_map.mpr ⟨_, List.mem_reverse.mp this, rfl⟩) hd.1
            rw [this, List.lookup_cons, hx]; rfl
          | false => rw [hx] at e; rw [ih x v hd.2 e]; rfl
      exact fun x v e => key _ x v hname e
    have XS : St c s₀ P (envN scope s.heap.objs.size q F cd clos) (ps.zip ys ++ ρf) own { s with heap := h', toks := s.toks + (ps.zip vs).length } := {
      step := st.trans st1
      eok := { fk := hk, gl := rfl, bu := rfl, loc0 := hnone0, cell0 := fun x a e _ => absurd e (nocell x), inj := fun x z a e _ _ => absurd e (nocell x) }
      frame := ⟨hk, rfl, rfl, fun x z e => by
        rcases lookup_append' e with e | ⟨_, e⟩
        · obtain ⟨v, hv, r⟩ := zip_lookup rs e
          refine ⟨v, .inl ⟨?_, _, hn, rev x v hv⟩, st1.rep I r⟩
          have := List.mem_map_of_mem (f := (·.1)) (mem_of_lookup_some hv)
          rw [zip_names hlv] at this
          exact hps x this
        · obtain ⟨e1, e2, a, v, e3, e4, e5⟩ := hρf x z e
          exact ⟨v, e4.var st1.inv e1 e2 e3, e5 _ _⟩⟩
      ns := ⟨_, hn⟩
      cellv := fun x a hx e => by
        rcases hx with hx | hx
        · exact absurd hx (nocell x)
        · obtain ⟨v, oc, e1, e2⟩ := hfree x a hx e
          exact ⟨_, oc, st1.inv.k a oc e1, e2⟩
      own := fun x a zs e => by
        obtain ⟨h0, ⟨e1, e2, b, e3, e4⟩, ws, hl, hw, hr⟩ := hown x a zs e
        exact ⟨h0, e4.var st1.inv e1 e2 e3, ws, plainList_step I st1 hl, hw, st1.reps I hr⟩ }
    exact h s.heap.objs.size _ _ at1 hnone XS keep (fun _ _ e => e) nocell

section
variable {c : Cx} {n : Nat} {env : Env} {ρ : Frame} {own : Own} {Q : Post}

theorem BinV.shr_int {a k : Int} (hk : 0 ≤ k) : BinV c n .RShift (.int a) (.int k) (.int (a.fdiv (2 ^ k.toNat))) := .mk fun P A E s va vb at_ ra rb => by
  obtain ⟨t, rfl⟩ := ra.int_inv; obtain ⟨u, rfl⟩ := rb.int_inv
  exact PyProof.Rows.rshift_int hk ⟨rep_int, Step.toks at_.inv⟩
theorem BinV.shl_int {a k : Int} (hk : 0 ≤ k) (hs : (Builtin.Int.intBits a : Int) + k ≤ 2 ^ 27) : BinV c n .LShift (.int a) (.int k) (.int (a * 2 ^ k.toNat)) := .mk fun P A E s va vb at_ ra rb => by
  obtain ⟨t, rfl⟩ := ra.int_inv; obtain ⟨u, rfl⟩ := rb.int_inv
  exact PyProof.Rows.lshift_int hk hs ⟨rep_int, Step.toks at_.inv⟩
theorem BinV.xor_int {a b : Int} : BinV c n .BitXor (.int a) (.int b) (.int (Builtin.bitXor a b)) := .mk fun P A E s va vb at_ ra rb => by
  obtain ⟨t, rfl⟩ := ra.int_inv; obtain ⟨u, rfl⟩ := rb.int_inv
  exact PyProof.Rows.xor_int ⟨rep_int, Step.toks at_.inv⟩

theorem CallV.divmod {a b : Int} (hb : b ≠ 0) (hs : b.natAbs < 1073741824) : CallV c n (.builtin "divmod") [.int a, .int b] (.tup [.int (a.fdiv b), .int (a.fmod b)]) := .mk fun P A E s vs at_ rs => by
  obtain ⟨v, w, rfl, r, rs⟩ := rs.cons_inv
  obtain ⟨v', w, rfl, r', rs⟩ := rs.cons_inv
  obtain rfl := rs.nil_inv
  obtain ⟨t, rfl⟩ := r.int_inv
  obtain ⟨u, rfl⟩ := r'.int_inv
  exact PyProof.Rows.divmod_int hb (rep_new_tup at_ (vs := [.int (a.fdiv b) s.toks, .int (a.fmod b) (s.toks + 1)]) (Reps.cons rep_int (Reps.cons rep_int Reps.nil)) (by show 2 ≤ 1048576; decide)) (.inl (PyProof.noPylong_small hs))

theorem meth_int {i : Int} : ∀ (P : Addr → Prop) (s : Shared) (va : Value), Rep P s.heap (.int i) va → s.TypeIs va "int" ∧ ∀ b, va = .ref b → ∃ ob, s.heap.get? b = some ob ∧ ob.dict = none := fun P s va r => by
  obtain ⟨t, rfl⟩ := r.int_inv
  exact ⟨typeIs_int _ _ _, fun b e => nomatch e⟩
theorem MethV.bit_length {a : Int} : MethV c n (.int a) "bit_length" [] (.int (Builtin.Int.intBits a)) :=
  ⟨"int", "int.bit_length", PySem.F.plainAttrs_int, PySem.F.slot_int_bit_length, PySem.F.type_int_bit_length, meth_int, .mk fun P A E s vs at_ rs => by
    obtain ⟨v, w, rfl, r, rs⟩ := rs.cons_inv
    obtain rfl := rs.nil_inv
    obtain ⟨t, rfl⟩ := r.int_inv
    exact PyProof.Rows.call_int_bit_length ⟨rep_int, Step.toks at_.inv⟩⟩

theorem It.reversed {p pos : Pos} {e : Expr} {xs : List V} (g : Glo c env "reversed" (.type "reversed")) (hns : (starEach [e] env).any (·.1) = false) (h : Evs c n env ρ [e] [.list xs]) : It c n env ρ (.Call (.Name "reversed" p) [e] [] pos) xs.reverse := .mk fun P A E s at_ F =>
  wpAny_Call_Name_kw (ev_glo at_.inv F g (callWith_mach rfl (backTo_any _ hns) (evalArgs_trees hns (wpAny_mono (h.run P A E s pos at_ F) (fun vs s₁ ⟨rs, st⟩ => by
    obtain ⟨v, w, rfl, r, rs⟩ := rs.cons_inv
    obtain rfl := rs.nil_inv
    obtain ⟨a, vs, rfl, hP, hl, hlen, rs⟩ := r.list_inv
    obtain ⟨k, ho⟩ := id hl
    have hne : a ≠ s₁.heap.objs.size := Nat.ne_of_lt (Heap.lt_size ho)
    have hsz : vs.toArray.size = xs.reverse.length := by rw [List.size_toArray, List.length_reverse]; exact rs.length
    have st1 : Step c s₁ { s₁ with heap := s₁.heap.push (revObj a ((vs.toArray.size : Int) - 1)) } := Step.push st.inv _
    have h0 : (s₁.heap.push (revObj a ((vs.toArray.size : Int) - 1))).IsRevIter s₁.heap.objs.size a ((vs.toArray.size : Int) - 1 - ((0 : Nat) : Int)) := by
      refine ⟨_, Heap.get?_push_size _ rfl, rfl, ?_⟩
      rw [show ((vs.toArray.size : Int) - 1 - ((0 : Nat) : Int)) = (vs.toArray.size : Int) - 1 by omega]
      rfl
    refine call_reversed_list hl.isList ((Walks.listRev (prog := c.prog) (w := c.w) at_.room.1 s₁.heap.objs.size a hne vs.toArray).self 0 _ _ _ ⟨Nat.zero_le _, h0, hl.isList.push _⟩ ?_)
    refine ⟨st.trans st1, s₁.heap.objs.size, [s₁.heap.objs.size, a], [s₁.heap.objs.size], (fun i h => i ≤ vs.toArray.size ∧ h.IsRevIter s₁.heap.objs.size a ((vs.toArray.size : Int) - 1 - (i : Int)) ∧ h.IsList a vs.toArray), rfl, fun A' hA => ?_, ⟨Nat.zero_le _, h0, hl.isList.push _⟩, ?_, ?_, ?_, ?_, fun i h hst => (let ⟨_, ⟨o, e1, e2, _⟩, _⟩ := hst; ⟨o, _, e1, e2, by decide⟩)⟩
    · have W := Walks.listRev (prog := c.prog) (w := c.w) (A := A') hA s₁.heap.objs.size a hne vs.toArray
      generalize hN : xs.reverse.length = N at hsz ⊢
      rw [show Walks c.prog c.w A' s₁.heap.objs.size [s₁.heap.objs.size, a] [s₁.heap.objs.size] N = Walks c.prog c.w A' s₁.heap.objs.size [s₁.heap.objs.size, a] [s₁.heap.objs.size] vs.toArray.size by rw [hsz]]
      refine walks_weaken W fun i v hi hv => ?_
      rw [hsz, ← hN] at hi
      have rs' := (st1.reps st.inv rs).ex.reverse
      obtain ⟨v', hv', rv⟩ := rs'.get (List.getElem?_eq_getElem hi)
      refine ⟨_, List.getElem?_eq_getElem hi, ?_⟩
      have hi' : i < vs.length := by rw [hN, ← hsz] at hi; simpa using hi
      rw [List.getElem?_reverse hi'] at hv'
      rw [List.getElem?_toArray, List.size_toArray, hv'] at hv
      cases hv
      exact rv
    · intro b hb
      simp only [List.mem_cons, List.not_mem_nil, or_false] at hb
      show b < (s₁.heap.push _).objs.size
      rw [Heap.size_push]
      rcases hb with rfl | rfl
      · exact Nat.lt_succ_self _
      · exact Nat.lt_succ_of_lt (Heap.lt_size ho)
    · intro b hb
      simp only [List.mem_cons, List.not_mem_nil, or_false] at hb
      subst hb
      exact st.gone at_.inv (Heap.get?_none_of_le (Nat.le_refl _))
    · intro b hb i h o hst ho'
      simp only [List.mem_cons, List.not_mem_nil, or_false] at hb
      subst hb
      obtain ⟨_, ⟨o2, e1, e2, _⟩, _⟩ := hst
      rw [ho'] at e1; cases e1
      exact ⟨mut_cls e2 (by decide), fun q => by rcases q.1 with q | q <;> rw [e2] at q <;> exact absurd (Value.type.inj q) (by decide)⟩
    · intro b hb
      simp only [List.mem_cons, List.not_mem_nil, or_false] at hb
      rcases hb with rfl | rfl
      · exact .inl (by simp)
      · exact .inr ⟨hP, _, Heap.get?_push_of_some _ ho, .inl rfl, _, _, rfl⟩) fun _ _ e => e))))
end

section
variable {c : Cx} {n : Nat} {env : Env} {ρ : Frame} {own : Own} {s₀ s : Shared} {P : Addr → Prop} {A : Around}

theorem Put.st' {x : Str} {v : Value} {s' : Shared} (p : Put c s₀ s env own x v s') (X : St c s₀ P env ρ own s) (hx : ∀ a ys, own ≠ some (x, a, ys)) (hr : ρ.lookup x = none) : St c s₀ P env ρ own s' where
  step := p.step
  eok := X.eok
  frame := ⟨X.frame.fk, X.frame.gl, X.frame.bu, fun z w e => by
      obtain ⟨u, h1, h2⟩ := X.frame.var z w e
      exact ⟨u, p.rest z u (fun q => by rw [q, hr] at e; cases e) h1, h2.mono (fun _ h => h) fun a o _ e hq => p.seq a o hq e⟩⟩
  ns := p.ns
  cellv := p.cellv
  own := fun x' a ys e => by
      obtain ⟨h1, h2, vs, ⟨q, h3⟩, h4, h5⟩ := X.own x' a ys e
      exact ⟨h1, p.rest _ _ (fun q => hx a ys (q ▸ e)) h2, vs, ⟨q, p.seq _ _ ⟨.inl rfl, _, _, rfl⟩ h3⟩, h4, h5.mono (fun _ h => h) fun a o _ e hq => p.seq a o hq e⟩

/-- the def in a def -/
theorem nest_def {name : Str} {params : Arguments} {body : List Stmt} {scope : Scope} {pos : Pos} {clos : List (Str × Addr)} {t : Tab} {E : Value → Shared → Prop} {Q : Flow → Shared → Prop} (I₀ : Inv c s₀) (X : St c s₀ P env ρ own s)
    (ht : t ∈ c.tabs) (hu : ∀ t' ∈ c.tabs, t'.P = t.P → t' = t) (hcode : env.code = .ref t.c) (hcl : closureFor scope env = pure clos) (hl : pos.line = t.line) (hc : pos.col = t.col) (hq : qualnameIn env name name = t.qual)
    (hd0 : params.defaults = []) (hk0 : params.kw_defaults = []) (ha : annTrees params none env = []) (hk : env.kindOf name = some .cell) {cA : Addr} (hcA : env.cells.lookup name = some cA) (hx : ∀ a ys, own ≠ some (name, a, ys)) (hr : ρ.lookup name = none)
    (h : ∀ F doc pm cd ctv fo s', St c s₀ P env ρ own s' → Kp c env own s own s' → s.heap.get? F = none → s'.heap.get? F = some fo → fo.cls = .type "function" → fo.data = .func (fnX name (qualnameIn env name name) params body scope clos .none .none doc pm none (.ref cd) ctv) →
      CodeObjAt s'.heap cd (qualnameIn env name name) → s'.heap.IsCell cA (some (.ref F)) → (∀ z w, z ≠ name → VarAt s.heap env z w → VarAt s'.heap env z w) → Q .next s') :
    wpAny (model c.prog c.w) A (exec (.FunctionDef name params body [] none [] scope none name pos) env) Q E s := by
  refine nestDef_K hd0 hk0 ha (wpAny_mono (nestMake X.step.inv ht hu hcode X.eok.gl hcl hl hc hq) (fun v s₁ ⟨st, F, doc, pm, cd, ctv, e, hF, hFo, hcr⟩ => ?_) fun _ _ e => e)
  subst e
  have X1 := X.stepTo st
  have hFs : s₀.heap.get? F = none := X.step.gone I₀ hF
  obtain ⟨v₀, hc0⟩ := X1.cellv name cA (.inl hk) hcA
  refine wpAny_mono (X1.putName I₀ (v := .ref F) (.inr ⟨hk, by rw [hcA]; rfl⟩)) (fun _ s₂ p => ?_) fun _ _ e => e
  have X2 := p.st' X1 hx hr
  have ne : ∀ b o, s₁.heap.get? b = some o → (∀ es k, o.data ≠ .dict es k) → (∀ w, o.data ≠ .cell w) → (∀ its k, o.data ≠ .seq its k) → (∀ t ∈ c.tabs, b ≠ t.P) → s₂.heap.get? b = some o := fun b o e h1 h2 h3 h4 => p.kp.keep b o (fun q => by
      obtain ⟨m, hm⟩ := X1.ns
      obtain ⟨es, k, d⟩ := ns_get hm (q ▸ e)
      exact h1 es k d) (fun z k1 k2 => by
      obtain ⟨w, hw⟩ := X1.cellv z b (.inl k1) k2
      exact h2 _ (isCell_get hw e)) (fun z ys q => by
      obtain ⟨_, _, vs, ⟨k, e'⟩, _⟩ := X1.own z b ys q
      rw [e] at e'; cases e'; exact h3 _ _ rfl) h4 e
  refine h F doc pm cd ctv _ s₂ X2 ((Kp.step st).trans p.kp) hF (ne _ _ hFo nofun nofun nofun (st.inv.tab_ne hFo (.inl nofun))) rfl rfl ?_ ?_ ?_
  · obtain ⟨oc, vs, tq, hoc, hcl, hd, hv⟩ := hcr
    exact ⟨oc, vs, tq, ne _ _ hoc (by rw [hd]; nofun) (by rw [hd]; nofun) (by rw [hd]; nofun) (st.inv.tab_ne hoc (.inl (by rw [hcl]; nofun))), hcl, hd, hv⟩
  · have := p.var
    rcases this with ⟨k, _⟩ | ⟨_, a, ha, hc⟩
    · rw [hk] at k; cases k
    · rw [hcA] at ha; cases ha; exact hc
  · exact fun z w hz hv => p.rest z w hz (hv.step st X.step.inv)
end

section
variable {c : Cx} {n : Nat} {env : Env} {ρ : Frame} {own : Own} {Q : Post}

theorem CallV.nest {F : Addr} {o : Obj} {name q : Str} {params : Arguments} {body : List Stmt} {scope : Scope} {clos : List (Str × Addr)} {dV kV doc pm cd ct : Value} {an : Option Addr} {ps : List Str} {ys : List V} {ρf : Frame} {y : V}
    (ho : c.K.lookup F = some o) (hd : o.data = .func (fnX name q params body scope clos dV kV doc pm an cd ct)) (hcode : ∀ h, c.K.In h → h.CodeRec cd q)
    (hbind : ∀ vs : List Value, vs.length = ps.length → bindArgs (fnX name q params body scope clos dV kV doc pm an cd ct) ⟨vs, []⟩ = pure (ps.zip vs)) (hps : ∀ x ∈ ps, scope.names.lookup x = some .local) (hnd : ps.Nodup) (hcell : ∀ y ∈ scope.names, y.2 ≠ .cell)
    (hlen : ys.length = ps.length) (hfree : ∀ x a, scope.names.lookup x = some .free → clos.lookup x = some a → ∃ v, CellK c a v)
    (hρf : ∀ x y, ρf.lookup x = some y → scope.names.lookup x = some .free ∧ (x == ("__classdict__" : Str)) = false ∧ ∃ a v, clos.lookup x = some a ∧ CellK c a v ∧ ∀ P h, Rep P h y v)
    (hws : ∀ L, WS c n (envN scope L q F cd clos) body (ps.zip ys ++ ρf) none { next := fun _ _ => y = .none, ret := fun z => z = y })
    (hco : scope.isCoroutine = false := by rfl) (hgen : scope.isGenerator = false := by rfl) (hk : scope.kind = .function := by rfl) : CallV c (n + 1) (.ref F) ys y := .mk fun P A E s vs at_ rs => by
  refine nest_call (own := none) (s₀ := s) ho hd hcode hbind hps hnd hcell hlen hfree hρf at_ (Step.refl at_.inv) (rs.monoP fun a h => Bar.none_iff.mpr h) nofun (fun L E' s₁ at1 _ X keep _ _ => ?_) hco hgen hk
  refine wpAny_mono ((hws L).run P _ E' s s₁ at1 X) (fun fl s' hf => ?_) fun _ _ e => e
  cases fl with
  | next => obtain ⟨ρ', own', hq, X', _⟩ := hf; subst hq; exact ⟨by unfold Rep; rfl, X'.step⟩
  | brk => obtain ⟨ρ', own', hq, _⟩ := hf; exact hq.elim
  | cont => obtain ⟨ρ', own', hq, _⟩ := hf; exact hq.elim
  | ret v => obtain ⟨z, hq, r, st'⟩ := hf; subst hq; exact ⟨r, st'⟩

/-- a call of the function that a known cell holds -/
theorem Ev.callK {x : Str} {p pos : Pos} {es : List Expr} {a F : Addr} {o : Obj} {fd : FuncData} {ys : List V} {y : V} (hk : env.kindOf x = some .cell ∨ (env.kindOf x = some .free ∧ (x == ("__classdict__" : Str)) = false)) (hd : (x == ("__debug__" : Str)) = false) (ha : env.cells.lookup x = some a) (hc : CellK c a (.ref F)) (ho : c.K.lookup F = some o) (hf : o.data = .func fd)
    (hns : (starEach es env).any (·.1) = false) (h1 : Evs c n env ρ es ys) (h2 : CallV c n (.ref F) ys y) : Ev c n env ρ (.Call (.Name x p) es [] pos) y := .mk fun P A E s at_ Fr =>
  wpAny_Call_Name_kw (wpAny_Name (load_var Fr.fk (let ⟨o, e, d⟩ := hc; .inr ⟨hk, a, ha, o, at_.inv.k a o e, d⟩) (callWith_function (o := o) (fd := fd) (evalArgs_trees hns (wpAny_mono (h1.run P A E s pos at_ Fr) (fun vs s₁ ⟨rs, st⟩ =>
    ⟨⟨st.inv.k _ _ ho, hf⟩, wpAny_mono (h2.run P A E s₁ vs (at_.step st) rs) (fun v s₂ ⟨r, st2⟩ => ⟨r, st.trans st2⟩) fun _ _ e => e⟩) fun _ _ e => e)))) hd)

/-- an int of a known list -/
theorem Ev.subK {x : Str} {p pos : Pos} {i : Expr} {a D : Addr} {vs : List Value} {k j : Nat} {d : Int} {t : Tok} (hk : env.kindOf x = some .free) (hx : (x == ("__classdict__" : Str)) = false) (hd : (x == ("__debug__" : Str)) = false) (ha : env.cells.lookup x = some a) (hc : CellK c a (.ref D))
    (hD : c.K.lookup D = some { cls := .type "list", data := .seq vs.toArray k }) (hi : Ev c n env ρ i (.int (j : Int))) (hj : vs[j]? = some (.int d t)) (hl : vs.length ≤ lim) (hnot : ∀ lo hi st q, i ≠ .Slice lo hi st q) : Ev c n env ρ (.Subscript (.Name x p) i pos) (.int d) := .mk fun P A E s at_ F => by
  rw [eval_Subscript]
  refine wpAny_bind (wpAny_Name (load_var F.fk (hc.var at_.inv hk hx ha) ?_) hd)
  refine wpAny_bind (wpAny_holding (wpAny_mono ((EvIx.val hi).run P A E s at_ F) (fun iv s₂ ⟨r2, st2⟩ => wpAny_bind (wpAny_standAt ?_)) fun _ _ e => e))
  obtain ⟨u, rfl⟩ := Rep.int_inv (P := P) (h := s₂.heap) r2
  have hli : s₂.heap.IsList D vs.toArray := ⟨_, st2.inv.k _ _ hD, rfl, _, rfl⟩
  refine wpAny_bind ?_
  rw [getitemInPython_of_ne hli.typeIs.not_modules]
  refine wpAny_bind (wpAny_specialOf hli.typeIs list_getitem_lookup ?_)
  refine wpAny_pure ?_
  obtain ⟨l, hl'⟩ := subscripted_is i (.ref D) (.int j u)
  rw [hl']
  have hjl : j < vs.length := (List.getElem?_eq_some_iff.mp hj).1
  have hlm : lim = 1048576 := rfl
  refine wpAny_bind (operate_any (wpAny_getItem_list hli (by omega) (by omega) (x := .int d t) (by simpa using hj) (wpAny_bind (wpAny_letTemporaryGo (wpAny_pure ⟨rep_int, st2⟩)))))
end

theorem frag_of {h : Heap} {l : Frag} (hh : ∀ p ∈ l, h.get? p.1 = some p.2) : l.In h ∧ ∀ p ∈ l, l.lookup p.1 = some p.2 := by
  have h1 : l.In h := fun a o e => hh (a, o) (mem_of_lookupK e)
  refine ⟨h1, fun p hp => ?_⟩
  have key : ∀ (l : Frag), p ∈ l → ∃ o, l.lookup p.1 = some o := by
    intro l
    induction l with
    | nil => intro h; cases h
    | cons q r ih =>
      intro h
      rw [List.lookup_cons]
      cases hq : p.1 == q.1 with
      | true => exact ⟨_, rfl⟩
      | false =>
        rcases List.mem_cons.mp h with h | h
        · rw [h] at hq; simp at hq
        · exact ih h
  obtain ⟨o, e⟩ := key l hp
  have := h1 p.1 o e
  rw [hh p hp] at this
  rw [e, this]
theorem noTabs_of {l : Frag} (h : ∀ p ∈ l, p.2.cls ≠ .none ∨ ∀ f, p.2.data ≠ .fields f) : noTabs l = true := by
  unfold noTabs
  rw [List.all_eq_true]
  intro p hp
  obtain ⟨a, oc, od, dt, sl⟩ := p
  rcases h _ hp with h | h
  · cases oc <;> first | rfl | exact absurd rfl h
  · cases dt <;> first | (cases oc <;> rfl) | exact absurd rfl (h _)

theorem TruV.list {c : Cx} {n : Nat} {l : List V} : TruV c n (.list l) (!l.isEmpty) := .mk fun P A E s va at_ ra => by
  obtain ⟨a, vs, rfl, hP, hl, hlen, rs⟩ := ra.list_inv
  have hlm : lim = 1048576 := rfl
  refine wpAny_truthy_list hl.isList (by rw [List.size_toArray]; omega) ⟨?_, Step.toks at_.inv⟩
  have hlen := rs.length
  cases l <;> cases vs <;> simp at hlen <;> simp

theorem closureFor_all {scope : Scope} {env : Env} (h : (scope.names.all fun p => p.2 != .free || (env.cells.lookup p.1).isSome) = true) : closureFor scope env = pure (closOf env.cells scope.names []) :=
  closureFor_is fun p hp hf => by
    have := List.all_eq_true.mp h p hp
    rw [hf] at this
    simpa using this

/-! ints -/
theorem intBits_le {x : Int} {m : Nat} (h0 : 0 ≤ x) (h : x < 2 ^ m) : Builtin.Int.intBits x ≤ m := by
  unfold Builtin.Int.intBits
  split
  · omega
  · rename_i hx
    have hx' : x ≠ 0 := by simpa using hx
    have : x.natAbs < 2 ^ m := by
      have h2 : ((2 ^ m : Nat) : Int) = (2 : Int) ^ m := by simp
      omega
    have := (Nat.log2_lt (by omega)).mpr this
    omega

noncomputable def digVal (ds : List Int) (n : Nat) : Nat → Nat → Int
  | _, 0 => 0
  | L, k + 1 => ds.getD L 0 + 2 ^ n * digVal ds n (L + 1) k

theorem digVal_add (ds : List Int) (n : Nat) : ∀ (j L k : Nat), digVal ds n L (j + k) = digVal ds n L j + 2 ^ (n * j) * digVal ds n (L + j) k
  | 0, L, k => by simp [digVal]
  | j + 1, L, k => by
    rw [show j + 1 + k = (j + k) + 1 by omega, digVal, digVal, digVal_add ds n j (L + 1) k, show L + 1 + j = L + (j + 1) by omega, Int.mul_add, ← Int.mul_assoc, show n * (j + 1) = n + n * j by rw [Nat.mul_succ]; omega, Int.pow_add]
    omega
theorem digVal_bound (ds : List Int) (n : Nat) (h : ∀ d ∈ ds, 0 ≤ d ∧ d < 2 ^ n) : ∀ (k L : Nat), 0 ≤ digVal ds n L k ∧ digVal ds n L k < 2 ^ (n * k)
  | 0, L => by simp [digVal]
  | k + 1, L => by
    obtain ⟨h1, h2⟩ := digVal_bound ds n h k (L + 1)
    have hp : (0 : Int) < 2 ^ n := Int.pow_pos (by decide)
    have hd : 0 ≤ ds.getD L 0 ∧ ds.getD L 0 < 2 ^ n := by
      rw [List.getD_eq_getElem?_getD]
      cases e : ds[L]? with
      | none => exact ⟨Int.le_refl _, hp⟩
      | some d => exact h d (List.mem_of_getElem? e)
    unfold digVal
    constructor
    · have := Int.mul_nonneg (Int.le_of_lt hp) h1
      omega
    · rw [show n * (k + 1) = n + n * k by rw [Nat.mul_succ]; omega, Int.pow_add]
      have : 2 ^ n * digVal ds n (L + 1) k ≤ 2 ^ n * (2 ^ (n * k) - 1) := Int.mul_le_mul_of_nonneg_left (by omega) (Int.le_of_lt hp)
      rw [Int.mul_sub] at this
      omega


structure Eff (c : Cx) (s₀ : Shared) (P : Addr → Prop) (D : Addr) (s : Shared) (ys' : List V) (s' : Shared) : Prop where
  step : Step c s₀ s'
  keep : ∀ b o, b ≠ D → (∀ t ∈ c.tabs, b ≠ t.P) → s.heap.get? b = some o → s'.heap.get? b = some o
  gens : ∀ (i : Nat) (x : GenState), s.gens[i]? = some x → s'.gens[i]? = some x
  list : ∃ vs' : List Value, s'.heap.PlainList D vs'.toArray ∧ vs'.length ≤ lim ∧ Reps (fun b => P b ∧ b ≠ D) s'.heap ys' vs'

/-- a call that changes one list -/
structure EffV (c : Cx) (n : Nat) (F D : Addr) (zs ys ys' : List V) : Prop where
  run : ∀ P A E s₀ s (vs ws : List Value), At c n A P s₀ → Step c s₀ s → s₀.heap.get? D = none → s.heap.PlainList D vs.toArray → vs.length ≤ lim → Reps (fun b => P b ∧ b ≠ D) s.heap ys vs → Reps (fun b => P b ∧ b ≠ D) s.heap zs ws →
    wpAny (model c.prog c.w) A (PySem.call (.ref F) ws) (fun v s' => v = .none ∧ Eff c s₀ P D s ys' s') E s

theorem EffV.up {c : Cx} {m n : Nat} {F D : Addr} {zs ys ys' : List V} (h : EffV c m F D zs ys ys') (hm : m ≤ n) : EffV c n F D zs ys ys' := .mk fun P A E s₀ s vs ws a => h.run P A E s₀ s vs ws (a.mono hm)

section
variable {c : Cx} {n : Nat} {env : Env} {ρ : Frame} {own : Own} {Q : Post}

theorem St.effect {s₀ s s' : Shared} {P : Addr → Prop} {x : Str} {D : Addr} {ys ys' : List V} (X : St c s₀ P env ρ (some (x, D, ys)) s) (e : Eff c s₀ P D s ys' s') :
    St c s₀ P env ρ (some (x, D, ys')) s' ∧ Kp c env (some (x, D, ys)) s (some (x, D, ys')) s' := by
  obtain ⟨h0, hv, vs0, hl0, _, _⟩ := X.own x D ys rfl
  obtain ⟨vs', hl, hn, hr⟩ := e.list
  have nt : ∀ {b : Addr} {o : Obj}, s.heap.get? b = some o → (o.cls ≠ .none ∨ ∀ f, o.data ≠ .fields f) → ∀ t ∈ c.tabs, b ≠ t.P := fun e h => X.step.inv.tab_ne e h
  have kns : ∀ {a : Addr} {m : Str → Option Value}, s.heap.Ns a m → s'.heap.Ns a m := fun hm => by
    obtain ⟨o, es, ep, e', hd, r⟩ := id hm
    exact ⟨o, es, ep, e.keep _ o (fun q => list_not_ns hl0 (q ▸ hm)) (nt e' (.inr (by rw [hd]; nofun))) e', hd, r⟩
  have kc : ∀ {a : Addr} {v : Option Value}, s.heap.IsCell a v → s'.heap.IsCell a v := fun hc => by
    obtain ⟨o, e', d⟩ := id hc
    exact ⟨o, e.keep _ o (fun q => list_not_cell hl0 (q ▸ hc)) (nt e' (.inr (by rw [d]; nofun))) e', d⟩
  have kv : ∀ {z : Str} {w : Value}, VarAt s.heap env z w → VarAt s'.heap env z w := fun h => by
    rcases h with ⟨q, m, hm, e⟩ | ⟨q, b, hb, hc⟩
    · exact .inl ⟨q, m, kns hm, e⟩
    · exact .inr ⟨q, b, hb, kc hc⟩
  have ks : ∀ a o, Bar P (some (x, D, ys)) a → s.heap.get? a = some o → SeqObj o → s'.heap.get? a = some o := fun a o hp e' hq => e.keep a o (Bar.of_some.mp hp).2 (nt e' (.inl (by rcases hq.1 with hc | hc <;> rw [hc] <;> nofun))) e'
  refine ⟨{
    step := e.step
    eok := X.eok
    frame := ⟨X.frame.fk, X.frame.gl, X.frame.bu, fun z y q => let ⟨w, h1, h2⟩ := X.frame.var z y q; ⟨w, kv h1, h2.mono Bar.sub ks⟩⟩
    ns := let ⟨m, h⟩ := X.ns; ⟨m, kns h⟩
    cellv := fun z a h q => let ⟨v, h⟩ := X.cellv z a h q; ⟨v, kc h⟩
    own := fun x' a' ys'' q => by cases q; exact ⟨h0, kv hv, vs', hl, hn, hr.monoP fun b hb => Bar.of_some.mpr hb⟩ }, ?_⟩
  refine ⟨fun b o _ _ h3 h4 q => e.keep b o (fun q => h3 x ys (q ▸ rfl)) h4 q, fun x' a' ys'' q => by cases q; exact .inl ⟨x, ys, rfl⟩, fun b o q => ?_, e.gens⟩
  by_cases hb : b = D
  · obtain ⟨k, e'⟩ := hl; exact ⟨_, hb ▸ e'⟩
  · by_cases h4 : ∃ t ∈ c.tabs, b = t.P
    · obtain ⟨t, ht, rfl⟩ := h4
      obtain ⟨_, ps, e', _⟩ := e.step.inv.tab t ht
      exact ⟨_, e'⟩
    · exact ⟨o, e.keep b o hb (fun t ht q => h4 ⟨t, ht, q⟩) q⟩

theorem WX.eff {x f : Str} {fp cpos pos : Pos} {es : List Expr} {a F D : Addr} {o : Obj} {fd : FuncData} {ys zs ys' : List V} (hk : env.kindOf f = some .cell ∨ (env.kindOf f = some .free ∧ (f == ("__classdict__" : Str)) = false)) (hd : (f == ("__debug__" : Str)) = false) (ha : env.cells.lookup f = some a) (hc : CellK c a (.ref F)) (ho : c.K.lookup F = some o) (hf : o.data = .func fd)
    (hns : (starEach es env).any (·.1) = false) (h1 : Evs c n env ((x, .list ys) :: ρ) es zs) (hz : ∀ z ∈ zs, z.flat = true) (h2 : EffV c n F D zs ys ys') (hq : Q.next ρ (some (x, D, ys'))) (hi : interactive env = false := by rfl) :
    WX c n env (.Expr (.Call (.Name f fp) es [] cpos) pos) ρ (some (x, D, ys)) Q := .mk fun P A E s₀ s at_ X => by
  refine wpAny_Expr ?_ hi
  refine wpAny_Call_Name_kw (wpAny_Name (load_var X.eok.fk (let ⟨o, e, d⟩ := hc; .inr ⟨hk, a, ha, o, X.step.inv.k a o e, d⟩) (callWith_function (o := o) (fd := fd) (evalArgs_trees hns (wpAny_mono (h1.run P A E s cpos (X.at at_) (X.full at_)) (fun ws s₁ ⟨rs, st⟩ => ?_) fun _ _ e => e)))) hd)
  refine ⟨⟨st.inv.k _ _ ho, hf⟩, ?_⟩
  have X1 := X.stepTo st
  obtain ⟨h0, _, vs, hl, hn, hr⟩ := X1.own x D ys rfl
  refine wpAny_mono (h2.run P A E s₀ s₁ vs ws at_ X1.step h0 hl hn (hr.monoP fun b hb => Bar.of_some.mp hb) (rs.flats hz)) (fun v s₂ ⟨e, ef⟩ => ?_) fun _ _ e => e
  subst e
  obtain ⟨X2, k2⟩ := X1.effect ef
  exact ⟨ρ, _, hq, X2, (Kp.step st).trans k2⟩
end

/-- the same state, one list out of sight -/
noncomputable def hide1 (s : Shared) (D : Addr) : Shared := { s with heap := hideAll s.heap [D] }
theorem hide1_get {s : Shared} {D b : Addr} {o : Obj} (e : s.heap.get? b = some o) (h : b ≠ D) : (hide1 s D).heap.get? b = some o := hideAll_get _ e (by simpa using h)
theorem hide1_none {s : Shared} {D : Addr} : (hide1 s D).heap.get? D = none := hideAll_none _ (by simp)
theorem of_hide1 {s : Shared} {D b : Addr} {o : Obj} (e : (hide1 s D).heap.get? b = some o) : s.heap.get? b = some o := of_hideAll _ e

theorem Inv.hide {c : Cx} {s : Shared} (I : Inv c s) {D : Addr} {vs : Array Value} (hl : s.heap.PlainList D vs) (hK : c.K.lookup D = none) : Inv c (hide1 s D) := by
  obtain ⟨k, eD⟩ := hl
  have ns : ∀ {a : Addr} {m : Str → Option Value}, s.heap.Ns a m → (hide1 s D).heap.Ns a m := fun ⟨o, es, ep, e, hd, r⟩ => ⟨o, es, ep, hide1_get e (fun q => by rw [q, eD] at e; cases e; cases hd), hd, r⟩
  exact {
    k := fun a o e => hide1_get (I.k a o e) (fun q => by rw [q, hK] at e; cases e)
    g := ns I.g
    b := ns I.b
    nl := let ⟨mc, a, r⟩ := I.nl; ⟨mc, ns a, r⟩
    gens := I.gens
    tab := fun t ht => by
      obtain ⟨⟨o, vs, file, tf, flags, tg, inF, text, tt, e, hc, hd, r⟩, ps, eP, r2⟩ := I.tab t ht
      refine ⟨⟨o, vs, file, tf, flags, tg, inF, text, tt, hide1_get e (fun q => by rw [q, eD] at e; cases e; cases hd), hc, hd, r⟩, ps, hide1_get eP (fun q => by rw [q, eD] at eP; cases eP), ?_⟩
      rcases r2 with r2 | ⟨c', o', vs', tk', r2, q1, q2, q3⟩
      · exact .inl r2
      · exact .inr ⟨c', o', vs', tk', r2, hide1_get q1 (fun q => by rw [q, eD] at q1; cases q1; exact absurd (Value.type.inj q2) (by decide)), q2, q3⟩
    bmain := let ⟨bm, ob, a1, a2, a3, a4, r⟩ := I.bmain; ⟨bm, ob, a1, a2, hide1_get a3 (fun q => by rw [q, eD] at a3; cases a3; exact absurd (Value.type.inj a4) (by decide)), a4, r⟩ }

/-! digits -/
noncomputable def setDigs (m : Nat) : List Int → Nat → Nat → Nat → List Int
  | ys, _, _, 0 => ys
  | ys, x, L, k + 1 => setDigs m (ys.set L ((x % 2 ^ m : Nat) : Int)) (x / 2 ^ m) (L + 1) k

theorem setDigs_length {m : Nat} : ∀ (k : Nat) (ys : List Int) (x L : Nat), (setDigs m ys x L k).length = ys.length
  | 0, _, _, _ => rfl
  | k + 1, ys, x, L => by rw [setDigs, setDigs_length k]; simp
theorem setDigs_split {m : Nat} : ∀ (j : Nat) (ys : List Int) (x L k : Nat), setDigs m ys x L (j + k) = setDigs m (setDigs m ys (x % 2 ^ (j * m)) L j) (x / 2 ^ (j * m)) (L + j) k
  | 0, ys, x, L, k => by simp [setDigs]
  | j + 1, ys, x, L, k => by
    have e1 : (x % 2 ^ ((j + 1) * m)) % 2 ^ m = x % 2 ^ m := Nat.mod_mod_of_dvd _ (Nat.pow_dvd_pow 2 (by rw [Nat.succ_mul]; omega))
    have e2 : (x % 2 ^ ((j + 1) * m)) / 2 ^ m = (x / 2 ^ m) % 2 ^ (j * m) := by
      rw [show (j + 1) * m = m + j * m by rw [Nat.succ_mul]; omega, Nat.pow_add, Nat.mod_mul_right_div_self]
    have e3 : x / 2 ^ ((j + 1) * m) = x / 2 ^ m / 2 ^ (j * m) := by
      rw [show (j + 1) * m = m + j * m by rw [Nat.succ_mul]; omega, Nat.pow_add, Nat.div_div_eq_div_mul]
    rw [show j + 1 + k = (j + k) + 1 by omega, setDigs, setDigs_split j, show L + 1 + j = L + (j + 1) by omega, e3]
    congr 1
    rw [setDigs, e1, e2]
theorem setDigs_get {m : Nat} : ∀ (k : Nat) (ys : List Int) (x L i : Nat), i < ys.length → (setDigs m ys x L k)[i]? = some (if L ≤ i ∧ i < L + k then ((x / 2 ^ ((i - L) * m) % 2 ^ m : Nat) : Int) else ys.getD i 0)
  | 0, ys, x, L, i, h => by
    rw [setDigs, if_neg (by omega)]; exact getElem?_getD 0 h
  | k + 1, ys, x, L, i, h => by
    rw [setDigs, setDigs_get k _ _ _ _ (by simpa using h)]
    congr 1
    by_cases h1 : L = i
    · subst h1
      rw [if_neg (by omega), if_pos (by omega)]
      simp [List.getD_eq_getElem?_getD, h]
    · by_cases h2 : L + 1 ≤ i ∧ i < L + 1 + k
      · rw [if_pos h2, if_pos (by omega), Nat.div_div_eq_div_mul, ← Nat.pow_add, show m + (i - (L + 1)) * m = (i - L) * m by
          rw [show i - L = (i - (L + 1)) + 1 by omega, Nat.succ_mul]; omega]
      · rw [if_neg h2, if_neg (by omega)]
        simp [List.getD_eq_getElem?_getD, h1]
noncomputable def digs (m x K : Nat) : List Int := (List.range K).map fun (i : Nat) => ((x / 2 ^ (i * m) % 2 ^ m : Nat) : Int)
theorem setDigs_all {m x K : Nat} : setDigs m (List.replicate K 0) x 0 K = digs m x K := by
  apply List.ext_getElem?
  intro i
  by_cases h : i < K
  · rw [setDigs_get K _ _ _ _ (by simpa using h), if_pos (by omega)]
    simp [digs, h]
  · rw [List.getElem?_eq_none (by rw [setDigs_length]; simp; omega), List.getElem?_eq_none (by simp [digs]; omega)]

theorem high_bits (x k j : Nat) : (x / 2 ^ k * 2 ^ k).testBit j = (decide (k ≤ j) && x.testBit j) := by
  rw [← Nat.shiftRight_eq_div_pow, ← Nat.shiftLeft_eq, Nat.testBit_shiftLeft]
  by_cases h : k ≤ j
  · simp [h, Nat.testBit_shiftRight]
  · simp [h]
theorem or_high (x k : Nat) : x ||| (x / 2 ^ k * 2 ^ k) = x := by
  apply Nat.eq_of_testBit_eq
  intro j
  rw [Nat.testBit_or, high_bits]
  cases x.testBit j <;> simp
theorem and_high (x k : Nat) : x &&& (x / 2 ^ k * 2 ^ k) = x / 2 ^ k * 2 ^ k := by
  apply Nat.eq_of_testBit_eq
  intro j
  rw [Nat.testBit_and, high_bits]
  cases x.testBit j <;> simp
theorem bitAnd_nat (x y : Nat) : Builtin.bitAnd (x : Int) (y : Int) = ((x &&& y : Nat) : Int) := by
  unfold Builtin.bitAnd
  have h1 : decide (0 ≤ (x : Int)) = true := by simp
  have h2 : decide (0 ≤ (y : Int)) = true := by simp
  rw [h1, h2]
  simp
theorem bitOr_nat (x y : Nat) : Builtin.bitOr (x : Int) (y : Int) = ((x ||| y : Nat) : Int) := by
  unfold Builtin.bitOr Builtin.bitAnd
  have h1 : decide (0 ≤ Builtin.bitNot (x : Int)) = false := by unfold Builtin.bitNot; simp; omega
  have h2 : decide (0 ≤ Builtin.bitNot (y : Int)) = false := by unfold Builtin.bitNot; simp; omega
  rw [h1, h2]
  have hb : ∀ z : Int, Builtin.bitNot (Builtin.bitNot z) = z := fun z => by unfold Builtin.bitNot; omega
  simp only [hb]
  simp
theorem xor_low (x k : Nat) : Builtin.bitXor (x : Int) (((x : Int).fdiv (2 ^ k)) * 2 ^ k) = ((x % 2 ^ k : Nat) : Int) := by
  have e : ((x : Int).fdiv (2 ^ k)) * 2 ^ k = ((x / 2 ^ k * 2 ^ k : Nat) : Int) := by
    rw [Int.fdiv_eq_ediv_of_nonneg _ (by exact Int.pow_nonneg (by decide))]
    simp
  rw [e]
  unfold Builtin.bitXor
  rw [bitOr_nat, bitAnd_nat, or_high, and_high]
  have := Nat.div_add_mod x (2 ^ k)
  rw [Nat.mul_comm] at this
  omega

section
variable {c : Cx} {n : Nat} {env : Env} {ρ : Frame} {own : Own} {Q : Post}

noncomputable abbrev St.alike {c : Cx} {s₀ s : Shared} {P : Addr → Prop} {env : Env} {ρ : Frame} {own : Own} (_ : St c s₀ P env ρ own s) (own' : Own) (s' : Shared) : Prop := St c s₀ P env ρ own' s'
theorem EvNew.of {ρ' : Frame} {e : Expr} {ys : List V} (hs : Has ρ ρ') (hf : ∀ p ∈ ρ', p.2.flat = true) (h : Ev c n env ρ' e (.list ys)) (hy : ∀ y ∈ ys, y.flat = true) : EvNew c n env ρ e ys := .mk fun P A E s at_ F => by
  refine wpAny_mono (h.run (fun b => s.heap.get? b = none) A E s ⟨at_.room, at_.inv, fun a e => e⟩ ⟨F.fk, F.gl, F.bu, fun x y e => ?_⟩) (fun v s' ⟨r, st⟩ => ?_) fun _ _ e => e
  · obtain ⟨v, h1, h2⟩ := F.var x y (hs x y e)
    exact ⟨v, h1, h2.flat (hf _ (mem_of_lookup_some e))⟩
  · obtain ⟨a, vs, rfl, ha, hl, hn, rs⟩ := r.list_inv
    exact ⟨a, vs, rfl, ha, hl, hn, rs.flats hy, st⟩

theorem Eff.of {s₀ s s₁ s' : Shared} {P : Addr → Prop} {x x' : Str} {D : Addr} {ys ys' : List V} (X : St c s₀ P env ρ (some (x', D, ys')) s') (k : Kp c env (some (x, D, ys)) s₁ (some (x', D, ys')) s') (keep : ∀ b o, s.heap.get? b = some o → s₁.heap.get? b = some o) (kg : ∀ (i : Nat) (x : GenState), s.gens[i]? = some x → s₁.gens[i]? = some x)
    (hL : s.heap.get? env.locals = none) (hc : ∀ z, env.kindOf z ≠ some .cell) : Eff c s₀ P D s ys' s' where
  step := X.step
  gens := fun i x e => k.gens i x (kg i x e)
  keep := fun b o hb ht e => k.keep b o (fun q => by rw [q, hL] at e; cases e) (fun z k1 => absurd k1 (hc z)) (fun z ys q => by cases q; exact hb rfl) ht (keep b o e)
  list := by
    obtain ⟨_, _, vs, hl, hn, hr⟩ := X.own x' D ys' rfl
    exact ⟨vs, hl, hn, hr.monoP fun b hb => Bar.of_some.mp hb⟩
end


/-! rules for the text of a generator function -/
section
variable {M : Model} {A : Around} {R : GenEnd} {Y : Protocol} {n : Nat} {s₀ : Shared} {c : Code} {fs : List PySem.Frame} {s : Shared} {env : Env}
  {K : Flow → Sem PySem.Fin} {H : Value → Sem PySem.Fin} {gd : Bool → Bool} {lv : List Value → List Value}

theorem sg_simple {x : Stmt} (h : wpAny M (A.over c fs) (exec x env) (fun f s' => f = .next ∧ Seg M A R Y n s₀ c (K .next) fs s') (fun x s' => Seg M A R Y n s₀ c (H x) fs s') s) :
    Seg M A R Y n s₀ c ((exec x env).wrap K H gd lv) fs s := seg_wrap (wpAny_mono h (fun f s' ⟨e, h'⟩ => by subst e; exact h') fun _ _ e => e)

theorem sg_If {test : Expr} {body orelse : List Stmt} {pos : Pos}
    (h : wpAny M (A.over c fs) (isTrue test env (eval test env)) (fun b s' => if b = true then Seg M A R Y n s₀ c ((execs body env).wrap K H gd lv) fs s' else Seg M A R Y n s₀ c ((execs orelse env).wrap K H gd lv) fs s') (fun x s' => Seg M A R Y n s₀ c (H x) fs s') s) :
    Seg M A R Y n s₀ c ((exec (.If test body orelse pos) env).wrap K H gd lv) fs s := by
  show Seg M A R Y n s₀ c (.at pos fun _ => (isTrue test env (eval test env) >>= fun b => if b = true then execs body env else execs orelse env).wrap K H gd lv) fs s
  refine seg_at (seg_bind_wrap (wpAny_mono h (fun b s' hb => ?_) fun _ _ e => e))
  cases b <;> exact hb

/-- what lies behind a loop's own run -/
noncomputable abbrev ownBack (env : Env) (K : Flow → Sem PySem.Fin) (H : Value → Sem PySem.Fin) (gd : Bool → Bool) (lv : List Value → List Value) : Result → Sem PySem.Fin :=
  fun r => ((match r with | .ok f => (.pure f : Sem Flow) | .error e => .raise e).onRaise fun (x : Value) => do
        if (← field x 1) == Value.none then unsupported "frame.own-activation:exception-without-traceback"
        setFlight x env.frame).wrap K H gd lv

theorem sg_For {target iter : Expr} {body orelse : List Stmt} {pos : Pos} (hs : ∀ x, foldedSetIterable iter env x = pure x)
    (h : wpAny M (A.over c fs) (eval iter env) (fun x s₁ => wpAny M (A.over c fs) (pyIter x) (fun it s₂ => ∀ p, Seg M A R Y n s₀ (.forLoop target it body orelse env) (M.den (.forLoop target it body orelse env))
      (.ret (ownBack env K H gd lv) none (gd false) (lv []) c p [] :: fs) s₂) (fun x s' => Seg M A R Y n s₀ c (H x) fs s') s₁) (fun x s' => Seg M A R Y n s₀ c (H x) fs s') s) :
    Seg M A R Y n s₀ c ((exec (.For target iter body orelse pos) env).wrap K H gd lv) fs s := by
  rw [exec_For]
  show Seg M A R Y n s₀ c (.at pos fun _ => (eval iter env >>= fun v => foldedSetIterable iter env v >>= fun x => standAt iter.pos >>= fun _ => holding [x] (pyIter x) >>= fun it => runOwn (.forLoop target it body orelse env) env).wrap K H gd lv) fs s
  refine seg_at (seg_bind_wrap (wpAny_mono h (fun x s₁ h₁ => ?_) fun _ _ e => e))
  refine seg_bind_wrap (wpAny_of_eq (hs x) ?_)
  refine seg_bind_wrap (wpAny_standAt ?_)
  refine seg_bind_wrap (wpAny_holding (wpAny_mono h₁ (fun it s₂ h₂ => ?_) fun _ _ e => e))
  exact seg_call h₂
end

section
variable {prog : Program} {w : World} {A : Around} {R : GenEnd} {Y : Protocol} {n : Nat} {s₀ : Shared} {fs : List PySem.Frame} {s : Shared} {env : Env}

/-- the turn's end in a for -/
noncomputable abbrev forK (target : Expr) (it : Value) (body orelse : List Stmt) (env : Env) : Flow → Sem PySem.Fin := fun f => match f with
  | .next | .cont => .pure (.again (.forLoop target it body orelse env))
  | .brk => .pure (.done .next)
  | .ret v => .pure (.done (.ret v))
noncomputable abbrev loopH (env : Env) : Value → Sem PySem.Fin := fun e => (do noteFrame e env; theTreesLotGoes e : Sem Unit).wrap (fun _ => .raise e) .raise id id

theorem sg_forLoop {target : Expr} {it : Value} {body orelse : List Stmt} (ht : ∀ v, letOwnedTupleGo target it v = pure ())
    (h : wpAny (model prog w) (A.over (.forLoop target it body orelse env) fs) (pyNext it) (fun r s₁ => match r with
      | none => Seg (model prog w) A R Y n s₀ (.forLoop target it body orelse env) (.pure (.again (.block orelse env))) fs s₁
      | some v => wpAny (model prog w) (A.over (.forLoop target it body orelse env) fs) (assign target env v) (fun _ s₂ =>
          Seg (model prog w) A R Y n s₀ (.forLoop target it body orelse env) ((execs body env).wrap (forK target it body orelse env) (loopH env) id id) fs s₂) (fun x s' => Seg (model prog w) A R Y n s₀ (.forLoop target it body orelse env) (loopH env x) fs s') s₁) (fun x s' => Seg (model prog w) A R Y n s₀ (.forLoop target it body orelse env) (loopH env x) fs s') s) :
    Seg (model prog w) A R Y n s₀ (.forLoop target it body orelse env) ((model prog w).den (.forLoop target it body orelse env)) fs s := by
  show Seg _ A R Y n s₀ _ ((forTurn target it body orelse env).onRaise (fun x => do noteFrame x env; theTreesLotGoes x)) fs s
  rw [Sem.onRaise_eq_wrap]
  have hH : ∀ e, ((do noteFrame e env; theTreesLotGoes e : Sem Unit).bind fun _ => (.raise e : Sem PySem.Fin)) = loopH env e := fun e => Sem.bind_eq_wrap _ _
  rw [Sem.wrap_congr (forTurn target it body orelse env) _ _ (K' := .pure) (H' := loopH env) (fun _ => rfl) hH]
  show Seg _ A R Y n s₀ _ ((standAt target.pos >>= fun _ => (pyNext it).onRaise (fun _ => standAt { target.pos with line := 0 }) >>= fun r => (match r with
    | none => again (.block orelse env)
    | some v => letOwnedTupleGo target it v >>= fun _ => assign target env v >>= fun _ => execs body env >>= fun f => (match f with
      | .next | .cont => again (.forLoop target it body orelse env)
      | .brk => pure (.done .next)
      | .ret v => pure (.done (.ret v))) : Sem PySem.Fin)).wrap .pure (loopH env) id id) fs s
  refine seg_bind_wrap (wpAny_standAt ?_)
  refine seg_bind_wrap (wpAny_onRaise (wpAny_mono h (fun r s₁ h₁ => ?_) fun _ _ e => wpAny_standAt e))
  cases r with
  | none => exact h₁
  | some v =>
    refine seg_bind_wrap (wpAny_of_eq (ht v) ?_)
    refine seg_bind_wrap (wpAny_mono h₁ (fun _ s₂ h₂ => ?_) fun _ _ e => e)
    rw [Sem.bind_eq_wrap', Sem.wrap_wrap]
    refine Eq.mpr (congrArg (fun t => Seg (model prog w) A R Y n s₀ (.forLoop target it body orelse env) t fs s₂) (Sem.wrap_congr (execs body env) _ _ (fun f => ?_) (fun e => ?_))) h₂
    · cases f <;> rfl
    · rfl

theorem sg_block {stmts : List Stmt} {R : GenEnd} {c : Code} (h : Seg (model prog w) A R Y n s₀ (.block [] env) (leafOf (.ok .next)) fs s) :
    Seg (model prog w) A R Y n s₀ c (.pure (.again (.block [] env))) fs s := by
  refine seg_again rfl ?_
  exact h
end


section
variable {prog : Program} {w : World} {A : Around} {E : Value → Shared → Prop} {s : Shared}

/-- what the machine does when a generator has come to its end: the mark of the end, raised -/
theorem gen_ends {α β : Type} {k : α → Sem β} {s : Shared} {Q : β → Shared → Prop} {E : Value → Shared → Prop} (hh : A.handled = none) (h : ∀ (x : Value) (h' : Heap), (∀ b o, s.heap.get? b = some o → h'.get? b = some o) → Shared.TypeIs { s with heap := h' } x "StopIteration" → E x { s with heap := h' }) :
    wpAny (model prog w) A (newExc (.type "StopIteration") [] >>= fun e => (raiseNew e : Sem α) >>= k) Q E s := by
  refine wpAny_bind ?_
  simp only [newExc, newTuple]
  refine wpAny_bind (wpAny_newObj_type ?_ (by size_fits))
  refine wpAny_bind (m := firstArgMember _ _) (wpAny_of_eq (a := Value.none) (by first | rfl | (simp only [firstArgMember]; rfl)) ?_)
  refine wpAny_newObj_type ?_ (by size_fits)
  simp only [raiseNew]
  refine wpAny_bind (wpAny_bind (wpAny_handled ?_))
  rw [hh]
  refine wpAny_throw ?_
  exact h _ _ (fun b o e => Heap.get?_push_of_some _ (Heap.get?_push_of_some _ e)) ⟨_, Heap.get?_push_size _ rfl, rfl⟩

/-- an item of a generator that a def made: what it leaves is bare -/
theorem next_gen {a : Addr} {g n : Nat} {gs : GenState} {Z : Nat → Shared → Shared → Prop} {Y : Protocol} {Q : Option Value → Shared → Prop} (hh : A.handled = none) (hl : s.heap.NoLimit) (hroom : A.depth < recursionLimit)
    (hg : s.heap.IsGen a g) (hgs : s.gens[g]? = some gs) (hgo : gs.Goes (model prog w) A.in1 (fun n s₀ r s₁ => r = .ok (.ret .none) ∧ Z n s₀ s₁) Y n (.send .none) (s.setGen g .running))
    (hY : ∀ v s₁ gs', gs'.bare = true → Y (n - 1) (s.setGen g .running) v s₁ (fun r' s'' => match n with
        | 0 => False
        | m + 1 => gs'.Goes (model prog w) A.in1 (fun n s₀ r s₁ => r = .ok (.ret .none) ∧ Z n s₀ s₁) Y m r' s'') → Q (some v) (s₁.setGen g gs'))
    (hZ : ∀ s₁, Z n (s.setGen g .running) s₁ → ∀ h', (∀ b o, s₁.heap.get? b = some o → h'.get? b = some o) → Q none { s₁.setGen g .finished with heap := h' }) :
    wpAny (model prog w) A (pyNext (.ref a)) Q E s := by
  have asleep : gs.status = .fresh ∨ gs.status = .suspended := by
    cases gs with
    | fresh c => exact .inl rfl
    | suspended k l c p fs cl => exact .inr rfl
    | running => exact hgo.elim
    | finished => exact hgo.elim
  unfold pyNext
  refine wpAny_bind (wpAny_attempt (wpAny_callSpecial?_slot (name := Str.ofString "__next__") hg.typeIs slot_gen_next
    (wpAny_call_entry slot_gen_next hg.typeIs entry_gen_next ?_ (args_gen_next _))))
  show wpAny _ A.in1 (Builtin.Generator.genWake (.ref a) (.send .none)) _ _ s
  unfold Builtin.Generator.genWake
  refine wpAny_bind (wpAny_holding (wpAny_genNumber hg (wpAny_bind (wpAny_genState hgs ?_))))
  have rest : ∀ (k : GenResult → Sem PySem.Fin) {Q' : PySem.Fin → Shared → Prop} {E' : Value → Shared → Prop}, (∀ v s₁, Q (some v) s₁ → wpAny (model prog w) A.in1 (k (.yielded v)) Q' E' s₁) →
      (∀ s₁, (∀ h', (∀ b o, s₁.heap.get? b = some o → h'.get? b = some o) → Q none { s₁ with heap := h' }) → wpAny (model prog w) A.in1 (k (.returned .none)) Q' E' s₁) → wpAny (model prog w) A.in1 (resume g (.send .none) >>= k) Q' E' s := by
    intro k Q' E' hq he
    show wpAny _ A.in1 (.resume g (.send .none) [] _) _ _ s
    refine wpAny_resumeQ hgs hgo (fun x s₁ hx => ?_) (fun v s₁ gs' hb hv => ?_)
    · obtain ⟨rfl, hz⟩ := hx
      exact wpAny_bind (wpAny_pure (he _ fun h' hk => hZ s₁ hz h' hk))
    · exact wpAny_bind (wpAny_pure (hq _ _ (hY v s₁ gs' hb hv)))
  rcases asleep with e | e <;> rw [e]
  · refine wpAny_bind (wpAny_roomToWake hl hroom ?_)
    refine rest _ (fun v s₁ hq => ?_) (fun s₁ hq => ?_)
    · exact wpAny_pure ⟨v, rfl, wpAny_pure hq⟩
    · show wpAny _ A.in1 (if (Value.none == Value.none) = true then _ else _) _ _ _
      rw [if_pos (by rfl)]
      refine gen_ends (A := A.in1) hh fun x h' hk hT => ?_
      exact wpAny_bind (wpAny_isInstance (T := "StopIteration") (b := true) hT isSubtype_stop (wpAny_pure (hq h' hk)))
  · refine wpAny_bind (wpAny_roomToWake hl hroom ?_)
    refine rest _ (fun v s₁ hq => ?_) (fun s₁ hq => ?_)
    · exact wpAny_pure ⟨v, rfl, wpAny_pure hq⟩
    · show wpAny _ A.in1 (if (Value.none == Value.none) = true then _ else _) _ _ _
      rw [if_pos (by rfl)]
      refine gen_ends (A := A.in1) hh fun x h' hk hT => ?_
      exact wpAny_bind (wpAny_isInstance (T := "StopIteration") (b := true) hT isSubtype_stop (wpAny_pure (hq h' hk)))
end


noncomputable def fdAt (K : Frag) (a : Addr) : FuncData := match K.lookup a with
  | some o => (match o.data with
    | .func fd => fd
    | _ => Calls.docDef "" { posonlyargs := [], args := [], vararg := none, kwonlyargs := [], kw_defaults := [], kwarg := none, defaults := [] } [] { kind := .function, names := [], isGenerator := false, isCoroutine := false } .none .none .none)
  | none => Calls.docDef "" { posonlyargs := [], args := [], vararg := none, kwonlyargs := [], kw_defaults := [], kwarg := none, defaults := [] } [] { kind := .function, names := [], isGenerator := false, isCoroutine := false } .none .none .none
noncomputable def stmtsOf (fd : FuncData) : List Stmt := match fd.body with
  | .stmts b => b
  | _ => []
noncomputable def forBody : Stmt → List Stmt
  | .For _ _ b _ _ => b
  | _ => []
noncomputable def forTgt : Stmt → Expr
  | .For t _ _ _ _ => t
  | _ => .Name "" ⟨0, 0, 0, 0⟩

/-- what the generator has changed since: its own names, its iterator, and what is new -/
structure GSince (c : Cx) (C I : Addr) (s₀ s : Shared) : Prop where
  keep : ∀ b o, b ≠ C → b ≠ I → (∀ t ∈ c.tabs, b ≠ t.P) → s₀.heap.get? b = some o → s.heap.get? b = some o
  os : s.os = s₀.os
  inv : Inv c s
  gens : ∀ (i : Nat) (x : GenState), s₀.gens[i]? = some x → s.gens[i]? = some x

theorem GSince.refl {c : Cx} {C I : Addr} {s : Shared} (h : Inv c s) : GSince c C I s s := ⟨fun _ _ _ _ _ e => e, rfl, h, fun _ _ e => e⟩
theorem GSince.step {c : Cx} {C I : Addr} {s₀ s s' : Shared} (x : GSince c C I s₀ s) (st : Step c s s') : GSince c C I s₀ s' :=
  ⟨fun b o h1 h2 h3 e => st.old b o (x.keep b o h1 h2 h3 e) h3, st.os.trans x.os, st.inv, fun i z e => st.gens i z (x.gens i z e)⟩

/-- objects of the generator's own: its names and its iterator -/
noncomputable def Priv (h : Heap) (C I : Addr) : Prop := (∃ m, h.Ns C m) ∧ ∃ l i, h.IsListIter I l i

theorem inv_priv {c : Cx} {s : Shared} (I₀ : Inv c s) {D : Addr → Prop} (hD : ∀ b, D b → (∀ o, c.K.lookup b ≠ some o) ∧ b ≠ mainGlobals ∧ b ≠ builtinsNs ∧ b ≠ cStatics) (hM : ∀ b o, D b → s.heap.get? b = some o → Mut o ∧ o.data ≠ .plain) {h' : Heap} {tk : Nat}
    (k : ∀ b o, ¬ D b → s.heap.get? b = some o → h'.get? b = some o) : Inv c { s with heap := h', toks := tk } := by
  have ns : ∀ {a : Addr} {m : Str → Option Value}, ¬ D a → s.heap.Ns a m → h'.Ns a m := fun hd ⟨o, es, ep, e, r⟩ => ⟨o, es, ep, k _ o hd e, r⟩
  have sk : ∀ b o, s.heap.get? b = some o → (o.cls = .none ∨ o.cls = .type "code") → (∃ f, o.data = .fields f) → h'.get? b = some o := fun b o e h1 h2 => k b o (fun d => (hM b o d e).1 ⟨h1, h2⟩) e
  exact {
    k := fun a o e => k a o (fun d => (hD a d).1 o e) (I₀.k a o e)
    g := ns (fun d => (hD _ d).2.1 rfl) I₀.g
    b := ns (fun d => (hD _ d).2.2.1 rfl) I₀.b
    nl := let ⟨mc, a, r⟩ := I₀.nl; ⟨mc, ns (fun d => (hD _ d).2.2.2 rfl) a, r⟩
    gens := I₀.gens
    tab := fun t ht => by
      obtain ⟨⟨o, vs, file, tf, flags, tg, inF, text, tt, e, hc, hd, r⟩, ps, eP, r2⟩ := I₀.tab t ht
      refine ⟨⟨o, vs, file, tf, flags, tg, inF, text, tt, sk _ _ e (.inr hc) ⟨_, hd⟩, hc, hd, r⟩, ps, sk _ _ eP (.inl rfl) ⟨_, rfl⟩, ?_⟩
      rcases r2 with r2 | ⟨c', o', vs', tk', r2, q1, q2, q3, q4⟩
      · exact .inl r2
      · exact .inr ⟨c', o', vs', tk', r2, sk _ _ q1 (.inr q2) ⟨_, q3⟩, q2, q3, q4⟩
    bmain := let ⟨bm, ob, a1, a2, a3, a4, a5, a6⟩ := I₀.bmain; ⟨bm, ob, a1, a2, k _ _ (fun d => (hM _ _ d a3).2 a6) a3, a4, a5, a6⟩ }


theorem ScopeOk.of {scope : Scope} {env : Env} {ρ : List (Str × V)} (hk : scope.kind = .function) (h1 : (scope.names.all fun y => y.2 != .cell) = true) (h2 : (scope.names.all fun y => y.2 != .local || scope.names.lookup y.1 == some .local) = true)
    (h3 : (scope.names.all fun y => y.2 != .free || ((env.kindOf y.1 == some .cell || env.kindOf y.1 == some .free) && (ρ.lookup y.1).isSome)) = true) : ScopeOk scope env ρ where
  kind := hk
  cell := fun y hy => by simpa using List.all_eq_true.mp h1 y hy
  loc := fun y hy e => by
    have := List.all_eq_true.mp h2 y hy
    rw [e] at this
    simpa using this
  free := fun y hy e => by
    have := List.all_eq_true.mp h3 y hy
    rw [e] at this
    simpa using this

section
variable {c : Cx} {n : Nat} {env : Env} {ρ : List (Str × V)}

/-- a comprehension with one name over a list of items -/
theorem Ev.compItems {α : Type} {elt iter : Expr} {x : Str} {px pos : Pos} {ifs : List Expr} {scope : Scope} {is : List α} {v : α → V} (hi : It c n env ρ iter (is.map v)) (hlen : is.length ≤ lim) (S : ScopeOk scope env ρ) (hx : ∀ C, (cenvOf scope env C).kindOf x = some .local)
    (f : α → Option V) (h : ∀ i ∈ is, ∀ C, TstIf c n (cenvOf scope env C) ((x, v i) :: within scope ρ) ifs (f i).isSome ∧ ∀ y, f i = some y → Ev c n (cenvOf scope env C) ((x, v i) :: within scope ρ) elt y) (hs : ∀ x, foldedSetIterable iter env x = pure x := by intro _; rfl) :
    Ev c n env ρ (.ListComp elt [⟨.Name x px, iter, ifs, 0⟩] scope pos) (.list (is.filterMap f)) := by
  have := Ev.comp (pos := pos) hi (by simpa using hlen) S (outs := is.map f) (All2.map fun i hi => ⟨[(x, v i)], fun C => AsgC.name (hx C) S.kind, fun C => (h i hi C).1, fun y e C => (h i hi C).2 y e⟩) (elt := elt) (tgt := .Name x px) (ifs := ifs) (hs := hs)
  rwa [List.filterMap_map] at this

theorem Ev.compRange {elt e : Expr} {x : Str} {px rp rpos pos : Pos} {ifs : List Expr} {scope : Scope} {k : Nat} (g : Glo c env "range" (.type "range")) (hns : (starEach [e] env).any (·.1) = false) (he : Evs c n env ρ [e] [.int (k : Int)]) (hk : k ≤ 2 ^ 19) (S : ScopeOk scope env ρ) (hx : ∀ C, (cenvOf scope env C).kindOf x = some .local)
    (f : Nat → Option V) (h : ∀ i, i < k → ∀ C, TstIf c n (cenvOf scope env C) ((x, .int (i : Int)) :: within scope ρ) ifs (f i).isSome ∧ ∀ y, f i = some y → Ev c n (cenvOf scope env C) ((x, .int (i : Int)) :: within scope ρ) elt y) :
    Ev c n env ρ (.ListComp elt [⟨.Name x px, .Call (.Name "range" rp) [e] [] rpos, ifs, 0⟩] scope pos) (.list ((List.range k).filterMap f)) := by
  have hlm : lim = 1048576 := rfl
  refine Ev.compItems (v := fun (i : Nat) => V.int (i : Int)) ?_ (by simp; omega) S hx f fun i hi C => h i (List.mem_range.mp hi) C
  have e1 : steps 0 1 k = (List.range k).map fun (i : Nat) => V.int (i : Int) := by unfold steps; simp
  exact e1 ▸ It.range1 g hns he (by omega)
end

section
variable {c : Cx} {n : Nat} {env : Env} {ρ : Frame} {own : Own} {Q : Post}
/-- a comprehension assigned, one name -/
theorem WX.asgItems {α : Type} {elt iter : Expr} {x : Str} {px cpos : Pos} {ifs : List Expr} {scope : Scope} {is : List α} {v : α → V} {t : Str} {p pos : Pos} (hi : It c n env ρ iter (is.map v)) (hlen : is.length ≤ lim) (S : ScopeOk scope env ρ) (hx : ∀ C, (cenvOf scope env C).kindOf x = some .local)
    (f : α → Option V) (h : ∀ i ∈ is, ∀ C, TstIf c n (cenvOf scope env C) ((x, v i) :: within scope ρ) ifs (f i).isSome ∧ ∀ y, f i = some y → Ev c n (cenvOf scope env C) ((x, v i) :: within scope ρ) elt y)
    (hk : Var env t) (ht : ∀ a ys, own ≠ some (t, a, ys)) (hq : Q.next ((t, .list (is.filterMap f)) :: ρ) own)
    (hsw : swapsWith (.ListComp elt [⟨.Name x px, iter, ifs, 0⟩] scope cpos) (some (.Name t p)) pos.line env = pure true := by rfl) (hs : ∀ x, foldedSetIterable iter env x = pure x := by intro _; rfl) :
    WX c n env (.Assign [.Name t p] (.ListComp elt [⟨.Name x px, iter, ifs, 0⟩] scope cpos) pos) ρ own Q := by
  refine WX.assignComp (outs := is.map f) hi (by simpa using hlen) S (All2.map fun i hi => ⟨[(x, v i)], fun C => AsgC.name (hx C) S.kind, fun C => (h i hi C).1, fun y e C => (h i hi C).2 y e⟩) hk ht ?_ hsw hs
  rw [List.filterMap_map]
  exact hq

theorem WX.asgRange {elt e : Expr} {x : Str} {px rp rpos cpos : Pos} {ifs : List Expr} {scope : Scope} {k : Nat} {t : Str} {p pos : Pos} (g : Glo c env "range" (.type "range")) (hns : (starEach [e] env).any (·.1) = false) (he : Evs c n env ρ [e] [.int (k : Int)]) (hk : k ≤ 2 ^ 19) (S : ScopeOk scope env ρ) (hx : ∀ C, (cenvOf scope env C).kindOf x = some .local)
    (f : Nat → Option V) (h : ∀ i, i < k → ∀ C, TstIf c n (cenvOf scope env C) ((x, .int (i : Int)) :: within scope ρ) ifs (f i).isSome ∧ ∀ y, f i = some y → Ev c n (cenvOf scope env C) ((x, .int (i : Int)) :: within scope ρ) elt y)
    (hv : Var env t) (ht : ∀ a ys, own ≠ some (t, a, ys)) (hq : Q.next ((t, .list ((List.range k).filterMap f)) :: ρ) own)
    (hsw : swapsWith (.ListComp elt [⟨.Name x px, .Call (.Name "range" rp) [e] [] rpos, ifs, 0⟩] scope cpos) (some (.Name t p)) pos.line env = pure true := by rfl) :
    WX c n env (.Assign [.Name t p] (.ListComp elt [⟨.Name x px, .Call (.Name "range" rp) [e] [] rpos, ifs, 0⟩] scope cpos) pos) ρ own Q := by
  have hlm : lim = 1048576 := rfl
  refine WX.asgItems (v := fun (i : Nat) => V.int (i : Int)) ?_ (by simp; omega) S hx f (fun i hi C => h i (List.mem_range.mp hi) C) hv ht hq hsw
  have e1 : steps 0 1 k = (List.range k).map fun (i : Nat) => V.int (i : Int) := by unfold steps; simp
  rw [← e1]
  exact It.range1 g hns he (by omega)
end

section
variable {prog : Program} {w : World} {A : Around} {E : Value → Shared → Prop} {R : Result → Shared → Prop} {s : Shared}
variable {elt t1 i1 t2 i2 : Expr} {scope : Scope} {pos : Pos} {it acc : Value} {env : Env}

noncomputable abbrev comp2 (elt t1 i1 t2 i2 : Expr) (scope : Scope) (pos : Pos) : Expr := .ListComp elt [⟨t1, i1, [], 0⟩, ⟨t2, i2, [], 0⟩] scope pos

theorem comp2_turn0 : compTurn (comp2 elt t1 i1 t2 i2 scope pos) 0 it acc env = (standAt i1.pos >>= fun _ => pyNext it >>= fun r => match r with
  | none => pure (.done .next)
  | some v => letOwnedTupleGo t1 it v >>= fun _ => PySem.assign t1 env v >>= fun _ =>
     eval i2 env >>= fun x => standAt i2.pos >>= fun _ => foldedSetIterable i2 env x >>= fun x => holding [x] (pyIter x) >>= fun it2 => runOwn (.compStart (comp2 elt t1 i1 t2 i2 scope pos) 1 it2 acc env) env >>= fun _ => again (.compLoop (comp2 elt t1 i1 t2 i2 scope pos) 0 it acc env)) := by rfl
theorem comp2_turn1 : compTurn (comp2 elt t1 i1 t2 i2 scope pos) 1 it acc env = (standAt i2.pos >>= fun _ => pyNext it >>= fun r => match r with
  | none => pure (.done .next)
  | some v => letOwnedTupleGo t2 it v >>= fun _ => PySem.assign t2 env v >>= fun _ =>
     (eval elt env >>= fun x => call (.builtin "list.append") [acc, x] >>= fun _ => pure ()) >>= fun _ => again (.compLoop (comp2 elt t1 i1 t2 i2 scope pos) 1 it acc env)) := by rfl
theorem mark_none : A.mark none = A := by rfl
theorem comp2_start1
    (h0 : codeAny (model prog w) A (.compLoop (comp2 elt t1 i1 t2 i2 scope pos) 1 it acc env) R s)
    (h : wpAny (model prog w) A (pyIter it) (fun it' s' => codeAny (model prog w) A (.compLoop (comp2 elt t1 i1 t2 i2 scope pos) 1 it' acc env) R s')
      (notedBy (model prog w) A env fun x s' => R (.error x) s') s) :
    codeAny (model prog w) A (.compStart (comp2 elt t1 i1 t2 i2 scope pos) 1 it acc env) R s := by
  refine codeAny_of_tree ?_
  show wpAny _ _ ((compStart (comp2 elt t1 i1 t2 i2 scope pos) 1 it acc env).onRaise (fun x => do noteFrame x env; standAt theWindowsPlace)) _ _ s
  refine wpAny_notedAt ?_
  unfold compStart
  show wpAny _ _ (ask >>= _) _ _ s
  refine wpAny_bind (wpAny_askSetting (wpAny_ite ?_))
  split
  · first
      | exact wpAny_bind (wpAny_pure (wpAny_pure (And.intro rfl h0)))
      | exact wpAny_pure (And.intro rfl h0)
  · first
      | exact wpAny_bind (wpAny_rule (wpAny_bind (wpAny_standAt (wpAny_bind (wpAny_mono h (fun it' s' h' => wpAny_pure (And.intro rfl h')) fun _ _ x => x)))))
      | (refine wpAny_bind (wpAny_rule ?_); show wpAny _ _ (standAt i2.pos >>= _) _ _ s; exact wpAny_bind (wpAny_standAt (wpAny_bind (wpAny_mono h (fun it' s' h' => wpAny_pure (And.intro rfl h')) fun _ _ x => x))))

theorem comp2_loop1 (I : Nat → Shared → Prop)
    (turn : ∀ n s, I n s → wpAny (model prog w) A (pyNext it) (fun r s₁ => match r with
      | none => R (.ok .next) s₁
      | some v => wpAny (model prog w) A (letOwnedTupleGo t2 it v) (fun _ s₁ => wpAny (model prog w) A (PySem.assign t2 env v) (fun _ s₃ =>
          wpAny (model prog w) A (eval elt env) (fun x s₄ =>
              wpAny (model prog w) A (call (.builtin "list.append") [acc, x]) (fun _ s₅ => ∃ m, m < n ∧ I m s₅) (notedBy (model prog w) A env fun e s' => R (.error e) s') s₄) (notedBy (model prog w) A env fun e s' => R (.error e) s') s₃) (notedBy (model prog w) A env fun e s' => R (.error e) s') s₁) (notedBy (model prog w) A env fun e s' => R (.error e) s') s₁) (notedBy (model prog w) A env fun e s' => R (.error e) s') s)
    (n : Nat) (h : I n s) :
    codeAny (model prog w) A (.compLoop (comp2 elt t1 i1 t2 i2 scope pos) 1 it acc env) R s := by
  refine codeAny_loop rfl I (fun n s hI => ?_) n h
  show wpAny _ A ((compTurn (comp2 elt t1 i1 t2 i2 scope pos) 1 it acc env).onRaise (fun x => do noteFrame x env; theTreesLotGoes x)) _ _ s
  refine wpAny_noted ?_
  rw [comp2_turn1]
  refine wpAny_bind (wpAny_standAt (wpAny_bind (wpAny_mono (turn n s hI) (fun r s₁ h₁ => ?_) fun _ _ h' => h')))
  cases r with
  | none => exact wpAny_pure h₁
  | some v =>
    refine wpAny_bind (wpAny_mono h₁ (fun _ s₁' h₁' => ?_) fun _ _ h' => h')
    refine wpAny_bind (wpAny_mono h₁' (fun _ s₃ h₃ => ?_) fun _ _ h' => h')
    exact wpAny_bind (wpAny_bind (wpAny_mono h₃ (fun x s₄ h₄ => wpAny_bind (wpAny_mono h₄ (fun _ s₅ h₅ => wpAny_pure (wpAny_pure ⟨rfl, h₅⟩)) fun _ _ h' => h')) fun _ _ h' => h'))

theorem comp2_loop0 (I : Nat → Shared → Prop) (hs : ∀ x, foldedSetIterable i2 env x = pure x)
    (turn : ∀ n s, I n s → wpAny (model prog w) A (pyNext it) (fun r s₁ => match r with
      | none => R (.ok .next) s₁
      | some v => wpAny (model prog w) A (letOwnedTupleGo t1 it v) (fun _ s₁ => wpAny (model prog w) A (PySem.assign t1 env v) (fun _ s₃ =>
          wpAny (model prog w) A (eval i2 env) (fun x s₄ =>
              wpAny (model prog w) A (pyIter x) (fun it2 s₅ => ∀ (R' : Result → Shared → Prop), (∀ s₆, (∃ m, m < n ∧ I m s₆) → R' (.ok .next) s₆) → codeAny (model prog w) A (.compStart (comp2 elt t1 i1 t2 i2 scope pos) 1 it2 acc env) R' s₅) (notedBy (model prog w) A env fun e s' => R (.error e) s') s₄) (notedBy (model prog w) A env fun e s' => R (.error e) s') s₃) (notedBy (model prog w) A env fun e s' => R (.error e) s') s₁) (notedBy (model prog w) A env fun e s' => R (.error e) s') s₁) (notedBy (model prog w) A env fun e s' => R (.error e) s') s)
    (n : Nat) (h : I n s) :
    codeAny (model prog w) A (.compLoop (comp2 elt t1 i1 t2 i2 scope pos) 0 it acc env) R s := by
  refine codeAny_loop rfl I (fun n s hI => ?_) n h
  show wpAny _ A ((compTurn (comp2 elt t1 i1 t2 i2 scope pos) 0 it acc env).onRaise (fun x => do noteFrame x env; theTreesLotGoes x)) _ _ s
  refine wpAny_noted ?_
  rw [comp2_turn0]
  refine wpAny_bind (wpAny_standAt (wpAny_bind (wpAny_mono (turn n s hI) (fun r s₁ h₁ => ?_) fun _ _ h' => h')))
  cases r with
  | none => exact wpAny_pure h₁
  | some v =>
    refine wpAny_bind (wpAny_mono h₁ (fun _ s₁' h₁' => ?_) fun _ _ h' => h')
    refine wpAny_bind (wpAny_mono h₁' (fun _ s₃ h₃ => ?_) fun _ _ h' => h')
    refine wpAny_bind (wpAny_mono h₃ (fun x s₄ h₄ => wpAny_bind (wpAny_standAt ?_)) fun _ _ h' => h')
    rw [hs]
    refine wpAny_bind (wpAny_pure (wpAny_bind (wpAny_holding (wpAny_mono h₄ (fun it2 s₅ h₅ => wpAny_bind (wpAny_runOwn ?_)) fun _ _ h' => h'))))
    exact h₅ _ fun s₆ h₆ => wpAny_pure ⟨rfl, h₆⟩
end


/-- a frame whose names were written on at one place and else kept -/
theorem frame_later {c : Cx} {P' : Addr → Prop} {s₃ s' : Shared} {cenv : Env} {ρ1 : List (Str × V)} {x2 : Str} {C D : Addr} {m3 m' : Str → Option Value} {ys : Array Value} (I₃ : Inv c s₃) (F : FrameAt P' s₃.heap cenv ρ1) (hloc : cenv.locals = C)
    (hn3 : s₃.heap.Ns C m3) (hn' : s'.heap.Ns C m') (hm : ∀ z, z ≠ x2 → m' z = m3 z) (hx2 : ρ1.lookup x2 = none) (hD : s₃.heap.PlainList D ys) (hPD : ¬ P' D)
    (hk : ∀ b o, b ≠ C → b ≠ D → (∀ t ∈ c.tabs, b ≠ t.P) → s₃.heap.get? b = some o → s'.heap.get? b = some o) : FrameAt P' s'.heap cenv ρ1 := by
  refine ⟨F.fk, F.gl, F.bu, fun x y e => ?_⟩
  obtain ⟨v, hv, r⟩ := F.var x y e
  refine ⟨v, ?_, r.mono (fun _ h => h) fun a o hp e hq => hk a o (fun q => ns_not_seq hn3 (q ▸ e) hq) (fun q => hPD (q ▸ hp)) (I₃.tab_ne e (.inl (by rcases hq.1 with hc | hc <;> rw [hc] <;> nofun))) e⟩
  rcases hv with ⟨k, m, hm0, e0⟩ | ⟨k, a, ha, hc⟩
  · refine .inl ⟨k, m', by rw [hloc]; exact hn', ?_⟩
    rw [hloc] at hm0
    rw [hm x (fun q => by rw [q, hx2] at e; cases e), ns_uniq hn3 hm0 x]
    exact e0
  · refine .inr ⟨k, a, ha, ?_⟩
    obtain ⟨o, eo, hd⟩ := id hc
    exact ⟨o, hk a o (fun q => cell_not_ns hc (q ▸ hn3)) (fun q => list_not_cell hD (q ▸ hc)) (I₃.tab_ne eo (.inr (by rw [hd]; nofun))) eo, hd⟩

theorem frame_cons {P' : Addr → Prop} {h : Heap} {cenv : Env} {ρ1 : List (Str × V)} {x2 : Str} {y : V} {v : Value} {m : Str → Option Value} (F : FrameAt P' h cenv ρ1) (hk : cenv.kindOf x2 = some .local) (hn : h.Ns cenv.locals m) (hm : m x2 = some v) (r : Rep P' h y v) : FrameAt P' h cenv ((x2, y) :: ρ1) := by
  refine ⟨F.fk, F.gl, F.bu, fun x z e => ?_⟩
  rw [List.lookup_cons] at e
  split at e
  · rename_i q
    cases e
    have := beq_iff_eq.mp q
    subst this
    exact ⟨v, .inl ⟨hk, m, hn, hm⟩, r⟩
  · exact F.var x z e

section
variable {c : Cx} {n : Nat} {env : Env} {ρ : List (Str × V)}

theorem comp2_inner {elt t1 i1 i2 : Expr} {scope : Scope} {pos : Pos} {x2 : Str} {px2 : Pos} {ρ1 : List (Str × V)} {xs2 pre : List V} {g : V → V} {cenv : Env} {C D : Addr} {P : Addr → Prop} {A : Around} {E : Value → Shared → Prop} {s s₃ : Shared} {ys : Array Value} {m3 : Str → Option Value} {Qf : Shared → Prop}
    (at_ : At c n A P s) (hCs : s.heap.get? C = none) (hDs : s.heap.get? D = none) (hDC : D ≠ C) (hloc : cenv.locals = C) (hkind : cenv.scope.kind = .function) (hkx : cenv.kindOf x2 = some .local)
    (hi2 : It c n cenv ρ1 i2 xs2) (helt : ∀ y ∈ xs2, Ev c n cenv ((x2, y) :: ρ1) elt (g y)) (hx2 : ρ1.lookup x2 = none) (hlen : pre.length + xs2.length ≤ lim)
    (st3 : Step c s s₃) (hacc : s₃.heap.PlainList D ys) (hys : Reps (fun b => P b ∧ b ≠ D) s₃.heap pre ys.toList) (hn3 : s₃.heap.Ns C m3) (F3 : FrameAt (fun b => P b ∧ b ≠ D) s₃.heap cenv ρ1)
    (hQ : ∀ s' ys' m', Step c s s' → s'.heap.PlainList D ys' → Reps (fun b => P b ∧ b ≠ D) s'.heap (pre ++ xs2.map g) ys'.toList → s'.heap.Ns C m' →
      (∀ b o, b ≠ C → b ≠ D → (∀ t ∈ c.tabs, b ≠ t.P) → s₃.heap.get? b = some o → s'.heap.get? b = some o) → Qf s') :
    wpAny (model c.prog c.w) A (eval i2 cenv) (fun xv s₄ => wpAny (model c.prog c.w) A (pyIter xv) (fun it2 s₅ => ∀ R' : Result → Shared → Prop, (∀ s₆, Qf s₆ → R' (.ok .next) s₆) →
      codeAny (model c.prog c.w) A (.compStart (comp2 elt t1 i1 (.Name x2 px2) i2 scope pos) 1 it2 (.ref D) cenv) R' s₅) E s₄) E s₃ := by
  have hfr : ∀ s'' : Shared, Step c s s'' → (∃ o, s''.heap.get? D = some o) → Fresh (fun b => P b ∧ b ≠ D) s''.heap := fun s'' st ⟨o', e'⟩ a e => ⟨(at_.fresh.step st at_.inv) a e, fun q => by rw [q, e'] at e; cases e⟩
  have at3 : At c n A (fun b => P b ∧ b ≠ D) s₃ := ⟨at_.room, st3.inv, hfr s₃ st3 (let ⟨_, e⟩ := hacc; ⟨_, e⟩)⟩
  refine wpAny_mono (hi2.run _ A E s₃ at3 F3) (fun xv s₄ h₄ => wpAny_mono h₄ (fun it2 s₅ hI R' hR => ?_) fun _ _ e => e) fun _ _ e => e
  obtain ⟨st5, I, fp, wr, St, rfl, hW, hst, hfp, hwr, hwrm, hfpP, hown⟩ := hI
  have W := hW A at_.room.1
  have hacc5 := plainList_step st3.inv st5 hacc
  have hn5 := st5.ns st3.inv hn3
  have hDf : D ∉ fp := fun hm => by
    rcases hfpP D hm with hm | ⟨⟨_, hm⟩, _⟩
    · obtain ⟨_, e⟩ := hacc; rw [hwr D hm] at e; cases e
    · exact hm rfl
  have hCf : C ∉ fp := fun hm => by
    rcases hfpP C hm with hm | ⟨_, o, e, hq⟩
    · obtain ⟨_, _, _, e, _⟩ := hn3; rw [hwr C hm] at e; cases e
    · exact ns_not_seq hn5 e hq
  have hDw : D ∉ wr := fun h => hDf (W.sub _ h)
  have hCw : C ∉ wr := fun h => hCf (W.sub _ h)
  have fpt : ∀ b ∈ fp, ∀ t ∈ c.tabs, b ≠ t.P := fun b hb t ht q => by
    rcases hfpP b hb with hb | ⟨_, o', e', hq⟩
    · obtain ⟨_, ps, e', _⟩ := st3.inv.tab t ht
      have := hwr b hb
      rw [q, e'] at this; cases this
    · exact st5.inv.tab_ne e' (.inl (by rcases hq.1 with hc | hc <;> rw [hc] <;> nofun)) t ht q
  have loop : codeAny (model c.prog c.w) A (.compLoop (comp2 elt t1 i1 (.Name x2 px2) i2 scope pos) 1 (.ref I) (.ref D) cenv) R' s₅ := by
    refine comp2_loop1
      (fun k s' => ∃ i ys' m', Step c s s' ∧ St i s'.heap ∧ s'.heap.PlainList D ys' ∧ Reps (fun b => P b ∧ b ≠ D) s'.heap (pre ++ (xs2.take i).map g) ys'.toList ∧ s'.heap.Ns C m' ∧ (∀ z, z ≠ x2 → m' z = m3 z) ∧
        KeptP (Ex (fun b => P b ∧ b ≠ D) s₅.heap) s₅.heap s'.heap ∧ (∀ b o, b ≠ C → b ≠ D → (∀ t ∈ c.tabs, b ≠ t.P) → s₃.heap.get? b = some o → s'.heap.get? b = some o) ∧ i ≤ xs2.length ∧ k = xs2.length + 1 - i) ?_ (xs2.length + 1)
      ⟨0, ys, m3, st3.trans st5, hst, hacc5, by simpa using st5.reps st3.inv hys, hn5, fun _ _ => rfl, fun a o _ e _ => e, fun b o _ _ ht e => st5.old b o e ht, Nat.zero_le _, rfl⟩
    rintro k s' ⟨i, ys', m', st', hst', hacc', hys', hn', hm', hkp, hkeep, hi, rfl⟩
    have hbad : ∀ b, (b = C ∨ b = D ∨ b ∈ wr) → s.heap.get? b = none := fun b hb => by
      rcases hb with rfl | rfl | hb
      · exact hCs
      · exact hDs
      · exact st3.gone at_.inv (hwr b hb)
    have hmut : ∀ b o, (b = C ∨ b = D ∨ b ∈ wr) → s'.heap.get? b = some o → Mut o := fun b o hb e => by
      rcases hb with rfl | rfl | hb
      · obtain ⟨o', es, ep, e', hd, _⟩ := hn'
        rw [e] at e'; cases e'; exact mut_dict hd
      · obtain ⟨k', e'⟩ := hacc'
        rw [e] at e'; cases e'; exact mut_seq rfl
      · exact (hwrm b hb i _ o hst' e).1
    by_cases hlt : i < xs2.length
    · refine W.item i s' _ _ hlt hst' fun v h2 tk2 hPv hst2 hk2 => ?_
      have stA : Step c s { s' with heap := h2, toks := tk2 } := st'.muts at_.inv hbad hmut fun b o hb e => hk2 b o (fun hw => hb (.inr (.inr hw))) e
      have seqk : ∀ b o, SeqObj o → s'.heap.get? b = some o → h2.get? b = some o := fun b o hq e => hk2 b o (fun hw => (hwrm b hw i _ o hst' e).2 hq) e
      have haccA : h2.PlainList D ys' := let ⟨k', e'⟩ := hacc'; ⟨k', hk2 _ _ hDw e'⟩
      have hysA : Reps (fun b => P b ∧ b ≠ D) h2 (pre ++ (xs2.take i).map g) ys'.toList := hys'.mono (fun _ h => h) fun a o _ e hq => seqk a o hq e
      have hnA : h2.Ns C m' := let ⟨o', es, ep, e', hd, r⟩ := hn'; ⟨o', es, ep, hk2 _ _ hCw e', hd, r⟩
      have hkpA : KeptP (Ex (fun b => P b ∧ b ≠ D) s₅.heap) s₅.heap h2 := fun a o hp e hq => seqk a o hq (hkp a o hp e hq)
      have hkeepA : ∀ b o, b ≠ C → b ≠ D → (∀ t ∈ c.tabs, b ≠ t.P) → s₃.heap.get? b = some o → h2.get? b = some o := fun b o h1 h2' h3 e => hk2 b o (fun hw => by rw [hwr b hw] at e; cases e) (hkeep b o h1 h2' h3 e)
      obtain ⟨x, hx, rx⟩ := hPv
      rw [List.getElem?_eq_getElem hlt] at hx
      cases hx
      have rxA : Rep (fun b => P b ∧ b ≠ D) h2 xs2[i] v := rx.mono (fun a ⟨hp, o', e'⟩ => hp) fun a o' hp e' hq => hkpA a o' hp e' hq
      obtain ⟨oI, T, e1, e2, e3⟩ := hown (i + 1) h2 hst2
      refine letOwned_any e1 e2 e3 ?_
      refine wpAny_assign_Name (wpAny_storeName_local hkx (m := m') (by rw [hloc]; exact hnA) (fun h3 hn3' hs3 => ?_) (noclass hkind))
      rw [hloc] at hn3' hs3
      have hk3 : ∀ b o, b ≠ C → h2.get? b = some o → h3.get? b = some o := fun b o hb e => hs3.extBut b o hb e
      have st3' : Step c s { s' with heap := h3, toks := tk2 + 1 } := stA.muts at_.inv (D := (· = C)) (fun b hb => by rw [hb]; exact hCs) (fun b o hb e => by
          obtain ⟨o', es, ep, e', hd, _⟩ := hnA
          rw [hb] at e
          have : h2.get? C = some o := e
          rw [e'] at this; cases this; exact mut_dict hd) fun b o hb e => hk3 b o hb e
      have hacc3 : h3.PlainList D ys' := let ⟨k', e'⟩ := haccA; ⟨k', hk3 _ _ hDC e'⟩
      have hys3 : Reps (fun b => P b ∧ b ≠ D) h3 (pre ++ (xs2.take i).map g) ys'.toList := hysA.mono (fun _ h => h) fun a o _ e hq => hk3 a o (fun q => ns_not_seq hnA (q ▸ e) hq) e
      have hkp3 : KeptP (Ex (fun b => P b ∧ b ≠ D) s₅.heap) s₅.heap h3 := fun a o hp e hq => by
        have := hkpA a o hp e hq
        exact hk3 a o (fun q => ns_not_seq hnA (q ▸ this) hq) this
      have hkeep3 : ∀ b o, b ≠ C → b ≠ D → (∀ t ∈ c.tabs, b ≠ t.P) → s₃.heap.get? b = some o → h3.get? b = some o := fun b o h1 h2' h3' e => hk3 b o h1 (hkeepA b o h1 h2' h3' e)
      have hst3 : St (i + 1) h3 := W.frame _ _ _ hst2 fun b hb o e => hk3 b o (fun q => hCf (q ▸ hb)) e
      have rx3 : Rep (fun b => P b ∧ b ≠ D) h3 xs2[i] v := rxA.mono (fun _ h => h) fun a o _ e hq => hk3 a o (fun q => ns_not_seq hnA (q ▸ e) hq) e
      have hm3 : ∀ z, z ≠ x2 → (fun x => if x = x2 then some v else m' x) z = m3 z := fun z hz => by
        show (if z = x2 then some v else m' z) = m3 z
        rw [if_neg hz]; exact hm' z hz
      have FB : FrameAt (fun b => P b ∧ b ≠ D) h3 cenv ρ1 := frame_later (s' := { s' with heap := h3, toks := tk2 + 1 }) st3.inv F3 hloc hn3 hn3' hm3 hx2 hacc (fun q => q.2 rfl) hkeep3
      have FC : FrameAt (fun b => P b ∧ b ≠ D) h3 cenv ((x2, xs2[i]) :: ρ1) := frame_cons FB hkx (by rw [hloc]; exact hn3') (by simp) rx3
      have at4 : At c n A (fun b => P b ∧ b ≠ D) { s' with heap := h3, toks := tk2 + 1 } := ⟨at_.room, st3'.inv, hfr _ st3' (let ⟨_, e⟩ := hacc3; ⟨_, e⟩)⟩
      refine wpAny_mono ((helt _ (List.getElem_mem hlt)).run _ A _ _ at4 FC) (fun z s₅' ⟨rz, st5'⟩ => ?_) fun _ _ e => e
      have hacc5' := plainList_step st3'.inv st5' hacc3
      have hsize : ys'.size ≤ lim := by
        have := hys'.length
        rw [List.length_append, List.length_map, List.length_take] at this
        have e : ys'.toList.length = ys'.size := rfl
        omega
      refine wpAny_list_append_plain hacc5' (fun h6 hl6 hs6 => ?_) (by have : sizeLine = 16777216 := sizeLine_eq; have hl : lim = 1048576 := rfl; omega)
      have k6 : ∀ b o, b ≠ D → s₅'.heap.get? b = some o → h6.get? b = some o := fun b o hb e => hs6.extBut b o hb e
      have st6 : Step c s { s₅' with heap := h6 } := (st3'.trans st5').muts at_.inv (D := (· = D)) (fun b hb => by rw [hb]; exact hDs) (fun b o hb e => by
          obtain ⟨k', e'⟩ := hacc5'
          rw [hb, e'] at e; cases e; exact mut_seq rfl) fun b o hb e => k6 b o hb e
      have e : (xs2.take (i + 1)).map g = (xs2.take i).map g ++ [g xs2[i]] := by
        rw [List.take_add_one, List.getElem?_eq_getElem hlt, List.map_append]; rfl
      refine ⟨xs2.length + 1 - (i + 1), by omega, i + 1, ys'.push z, _, st6, W.frame _ _ _ hst3 fun b hb o e => k6 b o (fun q => hDf (q ▸ hb)) (st5'.old b o e (fpt b hb)), hl6, ?_, ?_, hm3, ?_, ?_, hlt, rfl⟩
      · rw [e, Array.toList_push, ← List.append_assoc]
        refine Reps.append ?_ (Reps.cons ?_ Reps.nil)
        · exact (st5'.reps st3'.inv hys3).mono (fun _ h => h) fun a o hp e _ => k6 a o hp.2 e
        · exact rz.mono (fun _ h => h) fun a o hp e _ => k6 a o hp.2 e
      · obtain ⟨o', es, ep, e', hd, r⟩ := st5'.ns st3'.inv hn3'
        exact ⟨o', es, ep, k6 _ _ (Ne.symm hDC) e', hd, r⟩
      · exact fun a o hp e hq => k6 a o hp.1.2 (st5'.get st3'.inv (hkp3 a o hp e hq) (.inl (by rcases hq.1 with hc | hc <;> rw [hc] <;> nofun)))
      · exact fun b o h1 h2' h3' e => k6 b o h2' (st5'.old b o (hkeep3 b o h1 h2' h3' e) h3')
    · have hix : i = xs2.length := by omega
      subst hix
      refine W.done s' _ _ hst' fun h2 tk2 hk2 => ?_
      have stA : Step c s { s' with heap := h2, toks := tk2 } := st'.muts at_.inv hbad hmut fun b o hb e => hk2 b o (fun hw => hb (.inr (.inr hw))) e
      have hnA : h2.Ns C m' := let ⟨o', es, ep, e', hd, r⟩ := hn'; ⟨o', es, ep, hk2 _ _ hCw e', hd, r⟩
      have haccA : h2.PlainList D ys' := let ⟨k', e'⟩ := hacc'; ⟨k', hk2 _ _ hDw e'⟩
      refine hR _ (hQ _ ys' m' stA haccA ?_ hnA fun b o h1 h2' h3 e => hk2 b o (fun hw => by rw [hwr b hw] at e; cases e) (hkeep b o h1 h2' h3 e))
      rw [List.take_of_length_le (Nat.le_refl _)] at hys'
      exact hys'.mono (fun _ h => h) fun a o _ e hq => hk2 a o (fun hw => (hwrm a hw _ _ o hst' e).2 hq) e
  exact comp2_start1 loop (W.self 0 _ _ _ hst loop)
end

section
variable {c : Cx} {n : Nat} {env : Env} {ρ : List (Str × V)}

theorem comp2_block {elt i1 i2 : Expr} {scope : Scope} {pos : Pos} {x1 x2 : Str} {px1 px2 : Pos} {ρf : List (Str × V)} {xs1 xs2 : List V} {f : V → V → V} {P : Addr → Prop} {A : Around} {E : Value → Shared → Prop} {s s₂ : Shared} {it : Value} {RR : Value → Addr → Result → Shared → Prop}
    (at_ : At c n A P s) (F : FrameAt P s.heap env ρ) (hI : ItAt c P xs1 s it s₂) (hlen : (xs1.flatMap fun x => xs2.map (f x)).length ≤ lim) (hf : FreeOf scope env ρ ρf) (hcells : ∀ p ∈ scope.names, p.2 = .free → (env.cells.lookup p.1).isSome)
    (hcell : ∀ y ∈ scope.names, y.2 ≠ .cell) (hkind : scope.kind = .function) (hk1 : ∀ C, (cenvOf scope env C).kindOf x1 = some .local) (hk2 : ∀ C, (cenvOf scope env C).kindOf x2 = some .local) (hx12 : (x2 == x1) = false) (hx2 : ρf.lookup x2 = none)
    (hs : ∀ C x, foldedSetIterable i2 (cenvOf scope env C) x = pure x) (hi2 : ∀ x ∈ xs1, ∀ C, It c n (cenvOf scope env C) ((x1, x) :: ρf) i2 xs2) (helt : ∀ x ∈ xs1, ∀ y ∈ xs2, ∀ C, Ev c n (cenvOf scope env C) ((x2, y) :: (x1, x) :: ρf) elt (f x y))
    (hRR : ∀ D C s' m, Step c s s' → Rep P s'.heap (.list (xs1.flatMap fun x => xs2.map (f x))) (.ref D) → s'.heap.Ns C m → s.heap.get? C = none → D ≠ C → RR (.ref D) C (.ok .next) s') :
    wpAny (model c.prog c.w) A (newList []) (fun acc s₃ => wpAny (model c.prog c.w) A (newFunctionEnv scope env.globals (closOf env.cells scope.names []) [] env.qual none .none (some env)) (fun cenv s₄ =>
      codeAny (model c.prog c.w) A (.compStart (comp2 elt (.Name x1 px1) i1 (.Name x2 px2) i2 scope pos) 0 it acc { cenv with scope := relabel scope env }) (RR acc cenv.locals) s₄) E s₃) E s₂ := by
  obtain ⟨st2, I, fp, wr, St, rfl, hW, hst, hfp, hwr, hwrm, hfpP, hown⟩ := hI
  have W := hW A at_.room.1
  refine wpAny_newObj_type (wpAny_newFunctionEnv hcell (by intro y hy; simp at hy) (fun h₁ hns₁ hsb₁ => ?_) hkind)
  dsimp only at hns₁ hsb₁ ⊢
  generalize hH2 : s₂.heap.push { cls := .type "list", dict := none, data := .seq ([] : List Value).toArray } = H2 at hns₁ hsb₁ ⊢
  have hC : H2.objs.size = s₂.heap.objs.size + 1 := by rw [← hH2, Heap.size_push]
  have hDC : s₂.heap.objs.size ≠ H2.objs.size := by rw [hC]; exact Nat.ne_of_lt (Nat.lt_succ_self _)
  have below : ∀ b, b < s₂.heap.objs.size → b ≠ H2.objs.size ∧ b ≠ s₂.heap.objs.size := fun b hb => ⟨by rw [hC]; exact Nat.ne_of_lt (Nat.lt_succ_of_lt hb), Nat.ne_of_lt hb⟩
  have old : ∀ b o, s₂.heap.get? b = some o → h₁.get? b = some o := fun b o e => hsb₁.extBut b o (below b (Heap.lt_size e)).1 (Heap.get?_push_of_some _ (hH2 ▸ Heap.get?_push_of_some _ e))
  have hacc : h₁.PlainList s₂.heap.objs.size #[] := ⟨_, hsb₁.extBut _ _ hDC (Heap.get?_push_of_some _ (hH2 ▸ Heap.get?_push_size _ rfl))⟩
  have hst₁ : St 0 h₁ := W.frame _ _ _ hst fun b _ o e => old b o e
  have hD0 : s₂.heap.get? s₂.heap.objs.size = none := Heap.get?_none_of_le (Nat.le_refl _)
  have hC0 : s₂.heap.get? H2.objs.size = none := Heap.get?_none_of_le (by rw [hC]; exact Nat.le_succ _)
  have hDs : s.heap.get? s₂.heap.objs.size = none := st2.gone at_.inv hD0
  have hCs : s.heap.get? H2.objs.size = none := st2.gone at_.inv hC0
  have hDf : s₂.heap.objs.size ∉ fp := fun hm => Nat.lt_irrefl _ (hfp _ hm)
  have hCf : H2.objs.size ∉ fp := fun hm => by have := hfp _ hm; rw [hC] at this; exact Nat.lt_irrefl _ (Nat.lt_of_succ_lt this)
  have hDw : s₂.heap.objs.size ∉ wr := fun h => hDf (W.sub _ h)
  have hCw : H2.objs.size ∉ wr := fun h => hCf (W.sub _ h)
  generalize hDd : s₂.heap.objs.size = D at *
  generalize hCd : H2.objs.size = C at *
  let P' : Addr → Prop := fun b => P b ∧ b ≠ D
  have F' : ∀ s', Step c s s' → FrameAt P' s'.heap env ρ := fun s' st => by
    have F0 : FrameAt (Ex P s.heap) s.heap env ρ := ⟨F.fk, F.gl, F.bu, fun x y e => let ⟨v, a, b⟩ := F.var x y e; ⟨v, a, b.ex⟩⟩
    have F1 := F0.step st at_.inv
    refine ⟨F.fk, F.gl, F.bu, fun x y e => let ⟨v, a, b⟩ := F1.var x y e; ⟨v, a, b.mono (fun a ⟨h1, o, h2⟩ => ⟨h1, fun q => by rw [q, hDs] at h2; cases h2⟩) fun a o _ e _ => e⟩⟩
  have fpt : ∀ b ∈ fp, ∀ t ∈ c.tabs, b ≠ t.P := fun b hb t ht q => by
    rcases hfpP b hb with hb | ⟨_, o', e', hq⟩
    · obtain ⟨_, ps, e', _⟩ := at_.inv.tab t ht
      have := hwr b hb
      rw [q, e'] at this; cases this
    · exact st2.inv.tab_ne e' (.inl (by rcases hq.1 with hc | hc <;> rw [hc] <;> nofun)) t ht q
  have loop : ∀ s₃ : Shared, s₃ = { s₂ with heap := h₁, toks := s₂.toks + ([] : List (Str × Value)).length } →
      codeAny (model c.prog c.w) A (.compLoop (comp2 elt (.Name x1 px1) i1 (.Name x2 px2) i2 scope pos) 0 (.ref I) (.ref D) (cenvOf scope env C)) (RR (.ref D) C) s₃ := by
    rintro s₃ rfl
    refine comp2_loop0
      (fun k s' => ∃ i ys m', Step c s s' ∧ St i s'.heap ∧ s'.heap.PlainList D ys ∧ Reps P' s'.heap ((xs1.take i).flatMap fun x => xs2.map (f x)) ys.toList ∧ s'.heap.Ns C m' ∧ KeptP (Ex P s₂.heap) s₂.heap s'.heap ∧ i ≤ xs1.length ∧ k = xs1.length + 1 - i) (hs C) ?_ (xs1.length + 1)
      ⟨0, #[], _, st2.trans (Step.of st2.inv old), hst₁, hacc, by simpa using Reps.nil, hns₁, fun a o _ e _ => old a o e, Nat.zero_le _, rfl⟩
    rintro k s' ⟨i, ys, m', st', hst', hacc', hys, hn', hkp, hi, rfl⟩
    have hbad : ∀ b, (b = C ∨ b = D ∨ b ∈ wr) → s.heap.get? b = none := fun b hb => by
      rcases hb with rfl | rfl | hb
      · exact hCs
      · exact hDs
      · exact hwr b hb
    have hmut : ∀ b o, (b = C ∨ b = D ∨ b ∈ wr) → s'.heap.get? b = some o → Mut o := fun b o hb e => by
      rcases hb with rfl | rfl | hb
      · obtain ⟨o', es, ep, e', hd, _⟩ := hn'
        rw [e] at e'; cases e'; exact mut_dict hd
      · obtain ⟨k', e'⟩ := hacc'
        rw [e] at e'; cases e'; exact mut_seq rfl
      · exact (hwrm b hb i _ o hst' e).1
    by_cases hlt : i < xs1.length
    · refine W.item i s' _ _ hlt hst' fun v h2 tk2 hPv hst2 hk2' => ?_
      have stA : Step c s { s' with heap := h2, toks := tk2 } := st'.muts at_.inv hbad hmut fun b o hb e => hk2' b o (fun hw => hb (.inr (.inr hw))) e
      have seqk : ∀ b o, SeqObj o → s'.heap.get? b = some o → h2.get? b = some o := fun b o hq e => hk2' b o (fun hw => (hwrm b hw i _ o hst' e).2 hq) e
      have haccA : h2.PlainList D ys := let ⟨k', e'⟩ := hacc'; ⟨k', hk2' _ _ hDw e'⟩
      have hysA : Reps P' h2 ((xs1.take i).flatMap fun x => xs2.map (f x)) ys.toList := hys.mono (fun _ h => h) fun a o _ e hq => seqk a o hq e
      have hnA : h2.Ns C m' := let ⟨o', es, ep, e', hd, r⟩ := hn'; ⟨o', es, ep, hk2' _ _ hCw e', hd, r⟩
      have hkpA : KeptP (Ex P s₂.heap) s₂.heap h2 := fun a o hp e hq => seqk a o hq (hkp a o hp e hq)
      obtain ⟨x, hx, rx⟩ := hPv
      rw [List.getElem?_eq_getElem hlt] at hx
      cases hx
      have rxA : Rep P' h2 xs1[i] v := rx.mono (fun a ⟨hp, o', e'⟩ => ⟨hp, fun q => by rw [q, hD0] at e'; cases e'⟩) fun a o' hp e' hq => hkpA a o' hp e' hq
      have hfr : ∀ s'' : Shared, Step c s s'' → (∃ o, s''.heap.get? D = some o) → Fresh P' s''.heap := fun s'' st ⟨o', e'⟩ a e => ⟨(at_.fresh.step st at_.inv) a e, fun q => by rw [q, e'] at e; cases e⟩
      obtain ⟨oI, T, e1, e2, e3⟩ := hown (i + 1) h2 hst2
      refine letOwned_any e1 e2 e3 ?_
      refine wpAny_mono ((AsgC.name (hk1 C) hkind).run P' A _ s _ v m' at_.room at_.inv stA (hfr _ stA (let ⟨_, e⟩ := haccA; ⟨_, e⟩)) hCs hnA rxA) (fun _ s₃ ⟨st3, hk3, ⟨oC, hoC⟩, m3, hn3, hb3⟩ => ?_) fun _ _ e => e
      have hk3 : ∀ b o, b ≠ C → h2.get? b = some o → s₃.heap.get? b = some o := hk3
      have hn3 : s₃.heap.Ns C m3 := hn3
      have hacc3 : s₃.heap.PlainList D ys := let ⟨k', e'⟩ := haccA; ⟨k', hk3 _ _ hDC e'⟩
      have hys3 : Reps P' s₃.heap ((xs1.take i).flatMap fun x => xs2.map (f x)) ys.toList := hysA.mono (fun _ h => h) fun a o _ e hq => hk3 a o (fun q => ns_not_seq hnA (q ▸ e) hq) e
      have hkp3 : KeptP (Ex P s₂.heap) s₂.heap s₃.heap := fun a o hp e hq => by
        have := hkpA a o hp e hq
        exact hk3 a o (fun q => ns_not_seq hnA (q ▸ this) hq) this
      have hst3 : St (i + 1) s₃.heap := W.frame _ _ _ hst2 fun b hb o e => hk3 b o (fun q => hCf (q ▸ hb)) e
      have F3 : FrameAt P' s₃.heap (cenvOf scope env C) ((x1, xs1[i]) :: ρf) := frame_comp (bs := [(x1, xs1[i])]) (F' s₃ st3) hf hcells hkind hn3 hb3
      have e : (xs1.take (i + 1)).flatMap (fun x => xs2.map (f x)) = (xs1.take i).flatMap (fun x => xs2.map (f x)) ++ xs2.map (f xs1[i]) := by
        rw [List.take_add_one, List.getElem?_eq_getElem hlt, List.flatMap_append]; simp
      have hle : ((xs1.take i).flatMap fun x => xs2.map (f x)).length + xs2.length ≤ lim := by
        have e2 : xs1.flatMap (fun x => xs2.map (f x)) = (xs1.take (i + 1)).flatMap (fun x => xs2.map (f x)) ++ (xs1.drop (i + 1)).flatMap (fun x => xs2.map (f x)) := by
          rw [← List.flatMap_append, List.take_append_drop]
        rw [e2, List.length_append, e, List.length_append, List.length_map] at hlen
        omega
      refine comp2_inner (t1 := .Name x1 px1) (i1 := i1) (pos := pos) (scope := scope) (g := f xs1[i]) at_ hCs hDs hDC rfl hkind (hk2 C) (hi2 _ (List.getElem_mem hlt) C) (fun y hy => helt _ (List.getElem_mem hlt) y hy C) ?_ hle st3 hacc3 hys3 hn3 F3 (Qf := fun s₆ => ∃ m, m < xs1.length + 1 - i ∧ _) fun s₆ ys₆ m₆ st6 hacc6 hys6 hn6 hkeep6 => ?_
      · rw [List.lookup_cons, hx12]; exact hx2
      · refine ⟨xs1.length + 1 - (i + 1), by omega, i + 1, ys₆, m₆, st6, W.frame _ _ _ hst3 fun b hb o e => hkeep6 b o (fun q => hCf (q ▸ hb)) (fun q => hDf (q ▸ hb)) (fpt b hb) e, hacc6, by rw [e]; exact hys6, hn6, ?_, hlt, rfl⟩
        exact fun a o hp e hq => hkeep6 a o (fun q => by obtain ⟨_, o', e'⟩ := hp; rw [q, hC0] at e'; cases e') (fun q => by obtain ⟨_, o', e'⟩ := hp; rw [q, hD0] at e'; cases e') (st2.inv.tab_ne e (.inl (by rcases hq.1 with hc | hc <;> rw [hc] <;> nofun))) (hkp3 a o hp e hq)
    · have hix : i = xs1.length := by omega
      subst hix
      refine W.done s' _ _ hst' fun h2 tk2 hk2' => ?_
      have stA : Step c s { s' with heap := h2, toks := tk2 } := st'.muts at_.inv hbad hmut fun b o hb e => hk2' b o (fun hw => hb (.inr (.inr hw))) e
      have hnA : h2.Ns C m' := let ⟨o', es, ep, e', hd, r⟩ := hn'; ⟨o', es, ep, hk2' _ _ hCw e', hd, r⟩
      have haccA : h2.PlainList D ys := let ⟨k', e'⟩ := hacc'; ⟨k', hk2' _ _ hDw e'⟩
      refine hRR D C _ m' stA ?_ hnA hCs hDC
      rw [List.take_of_length_le (Nat.le_refl _)] at hys
      unfold Rep
      refine ⟨D, ys.toList, rfl, at_.fresh D hDs, haccA, by rw [hys.length]; exact hlen, ?_⟩
      exact hys.mono (fun _ h => h.1) fun a o _ e hq => hk2' a o (fun hw => (hwrm a hw _ _ o hst' e).2 hq) e
  exact codeAny_compStart_list (loop _ rfl) (W.self 0 _ _ _ hst₁ (loop _ rfl))
end

section
variable {c : Cx} {n : Nat} {env : Env} {ρ : Frame} {own : Own} {Q : Post}
theorem WX.assignComp2 {elt i1 i2 : Expr} {scope : Scope} {cpos : Pos} {x1 x2 : Str} {px1 px2 : Pos} {x : Str} {p pos : Pos} {xs1 xs2 : List V} {f : V → V → V} (hi : It c n env ρ i1 xs1) (hlen : (xs1.flatMap fun x => xs2.map (f x)).length ≤ lim) (S : ScopeOk scope env ρ)
    (hk1 : ∀ C, (cenvOf scope env C).kindOf x1 = some .local) (hk2 : ∀ C, (cenvOf scope env C).kindOf x2 = some .local) (hx12 : (x2 == x1) = false) (hx2 : (within scope ρ).lookup x2 = none)
    (hi2 : ∀ x ∈ xs1, ∀ C, It c n (cenvOf scope env C) ((x1, x) :: within scope ρ) i2 xs2) (helt : ∀ x ∈ xs1, ∀ y ∈ xs2, ∀ C, Ev c n (cenvOf scope env C) ((x2, y) :: (x1, x) :: within scope ρ) elt (f x y))
    (hk : Var env x) (hx : ∀ a ys, own ≠ some (x, a, ys)) (hq : Q.next ((x, .list (xs1.flatMap fun x => xs2.map (f x))) :: ρ) own)
    (hsw : swapsWith (comp2 elt (.Name x1 px1) i1 (.Name x2 px2) i2 scope cpos) (some (.Name x p)) pos.line env = pure true := by rfl) (hs : ∀ x, foldedSetIterable i1 env x = pure x := by intro _; rfl) (hs2 : ∀ C x, foldedSetIterable i2 (cenvOf scope env C) x = pure x := by intro _ _; rfl) :
    WX c n env (.Assign [.Name x p] (comp2 elt (.Name x1 px1) i1 (.Name x2 px2) i2 scope cpos) pos) ρ own Q := .mk fun P A E s₀ s at_ X => by
  rw [exec_Assign_Name_used _ _ _ _ hsw]
  refine wpAny_bind (wpAny_standAt (wpAny_bind ?_))
  show wpAny _ A (do let _ ← comprehension (comp2 elt (.Name x1 px1) i1 (.Name x2 px2) i2 scope cpos) scope env _ (newList []) false (eval i1 env) (some (PySem.assign (.Name x p) env))) _ _ s
  have F := X.frame
  have at' := Bar.exists X at_
  refine wpAny_bind (wpAny_mono (wpAny_comprehension_free (Q := fun _ s' => Fin c s₀ P env own s Q .next s') (g := ⟨.Name x1 px1, i1, [], 0⟩) (gs := [⟨.Name x2 px2, i2, [], 0⟩]) rfl hs (closureFor_is (S.cells F)) S.kind S.loc
    (wpAny_mono (hi.run _ A E s at' F) (fun xv s₁ h₁ => wpAny_mono h₁ (fun it s₂ h₂ => ?_) fun _ _ e => e) fun _ _ e => e)) (fun _ s' hq => wpAny_pure (wpAny_pure hq)) fun _ _ e => e)
  refine comp2_block (RR := fun acc C r s' => compPost (model c.prog c.w) A E (some (PySem.assign (.Name x p) env)) (fun _ s' => Fin c s₀ P env own s Q .next s') acc C r s') at' F h₂ hlen S.freeOf (S.cells F) S.cell S.kind hk1 hk2 hx12 hx2 hs2 hi2 helt fun D C s' m st r hn hC hDC => ?_
  refine wpAny_assign_Name (wpAny_mono ((X.stepTo st).store at_.inv hk hx r) (fun _ s'' ⟨X', k⟩ => ?_) fun _ _ e => e)
  have nC : ∀ b o, s.heap.get? b = some o → b ≠ C := fun b o e q => by rw [q, hC] at e; cases e
  have hkC : ∀ o, s'.heap.get? C = some o → s''.heap.get? C = some o := fun o e => k.keep C o (fun q => by
      obtain ⟨m, o, _, _, e', _⟩ := X.ns
      exact nC _ o e' q.symm) (fun z k1 k2 => by
      obtain ⟨v, o, e', _⟩ := X.cellv z C (.inl k1) k2
      exact nC _ o e' rfl) (fun z ys q => by
      obtain ⟨_, _, vs, ⟨_, e'⟩, _⟩ := X.own z C ys q
      exact nC _ _ e' rfl) (fun t ht q => by
      obtain ⟨_, ps, e', _⟩ := X.step.inv.tab t ht
      exact nC _ _ e' q.symm) e
  refine ⟨m, let ⟨o, es, ep, e, r⟩ := hn; ⟨o, es, ep, hkC o e, r⟩, fun h' hs' => ?_⟩
  have hk' : ∀ b o, b ≠ C → s''.heap.get? b = some o → h'.get? b = some o := fun b o hb e => hs'.extBut b o hb e
  obtain ⟨oC, es, ep, eC, hd, _⟩ := id hn
  have eC' := hkC _ eC
  refine ⟨_, own, hq, X'.touch at_.inv (tk := s''.toks) (D := (· = C)) (fun b hb => by rw [hb]; exact X.step.gone at_.inv hC) (fun b o hb e => by rw [hb, eC'] at e; cases e; exact mut_dict hd) (fun q => ?_) (fun z a h e q => ?_) (fun b o hb _ e => by rw [hb, eC'] at e; cases e; exact fun q => by obtain ⟨_, its, _, d'⟩ := q; rw [hd] at d'; cases d') (fun z a ys e q => ?_) hk', ?_⟩
  · obtain ⟨m, o, _, _, e', _⟩ := X.ns
    exact nC _ o e' q
  · obtain ⟨v, o, e', _⟩ := X.cellv z a h e
    exact nC _ o e' q
  · obtain ⟨_, _, vs, ⟨_, e'⟩, _⟩ := X.own z a ys e
    exact nC _ _ e' q
  · have k' := (Kp.step (own := own) (env := env) st).trans k
    refine ⟨fun b o h1 h2 h3 h4 e => hk' b o (nC b o e) (k'.keep b o h1 h2 h3 h4 e), k'.own, fun b o e => ?_, k'.gens⟩
    obtain ⟨o', e'⟩ := k'.stay b o e
    exact ⟨o', hk' b o' (nC b o e) e'⟩

end

theorem datas_map {α : Type} (f : α → V) (l : List α) : V.datas (l.map f) = l.map fun x => (f x).data := by
  induction l with
  | nil => rfl
  | cons x r ih => rw [List.map_cons, V.datas, ih]; rfl
theorem eqvAll_ints : ∀ (a b : List Int), PyData.eqvAll (V.datas (a.map V.int)) (V.datas (b.map V.int)) = decide (a = b)
  | [], [] => rfl
  | [], _ :: _ => rfl
  | _ :: _, [] => rfl
  | x :: a, y :: b => by
    rw [List.map_cons, List.map_cons, V.datas, V.datas, PyData.eqvAll, eqvAll_ints a b]
    show ((x == y) && _) = _
    rw [Bool.eq_iff_iff]
    simp
theorem canLay_ints : ∀ a : List Int, PyData.canLayAll0 (V.datas (a.map V.int)) = true
  | [] => rfl
  | x :: a => by rw [List.map_cons, V.datas, PyData.canLayAll0, canLay_ints a]; rfl
theorem depth_ints : ∀ a : List Int, PyData.depthAll (V.datas (a.map V.int)) ≤ 1
  | [] => by decide
  | x :: a => by
    have := depth_ints a
    rw [List.map_cons, V.datas, PyData.depthAll]
    have e : (V.int x).data.depth ≤ 1 := by show PyData.depth (.int x) ≤ 1; rw [PyData.depth] <;> simp
    omega
theorem shaped_ints (a : List Int) : SeqAt.shaped (V.list (a.map V.int)).data = true := by
  show (PyData.canLayAll0 (V.datas (a.map V.int)) && decide (PyData.depth (.list (V.datas (a.map V.int))) ≤ 64)) = true
  have := depth_ints a
  have e : PyData.depth (.list (V.datas (a.map V.int))) = PyData.depthAll (V.datas (a.map V.int)) + 1 := by rw [PyData.depth]
  rw [canLay_ints, e]; simp; omega
section
variable {c : Cx} {n : Nat}
theorem CmpV.bool {op : CmpOp} {a b : V} {r r' : Bool} (h : CmpV c n op a b r) (e : r = r') : CmpV c n op a b r' := e ▸ h
theorem CmpV.eq_ints {a b : List Int} : CmpV c n .Eq (.list (a.map V.int)) (.list (b.map V.int)) (decide (a = b)) :=
  (CmpV.eq_data (shaped_ints a) (shaped_ints b)).bool (eqvAll_ints a b)
theorem CmpV.ne_ints {a b : List Int} : CmpV c n .NotEq (.list (a.map V.int)) (.list (b.map V.int)) (!decide (a = b)) :=
  (CmpV.ne_data (shaped_ints a) (shaped_ints b)).bool (congrArg (!·) (eqvAll_ints a b))
theorem CmpV.in_list {a : V} {l : List V} (ha : SeqAt.shaped a.data = true) (hl : PyData.canLayAll0 (V.datas l) = true) : CmpV c n .In a (.list l) ((V.datas l).any fun y => PyData.eqv y a.data) := .mk fun P A E s va vb at_ ra rb => by
  obtain ⟨as, h1⟩ := ra.reads; obtain ⟨bs, h2⟩ := rb.reads
  refine SeqAt.in_list_reads h2 h1 hl (SeqAt.canLay_of_shaped ha) ?_ ⟨rfl, Step.refl at_.inv⟩
  have := at_.room.units (k := 100) (by decide)
  have h3 := SeqAt.depth_of_shaped ha
  have h4 : min (PyData.depthAll (V.datas l)) a.data.depth ≤ a.data.depth := Nat.min_le_right _ _
  omega

theorem strs_of {P : Addr → Prop} {h : Heap} : ∀ {l : List (List Nat)} {vs : List Value}, Reps P h (l.map V.s) vs → StrsAre vs (l.map fun x => ⟨x.toArray⟩)
  | [], vs, r => by rw [r.nil_inv]; exact .nil
  | x :: l, vs, r => by
    rw [List.map_cons] at r
    obtain ⟨v, w, rfl, r1, r2⟩ := r.cons_inv
    obtain ⟨_, t, rfl⟩ := r1.str_inv
    exact .cons _ t (strs_of r2)
theorem strs_at {vs : List Value} {ys : List Str} {k : Str} (h : StrsAre vs ys) : ∀ (j : Nat) (h1 : j < vs.length) (h2 : j < ys.length), isStrOf k vs[j] = (ys[j] == k) := by
  induction h with
  | nil => intro j h1; simp at h1
  | cons n t h ih =>
    intro j h1 h2
    cases j with
    | zero => rfl
    | succ j => simpa using ih j (by simpa using h1) (by simpa using h2)
theorem idx_ne {α : Type} [BEq α] [LawfulBEq α] {k : α} : ∀ {ns : List α} {j : Nat}, j < ns.idxOf k → ∀ (h2 : j < ns.length), ns[j] ≠ k
  | n :: r, 0, h, _ => fun e => by
    have e : n = k := e
    subst e; simp at h
  | n :: r, j + 1, h, h2 => by
    by_cases e : n = k
    · subst e; simp at h
    · have hb : (n == k) = false := by simpa using e
      have h' : j < r.idxOf k := by
        rw [List.idxOf_cons, hb] at h
        exact Nat.lt_of_succ_lt_succ h
      exact idx_ne h' (Nat.lt_of_succ_lt_succ h2)
theorem MethV.index_s {l : List (List Nat)} {a : List Nat} (ha : a ∈ l) (hl : l.length ≤ 1000) : MethV c n (.list (l.map V.s)) "index" [V.s a] (.int (l.idxOf a : Nat)) :=
  ⟨"list", "list.index", PySem.F.plainAttrs_list, PySem.F.slot_list_index, PySem.F.type_list_index, meth_list, .mk fun P A E s vs at_ rs => by
    obtain ⟨v, w, rfl, r, rs⟩ := rs.cons_inv
    obtain ⟨v2, w2, rfl, r2, rs⟩ := rs.cons_inv
    obtain rfl := rs.nil_inv
    obtain ⟨ad, us, rfl, hP, hl', hlen, rus⟩ := r.list_inv
    obtain ⟨_, t, rfl⟩ := r2.str_inv
    obtain ⟨k, ho⟩ := hl'
    have hi := strs_of rus
    have hlen := rus.length
    rw [List.length_map] at hlen
    have hj : l.idxOf a < l.length := List.idxOf_lt_length_iff.mpr ha
    refine call_meets PySem.F.slot_list_index ⟨_, ho, rfl⟩ PySem.F.entry_list_index (PySem.F.args_list_index_2 _ _)
      (SeqAt.list_indexAt ad us.toArray k Option.none #[] (.str ⟨a.toArray⟩ t) (isStrOf ⟨a.toArray⟩) (l.idxOf a) (by simpa [hlen] using hj) (by omega) ?_ ?_) ⟨ho, fun y hy => (eq_isStrOf _ t hi y (by simpa using hy)).at _ _, rep_int, Step.toks at_.inv⟩
    · show isStrOf _ us[l.idxOf a] = true
      rw [strs_at hi _ (by omega) (by simpa using hj)]
      simp
    · intro j hjs hlt
      show isStrOf _ us[j] = false
      rw [strs_at hi j (by simpa using hjs) (by simp; omega)]
      rw [List.getElem_map, str_inj]
      have := idx_ne hlt (by simp at hjs; omega)
      simpa using this⟩

theorem strVals_of {P : Addr → Prop} {h : Heap} : ∀ {l : List Nat} {vs : List Value}, Reps P h (l.map fun ch => V.s [ch]) vs → ∃ ps : List (Str × Tok), vs = PySem.strValues ps ∧ ps.map (·.1) = l.map fun ch => ⟨#[ch]⟩
  | [], vs, r => by rw [r.nil_inv]; exact ⟨[], rfl, rfl⟩
  | x :: l, vs, r => by
    rw [List.map_cons] at r
    obtain ⟨v, w, rfl, r1, r2⟩ := r.cons_inv
    obtain ⟨_, t, rfl⟩ := r1.str_inv
    obtain ⟨ps, rfl, e⟩ := strVals_of r2
    exact ⟨(_, t) :: ps, rfl, by rw [List.map_cons, e]; rfl⟩
theorem glue_fold : ∀ (l : List Nat) (acc : Array Nat), (l.map fun ch => (⟨#[ch]⟩ : Str)).foldl (fun acc p => acc ++ (⟨#[]⟩ : Str).cps ++ p.cps) acc = acc ++ l.toArray
  | [], acc => by simp
  | x :: l, acc => by
    rw [List.map_cons, List.foldl_cons, glue_fold l]
    show (acc ++ #[] ++ #[x]) ++ l.toArray = _
    apply Array.ext'
    simp
theorem join_s (l : List Nat) : Txt.join ⟨#[]⟩ (l.map fun ch => ⟨#[ch]⟩) = ⟨l.toArray⟩ := by
  cases l with
  | nil => rfl
  | cons x l =>
    show Builtin.Str.glued _ _ = _
    unfold Builtin.Str.glued
    rw [List.map_cons, List.drop_succ_cons, List.drop_zero, List.headD_cons, glue_fold]
    congr 1
    apply Array.ext'
    simp
theorem sum_ones (l : List Nat) : ((l.map fun ch => (⟨#[ch]⟩ : Str)).map (·.length)).sum = l.length := by
  induction l with
  | nil => rfl
  | cons x l ih => rw [List.map_cons, List.map_cons, List.sum_cons, ih, List.length_cons]; show 1 + _ = _; omega
theorem MethV.join_s {l : List Nat} (hl : l.length ≤ 1000) : MethV c n (V.s []) "join" [.list (l.map fun ch => V.s [ch])] (V.s l) :=
  ⟨"str", "str.join", PySem.F.plainAttrs_str, PySem.F.slot_str_join, PySem.F.type_str_join, meth_str, .mk fun P A E s vs at_ rs => by
    obtain ⟨v, w, rfl, r, rs⟩ := rs.cons_inv
    obtain ⟨v2, w2, rfl, r2, rs⟩ := rs.cons_inv
    obtain rfl := rs.nil_inv
    obtain ⟨_, t, rfl⟩ := r.str_inv
    obtain ⟨ad, us, rfl, hP, hl', hlen, rus⟩ := r2.list_inv
    obtain ⟨ps, rfl, e⟩ := strVals_of rus
    refine SC.join hl'.isList e (joinOk_of_weight ?_ (by decide)) fun t' k => ?_
    · have e2 := sum_ones l
      rw [e2, List.length_map]; omega
    · have e3 : Txt.join ⟨([] : List Nat).toArray⟩ (l.map fun ch => ⟨#[ch]⟩) = ⟨l.toArray⟩ := Mine.join_s l
      rw [e3]
      exact ⟨rep_str (by show l.length ≤ _; have : lim = 1048576 := rfl; omega), Step.toks at_.inv⟩⟩
end

/-- a function of the text, by its place in it -/
noncomputable def fnOf (i : Nat) (pm cd doc : Value) : Obj := match PySem.Challenge.pw_sc0069_02.main.body.drop i with
  | .FunctionDef name params body _ _ _ scope _ _ _ :: _ => { cls := .type "function", data := .func (docDef name params body scope pm cd doc) }
  | _ => { cls := .none }
/-- the objects that the walk reads -/
noncomputable def KK (P : Params) : Frag := [
  (3, { cls := Value.type "dict", data := Data.dict #[{ hash := PyData.keyHash P (Str.ofString "__name__"), key := Value.str (Str.ofString "__name__") 165, val := Value.str (Str.ofString "law_sc0069_02") 326 }, { hash := PyData.keyHash P (Str.ofString "__doc__"), key := Value.str (Str.ofString "__doc__") 166, val := Value.none }, { hash := PyData.keyHash P (Str.ofString "__package__"), key := Value.str (Str.ofString "__package__") 167, val := Value.none }, { hash := PyData.keyHash P (Str.ofString "__loader__"), key := Value.str (Str.ofString "__loader__") 168, val := Value.builtin "__main__.__loader__#opaque" }, { hash := PyData.keyHash P (Str.ofString "__spec__"), key := Value.str (Str.ofString "__spec__") 169, val := Value.none }, { hash := PyData.keyHash P (Str.ofString "__annotations__"), key := Value.str (Str.ofString "__annotations__") 170, val := Value.ref 6 }, { hash := PyData.keyHash P (Str.ofString "__builtins__"), key := Value.str (Str.ofString "__builtins__") 171, val := Value.ref 4 }, { hash := PyData.keyHash P (Str.ofString "__file__"), key := Value.str (Str.ofString "__file__") 173, val := Value.str (Str.ofString "/claim/cut.py") 172 }, { hash := PyData.keyHash P (Str.ofString "__cached__"), key := Value.str (Str.ofString "__cached__") 174, val := Value.none }, { hash := PyData.keyHash P (Str.ofString "_MAX_STRING_SIZE"), key := Value.str (Str.ofString "_MAX_STRING_SIZE") 190, val := Value.int 40 189 }, { hash := PyData.keyHash P (Str.ofString "_MOVE_COST"), key := Value.str (Str.ofString "_MOVE_COST") 192, val := Value.int 2 191 }, { hash := PyData.keyHash P (Str.ofString "_CASE_COST"), key := Value.str (Str.ofString "_CASE_COST") 194, val := Value.int 1 193 }, { hash := PyData.keyHash P (Str.ofString "_substitution_cost"), key := Value.str (Str.ofString "_substitution_cost") 202, val := Value.ref 21 }, { hash := PyData.keyHash P (Str.ofString "_levenshtein_distance"), key := Value.str (Str.ofString "_levenshtein_distance") 222, val := Value.ref 28 }, { hash := PyData.keyHash P (Str.ofString "_DIV_LIMIT"), key := Value.str (Str.ofString "_DIV_LIMIT") 226, val := Value.int 4000 225 }, { hash := PyData.keyHash P (Str.ofString "_div2n1n"), key := Value.str (Str.ofString "_div2n1n") 243, val := Value.ref 35 }, { hash := PyData.keyHash P (Str.ofString "_div3n2n"), key := Value.str (Str.ofString "_div3n2n") 257, val := Value.ref 42 }, { hash := PyData.keyHash P (Str.ofString "_int2digits"), key := Value.str (Str.ofString "_int2digits") 268, val := Value.ref 49 }, { hash := PyData.keyHash P (Str.ofString "_digits2int"), key := Value.str (Str.ofString "_digits2int") 279, val := Value.ref 56 }, { hash := PyData.keyHash P (Str.ofString "_divmod_pos"), key := Value.str (Str.ofString "_divmod_pos") 294, val := Value.ref 63 }, { hash := PyData.keyHash P (Str.ofString "int_divmod"), key := Value.str (Str.ofString "int_divmod") 304, val := Value.ref 70 }, { hash := PyData.keyHash P (Str.ofString "_strcoll"), key := Value.str (Str.ofString "_strcoll") 314, val := Value.ref 77 }, { hash := PyData.keyHash P (Str.ofString "CHAR_MAX"), key := Value.str (Str.ofString "CHAR_MAX") 316, val := Value.int 127 315 }, { hash := PyData.keyHash P (Str.ofString "_grouping_intervals"), key := Value.str (Str.ofString "_grouping_intervals") 325, val := Value.ref 84 }, { hash := PyData.keyHash P (Str.ofString "_law_row"), key := Value.str (Str.ofString "_law_row") 335, val := Value.ref 91 }, { hash := PyData.keyHash P (Str.ofString "_law_due"), key := Value.str (Str.ofString "_law_due") 344, val := Value.ref 98 }, { hash := PyData.keyHash P (Str.ofString "_law_told"), key := Value.str (Str.ofString "_law_told") 354, val := Value.ref 105 }, { hash := PyData.keyHash P (Str.ofString "_law_holds"), key := Value.str (Str.ofString "_law_holds") 364, val := Value.ref 112 }, { hash := PyData.keyHash P (Str.ofString "_law_cost"), key := Value.str (Str.ofString "_law_cost") 374, val := Value.ref 119 }, { hash := PyData.keyHash P (Str.ofString "_law_said"), key := Value.str (Str.ofString "_law_said") 383, val := Value.ref 126 }, { hash := PyData.keyHash P (Str.ofString "_law_laid"), key := Value.str (Str.ofString "_law_laid") 393, val := Value.ref 133 }, { hash := PyData.keyHash P (Str.ofString "_law_turns"), key := Value.str (Str.ofString "_law_turns") 399, val := Value.ref 138 }, { hash := PyData.keyHash P (Str.ofString "_law_chords"), key := Value.str (Str.ofString "_law_chords") 405, val := Value.ref 143 }, { hash := PyData.keyHash P (Str.ofString "law"), key := Value.str (Str.ofString "law") 411, val := Value.ref 148 }] 34 }),
  (20, { cls := Value.type "code", data := Data.fields #[Value.str (Str.ofString "_substitution_cost") 195, Value.str (Str.ofString "_substitution_cost") 196, Value.str (Str.ofString "/claim/cut.py") 197, Value.int 5 0, Value.int 2 0, Value.int 0 0, Value.int 0 0, Value.int 3 0, Value.ref 15, Value.bool true, Value.int 181 0, Value.ref 16, Value.none, Value.ref 17, Value.ref 18, Value.ref 19, Value.int 200 0, Value.int 5 0, Value.str (Str.ofString "/claim/cut.py") 201] }),
  (21, fnOf 4 (Value.str (Str.ofString "cpy313.traceback") 187) (Value.ref 20) (Value.none)),
  (27, { cls := Value.type "code", data := Data.fields #[Value.str (Str.ofString "_levenshtein_distance") 203, Value.str (Str.ofString "_levenshtein_distance") 204, Value.str (Str.ofString "/claim/cut.py") 205, Value.int 11 0, Value.int 3 0, Value.int 0 0, Value.int 0 0, Value.int 3 0, Value.ref 22, Value.bool true, Value.int 181 0, Value.ref 23, Value.none, Value.ref 24, Value.ref 25, Value.ref 26, Value.int 220 0, Value.int 11 0, Value.str (Str.ofString "/claim/cut.py") 221] }),
  (28, fnOf 5 (Value.str (Str.ofString "cpy313.traceback") 187) (Value.ref 27) (Value.none)),
  (34, { cls := Value.type "code", data := Data.fields #[Value.str (Str.ofString "_div2n1n") 227, Value.str (Str.ofString "_div2n1n") 228, Value.str (Str.ofString "/claim/cut.py") 229, Value.int 51 0, Value.int 3 0, Value.int 0 0, Value.int 0 0, Value.int 3 0, Value.ref 29, Value.bool true, Value.int 181 0, Value.ref 30, Value.none, Value.ref 31, Value.ref 32, Value.ref 33, Value.int 241 0, Value.int 51 0, Value.str (Str.ofString "/claim/cut.py") 242] }),
  (35, fnOf 8 (Value.str (Str.ofString "cpy313._pylong") 223) (Value.ref 34) (Value.none)),
  (41, { cls := Value.type "code", data := Data.fields #[Value.str (Str.ofString "_div3n2n") 244, Value.str (Str.ofString "_div3n2n") 245, Value.str (Str.ofString "/claim/cut.py") 246, Value.int 67 0, Value.int 6 0, Value.int 0 0, Value.int 0 0, Value.int 3 0, Value.ref 36, Value.bool true, Value.int 181 0, Value.ref 37, Value.none, Value.ref 38, Value.ref 39, Value.ref 40, Value.int 255 0, Value.int 67 0, Value.str (Str.ofString "/claim/cut.py") 256] }),
  (42, fnOf 9 (Value.str (Str.ofString "cpy313._pylong") 223) (Value.ref 41) (Value.none)),
  (48, { cls := Value.type "code", data := Data.fields #[Value.str (Str.ofString "_int2digits") 258, Value.str (Str.ofString "_int2digits") 259, Value.str (Str.ofString "/claim/cut.py") 260, Value.int 77 0, Value.int 2 0, Value.int 0 0, Value.int 0 0, Value.int 3 0, Value.ref 43, Value.bool true, Value.int 181 0, Value.ref 44, Value.none, Value.ref 45, Value.ref 46, Value.ref 47, Value.int 266 0, Value.int 77 0, Value.str (Str.ofString "/claim/cut.py") 267] }),
  (49, fnOf 10 (Value.str (Str.ofString "cpy313._pylong") 223) (Value.ref 48) (Value.none)),
  (55, { cls := Value.type "code", data := Data.fields #[Value.str (Str.ofString "_digits2int") 269, Value.str (Str.ofString "_digits2int") 270, Value.str (Str.ofString "/claim/cut.py") 271, Value.int 93 0, Value.int 2 0, Value.int 0 0, Value.int 0 0, Value.int 3 0, Value.ref 50, Value.bool true, Value.int 181 0, Value.ref 51, Value.none, Value.ref 52, Value.ref 53, Value.ref 54, Value.int 277 0, Value.int 93 0, Value.str (Str.ofString "/claim/cut.py") 278] }),
  (56, fnOf 11 (Value.str (Str.ofString "cpy313._pylong") 223) (Value.ref 55) (Value.none)),
  (62, { cls := Value.type "code", data := Data.fields #[Value.str (Str.ofString "_divmod_pos") 280, Value.str (Str.ofString "_divmod_pos") 281, Value.str (Str.ofString "/claim/cut.py") 282, Value.int 102 0, Value.int 2 0, Value.int 0 0, Value.int 0 0, Value.int 3 0, Value.ref 57, Value.bool true, Value.int 181 0, Value.ref 58, Value.none, Value.ref 59, Value.ref 60, Value.ref 61, Value.int 292 0, Value.int 102 0, Value.str (Str.ofString "/claim/cut.py") 293] }),
  (63, fnOf 12 (Value.str (Str.ofString "cpy313._pylong") 223) (Value.ref 62) (Value.none)),
  (69, { cls := Value.type "code", data := Data.fields #[Value.str (Str.ofString "int_divmod") 295, Value.str (Str.ofString "int_divmod") 296, Value.str (Str.ofString "/claim/cut.py") 297, Value.int 113 0, Value.int 2 0, Value.int 0 0, Value.int 0 0, Value.int 3 0, Value.ref 64, Value.bool true, Value.int 181 0, Value.ref 65, Value.none, Value.ref 66, Value.ref 67, Value.ref 68, Value.int 302 0, Value.int 113 0, Value.str (Str.ofString "/claim/cut.py") 303] }),
  (70, fnOf 13 (Value.str (Str.ofString "cpy313._pylong") 223) (Value.ref 69) (Value.none)),
  (76, { cls := Value.type "code", data := Data.fields #[Value.str (Str.ofString "_strcoll") 307, Value.str (Str.ofString "_strcoll") 308, Value.str (Str.ofString "/claim/cut.py") 309, Value.int 125 0, Value.int 2 0, Value.int 0 0, Value.int 0 0, Value.int 3 0, Value.ref 71, Value.bool true, Value.int 181 0, Value.ref 72, Value.none, Value.ref 73, Value.ref 74, Value.ref 75, Value.int 312 0, Value.int 125 0, Value.str (Str.ofString "/claim/cut.py") 313] }),
  (77, fnOf 15 (Value.str (Str.ofString "cpy313.locale") 305) (Value.ref 76) (Value.none)),
  (83, { cls := Value.type "code", data := Data.fields #[Value.str (Str.ofString "_grouping_intervals") 317, Value.str (Str.ofString "_grouping_intervals") 318, Value.str (Str.ofString "/claim/cut.py") 319, Value.int 128 0, Value.int 1 0, Value.int 0 0, Value.int 0 0, Value.int 35 0, Value.ref 78, Value.bool true, Value.int 181 0, Value.ref 79, Value.none, Value.ref 80, Value.ref 81, Value.ref 82, Value.int 323 0, Value.int 128 0, Value.str (Str.ofString "/claim/cut.py") 324] }),
  (84, fnOf 17 (Value.str (Str.ofString "cpy313.locale") 305) (Value.ref 83) (Value.none)),
  (90, { cls := Value.type "code", data := Data.fields #[Value.str (Str.ofString "_law_row") 328, Value.str (Str.ofString "_law_row") 329, Value.str (Str.ofString "/claim/cut.py") 330, Value.int 141 0, Value.int 2 0, Value.int 0 0, Value.int 0 0, Value.int 3 0, Value.ref 85, Value.bool true, Value.int 181 0, Value.ref 86, Value.none, Value.ref 87, Value.ref 88, Value.ref 89, Value.int 333 0, Value.int 141 0, Value.str (Str.ofString "/claim/cut.py") 334] }),
  (91, fnOf 19 (Value.str (Str.ofString "law_sc0069_02") 326) (Value.ref 90) (Value.none)),
  (97, { cls := Value.type "code", data := Data.fields #[Value.str (Str.ofString "_law_due") 336, Value.str (Str.ofString "_law_due") 337, Value.str (Str.ofString "/claim/cut.py") 338, Value.int 147 0, Value.int 2 0, Value.int 0 0, Value.int 0 0, Value.int 3 0, Value.ref 92, Value.bool true, Value.int 181 0, Value.ref 93, Value.none, Value.ref 94, Value.ref 95, Value.ref 96, Value.int 342 0, Value.int 147 0, Value.str (Str.ofString "/claim/cut.py") 343] }),
  (98, fnOf 20 (Value.str (Str.ofString "law_sc0069_02") 326) (Value.ref 97) (Value.none)),
  (104, { cls := Value.type "code", data := Data.fields #[Value.str (Str.ofString "_law_told") 345, Value.str (Str.ofString "_law_told") 346, Value.str (Str.ofString "/claim/cut.py") 347, Value.int 152 0, Value.int 2 0, Value.int 0 0, Value.int 0 0, Value.int 3 0, Value.ref 99, Value.bool true, Value.int 181 0, Value.ref 100, Value.none, Value.ref 101, Value.ref 102, Value.ref 103, Value.int 352 0, Value.int 152 0, Value.str (Str.ofString "/claim/cut.py") 353] }),
  (105, fnOf 21 (Value.str (Str.ofString "law_sc0069_02") 326) (Value.ref 104) (Value.none)),
  (111, { cls := Value.type "code", data := Data.fields #[Value.str (Str.ofString "_law_holds") 355, Value.str (Str.ofString "_law_holds") 356, Value.str (Str.ofString "/claim/cut.py") 357, Value.int 159 0, Value.int 2 0, Value.int 0 0, Value.int 0 0, Value.int 3 0, Value.ref 106, Value.bool true, Value.int 181 0, Value.ref 107, Value.none, Value.ref 108, Value.ref 109, Value.ref 110, Value.int 362 0, Value.int 159 0, Value.str (Str.ofString "/claim/cut.py") 363] }),
  (112, fnOf 22 (Value.str (Str.ofString "law_sc0069_02") 326) (Value.ref 111) (Value.none)),
  (118, { cls := Value.type "code", data := Data.fields #[Value.str (Str.ofString "_law_cost") 365, Value.str (Str.ofString "_law_cost") 366, Value.str (Str.ofString "/claim/cut.py") 367, Value.int 165 0, Value.int 4 0, Value.int 0 0, Value.int 0 0, Value.int 3 0, Value.ref 113, Value.bool true, Value.int 181 0, Value.ref 114, Value.none, Value.ref 115, Value.ref 116, Value.ref 117, Value.int 372 0, Value.int 165 0, Value.str (Str.ofString "/claim/cut.py") 373] }),
  (119, fnOf 23 (Value.str (Str.ofString "law_sc0069_02") 326) (Value.ref 118) (Value.none)),
  (125, { cls := Value.type "code", data := Data.fields #[Value.str (Str.ofString "_law_said") 375, Value.str (Str.ofString "_law_said") 376, Value.str (Str.ofString "/claim/cut.py") 377, Value.int 169 0, Value.int 3 0, Value.int 0 0, Value.int 0 0, Value.int 3 0, Value.ref 120, Value.bool true, Value.int 181 0, Value.ref 121, Value.none, Value.ref 122, Value.ref 123, Value.ref 124, Value.int 381 0, Value.int 169 0, Value.str (Str.ofString "/claim/cut.py") 382] }),
  (126, fnOf 24 (Value.str (Str.ofString "law_sc0069_02") 326) (Value.ref 125) (Value.none)),
  (132, { cls := Value.type "code", data := Data.fields #[Value.str (Str.ofString "_law_laid") 384, Value.str (Str.ofString "_law_laid") 385, Value.str (Str.ofString "/claim/cut.py") 386, Value.int 173 0, Value.int 3 0, Value.int 0 0, Value.int 0 0, Value.int 3 0, Value.ref 127, Value.bool true, Value.int 181 0, Value.ref 128, Value.none, Value.ref 129, Value.ref 130, Value.ref 131, Value.int 391 0, Value.int 173 0, Value.str (Str.ofString "/claim/cut.py") 392] }),
  (133, fnOf 25 (Value.str (Str.ofString "law_sc0069_02") 326) (Value.ref 132) (Value.none)),
  (137, { cls := Value.type "code", data := Data.fields #[Value.str (Str.ofString "_law_turns") 394, Value.str (Str.ofString "_law_turns") 395, Value.str (Str.ofString "/claim/cut.py") 396, Value.int 178 0, Value.int 4 0, Value.int 0 0, Value.int 0 0, Value.int 3 0, Value.ref 134, Value.bool true, Value.int 181 0, Value.ref 135, Value.none, Value.none, Value.none, Value.ref 136, Value.int 397 0, Value.int 178 0, Value.str (Str.ofString "/claim/cut.py") 398] }),
  (138, fnOf 26 (Value.str (Str.ofString "law_sc0069_02") 326) (Value.ref 137) (Value.none)),
  (142, { cls := Value.type "code", data := Data.fields #[Value.str (Str.ofString "_law_chords") 400, Value.str (Str.ofString "_law_chords") 401, Value.str (Str.ofString "/claim/cut.py") 402, Value.int 188 0, Value.int 2 0, Value.int 0 0, Value.int 0 0, Value.int 3 0, Value.ref 139, Value.bool true, Value.int 181 0, Value.ref 140, Value.none, Value.none, Value.none, Value.ref 141, Value.int 403 0, Value.int 188 0, Value.str (Str.ofString "/claim/cut.py") 404] }),
  (143, fnOf 27 (Value.str (Str.ofString "law_sc0069_02") 326) (Value.ref 142) (Value.none)),
  (147, { cls := Value.type "code", data := Data.fields #[Value.str (Str.ofString "law") 406, Value.str (Str.ofString "law") 407, Value.str (Str.ofString "/claim/cut.py") 408, Value.int 200 0, Value.int 1 0, Value.int 0 0, Value.int 0 0, Value.int 3 0, Value.ref 144, Value.bool true, Value.int 181 0, Value.ref 145, Value.none, Value.none, Value.none, Value.ref 146, Value.int 409 0, Value.int 200 0, Value.str (Str.ofString "/claim/cut.py") 410] }),
  (148, fnOf 28 (Value.str (Str.ofString "law_sc0069_02") 326) (Value.ref 147) (Value.none))]

section
variable {c : Cx} {P : Params} {env : Env}
noncomputable abbrev A__substitution_cost : Addr := 21
noncomputable abbrev A__levenshtein_distance : Addr := 28
noncomputable abbrev A__div2n1n : Addr := 35
noncomputable abbrev A__int2digits : Addr := 49
noncomputable abbrev A__digits2int : Addr := 56
noncomputable abbrev A__divmod_pos : Addr := 63
noncomputable abbrev A_int_divmod : Addr := 70
noncomputable abbrev A__strcoll : Addr := 77
noncomputable abbrev A__grouping_intervals : Addr := 84
noncomputable abbrev A__law_row : Addr := 91
noncomputable abbrev A__law_due : Addr := 98
noncomputable abbrev A__law_told : Addr := 105
noncomputable abbrev A__law_holds : Addr := 112
noncomputable abbrev A__law_cost : Addr := 119
noncomputable abbrev A__law_said : Addr := 126
noncomputable abbrev A__law_laid : Addr := 133
noncomputable abbrev A__law_turns : Addr := 138
noncomputable abbrev A__law_chords : Addr := 143
/-- what the names of the text and the built-in ones that it asks stand for -/
noncomputable def gloTab : List (Str × Value) := [(Str.ofString "len", .builtin "len"),
  (Str.ofString "range", .type "range"),
  (Str.ofString "sum", .builtin "sum"),
  (Str.ofString "isinstance", .builtin "isinstance"),
  (Str.ofString "min", .builtin "min"),
  (Str.ofString "_levenshtein_distance", .ref A__levenshtein_distance),
  (Str.ofString "_MOVE_COST", .int 2 191),
  (Str.ofString "_strcoll", .ref A__strcoll),
  (Str.ofString "_law_said", .ref A__law_said),
  (Str.ofString "_law_laid", .ref A__law_laid),
  (Str.ofString "_MAX_STRING_SIZE", .int 40 189),
  (Str.ofString "_CASE_COST", .int 1 193),
  (Str.ofString "_substitution_cost", .ref A__substitution_cost),
  (Str.ofString "_DIV_LIMIT", .int 4000 225),
  (Str.ofString "_div2n1n", .ref A__div2n1n),
  (Str.ofString "_int2digits", .ref A__int2digits),
  (Str.ofString "_digits2int", .ref A__digits2int),
  (Str.ofString "_divmod_pos", .ref A__divmod_pos),
  (Str.ofString "int_divmod", .ref A_int_divmod),
  (Str.ofString "CHAR_MAX", .int 127 315),
  (Str.ofString "_grouping_intervals", .ref A__grouping_intervals),
  (Str.ofString "_law_row", .ref A__law_row),
  (Str.ofString "_law_due", .ref A__law_due),
  (Str.ofString "_law_told", .ref A__law_told),
  (Str.ofString "_law_holds", .ref A__law_holds),
  (Str.ofString "_law_cost", .ref A__law_cost),
  (Str.ofString "_law_turns", .ref A__law_turns),
  (Str.ofString "_law_chords", .ref A__law_chords),
  (Str.ofString "max", .builtin "max"),
  (Str.ofString "abs", .builtin "abs"),
  (Str.ofString "sorted", .builtin "sorted"),
  (Str.ofString "divmod", .builtin "divmod"),
  (Str.ofString "int", .type "int"),
  (Str.ofString "bool", .type "bool"),
  (Str.ofString "list", .type "list"),
  (Str.ofString "reversed", .type "reversed"),
  (Str.ofString "str", .type "str"),
  (Str.ofString "ValueError", .type "ValueError")]

theorem glo_all (P : Params) : (gloTab.all fun p => match nsIn (KK P) mainGlobals p.1 with
    | some (some v) => v == p.2
    | some none => bootBuiltins p.1 == some p.2 && p.1 != "__name__"
    | none => false) = true := by kernel_rfl
theorem glo_dbg : (gloTab.all fun p => !(p.1 == ("__debug__" : Str))) = true := by decide +kernel
theorem glo_tab (H : Cok c (KK P)) {x : Str} {f : Value} (h : gloTab.lookup x = some f) (hk : env.kindOf x = some .globalImplicit) : Glo c env x f := by
  have hm := mem_of_lookup_some h
  have h1 := List.all_eq_true.mp (glo_all P) _ hm
  have h2 := List.all_eq_true.mp glo_dbg _ hm
  have h2' : (x == ("__debug__" : Str)) = false := by simpa using h2
  dsimp only at h1
  cases e : nsIn (KK P) mainGlobals x with
  | none => rw [e] at h1; cases h1
  | some o =>
    cases o with
    | some v => rw [e] at h1; exact Glo.g H (e.trans (by rw [beq_iff_eq.mp h1])) hk h2'
    | none =>
      rw [e] at h1
      simp only [Bool.and_eq_true] at h1
      exact Glo.b H e (beq_iff_eq.mp h1.1) (by simpa using h1.2) hk h2'
end


local macro_rules | `(tactic| tm_at "hx") => `(tactic| first | exact hx_none | exact hx_some rfl)
local macro_rules | `(tactic| tm_at "var") => `(tactic| first | exact Or.inl rfl | exact Or.inr ⟨rfl, rfl⟩)
local macro_rules | `(tactic| tm_at "glo") => `(tactic| (apply glo_tab (by assumption); rfl; rfl))
local macro_rules | `(tactic| tm_at "step") => `(tactic| first
  | exact Ev.int | exact Ev.bool | exact Ev.none | (apply Ev.name; rfl; rfl)
  | (apply Ev.gint; tm_at "glo")
  | (apply Ev.s; rfl; decide +kernel)
  | (refine' Ev.binop ?_ ?_ ?_) | (refine' Ev.unary ?_ ?_) | (refine' Ev.cmp ?_ ?_ ?_ (by show behindInMarks _ _ = _; rfl)) | (refine' Ev.sub ?_ ?_ ?_)
  | (refine' Ev.list ?_ ?_) | (refine' Ev.tuple ?_ ?_) | exact Nat.le_of_ble_eq_true rfl
  | (refine' Ev.fn (by assumption) (by tm_at "glo") (by kernel_rfl) (by show List.any _ _ = _; rfl) ?_ ?_)
  | (refine' Ev.call (by tm_at "glo") rfl (by show List.any _ _ = _; rfl) ?_ ?_)
  | (refine' Ev.meth rfl rfl (by show List.any _ _ = _; rfl) (by simp) ?_ ?_ ?_)
  | exact Evs.nil | (refine' Evs.cons ?_ ?_ (by show starEach _ _ = _; rfl))
  | (refine' EvIx.slice ?_ ?_ ?_) | (refine' EvIx.val ?_)
  | exact EvPart.none | (refine' EvPart.some ?_)
  | (refine' Tst.cmp ?_ ?_ ?_ (by show behindInMarks _ _ = _; rfl)) | (refine' Tst.not ?_) | (refine' Tst.bools ?_)
  | exact Tsts.and_nil | exact Tsts.or_nil
  | exact BinV.add_int | exact BinV.sub_int | exact BinV.sub_bool | (refine' BinV.mul_int ?_) | (refine' BinV.div_int ?_ ?_) | (refine' BinV.mod_int ?_) | (refine' BinV.pow_int ?_ ?_) | (refine' BinV.add_s ?_) | (refine' BinV.add_list ?_)
  | exact UnV.neg | exact UnV.inv
  | exact TruV.bool | exact TruV.int | exact TruV.s
  | exact CmpV.eq | exact CmpV.ne | exact CmpV.lt | exact CmpV.le | exact CmpV.gt | exact CmpV.ge | exact CmpV.eq_s | exact CmpV.ne_s | exact CmpV.lt_s | exact CmpV.gt_s | exact CmpV.ne_bool
  | exact CallV.len_list | exact CallV.len_s | exact CallV.len_tup | exact CallV.abs | exact CallV.min | exact CallV.max
  | exact SubV.s_from | exact SubV.s_rev | exact SubV.s_whole | exact SubV.l_rev)
local macro_rules | `(tactic| tm_at "ev") => `(tactic| repeat' (tm_at "step"))
local macro_rules | `(tactic| tm_at "asg") => `(tactic| (refine' WS.asg (by tm_at "var") (by tm_at "hx") (by rfl) ?_ ?_; rotate_left))
local macro_rules | `(tactic| tm_at "asgf") => `(tactic| (refine' WS.asgf (by tm_at "var") (by tm_at "hx") (by rfl) ?_ ?_ ?_; rotate_left))
local macro_rules | `(tactic| tm_at "ret") => `(tactic| (refine' WS.return ?_ ?_; rotate_left))
local macro_rules | `(tactic| tm_at "fn") => `(tactic| (intro vs h; rcases vs with _ | ⟨v1, _ | ⟨v2, _ | ⟨v3, _ | ⟨v4, _ | ⟨v5, r⟩⟩⟩⟩⟩ <;> first | rfl | (simp at h)))

section
variable {c : Cx} {P : Params} {n : Nat}

noncomputable def coll (a b : List Nat) : Int := (if decide (b < a) then 1 else 0) - (if decide (a < b) then 1 else 0)

theorem k_strcoll (H : Cok c (KK P)) {a b : List Nat} : CallV c (n + 1) (.ref A__strcoll) [V.s a, V.s b] (.int (coll a b)) := by
  refine CallV.def H.hK rfl rfl (by kernel_rfl) (ps := ["a", "b"]) (by tm_at "fn") (by decide) (by decide) rfl (fun L => ?_)
  tm_at "ret"
  · tm_at "ev"
  · rfl

noncomputable def subC (x y : Nat) : Int := if x = y then 0 else if lo x = lo y then 1 else 2

theorem k_subst (H : Cok c (KK P)) {x y : Nat} (hx : x < 128) (hy : y < 128) : CallV c (n + 1) (.ref A__substitution_cost) [V.s [x], V.s [y]] (.int (subC x y)) := by
  refine CallV.def H.hK rfl rfl (by kernel_rfl) (ps := ["ch_a", "ch_b"]) (by tm_at "fn") (by decide) (by decide) rfl (fun L => ?_)
  have ax : Ascii [x] := by intro z hz; simp at hz; omega
  have ay : Ascii [y] := by intro z hz; simp at hz; omega
  unfold subC
  refine WS.if (decide (x = y)) (Tst.eq (y := decide ([x] = [y])) ?_ (by simp)) (fun h => ?_) (fun h => ?_)
  · tm_at "ev"
  · tm_at "ret"
    · tm_at "ev"
    · simp at h; rw [if_pos h]
  refine WS.if (decide (lo x = lo y)) ?_ (fun h2 => ?_) (fun h2 => ?_)
  · exact Tst.eq (Tst.cmp (Ev.meth rfl rfl rfl (by simp) (Ev.name rfl rfl) Evs.nil (MethV.lower_s ax (by simp))) (Ev.meth rfl rfl rfl (by simp) (Ev.name rfl rfl) Evs.nil (MethV.lower_s ay (by simp))) CmpV.eq_s rfl) (by simp)
  · tm_at "ret"
    · tm_at "ev"
    · simp at h h2; rw [if_neg h, if_pos h2]
  tm_at "ret"
  · tm_at "ev"
  · simp at h h2; rw [if_neg h, if_neg h2]

/-! the distance, as the text computes it -/
noncomputable def levPre : List Nat → List Nat → Nat
  | x :: a, y :: b => if x = y then levPre a b + 1 else 0
  | _, _ => 0

structure LevSt where
  row : List Int
  dist : Int
  res : Int
  mn : Int

noncomputable def levStep (ch : Nat) (a : List Nat) (i : Nat) (s : LevSt) : LevSt :=
  let sub := s.dist + subC ch (a.getD i 0)
  let d := s.row.getD i 0
  let ins := (if d < s.res then d else s.res) + 2
  let r := if sub < ins then sub else ins
  { row := s.row.set i r, dist := d, res := r, mn := if r < s.mn then r else s.mn }
noncomputable def levIn (ch : Nat) (a : List Nat) (s : LevSt) : Nat → LevSt
  | 0 => s
  | i + 1 => levStep ch a i (levIn ch a s i)
noncomputable def levOut (a b : List Nat) (mx : Int) : Nat → Nat → List Int → Int → Int
  | 0, _, _, res => res
  | k + 1, j, row, res =>
    let s := levIn (b.getD j 0) a ⟨row, j * 2, j * 2, 9223372036854775807⟩ a.length
    if s.mn > mx then mx + 1 else levOut a b mx k (j + 1) s.row s.res
noncomputable def levRow (k : Nat) : List Int := (List.range k).map fun (i : Nat) => 2 + i * 2
noncomputable def levMid (a b : List Nat) (mx : Int) : Int :=
  if a = [] ∨ b = [] then 2 * ((a.length : Int) + b.length)
  else
    let (a, b) := if b.length < a.length then (b, a) else (a, b)
    if ((b.length : Int) - a.length) * 2 > mx then mx + 1 else levOut a b mx b.length 0 (levRow a.length) 0
noncomputable def lev (a b : List Nat) (mx : Int) : Int :=
  if a = b then 0
  else
    let p := levPre a b
    let a := a.drop p
    let b := b.drop p
    let q := levPre a.reverse b.reverse
    levMid (a.take (a.length - q)) (b.take (b.length - q)) mx

theorem levPre_le : ∀ (a b : List Nat), levPre a b ≤ a.length ∧ levPre a b ≤ b.length
  | x :: a, y :: b => by
    unfold levPre
    have := levPre_le a b
    split
    · simp; omega
    · simp
  | [], b => by simp [levPre]
  | x :: a, [] => by simp [levPre]
theorem levPre_turn : ∀ (a b : List Nat) (k : Nat), k ≤ levPre a b → (decide (k < levPre a b) = (decide (k < a.length) && (decide (k < b.length) && decide (a.getD k 0 = b.getD k 0))))
  | [], b, k, h => by simp [levPre] at h ⊢
  | x :: a, [], k, h => by simp [levPre] at h ⊢
  | x :: a, y :: b, k, h => by
    unfold levPre at h ⊢
    split at h
    · rename_i hxy
      rw [if_pos hxy]
      cases k with
      | zero => simp [hxy]
      | succ k =>
        have := levPre_turn a b k (by omega)
        simpa using this
    · rename_i hxy
      have : k = 0 := by omega
      subst this
      simp [hxy]
end

section
variable {c : Cx} {P : Params} {n : Nat}

theorem isEmpty_drop {l : List Nat} {k : Nat} : (!(l.drop k).isEmpty) = decide (k < l.length) := by
  by_cases h : k < l.length
  · rw [decide_eq_true h]
    cases e : l.drop k with
    | nil => have := congrArg List.length e; simp at this; omega
    | cons x r => rfl
  · rw [decide_eq_false h, List.drop_eq_nil_of_le (by omega)]; rfl
theorem isEmpty_take {l : List Nat} {k : Nat} : (!(l.take (l.length - k)).isEmpty) = decide (k < l.length) := by
  by_cases h : k < l.length
  · rw [decide_eq_true h]
    cases e : l.take (l.length - k) with
    | nil => have := congrArg List.length e; simp at this; omega
    | cons x r => rfl
  · rw [decide_eq_false h, show l.length - k = 0 by omega]; simp
theorem getD_reverse {l : List Nat} {k : Nat} (h : k < l.length) : l.reverse.getD k 0 = l.getD (l.length - (k + 1)) 0 := by
  rw [List.getD_eq_getElem?_getD, List.getD_eq_getElem?_getD, List.getElem?_reverse h]
  congr 2; omega
theorem ascii_getD {l : List Nat} (h : Ascii l) {k : Nat} : l.getD k 0 < 128 := by
  rw [List.getD_eq_getElem?_getD]
  cases e : l[k]? with
  | none => simp
  | some x => exact h x (List.mem_of_getElem? e)
theorem Ascii.drop {l : List Nat} (h : Ascii l) {k : Nat} : Ascii (l.drop k) := fun x hx => h x (List.mem_of_mem_drop hx)
theorem Ascii.take {l : List Nat} (h : Ascii l) {k : Nat} : Ascii (l.take k) := fun x hx => h x (List.mem_of_mem_take hx)
theorem levStep_row {ch : Nat} {a : List Nat} {i : Nat} {s : LevSt} : (levStep ch a i s).row.length = s.row.length := by simp [levStep]
theorem levIn_row {ch : Nat} {a : List Nat} {s : LevSt} : ∀ i, (levIn ch a s i).row.length = s.row.length
  | 0 => rfl
  | i + 1 => by unfold levIn; rw [levStep_row, levIn_row i]

theorem k_lev (H : Cok c (KK P)) {a b : List Nat} {mx : Int} (ha : Ascii a) (hb : Ascii b) (la : a.length ≤ 40) (lb : b.length ≤ 40) :
    CallV c (n + 2) (.ref A__levenshtein_distance) [V.s a, V.s b, .int mx] (.int (lev a b mx)) := by
  refine CallV.def (n := n + 1) H.hK rfl rfl (by kernel_rfl) (ps := ["a", "b", "max_cost"]) (by tm_at "fn") (by decide) (by decide) rfl (fun L => ?_)
  generalize ht : lev a b mx = t
  refine WS.if (decide (a = b)) ?_ (fun h => ?_) (fun h => ?_)
  · tm_at "ev"
  · tm_at "ret"
    · tm_at "ev"
    · simp at h; rw [← ht, lev, if_pos h]
  replace h : ¬ a = b := by simpa using h
  rw [lev, if_neg h] at ht
  simp only at ht
  tm_at "asg"
  · tm_at "ev"
  have hpre := levPre_le a b
  generalize hp : levPre a b = p at ht hpre
  refine WS.cut (fun ρ' own' => own' = none ∧ Has ρ' [("pre", .int (p : Int)), ("a", V.s a), ("b", V.s b), ("max_cost", .int mx)]) (WX.while (fun m ρ' own' => own' = none ∧ ∃ k : Nat, k + m = p ∧ Has ρ' [("pre", .int (k : Int)), ("a", V.s a), ("b", V.s b), ("max_cost", .int mx)]) p ⟨rfl, 0, by omega, ?_⟩ ?_) ?_
  · exact has_cons rfl (has_cons rfl (has_cons rfl (has_cons rfl has_nil)))
  · rintro m ρ' own' ⟨rfl, k, hk, hρ⟩
    refine ⟨decide (k < p), ?_, fun hv => ?_, fun hv => ?_⟩
    · refine Tst.eq (y := decide (k < a.length) && (decide (k < b.length) && (decide (a.getD k 0 = b.getD k 0) && true))) ?_ (by rw [← hp, levPre_turn a b k (by omega), Bool.and_true])
      refine Tst.bools (Tsts.and ?_ fun h1 => Tsts.and ?_ fun h2 => Tsts.and ?_ fun h3 => Tsts.and_nil)
      · refine Tst.eq (Tst.val (Ev.canon (ρ' := _) hρ ?_) TruV.s fun _ => rfl) isEmpty_drop
        tm_at "ev"
      · refine Tst.eq (Tst.val (Ev.canon (ρ' := _) hρ ?_) TruV.s fun _ => rfl) isEmpty_drop
        tm_at "ev"
      · refine Tst.eq (y := decide ([a.getD k 0] = [b.getD k 0])) (Tst.cmp (Ev.canon hρ ?_) (Ev.canon hρ ?_) CmpV.eq_s rfl) (by simp)
        · exact Ev.sub (Ev.name rfl rfl) (EvIx.val (Ev.name rfl rfl)) (SubV.s_nat (by simpa using h1))
        · exact Ev.sub (Ev.name rfl rfl) (EvIx.val (Ev.name rfl rfl)) (SubV.s_nat (by simpa using h2))
    · simp at hv
      refine WS.canon hρ (WS.cons (WX.aug rfl (Evo.of Ev.int) (by tm_at "var") (by tm_at "hx") (.inl ⟨rfl, rfl⟩) (WS.nil ⟨m - 1, by omega, rfl, k + 1, by omega, ?_⟩)))
      exact has_cons rfl (has_cons rfl (has_cons rfl (has_cons rfl has_nil)))
    · simp at hv
      obtain rfl : k = p := by omega
      exact ⟨rfl, hρ⟩
  rintro ρ1 own1 ⟨rfl, hρ1⟩
  refine WS.canon hρ1 ?_
  tm_at "asg"
  · tm_at "ev"
  tm_at "asg"
  · tm_at "ev"
  generalize ha' : a.drop p = a1 at ht
  generalize hb' : b.drop p = b1 at ht
  have ha1 : Ascii a1 := ha' ▸ ha.drop
  have hb1 : Ascii b1 := hb' ▸ hb.drop
  have la1 : a1.length ≤ 40 := by rw [← ha']; simp; omega
  have lb1 : b1.length ≤ 40 := by rw [← hb']; simp; omega
  clear hρ1 hpre
  have hpre := levPre_le a1.reverse b1.reverse
  simp only [List.length_reverse] at hpre
  generalize hp' : levPre a1.reverse b1.reverse = q at ht hpre
  tm_at "asg"
  · tm_at "ev"
  refine WS.cut (fun ρ' own' => own' = none ∧ ∃ i : Int, i = -(q : Int) ∧ Has ρ' [("post", .int i), ("a", V.s a1), ("b", V.s b1), ("max_cost", .int mx)]) (WX.while (fun m ρ' own' => own' = none ∧ ∃ k : Nat, k + m = q ∧ ∃ i : Int, i = -(k : Int) ∧ Has ρ' [("post", .int i), ("a", V.s a1), ("b", V.s b1), ("max_cost", .int mx)]) q ⟨rfl, 0, by omega, 0, rfl, ?_⟩ ?_) ?_
  · exact has_cons rfl (has_cons rfl (has_cons rfl (has_cons rfl has_nil)))
  · rintro m ρ' own' ⟨rfl, k, hk, i, hi, hρ⟩
    refine ⟨decide (k < q), ?_, fun hv => ?_, fun hv => ?_⟩
    · refine Tst.eq (y := decide (k < a1.length) && (decide (k < b1.length) && (decide (a1.reverse.getD k 0 = b1.reverse.getD k 0) && true))) ?_ (by
        have := levPre_turn a1.reverse b1.reverse k (by omega)
        rw [hp', List.length_reverse, List.length_reverse] at this
        rw [this, Bool.and_true])
      refine Tst.bools (Tsts.and ?_ fun h1 => Tsts.and ?_ fun h2 => Tsts.and ?_ fun h3 => Tsts.and_nil)
      · exact Tst.eq (Tst.val (Ev.canon hρ (Ev.upto_or hi (Ev.name rfl rfl) rfl rfl)) TruV.s fun _ => rfl) isEmpty_take
      · exact Tst.eq (Tst.val (Ev.canon hρ (Ev.upto_or hi (Ev.name rfl rfl) rfl rfl)) TruV.s fun _ => rfl) isEmpty_take
      · have h1' : k < a1.length := by simpa using h1
        have h2' : k < b1.length := by simpa using h2
        refine Tst.eq (y := decide ([a1.getD (a1.length - (k + 1)) 0] = [b1.getD (b1.length - (k + 1)) 0])) (Tst.cmp (Ev.canon hρ ?_) (Ev.canon hρ ?_) CmpV.eq_s rfl) (by rw [getD_reverse h1', getD_reverse h2']; simp)
        · refine Ev.sub (Ev.name rfl rfl) (EvIx.val (Ev.eq (y := .int (i - 1)) (Ev.binop (Ev.name rfl rfl) Ev.int BinV.sub_int) ?_)) (SubV.s_neg (k := k + 1) (by omega) (by omega))
          rw [hi]; congr 1; omega
        · refine Ev.sub (Ev.name rfl rfl) (EvIx.val (Ev.eq (y := .int (i - 1)) (Ev.binop (Ev.name rfl rfl) Ev.int BinV.sub_int) ?_)) (SubV.s_neg (k := k + 1) (by omega) (by omega))
          rw [hi]; congr 1; omega
    · simp at hv
      refine WS.canon hρ (WS.cons (WX.aug rfl (Evo.of Ev.int) (by tm_at "var") (by tm_at "hx") (.inr ⟨rfl, rfl⟩) (WS.nil ⟨m - 1, by omega, rfl, k + 1, by omega, i - 1, by omega, ?_⟩)))
      exact has_cons rfl (has_cons rfl (has_cons rfl (has_cons rfl has_nil)))
    · simp at hv
      obtain rfl : k = q := by omega
      exact ⟨rfl, i, hi, hρ⟩
  rintro ρ1 own1 ⟨rfl, i, hi, hρ1⟩
  refine WS.canon hρ1 ?_
  refine WS.asg (by tm_at "var") (by tm_at "hx") (by rfl) (Ev.upto_or hi (Ev.name rfl rfl) rfl rfl) ?_
  refine WS.asg (by tm_at "var") (by tm_at "hx") (by rfl) (Ev.upto_or hi (Ev.name rfl rfl) rfl rfl) ?_
  generalize ha2' : a1.take (a1.length - q) = a2 at ht
  generalize hb2' : b1.take (b1.length - q) = b2 at ht
  have ha2 : Ascii a2 := ha2' ▸ ha1.take
  have hb2 : Ascii b2 := hb2' ▸ hb1.take
  have la2 : a2.length ≤ 40 := by rw [← ha2']; simp; omega
  have lb2 : b2.length ≤ 40 := by rw [← hb2']; simp; omega
  refine WS.canon (ρ' := [("a", V.s a2), ("b", V.s b2), ("max_cost", .int mx)]) (has_cons rfl (has_cons rfl (has_cons rfl has_nil))) ?_
  clear hρ1 hi i hp' hpre hp ha1 hb1 la1 lb1 ha' hb' h ha hb la lb
  refine WS.if (decide (a2 = [] ∨ b2 = [])) ?_ (fun h => ?_) (fun h => ?_)
  · refine Tst.eq (Tst.bools (Tsts.or (Tst.not (Tst.val (Ev.name rfl rfl) TruV.s fun _ => rfl)) fun h1 => Tsts.or (Tst.not (Tst.val (Ev.name rfl rfl) TruV.s fun _ => rfl)) fun h2 => Tsts.or_nil)) ?_
    cases a2 <;> cases b2 <;> simp
  · tm_at "ret"
    · tm_at "ev"
      exact .inl (by decide)
    · show _ = _
      rw [← ht, levMid, if_pos (by simpa using h)]
  rw [levMid, if_neg (by simpa using h)] at ht
  replace h : a2 ≠ [] ∧ b2 ≠ [] := by simpa using h
  refine WS.if false ?_ nofun (fun _ => ?_)
  · refine Tst.eq (Tst.bools (Tsts.or ?_ fun h1 => Tsts.or ?_ fun h2 => Tsts.or_nil)) (y := decide ((a2.length : Int) > 40) || (decide ((b2.length : Int) > 40) || false)) (by simp; omega)
    · tm_at "ev"
    · tm_at "ev"
  refine WS.cut (fun ρ' own' => own' = none ∧ ∃ a3 b3 : List Nat, Ascii a3 ∧ Ascii b3 ∧ a3.length ≤ 40 ∧ b3.length ≤ 40 ∧ a3.length ≤ b3.length ∧ Has ρ' [("a", V.s a3), ("b", V.s b3), ("max_cost", .int mx)] ∧
      (if ((b3.length : Int) - a3.length) * 2 > mx then mx + 1 else levOut a3 b3 mx b3.length 0 (levRow a3.length) 0) = t) (WX.ite (v := decide ((b2.length : Int) < a2.length)) ?_ (fun hv => ?_) (fun hv => ?_)) ?_
  · tm_at "ev"
  · have hv' : b2.length < a2.length := by simp at hv; omega
    rw [if_pos hv'] at ht
    refine WS.cons (WX.swap2 (y1 := V.s b2) (y2 := V.s a2) (Evo.of ?_) (by tm_at "var") (by tm_at "var") (by tm_at "hx") (by tm_at "hx") rfl rfl (WS.nil ⟨rfl, b2, a2, hb2, ha2, lb2, la2, by omega, ?_, ht⟩) (by rfl))
    · tm_at "ev"
    · exact has_cons rfl (has_cons rfl (has_cons rfl has_nil))
  · have hv' : ¬ b2.length < a2.length := by simp at hv; omega
    rw [if_neg hv'] at ht
    refine WS.nil ⟨rfl, a2, b2, ha2, hb2, la2, lb2, by omega, Has.refl, ht⟩
  clear ht
  rintro ρ2 own2 ⟨rfl, a3, b3, ha3, hb3, la3, lb3, hle, hρ2, ht⟩
  refine WS.canon hρ2 ?_
  refine WS.if (decide (((b3.length : Int) - a3.length) * 2 > mx)) ?_ (fun h => ?_) (fun h => ?_)
  · tm_at "ev"
    exact .inl (by omega)
  · tm_at "ret"
    · tm_at "ev"
    · rw [if_pos (by simpa using h)] at ht; rw [← ht]
  rw [if_neg (by simpa using h)] at ht
  clear h
  refine WS.cons (WX.new (EvNew.list_range (k := a3.length) (a := 2) (b := 2 * ((a3.length : Int) + 1)) (d := 2) (by tm_at "glo") (by tm_at "glo") rfl rfl ?_ ?_ (by omega) (by decide) (by decide) (by omega) (by decide) ?_) (by tm_at "var") rfl fun r0 => ?_)
  · tm_at "ev"
    exact .inl (by decide)
  · unfold Builtin.Range.rangeSize
    rw [if_pos (by decide)]
    split <;> omega
  · exact PyProof.noPylong_small (by omega)
  have e0 : steps 2 2 a3.length = (levRow a3.length).map V.int := by unfold steps levRow; rw [List.map_map]; rfl
  rw [e0]
  clear e0
  show WS _ _ _ _ _ _ _
  tm_at "asg"
  · tm_at "ev"
  refine WS.cons (WX.range1 (k := b3.length) (fun j ρ' own' => ∃ row res, row.length = a3.length ∧ own' = some (Str.ofString "row", r0, row.map V.int) ∧ Has ρ' [("result", .int res), ("a", V.s a3), ("b", V.s b3), ("max_cost", .int mx)] ∧ levOut a3 b3 mx (b3.length - j) j row res = t) (by tm_at "var") (by tm_at "glo") rfl ?_ (by omega) ?_ ?_ ?_ ?_)
  · tm_at "ev"
  · exact ⟨levRow a3.length, 0, by simp [levRow], rfl, has_cons rfl (has_cons rfl (has_cons rfl (has_cons rfl has_nil))), ht⟩
  · clear ht
    rintro j ρ' own' hj ⟨row, res, hrow, rfl, hρ, ht⟩
    refine ⟨by tm_at "hx", ?_⟩
    refine WS.canon (ρ' := [("bindex", .int (j : Int)), ("result", .int res), ("a", V.s a3), ("b", V.s b3), ("max_cost", .int mx)]) (fun x y e => ?_) ?_
    · rw [List.lookup_cons] at e ⊢
      split
      · rename_i h; rw [h] at e; exact e
      · rename_i h; rw [h] at e; exact hρ _ _ e
    refine WS.asg (by tm_at "var") (by tm_at "hx") (by rfl) (Ev.sub (Ev.name rfl rfl) (EvIx.val (Ev.name rfl rfl)) (SubV.s_nat hj)) ?_
    generalize hch : b3.getD j 0 = ch at *
    have lch : ch < 128 := hch ▸ ascii_getD hb3
    refine WS.cons (WX.chain (y := .int ((j : Int) * 2)) (Evo.of ?_) (by tm_at "var") (by tm_at "var") (by tm_at "hx") (by tm_at "hx") rfl ?_)
    · tm_at "ev"
      exact .inl (by omega)
    show WS _ _ _ _ _ _ _
    tm_at "asg"
    · tm_at "ev"
    refine WS.cut (fun ρ' own' => ∃ s, s = levIn ch a3 ⟨row, j * 2, j * 2, 9223372036854775807⟩ a3.length ∧ own' = some (Str.ofString "row", r0, s.row.map V.int) ∧ Has ρ' [("distance", .int s.dist), ("result", .int s.res), ("minimum", .int s.mn), ("bchar", V.s [ch]), ("bindex", .int (j : Int)), ("a", V.s a3), ("b", V.s b3), ("max_cost", .int mx)])
      (WX.range1 (k := a3.length) (fun i ρ' own' => ∃ s, s = levIn ch a3 ⟨row, j * 2, j * 2, 9223372036854775807⟩ i ∧ own' = some (Str.ofString "row", r0, s.row.map V.int) ∧ Has ρ' [("distance", .int s.dist), ("result", .int s.res), ("minimum", .int s.mn), ("bchar", V.s [ch]), ("bindex", .int (j : Int)), ("a", V.s a3), ("b", V.s b3), ("max_cost", .int mx)]) (by tm_at "var") (by tm_at "glo") rfl ?_ (by omega) ?_ ?_ ?_ (fun _ _ h => h)) ?_
    · tm_at "ev"
    · exact ⟨_, rfl, rfl, has_cons rfl (has_cons rfl (has_cons rfl (has_cons rfl (has_cons rfl (has_cons rfl (has_cons rfl (has_cons rfl has_nil)))))))⟩
    · rintro i ρ' own' hi ⟨s, hs, rfl, hρ⟩
      have hsl : s.row.length = a3.length := by rw [hs, levIn_row, hrow]
      refine ⟨by tm_at "hx", ?_⟩
      refine WS.canon (ρ' := [("index", .int (i : Int)), ("distance", .int s.dist), ("result", .int s.res), ("minimum", .int s.mn), ("bchar", V.s [ch]), ("bindex", .int (j : Int)), ("a", V.s a3), ("b", V.s b3), ("max_cost", .int mx)]) (fun x y e => ?_) ?_
      · rw [List.lookup_cons] at e ⊢
        split
        · rename_i h; rw [h] at e; exact e
        · rename_i h; rw [h] at e; exact hρ _ _ e
      refine WS.asg (by tm_at "var") (by tm_at "hx") (by rfl) (Ev.binop (Ev.name rfl rfl) (Ev.fn H (by tm_at "glo") (by kernel_rfl) rfl (Evs.cons (Ev.name rfl rfl) (Evs.cons (Ev.sub (Ev.name rfl rfl) (EvIx.val (Ev.name rfl rfl)) (SubV.s_nat hi)) Evs.nil rfl) rfl) (k_subst H lch (ascii_getD ha3))) BinV.add_int) ?_
      refine WS.asgf (by tm_at "var") (by tm_at "hx") (by rfl) (Ev.sub (Ev.name rfl rfl) (EvIx.val (Ev.name rfl rfl)) (SubV.ints_nat (by rw [hsl]; exact hi))) rfl ?_
      tm_at "asg"
      · tm_at "ev"
      tm_at "asg"
      · tm_at "ev"
      refine WS.cons (WX.setitem (j := i) (y := .int (levStep ch a3 i s).res) (Ev.name rfl rfl) rfl (Ev.name rfl rfl) (by rw [List.length_map, hsl]; exact hi) ?_)
      have e1 : (List.map V.int s.row).set i (V.int (levStep ch a3 i s).res) = (levStep ch a3 i s).row.map V.int := by rw [← List.map_set]; rfl
      rw [e1]
      clear e1
      have e2 : levIn ch a3 ⟨row, j * 2, j * 2, 9223372036854775807⟩ (i + 1) = levStep ch a3 i s := by rw [levIn, hs]
      refine WS.if (decide ((levStep ch a3 i s).res < s.mn)) (Tst.cmp (Ev.name rfl rfl) (Ev.name rfl rfl) CmpV.lt rfl) (fun hv => ?_) (fun hv => ?_)
      · refine WS.asg (by tm_at "var") (by tm_at "hx") (by rfl) (Ev.name rfl rfl) (WS.nil (WS.nil ⟨_, e2.symm, rfl, ?_⟩))
        have e3 : (levStep ch a3 i s).mn = (levStep ch a3 i s).res := by
          show (if (levStep ch a3 i s).res < s.mn then (levStep ch a3 i s).res else s.mn) = _
          rw [if_pos (by simpa using hv)]
        rw [e3]
        exact has_cons rfl (has_cons rfl (has_cons rfl (has_cons rfl (has_cons rfl (has_cons rfl (has_cons rfl (has_cons rfl has_nil)))))))
      · refine WS.nil ⟨_, e2.symm, rfl, ?_⟩
        have e3 : (levStep ch a3 i s).mn = s.mn := by
          show (if (levStep ch a3 i s).res < s.mn then (levStep ch a3 i s).res else s.mn) = _
          rw [if_neg (by simpa using hv)]
        rw [e3]
        exact has_cons rfl (has_cons rfl (has_cons rfl (has_cons rfl (has_cons rfl (has_cons rfl (has_cons rfl (has_cons rfl has_nil)))))))
    · rintro i ρ' own' ⟨s, _, rfl, _⟩ a ⟨z, ys, e⟩
      cases e
      exact ⟨_, _, rfl⟩
    · rintro ρ' own' ⟨s, hs, rfl, hρ⟩
      refine WS.canon hρ ?_
      have hu : levOut a3 b3 mx (b3.length - j) j row res = (if s.mn > mx then mx + 1 else levOut a3 b3 mx (b3.length - (j + 1)) (j + 1) s.row s.res) := by
        rw [show b3.length - j = (b3.length - (j + 1)) + 1 by omega, levOut, hch, ← hs]
      rw [hu] at ht
      refine WS.if (decide (s.mn > mx)) (Tst.cmp (Ev.name rfl rfl) (Ev.name rfl rfl) CmpV.gt rfl) (fun hv => ?_) (fun hv => ?_)
      · tm_at "ret"
        · tm_at "ev"
        · rw [if_pos (by simpa using hv)] at ht; rw [← ht]
      · rw [if_neg (by simpa using hv)] at ht
        exact WS.nil ⟨s.row, s.res, by rw [hs, levIn_row, hrow], rfl, has_cons rfl (has_cons rfl (has_cons rfl (has_cons rfl has_nil))), ht⟩
  · rintro i ρ' own' ⟨row, res, _, rfl, _⟩ a ⟨z, ys, e⟩
    cases e
    exact ⟨_, _, rfl⟩
  · rintro ρ' own' ⟨row, res, _, rfl, hρ, ht⟩
    rw [Nat.sub_self, levOut] at ht
    refine WS.canon hρ ?_
    tm_at "ret"
    · tm_at "ev"
    · rw [← ht]
end

section
variable {c : Cx} {P : Params} {n : Nat}

theorem k_div2n1n (H : Cok c (KK P)) {a b m : Int} (ha : Builtin.Int.intBits a ≤ 100) (hb : b ≠ 0) (hb2 : b.natAbs < 1073741824) (hm : 0 ≤ m) :
    CallV c (n + 1) (.ref A__div2n1n) [.int a, .int b, .int m] (.tup [.int (a.fdiv b), .int (a.fmod b)]) := by
  refine CallV.def H.hK rfl rfl (by kernel_rfl) (ps := ["a", "b", "n"]) (by tm_at "fn") (by decide) (by decide) rfl (fun L => ?_)
  refine WS.if true (Tst.eq (Tst.cmp (Ev.binop (Ev.meth rfl rfl rfl (by simp) (Ev.name rfl rfl) Evs.nil MethV.bit_length) (Ev.name rfl rfl) BinV.sub_int) (by tm_at "ev") CmpV.le rfl) ?_) (fun _ => ?_) nofun
  · simp; omega
  · refine WS.return (Ev.call (by tm_at "glo") rfl rfl ?_ (CallV.divmod hb hb2)) rfl
    tm_at "ev"

/-- the place of a nested def's table -/
noncomputable def tabD : Tab := { c := 55, P := 51, line := 95, col := 4, qual := "_digits2int.<locals>.inner" }
noncomputable def tabI : Tab := { c := 48, P := 44, line := 80, col := 4, qual := "_int2digits.<locals>.inner" }

structure Tabs (c : Cx) : Prop where
  eq : c.tabs = [tabD, tabI]
theorem Tabs.d (T : Tabs c) : tabD ∈ c.tabs := by rw [T.eq]; simp
theorem Tabs.i (T : Tabs c) : tabI ∈ c.tabs := by rw [T.eq]; simp
theorem Tabs.du (T : Tabs c) : ∀ t' ∈ c.tabs, t'.P = tabD.P → t' = tabD := by
  rw [T.eq]; intro t' h e
  rcases List.mem_cons.mp h with rfl | h
  · rfl
  · rcases List.mem_cons.mp h with rfl | h
    · simp [tabD, tabI] at e
    · cases h
theorem Tabs.iu (T : Tabs c) : ∀ t' ∈ c.tabs, t'.P = tabI.P → t' = tabI := by
  rw [T.eq]; intro t' h e
  rcases List.mem_cons.mp h with rfl | h
  · simp [tabD, tabI] at e
  · rcases List.mem_cons.mp h with rfl | h
    · rfl
    · cases h

theorem k_digits2int (H : Cok c (KK P)) (T : Tabs c) {ds : List Int} {m : Nat} (hds : ∀ d ∈ ds, 0 ≤ d ∧ d < 2 ^ m) (hm : m ≤ 64) (hl : ds.length ≤ 40) :
    CallV c (n + 50) (.ref A__digits2int) [.list (ds.map V.int), .int (m : Int)] (.int (digVal ds m 0 ds.length)) := by
  refine CallV.def (n := n + 49) H.hK rfl rfl (by kernel_rfl) (ps := ["digits", "n"]) (by tm_at "fn") (by decide) (by decide) rfl (fun L => .mk fun P A E s₀ s at_ X => ?_)
  refine wpAny_execs_cons (nest_def (t := tabD) (cA := L + 3) at_.inv X T.d T.du rfl (closureFor_all rfl) rfl rfl rfl rfl rfl rfl rfl rfl nofun rfl fun F doc pm cd ctv fo s' X' k hF hFo hfc hfd hcr hcell hother => ?_)
  obtain ⟨oI, hI, hId⟩ := hcell
  obtain ⟨vD, hvD, rD⟩ := X'.frame.var "digits" _ rfl
  obtain ⟨vN, hvN, rN⟩ := X'.frame.var "n" _ rfl
  have hvD : s'.heap.IsCell (L + 1) (some vD) := by
    rcases hvD with ⟨q, _⟩ | ⟨_, a, ha, hc⟩
    · cases q
    · cases ha; exact hc
  have hvN : s'.heap.IsCell (L + 2) (some vN) := by
    rcases hvN with ⟨q, _⟩ | ⟨_, a, ha, hc⟩
    · cases q
    · cases ha; exact hc
  obtain ⟨oD, hD, hDd⟩ := hvD
  obtain ⟨oN, hN, hNd⟩ := hvN
  obtain ⟨aD, vs, rfl, hP, ⟨kD, hL⟩, hlen, rs⟩ := rD.list_inv
  obtain ⟨tN, rfl⟩ := rN.int_inv
  obtain ⟨oc, cvs, ct, hoc, hcl, hcd, hcv⟩ := hcr
  have hfr : ∀ p ∈ ([(F, fo), (cd, oc), (L + 1, oD), (L + 2, oN), (L + 3, oI), (aD, { cls := .type "list", data := .seq vs.toArray kD })] : Frag), s'.heap.get? p.1 = some p.2 := by
    intro p hp
    simp only [List.mem_cons, List.not_mem_nil, or_false] at hp
    rcases hp with rfl | rfl | rfl | rfl | rfl | rfl <;> assumption
  obtain ⟨hin, hlk⟩ := frag_of hfr
  have hnt : noTabs [(F, fo), (cd, oc), (L + 1, oD), (L + 2, oN), (L + 3, oI), (aD, { cls := .type "list", data := .seq vs.toArray kD })] = true := noTabs_of (by
    intro p hp
    simp only [List.mem_cons, List.not_mem_nil, or_false] at hp
    rcases hp with rfl | rfl | rfl | rfl | rfl | rfl
    · exact .inl (by rw [hfc]; nofun)
    · exact .inl (by rw [hcl]; nofun)
    · exact .inr (by rw [hDd]; nofun)
    · exact .inr (by rw [hNd]; nofun)
    · exact .inr (by rw [hId]; nofun)
    · exact .inl nofun)
  generalize hfreq : ([(F, fo), (cd, oc), (L + 1, oD), (L + 2, oN), (L + 3, oI), (aD, { cls := .type "list", data := .seq vs.toArray kD })] : Frag) = fr at hin hlk hnt
  have I' := X'.step.inv
  have ag := Agree.of I' hin
  have at2 : At (c.ext fr hnt) (n + 49) A P s' := (at_.step X'.step).ext hin
  have lF : (c.ext fr hnt).K.lookup F = some fo := lookup_fr (hlk (F, fo) (by rw [← hfreq]; simp))
  have lcd : (c.ext fr hnt).K.lookup cd = some oc := lookup_fr (hlk (cd, oc) (by rw [← hfreq]; simp))
  have cN : CellK (c.ext fr hnt) (L + 2) (.int m tN) := ⟨oN, lookup_fr (hlk (L + 2, oN) (by rw [← hfreq]; simp)), hNd⟩
  have cI : CellK (c.ext fr hnt) (L + 3) (.ref F) := ⟨oI, lookup_fr (hlk (L + 3, oI) (by rw [← hfreq]; simp)), hId⟩
  have cD : CellK (c.ext fr hnt) (L + 1) (.ref aD) := ⟨oD, lookup_fr (hlk (L + 1, oD) (by rw [← hfreq]; simp)), hDd⟩
  have laD := lookup_fr (K := c.K) (hlk (aD, { cls := .type "list", data := .seq vs.toArray kD }) (by rw [← hfreq]; simp))
  have item : ∀ j, j < ds.length → ∃ t, vs[j]? = some (.int (ds.getD j 0) t) := fun j hj => by
    obtain ⟨v, hv, r⟩ := rs.get (i := j) (x := V.int (ds.getD j 0)) (by rw [List.getElem?_map, getElem?_getD 0 hj]; rfl)
    obtain ⟨t, rfl⟩ := r.int_inv
    exact ⟨t, hv⟩
  have key : ∀ k, k ≤ 40 → ∀ (j k' : Nat), 0 < k' → k' ≤ k → j + k' ≤ ds.length → CallV (c.ext fr hnt) (n + k) (.ref F) [.int (j : Int), .int ((j + k' : Nat) : Int)] (.int (digVal ds m j k')) := by
    intro k
    induction k with
    | zero => intro _ j k' h1 h2; omega
    | succ k ih =>
      intro hk40 j k' h1 h2 h3
      refine CallV.nest (ps := ["L", "R"]) (ρf := [("n", .int (m : Int))]) lF hfd (fun h hK => ⟨cd, oc, cvs, ct, rfl, hK cd oc lcd, hcd, hcv⟩) (by tm_at "fn") (by decide) (by decide) (by decide) rfl ?_ ?_ (fun L' => ?_)
      · intro x a _ e
        have hm := mem_of_lookup_some e
        change (x, a) ∈ [(Str.ofString "n", L + 2), (Str.ofString "inner", L + 3), (Str.ofString "digits", L + 1)] at hm
        simp only [List.mem_cons, List.not_mem_nil, or_false, Prod.mk.injEq] at hm
        rcases hm with ⟨rfl, rfl⟩ | ⟨rfl, rfl⟩ | ⟨rfl, rfl⟩
        · exact ⟨_, cN⟩
        · exact ⟨_, cI⟩
        · exact ⟨_, cD⟩
      · intro x y e
        have hm := mem_of_lookup_some e
        simp only [List.mem_cons, List.not_mem_nil, or_false, Prod.mk.injEq] at hm
        obtain ⟨rfl, rfl⟩ := hm
        exact ⟨rfl, rfl, L + 2, _, rfl, cN, fun P h => rep_int⟩
      refine WS.if (decide (k' = 1)) (Tst.eq (Tst.cmp (Ev.binop (Ev.name rfl rfl) Ev.int BinV.add_int) (Ev.name rfl rfl) CmpV.eq rfl) ?_) (fun hv => ?_) (fun hv => ?_)
      · by_cases h : k' = 1
        · subst h; simp
        · simp [h]; omega
      · have hv' : k' = 1 := by simpa using hv
        subst hv'
        obtain ⟨t, ht⟩ := item j (by omega)
        refine WS.return (Ev.subK rfl rfl rfl (a := L + 1) rfl cD laD (Ev.name rfl rfl) ht hlen nofun) ?_
        show _ = _
        simp [digVal]
      · have hv' : k' ≠ 1 := by simpa using hv
        have hj : 0 < k' / 2 ∧ k' / 2 < k' := by omega
        refine WS.asg (y := .int ((j + k' / 2 : Nat) : Int)) (by tm_at "var") (by tm_at "hx") (by rfl) (Ev.eq (Ev.binop (Ev.binop (Ev.name rfl rfl) (Ev.name rfl rfl) BinV.add_int) Ev.int (BinV.shr_int (by decide))) ?_) ?_
        · congr 1
          rw [Int.fdiv_eq_ediv_of_nonneg _ (by decide)]
          show ((j : Int) + ((j + k' : Nat) : Int)) / 2 = _
          omega
        refine WS.asg (y := .int ((k' / 2 * m : Nat) : Int)) (by tm_at "var") (by tm_at "hx") (by rfl) (Ev.eq (Ev.binop (Ev.binop (Ev.name rfl rfl) (Ev.name rfl rfl) BinV.sub_int) (Ev.name rfl rfl) (BinV.mul_int (.inr ?_))) ?_) ?_
        · omega
        · congr 1
          rw [show ((j + k' / 2 : Nat) : Int) - (j : Int) = ((k' / 2 : Nat) : Int) by omega]
          simp
        have hb := digVal_bound ds m hds (k' - k' / 2) (j + k' / 2)
        have hbits := intBits_le hb.1 hb.2
        have hmul : m * (k' - k' / 2) ≤ 64 * 40 := Nat.mul_le_mul hm (by omega)
        have hmul2 : k' / 2 * m ≤ 40 * 64 := Nat.mul_le_mul (by omega) hm
        have i1 := ih (by omega) (j + k' / 2) (k' - k' / 2) (by omega) (by omega) (by omega)
        have i2 := ih (by omega) j (k' / 2) (by omega) (by omega) (by omega)
        rw [show j + k' / 2 + (k' - k' / 2) = j + k' by omega] at i1
        refine WS.return (Ev.binop (Ev.binop (Ev.callK (.inr ⟨rfl, rfl⟩) rfl (a := L + 3) rfl cI lF hfd rfl (Evs.cons (Ev.name rfl rfl) (Evs.cons (Ev.name rfl rfl) Evs.nil rfl) rfl) i1) (Ev.name rfl rfl) (BinV.shl_int (by omega) (by omega)))
          (Ev.callK (.inr ⟨rfl, rfl⟩) rfl (a := L + 3) rfl cI lF hfd rfl (Evs.cons (Ev.name rfl rfl) (Evs.cons (Ev.name rfl rfl) Evs.nil rfl) rfl) i2) BinV.add_int) ?_
        show _ = _
        congr 1
        have := digVal_add ds m (k' / 2) j (k' - k' / 2)
        rw [show k' / 2 + (k' - k' / 2) = k' by omega] at this
        rw [this, Int.toNat_natCast, Nat.mul_comm m (k' / 2), Int.mul_comm]
        omega
  show wpAny _ _ (execs _ _) _ _ _
  refine wpAny_execs_cons (wpAny_Return_some (wpAny_mono (Ev.run (c := c.ext fr hnt) (n := n + 49) (y := .int (digVal ds m 0 ds.length)) ?_ P A E s' at2 (X'.full at_)) (fun v s'' ⟨r, st⟩ => ⟨_, rfl, r, X'.step.trans (st.unext ag)⟩) fun _ _ e => e))
  refine Ev.ite (b := !(ds.map V.int).isEmpty) (y1 := .int (digVal ds m 0 ds.length)) (y2 := .int 0) (Tst.val (Ev.name rfl rfl) TruV.list fun _ => rfl) (fun h => ?_) (fun h => Ev.int) ?_
  · have hpos : 0 < ds.length := by
      cases ds with
      | nil => simp at h
      | cons d r => simp
    have := (key 40 (Nat.le_refl _) 0 ds.length hpos hl (by omega)).up (n := n + 49) (by omega)
    rw [Nat.zero_add] at this
    refine Ev.callK (.inl rfl) rfl (a := L + 3) rfl cI lF hfd rfl (Evs.cons Ev.int (Evs.cons (Ev.eq (Ev.call (f := .builtin "len") (show Glo c _ _ _ from glo_tab H rfl rfl) rfl rfl (Evs.cons (Ev.name rfl rfl) Evs.nil rfl) CallV.len_list) (by rw [List.length_map])) Evs.nil rfl) rfl) this
  · cases ds with
    | nil => rfl
    | cons d r => rfl
end

section
variable {c : Cx} {P : Params} {n : Nat}

theorem lt_intBits (a : Nat) : a < 2 ^ Builtin.Int.intBits (a : Int) := by
  unfold Builtin.Int.intBits
  split
  · rename_i h
    have : a = 0 := by simpa using h
    subst this; decide
  · rename_i h
    have h' : a ≠ 0 := by simpa using h
    rw [Int.natAbs_natCast]
    exact (Nat.log2_lt h').mp (Nat.lt_succ_self _)

theorem k_int2digits (H : Cok c (KK P)) (T : Tabs c) {a m : Nat} (ha : a < 2 ^ 40) (hm0 : 0 < m) (hm : m ≤ 64) :
    CallV c (n + 50) (.ref A__int2digits) [.int (a : Int), .int (m : Int)] (.list ((digs m a ((Builtin.Int.intBits (a : Int) + m - 1) / m)).map V.int)) := by
  have hbits : Builtin.Int.intBits (a : Int) ≤ 40 := intBits_le (by omega) (by exact_mod_cast ha)
  generalize hK : (Builtin.Int.intBits (a : Int) + m - 1) / m = K
  have hK40 : K ≤ 40 := by
    rw [← hK]
    have : (Builtin.Int.intBits (a : Int) + m - 1) / m ≤ (40 * m) / m := Nat.div_le_div_right (by
      have : 40 * 1 ≤ 40 * m := Nat.mul_le_mul_left _ hm0
      rcases Nat.eq_zero_or_pos (Builtin.Int.intBits (a : Int)) with h | h
      · omega
      · have : Builtin.Int.intBits (a : Int) + m - 1 ≤ Builtin.Int.intBits (a : Int) * m := by
          have h1 : (Builtin.Int.intBits (a : Int) - 1) * 1 ≤ (Builtin.Int.intBits (a : Int) - 1) * m := Nat.mul_le_mul_left _ hm0
          have h2 : Builtin.Int.intBits (a : Int) * m = (Builtin.Int.intBits (a : Int) - 1) * m + m := by
            rw [← Nat.succ_mul]; congr 1; omega
          omega
        have := Nat.mul_le_mul_right m hbits
        omega)
    rwa [Nat.mul_div_cancel _ hm0] at this
  refine CallV.def (n := n + 49) H.hK rfl rfl (by kernel_rfl) (ps := ["a", "n"]) (by tm_at "fn") (by decide) (by decide) rfl (fun L => ?_)
  refine WS.cons (WX.new (ys := (List.replicate K 0).map V.int) (EvNew.of Has.refl (by intro p hp; simp at hp; rcases hp with rfl | rfl <;> rfl) (Ev.eq (Ev.binop (b := .int (K : Int)) (Ev.list (Evs.cons Ev.int Evs.nil rfl) (by decide)) (Ev.eq (Ev.binop (Ev.binop (Ev.binop (Ev.meth rfl rfl rfl (by simp) (Ev.name rfl rfl) Evs.nil MethV.bit_length) (Ev.name rfl rfl) BinV.add_int) Ev.int BinV.sub_int) (Ev.name rfl rfl) (BinV.div_int (by omega) (by omega))) ?_) (BinV.mul_list (by omega) (by omega) ?_)) ?_) ?_) (by tm_at "var") rfl fun D => ?_)
  · congr 1
    rw [Int.fdiv_eq_ediv_of_nonneg _ (by omega), ← hK, Int.natCast_ediv]
    congr 1
    omega
  · simp; show K ≤ 1048576; omega
  · congr 1
    simp
  · intro y hy
    obtain ⟨z, _, rfl⟩ := List.mem_map.mp hy
    rfl
  show WS _ _ _ _ _ _ _
  refine .mk fun P A E s₀ s at_ X => ?_
  refine wpAny_execs_cons (nest_def (t := tabI) (cA := L + 3) at_.inv X T.i T.iu rfl (closureFor_all rfl) rfl rfl rfl rfl rfl rfl rfl rfl (by tm_at "hx") rfl fun F doc pm cd ctv fo s' X' k hF hFo hfc hfd hcr hcell hother => ?_)
  obtain ⟨oI, hI, hId⟩ := hcell
  obtain ⟨vN, hvN, rN⟩ := X'.frame.var "n" _ rfl
  have hvN : s'.heap.IsCell (L + 1) (some vN) := by
    rcases hvN with ⟨q, _⟩ | ⟨_, a, ha, hc⟩
    · cases q
    · cases ha; exact hc
  obtain ⟨hD0, hvD, vs0, hLD, hn0, hr0⟩ := X'.own _ D _ rfl
  have hvD : s'.heap.IsCell (L + 2) (some (.ref D)) := by
    rcases hvD with ⟨q, _⟩ | ⟨_, a, ha, hc⟩
    · cases q
    · cases ha; exact hc
  obtain ⟨oD, hDc, hDd⟩ := hvD
  obtain ⟨oN, hN, hNd⟩ := hvN
  obtain ⟨tN, rfl⟩ := rN.int_inv
  obtain ⟨oc, cvs, ct, hoc, hcl, hcd, hcv⟩ := hcr
  have hfr : ∀ p ∈ ([(F, fo), (cd, oc), (L + 2, oD), (L + 1, oN), (L + 3, oI)] : Frag), s'.heap.get? p.1 = some p.2 := by
    intro p hp
    simp only [List.mem_cons, List.not_mem_nil, or_false] at hp
    rcases hp with rfl | rfl | rfl | rfl | rfl <;> assumption
  obtain ⟨hin, hlk⟩ := frag_of hfr
  have hnt : noTabs [(F, fo), (cd, oc), (L + 2, oD), (L + 1, oN), (L + 3, oI)] = true := noTabs_of (by
    intro p hp
    simp only [List.mem_cons, List.not_mem_nil, or_false] at hp
    rcases hp with rfl | rfl | rfl | rfl | rfl
    · exact .inl (by rw [hfc]; nofun)
    · exact .inl (by rw [hcl]; nofun)
    · exact .inr (by rw [hDd]; nofun)
    · exact .inr (by rw [hNd]; nofun)
    · exact .inr (by rw [hId]; nofun))
  have hDfr : ∀ p ∈ ([(F, fo), (cd, oc), (L + 2, oD), (L + 1, oN), (L + 3, oI)] : Frag), p.1 ≠ D := by
    obtain ⟨kD, eD⟩ := hLD
    intro p hp q
    have e := hfr p hp
    rw [q, eD] at e
    have e := Option.some.inj e
    simp only [List.mem_cons, List.not_mem_nil, or_false] at hp
    rcases hp with rfl | rfl | rfl | rfl | rfl
    · exact absurd (Value.type.inj (hfc.symm.trans (congrArg Obj.cls e.symm))) (by decide)
    · exact absurd (Value.type.inj (hcl.symm.trans (congrArg Obj.cls e.symm))) (by decide)
    · exact nomatch (congrArg Obj.data e).trans hDd
    · exact nomatch (congrArg Obj.data e).trans hNd
    · exact nomatch (congrArg Obj.data e).trans hId
  generalize hfreq : ([(F, fo), (cd, oc), (L + 2, oD), (L + 1, oN), (L + 3, oI)] : Frag) = fr at hin hlk hnt hDfr
  have I' := X'.step.inv
  have ag := Agree.of I' hin
  have lF : (c.ext fr hnt).K.lookup F = some fo := lookup_fr (hlk (F, fo) (by rw [← hfreq]; simp))
  have lcd : (c.ext fr hnt).K.lookup cd = some oc := lookup_fr (hlk (cd, oc) (by rw [← hfreq]; simp))
  have cN : CellK (c.ext fr hnt) (L + 1) (.int m tN) := ⟨oN, lookup_fr (hlk (L + 1, oN) (by rw [← hfreq]; simp)), hNd⟩
  have cI : CellK (c.ext fr hnt) (L + 3) (.ref F) := ⟨oI, lookup_fr (hlk (L + 3, oI) (by rw [← hfreq]; simp)), hId⟩
  have cD : CellK (c.ext fr hnt) (L + 2) (.ref D) := ⟨oD, lookup_fr (hlk (L + 2, oD) (by rw [← hfreq]; simp)), hDd⟩
  have hKD : (c.ext fr hnt).K.lookup D = none := by
    cases e : (c.ext fr hnt).K.lookup D with
    | none => rfl
    | some o =>
      rcases lookup_append_K e with e | ⟨_, e⟩
      · exact absurd rfl (hDfr (D, o) (mem_of_lookupK e))
      · have := at_.inv.k D o e
        rw [hD0] at this; cases this
  have key : ∀ k, k ≤ 40 → ∀ (j k' x : Nat) (ys : List Int), 0 < k' → k' ≤ k → j + k' ≤ ys.length → ys.length ≤ 40 → x < 2 ^ (k' * m) →
      EffV (c.ext fr hnt) (n + k) F D [.int (x : Int), .int (j : Int), .int ((j + k' : Nat) : Int)] (ys.map V.int) ((setDigs m ys x j k').map V.int) := by
    intro k
    induction k with
    | zero => intro _ j k' x ys h1 h2; omega
    | succ k ih =>
      intro hk40 j k' x ys h1 h2 h3 h4 hx
      refine .mk fun P A E s₀ s vs ws at_ st h0 hl hn hr hz => ?_
      refine nest_call (own := some (Str.ofString "a_digits", D, ys.map V.int)) (ps := ["x", "L", "R"]) (ρf := [("n", .int (m : Int))]) lF hfd (fun h hK => ⟨cd, oc, cvs, ct, rfl, hK cd oc lcd, hcd, hcv⟩) (by tm_at "fn") (by decide) (by decide) (by decide) rfl ?_ ?_ at_ st (hz.monoP fun b hb => Bar.of_some.mpr hb) ?_ (fun L' E' s₁ at1 hL X keep hkg hnc => ?_)
      · intro x a _ e
        have hm := mem_of_lookup_some e
        change (x, a) ∈ [(Str.ofString "n", L + 1), (Str.ofString "inner", L + 3), (Str.ofString "a_digits", L + 2)] at hm
        simp only [List.mem_cons, List.not_mem_nil, or_false, Prod.mk.injEq] at hm
        rcases hm with ⟨rfl, rfl⟩ | ⟨rfl, rfl⟩ | ⟨rfl, rfl⟩
        · exact ⟨_, cN⟩
        · exact ⟨_, cI⟩
        · exact ⟨_, cD⟩
      · intro x y e
        have hm := mem_of_lookup_some e
        simp only [List.mem_cons, List.not_mem_nil, or_false, Prod.mk.injEq] at hm
        obtain ⟨rfl, rfl⟩ := hm
        exact ⟨rfl, rfl, L + 1, _, rfl, cN, fun P h => rep_int⟩
      · intro x a zs e
        cases e
        exact ⟨h0, ⟨rfl, rfl, L + 2, rfl, cD⟩, vs, hl, hn, hr.monoP fun b hb => Bar.of_some.mpr hb⟩
      refine wpAny_execs_cons (wpAny_If (wpAny_mono (Tst.run (b := decide (k' = 1)) (Tst.eq (Tst.cmp (Ev.binop (Ev.name rfl rfl) Ev.int BinV.add_int) (Ev.name rfl rfl) CmpV.eq rfl) ?_) P _ _ s₁ (X.at at1) (X.full at1)) (fun b s₂ ⟨hb, st2⟩ => ?_) fun _ _ e => e))
      · by_cases h : k' = 1
        · subst h; simp
        · simp [h]; omega
      subst hb
      have X2 := X.stepTo st2
      by_cases hk1 : k' = 1
      · rw [if_pos (by simp [hk1])]
        subst hk1
        have e1 : (setDigs m ys x j 1).map V.int = (ys.map V.int).set j (V.int (x : Int)) := by
          rw [setDigs, setDigs, Nat.one_mul] at *
          rw [Nat.mod_eq_of_lt hx, List.map_set]
        rw [e1]
        refine wpAny_execs_cons (wpAny_mono ((WX.setitem (Q := { next := fun ρ' own' => own' = some (Str.ofString "a_digits", D, (ys.map V.int).set j (V.int (x : Int))) }) (j := j) (y := .int (x : Int)) (Ev.name rfl rfl) rfl (Ev.name rfl rfl) (by rw [List.length_map]; omega) rfl).run P _ _ s₀ s₂ at1 X2) (fun f s₃ hf => ?_) fun _ _ e => e)
        cases f with
        | next =>
          obtain ⟨ρ', own', rfl, X3, k3⟩ := hf
          exact wpAny_execs_cons (wpAny_Return_none ⟨rfl, Eff.of X3 ((Kp.step st2).trans k3) keep hkg hL hnc⟩)
        | brk => obtain ⟨_, _, hq, _⟩ := hf; exact hq.elim
        | cont => obtain ⟨_, _, hq, _⟩ := hf; exact hq.elim
        | ret v => obtain ⟨_, hq, _⟩ := hf; exact hq.elim
      · rw [if_neg (by simp [hk1])]
        have hj : 0 < k' / 2 ∧ k' / 2 < k' := by omega
        refine wpAny_execs_nil ?_
        refine wpAny_mono (WS.run (c := c.ext fr hnt) (n := n + k) (Q := { next := fun ρ' own' => own' = some (Str.ofString "a_digits", D, (setDigs m ys x j k').map V.int) }) ?_ P _ _ s₀ s₂ at1 X2) (fun f s₃ hf => ?_) fun _ _ e => e
        · refine WS.asg (y := .int ((j + k' / 2 : Nat) : Int)) (by tm_at "var") (by tm_at "hx") (by rfl) (Ev.eq (Ev.binop (Ev.binop (Ev.name rfl rfl) (Ev.name rfl rfl) BinV.add_int) Ev.int (BinV.shr_int (by decide))) ?_) ?_
          · congr 1
            rw [Int.fdiv_eq_ediv_of_nonneg _ (by decide)]
            show ((j : Int) + ((j + k' : Nat) : Int)) / 2 = _
            omega
          refine WS.asg (y := .int ((k' / 2 * m : Nat) : Int)) (by tm_at "var") (by tm_at "hx") (by rfl) (Ev.eq (Ev.binop (Ev.binop (Ev.name rfl rfl) (Ev.name rfl rfl) BinV.sub_int) (Ev.name rfl rfl) (BinV.mul_int (.inr ?_))) ?_) ?_
          · omega
          · congr 1
            rw [show ((j + k' / 2 : Nat) : Int) - (j : Int) = ((k' / 2 : Nat) : Int) by omega]
            simp
          have hm2 : k' / 2 * m ≤ 40 * 64 := Nat.mul_le_mul (by omega) hm
          have hsplit : k' * m = k' / 2 * m + (k' - k' / 2) * m := by rw [← Nat.add_mul]; congr 1; omega
          have hup : x / 2 ^ (k' / 2 * m) < 2 ^ ((k' - k' / 2) * m) := by
            rw [hsplit, Nat.pow_add] at hx
            exact Nat.div_lt_of_lt_mul hx
          refine WS.asg (y := .int ((x / 2 ^ (k' / 2 * m) : Nat) : Int)) (by tm_at "var") (by tm_at "hx") (by rfl) (Ev.eq (Ev.binop (Ev.name rfl rfl) (Ev.name rfl rfl) (BinV.shr_int (by omega))) ?_) ?_
          · congr 1
            rw [Int.fdiv_eq_ediv_of_nonneg _ (Int.pow_nonneg (by decide)), Int.toNat_natCast]
            simp
          have hub : Builtin.Int.intBits ((x / 2 ^ (k' / 2 * m) : Nat) : Int) ≤ (k' - k' / 2) * m := intBits_le (Int.natCast_nonneg _) (by exact_mod_cast hup)
          have hm3 : (k' - k' / 2) * m ≤ 40 * 64 := Nat.mul_le_mul (by omega) hm
          refine WS.asg (y := .int ((x % 2 ^ (k' / 2 * m) : Nat) : Int)) (by tm_at "var") (by tm_at "hx") (by rfl) (Ev.eq (Ev.binop (Ev.name rfl rfl) (Ev.binop (Ev.name rfl rfl) (Ev.name rfl rfl) (BinV.shl_int (by omega) (by omega))) BinV.xor_int) ?_) ?_
          · congr 1
            have := xor_low x (k' / 2 * m)
            rw [Int.fdiv_eq_ediv_of_nonneg _ (Int.pow_nonneg (by decide))] at this
            rw [Int.toNat_natCast, ← this]
            simp
          have i1 := ih (by omega) j (k' / 2) (x % 2 ^ (k' / 2 * m)) ys (by omega) (by omega) (by omega) h4 (Nat.mod_lt _ (Nat.two_pow_pos _))
          have i2 := ih (by omega) (j + k' / 2) (k' - k' / 2) (x / 2 ^ (k' / 2 * m)) (setDigs m ys (x % 2 ^ (k' / 2 * m)) j (k' / 2)) (by omega) (by omega) (by rw [setDigs_length]; omega) (by rw [setDigs_length]; exact h4) hup
          rw [← setDigs_split, show k' / 2 + (k' - k' / 2) = k' by omega, show j + k' / 2 + (k' - k' / 2) = j + k' by omega] at i2
          refine WS.cons (WX.eff (.inr ⟨rfl, rfl⟩) rfl (a := L + 3) rfl cI lF hfd rfl (Evs.cons (Ev.name rfl rfl) (Evs.cons (Ev.name rfl rfl) (Evs.cons (Ev.name rfl rfl) Evs.nil rfl) rfl) rfl) (by simp [V.flat]) i1 ?_)
          refine WS.cons (WX.eff (.inr ⟨rfl, rfl⟩) rfl (a := L + 3) rfl cI lF hfd rfl (Evs.cons (Ev.name rfl rfl) (Evs.cons (Ev.name rfl rfl) (Evs.cons (Ev.name rfl rfl) Evs.nil rfl) rfl) rfl) (by simp [V.flat]) i2 ?_)
          exact WS.nil rfl
        · cases f with
          | next =>
            obtain ⟨ρ', own', rfl, X3, k3⟩ := hf
            exact ⟨rfl, Eff.of X3 ((Kp.step st2).trans k3) keep hkg hL hnc⟩
          | brk => obtain ⟨_, _, hq, _⟩ := hf; exact hq.elim
          | cont => obtain ⟨_, _, hq, _⟩ := hf; exact hq.elim
          | ret v => obtain ⟨_, hq, _⟩ := hf; exact hq.elim
  have I2 : Inv (c.ext fr hnt) s' := I'.ext hin
  have at2 : At (c.ext fr hnt) (n + 49) A P s' := (at_.step X'.step).ext hin
  show wpAny _ _ (execs _ _) _ _ _
  refine wpAny_execs_cons (wpAny_mono (Q := fun f s₄ => f = .next ∧ X'.alike (some (Str.ofString "a_digits", D, (digs m a K).map V.int)) s₄) (wpAny_If (wpAny_mono (Tst.run (c := c.ext fr hnt) (n := n + 49) (b := (a : Int) != 0) (Tst.val (Ev.name rfl rfl) TruV.int fun _ => rfl) P A E s' at2 (X'.full at_)) (fun b s₂ ⟨hb, st2⟩ => ?_) fun _ _ e => e)) (fun f s₄ ⟨hf, X4⟩ => ?_) fun _ _ e => e)
  · subst hb
    have X2 := X'.stepTo (st2.unext ag)
    by_cases ha0 : a = 0
    · rw [if_neg (by simp [ha0])]
      refine wpAny_execs_nil ⟨rfl, ?_⟩
      subst ha0
      have hK0 : K = 0 := by
        rw [← hK, show Builtin.Int.intBits ((0 : Nat) : Int) = 0 by decide]
        exact Nat.div_eq_of_lt (by omega)
      have e : digs m 0 K = List.replicate K 0 := by rw [hK0]; rfl
      rw [e]
      exact X2
    · rw [if_pos (by simp [ha0])]
      have hbp : 0 < Builtin.Int.intBits (a : Int) := by
        rcases Nat.eq_zero_or_pos (Builtin.Int.intBits (a : Int)) with h | h
        · have := lt_intBits a
          rw [h] at this; omega
        · exact h
      have hKp : 0 < K := by rw [← hK]; exact Nat.div_pos (by omega) hm0
      have hKm : Builtin.Int.intBits (a : Int) ≤ K * m := by
        have := Nat.div_add_mod (Builtin.Int.intBits (a : Int) + m - 1) m
        have h2 := Nat.mod_lt (Builtin.Int.intBits (a : Int) + m - 1) hm0
        rw [hK, Nat.mul_comm] at this
        omega
      have haK : a < 2 ^ (K * m) := Nat.lt_of_lt_of_le (lt_intBits a) (Nat.pow_le_pow_right (by decide) hKm)
      obtain ⟨fdd, hfd'⟩ : ∃ fdd, fo.data = .func fdd := ⟨_, hfd⟩
      refine wpAny_execs_cons (wpAny_Expr ?_ rfl)
      refine wpAny_Call_Name_kw (wpAny_Name (load_var (v := .ref F) X.eok.fk (let ⟨o, e, d⟩ := cI; .inr ⟨.inl rfl, L + 3, rfl, o, st2.inv.k (L + 3) o e, d⟩) (callWith_function (o := fo) (fd := fdd) (evalArgs_trees rfl (wpAny_mono (Evs.run (c := c.ext fr hnt) (n := n + 49) (ys := [.int (a : Int), .int 0, .int (K : Int)]) (Evs.cons (Ev.name rfl rfl) (Evs.cons Ev.int (Evs.cons (Ev.eq (Ev.call (f := .builtin "len") (show Glo c _ _ _ from glo_tab H rfl rfl) rfl rfl (Evs.cons (Ev.name rfl rfl) Evs.nil rfl) CallV.len_list) (by simp)) Evs.nil rfl) rfl) rfl) P A E s₂ _ (at2.step st2) (X2.full at_)) (fun ws s₃ ⟨rs, st3⟩ => ?_) fun _ _ e => e)))) rfl)
      refine ⟨⟨st3.inv.k _ _ lF, hfd'⟩, ?_⟩
      have X3 := X2.stepTo (st3.unext ag)
      obtain ⟨h0, _, vs, hl, hn, hr⟩ := X3.own _ D _ rfl
      have ih : Inv (c.ext fr hnt) (hide1 s₃ D) := st3.inv.hide hl hKD
      have st' : Step (c.ext fr hnt) (hide1 s₃ D) s₃ := ⟨fun b o e _ => of_hide1 e, rfl, st3.inv, fun _ _ e => e⟩
      have at3 : At (c.ext fr hnt) (n + 40) A P (hide1 s₃ D) := ⟨at_.room.mono (by omega), ih, fun b e => by
        by_cases hb : b = D
        · rw [hb]; exact at_.fresh D h0
        · refine (at_.fresh.step X3.step at_.inv) b ?_
          cases q : s₃.heap.get? b with
          | none => rfl
          | some o => rw [hide1_get q hb] at e; cases e⟩
      have := (key 40 (Nat.le_refl _) 0 K a (List.replicate K 0) hKp hK40 (by simp) (by simp; exact hK40) haK).run P A E (hide1 s₃ D) s₃ vs ws at3 st' hide1_none hl hn (hr.monoP fun b hb => Bar.of_some.mp hb) (by rw [Nat.zero_add]; exact rs.flats (by simp [V.flat]))
      refine wpAny_mono this (fun v s₄ ⟨hv, ef⟩ => ?_) fun _ _ e => e
      subst hv
      have ef' : Eff c s₀ P D s₃ ((setDigs m (List.replicate K 0) a 0 K).map V.int) s₄ := by
        refine ⟨⟨fun b o e ht => ?_, ?_, ef.step.inv.unext ag, fun i x e => ef.gens i x (X3.step.gens i x e)⟩, ef.keep, ef.gens, ef.list⟩
        · have hbD : b ≠ D := fun q => by rw [q, h0] at e; cases e
          exact ef.keep b o hbD ht (X3.step.old b o e ht)
        · exact ef.step.os.trans X3.step.os
      obtain ⟨X4, _⟩ := X3.effect ef'
      rw [setDigs_all] at X4
      exact wpAny_execs_nil ⟨rfl, X4⟩
  · subst hf
    refine wpAny_execs_cons (wpAny_Return_some (wpAny_mono (Ev.run (c := c) (n := n + 49) (y := .list ((digs m a K).map V.int)) (Ev.name rfl rfl) P A E s₄ (X4.at at_) (X4.full at_)) (fun v s'' ⟨r, st⟩ => ⟨_, rfl, r, X4.step.trans st⟩) fun _ _ e => e))
end

section
variable {c : Cx} {P : Params} {n : Nat}

theorem digVal_cons (q : Int) (l : List Int) (m : Nat) : ∀ (k L : Nat), digVal (q :: l) m (L + 1) k = digVal l m L k
  | 0, L => rfl
  | k + 1, L => by
    rw [digVal, digVal, digVal_cons q l m k (L + 1)]
    simp
theorem digs_length {m x K : Nat} : (digs m x K).length = K := by simp [digs]
theorem digs_get {m x K i : Nat} (h : i < K) : (digs m x K)[i]'(by rw [digs_length]; exact h) = ((x / 2 ^ (i * m) % 2 ^ m : Nat) : Int) := by simp [digs]

theorem k_divmod_pos (H : Cok c (KK P)) (T : Tabs c) {a b : Nat} (ha : a < 2 ^ 40) (hb0 : 0 < b) (hb : b < 2 ^ 30) :
    CallV c (n + 51) (.ref A__divmod_pos) [.int (a : Int), .int (b : Int)] (.tup [.int ((a / b : Nat) : Int), .int ((a % b : Nat) : Int)]) := by
  have hm0 : 0 < Builtin.Int.intBits (b : Int) := by
    rcases Nat.eq_zero_or_pos (Builtin.Int.intBits (b : Int)) with h | h
    · have := lt_intBits b
      rw [h] at this; omega
    · exact h
  have hm : Builtin.Int.intBits (b : Int) ≤ 30 := intBits_le (by omega) (by exact_mod_cast hb)
  generalize hmd : Builtin.Int.intBits (b : Int) = m at hm0 hm
  have ki := k_int2digits (n := n) H T (a := a) (m := m) ha hm0 (by omega)
  have haK : a < 2 ^ (((Builtin.Int.intBits (a : Int) + m - 1) / m) * m) := by
    refine Nat.lt_of_lt_of_le (lt_intBits a) (Nat.pow_le_pow_right (by decide) ?_)
    have := Nat.div_add_mod (Builtin.Int.intBits (a : Int) + m - 1) m
    have h2 := Nat.mod_lt (Builtin.Int.intBits (a : Int) + m - 1) hm0
    rw [Nat.mul_comm] at this
    omega
  have hK40 : (Builtin.Int.intBits (a : Int) + m - 1) / m ≤ 40 := by
    have hbits : Builtin.Int.intBits (a : Int) ≤ 40 := intBits_le (by omega) (by exact_mod_cast ha)
    rw [Nat.div_le_iff_le_mul hm0]
    have : 40 * 1 ≤ 40 * m := Nat.mul_le_mul_left _ hm0
    omega
  generalize (Builtin.Int.intBits (a : Int) + m - 1) / m = K at ki haK hK40
  have p2 : ∀ k : Nat, 0 < 2 ^ k := Nat.two_pow_pos
  refine CallV.def (n := n + 50) H.hK rfl rfl (by kernel_rfl) (ps := ["a", "b"]) (by tm_at "fn") (by decide) (by decide) rfl (fun L => ?_)
  refine WS.asg (y := .int (m : Int)) (by tm_at "var") (by tm_at "hx") (by rfl) (Ev.eq (Ev.meth rfl rfl rfl (by simp) (Ev.name rfl rfl) Evs.nil MethV.bit_length) (by rw [hmd])) ?_
  refine WS.asg (by tm_at "var") (by tm_at "hx") (by rfl) (Ev.fn H (by tm_at "glo") (by kernel_rfl) rfl (Evs.cons (Ev.name rfl rfl) (Evs.cons (Ev.name rfl rfl) Evs.nil rfl) rfl) ki) ?_
  tm_at "asg"
  · tm_at "ev"
  refine WS.cons (WX.new (EvNew.list Evs.nil nofun (by decide)) (by tm_at "var") rfl fun D => ?_)
  show WS _ _ _ _ _ _ _
  refine WS.cut (fun ρ' own' => ∃ qs : List Int, own' = some (Str.ofString "q_digits", D, qs.map V.int) ∧ qs.length = K ∧ (∀ q ∈ qs, 0 ≤ q ∧ q < 2 ^ m) ∧ digVal qs.reverse m 0 K = ((a / b : Nat) : Int) ∧ Has ρ' [("r", .int ((a % b : Nat) : Int)), ("n", .int (m : Int))])
    (WX.for (xs := ((digs m a K).map V.int).reverse) (fun i ρ' own' => ∃ qs : List Int, own' = some (Str.ofString "q_digits", D, qs.map V.int) ∧ qs.length = i ∧ i ≤ K ∧ (∀ q ∈ qs, 0 ≤ q ∧ q < 2 ^ m) ∧ digVal qs.reverse m 0 i = ((a / 2 ^ ((K - i) * m) / b : Nat) : Int) ∧
      Has ρ' [("r", .int ((a / 2 ^ ((K - i) * m) % b : Nat) : Int)), ("n", .int (m : Int)), ("b", .int (b : Int))]) (It.reversed (by tm_at "glo") rfl (Evs.cons (Ev.name rfl rfl) Evs.nil rfl)) (by tm_at "var") ?_ ?_ ?_ ?_) ?_
  · refine ⟨[], rfl, rfl, Nat.zero_le _, nofun, ?_, ?_⟩
    · rw [Nat.sub_zero, Nat.div_eq_of_lt haK, Nat.zero_div]; rfl
    · rw [Nat.sub_zero, Nat.div_eq_of_lt haK, Nat.zero_mod]
      exact has_cons rfl (has_cons rfl (has_cons rfl has_nil))
  · rintro i hi ρ' own' ⟨qs, rfl, hlen, hiK, hq, hv, hρ⟩
    have hi' : i < K := by simpa [digs_length] using hi
    refine ⟨by tm_at "hx", ?_⟩
    have hx : (((digs m a K).map V.int).reverse)[i] = V.int ((a / 2 ^ ((K - (i + 1)) * m) % 2 ^ m : Nat) : Int) := by
      rw [List.getElem_reverse, List.getElem_map]
      simp only [List.length_map, digs_length]
      rw [digs_get (by omega)]
      rw [show K - 1 - i = K - (i + 1) by omega]
    rw [hx]
    generalize hd : a / 2 ^ ((K - (i + 1)) * m) % 2 ^ m = d
    have hdl : d < 2 ^ m := by rw [← hd]; exact Nat.mod_lt _ (p2 m)
    have hA : a / 2 ^ ((K - (i + 1)) * m) = a / 2 ^ ((K - i) * m) * 2 ^ m + d := by
      have e : a / 2 ^ ((K - i) * m) = a / 2 ^ ((K - (i + 1)) * m) / 2 ^ m := by
        rw [Nat.div_div_eq_div_mul, ← Nat.pow_add, show (K - i) * m = (K - (i + 1)) * m + m by
          rw [show K - i = (K - (i + 1)) + 1 by omega, Nat.succ_mul]]
      rw [e, ← hd]
      have := Nat.div_add_mod (a / 2 ^ ((K - (i + 1)) * m)) (2 ^ m)
      rw [Nat.mul_comm] at this
      exact this.symm
    rw [hA]
    generalize a / 2 ^ ((K - i) * m) = A at hv hρ ⊢
    generalize hr : A % b = r at hρ
    have hrb : r < b := by rw [← hr]; exact Nat.mod_lt _ hb0
    have hAq := Nat.div_add_mod A b
    rw [hr] at hAq
    have e1 : A * 2 ^ m + d = b * (A / b * 2 ^ m) + (r * 2 ^ m + d) := by
      rw [← Nat.mul_assoc, ← Nat.add_assoc, ← Nat.add_mul, hAq]
    have e2 : (A * 2 ^ m + d) / b = A / b * 2 ^ m + (r * 2 ^ m + d) / b := by rw [e1, Nat.mul_add_div hb0]
    have e3 : (A * 2 ^ m + d) % b = (r * 2 ^ m + d) % b := by rw [e1, Nat.mul_add_mod]
    have hvl : r * 2 ^ m + d < b * 2 ^ m := by
      have : (r + 1) * 2 ^ m ≤ b * 2 ^ m := Nat.mul_le_mul_right _ hrb
      rw [Nat.succ_mul] at this
      omega
    have hv60 : r * 2 ^ m + d < 2 ^ 60 := by
      have h1 : b * 2 ^ m ≤ 2 ^ 30 * 2 ^ 30 := Nat.mul_le_mul (by omega) (Nat.pow_le_pow_right (by decide) hm)
      have : (2 : Nat) ^ 30 * 2 ^ 30 = 2 ^ 60 := by decide
      omega
    have hq1 : (r * 2 ^ m + d) / b < 2 ^ m := Nat.div_lt_of_lt_mul hvl
    rw [e2, e3]
    refine WS.canon (ρ' := [("a_digit", .int (d : Int)), ("r", .int (r : Int)), ("n", .int (m : Int)), ("b", .int (b : Int))]) (fun x y e => ?_) ?_
    · rw [List.lookup_cons] at e ⊢
      split
      · rename_i h; rw [h] at e; exact e
      · rename_i h; rw [h] at e; exact hρ _ _ e
    have kd := k_div2n1n (n := n + 49) H (a := ((r * 2 ^ m + d : Nat) : Int)) (b := (b : Int)) (m := (m : Int)) (by
      have := intBits_le (x := ((r * 2 ^ m + d : Nat) : Int)) (m := 60) (by omega) (by exact_mod_cast hv60)
      omega) (by omega) (by omega) (by omega)
    have hrbits : Builtin.Int.intBits (r : Int) ≤ 30 := intBits_le (by omega) (by exact_mod_cast Nat.lt_trans hrb hb)
    refine WS.cons (WX.unpack2 (Evo.of (Ev.fn H (by tm_at "glo") (by kernel_rfl) rfl (Evs.cons (Ev.eq (Ev.binop (Ev.binop (Ev.name rfl rfl) (Ev.name rfl rfl) (BinV.shl_int (by omega) (by omega))) (Ev.name rfl rfl) BinV.add_int) ?_) (Evs.cons (Ev.name rfl rfl) (Evs.cons (Ev.name rfl rfl) Evs.nil rfl) rfl) rfl) kd)) (by tm_at "var") (by tm_at "var") (by tm_at "hx") (by tm_at "hx") rfl rfl ?_)
    · rw [Int.toNat_natCast]
      simp
    show WS _ _ _ _ _ _ _
    have f1 : (((r * 2 ^ m + d : Nat) : Int)).fdiv (b : Int) = (((r * 2 ^ m + d) / b : Nat) : Int) := by rw [Int.fdiv_eq_ediv_of_nonneg _ (by omega)]; rfl
    have f2 : (((r * 2 ^ m + d : Nat) : Int)).fmod (b : Int) = (((r * 2 ^ m + d) % b : Nat) : Int) := by rw [Int.fmod_eq_emod_of_nonneg _ (by omega)]; rfl
    rw [f1, f2]
    have hl : lim = 1048576 := rfl
    refine WS.cons (WX.append rfl rfl rfl (Ev.name rfl rfl) rfl (by rw [List.length_map]; omega) (WS.nil ⟨qs ++ [(((r * 2 ^ m + d) / b : Nat) : Int)], ?_, by simp [hlen], hi', ?_, ?_, ?_⟩))
    · rw [List.map_append]; rfl
    · intro q hqq
      rcases List.mem_append.mp hqq with h | h
      · exact hq q h
      · simp only [List.mem_cons, List.not_mem_nil, or_false] at h
        subst h
        exact ⟨Int.natCast_nonneg _, by exact_mod_cast hq1⟩
    · rw [List.reverse_append, List.reverse_singleton, List.singleton_append, digVal, digVal_cons, hv]
      simp only [List.getD_cons_zero]
      rw [Int.natCast_add, Int.natCast_mul, Int.natCast_pow, Int.mul_comm]
      exact Int.add_comm _ _
    · exact has_cons rfl (has_cons rfl (has_cons rfl has_nil))
  · rintro i ρ' own' ⟨qs, rfl, _⟩ x ⟨z, ys, e⟩
    cases e; exact ⟨_, _, rfl⟩
  · rintro ρ' own' ⟨qs, rfl, hlen, _, hq, hv, hρ⟩
    have hK : ((digs m a K).map V.int).reverse.length = K := by simp [digs_length]
    rw [hK] at hlen hv hρ
    rw [Nat.sub_self, Nat.zero_mul, Nat.pow_zero, Nat.div_one] at hv hρ
    exact ⟨qs, rfl, hlen, hq, hv, fun x y e => hρ x y (by
      rw [List.lookup_cons] at e ⊢
      split
      · rename_i h; rw [h] at e; exact e
      · rename_i h
        rw [h] at e
        rw [List.lookup_cons] at e ⊢
        split
        · rename_i h; rw [h] at e; exact e
        · rename_i h; rw [h] at e; cases e)⟩
  · rintro ρ' own' ⟨qs, rfl, hlen, hq, hv, hρ⟩
    refine WS.canon hρ ?_
    refine WS.cons (WX.reverse rfl rfl ?_)
    show WS _ _ _ _ _ _ _
    rw [← List.map_reverse]
    have kd := k_digits2int (n := n) H T (ds := qs.reverse) (m := m) (by simpa using hq) (by omega) (by simp [hlen]; omega)
    rw [List.length_reverse, hlen, hv] at kd
    refine WS.asgf (by tm_at "var") (by tm_at "hx") (by rfl) (Ev.fn H (by tm_at "glo") (by kernel_rfl) rfl (Evs.cons (Ev.name rfl rfl) (Evs.cons (Ev.name rfl rfl) Evs.nil rfl) rfl) kd) rfl ?_
    refine WS.return (Ev.tuple (Evs.cons (Ev.name rfl rfl) (Evs.cons (Ev.name rfl rfl) Evs.nil rfl) rfl) (Nat.le_of_ble_eq_true rfl)) rfl
end

section
variable {c : Cx} {P : Params} {n : Nat}

theorem fdiv_unique {a b q r : Int} (hb : 0 < b) (h : a = b * q + r) (h0 : 0 ≤ r) (h1 : r < b) : a.fdiv b = q ∧ a.fmod b = r := by
  rw [Int.fdiv_eq_ediv_of_nonneg _ (by omega), Int.fmod_eq_emod_of_nonneg _ (by omega)]
  have := (Int.ediv_emod_unique hb (a := a) (r := r) (q := q)).mpr ⟨by rw [h, Int.add_comm], h0, h1⟩
  exact this

theorem k_int_divmod0 (H : Cok c (KK P)) (T : Tabs c) {a b : Int} (ha0 : 0 ≤ a) (ha : a < 2 ^ 40) (hb0 : 0 < b) (hb : b < 2 ^ 30) :
    CallV c (n + 52) (.ref A_int_divmod) [.int a, .int b] (.tup [.int (a.fdiv b), .int (a.fmod b)]) := by
  obtain ⟨a, rfl⟩ := Int.eq_ofNat_of_zero_le ha0
  obtain ⟨b, rfl⟩ := Int.eq_ofNat_of_zero_le (Int.le_of_lt hb0)
  have kp := k_divmod_pos (n := n) H T (a := a) (b := b) (by exact_mod_cast ha) (by exact_mod_cast hb0) (by exact_mod_cast hb)
  refine CallV.def (n := n + 51) H.hK rfl rfl (by kernel_rfl) (ps := ["a", "b"]) (by tm_at "fn") (by decide) (by decide) rfl (fun L => ?_)
  refine WS.ite false (Tst.eq (y := (b : Int) == 0) ?_ (by simp; omega)) nofun fun _ => ?_
  · tm_at "ev"
  refine WS.ite false (Tst.eq (y := decide ((b : Int) < 0)) ?_ (by first | (simp; done) | (simp; omega))) nofun fun _ => ?_
  · tm_at "ev"
  refine WS.ite false (Tst.eq (y := decide ((a : Int) < 0)) ?_ (by first | (simp; done) | (simp; omega))) nofun fun _ => ?_
  · tm_at "ev"
  refine WS.return (Ev.fn H (by tm_at "glo") (by kernel_rfl) rfl (Evs.cons (Ev.name rfl rfl) (Evs.cons (Ev.name rfl rfl) Evs.nil rfl) rfl) kp) ?_
  show _ = _
  rw [Int.fdiv_eq_ediv_of_nonneg _ (by omega), Int.fmod_eq_emod_of_nonneg _ (by omega)]
  rfl

theorem k_int_divmod1 (H : Cok c (KK P)) (T : Tabs c) {a b : Int} (ha : -(2 ^ 39) ≤ a ∧ a < 2 ^ 39) (hb0 : 0 < b) (hb : b < 2 ^ 30) :
    CallV c (n + 53) (.ref A_int_divmod) [.int a, .int b] (.tup [.int (a.fdiv b), .int (a.fmod b)]) := by
  by_cases h0 : 0 ≤ a
  · exact (k_int_divmod0 (n := n) H T h0 (by omega) hb0 hb).up (by omega)
  have kp := k_int_divmod0 (n := n) H T (a := Builtin.bitNot a) (b := b) (by unfold Builtin.bitNot; omega) (by unfold Builtin.bitNot; omega) hb0 hb
  have hq : ∃ q r, (Builtin.bitNot a).fdiv b = q ∧ (Builtin.bitNot a).fmod b = r ∧ Builtin.bitNot a = b * q + r ∧ 0 ≤ r ∧ r < b := by
    refine ⟨_, _, rfl, rfl, ?_⟩
    rw [Int.fdiv_eq_ediv_of_nonneg _ (by omega), Int.fmod_eq_emod_of_nonneg _ (by omega)]
    exact ⟨(Int.mul_ediv_add_emod _ _).symm, Int.emod_nonneg _ (by omega), Int.emod_lt_of_pos _ hb0⟩
  obtain ⟨q, r, e1, e2, e3, h1, h2⟩ := hq
  rw [e1, e2] at kp
  have hu := fdiv_unique (a := a) (q := -q - 1) (r := b - r - 1) hb0 (by
    unfold Builtin.bitNot at e3
    rw [Int.mul_sub, Int.mul_neg, Int.mul_one]
    omega) (by omega) (by omega)
  rw [hu.1, hu.2]
  refine CallV.def (n := n + 52) H.hK rfl rfl (by kernel_rfl) (ps := ["a", "b"]) (by tm_at "fn") (by decide) (by decide) rfl (fun L => ?_)
  refine WS.ite false (Tst.eq (y := b == 0) ?_ (by first | (simp; done) | (simp; omega))) nofun fun _ => ?_
  · tm_at "ev"
  refine WS.ite false (Tst.eq (y := decide (b < 0)) ?_ (by first | (simp; done) | (simp; omega))) nofun fun _ => ?_
  · tm_at "ev"
  refine WS.ite true (Tst.eq (y := decide (a < 0)) ?_ (by first | (simp; done) | (simp; omega))) (fun _ => ?_) nofun
  · tm_at "ev"
  refine WS.cons (WX.unpack2 (Evo.of (Ev.fn H (by tm_at "glo") (by kernel_rfl) rfl (Evs.cons (Ev.unary (Ev.name rfl rfl) UnV.inv) (Evs.cons (Ev.name rfl rfl) Evs.nil rfl) rfl) kp)) (by tm_at "var") (by tm_at "var") (by tm_at "hx") (by tm_at "hx") rfl rfl ?_)
  refine WS.return (Ev.tuple (Evs.cons (Ev.unary (Ev.name rfl rfl) UnV.inv) (Evs.cons (Ev.binop (Ev.name rfl rfl) (Ev.unary (Ev.name rfl rfl) UnV.inv) BinV.add_int) Evs.nil rfl) rfl) (Nat.le_of_ble_eq_true rfl)) ?_
  show _ = _
  unfold Builtin.bitNot
  rw [show b + (-r - 1) = b - r - 1 by omega]

theorem k_int_divmod (H : Cok c (KK P)) (T : Tabs c) {a b : Int} (ha : -(2 ^ 38) ≤ a ∧ a < 2 ^ 38) (hb0 : b ≠ 0) (hb : -(2 ^ 29) < b ∧ b < 2 ^ 29) :
    CallV c (n + 54) (.ref A_int_divmod) [.int a, .int b] (.tup [.int (a.fdiv b), .int (a.fmod b)]) := by
  by_cases h0 : 0 < b
  · exact (k_int_divmod1 (n := n) H T (by omega) h0 (by omega)).up (by omega)
  have kp := k_int_divmod1 (n := n) H T (a := -a) (b := -b) (by omega) (by omega) (by omega)
  have e1 : (-a).fdiv (-b) = a.fdiv b := Int.neg_fdiv_neg a b
  have e2 : -((-a).fmod (-b)) = a.fmod b := by
    rw [Int.fmod_def, Int.fmod_def, e1, Int.neg_mul]
    omega
  rw [← e1, ← e2]
  refine CallV.def (n := n + 53) H.hK rfl rfl (by kernel_rfl) (ps := ["a", "b"]) (by tm_at "fn") (by decide) (by decide) rfl (fun L => ?_)
  refine WS.ite false (Tst.eq (y := b == 0) ?_ (by first | (simp; done) | (simp; omega))) nofun fun _ => ?_
  · tm_at "ev"
  refine WS.ite true (Tst.eq (y := decide (b < 0)) ?_ (by first | (simp; done) | (simp; omega))) (fun _ => ?_) nofun
  · tm_at "ev"
  refine WS.cons (WX.unpack2 (Evo.of (Ev.fn H (by tm_at "glo") (by kernel_rfl) rfl (Evs.cons (Ev.unary (Ev.name rfl rfl) UnV.neg) (Evs.cons (Ev.unary (Ev.name rfl rfl) UnV.neg) Evs.nil rfl) rfl) kp)) (by tm_at "var") (by tm_at "var") (by tm_at "hx") (by tm_at "hx") rfl rfl ?_)
  exact WS.return (Ev.tuple (Evs.cons (Ev.name rfl rfl) (Evs.cons (Ev.unary (Ev.name rfl rfl) UnV.neg) Evs.nil rfl) rfl) (Nat.le_of_ble_eq_true rfl)) rfl
end

section
variable {c : Cx} {P : Params} {n : Nat}

noncomputable abbrev gFd (P : Params) : FuncData := fdAt (KK P) A__grouping_intervals
noncomputable abbrev gFor (P : Params) : List Stmt := forBody ((stmtsOf (gFd P)).getD 1 (.Pass ⟨0, 0, 0, 0⟩))
noncomputable abbrev gTgt (P : Params) : Expr := forTgt ((stmtsOf (gFd P)).getD 1 (.Pass ⟨0, 0, 0, 0⟩))
noncomputable abbrev gEnv (P : Params) (C : Addr) : Env := newEnv (gFd P).scope C mainGlobals [] ((gFd P).qualname ++ ".<locals>.") (some A__grouping_intervals) (gFd P).code none builtinsNs

/-- what the row tells, from here on: the intervals, and whether it ends -/
inductive Tells : List Int → Option Int → List Int → Bool → Prop
  | done {last : Option Int} : Tells [] last [] true
  | stop {r : List Int} {last : Option Int} : Tells (127 :: r) last [] true
  | rep {r : List Int} {z : Int} {k : Nat} : Tells (0 :: r) (some z) (List.replicate k z) false
  | cut {r : List Int} {last : Option Int} : Tells r last [] false
  | item {x : Int} {r : List Int} {last : Option Int} {zs : List Int} {fin : Bool} : x ≠ 127 → x ≠ 0 → Tells r (some x) zs fin → Tells (x :: r) last (x :: zs) fin

noncomputable def lastV : Option Int → V
  | none => .none
  | some z => .int z

/-- the generator's frame, before a turn of its loop -/
structure GFr (c : Cx) (C I aR : Addr) (vs : List Value) (i : Nat) (last : Option Int) (s : Shared) : Prop where
  inv : Inv c s
  ns : ∃ m v, s.heap.Ns C m ∧ m "last_interval" = some v ∧ Rep (fun _ => True) s.heap (lastV last) v
  it : s.heap.IsListIter I aR i
  li : s.heap.PlainList aR vs.toArray

/-- addresses that are the generator's own -/
structure GOwn (c : Cx) (C I : Addr) : Prop where
  ne : C ≠ I
  own : ∀ b, (b = C ∨ b = I) → (∀ o, c.K.lookup b ≠ some o) ∧ b ≠ mainGlobals ∧ b ≠ builtinsNs ∧ b ≠ cStatics

noncomputable def gZ (c : Cx) (C I : Addr) (all : Bool) (n : Nat) (s₀ s : Shared) : Prop := all = true ∧ n = 1 ∧ GSince c C I s₀ s
noncomputable def gY (c : Cx) (C I aR : Addr) (zs : List Int) (tot : Nat) : Protocol := fun m s₀ v s kap =>
  (∃ z t, zs[tot - 1 - m]? = some z ∧ v = .int z t) ∧ GSince c C I s₀ s ∧ Priv s.heap C I ∧
    (m = 0 ∨ ∀ s'' : Shared, Inv c s'' → (∀ b o, (b = C ∨ b = I ∨ b = aR) → s.heap.get? b = some o → s''.heap.get? b = some o) → kap (.send .none) s'')

structure FrOk (prog : Program) (w : World) (A : Around) (R : GenEnd) (Y : Protocol) (Z : Nat → Shared → Shared → Prop) (k : Nat) (fs : List PySem.Frame) : Prop where
  split : splitAtGen fs = none
  ung : fs.any Frame.guarded = false
  room : ∀ code : Code, code.weight = 0 → code.cUnits = 0 → Room k (A.over code fs)
  fin : ∀ (code : Code) (f : Flow) n s₀ s, (f = .next ∨ f = .ret .none) → Z n s₀ s → Seg (model prog w) A R Y n s₀ code (leafOf (.ok f)) fs s

theorem CmpV.is_none {c : Cx} {n : Nat} {a : Int} : CmpV c n .Is (.int a) .none false := .mk fun P A E s va vb at_ ra rb => by
  obtain ⟨t, rfl⟩ := ra.int_inv
  obtain rfl := rb.none_inv
  exact is_int_none ⟨rfl, Step.refl at_.inv⟩

theorem gfr_at {A : Around} {k : Nat} {s : Shared} (hr : Room k A) (I : Inv c s) : At c k A (fun _ => True) s := ⟨hr, I, fun _ _ => trivial⟩
theorem gfr_frame {C : Addr} {s : Shared} {ρ : List (Str × V)} {m : Str → Option Value} (hn : s.heap.Ns C m) (h : ∀ p ∈ ρ, (gEnv P C).kindOf p.1 = some .local ∧ ∃ v, m p.1 = some v ∧ Rep (fun _ => True) s.heap p.2 v) : FrameAt (fun _ => True) s.heap (gEnv P C) ρ :=
  ⟨rfl, rfl, rfl, fun x y e => by
    obtain ⟨hk, v, hv, r⟩ := h (x, y) (mem_of_lookup_some e)
    exact ⟨v, .inl ⟨hk, m, hn, hv⟩, r⟩⟩

theorem gfr_li {C I aR : Addr} {vs : List Value} {i : Nat} {last : Option Int} {s : Shared} (x : GFr c C I aR vs i last s) : aR ≠ C ∧ aR ≠ I := by
  obtain ⟨k, e⟩ := x.li
  obtain ⟨m, v, hn, _⟩ := x.ns
  obtain ⟨o, e2, hc, _⟩ := x.it
  refine ⟨fun q => list_not_ns ⟨k, e⟩ (q ▸ hn), fun q => ?_⟩
  rw [q, e2] at e
  cases e
  exact absurd (Value.type.inj hc) (by decide)

theorem gstore {M : Model} {A : Around} {E : Value → Shared → Prop} {C I : Addr} {s : Shared} {m : Str → Option Value} {x : Str} {v : Value} (I₀ : Inv c s) (ho : GOwn c C I) (hn : s.heap.Ns C m) (hk : (gEnv P C).kindOf x = some .local) :
    wpAny M A (storeName (gEnv P C) x v) (fun _ s' => GSince c C I s s' ∧ s'.heap.Ns C (fun y => if y = x then some v else m y) ∧ (∀ b o, b ≠ C → s.heap.get? b = some o → s'.heap.get? b = some o)) E s := by
  refine wpAny_storeName_local hk hn (fun h' hn' hs => ?_) (noclass rfl)
  have k : ∀ b o, b ≠ C → s.heap.get? b = some o → h'.get? b = some o := fun b o hb e => hs.extBut b o hb e
  refine ⟨⟨fun b o hb _ _ e => k b o hb e, rfl, ?_, fun _ _ e => e⟩, hn', k⟩
  refine inv_priv I₀ (D := (· = C)) (fun b hb => ho.own b (.inl hb)) (fun b o hb e => ?_) k
  obtain ⟨es, q, d⟩ := ns_get hn (hb ▸ e)
  exact ⟨mut_dict d, by rw [d]; nofun⟩

theorem GSince.trans {C I : Addr} {s₀ s s' : Shared} (x : GSince c C I s₀ s) (y : GSince c C I s s') : GSince c C I s₀ s' :=
  ⟨fun b o h1 h2 h3 e => y.keep b o h1 h2 h3 (x.keep b o h1 h2 h3 e), y.os.trans x.os, y.inv, fun i z e => y.gens i z (x.gens i z e)⟩

/-- in a turn of the loop: the interval bound -/
structure GIn (c : Cx) (C I aR : Addr) (vs : List Value) (i : Nat) (x : Int) (last : Option Int) (s : Shared) : Prop where
  inv : Inv c s
  ns : ∃ m v t, s.heap.Ns C m ∧ m "last_interval" = some v ∧ Rep (fun _ => True) s.heap (lastV last) v ∧ m "interval" = some (.int x t)
  it : s.heap.IsListIter I aR (i + 1)
  li : s.heap.PlainList aR vs.toArray

theorem GIn.priv {C I aR : Addr} {vs : List Value} {i : Nat} {x : Int} {last : Option Int} {s : Shared} (g : GIn c C I aR vs i x last s) : Priv s.heap C I := let ⟨m, _, _, h, _⟩ := g.ns; ⟨⟨m, h⟩, aR, _, g.it⟩

theorem listIter_get {h : Heap} {I l : Addr} {i : Nat} (x : h.IsListIter I l i) {o : Obj} (e : h.get? I = some o) : o.cls = .type "list_iterator" ∧ o.data = .fields #[.ref l, .int i 0] := by
  obtain ⟨o', e', hc, hd⟩ := x
  rw [e] at e'; cases e'; exact ⟨hc, hd⟩

theorem g_item {A : Around} {R : GenEnd} {Y : Protocol} {C I aR : Addr} {vs : List Value} {row r : List Int} {x : Int} {last : Option Int} {i nn : Nat} {fs : List PySem.Frame} {s₀ s : Shared} (ho : GOwn c C I) (hrow : IntsAre vs row) (hr : x :: r = row.drop i) (hh : (A.over (.forLoop (gTgt P) (.ref I) (gFor P) [] (gEnv P C)) fs).handled = none)
    (G : GFr c C I aR vs i last s) (S : GSince c C I s₀ s)
    (h : ∀ s₂, GIn c C I aR vs i x last s₂ → GSince c C I s₀ s₂ → Seg (model c.prog c.w) A R Y nn s₀ (.forLoop (gTgt P) (.ref I) (gFor P) [] (gEnv P C)) ((execs (gFor P) (gEnv P C)).wrap (forK (gTgt P) (.ref I) (gFor P) [] (gEnv P C)) (loopH (gEnv P C)) id id) fs s₂) :
    Seg (model c.prog c.w) A R Y nn s₀ (.forLoop (gTgt P) (.ref I) (gFor P) [] (gEnv P C)) ((model c.prog c.w).den (.forLoop (gTgt P) (.ref I) (gFor P) [] (gEnv P C))) fs s := by
  obtain ⟨hRC, hRI⟩ := gfr_li G
  have hi : i < row.length := by
    by_cases q : i < row.length
    · exact q
    · rw [List.drop_eq_nil_of_le (by omega)] at hr; cases hr
  have hx : row[i]? = some x := by
    have := congrArg (fun l => l[0]?) hr
    simpa using this.symm
  have hlen := hrow.length
  refine sg_forLoop (fun v => rfl) ?_
  have W := Walks.list (prog := c.prog) (w := c.w) (A := A.over (.forLoop (gTgt P) (.ref I) (gFor P) [] (gEnv P C)) fs) hh I aR hRI vs.toArray
  refine W.item i s _ _ (by rw [List.size_toArray]; omega) ⟨G.it, G.li.isList⟩ fun v h1 tk1 hv hst hk => ?_
  have k1 : ∀ b o, b ≠ I → s.heap.get? b = some o → h1.get? b = some o := fun b o hb e => hk b o (by simpa using hb) e
  have I1 : Inv c { s with heap := h1, toks := tk1 } := inv_priv G.inv (D := (· = I)) (fun b hb => ho.own b (.inr hb)) (fun b o hb e => by
    obtain ⟨q1, q2⟩ := listIter_get G.it (hb ▸ e)
    exact ⟨mut_cls q1 (by decide), by rw [q2]; nofun⟩) k1
  have S1 : GSince c C I s₀ { s with heap := h1, toks := tk1 } := S.trans ⟨fun b o _ hb _ e => k1 b o hb e, rfl, I1, fun _ _ e => e⟩
  have hvx : ∃ t, v = .int x t := by
    obtain ⟨t, ht⟩ := hrow.get i x hx
    rw [List.getElem?_toArray] at hv
    rw [ht] at hv; cases hv; exact ⟨t, rfl⟩
  obtain ⟨t, rfl⟩ := hvx
  obtain ⟨m, lv, hn, hl, hlr⟩ := G.ns
  have hn1 : h1.Ns C m := let ⟨o, es, ep, e, r⟩ := hn; ⟨o, es, ep, k1 _ o ho.ne e, r⟩
  refine wpAny_assign_Name (wpAny_mono (gstore I1 ho hn1 rfl) (fun _ s2 ⟨S2, hn2, k2⟩ => ?_) fun _ _ e => e)
  refine h s2 ⟨S2.inv, ⟨_, lv, t, hn2, ?_, ?_, ?_⟩, ?_, ?_⟩ (S1.trans S2)
  · exact hl
  · exact hlr.flat (by cases last <;> rfl)
  · rfl
  · obtain ⟨o, e, q⟩ := hst.1; exact ⟨o, k2 _ o (Ne.symm ho.ne) e, q⟩
  · obtain ⟨k, e⟩ := G.li
    exact ⟨k, k2 _ _ hRC (k1 _ _ hRI e)⟩

theorem GIn.step {C I aR : Addr} {vs : List Value} {i : Nat} {x : Int} {last : Option Int} {s s' : Shared} (g : GIn c C I aR vs i x last s) (st : Step c s s') : GIn c C I aR vs i x last s' where
  inv := st.inv
  ns := let ⟨m, v, t, h1, h2, h3, h4⟩ := g.ns; ⟨m, v, t, st.ns g.inv h1, h2, h3.flat (by cases last <;> rfl), h4⟩
  it := let ⟨o, e, h1, h2⟩ := g.it; ⟨o, st.get g.inv e (.inl (by rw [h1]; nofun)), h1, h2⟩
  li := plainList_step g.inv st g.li
theorem GIn.alike {C I aR : Addr} {vs : List Value} {i : Nat} {x : Int} {last : Option Int} {s s' : Shared} (g : GIn c C I aR vs i x last s) (I' : Inv c s') (al : ∀ b o, (b = C ∨ b = I ∨ b = aR) → s.heap.get? b = some o → s'.heap.get? b = some o) : GIn c C I aR vs i x last s' where
  inv := I'
  ns := let ⟨m, v, t, ⟨o, es, ep, e, r⟩, h2, h3, h4⟩ := g.ns; ⟨m, v, t, ⟨o, es, ep, al _ o (.inl rfl) e, r⟩, h2, h3.flat (by cases last <;> rfl), h4⟩
  it := let ⟨o, e, r⟩ := g.it; ⟨o, al _ o (.inr (.inl rfl)) e, r⟩
  li := let ⟨k, e⟩ := g.li; ⟨k, al _ _ (.inr (.inr rfl)) e⟩
theorem GIn.frame {C I aR : Addr} {vs : List Value} {i : Nat} {x : Int} {last : Option Int} {s : Shared} (g : GIn c C I aR vs i x last s) : FrameAt (fun _ => True) s.heap (gEnv P C) [("interval", .int x), ("last_interval", lastV last)] := by
  obtain ⟨m, v, t, h1, h2, h3, h4⟩ := g.ns
  refine gfr_frame h1 fun p hp => ?_
  simp only [List.mem_cons, List.not_mem_nil, or_false] at hp
  rcases hp with rfl | rfl
  · exact ⟨rfl, _, h4, rep_int⟩
  · exact ⟨rfl, _, h2, h3⟩

theorem room_ret {A : Around} {fs : List PySem.Frame} {k : Nat} {code cF : Code} {kk : Result → Sem PySem.Fin} {g : Bool} {l : List Value} {p : Pos} {kp : List Value} (h : Room k (A.over cF fs)) (h0 : cF.weight = 0) (h1 : cF.cUnits = 0) (h2 : code.weight = 0) (h3 : code.cUnits = 0) :
    Room k (A.over code (.ret kk none g l cF p kp :: fs)) := by
  obtain ⟨a, b, c⟩ := h
  refine ⟨a, ?_, ?_⟩
  · simp only [Around.over, List.map_cons, Frame.where_, frameCount_cons] at b ⊢; omega
  · simp only [Around.over, List.map_cons, Frame.where_, unitsOf_cons] at c ⊢; omega

theorem g_run (H : Cok c (KK P)) {A : Around} {C I aR : Addr} {vs : List Value} {row : List Int} (hrow : IntsAre vs row) {k : Nat} (ho : GOwn c C I) {zall : List Int} {all : Bool} {tot : Nat} (htot : tot = zall.length + (if all = true then 1 else 0)) :
    ∀ {r : List Int} {last : Option Int} {zs : List Int} {fin : Bool}, Tells r last zs fin → ∀ i, r = row.drop i → i ≤ row.length → fin = all → ∀ j, zs = zall.drop j → j + zs.length = zall.length → ∀ nn, nn = zs.length + (if all = true then 1 else 0) → 0 < nn →
    ∀ fs, FrOk c.prog c.w A (fun n s₀ r s₁ => r = .ok (.ret .none) ∧ gZ c C I all n s₀ s₁) (gY c C I aR zall tot) (gZ c C I all) k fs → ∀ s₀ s, GFr c C I aR vs i last s → GSince c C I s₀ s →
    Seg (model c.prog c.w) A (fun n s₀ r s₁ => r = .ok (.ret .none) ∧ gZ c C I all n s₀ s₁) (gY c C I aR zall tot) nn s₀ (.forLoop (gTgt P) (.ref I) (gFor P) [] (gEnv P C)) ((model c.prog c.w).den (.forLoop (gTgt P) (.ref I) (gFor P) [] (gEnv P C))) fs s := by
  intro r last zs fin ht
  induction ht with
  | cut =>
    intro i hr hi hf j hz hj nn hn hpos
    subst hf
    simp at hn; omega
  | done =>
    intro i hr hi hf j hz hj nn hn hpos fs F s₀ s G S
    subst hf
    obtain ⟨hRC, hRI⟩ := gfr_li G
    have hh := (F.room (.forLoop (gTgt P) (.ref I) (gFor P) [] (gEnv P C)) rfl rfl).1
    have hil : i = row.length := by
      have := congrArg List.length hr
      simp at this; omega
    refine sg_forLoop (fun v => rfl) ?_
    have W := Walks.list (prog := c.prog) (w := c.w) (A := A.over (.forLoop (gTgt P) (.ref I) (gFor P) [] (gEnv P C)) fs) hh I aR hRI vs.toArray
    refine W.done s _ _ ⟨?_, G.li.isList⟩ fun h1 tk1 hk => ?_
    · have hit := G.it
      rw [hil, ← hrow.length] at hit
      simpa using hit
    · have k1 : ∀ b o, b ≠ I → s.heap.get? b = some o → h1.get? b = some o := fun b o hb e => hk b o (by simpa using hb) e
      have I1 : Inv c { s with heap := h1, toks := tk1 } := inv_priv G.inv (D := (· = I)) (fun b hb => ho.own b (.inr hb)) (fun b o hb e => by
        obtain ⟨q1, q2⟩ := listIter_get G.it (hb ▸ e)
        exact ⟨mut_cls q1 (by decide), by rw [q2]; nofun⟩) k1
      refine sg_block (stmts := []) (F.fin _ _ _ _ _ (.inl rfl) ⟨rfl, by simpa using hn, S.trans ⟨fun b o _ hb _ e => k1 b o hb e, rfl, I1, fun _ _ e => e⟩⟩)
  | @stop r last =>
    intro i hr hi hf j hz hj nn hn hpos fs F s₀ s G S
    subst hf
    have hr0 := F.room (.forLoop (gTgt P) (.ref I) (gFor P) [] (gEnv P C)) rfl rfl
    refine g_item (last := last) ho hrow hr hr0.1 G S fun s₂ G2 S2 => ?_
    refine seg_execs_cons (sg_If (wpAny_mono (Tst.run (c := c) (n := k) (b := (127 : Int) == 127) (Tst.cmp (Ev.name rfl rfl) (Ev.gint (glo_tab H rfl rfl)) CmpV.eq rfl) (fun _ => True) _ _ s₂ (gfr_at hr0 G2.inv) G2.frame) (fun b s3 ⟨hb, st⟩ => ?_) fun _ _ e => e))
    subst hb
    rw [if_pos (by rfl)]
    refine seg_execs_cons (seg_at ?_)
    exact F.fin _ (.ret .none) _ _ _ (.inr rfl) ⟨rfl, by simpa using hn, S2.step st⟩
  | @item x r last zs fin h1 h2 ht ih =>
    intro i hr hi hf j hz hj nn hn hpos fs F s₀ s G S
    have hr0 := F.room (.forLoop (gTgt P) (.ref I) (gFor P) [] (gEnv P C)) rfl rfl
    obtain ⟨m, rfl⟩ : ∃ m, nn = m + 1 := ⟨nn - 1, by omega⟩
    refine g_item (last := last) ho hrow hr hr0.1 G S fun s₂ G2 S2 => ?_
    refine seg_execs_cons (sg_If (wpAny_mono (Tst.run (c := c) (n := k) (b := x == 127) (Tst.cmp (Ev.name rfl rfl) (Ev.gint (glo_tab H rfl rfl)) CmpV.eq rfl) (fun _ => True) _ _ s₂ (gfr_at hr0 G2.inv) G2.frame) (fun b s3 ⟨hb, st⟩ => ?_) fun _ _ e => e))
    subst hb
    rw [if_neg (by simpa using h1)]
    have G3 := G2.step st
    have S3 := S2.step st
    refine seg_execs_nil (seg_execs_cons (sg_If (wpAny_mono (Tst.run (c := c) (n := k) (b := x == 0) (Tst.cmp (Ev.name rfl rfl) Ev.int CmpV.eq rfl) (fun _ => True) _ _ s3 (gfr_at hr0 G3.inv) G3.frame) (fun b s4 ⟨hb, st⟩ => ?_) fun _ _ e => e)))
    subst hb
    rw [if_neg (by simpa using h2)]
    have G4 := G3.step st
    have S4 := S3.step st
    clear G2 S2 G3 S3 st
    refine seg_execs_nil (seg_execs_cons (seg_Expr_Yield F.split rfl F.ung (wpAny_mono (Ev.run (c := c) (n := k) (y := .int x) (Ev.name rfl rfl) (fun _ => True) _ _ s4 (gfr_at hr0 G4.inv) G4.frame) (fun v s5 ⟨rv, st⟩ kap hkap => ?_) fun _ _ e => e)))
    obtain ⟨t, rfl⟩ := rv.int_inv
    have G5 := G4.step st
    have S5 := S4.step st
    clear G4 S4 st
    have hzj : zall[j]? = some x := by
      have := congrArg (fun l => l[0]?) hz
      simpa using this.symm
    have hcnt : tot - 1 - m = j := by
      simp only [List.length_cons] at hn hj
      omega
    refine ⟨⟨x, t, by rw [hcnt]; exact hzj, rfl⟩, S5, G5.priv, ?_⟩
    rcases Nat.eq_zero_or_pos m with hm | hm
    · exact .inl hm
    refine .inr fun s6 I6 al => hkap .none s6 ?_
    have G6 := G5.alike I6 al
    obtain ⟨mm, lv, tt, hn6, hl6, hlr6, hi6⟩ := G6.ns
    show Seg _ _ _ _ _ _ _ ((execs _ _).wrap _ _ _ _) _ _
    refine seg_execs_cons (sg_simple (wpAny_Assign_Name (wpAny_Name (wpAny_loadName_local rfl rfl hn6 hi6 ?_) rfl)))
    refine wpAny_mono (gstore I6 ho hn6 rfl) (fun _ s7 ⟨S7, hn7, k7⟩ => ⟨rfl, ?_⟩) fun _ _ e => e
    refine seg_execs_nil ?_
    show Seg _ _ _ _ _ _ _ (.pure (.again (.forLoop (gTgt P) (.ref I) (gFor P) [] (gEnv P C)))) _ _
    refine seg_again rfl (ih (i + 1) ?_ ?_ hf (j + 1) ?_ ?_ m ?_ hm fs F s6 s7 ?_ S7)
    · have := congrArg List.tail hr
      simpa using this
    · have := congrArg List.length hr
      simp at this; omega
    · have := congrArg List.tail hz
      simpa using this
    · simp only [List.length_cons] at hj; omega
    · simp only [List.length_cons] at hn; omega
    · refine ⟨S7.inv, ⟨_, .int x tt, hn7, by simp, rep_int⟩, ?_, ?_⟩
      · obtain ⟨o, e, q⟩ := G6.it; exact ⟨o, k7 _ o (Ne.symm ho.ne) e, q⟩
      · obtain ⟨kk, e⟩ := G6.li
        refine ⟨kk, k7 _ _ (fun q => list_not_ns G6.li (q ▸ hn6)) e⟩
  | @rep r z kk =>
    intro i hr hi hf j hz hj nn hn hpos fs F s₀ s G S
    have hr0 := F.room (.forLoop (gTgt P) (.ref I) (gFor P) [] (gEnv P C)) rfl rfl
    refine g_item (last := some z) ho hrow hr hr0.1 G S fun s₂ G2 S2 => ?_
    refine seg_execs_cons (sg_If (wpAny_mono (Tst.run (c := c) (n := k) (b := (0 : Int) == 127) (Tst.cmp (Ev.name rfl rfl) (Ev.gint (glo_tab H rfl rfl)) CmpV.eq rfl) (fun _ => True) _ _ s₂ (gfr_at hr0 G2.inv) G2.frame) (fun b s3 ⟨hb, st⟩ => ?_) fun _ _ e => e))
    subst hb
    rw [if_neg (by decide)]
    have G3 := G2.step st
    have S3 := S2.step st
    refine seg_execs_nil (seg_execs_cons (sg_If (wpAny_mono (Tst.run (c := c) (n := k) (b := (0 : Int) == 0) (Tst.cmp (Ev.name rfl rfl) Ev.int CmpV.eq rfl) (fun _ => True) _ _ s3 (gfr_at hr0 G3.inv) G3.frame) (fun b s4 ⟨hb, st⟩ => ?_) fun _ _ e => e)))
    subst hb
    rw [if_pos (by rfl)]
    have G4 := G3.step st
    have S4 := S3.step st
    refine seg_execs_cons (sg_If (wpAny_mono (Tst.run (c := c) (n := k) (b := false) (Tst.cmp (Ev.name (y := .int z) rfl rfl) Ev.none CmpV.is_none rfl) (fun _ => True) _ _ s4 (gfr_at hr0 G4.inv) G4.frame) (fun b s5 ⟨hb, st⟩ => ?_) fun _ _ e => e))
    subst hb
    rw [if_neg (by decide)]
    have G5 := G4.step st
    have S5 := S4.step st
    clear G2 S2 G3 S3 G4 S4 st
    refine seg_execs_nil (seg_execs_cons (seg_While fun pw => ?_))
    have hr1 : ∀ code : Code, code.weight = 0 → code.cUnits = 0 → ∀ kk g l kp, Room k (A.over code (.ret kk none g l (.forLoop (gTgt P) (.ref I) (gFor P) [] (gEnv P C)) pw kp :: fs)) := fun code h1 h2 kk g l kp => room_ret hr0 rfl rfl h1 h2
    have hsp : ∀ kk g l kp, splitAtGen (.ret kk none g l (.forLoop (gTgt P) (.ref I) (gFor P) [] (gEnv P C)) pw kp :: fs) = none := fun kk g l kp => by
      show (splitAtGen fs).map _ = none
      rw [F.split]; rfl
    have hug : ∀ kk l kp, (PySem.Frame.ret kk none false l (.forLoop (gTgt P) (.ref I) (gFor P) [] (gEnv P C)) pw kp :: fs).any Frame.guarded = false := fun kk l kp => by
      rw [List.any_cons, F.ung]; rfl
    subst hf
    clear G S hr hi hr0
    rename_i q5
    clear q5
    induction kk generalizing j nn s₀ s5 with
    | zero => simp at hn; omega
    | succ kk ih =>
      obtain ⟨m, rfl⟩ : ∃ m, nn = m + 1 := ⟨nn - 1, by omega⟩
      refine seg_whileLoop (wpAny_mono (Tst.run (c := c) (n := k) (b := true) (ρ := [("interval", .int 0), ("last_interval", lastV (some z))]) (Tst.val Ev.bool TruV.bool fun _ => rfl) (fun _ => True) _ _ s5 (gfr_at (hr1 _ rfl rfl _ _ _ _) G5.inv) G5.frame) (fun b s6 ⟨hb, st⟩ => ?_) fun _ _ e => e)
      subst hb
      rw [if_pos (by rfl)]
      have G6 := G5.step st
      have S6 := S5.step st
      refine seg_execs_cons (seg_Expr_Yield (hsp _ _ _ _) rfl (hug _ _ _) (wpAny_mono (Ev.run (c := c) (n := k) (y := .int z) (Ev.name rfl rfl) (fun _ => True) _ _ s6 (gfr_at (hr1 _ rfl rfl _ _ _ _) G6.inv) G6.frame) (fun v s7 ⟨rv, st⟩ kap hkap => ?_) fun _ _ e => e))
      obtain ⟨t, rfl⟩ := rv.int_inv
      have G7 := G6.step st
      have S7 := S6.step st
      rw [List.replicate_succ] at hz hj hn
      have hzj : zall[j]? = some z := by
        have := congrArg (fun l => l[0]?) hz
        simpa using this.symm
      have hcnt : tot - 1 - m = j := by
        simp only [List.length_cons] at hn hj
        omega
      refine ⟨⟨z, t, by rw [hcnt]; exact hzj, rfl⟩, S7, G7.priv, ?_⟩
      rcases Nat.eq_zero_or_pos m with hm | hm
      · exact .inl hm
      refine .inr fun s8 I8 al => hkap .none s8 ?_
      have G8 := G7.alike I8 al
      show Seg _ _ _ _ _ _ _ ((execs _ _).wrap _ _ _ _) _ _
      refine seg_execs_nil ?_
      refine seg_again rfl (ih (j + 1) ?_ ?_ m hm s8 s8 G8 (GSince.refl I8) ?_)
      · have := congrArg List.tail hz
        simpa using this
      · simp only [List.length_cons] at hj; omega
      · simp only [List.length_cons] at hn; omega
end

section
variable {c : Cx} {P : Params} {n : Nat}

theorem g_start (H : Cok c (KK P)) {A : Around} {C aR : Addr} {vs : List Value} {row : List Int} (hrow : IntsAre vs row) {k : Nat} {zall : List Int} {all : Bool} (hpos : 0 < zall.length + (if all = true then 1 else 0)) (ht : Tells row none zall all) {s : Shared} {m : Str → Option Value}
    (hr : Room (k + 1) A) (I₀ : Inv c s) (hn : s.heap.Ns C m) (hg : m "grouping" = some (.ref aR)) (hl : s.heap.PlainList aR vs.toArray) (hlen : vs.length ≤ lim) (ho : GOwn c C s.heap.objs.size) :
    Seg (model c.prog c.w) A (fun n s₀ r s₁ => r = .ok (.ret .none) ∧ gZ c C s.heap.objs.size all n s₀ s₁) (gY c C s.heap.objs.size aR zall (zall.length + (if all = true then 1 else 0))) (zall.length + (if all = true then 1 else 0)) s
      (.func (stmtsOf (gFd P)) (gEnv P C)) ((model c.prog c.w).den (.func (stmtsOf (gFd P)) (gEnv P C))) [] s := by
  generalize hI : s.heap.objs.size = I at *
  have hCI : C < I := by rw [← hI]; exact hn.lt
  have haI : aR < I := by obtain ⟨q, e⟩ := hl; rw [← hI]; exact Heap.lt_size e
  have haC : aR ≠ C := fun q => list_not_ns hl (q ▸ hn)
  have room0 : ∀ code : Code, code.weight = 0 → code.cUnits = 0 → ∀ kk g l p kp body env, Room k (A.over code [.ret kk none g l (.func body env) p kp]) := fun code h2 h3 kk g l p kp body env => by
    obtain ⟨a, b, cc⟩ := hr
    have e1 : (Code.func body env).weight = 1 := rfl
    have e2 : (Code.func body env).cUnits = 3 := rfl
    refine ⟨a, ?_, ?_⟩
    · simp only [Around.over, List.map_cons, List.map_nil, Frame.where_, frameCount_cons, e1, h2]
      have : frameCount [] = 0 := rfl
      omega
    · simp only [Around.over, List.map_cons, List.map_nil, Frame.where_, unitsOf_cons, e2, h3]
      have : unitsOf [] = 0 := rfl
      omega
  refine seg_func (seg_execs_cons (sg_simple (wpAny_Assign_Name (wpAny_Constant_none ?_))))
  refine wpAny_storeName_local rfl hn (fun h1 hn1 hs1 => ⟨rfl, ?_⟩) (noclass rfl)
  have k1 : ∀ b o, b ≠ C → s.heap.get? b = some o → h1.get? b = some o := fun b o hb e => hs1.extBut b o hb e
  have hsz : h1.objs.size = I := by rw [hs1.1, hI]
  have I1 : ∀ tk, Inv c { s with heap := h1, toks := tk } := fun tk => inv_priv I₀ (D := (· = C)) (fun b hb => ho.own b (.inl hb)) (fun b o hb e => by
    obtain ⟨es, q, d⟩ := ns_get hn (hb ▸ e)
    exact ⟨mut_dict d, by rw [d]; nofun⟩) k1
  have hl1 : h1.PlainList aR vs.toArray := let ⟨q, e⟩ := hl; ⟨q, k1 _ _ haC e⟩
  have hlm : lim = 1048576 := rfl
  refine seg_execs_cons (sg_For (fun x => rfl) (wpAny_Name (wpAny_loadName_local rfl rfl hn1 (v := .ref aR) (by rw [if_neg (by decide +kernel)]; exact hg) (wpAny_pyIter_list hl1.isList (fun p => ?_))) rfl))
  have hsz1 : h1.objs.size = I := hsz
  have S0 : GSince c C I s { s with heap := h1, toks := s.toks + 1 } := ⟨fun b o hb _ _ e => k1 b o hb e, rfl, I1 _, fun _ _ e => e⟩
  have I2 : Inv c { s with heap := h1.push { cls := .type "list_iterator", data := .fields #[.ref aR, .int 0 0] }, toks := s.toks + 1 } := (Step.push (I1 (s.toks + 1)) { cls := .type "list_iterator", data := .fields #[.ref aR, .int 0 0] }).inv
  have S1 : GSince c C I s { s with heap := h1.push { cls := .type "list_iterator", data := .fields #[.ref aR, .int 0 0] }, toks := s.toks + 1 } := ⟨fun b o hb _ _ e => Heap.get?_push_of_some _ (k1 b o hb e), rfl, I2, fun _ _ e => e⟩
  show Seg _ _ _ _ _ _ (.forLoop (gTgt P) (.ref h1.objs.size) (gFor P) [] (gEnv P C)) _ _ _
  rw [hsz1]
  have hir := hrow.length
  refine g_run H hrow ho rfl ht 0 rfl (Nat.zero_le _) rfl 0 rfl (by omega) _ rfl hpos _ ⟨rfl, rfl, fun code h2 h3 => room0 code h2 h3 _ _ _ _ _ _ _, fun code f n' s₁ s₂ hf hz => ?_⟩ s _ ⟨I2, ⟨_, .none, hn1.push _, by simp, rep_none⟩, ⟨_, by rw [← hsz1]; exact Heap.get?_push_size _ rfl, rfl, rfl⟩, ?_⟩ S1
  · refine seg_leaf (.ok f) ?_
    rcases hf with rfl | rfl
    · exact seg_end (.ok (.ret .none)) ⟨rfl, hz⟩
    · exact seg_end (.ok (.ret .none)) ⟨rfl, hz⟩
  · obtain ⟨q, e⟩ := hl1
    exact ⟨q, Heap.get?_push_of_some _ e⟩
end

section
variable {c : Cx} {P : Params} {n : Nat}

theorem bare_setGen {s : Shared} {g : Nat} {x : GenState} (h : AllBare s.gens) (hx : x.bare = true) : AllBare (s.setGen g x).gens := by
  intro y hy
  have hy' : y ∈ s.gens.setIfInBounds g x := hy
  rcases Array.mem_or_eq_of_mem_setIfInBounds hy' with h' | h'
  · exact h y h'
  · rw [h']; exact hx
theorem Inv.setGen {s : Shared} (I₀ : Inv c s) {g : Nat} {x : GenState} (hx : x.bare = true) : Inv c (s.setGen g x) := I₀.keeps (fun _ _ e => e) (bare_setGen I₀.gens hx)

noncomputable abbrev gR (c : Cx) (C I : Addr) (all : Bool) : GenEnd := fun n s₀ r s₁ => r = .ok (.ret .none) ∧ gZ c C I all n s₀ s₁
noncomputable abbrev gTot (zall : List Int) (all : Bool) : Nat := zall.length + (if all = true then 1 else 0)

/-- the generator, j intervals told: `base` is the state ahead of its making -/
structure GenSt (c : Cx) (P : Params) (A : Around) (base : Shared) (a : Addr) (g : Nat) (C aR : Addr) (vs : List Value) (row zall : List Int) (all : Bool) (j : Nat) (s : Shared) : Prop where
  gen : s.heap.IsGen a g
  li : s.heap.PlainList aR vs.toArray
  newC : base.heap.get? C = none
  newa : base.heap.get? a = none
  newg : ∀ x, base.gens[g]? ≠ some x
  aC : a ≠ C
  st : (j = 0 ∧ s.gens[g]? = some (.fresh (.func (stmtsOf (gFd P)) (gEnv P C))) ∧ ∃ m, s.heap.Ns C m ∧ m "grouping" = some (.ref aR)) ∨
    (0 < j ∧ ∃ I gs, s.gens[g]? = some gs ∧ gs.bare = true ∧ GOwn c C I ∧ base.heap.get? I = none ∧ I ≠ a ∧ Priv s.heap C I ∧
      ∀ s'' : Shared, Inv c s'' → (∀ b o, (b = C ∨ b = I ∨ b = aR) → s.heap.get? b = some o → s''.heap.get? b = some o) → gs.Goes (model c.prog c.w) A.in1 (gR c C I all) (gY c C I aR zall (gTot zall all)) (gTot zall all - j) (.send .none) s'')

/-- what a step of the generator changed -/
structure GStep (c : Cx) (base : Shared) (g : Nat) (s s' : Shared) : Prop where
  keep : ∃ C I, base.heap.get? C = none ∧ base.heap.get? I = none ∧ (∀ b o, (b = C ∨ b = I) → s.heap.get? b = some o → Mut o ∧ ¬ SeqObj o) ∧ ∀ b o, b ≠ C → b ≠ I → (∀ t ∈ c.tabs, b ≠ t.P) → s.heap.get? b = some o → s'.heap.get? b = some o
  os : s'.os = s.os
  inv : Inv c s'
  gens : ∀ (i : Nat) (x : GenState), i ≠ g → s.gens[i]? = some x → s'.gens[i]? = some x

theorem setGen_ne {s : Shared} {g i : Nat} {x y : GenState} (h : i ≠ g) (e : s.gens[i]? = some y) : (s.setGen g x).gens[i]? = some y := by
  show (s.gens.setIfInBounds g x)[i]? = some y
  rw [Array.getElem?_setIfInBounds_ne (Ne.symm h)]; exact e

theorem GSince.gstep {base : Shared} {g : Nat} {C I : Addr} {s s₁ : Shared} {x : GenState} (S : GSince c C I (s.setGen g .running) s₁) (hx : x.bare = true) (hC : base.heap.get? C = none) (hI : base.heap.get? I = none) (hp : ∀ b o, (b = C ∨ b = I) → s.heap.get? b = some o → Mut o ∧ ¬ SeqObj o) {h' : Heap} (hk : ∀ b o, s₁.heap.get? b = some o → h'.get? b = some o) : GStep c base g s { s₁.setGen g x with heap := h' } where
  keep := ⟨C, I, hC, hI, hp, fun b o h1 h2 h3 e => hk b o (S.keep b o h1 h2 h3 e)⟩
  os := S.os
  inv := Inv.keeps (s := s₁.setGen g x) (S.inv.setGen hx) hk (bare_setGen S.inv.gens hx)
  gens := fun i y hi e => setGen_ne hi (S.gens i y (setGen_ne hi e))

theorem genSt_next (H : Cok c (KK P)) {A : Around} {base s : Shared} {a : Addr} {g : Nat} {C aR : Addr} {vs : List Value} {row zall : List Int} {all : Bool} {j : Nat} {E : Value → Shared → Prop} {Q : Option Value → Shared → Prop}
    (hrow : IntsAre vs row) (hlen : vs.length ≤ lim) (ht : Tells row none zall all) (hr : Room 3 A) (I₀ : Inv c s) (stb : ∀ b o, base.heap.get? b = some o → ∃ o', s.heap.get? b = some o') (hKb : c.K.In base.heap) (hGb : ∀ b, (b = mainGlobals ∨ b = builtinsNs ∨ b = cStatics) → ∃ o, base.heap.get? b = some o) (G : GenSt c P A base a g C aR vs row zall all j s) (hj : j < gTot zall all)
    (hI : ∀ z t s', zall[j]? = some z → GStep c base g s s' → (j + 1 < gTot zall all → GenSt c P A base a g C aR vs row zall all (j + 1) s') → Q (some (.int z t)) s')
    (hD : ∀ s', all = true → j = zall.length → GStep c base g s s' → Q none s') : wpAny (model c.prog c.w) A (pyNext (.ref a)) Q E s := by
  have go : ∃ I gs, s.gens[g]? = some gs ∧ GOwn c C I ∧ base.heap.get? I = none ∧ I ≠ a ∧ (∀ b o, (b = C ∨ b = I) → s.heap.get? b = some o → Mut o ∧ ¬ SeqObj o) ∧ gs.Goes (model c.prog c.w) A.in1 (gR c C I all) (gY c C I aR zall (gTot zall all)) (gTot zall all - j) (.send .none) (s.setGen g .running) := by
    rcases G.st with ⟨rfl, hgs, m, hn, hm⟩ | ⟨hj0, I, gs, hgs, hb, ho, hI0, hIa, pr, hgo⟩
    · have hIn : s.heap.get? s.heap.objs.size = none := Heap.get?_none_of_le (Nat.le_refl _)
      have ho : GOwn c C s.heap.objs.size := by
        refine ⟨Nat.ne_of_lt hn.lt, fun b hb => ?_⟩
        rcases hb with rfl | rfl
        · refine ⟨fun o e => ?_, fun q => ?_, fun q => ?_, fun q => ?_⟩
          · have := hKb _ o e
            rw [G.newC] at this; cases this
          · obtain ⟨o, e⟩ := hGb b (.inl q); rw [G.newC] at e; cases e
          · obtain ⟨o, e⟩ := hGb b (.inr (.inl q)); rw [G.newC] at e; cases e
          · obtain ⟨o, e⟩ := hGb b (.inr (.inr q)); rw [G.newC] at e; cases e
        · have nb : ∀ b, (b = mainGlobals ∨ b = builtinsNs ∨ b = cStatics) → s.heap.objs.size ≠ b := fun b hb q => by
            obtain ⟨o, e⟩ := hGb b hb
            obtain ⟨o', e'⟩ := stb b o e
            rw [← q, hIn] at e'; cases e'
          refine ⟨fun o e => ?_, nb _ (.inl rfl), nb _ (.inr (.inl rfl)), nb _ (.inr (.inr rfl))⟩
          have := I₀.k _ o e
          rw [hIn] at this; cases this
      refine ⟨s.heap.objs.size, _, hgs, ho, ?_, ?_, ?_, rfl, ?_⟩
      · cases e : base.heap.get? s.heap.objs.size with
        | none => rfl
        | some o => obtain ⟨o', e'⟩ := stb _ o e; rw [hIn] at e'; cases e'
      · obtain ⟨o, nm, qn, e, _⟩ := G.gen
        exact fun q => by rw [← q, hIn] at e; cases e
      · rintro b o (rfl | rfl) e
        · obtain ⟨es, q, d⟩ := ns_get hn e
          exact ⟨mut_dict d, ns_not_seq hn e⟩
        · rw [hIn] at e; cases e
      · exact g_start (k := 1) H (A := A.in1) (s := s.setGen g .running) hrow hj ht ⟨hr.1, hr.2.1 |> fun h => by show A.depth + 10 * 2 < 900; omega, by have := hr.2.2; show A.units + 1 + 100 * 2 < 9000; omega⟩ (I₀.setGen rfl) hn hm G.li hlen ho
    · refine ⟨I, gs, hgs, ho, hI0, hIa, ?_, hgo _ (I₀.setGen rfl) fun b o _ e => e⟩
      rintro b o (rfl | rfl) e
      · obtain ⟨m, hn⟩ := pr.1
        obtain ⟨es, q, d⟩ := ns_get hn e
        exact ⟨mut_dict d, ns_not_seq hn e⟩
      · obtain ⟨l, i, hit⟩ := pr.2
        obtain ⟨q1, q2⟩ := listIter_get hit e
        exact ⟨mut_cls q1 (by decide), fun q => by obtain ⟨_, its, _, d⟩ := q; rw [q2] at d; cases d⟩
  obtain ⟨I, gs, hgs, ho, hI0, hIa, hpr, hgo⟩ := go
  refine next_gen (n := gTot zall all - j) hr.1 I₀.nl (by have := hr.2.1; have : recursionLimit = 1000 := rfl; omega) G.gen hgs hgo (fun v s₁ gs' hb hv => ?_) (fun s₁ hz h' hk => ?_)
  · obtain ⟨⟨z, t, hz, rfl⟩, S, pr, hk⟩ := hv
    have e : gTot zall all - 1 - (gTot zall all - j - 1) = j := by omega
    rw [e] at hz
    have gst : GStep c base g s (s₁.setGen g gs') := S.gstep hb G.newC hI0 hpr (fun _ _ e => e)
    refine hI z t _ hz gst fun hj1 => ?_
    have ga : (s₁.setGen g gs').heap.IsGen a g := by
      obtain ⟨o, nm, qn, e, hc, r⟩ := G.gen
      exact ⟨o, nm, qn, S.keep a o G.aC (Ne.symm hIa) (I₀.tab_ne e (.inl (by rw [hc]; nofun))) e, hc, r⟩
    have gl : (s₁.setGen g gs').heap.PlainList aR vs.toArray := by
      obtain ⟨k, e⟩ := G.li
      exact ⟨k, S.keep aR _ (fun q => (hpr C _ (.inl rfl) (q ▸ e)).2 ⟨.inl rfl, _, _, rfl⟩) (fun q => (hpr I _ (.inr rfl) (q ▸ e)).2 ⟨.inl rfl, _, _, rfl⟩) (I₀.tab_ne e (.inl nofun)) e⟩
    have gg : (s₁.setGen g gs').gens[g]? = some gs' := setGen_self (S.gens g _ (setGen_self hgs))
    refine ⟨ga, gl, G.newC, G.newa, G.newg, G.aC, .inr ⟨by omega, I, gs', gg, hb, ho, hI0, hIa, pr, fun s'' I'' al => ?_⟩⟩
    rcases hk with hk | hk
    · omega
    · have := hk s'' I'' al
      obtain ⟨m, hm⟩ : ∃ m, gTot zall all - j = m + 1 := ⟨gTot zall all - j - 1, by omega⟩
      rw [hm] at this
      rw [show gTot zall all - (j + 1) = m by omega]
      exact this
  · obtain ⟨ha, hn, S⟩ := hz
    refine hD _ ha ?_ (S.gstep rfl G.newC hI0 hpr hk)
    subst ha
    simp only [gTot, if_true] at hn
    omega
end

section
variable {c : Cx} {P : Params} {n : Nat}

theorem GenSt.keep {A : Around} {base : Shared} {a : Addr} {g : Nat} {C aR : Addr} {vs : List Value} {row zall : List Int} {all : Bool} {j : Nat} {s s' : Shared} (G : GenSt c P A base a g C aR vs row zall all j s)
    (hk : ∀ b o, (base.heap.get? b = none ∨ b = aR) → s.heap.get? b = some o → s'.heap.get? b = some o) (hg : ∀ x, s.gens[g]? = some x → s'.gens[g]? = some x) : GenSt c P A base a g C aR vs row zall all j s' where
  gen := let ⟨o, nm, qn, e, r⟩ := G.gen; ⟨o, nm, qn, hk a o (.inl G.newa) e, r⟩
  li := let ⟨k, e⟩ := G.li; ⟨k, hk _ _ (.inr rfl) e⟩
  newC := G.newC
  newa := G.newa
  newg := G.newg
  aC := G.aC
  st := by
    rcases G.st with ⟨h0, h1, m, ⟨o, es, ep, e, r⟩, hm⟩ | ⟨h0, I, gs, h1, h2, h3, h4, h5, ⟨⟨m, o, es, ep, e, r⟩, l, i, o2, e2, r2⟩, h7⟩
    · exact .inl ⟨h0, hg _ h1, m, ⟨o, es, ep, hk C o (.inl G.newC) e, r⟩, hm⟩
    · refine .inr ⟨h0, I, gs, hg _ h1, h2, h3, h4, h5, ⟨⟨m, o, es, ep, hk C o (.inl G.newC) e, r⟩, l, i, o2, hk I o2 (.inl h4) e2, r2⟩, fun s'' I'' al => h7 s'' I'' fun b o hb e => al b o hb (hk b o ?_ e)⟩
      rcases hb with rfl | rfl | rfl
      · exact .inl G.newC
      · exact .inl h4
      · exact .inr rfl

theorem St.gstep {base s₀ s s' : Shared} {g : Nat} {Pr : Addr → Prop} {env : Env} {ρ : Mine.Frame} {own : Own} (X : St c s₀ Pr env ρ own s) (hb : ∀ b o, s₀.heap.get? b = some o → ∃ o', base.heap.get? b = some o') (hL : ∃ o, base.heap.get? env.locals = some o)
    (hC : ∀ z a, env.kindOf z = some .cell ∨ env.kindOf z = some .free → env.cells.lookup z = some a → ∃ o, base.heap.get? a = some o) (hO : ∀ z a ys, own = some (z, a, ys) → ∃ o, base.heap.get? a = some o) (hg0 : ∀ (i : Nat) x, s₀.gens[i]? = some x → i ≠ g) (G : GStep c base g s s') : St c s₀ Pr env ρ own s' := by
  obtain ⟨C, I, hCn, hIn, hp, hk⟩ := G.keep
  have nb : ∀ b, (∃ o, base.heap.get? b = some o) → b ≠ C ∧ b ≠ I := fun b ⟨o, e⟩ => ⟨fun q => (by rw [q, hCn] at e; cases e), fun q => (by rw [q, hIn] at e; cases e)⟩
  have kx : ∀ b o, (∃ o, base.heap.get? b = some o) → (o.cls ≠ .none ∨ ∀ f, o.data ≠ .fields f) → s.heap.get? b = some o → s'.heap.get? b = some o := fun b o hb ht e => hk b o (nb b hb).1 (nb b hb).2 (X.step.inv.tab_ne e ht) e
  have ks : ∀ a o, SeqObj o → s.heap.get? a = some o → s'.heap.get? a = some o := fun a o hq e => hk a o (fun q => (hp C o (.inl rfl) (q ▸ e)).2 hq) (fun q => (hp I o (.inr rfl) (q ▸ e)).2 hq) (X.step.inv.tab_ne e (.inl (by rcases hq.1 with hc | hc <;> rw [hc] <;> nofun))) e
  have kn : ∀ m, s.heap.Ns env.locals m → s'.heap.Ns env.locals m := fun m ⟨o, es, ep, e, hd, r⟩ => ⟨o, es, ep, kx _ o hL (.inr (by rw [hd]; nofun)) e, hd, r⟩
  have kc : ∀ z a v, env.kindOf z = some .cell ∨ env.kindOf z = some .free → env.cells.lookup z = some a → s.heap.IsCell a v → s'.heap.IsCell a v := fun z a v h e ⟨o, e', d⟩ => ⟨o, kx a o (hC z a h e) (.inr (by rw [d]; nofun)) e', d⟩
  have kv : ∀ z v, VarAt s.heap env z v → VarAt s'.heap env z v := fun z v h => by
    rcases h with ⟨q, m, hm, e⟩ | ⟨q, a, ha, hc⟩
    · exact .inl ⟨q, m, kn m hm, e⟩
    · exact .inr ⟨q, a, ha, kc z a _ (q.imp id And.left) ha hc⟩
  exact {
    step := ⟨fun b o e ht => by
      obtain ⟨q1, q2⟩ := nb b (hb b o e)
      exact hk b o q1 q2 ht (X.step.old b o e ht), G.os.trans X.step.os, G.inv, fun i x e => G.gens i x (hg0 i x e) (X.step.gens i x e)⟩
    eok := X.eok
    frame := ⟨X.frame.fk, X.frame.gl, X.frame.bu, fun z y e => let ⟨v, h1, h2⟩ := X.frame.var z y e; ⟨v, kv z v h1, h2.mono (fun _ h => h) fun a o _ e hq => ks a o hq e⟩⟩
    ns := let ⟨m, h⟩ := X.ns; ⟨m, kn m h⟩
    cellv := fun z a h e => let ⟨v, hc⟩ := X.cellv z a h e; ⟨v, kc z a v h e hc⟩
    own := fun z a ys e => by
      obtain ⟨h1, h2, vs, ⟨q, h3⟩, h4, h5⟩ := X.own z a ys e
      exact ⟨h1, kv z _ h2, vs, ⟨q, ks _ _ ⟨.inl rfl, _, _, rfl⟩ h3⟩, h4, h5.mono (fun _ h => h) fun a o _ e hq => ks a o hq e⟩ }
end

section
variable {c : Cx} {P : Params} {n : Nat} {env : Env} {ρ : Mine.Frame} {own : Own} {Q : Post}

/-- a for over what a row tells -/
theorem WX.forGen (H : Cok c (KK P)) {x : Str} {p fp cpos pos : Pos} {arg : Expr} {body : List Stmt} {row zall : List Int} {all : Bool} (J : Nat → Mine.Frame → Own → Prop) (ht : Tells row none zall all) (hpos : 0 < gTot zall all) (hk : Var env x) (g0 : Glo c env "_grouping_intervals" (.ref A__grouping_intervals))
    (hns : (starEach [arg] env).any (·.1) = false) (he : Evs c (n + 4) env ρ [arg] [.list (row.map V.int)]) (h0 : J 0 ρ own)
    (turn : ∀ j z ρ' own', zall[j]? = some z → J j ρ' own' → (∀ a ys, own' ≠ some (x, a, ys)) ∧ WS c (n + 4) env body ((x, .int z) :: ρ') own' { next := fun a b => j + 1 < gTot zall all ∧ J (j + 1) a b, cont := fun a b => j + 1 < gTot zall all ∧ J (j + 1) a b, brk := Q.next, ret := Q.ret })
    (hown : ∀ j ρ' own', J j ρ' own' → ∀ a, (∃ z ys, own' = some (z, a, ys)) → ∃ z ys, own = some (z, a, ys)) (done : all = true → ∀ ρ' own', J zall.length ρ' own' → Q.next ρ' own') :
    WX c (n + 4) env (.For (.Name x p) (.Call (.Name "_grouping_intervals" fp) [arg] [] cpos) body [] pos) ρ own Q := .mk fun Pr A E s₀ s at_ X => by
  refine wpAny_For ?_ (by intro _; rfl)
  obtain ⟨ob, hKl, hod⟩ : ∃ o, c.K.lookup A__grouping_intervals = some o ∧ o.data = .func (gFd P) := by rw [H.hK]; exact ⟨_, rfl, rfl⟩
  refine wpAny_Call_Name_kw (ev_glo X.step.inv X.frame g0 (callWith_function (o := ob) (fd := gFd P) (evalArgs_trees hns (wpAny_mono (he.run _ A E s cpos (Bar.exists X at_) X.frame) (fun vs s₁ ⟨rs, st1⟩ => ?_) fun _ _ e => e))))
  refine ⟨⟨st1.inv.k _ _ hKl, hod⟩, ?_⟩
  obtain ⟨v, w, rfl, r, rs⟩ := rs.cons_inv
  obtain rfl := rs.nil_inv
  obtain ⟨aR, vs, rfl, hPr, hl, hlen, rs⟩ := r.list_inv
  have hrow := reps_ints rs
  have X1 := X.stepTo st1
  have I1 := st1.inv
  refine wpAny_call (codeAny_call_generator (fd := gFd P) (body := stmtsOf (gFd P)) (by have := at_.room.2.1; have : recursionLimit = 1000 := rfl; omega) (I1.k _ _ hKl) hod rfl rfl rfl (codeRec_of I1.k (by rw [H.hK]; kernel_rfl)) ?_)
  have hb : bindArgs (gFd P) ⟨[.ref aR], []⟩ = pure [(("grouping" : Str), .ref aR)] := rfl
  refine wpAny_of_eq (a := [(("grouping" : Str), Value.ref aR)]) hb ?_
  refine wpAny_newFunctionEnv (fun y hy => (by
    have h1 : ((gFd P).scope.names.all fun z => z.2 != .cell) = true := rfl
    have := List.all_eq_true.mp h1 y hy
    simpa using this)) (by intro y hy; simp at hy; subst hy; rfl) (fun h' hn hs => ?_) rfl
  have keep : ∀ b o, s₁.heap.get? b = some o → h'.get? b = some o := fun b o e => hs.extBut b o (Nat.ne_of_lt (Heap.lt_size e)) (Heap.get?_push_of_some _ e)
  have stA : Step c s₁ { s₁ with heap := h', toks := s₁.toks + 1 } := Step.of I1 keep
  refine ⟨stA.inv.nl, ?_⟩
  have hszC : s₁.heap.get? s₁.heap.objs.size = none := Heap.get?_none_of_le (Nat.le_refl _)
  have hsz' : h'.objs.size = s₁.heap.objs.size + 1 := by rw [hs.1, Heap.size_push]
  have aneC : h'.objs.size ≠ s₁.heap.objs.size := by rw [hsz']; exact Nat.succ_ne_self _
  have hln : h'.get? h'.objs.size = none := Heap.get?_none_of_le (Nat.le_refl _)
  have hans : s₁.heap.get? h'.objs.size = none := by
    cases e : s₁.heap.get? h'.objs.size with
    | none => rfl
    | some o => rw [keep _ o e] at hln; cases hln
  refine wpAny_pyIter_gen (g := s₁.gens.size) ⟨_, _, _, Heap.get?_push_size _ rfl, rfl, rfl, rfl⟩ ?_
  show codeAny _ _ _ _ ({ s₁ with heap := h'.push { cls := .type "generator", data := .fields #[.int s₁.gens.size 0, .str (gFd P).name (s₁.toks + 1), .str (gFd P).qualname (s₁.toks + 1 + 1)] }, gens := s₁.gens.push (.fresh (.func (stmtsOf (gFd P)) (gEnv P s₁.heap.objs.size))), toks := s₁.toks + 1 + 1 + 1 } : Shared)
  have k2 : ∀ b o, s₁.heap.get? b = some o → ({ s₁ with heap := h'.push { cls := .type "generator", data := .fields #[.int s₁.gens.size 0, .str (gFd P).name (s₁.toks + 1), .str (gFd P).qualname (s₁.toks + 1 + 1)] }, gens := s₁.gens.push (.fresh (.func (stmtsOf (gFd P)) (gEnv P s₁.heap.objs.size))), toks := s₁.toks + 1 + 1 + 1 } : Shared).heap.get? b = some o := fun b o e => Heap.get?_push_of_some _ (keep b o e)
  have st2 : Step c s₁ ({ s₁ with heap := h'.push { cls := .type "generator", data := .fields #[.int s₁.gens.size 0, .str (gFd P).name (s₁.toks + 1), .str (gFd P).qualname (s₁.toks + 1 + 1)] }, gens := s₁.gens.push (.fresh (.func (stmtsOf (gFd P)) (gEnv P s₁.heap.objs.size))), toks := s₁.toks + 1 + 1 + 1 } : Shared) := ⟨fun b o e _ => k2 b o e, rfl, I1.keeps k2 (I1.gens.push rfl), fun i y e => by
    rw [Array.getElem?_push]
    have : i < s₁.gens.size := (Array.getElem?_eq_some_iff.mp e).1
    rw [if_neg (by omega)]; exact e⟩
  have G0 : GenSt c P A s₁ h'.objs.size s₁.gens.size s₁.heap.objs.size aR vs row zall all 0 ({ s₁ with heap := h'.push { cls := .type "generator", data := .fields #[.int s₁.gens.size 0, .str (gFd P).name (s₁.toks + 1), .str (gFd P).qualname (s₁.toks + 1 + 1)] }, gens := s₁.gens.push (.fresh (.func (stmtsOf (gFd P)) (gEnv P s₁.heap.objs.size))), toks := s₁.toks + 1 + 1 + 1 } : Shared) := by
    refine ⟨⟨_, _, _, Heap.get?_push_size _ rfl, rfl, rfl, rfl⟩, ?_, hszC, hans, fun y e => ?_, aneC, .inl ⟨rfl, ?_, _, hn.push _, by simp⟩⟩
    · obtain ⟨q, e⟩ := hl; exact ⟨q, k2 _ _ e⟩
    · have := (Array.getElem?_eq_some_iff.mp e).1; omega
    · exact Array.getElem?_push_size ..
  generalize ({ s₁ with heap := h'.push { cls := .type "generator", data := .fields #[.int s₁.gens.size 0, .str (gFd P).name (s₁.toks + 1), .str (gFd P).qualname (s₁.toks + 1 + 1)] }, gens := s₁.gens.push (.fresh (.func (stmtsOf (gFd P)) (gEnv P s₁.heap.objs.size))), toks := s₁.toks + 1 + 1 + 1 } : Shared) = s₂ at k2 st2 G0 ⊢
  generalize h'.objs.size = a at G0 hans ⊢
  generalize s₁.gens.size = g at G0
  generalize s₁.heap.objs.size = C at G0
  have X2 := X1.stepTo st2
  have KB : c.K.In s₁.heap := I1.k
  have hL1 : ∃ o, s₁.heap.get? env.locals = some o := let ⟨m, o, _, _, e, _⟩ := X1.ns; ⟨o, e⟩
  have hC1 : ∀ z b, env.kindOf z = some .cell ∨ env.kindOf z = some .free → env.cells.lookup z = some b → ∃ o, s₁.heap.get? b = some o := fun z b h e => let ⟨v, o, e', _⟩ := X1.cellv z b h e; ⟨o, e'⟩
  have hO1 : ∀ j ρ' own', J j ρ' own' → ∀ z b ys, own' = some (z, b, ys) → ∃ o, s₁.heap.get? b = some o := fun j ρ' own' hJ z b ys e => by
    obtain ⟨z', ys', e'⟩ := hown j ρ' own' hJ b ⟨z, ys, e⟩
    obtain ⟨_, _, vs, ⟨k, e2⟩, _⟩ := X1.own z' b ys' e'
    exact ⟨_, e2⟩
  have hT1 : ∀ t ∈ c.tabs, ∃ o, s₁.heap.get? t.P = some o := fun t ht => let ⟨_, ps, e, _⟩ := I1.tab t ht; ⟨_, e⟩
  have hGb : ∀ b, (b = mainGlobals ∨ b = builtinsNs ∨ b = cStatics) → ∃ o, s₁.heap.get? b = some o := by
    rintro b (rfl | rfl | rfl)
    · obtain ⟨o, _, _, e, _⟩ := I1.g; exact ⟨o, e⟩
    · obtain ⟨o, _, _, e, _⟩ := I1.b; exact ⟨o, e⟩
    · obtain ⟨mc, ⟨o, _, _, e, _⟩, _⟩ := I1.nl; exact ⟨o, e⟩
  refine codeAny_forLoop (fun m s' => ∃ j ρ' own', J j ρ' own' ∧ St c s₀ Pr env ρ' own' s' ∧ Kp c env own s own' s' ∧ GenSt c P A s₁ a g C aR vs row zall all j s' ∧ j < gTot zall all ∧ (∀ b o, s₁.heap.get? b = some o → ∃ o', s'.heap.get? b = some o') ∧ m = gTot zall all - j) ?_ (gTot zall all)
    ⟨0, ρ, own, h0, X2, (Kp.step st1).trans (Kp.step st2), G0, hpos, fun b o e => ⟨o, k2 b o e⟩, rfl⟩
  rintro m s' ⟨j, ρ', own', hJ, X', k, G, hj, hst, rfl⟩
  have after : ∀ s3, GStep c s₁ g s' s3 → St c s₀ Pr env ρ' own' s3 ∧ Kp c env own s own' s3 ∧ (∀ b o, s₁.heap.get? b = some o → ∃ o', s3.heap.get? b = some o') := fun s3 gst => by
    have X3 := X'.gstep (base := s₁) (fun b o e => X1.step.stay b o e) hL1 hC1 (hO1 j ρ' own' hJ) (g := g) (fun i y e q => G.newg y (by rw [← q]; exact X1.step.gens i y e)) gst
    obtain ⟨C', I', hCn, hIn, hp, hkk⟩ := gst.keep
    have sb : ∀ b o, s.heap.get? b = some o → b ≠ C' ∧ b ≠ I' := fun b o e => by
      obtain ⟨o', e'⟩ := st1.stay b o e
      exact ⟨fun q => (by rw [q, hCn] at e'; cases e'), fun q => (by rw [q, hIn] at e'; cases e')⟩
    have stay3 : ∀ b o o', s₁.heap.get? b = some o' → s'.heap.get? b = some o → ∃ o', s3.heap.get? b = some o' := fun b o o' e1 e => by
      by_cases h4 : ∃ t ∈ c.tabs, b = t.P
      · obtain ⟨t, ht, rfl⟩ := h4
        obtain ⟨_, ps, e', _⟩ := gst.inv.tab t ht
        exact ⟨_, e'⟩
      · exact ⟨o, hkk b o (fun q => (by rw [q, hCn] at e1; cases e1)) (fun q => (by rw [q, hIn] at e1; cases e1)) (fun t ht q => h4 ⟨t, ht, q⟩) e⟩
    refine ⟨X3, ⟨fun b o h1 h2 h3 h4 e => hkk b o (sb b o e).1 (sb b o e).2 h4 (k.keep b o h1 h2 h3 h4 e), k.own, fun b o e => ?_, fun i y e => gst.gens i y (fun q => G.newg y (by rw [← q]; exact st1.gens i y e)) (k.gens i y e)⟩, fun b o e => ?_⟩
    · obtain ⟨o', e'⟩ := k.stay b o e
      obtain ⟨o1, e1⟩ := st1.stay b o e
      exact stay3 b o' o1 e1 e'
    · obtain ⟨o', e'⟩ := hst b o e
      exact stay3 b o' o e e'
  refine genSt_next H hrow hlen ht (at_.room.mono (by omega)) X'.step.inv hst KB hGb G hj (fun z t s3 hz gst hnext => ?_) (fun s3 ha hje gst => ?_)
  · obtain ⟨X3, k3, hst3⟩ := after s3 gst
    obtain ⟨hx, hw⟩ := turn j z ρ' own' hz hJ
    refine wpAny_assign_Name (wpAny_mono (X3.store at_.inv hk hx (y := .int z) rep_int) (fun _ s4 ⟨X4, k4⟩ => ?_) fun _ _ e => e)
    refine wpAny_mono (hw.run Pr A _ s₀ s4 at_ X4) (fun f s5 hf => ?_) fun _ _ e => e
    have fin : ∀ {ρ'' own''}, (j + 1 < gTot zall all ∧ J (j + 1) ρ'' own'') → St c s₀ Pr env ρ'' own'' s5 → Kp c env own' s4 own'' s5 → ∃ m, m < gTot zall all - j ∧ ∃ j ρ' own', J j ρ' own' ∧ St c s₀ Pr env ρ' own' s5 ∧ Kp c env own s own' s5 ∧ GenSt c P A s₁ a g C aR vs row zall all j s5 ∧ j < gTot zall all ∧ (∀ b o, s₁.heap.get? b = some o → ∃ o', s5.heap.get? b = some o') ∧ m = gTot zall all - j :=
      fun ⟨hj1, hJ1⟩ X5 k5 => by
        refine ⟨gTot zall all - (j + 1), by omega, j + 1, _, _, hJ1, X5, (k3.trans k4).trans k5, (hnext hj1).keep (fun b o hb e => ?_) (fun y e => k5.gens g y (k4.gens g y e)), hj1, fun b o e => ?_, rfl⟩
        · have q1 : b ≠ env.locals := fun q => by
            rcases hb with hb | rfl
            · obtain ⟨o', e'⟩ := hL1; rw [q, e'] at hb; cases hb
            · obtain ⟨mm, hmm⟩ := X1.ns; exact list_not_ns hl (q ▸ hmm)
          have q2 : ∀ z, env.kindOf z = some .cell → env.cells.lookup z ≠ some b := fun z k1 k2 => by
            rcases hb with hb | rfl
            · obtain ⟨o', e'⟩ := hC1 z b (.inl k1) k2; rw [hb] at e'; cases e'
            · obtain ⟨v, hv⟩ := X1.cellv z _ (.inl k1) k2; exact list_not_cell hl hv
          have q3 : ∀ z ys, own' ≠ some (z, b, ys) := fun z ys q => by
            rcases hb with hb | rfl
            · obtain ⟨o', e'⟩ := hO1 j ρ' own' hJ z b ys q; rw [hb] at e'; cases e'
            · obtain ⟨z', ys', e'⟩ := hown j ρ' own' hJ _ ⟨z, ys, q⟩
              exact hPr.2 z' _ ys' e' rfl
          have q4 : ∀ t ∈ c.tabs, b ≠ t.P := fun t ht q => by
            rcases hb with hb | rfl
            · obtain ⟨o', e'⟩ := hT1 t ht; rw [q, e'] at hb; cases hb
            · obtain ⟨kk, e'⟩ := hl; exact I1.tab_ne e' (.inl nofun) t ht q
          exact k5.keep b o q1 q2 q3 q4 (k4.keep b o q1 q2 q3 q4 e)
        · obtain ⟨o1, e1⟩ := hst3 b o e
          obtain ⟨o2, e2⟩ := k4.stay b o1 e1
          exact k5.stay b o2 e2
    cases f with
    | next => obtain ⟨ρ'', own'', hq, X5, k5⟩ := hf; exact fin hq X5 k5
    | cont => obtain ⟨ρ'', own'', hq, X5, k5⟩ := hf; exact fin hq X5 k5
    | brk => obtain ⟨ρ'', own'', hq, X5, k5⟩ := hf; exact ⟨ρ'', own'', hq, X5, (k3.trans k4).trans k5⟩
    | ret v => exact hf
  · obtain ⟨X3, k3, _⟩ := after s3 gst
    exact wpAny_execs_nil ⟨ρ', own', done ha ρ' own' (hje ▸ hJ), X3, k3⟩
end

section
variable {c : Cx} {P : Params} {n : Nat}

theorem k_told (H : Cok c (KK P)) {row zall : List Int} {all : Bool} {most : Nat} (ht : Tells row none zall all) (hm : (all = true ∧ zall.length < most) ∨ (all = false ∧ zall.length = most ∧ 0 < most)) (hl : zall.length ≤ 1000) :
    CallV c (n + 5) (.ref A__law_told) [.list (row.map V.int), .int (most : Int)] (.list (zall.map V.int)) := by
  refine CallV.def (n := n + 4) H.hK rfl rfl (by kernel_rfl) (ps := ["row", "most"]) (by tm_at "fn") (by decide) (by decide) rfl (fun L => ?_)
  refine WS.cons (WX.new (EvNew.list Evs.nil nofun (by decide)) (by tm_at "var") rfl fun D => ?_)
  show WS _ _ _ _ _ _ _
  have hpos : 0 < gTot zall all := by
    rcases hm with ⟨rfl, h⟩ | ⟨rfl, h, h'⟩
    · simp [gTot]
    · simp [gTot]; omega
  refine WS.cut (fun ρ' own' => own' = some (Str.ofString "told", D, zall.map V.int)) (WX.forGen H (n := n) (row := row) (fun j ρ' own' => own' = some (Str.ofString "told", D, (zall.take j).map V.int) ∧ Has ρ' [("most", .int (most : Int))]) ht hpos (by tm_at "var") (by tm_at "glo") rfl ?_ ⟨rfl, has_cons rfl has_nil⟩ ?_ ?_ ?_) ?_
  · tm_at "ev"
  · rintro j z ρ' own' hz ⟨rfl, hρ⟩
    have hjl : j < zall.length := (List.getElem?_eq_some_iff.mp hz).1
    have hlm : lim = 1048576 := rfl
    refine ⟨by tm_at "hx", ?_⟩
    refine WS.canon (ρ' := [("size", .int z), ("most", .int (most : Int))]) (fun x y e => ?_) ?_
    · rw [List.lookup_cons] at e ⊢
      split
      · rename_i h; rw [h] at e; exact e
      · rename_i h; rw [h] at e; exact hρ _ _ e
    refine WS.cons (WX.append rfl rfl rfl (Ev.name rfl rfl) rfl (by simp; omega) ?_)
    show WS _ _ _ _ _ _ _
    have e1 : (zall.take j).map V.int ++ [V.int z] = (zall.take (j + 1)).map V.int := by rw [List.take_add_one, hz]; simp
    rw [e1]
    refine WS.if (decide (j + 1 = most)) (Tst.eq (Tst.cmp (Ev.call (by tm_at "glo") rfl rfl (Evs.cons (Ev.name rfl rfl) Evs.nil rfl) CallV.len_list) (Ev.name rfl rfl) CmpV.eq rfl) ?_) (fun hv => ?_) (fun hv => ?_)
    · simp only [List.length_map, List.length_take]
      rw [Nat.min_eq_left (by omega)]
      by_cases h : j + 1 = most
      · rw [h]; simp
      · simp [h]; omega
    · have hv' : j + 1 = most := by simpa using hv
      refine WS.cons (WX.brk ?_)
      show some _ = some _
      rw [List.take_of_length_le (by omega)]
    · have hv' : j + 1 ≠ most := by simpa using hv
      refine WS.nil ⟨?_, rfl, has_cons rfl has_nil⟩
      rcases hm with ⟨rfl, h⟩ | ⟨rfl, h, h'⟩
      · simp [gTot]; omega
      · simp [gTot]; omega
  · rintro j ρ' own' ⟨rfl, _⟩ a ⟨z, ys, e⟩
    cases e; exact ⟨_, _, rfl⟩
  · rintro _ ρ' own' ⟨rfl, _⟩
    rw [List.take_of_length_le (Nat.le_refl _)]
  · rintro ρ' own' rfl
    exact WS.return (Ev.name rfl rfl) rfl
end

section
variable {c : Cx} {P : Params} {n : Nat}

theorem fmod3 (d : Int) : d.fmod 3 = d % 3 := Int.fmod_eq_emod_of_nonneg _ (by decide)
noncomputable def rowOf (ms : List Int) (d : Int) : List Int :=
  if d % 3 = 0 then ms.take ((d / 3 % ms.length).toNat + 1) ++ [0, 9] else if d % 3 = 1 then ms ++ [127, 4] else ms
noncomputable def dueOf (ms : List Int) (d : Int) : List Int :=
  if d % 3 = 0 then
    let first := ms.take ((d / 3 % ms.length).toNat + 1)
    first ++ List.replicate (ms.length + 1 - first.length) (first.getD (first.length - 1) 0)
  else ms

theorem k_row (H : Cok c (KK P)) {ms : List Int} {d : Int} (h0 : 0 < ms.length) (hl : ms.length ≤ 1000) : CallV c (n + 1) (.ref A__law_row) [.list (ms.map V.int), .int d] (.list ((rowOf ms d).map V.int)) := by
  refine CallV.def (n := n) H.hK rfl rfl (by kernel_rfl) (ps := ["sizes", "draw"]) (by tm_at "fn") (by decide) (by decide) rfl (fun L => ?_)
  have hlm : lim = 1048576 := rfl
  have hd3 : (d.fdiv 3).fmod (ms.length : Int) = d / 3 % ms.length := by
    rw [Int.fdiv_eq_ediv_of_nonneg _ (by decide), Int.fmod_eq_emod_of_nonneg _ (by omega)]
  have hk0 : 0 ≤ d / 3 % (ms.length : Int) := Int.emod_nonneg _ (by omega)
  generalize hk : d / 3 % (ms.length : Int) = q at hd3 hk0
  obtain ⟨kk, rfl⟩ := Int.eq_ofNat_of_zero_le hk0
  refine WS.if (decide (d % 3 = 0)) (Tst.eq (Tst.cmp (Ev.binop (Ev.name rfl rfl) Ev.int (BinV.mod_int (by decide))) Ev.int CmpV.eq rfl) ?_) (fun hv => ?_) (fun hv => ?_)
  · rw [fmod3]; rfl
  · have hv' : d % 3 = 0 := by simpa using hv
    refine WS.return (Ev.binop (Ev.sub (Ev.name rfl rfl) (EvIx.slice EvPart.none (EvPart.some (i := ((kk + 1 : Nat) : Int)) (Ev.eq (Ev.binop (Ev.binop (Ev.binop (Ev.name rfl rfl) Ev.int (BinV.div_int (by decide) (by decide))) (Ev.call (by tm_at "glo") rfl rfl (Evs.cons (Ev.name rfl rfl) Evs.nil rfl) CallV.len_list) (BinV.mod_int (by rw [List.length_map]; omega))) Ev.int BinV.add_int) ?_)) EvPart.none) SubV.l_upto) (Ev.list (Evs.cons Ev.int (Evs.cons Ev.int Evs.nil rfl) rfl) (Nat.le_of_ble_eq_true rfl)) (BinV.add_list (by simp; omega))) ?_
    · rw [List.length_map, hd3]; rfl
    · show _ = _
      rw [rowOf, if_pos hv', hk]
      simp
  refine WS.if (decide (d % 3 = 1)) (Tst.eq (Tst.cmp (Ev.binop (Ev.name rfl rfl) Ev.int (BinV.mod_int (by decide))) Ev.int CmpV.eq rfl) ?_) (fun hv2 => ?_) (fun hv2 => ?_)
  · rw [fmod3]; rfl
  · refine WS.return (Ev.binop (Ev.name rfl rfl) (Ev.list (Evs.cons Ev.int (Evs.cons Ev.int Evs.nil rfl) rfl) (Nat.le_of_ble_eq_true rfl)) (BinV.add_list (by simp; omega))) ?_
    show _ = _
    rw [rowOf, if_neg (by simpa using hv), if_pos (by simpa using hv2)]
    simp
  · refine WS.return (Ev.name rfl rfl) ?_
    show _ = _
    rw [rowOf, if_neg (by simpa using hv), if_neg (by simpa using hv2)]
end

section
variable {c : Cx} {P : Params} {n : Nat}

theorem flat_rep {x : Int} {k : Nat} : (List.replicate k [V.int x]).flatten = (List.replicate k x).map V.int := by
  induction k with
  | zero => rfl
  | succ k ih => rw [List.replicate_succ, List.flatten_cons, ih]; rfl

theorem k_due (H : Cok c (KK P)) {ms : List Int} {d : Int} (h0 : 0 < ms.length) (hl : ms.length ≤ 1000) : CallV c (n + 1) (.ref A__law_due) [.list (ms.map V.int), .int d] (.list ((dueOf ms d).map V.int)) := by
  refine CallV.def (n := n) H.hK rfl rfl (by kernel_rfl) (ps := ["sizes", "draw"]) (by tm_at "fn") (by decide) (by decide) rfl (fun L => ?_)
  have hlm : lim = 1048576 := rfl
  have hd3 : (d.fdiv 3).fmod (ms.length : Int) = d / 3 % ms.length := by
    rw [Int.fdiv_eq_ediv_of_nonneg _ (by decide), Int.fmod_eq_emod_of_nonneg _ (by omega)]
  have hk0 : 0 ≤ d / 3 % (ms.length : Int) := Int.emod_nonneg _ (by omega)
  generalize hk : d / 3 % (ms.length : Int) = q at hd3 hk0
  obtain ⟨kk, rfl⟩ := Int.eq_ofNat_of_zero_le hk0
  refine WS.if (decide (d % 3 = 0)) (Tst.eq (Tst.cmp (Ev.binop (Ev.name rfl rfl) Ev.int (BinV.mod_int (by decide))) Ev.int CmpV.eq rfl) ?_) (fun hv => ?_) (fun hv => ?_)
  · rw [fmod3]; rfl
  · have hv' : d % 3 = 0 := by simpa using hv
    refine WS.asg (y := .list ((ms.take (kk + 1)).map V.int)) (by tm_at "var") (by tm_at "hx") (by rfl) (Ev.eq (Ev.sub (Ev.name rfl rfl) (EvIx.slice EvPart.none (EvPart.some (i := ((kk + 1 : Nat) : Int)) (Ev.eq (Ev.binop (Ev.binop (Ev.binop (Ev.name rfl rfl) Ev.int (BinV.div_int (by decide) (by decide))) (Ev.call (by tm_at "glo") rfl rfl (Evs.cons (Ev.name rfl rfl) Evs.nil rfl) CallV.len_list) (BinV.mod_int (by rw [List.length_map]; omega))) Ev.int BinV.add_int) ?_)) EvPart.none) SubV.l_upto) ?_) ?_
    · rw [List.length_map, hd3]; rfl
    · rw [List.map_take]
    have e : dueOf ms d = ms.take (kk + 1) ++ List.replicate (ms.length + 1 - (ms.take (kk + 1)).length) ((ms.take (kk + 1)).getD ((ms.take (kk + 1)).length - 1) 0) := by
      rw [dueOf, if_pos hv', hk]
      simp
    rw [e]
    have hfl : 0 < (ms.take (kk + 1)).length ∧ (ms.take (kk + 1)).length ≤ ms.length := by simp; omega
    generalize ms.take (kk + 1) = fs at hfl ⊢
    refine WS.return (Ev.binop (Ev.name rfl rfl) (Ev.binop (a := .list [V.int (fs.getD (fs.length - 1) 0)]) (Ev.eq (Ev.sub (Ev.name rfl rfl) (EvIx.slice (EvPart.some (i := -((1 : Nat) : Int)) (Ev.unary Ev.int UnV.neg)) EvPart.none EvPart.none) (SubV.l_from_neg (by decide))) ?_)
      (Ev.eq (y' := .int ((ms.length + 1 - fs.length : Nat) : Int)) (Ev.binop (Ev.binop (Ev.call (by tm_at "glo") rfl rfl (Evs.cons (Ev.name rfl rfl) Evs.nil rfl) CallV.len_list) Ev.int BinV.add_int) (Ev.call (by tm_at "glo") rfl rfl (Evs.cons (Ev.name rfl rfl) Evs.nil rfl) CallV.len_list) BinV.sub_int) ?_) (BinV.mul_list (k := ((ms.length + 1 - fs.length : Nat) : Int)) (by omega) (by omega) ?_)) (BinV.add_list ?_)) ?_
    · rw [List.length_map, ← List.map_drop, List.drop_eq_getElem_cons (by omega)]
      have : fs.drop (fs.length - 1 + 1) = [] := List.drop_eq_nil_of_le (by omega)
      rw [this]
      simp [List.getD_eq_getElem?_getD, List.getElem?_eq_getElem (show fs.length - 1 < fs.length by omega)]
    · rw [List.length_map, List.length_map]
      congr 1
      omega
    · simp only [List.length_cons, List.length_nil]; omega
    · rw [flat_rep]; simp; omega
    · show _ = _
      rw [flat_rep, Int.toNat_natCast, List.map_append]
  · refine WS.return (Ev.name rfl rfl) ?_
    show _ = _
    rw [dueOf, if_neg (by simpa using hv)]

/-- the word, letter by letter, in the text -/
noncomputable def holdsK (word : List Nat) : List Nat → Nat → Nat
  | [], k => k
  | x :: r, k => holdsK word r (if k < word.length ∧ x = word.getD k 0 then k + 1 else k)
noncomputable def holds (text word : List Nat) : Bool := holdsK word text 0 == word.length

theorem k_cost (H : Cok c (KK P)) {w t : List Nat} {b : Int} {turned : Bool} (hw : Ascii w) (ht : Ascii t) (lw : w.length ≤ 40) (lt : t.length ≤ 40) :
    CallV c (n + 3) (.ref A__law_cost) [V.s w, V.s t, .int b, .bool turned] (.int (if turned then lev t w b else lev w t b)) := by
  refine CallV.def (n := n + 2) H.hK rfl rfl (by kernel_rfl) (ps := ["word", "text", "bound", "turned"]) (by tm_at "fn") (by decide) (by decide) rfl (fun L => ?_)
  refine WS.if turned (Tst.val (Ev.name rfl rfl) TruV.bool fun _ => rfl) (fun hv => ?_) (fun hv => ?_)
  · subst hv
    exact WS.return (Ev.fn H (by tm_at "glo") (by kernel_rfl) rfl (Evs.cons (Ev.name rfl rfl) (Evs.cons (Ev.name rfl rfl) (Evs.cons (Ev.name rfl rfl) Evs.nil rfl) rfl) rfl) (k_lev H ht hw lt lw)) rfl
  · subst hv
    exact WS.return (Ev.fn H (by tm_at "glo") (by kernel_rfl) rfl (Evs.cons (Ev.name rfl rfl) (Evs.cons (Ev.name rfl rfl) (Evs.cons (Ev.name rfl rfl) Evs.nil rfl) rfl) rfl) (k_lev H hw ht lw lt)) rfl
end

section
variable {c : Cx} {P : Params} {n : Nat}

theorem holdsK_le {word : List Nat} : ∀ (text : List Nat) (k : Nat), k ≤ word.length → holdsK word text k ≤ word.length
  | [], k, h => h
  | x :: r, k, h => by
    unfold holdsK
    refine holdsK_le r _ ?_
    split <;> omega

theorem k_holds (H : Cok c (KK P)) {text word : List Nat} (lt : text.length ≤ 40) (lw : word.length ≤ 40) : CallV c (n + 1) (.ref A__law_holds) [V.s text, V.s word] (.bool (holds text word)) := by
  refine CallV.def (n := n) H.hK rfl rfl (by kernel_rfl) (ps := ["text", "word"]) (by tm_at "fn") (by decide) (by decide) rfl (fun L => ?_)
  tm_at "asg"
  · tm_at "ev"
  refine WS.cut (fun ρ' own' => own' = none ∧ Has ρ' [("k", .int (holdsK word text 0 : Int)), ("word", V.s word)])
    (WX.for (xs := text.map fun ch => V.s [ch]) (fun i ρ' own' => own' = none ∧ ∃ k : Nat, k ≤ word.length ∧ Has ρ' [("k", .int (k : Int)), ("word", V.s word)] ∧ holdsK word (text.drop i) k = holdsK word text 0) (It.str (Ev.name rfl rfl)) (by tm_at "var") ⟨rfl, 0, Nat.zero_le _, has_cons rfl (has_cons rfl has_nil), rfl⟩ ?_ ?_ ?_) ?_
  · rintro i hi ρ' own' ⟨rfl, k, hk, hρ, hh⟩
    have hi' : i < text.length := by simpa using hi
    refine ⟨by tm_at "hx", ?_⟩
    rw [show (text.map fun ch => V.s [ch])[i] = V.s [text[i]] by simp]
    rw [List.drop_eq_getElem_cons hi', holdsK] at hh
    refine WS.canon (ρ' := [("sign", V.s [text[i]]), ("k", .int (k : Int)), ("word", V.s word)]) (fun x y e => ?_) ?_
    · rw [List.lookup_cons] at e ⊢
      split
      · rename_i h; rw [h] at e; exact e
      · rename_i h; rw [h] at e; exact hρ _ _ e
    refine WS.if (decide (k < word.length ∧ text[i] = word.getD k 0)) (Tst.eq (y := decide ((k : Int) < word.length) && (decide ([text[i]] = [word.getD k 0]) && true)) (Tst.bools (Tsts.and ?_ fun h1 => Tsts.and ?_ fun _ => Tsts.and_nil)) ?_) (fun hv => ?_) (fun hv => ?_)
    · tm_at "ev"
    · exact Tst.cmp (Ev.name rfl rfl) (Ev.sub (Ev.name rfl rfl) (EvIx.val (Ev.name rfl rfl)) (SubV.s_nat (by simp at h1; omega))) CmpV.eq_s rfl
    · simp
    · have hv' : k < word.length ∧ text[i] = word.getD k 0 := by simpa using hv
      rw [if_pos hv'] at hh
      exact WS.cons (WX.aug rfl (Evo.of Ev.int) (by tm_at "var") (by tm_at "hx") (.inl ⟨rfl, rfl⟩) (WS.nil (WS.nil ⟨rfl, k + 1, hv'.1, has_cons rfl (has_cons rfl has_nil), hh⟩)))
    · have hv' : ¬ (k < word.length ∧ text[i] = word.getD k 0) := by simpa using hv
      rw [if_neg hv'] at hh
      exact WS.nil ⟨rfl, k, hk, has_cons rfl (has_cons rfl has_nil), hh⟩
  · rintro i ρ' own' ⟨rfl, _⟩ a ⟨z, ys, e⟩
    cases e
  · rintro ρ' own' ⟨rfl, k, hk, hρ, hh⟩
    rw [List.length_map, List.drop_length, holdsK] at hh
    subst hh
    exact ⟨rfl, hρ⟩
  · rintro ρ' own' ⟨rfl, hρ⟩
    refine WS.canon hρ ?_
    tm_at "ret"
    · tm_at "ev"
    · show _ = _
      unfold holds
      congr 1
      show ((holdsK word text 0 : Int) == (word.length : Int)) = _
      by_cases h : holdsK word text 0 = word.length
      · rw [h, beq_self_eq_true, beq_self_eq_true]
      · rw [beq_eq_false_iff_ne.mpr h, beq_eq_false_iff_ne.mpr (by omega)]

noncomputable def saidOf (mirrored : Bool) (a b : List Nat) : Int := if mirrored then coll a.reverse b.reverse else coll a b
theorem k_said (H : Cok c (KK P)) {a b : List Nat} {m : Bool} : CallV c (n + 2) (.ref A__law_said) [V.s a, V.s b, .bool m] (.int (saidOf m a b)) := by
  refine CallV.def (n := n + 1) H.hK rfl rfl (by kernel_rfl) (ps := ["one", "other", "mirrored"]) (by tm_at "fn") (by decide) (by decide) rfl (fun L => ?_)
  have rv : ∀ {env : Env} {ρ : Mine.Frame} {e : Expr} {l : List Nat} {p1 p2 p3 p4 : Pos} {k : Nat}, Ev c (n + 1) env ρ e (V.s l) → Ev c (n + 1) env ρ (.Subscript e (.Slice none none (some (.UnaryOp .USub (.Constant (.int 1) k p1) p2)) p3) p4) (V.s l.reverse) :=
    fun h => Ev.sub h (EvIx.slice EvPart.none EvPart.none (EvPart.some (Ev.unary Ev.int UnV.neg))) SubV.s_rev
  refine WS.if m (Tst.val (Ev.name rfl rfl) TruV.bool fun _ => rfl) (fun hv => ?_) (fun hv => ?_)
  · subst hv
    exact WS.return (Ev.fn H (by tm_at "glo") (by kernel_rfl) rfl (Evs.cons (rv (Ev.name rfl rfl)) (Evs.cons (rv (Ev.name rfl rfl)) Evs.nil rfl) rfl) (k_strcoll H)) rfl
  · subst hv
    exact WS.return (Ev.fn H (by tm_at "glo") (by kernel_rfl) rfl (Evs.cons (Ev.name rfl rfl) (Evs.cons (Ev.name rfl rfl) Evs.nil rfl) rfl) (k_strcoll H)) rfl

noncomputable def laidAt (m : Bool) (text : List Nat) : List (List Nat) → Nat
  | [] => 0
  | x :: r => if saidOf m x text = -1 then laidAt m text r + 1 else 0
noncomputable def laid (row : List (List Nat)) (text : List Nat) (m : Bool) : List (List Nat) := row.take (laidAt m text row) ++ [text] ++ row.drop (laidAt m text row)
theorem laidAt_turn {m : Bool} {text : List Nat} : ∀ (row : List (List Nat)) (k : Nat), k ≤ laidAt m text row → (decide (k < laidAt m text row) = (decide (k < row.length) && (saidOf m (row.getD k []) text == -1))) ∧ laidAt m text row ≤ row.length
  | [], k, h => by simp [laidAt] at h ⊢
  | x :: r, k, h => by
    unfold laidAt at h ⊢
    split at h
    · rename_i hx
      rw [if_pos hx]
      have h0 := laidAt_turn (m := m) (text := text) r 0 (Nat.zero_le _)
      cases k with
      | zero => refine ⟨?_, by simp; exact h0.2⟩; simp [hx]
      | succ k =>
        have := laidAt_turn (m := m) (text := text) r k (by omega)
        refine ⟨?_, by simp; exact this.2⟩
        have t := this.1
        simp only [List.length_cons, List.getD_cons_succ, Nat.add_lt_add_iff_right]
        exact t
    · rename_i hx
      rw [if_neg hx]
      have : k = 0 := by omega
      subst this
      refine ⟨?_, Nat.zero_le _⟩
      simp [hx]

theorem k_laid (H : Cok c (KK P)) {row : List (List Nat)} {text : List Nat} {m : Bool} (hr : row.length ≤ 100) : CallV c (n + 3) (.ref A__law_laid) [.list (row.map V.s), V.s text, .bool m] (.list ((laid row text m).map V.s)) := by
  refine CallV.def (n := n + 2) H.hK rfl rfl (by kernel_rfl) (ps := ["row", "text", "mirrored"]) (by tm_at "fn") (by decide) (by decide) rfl (fun L => ?_)
  have hlm : lim = 1048576 := rfl
  tm_at "asg"
  · tm_at "ev"
  have hle := (laidAt_turn (m := m) (text := text) row 0 (Nat.zero_le _)).2
  generalize hp : laidAt m text row = p at hle
  refine WS.cut (fun ρ' own' => own' = none ∧ Has ρ' [("k", .int (p : Int)), ("row", .list (row.map V.s)), ("text", V.s text), ("mirrored", .bool m)]) (WX.while (fun q ρ' own' => own' = none ∧ ∃ k : Nat, k + q = p ∧ Has ρ' [("k", .int (k : Int)), ("row", .list (row.map V.s)), ("text", V.s text), ("mirrored", .bool m)]) p ⟨rfl, 0, by omega, has_cons rfl (has_cons rfl (has_cons rfl (has_cons rfl has_nil)))⟩ ?_) ?_
  · rintro q ρ' own' ⟨rfl, k, hk, hρ⟩
    refine ⟨decide (k < p), ?_, fun hv => ?_, fun hv => ?_⟩
    · refine Tst.eq (y := decide ((k : Int) < row.length) && ((saidOf m (row.getD k []) text == -1) && true)) (Tst.bools (Tsts.and ?_ fun h1 => Tsts.and ?_ fun _ => Tsts.and_nil)) ?_
      · refine Tst.eq (Tst.cmp (Ev.canon hρ (Ev.name rfl rfl)) (Ev.canon hρ (Ev.call (by tm_at "glo") rfl rfl (Evs.cons (Ev.name rfl rfl) Evs.nil rfl) CallV.len_list)) CmpV.lt rfl) (by rw [List.length_map])
      · exact Tst.cmp (Ev.canon hρ (Ev.fn H (by tm_at "glo") (by kernel_rfl) rfl (Evs.cons (Ev.sub (Ev.name rfl rfl) (EvIx.val (Ev.name rfl rfl)) (SubV.texts_nat (by simp at h1; omega))) (Evs.cons (Ev.name rfl rfl) (Evs.cons (Ev.name rfl rfl) Evs.nil rfl) rfl) rfl) (k_said H))) (Ev.unary Ev.int UnV.neg) CmpV.eq rfl
      · rw [← hp, (laidAt_turn row k (by omega)).1]; simp
    · simp at hv
      refine WS.canon hρ (WS.cons (WX.aug rfl (Evo.of Ev.int) (by tm_at "var") (by tm_at "hx") (.inl ⟨rfl, rfl⟩) (WS.nil ⟨q - 1, by omega, rfl, k + 1, by omega, has_cons rfl (has_cons rfl (has_cons rfl (has_cons rfl has_nil)))⟩)))
    · simp at hv
      obtain rfl : k = p := by omega
      exact ⟨rfl, hρ⟩
  · rintro ρ' own' ⟨rfl, hρ⟩
    refine WS.canon hρ (WS.return (Ev.binop (Ev.binop (Ev.sub (Ev.name rfl rfl) (EvIx.slice EvPart.none (EvPart.some (Ev.name rfl rfl)) EvPart.none) SubV.l_upto) (Ev.list (Evs.cons (Ev.name rfl rfl) Evs.nil rfl) (Nat.le_of_ble_eq_true rfl)) (BinV.add_list (by simp; omega))) (Ev.sub (Ev.name rfl rfl) (EvIx.slice (EvPart.some (Ev.name rfl rfl)) EvPart.none EvPart.none) SubV.l_from) (BinV.add_list (by simp; omega))) ?_)
    show _ = _
    rw [laid, hp]
    simp
end

section
variable {c : Cx} {P : Params} {n : Nat}

/-- what the b's of a text weigh -/
noncomputable def weigh (text : List Nat) (marks : List Int) : Int := ((List.range text.length).filterMap fun k => if text.getD k 0 = 98 then some (marks.getD k 0) else none).sum

theorem weigh_list (text : List Nat) (marks : List Int) : (List.range text.length).filterMap (fun k => if text.getD k 0 = 98 then some (V.int (marks.getD k 0)) else none) = ((List.range text.length).filterMap fun k => if text.getD k 0 = 98 then some (marks.getD k 0) else none).map V.int := by
  rw [List.map_filterMap]
  congr 1
  funext k
  split <;> rfl

theorem k_turns (H : Cok c (KK P)) (T : Tabs c) {text : List Nat} {marks : List Int} {start M : Int} {turned : Bool} (hlen : text.length ≤ marks.length) (hl : marks.length ≤ 1000) (hne : 0 < marks.length) (hM : marks.getD (marks.length - 1) 0 = M) (hM0 : 0 < M) (hM1 : M < 2 ^ 20)
    (hv : -(2 ^ 30) ≤ start + weigh text marks ∧ start + weigh text marks ≤ 2 ^ 30) :
    CallV c (n + 55) (.ref A__law_turns) [V.s text, .list (marks.map V.int), .int start, .bool turned] (.tup [.int ((start + weigh text marks) / M), .int ((start + weigh text marks) % M)]) := by
  refine CallV.def (n := n + 54) H.hK rfl rfl (by kernel_rfl) (ps := ["text", "marks", "start", "turned"]) (by tm_at "fn") (by decide) (by decide) rfl (fun L => ?_)
  refine WS.asg (y := .int (start + weigh text marks)) (by tm_at "var") (by tm_at "hx") (by rfl) (Ev.binop (Ev.name rfl rfl) (Ev.call (by tm_at "glo") rfl rfl (Evs.cons (Ev.eq (Ev.compRange (k := text.length) (by tm_at "glo") rfl ?_ (by omega) (ScopeOk.of rfl rfl rfl rfl) (fun _ => rfl) (fun k => if text.getD k 0 = 98 then some (V.int (marks.getD k 0)) else none) ?_) (congrArg V.list (weigh_list text marks))) Evs.nil rfl) (CallV.sum (ints?_map _))) BinV.add_int) ?_
  · tm_at "ev"
  · intro i hi C
    refine ⟨?_, fun y hy => ?_⟩
    · refine Tst.eq (y := decide ([text.getD i 0] = [98])) (Tst.cmp (Ev.sub (Ev.name rfl rfl) (EvIx.val (Ev.name rfl rfl)) (SubV.s_nat hi)) (Ev.s rfl (by decide +kernel)) CmpV.eq_s rfl) ?_
      by_cases h : text.getD i 0 = 98
      · rw [if_pos h, h]; rfl
      · rw [if_neg h, decide_eq_false (fun q => h (List.cons.inj q).1)]; rfl
    · have hi' : i < marks.length := by omega
      split at hy
      · cases hy
        exact Ev.sub (Ev.name rfl rfl) (EvIx.val (Ev.name rfl rfl)) (SubV.ints_nat hi')
      · cases hy
  generalize start + weigh text marks = v at hv ⊢
  have e1 : (-v).fdiv (-M) = v / M := by rw [Int.neg_fdiv_neg, Int.fdiv_eq_ediv_of_nonneg _ (by omega)]
  have e2 : -((-v).fmod (-M)) = v % M := by
    have := Int.mul_ediv_add_emod v M
    rw [Int.fmod_def, e1, Int.neg_mul]
    omega
  have e3 : v.fdiv M = v / M := Int.fdiv_eq_ediv_of_nonneg _ (by omega)
  have e4 : v.fmod M = v % M := Int.fmod_eq_emod_of_nonneg _ (by omega)
  have last : ∀ {env : Env} {ρ : Mine.Frame} {p1 p2 p3 p4 : Pos} {k : Nat}, List.lookup (Str.ofString "marks") ρ = some (V.list (marks.map V.int)) → Ev c (n + 54) env ρ (.Subscript (.Name "marks" p1) (.UnaryOp .USub (.Constant (.int 1) k p2) p3) p4) (.int M) := fun h => by
    have := SubV.ints_neg (c := c) (n := n + 54) (l := marks) (k := 1) (by decide) (by omega)
    rw [hM] at this
    exact Ev.sub (Ev.name h rfl) (EvIx.val (Ev.unary Ev.int UnV.neg)) this
  refine WS.cut (fun ρ' own' => own' = none ∧ Has ρ' [("turns", .int (v / M)), ("rest", .int (v % M)), ("value", .int v), ("marks", .list (marks.map V.int))]) (WX.ite (v := turned) (Tst.val (Ev.name rfl rfl) TruV.bool fun _ => rfl) (fun h => ?_) (fun h => ?_)) ?_
  · have kd := k_int_divmod (n := n) H T (a := -v) (b := -M) (by omega) (by omega) (by omega)
    rw [e1] at kd
    refine WS.cons (WX.unpack2 (Evo.of (Ev.fn H (by tm_at "glo") (by kernel_rfl) rfl (Evs.cons (Ev.unary (Ev.name rfl rfl) UnV.neg) (Evs.cons (Ev.unary (last rfl) UnV.neg) Evs.nil rfl) rfl) kd)) (by tm_at "var") (by tm_at "var") (by tm_at "hx") (by tm_at "hx") rfl rfl ?_)
    show WS _ _ _ _ _ _ _
    refine WS.asg (y := .int (v % M)) (by tm_at "var") (by tm_at "hx") (by rfl) (Ev.eq (Ev.unary (Ev.name rfl rfl) UnV.neg) (by rw [e2])) (WS.nil ⟨rfl, has_cons rfl (has_cons rfl (has_cons rfl (has_cons rfl has_nil)))⟩)
  · have kd := k_int_divmod (n := n) H T (a := v) (b := M) (by omega) (by omega) (by omega)
    rw [e3, e4] at kd
    exact WS.cons (WX.unpack2 (Evo.of (Ev.fn H (by tm_at "glo") (by kernel_rfl) rfl (Evs.cons (Ev.name rfl rfl) (Evs.cons (last rfl) Evs.nil rfl) rfl) kd)) (by tm_at "var") (by tm_at "var") (by tm_at "hx") (by tm_at "hx") rfl rfl (WS.nil ⟨rfl, has_cons rfl (has_cons rfl (has_cons rfl (has_cons rfl has_nil)))⟩))
  · rintro ρ' own' ⟨rfl, hρ⟩
    refine WS.canon hρ ?_
    have h0 : 0 ≤ v % M := Int.emod_nonneg _ (by omega)
    have h1 : v % M < M := Int.emod_lt_of_pos _ hM0
    have h2 := Int.mul_ediv_add_emod v M
    have h3 : (v / M).natAbs < 2 ^ 64 := by
      have : (v / M).natAbs ≤ v.natAbs := Int.natAbs_ediv_le_natAbs v M
      omega
    refine WS.if false (Tst.eq (y := ((v / M * M + v % M) != v) || (decide (v % M < 0) || (decide (v % M ≥ M) || false))) (Tst.bools (Tsts.or ?_ fun _ => Tsts.or ?_ fun _ => Tsts.or ?_ fun _ => Tsts.or_nil)) ?_) nofun (fun _ => ?_)
    · exact Tst.cmp (Ev.binop (Ev.binop (Ev.name rfl rfl) (last rfl) (BinV.mul_int (.inl h3))) (Ev.name rfl rfl) BinV.add_int) (Ev.name rfl rfl) CmpV.ne rfl
    · tm_at "ev"
    · exact Tst.cmp (Ev.name rfl rfl) (last rfl) CmpV.ge rfl
    · rw [Int.mul_comm (v / M) M, h2]
      simp; omega
    · exact WS.return (Ev.tuple (Evs.cons (Ev.name rfl rfl) (Evs.cons (Ev.name rfl rfl) Evs.nil rfl) rfl) (Nat.le_of_ble_eq_true rfl)) rfl
end

section
variable {c : Cx} {P : Params} {n : Nat}

/-- the places at which two texts are unlike -/
noncomputable def unlikeL (a b : List Nat) : List Nat := (List.range a.length).filter fun k => a.getD k 0 ≠ b.getD k 0
noncomputable def dueC (a b : List Nat) : Int := 2 * (if (2 : Int) < (unlikeL a b).length then 2 else ((unlikeL a b).length : Int))
noncomputable def chordOne (texts : List (List Nat)) (hs : List Int) (i j : Nat) : List Int :=
  if dueC (texts.getD i []) (texts.getD j []) = 2 then [if hs.getD i 0 - hs.getD j 0 < 0 then -(hs.getD i 0 - hs.getD j 0) else hs.getD i 0 - hs.getD j 0] else []
noncomputable def chordRow (texts : List (List Nat)) (hs : List Int) (i m : Nat) : List Int := (List.range m).flatMap fun j => chordOne texts hs i j
noncomputable def chordAll (texts : List (List Nat)) (hs : List Int) (m : Nat) : List Int := (List.range m).flatMap fun i => chordRow texts hs i (i + 1)
theorem chordRow_succ {texts : List (List Nat)} {hs : List Int} {i m : Nat} : chordRow texts hs i (m + 1) = chordRow texts hs i m ++ chordOne texts hs i m := by
  simp [chordRow, List.range_succ]
theorem chordAll_succ {texts : List (List Nat)} {hs : List Int} {m : Nat} : chordAll texts hs (m + 1) = chordAll texts hs m ++ chordRow texts hs m (m + 1) := by
  simp [chordAll, List.range_succ]
theorem chordOne_le {texts : List (List Nat)} {hs : List Int} {i j : Nat} : (chordOne texts hs i j).length ≤ 1 := by
  unfold chordOne; split <;> simp
theorem chordRow_le {texts : List (List Nat)} {hs : List Int} {i : Nat} : ∀ m, (chordRow texts hs i m).length ≤ m
  | 0 => by simp [chordRow]
  | m + 1 => by
    rw [chordRow_succ, List.length_append]
    have := chordRow_le (texts := texts) (hs := hs) (i := i) m
    have := chordOne_le (texts := texts) (hs := hs) (i := i) (j := m)
    omega
theorem chordAll_le {texts : List (List Nat)} {hs : List Int} : ∀ m, m ≤ 6 → (chordAll texts hs m).length ≤ m * 6
  | 0, _ => by simp [chordAll]
  | m + 1, h => by
    rw [chordAll_succ, List.length_append]
    have := chordAll_le (texts := texts) (hs := hs) m (by omega)
    have := chordRow_le (texts := texts) (hs := hs) (i := m) (m + 1)
    omega
theorem unlike_list (a b : List Nat) : ((List.range a.length).filterMap fun k => if a.getD k 0 ≠ b.getD k 0 then some (V.int (k : Int)) else none) = (unlikeL a b).map fun (k : Nat) => V.int (k : Int) := by
  unfold unlikeL
  generalize List.range a.length = r
  induction r with
  | nil => rfl
  | cons x r ih =>
    rw [List.filterMap_cons, List.filter_cons, ih]
    by_cases h : a.getD x 0 ≠ b.getD x 0
    · rw [if_pos h, if_pos (decide_eq_true h)]; rfl
    · rw [if_neg h, if_neg (by rw [decide_eq_true_eq]; exact h)]

theorem k_chords (H : Cok c (KK P)) {texts : List (List Nat)} {hs ms : List Int} {m : Nat} (hL : texts.length ≤ 6) (hh : texts.length ≤ hs.length) (hm : m ≤ 40)
    (ht : ∀ i, i < texts.length → (texts.getD i []).length = m ∧ Ascii (texts.getD i []))
    (hc : ∀ i j, j ≤ i → i < texts.length → ∀ e : Int, e = 0 ∨ e = 1 → lev (texts.getD i []) (texts.getD j []) (dueC (texts.getD i []) (texts.getD j []) + e) = dueC (texts.getD i []) (texts.getD j []))
    (hp : ms.Perm (chordAll texts hs texts.length)) (hso : ms.Pairwise (· ≤ ·)) :
    CallV c (n + 3) (.ref A__law_chords) [.list (texts.map V.s), .list (hs.map V.int)] (.list (ms.map V.int)) := by
  refine CallV.def (n := n + 2) H.hK rfl rfl (by kernel_rfl) (ps := ["texts", "heights"]) (by tm_at "fn") (by decide) (by decide) rfl (fun L => ?_)
  refine WS.cons (WX.new (EvNew.list Evs.nil nofun (by decide)) (by tm_at "var") rfl fun D => ?_)
  show WS _ _ _ _ _ _ _
  have hlm : lim = 1048576 := rfl
  refine WS.cut (fun ρ' own' => own' = some (Str.ofString "chords", D, (chordAll texts hs texts.length).map V.int) ∧ Has ρ' [("texts", .list (texts.map V.s)), ("heights", .list (hs.map V.int))])
    (WX.range1 (k := texts.length) (fun i ρ' own' => own' = some (Str.ofString "chords", D, (chordAll texts hs i).map V.int) ∧ Has ρ' [("texts", .list (texts.map V.s)), ("heights", .list (hs.map V.int))]) (by tm_at "var") (by tm_at "glo") rfl ?_ (by omega) ⟨rfl, has_cons rfl (has_cons rfl has_nil)⟩ ?_ ?_ ?_) ?_
  · refine Evs.cons (Ev.eq (Ev.call (by tm_at "glo") rfl rfl (Evs.cons (Ev.name rfl rfl) Evs.nil rfl) CallV.len_list) ?_) Evs.nil rfl
    rw [List.length_map]
  · rintro i ρ' own' hi ⟨rfl, hρ⟩
    refine ⟨by tm_at "hx", ?_⟩
    refine WS.canon (ρ' := [("i", .int (i : Int)), ("texts", .list (texts.map V.s)), ("heights", .list (hs.map V.int))]) (fun x y e => ?_) ?_
    · rw [List.lookup_cons] at e ⊢
      split
      · rename_i h; rw [h] at e; exact e
      · rename_i h; rw [h] at e; exact hρ _ _ e
    refine WS.cons (WX.range1 (k := i + 1) (fun j ρ' own' => own' = some (Str.ofString "chords", D, (chordAll texts hs i ++ chordRow texts hs i j).map V.int) ∧ Has ρ' [("i", .int (i : Int)), ("texts", .list (texts.map V.s)), ("heights", .list (hs.map V.int))]) (by tm_at "var") (by tm_at "glo") rfl ?_ (by omega) ⟨by simp [chordRow], has_cons rfl (has_cons rfl (has_cons rfl has_nil))⟩ ?_ ?_ ?_)
    · refine Evs.cons (Ev.eq (Ev.binop (Ev.name rfl rfl) Ev.int BinV.add_int) ?_) Evs.nil rfl
      simp
    · rintro j ρ' own' hj ⟨rfl, hρ⟩
      refine ⟨by tm_at "hx", ?_⟩
      refine WS.canon (ρ' := [("j", .int (j : Int)), ("i", .int (i : Int)), ("texts", .list (texts.map V.s)), ("heights", .list (hs.map V.int))]) (fun x y e => ?_) ?_
      · rw [List.lookup_cons] at e ⊢
        split
        · rename_i h; rw [h] at e; exact e
        · rename_i h; rw [h] at e; exact hρ _ _ e
      have hj' : j < texts.length := by omega
      have hci := hc i j (by omega) hi
      obtain ⟨l1, a1⟩ := ht i hi
      obtain ⟨l2, a2⟩ := ht j hj'
      have one : chordAll texts hs i ++ chordRow texts hs i (j + 1) = chordAll texts hs i ++ chordRow texts hs i j ++ chordOne texts hs i j := by rw [chordRow_succ, List.append_assoc]
      have hle1 := chordAll_le (texts := texts) (hs := hs) i (by omega)
      have hle2 := chordRow_le (texts := texts) (hs := hs) (i := i) j
      rw [one]
      unfold chordOne
      have hul := unlike_list (texts.getD i []) (texts.getD j [])
      have hdu : dueC (texts.getD i []) (texts.getD j []) = 2 * (if (2 : Int) < (unlikeL (texts.getD i []) (texts.getD j [])).length then 2 else ((unlikeL (texts.getD i []) (texts.getD j [])).length : Int)) := rfl
      generalize hdd : dueC (texts.getD i []) (texts.getD j []) = du at hci hdu
      have hdb : 0 ≤ du ∧ du ≤ 4 := by rw [hdu]; split <;> omega
      generalize hps : chordAll texts hs i ++ chordRow texts hs i j = pre
      have hpl : pre.length ≤ 100 := by rw [← hps, List.length_append]; omega
      refine WS.cons (WX.asgRange (k := (texts.getD i []).length) (by tm_at "glo") rfl ?_ (by omega) (ScopeOk.of rfl rfl rfl rfl) (fun _ => rfl) (fun k => if (texts.getD i []).getD k 0 ≠ (texts.getD j []).getD k 0 then some (V.int (k : Int)) else none) ?_ (by tm_at "var") (by tm_at "hx") ?_)
      · exact Evs.cons (Ev.call (by tm_at "glo") rfl rfl (Evs.cons (Ev.sub (Ev.name rfl rfl) (EvIx.val (Ev.name rfl rfl)) (SubV.texts_nat hi)) Evs.nil rfl) CallV.len_s) Evs.nil rfl
      · intro k hk C
        refine ⟨?_, fun y hy => ?_⟩
        · refine Tst.eq (y := !decide ([(texts.getD i []).getD k 0] = [(texts.getD j []).getD k 0])) (Tst.cmp (Ev.sub (Ev.sub (Ev.name rfl rfl) (EvIx.val (Ev.name rfl rfl)) (SubV.texts_nat hi)) (EvIx.val (Ev.name rfl rfl)) (SubV.s_nat hk)) (Ev.sub (Ev.sub (Ev.name rfl rfl) (EvIx.val (Ev.name rfl rfl)) (SubV.texts_nat hj')) (EvIx.val (Ev.name rfl rfl)) (SubV.s_nat (by omega))) CmpV.ne_s rfl) ?_
          by_cases h : (texts.getD i []).getD k 0 = (texts.getD j []).getD k 0
          · rw [if_neg (by simpa using h), h]; simp
          · rw [if_pos h]; simp; simpa using h
        · split at hy
          · cases hy
            exact Ev.name rfl rfl
          · cases hy
      show WS _ _ _ _ _ _ _
      rw [hul]
      refine WS.asg (y := .int du) (by tm_at "var") (by tm_at "hx") (by rfl) (Ev.eq (Ev.binop Ev.int (Ev.call (by tm_at "glo") rfl rfl (Evs.cons (Ev.call (by tm_at "glo") rfl rfl (Evs.cons (Ev.name rfl rfl) Evs.nil rfl) CallV.len_list) (Evs.cons Ev.int Evs.nil rfl) rfl) CallV.min) (BinV.mul_int (.inl (by decide)))) ?_) ?_
      · rw [hdu, List.length_map]
      have hmod : ((i : Int) + j).fmod 2 = 0 ∨ ((i : Int) + j).fmod 2 = 1 := by
        rw [Int.fmod_eq_emod_of_nonneg _ (by decide)]; omega
      refine WS.asg (y := .int du) (by tm_at "var") (by tm_at "hx") (by rfl) (Ev.eq (Ev.fn H (by tm_at "glo") (by kernel_rfl) rfl (Evs.cons (Ev.sub (Ev.name rfl rfl) (EvIx.val (Ev.name rfl rfl)) (SubV.texts_nat hi)) (Evs.cons (Ev.sub (Ev.name rfl rfl) (EvIx.val (Ev.name rfl rfl)) (SubV.texts_nat hj')) (Evs.cons (Ev.binop (Ev.name rfl rfl) (Ev.binop (Ev.binop (Ev.name rfl rfl) (Ev.name rfl rfl) BinV.add_int) Ev.int (BinV.mod_int (by decide))) BinV.add_int) Evs.nil rfl) rfl) rfl) (k_lev (n := n) H a1 a2 (by omega) (by omega))) ?_) ?_
      · rw [hci _ hmod]
      refine WS.if false (Tst.eq (y := false || ((du != du) || false)) (Tst.bools (Tsts.or ?_ fun _ => Tsts.or ?_ fun _ => Tsts.or_nil)) (by simp)) nofun (fun _ => ?_)
      · exact Tst.val (Ev.isinst (by tm_at "glo") (by tm_at "glo") rfl (Ev.name rfl rfl) isinst_int_bool) TruV.bool fun _ => rfl
      · exact Tst.cmp (Ev.name rfl rfl) (Ev.name rfl rfl) CmpV.ne rfl
      refine WS.if (decide (du = 2)) (Tst.eq (Tst.cmp (Ev.name rfl rfl) Ev.int CmpV.eq rfl) (by rfl)) (fun hv => ?_) (fun hv => ?_)
      · have hv' : du = 2 := by simpa using hv
        rw [if_pos hv']
        refine WS.cons (WX.append rfl rfl rfl (Ev.call (by tm_at "glo") rfl rfl (Evs.cons (Ev.binop (Ev.sub (Ev.name rfl rfl) (EvIx.val (Ev.name rfl rfl)) (SubV.ints_nat (by omega))) (Ev.sub (Ev.name rfl rfl) (EvIx.val (Ev.name rfl rfl)) (SubV.ints_nat (by omega))) BinV.sub_int) Evs.nil rfl) CallV.abs) rfl (by simp; omega) (WS.nil (WS.nil ⟨?_, has_cons rfl (has_cons rfl (has_cons rfl has_nil))⟩)))
        simp
      · have hv' : du ≠ 2 := by simpa using hv
        rw [if_neg hv']
        exact WS.nil ⟨by simp, has_cons rfl (has_cons rfl (has_cons rfl has_nil))⟩
    · rintro j ρ' own' ⟨rfl, _⟩ a ⟨z, ys, e⟩
      cases e; exact ⟨_, _, rfl⟩
    · rintro ρ' own' ⟨rfl, hρ⟩
      refine WS.nil ⟨by rw [chordAll_succ], fun x y e => hρ x y ?_⟩
      revert e
      simp only [List.lookup_cons, List.lookup_nil]
      by_cases h1 : x = Str.ofString "texts"
      · subst h1; exact id
      · by_cases h2 : x = Str.ofString "heights"
        · subst h2; exact id
        · have e1 : (x == Str.ofString "texts") = false := by simpa using h1
          have e2 : (x == Str.ofString "heights") = false := by simpa using h2
          simp [e1, e2]
  · rintro i ρ' own' ⟨rfl, _⟩ a ⟨z, ys, e⟩
    cases e; exact ⟨_, _, rfl⟩
  · rintro ρ' own' ⟨rfl, hρ⟩
    exact ⟨rfl, hρ⟩
  · rintro ρ' own' ⟨rfl, hρ⟩
    refine WS.canon hρ (WS.return (Ev.call (by tm_at "glo") rfl rfl (Evs.cons (Ev.name rfl rfl) Evs.nil rfl) (CallV.sorted (ms := ms) (ints?_map _) ?_ ?_)) rfl)
    · have := chordAll_le (texts := texts) (hs := hs) texts.length hL
      omega
    · intro ns' hp' hs'
      exact List.Perm.eq_of_pairwise (fun a b _ _ h1 h2 => Int.le_antisymm h1 h2) hs' hso (hp'.trans hp.symm)
end

section
variable {c : Cx} {P : Params} {n : Nat} {env : Env} {ρ : Mine.Frame}

/-! the plain words of the law -/
noncomputable def letter (d : Int) (k : Nat) : Nat := if d / 2 ^ k % 2 = 0 then 97 else 98
noncomputable def letters (d : Int) (m : Nat) : List Nat := (List.range m).map (letter d)
theorem letters_length {d : Int} {m : Nat} : (letters d m).length = m := by simp [letters]
theorem letter_ab (d : Int) (k : Nat) : letter d k = 97 ∨ letter d k = 98 := by unfold letter; split <;> simp
theorem letters_ab {d : Int} {m : Nat} : ∀ x ∈ letters d m, x = 97 ∨ x = 98 := fun x hx => by
  obtain ⟨k, _, rfl⟩ := List.mem_map.mp hx
  exact letter_ab d k
theorem ascii_ab {l : List Nat} (h : ∀ x ∈ l, x = 97 ∨ x = 98) : Ascii l := fun x hx => by rcases h x hx with rfl | rfl <;> decide

theorem pick_map {α β : Type} (f : α → β) (l : List α) (a b d : Option Int) : pick (l.map f) a b d = (pick l a b d).map f := by
  unfold pick
  rw [List.length_map, List.map_filterMap]
  congr 1
  funext k
  rw [List.getElem?_map]

theorem pow_small : ∀ b : Nat, b < 6 → ∀ i : Nat, i < 7 → ((b : Int) ^ i).natAbs < 1073741824 ∧ (2 ≤ b → 0 < ((b : Int) ^ i)) := by decide
theorem ev_digit {e1 e2 : Expr} {d : Int} {b i : Nat} {k1 k2 : Nat} {p1 p3 p4 p5 p6 : Pos} (hb : 2 ≤ b ∧ b ≤ 5) (hi : i ≤ 6) (h1 : Ev c n env ρ e1 (.int d)) (h2 : Ev c n env ρ e2 (.int (i : Int))) :
    Ev c n env ρ (.BinOp (.BinOp e1 .FloorDiv (.BinOp (.Constant (.int (b : Int)) k1 p1) .Pow e2 p3) p4) .Mod (.Constant (.int (b : Int)) k2 p5) p6) (.int (d / (b : Int) ^ i % (b : Int))) := by
  obtain ⟨q1, q2⟩ := pow_small b (by omega) i (by omega)
  have q2 := q2 hb.1
  have q3 : Builtin.Int.intBits (b : Int) ≤ 3 := intBits_le (m := 3) (by omega) (by omega)
  refine Ev.eq (Ev.binop (Ev.binop h1 (Ev.binop Ev.int h2 (BinV.pow_int (by omega) ?_)) (BinV.div_int ?_ ?_)) Ev.int (BinV.mod_int (by omega))) ?_
  · have : (Builtin.Int.intBits (b : Int) : Int) * i ≤ 3 * 6 := Int.mul_le_mul (by omega) (by omega) (by omega) (by omega)
    omega
  · rw [Int.toNat_natCast]; omega
  · rw [Int.toNat_natCast]; exact q1
  · rw [Int.toNat_natCast, Int.fdiv_eq_ediv_of_nonneg _ (by omega), Int.fmod_eq_emod_of_nonneg _ (by omega)]
theorem ev_letter {e : Expr} {d : Int} {i : Nat} {k1 : Nat} {p1 p2 : Pos} (h : EvIx c n env ρ e (.val (.int (d / 2 ^ i % 2)))) : Ev c n env ρ (.Subscript (.Constant (.str (Str.ofString "ab")) k1 p1) e p2) (V.s [letter d i]) := by
  unfold letter
  have h01 : d / 2 ^ i % 2 = 0 ∨ d / 2 ^ i % 2 = 1 := by omega
  rcases h01 with h0 | h0
  · rw [h0] at h
    rw [if_pos h0]
    exact Ev.sub (Ev.s (l := [97, 98]) rfl (by decide +kernel)) h (SubV.s_nat (k := 0) (by decide))
  · rw [h0] at h
    rw [if_neg (by omega)]
    exact Ev.sub (Ev.s (l := [97, 98]) rfl (by decide +kernel)) h (SubV.s_nat (k := 1) (by decide))

/-- the draws -/
noncomputable def drawOf (alt : List Int) (ns : List Int) (k : Nat) : Int := if k < ns.length then (pick ns (some (k : Int)) (some 12) (some 3)).sum else alt.getD k 0
noncomputable def sizeOf (N : Nat) (ns : List Int) : List Int := (List.range (N + 1)).map fun k => drawOf [2702, 5, 850] ns 0 / 5 ^ k % 5 + 1
noncomputable def boundOf (i : Nat) : Int := 2 + (i : Int) % 2
noncomputable def turnedOf (i : Nat) : Bool := decide ((i : Int) % 4 > 1)
noncomputable def costOf (w : List Nat) (N i : Nat) : Int := if turnedOf i then lev (letters i N) w (boundOf i) else lev w (letters i N) (boundOf i)
noncomputable def hit (w : List Nat) (N i : Nat) : Bool := holds (letters i N) w
noncomputable def layAll (m : Bool) (w : List Nat) (N : Nat) : Nat → List (List Nat)
  | 0 => []
  | i + 1 => if hit w N i then laid (layAll m w N i) (letters i N) m else layAll m w N i
theorem laid_length {row : List (List Nat)} {text : List Nat} {m : Bool} : (laid row text m).length = row.length + 1 := by
  have := (laidAt_turn (m := m) (text := text) row 0 (Nat.zero_le _)).2
  simp [laid]; omega
theorem layAll_le {m : Bool} {w : List Nat} {N : Nat} : ∀ i, (layAll m w N i).length ≤ i
  | 0 => Nat.le_refl _
  | i + 1 => by
    unfold layAll
    have := layAll_le (m := m) (w := w) (N := N) i
    split
    · rw [laid_length]; omega
    · omega
theorem mem_laid {row : List (List Nat)} {text x : List Nat} {m : Bool} (h : x ∈ laid row text m) : x ∈ row ∨ x = text := by
  unfold laid at h
  rcases List.mem_append.mp h with h | h
  · rcases List.mem_append.mp h with h | h
    · exact .inl (List.mem_of_mem_take h)
    · exact .inr (by simpa using h)
  · exact .inl (List.mem_of_mem_drop h)
theorem layAll_mem {m : Bool} {w : List Nat} {N : Nat} : ∀ i, ∀ x ∈ layAll m w N i, x.length = N ∧ ∀ y ∈ x, y = 97 ∨ y = 98
  | 0, x, h => by simp [layAll] at h
  | i + 1, x, h => by
    unfold layAll at h
    split at h
    · rcases mem_laid h with h | rfl
      · exact layAll_mem i x h
      · exact ⟨letters_length, letters_ab⟩
    · exact layAll_mem i x h

noncomputable def marksOf (S : List Int) (N : Nat) : List Int := (List.range (N + 1)).map fun k => (S.take (k + 1)).sum
noncomputable def behind (ch : Nat) (w : List Nat) (S : List Int) : List Int := (List.range w.length).filterMap fun k => if w.getD k 0 = ch then some (S.getD (k + 1) 0) else none

structure LawOk (N : Nat) (S : List Int) (w : List Nat) (st : Int) (F B : List (List Nat)) (mk : List Int) (M : Int) (x : Nat → Int) (pl : Nat → Nat) (bb ba : List Int) : Prop where
  hN : 4 ≤ N ∧ N ≤ 5
  hw : w.length + 1 = N
  hwA : ∀ x ∈ w, x = 97 ∨ x = 98
  hS : N + 1 ≤ S.length ∧ S.length ≤ 10
  hSb : ∀ x ∈ S, 1 ≤ x ∧ x ≤ 5
  hst : -999 ≤ st ∧ st ≤ 999
  eF : F = layAll false w N (2 ^ N)
  eB : B = layAll true w N (2 ^ N)
  emk : mk = marksOf S N
  eM : M = mk.getD N 0
  ex : x = fun k => st + weigh (F.getD k []) mk
  epl : pl = fun k => F.idxOf (B.getD k [])
  ebb : bb = behind 98 w S
  eba : ba = behind 97 w S
  cost : ∀ i, i < 2 ^ N → 2 ≤ costOf w N i ∧ decide (costOf w N i = 2) = hit w N i
  lenF : F.length = N + 1
  lenB : B.length = N + 1
  said1 : (List.range N).map (fun k => saidOf true (B.getD (k + 1) []) (B.getD k [])) = List.replicate N 1
  said2 : [w, w.map up].flatMap (fun o => F.map fun t => coll t o) = List.replicate bb.length (-1) ++ List.replicate (2 * N + 2 - bb.length) 1
  hM : 0 < M ∧ M < 2 ^ 20
  hx : ∀ k, k ≤ N → -(2 ^ 20) ≤ x k ∧ x k ≤ 2 ^ 20
  downs : (List.range N).map (fun k => (x k % M - x (k + 1) % M) % M) ++ [(x N % M - x 0 % M) % M] = bb ++ [S.getD N 0] ++ ba.reverse ++ [S.getD 0 0]
  BF : ∀ t ∈ B, t ∈ F
  ups : (List.range N).map (fun k => x (pl (k + 1)) - x (pl k)) = bb.reverse ++ [S.getD 0 0] ++ ba
  mods : (List.range (N + 1)).map (fun k => ((pl k : Int) + k - bb.length) % (N + 1)) = List.replicate (N + 1) 0
  chL : ∀ i j, j ≤ i → i < F.length → ∀ e : Int, e = 0 ∨ e = 1 → lev (F.getD i []) (F.getD j []) (dueC (F.getD i []) (F.getD j []) + e) = dueC (F.getD i []) (F.getD j [])
  chP : (mk.take N).Perm (chordAll F ((List.range (N + 1)).map x) F.length)
  chS : (mk.take N).Pairwise (· ≤ ·)

theorem tells_app {r : List Int} {zs : List Int} {fin : Bool} : ∀ (xs : List Int) {last : Option Int}, (∀ x ∈ xs, x ≠ 127 ∧ x ≠ 0) → (∀ l, l = (match xs with | [] => last | _ => some (xs.getD (xs.length - 1) 0)) → Tells r l zs fin) → Tells (xs ++ r) last (xs ++ zs) fin
  | [], last, _, h => h _ rfl
  | x :: xs, last, hx, h => by
    refine Tells.item (hx x (by simp)).1 (hx x (by simp)).2 (tells_app xs (fun y hy => hx y (by simp [hy])) fun l hl => h l ?_)
    subst hl
    cases xs with
    | nil => rfl
    | cons y xs => rfl
theorem tells_row {ms : List Int} {d : Int} (h0 : 0 < ms.length) (hm : ∀ x ∈ ms, 1 ≤ x ∧ x ≤ 100) : Tells (rowOf ms d) none (dueOf ms d) (if d % 3 = 0 then false else true) := by
  unfold rowOf dueOf
  by_cases h : d % 3 = 0
  · simp only [if_pos h]
    have hk0 : 0 ≤ d / 3 % (ms.length : Int) := Int.emod_nonneg _ (by omega)
    generalize (d / 3 % (ms.length : Int)).toNat = q
    refine tells_app _ (fun x hx => ?_) fun l hl => ?_
    · have := hm x (List.mem_of_mem_take hx); omega
    · cases ms with
      | nil => simp at h0
      | cons y ms => subst hl; exact Tells.rep
  · simp only [if_neg h]
    by_cases h1 : d % 3 = 1
    · simp only [if_pos h1]
      have := tells_app (r := [127, 4]) (zs := []) (fin := true) ms (last := none) (fun x hx => by have := hm x hx; omega) fun l _ => Tells.stop
      simpa using this
    · simp only [if_neg h1]
      have := tells_app (r := []) (zs := []) (fin := true) ms (last := none) (fun x hx => by have := hm x hx; omega) fun l _ => Tells.done
      simpa using this
end

section
variable {c : Cx} {P : Params}

theorem lengths_map (ns : List Int) : ((ns.map V.int).length : Int) = (ns.length : Int) := by rw [List.length_map]

theorem k_law (H : Cok c (KK P)) (T : Tabs c) {ns : List Int} (hns : ns.length ≤ 63) {N : Nat} (eN : N = if ns.length < 4 then 4 else 5) {F B : List (List Nat)} {mk : List Int} {M : Int} {x : Nat → Int} {pl : Nat → Nat} {bb ba : List Int}
    (O : LawOk N (dueOf (sizeOf N ns) (drawOf [2702, 5, 850] ns 2)) (letters (drawOf [2702, 5, 850] ns 1) (N - 1)) (drawOf [2702, 5, 850] ns 2 % 1999 - 999) F B mk M x pl bb ba) :
    CallV c 56 (.ref 148) [.list (ns.map V.int)] (.bool true) := by
  refine CallV.def (n := 55) H.hK rfl rfl (by kernel_rfl) (ps := ["script"]) (by tm_at "fn") (by decide) (by decide) rfl (fun L => ?_)
  have hlm : lim = 1048576 := rfl
  have hN := O.hN
  refine WS.asg (y := .int (N : Int)) (by tm_at "var") (by tm_at "hx") (by rfl) (Ev.ite (b := decide (ns.length < 4)) (Tst.eq (Tst.cmp (Ev.call (by tm_at "glo") rfl rfl (Evs.cons (Ev.name rfl rfl) Evs.nil rfl) CallV.len_list) Ev.int CmpV.lt rfl) ?_) (fun _ => Ev.int) (fun _ => Ev.int) ?_) ?_
  · rw [lengths_map]
    by_cases h : ns.length < 4
    · rw [decide_eq_true h, decide_eq_true (by omega)]
    · rw [decide_eq_false h, decide_eq_false (by omega)]
  · subst eN
    by_cases h : ns.length < 4
    · simp [h]
    · simp [h]
  refine WS.asg (y := .list ((List.range 3).map fun k => V.int (drawOf [2702, 5, 850] ns k))) (by tm_at "var") (by tm_at "hx") (by rfl) (Ev.eq (Ev.compRange (k := 3) (by tm_at "glo") rfl (Evs.cons Ev.int Evs.nil rfl) (by omega) (ScopeOk.of rfl rfl rfl rfl) (fun _ => rfl) (fun k => some (V.int (drawOf [2702, 5, 850] ns k))) ?_) ?_) ?_
  · intro i hi C
    refine ⟨rfl, fun y hy => ?_⟩
    cases hy
    refine Ev.ite (b := decide (i < ns.length)) (y1 := .int (pick ns (some (i : Int)) (some 12) (some 3)).sum) (y2 := .int ([2702, 5, 850].getD i 0)) (Tst.eq (Tst.cmp (Ev.call (by tm_at "glo") rfl rfl (Evs.cons (Ev.name rfl rfl) Evs.nil rfl) CallV.len_list) (Ev.name rfl rfl) CmpV.gt rfl) ?_) (fun h => ?_) (fun h => ?_) ?_
    · rw [lengths_map]
      by_cases h : i < ns.length
      · rw [decide_eq_true h, decide_eq_true (by omega)]
      · rw [decide_eq_false h, decide_eq_false (by omega)]
    · exact Ev.call (by tm_at "glo") rfl rfl (Evs.cons (Ev.sub (Ev.name rfl rfl) (EvIx.slice (EvPart.some (Ev.name rfl rfl)) (EvPart.some Ev.int) (EvPart.some Ev.int)) (SubV.eq (SubV.slice (by decide)) (congrArg V.list (pick_map V.int ns _ _ _)))) Evs.nil rfl) (CallV.sum (ints?_map _))
    · refine Ev.sub (Ev.list (ys := [V.int 2702, V.int 5, V.int 850]) (Evs.cons Ev.int (Evs.cons Ev.int (Evs.cons Ev.int Evs.nil rfl) rfl) rfl) (Nat.le_of_ble_eq_true rfl)) (EvIx.val (Ev.name rfl rfl)) (SubV.eq (SubV.l_nat (by simpa using hi)) ?_)
      have : i = 0 ∨ i = 1 ∨ i = 2 := by omega
      rcases this with rfl | rfl | rfl <;> rfl
    · unfold drawOf
      by_cases h : i < ns.length
      · rw [if_pos h, decide_eq_true h]; rfl
      · rw [if_neg h, decide_eq_false h]; rfl
  · rfl
  have draw : ∀ {env : Env} {ρ : Mine.Frame} {p1 p2 p3 : Pos} {k : Nat} (j : Nat), j < 3 → List.lookup (Str.ofString "draws") ρ = some (V.list ((List.range 3).map fun k => V.int (drawOf [2702, 5, 850] ns k))) →
      Ev c 55 env ρ (.Subscript (.Name (Str.ofString "draws") p1) (.Constant (.int (j : Int)) k p2) p3) (.int (drawOf [2702, 5, 850] ns j)) := fun j hj h =>
    Ev.sub (Ev.name h rfl) (EvIx.val Ev.int) (SubV.eq (SubV.map_nat 0 (by simpa using hj)) (by
      have : j = 0 ∨ j = 1 ∨ j = 2 := by omega
      rcases this with rfl | rfl | rfl <;> rfl))
  have d0 := fun {env : Env} {ρ : Mine.Frame} {p1 p2 p3 : Pos} {k : Nat} => @draw env ρ p1 p2 p3 k 0 (by decide)
  have d1 := fun {env : Env} {ρ : Mine.Frame} {p1 p2 p3 : Pos} {k : Nat} => @draw env ρ p1 p2 p3 k 1 (by decide)
  have d2 := fun {env : Env} {ρ : Mine.Frame} {p1 p2 p3 : Pos} {k : Nat} => @draw env ρ p1 p2 p3 k 2 (by decide)
  clear draw
  refine WS.cons (WX.asgRange (k := N + 1) (by tm_at "glo") rfl (Evs.cons (Ev.binop (Ev.name rfl rfl) Ev.int BinV.add_int) Evs.nil rfl) (by omega) (ScopeOk.of rfl rfl rfl rfl) (fun _ => rfl) (fun k => some (V.int (drawOf [2702, 5, 850] ns 0 / 5 ^ k % 5 + 1))) ?_ (by tm_at "var") (by tm_at "hx") ?_)
  · intro i hi C
    refine ⟨rfl, fun y hy => ?_⟩
    cases hy
    exact Ev.binop (ev_digit (b := 5) (by decide) (by omega) (d0 rfl) (Ev.name rfl rfl)) Ev.int BinV.add_int
  show WS _ _ _ _ _ _ _
  have edr : (List.range (N + 1)).filterMap (fun k => some (V.int (drawOf [2702, 5, 850] ns 0 / 5 ^ k % 5 + 1))) = (sizeOf N ns).map V.int := by
    unfold sizeOf; rw [List.map_map, List.filterMap_eq_map']; rfl
  rw [edr]
  have hms : (sizeOf N ns).length = N + 1 := by simp [sizeOf]
  have hmb : ∀ z ∈ sizeOf N ns, 1 ≤ z ∧ z ≤ 100 := fun z hz => by
    obtain ⟨k, _, rfl⟩ := List.mem_map.mp hz
    have h1 := Int.emod_nonneg (drawOf [2702, 5, 850] ns 0 / 5 ^ k) (show (5 : Int) ≠ 0 by decide)
    have h2 := Int.emod_lt_of_pos (drawOf [2702, 5, 850] ns 0 / 5 ^ k) (show (0 : Int) < 5 by decide)
    omega
  have hst := O.hst
  have hS := O.hS
  have hdl : (dueOf (sizeOf N ns) (drawOf [2702, 5, 850] ns 2)).length = if drawOf [2702, 5, 850] ns 2 % 3 = 0 then N + 2 else N + 1 := by
    unfold dueOf
    split
    · simp only [List.length_append, List.length_replicate, List.length_take, hms]; omega
    · exact hms
  have hte := tells_row (ms := sizeOf N ns) (d := drawOf [2702, 5, 850] ns 2) (by omega) hmb
  obtain ⟨S, hSd⟩ : ∃ S, S = dueOf (sizeOf N ns) (drawOf [2702, 5, 850] ns 2) := ⟨_, rfl⟩
  rw [← hSd] at O hS hdl hte
  obtain ⟨w, hwd⟩ : ∃ w, w = letters (drawOf [2702, 5, 850] ns 1) (N - 1) := ⟨_, rfl⟩
  rw [← hwd] at O
  obtain ⟨st, hstd⟩ : ∃ st, st = drawOf [2702, 5, 850] ns 2 % 1999 - 999 := ⟨_, rfl⟩
  rw [← hstd] at O hst
  refine WS.asg (y := .list (S.map V.int)) (by tm_at "var") (by tm_at "hx") (by rfl) (Ev.fn H (by tm_at "glo") (by kernel_rfl) rfl (Evs.cons (Ev.fn H (by tm_at "glo") (by kernel_rfl) rfl (Evs.cons (Ev.name rfl rfl) (Evs.cons (d2 rfl) Evs.nil rfl) rfl) (k_row (n := 54) H (by omega) (by omega))) (Evs.cons (Ev.eq (y' := .int ((N + 2 : Nat) : Int)) (Ev.binop (Ev.name rfl rfl) Ev.int BinV.add_int) ?_) Evs.nil rfl) rfl) (k_told (n := 50) H hte ?_ (by omega))) ?_
  · rfl
  · rw [hdl]
    split
    · exact .inr ⟨rfl, rfl, by omega⟩
    · exact .inl ⟨rfl, by omega⟩
  refine WS.if false (Tst.eq (Tst.cmp (Ev.name rfl rfl) (Ev.fn H (by tm_at "glo") (by kernel_rfl) rfl (Evs.cons (Ev.name rfl rfl) (Evs.cons (d2 rfl) Evs.nil rfl) rfl) (k_due (n := 54) H (by omega) (by omega))) CmpV.ne_ints rfl) (by rw [← hSd, decide_eq_true rfl]; rfl)) nofun (fun _ => ?_)
  have hmk := O.emk
  refine WS.asg (y := .list (mk.map V.int)) (by tm_at "var") (by tm_at "hx") (by rfl) (Ev.eq (Ev.compRange (k := N + 1) (by tm_at "glo") rfl (Evs.cons (Ev.binop (Ev.name rfl rfl) Ev.int BinV.add_int) Evs.nil rfl) (by omega) (ScopeOk.of rfl rfl rfl rfl) (fun _ => rfl) (fun k => some (V.int (S.take (k + 1)).sum)) ?_) ?_) ?_
  · intro i hi C
    refine ⟨rfl, fun y hy => ?_⟩
    cases hy
    exact Ev.call (by tm_at "glo") rfl rfl (Evs.cons (Ev.sub (Ev.name rfl rfl) (EvIx.slice EvPart.none (EvPart.some (i := ((i + 1 : Nat) : Int)) (Ev.binop (Ev.name rfl rfl) Ev.int BinV.add_int)) EvPart.none) (SubV.eq SubV.l_upto (congrArg V.list List.map_take.symm))) Evs.nil rfl) (CallV.sum (ints?_map _))
  · rw [hmk]; unfold marksOf; rw [List.map_map, List.filterMap_eq_map']; rfl
  refine WS.asg (y := V.s w) (by tm_at "var") (by tm_at "hx") (by rfl) (Ev.meth rfl rfl rfl (by simp) (Ev.s (l := []) rfl (by decide +kernel)) (Evs.cons (Ev.eq (y' := .list (w.map fun ch => V.s [ch])) (Ev.compRange (k := N - 1) (by tm_at "glo") rfl (Evs.cons (Ev.eq (Ev.binop (Ev.name rfl rfl) Ev.int BinV.sub_int) ?_) Evs.nil rfl) (by omega) (ScopeOk.of rfl rfl rfl rfl) (fun _ => rfl) (fun k => some (V.s [letter (drawOf [2702, 5, 850] ns 1) k])) ?_) ?_) Evs.nil rfl) (MethV.join_s ?_)) ?_
  · congr 1; omega
  · intro i hi C
    refine ⟨rfl, fun y hy => ?_⟩
    cases hy
    exact ev_letter (EvIx.val (ev_digit (b := 2) (by decide) (by omega) (d1 rfl) (Ev.name rfl rfl)))
  · rw [hwd]; unfold letters; rw [List.map_map, List.filterMap_eq_map']; rfl
  · have := O.hw; omega
  have hw := O.hw
  have hwA := ascii_ab O.hwA
  clear hte hmb edr hms hdl hSd hwd hmk
  refine WS.asg (y := .list (([] : List (List Nat)).map V.s)) (by tm_at "var") (by tm_at "hx") (by rfl) (Ev.list Evs.nil (by decide)) ?_
  refine WS.asg (y := .list (([] : List (List Nat)).map V.s)) (by tm_at "var") (by tm_at "hx") (by rfl) (Ev.list Evs.nil (by decide)) ?_
  have hpow : 2 ^ N = 16 ∨ 2 ^ N = 32 := by
    have : N = 4 ∨ N = 5 := by omega
    rcases this with h | h <;> subst h <;> simp
  refine WS.canon (ρ' := [("forth", .list (([] : List (List Nat)).map V.s)), ("back", .list (([] : List (List Nat)).map V.s)), ("word", V.s w), ("marks", .list (mk.map V.int)), ("sizes", .list (S.map V.int)), ("draws", .list ((List.range 3).map fun k => V.int (drawOf [2702, 5, 850] ns k))), ("n", .int (N : Int))]) (has_cons rfl (has_cons rfl (has_cons rfl (has_cons rfl (has_cons rfl (has_cons rfl (has_cons rfl has_nil))))))) ?_
  refine WS.cut (fun ρ' own' => own' = none ∧ Has ρ' [("forth", .list (F.map V.s)), ("back", .list (B.map V.s)), ("word", V.s w), ("marks", .list (mk.map V.int)), ("sizes", .list (S.map V.int)), ("draws", .list ((List.range 3).map fun k => V.int (drawOf [2702, 5, 850] ns k))), ("n", .int (N : Int))])
    (WX.range1 (k := 2 ^ N) (fun i ρ' own' => own' = none ∧ Has ρ' [("forth", .list ((layAll false w N i).map V.s)), ("back", .list ((layAll true w N i).map V.s)), ("word", V.s w), ("marks", .list (mk.map V.int)), ("sizes", .list (S.map V.int)), ("draws", .list ((List.range 3).map fun k => V.int (drawOf [2702, 5, 850] ns k))), ("n", .int (N : Int))]) (by tm_at "var") (by tm_at "glo") rfl ?_ (by omega) ⟨rfl, has_cons rfl (has_cons rfl (has_cons rfl (has_cons rfl (has_cons rfl (has_cons rfl (has_cons rfl has_nil))))))⟩ ?_ ?_ ?_) ?_
  · refine Evs.cons (Ev.eq (Ev.binop Ev.int (Ev.name rfl rfl) (BinV.pow_int (by omega) ?_)) ?_) Evs.nil rfl
    · have : Builtin.Int.intBits 2 = 2 := by decide +kernel
      rw [this]; omega
    · rw [Int.toNat_natCast]; simp
  · rintro i ρ' own' hi ⟨rfl, hρ⟩
    refine ⟨by tm_at "hx", ?_⟩
    refine WS.canon (ρ' := [("number", .int (i : Int)), ("forth", .list ((layAll false w N i).map V.s)), ("back", .list ((layAll true w N i).map V.s)), ("word", V.s w), ("marks", .list (mk.map V.int)), ("sizes", .list (S.map V.int)), ("draws", .list ((List.range 3).map fun k => V.int (drawOf [2702, 5, 850] ns k))), ("n", .int (N : Int))]) (fun x y e => ?_) ?_
    · rw [List.lookup_cons] at e ⊢
      split
      · rename_i h; rw [h] at e; exact e
      · rename_i h; rw [h] at e; exact hρ _ _ e
    obtain ⟨hc1, hc2⟩ := O.cost i hi
    have hlt : (letters (i : Int) N).length = N := letters_length
    have hltA := ascii_ab (letters_ab (d := (i : Int)) (m := N))
    refine WS.asg (y := V.s (letters (i : Int) N)) (by tm_at "var") (by tm_at "hx") (by rfl) (Ev.meth rfl rfl rfl (by simp) (Ev.s (l := []) rfl (by decide +kernel)) (Evs.cons (Ev.eq (y' := .list ((letters (i : Int) N).map fun ch => V.s [ch])) (Ev.compRange (k := N) (by tm_at "glo") rfl (Evs.cons (Ev.name rfl rfl) Evs.nil rfl) (by omega) (ScopeOk.of rfl rfl rfl rfl) (fun _ => rfl) (fun k => some (V.s [letter (i : Int) k])) ?_) ?_) Evs.nil rfl) (MethV.join_s (by omega))) ?_
    · intro j hj C
      refine ⟨rfl, fun y hy => ?_⟩
      cases hy
      exact ev_letter (EvIx.val (ev_digit (b := 2) (by decide) (by omega) (Ev.name rfl rfl) (Ev.name rfl rfl)))
    · unfold letters; rw [List.map_map, List.filterMap_eq_map']; rfl
    have hco : (if turnedOf i then lev (letters (i : Int) N) w (boundOf i) else lev w (letters (i : Int) N) (boundOf i)) = costOf w N i := rfl
    have hk := k_cost (n := 52) H (b := boundOf i) (turned := turnedOf i) hwA hltA (by omega) (by omega)
    rw [hco] at hk
    refine WS.asg (y := .int (costOf w N i)) (by tm_at "var") (by tm_at "hx") (by rfl) (Ev.fn H (by tm_at "glo") (by kernel_rfl) rfl (Evs.cons (Ev.name rfl rfl) (Evs.cons (Ev.name rfl rfl) (Evs.cons (Ev.eq (Ev.binop Ev.int (Ev.binop (Ev.name rfl rfl) Ev.int (BinV.mod_int (by decide))) BinV.add_int) ?_) (Evs.cons (Ev.eq (Ev.cmp (Ev.binop (Ev.name rfl rfl) Ev.int (BinV.mod_int (by decide))) Ev.int CmpV.gt rfl) ?_) Evs.nil rfl) rfl) rfl) rfl) hk) ?_
    · unfold boundOf; rw [Int.fmod_eq_emod_of_nonneg _ (by decide)]
    · unfold turnedOf; rw [Int.fmod_eq_emod_of_nonneg _ (by decide)]
    clear hk hco
    have hh : holds (letters (i : Int) N) w = hit w N i := rfl
    generalize costOf w N i = co at hc1 hc2
    refine WS.if false (Tst.eq (y := (!true) || (decide (co < 2) || (((co == 2) != hit w N i) || false))) (Tst.bools (Tsts.or (Tst.not (Tst.val (Ev.isinst (by tm_at "glo") (by tm_at "glo") rfl (Ev.name rfl rfl) isinst_int_int) TruV.bool fun _ => rfl)) fun _ => Tsts.or ?_ fun _ => Tsts.or ?_ fun _ => Tsts.or_nil)) ?_) nofun (fun _ => ?_)
    · exact Tst.cmp (Ev.name rfl rfl) Ev.int CmpV.lt rfl
    · have hkh := k_holds (n := 54) H (text := letters (i : Int) N) (word := w) (by omega) (by omega)
      rw [hh] at hkh
      exact Tst.cmp (Ev.cmp (Ev.name rfl rfl) Ev.int CmpV.eq rfl) (Ev.fn H (by tm_at "glo") (by kernel_rfl) rfl (Evs.cons (Ev.name rfl rfl) (Evs.cons (Ev.name rfl rfl) Evs.nil rfl) rfl) hkh) CmpV.ne_bool rfl
    · rw [← hc2, decide_eq_false (by omega)]
      have : (co == 2) = decide (co = 2) := by rw [Bool.eq_iff_iff]; simp
      rw [this]; simp
    refine WS.if (hit w N i) (Tst.eq (Tst.cmp (Ev.name rfl rfl) Ev.int CmpV.eq rfl) (by rw [← hc2, Bool.eq_iff_iff]; simp)) (fun hv => ?_) (fun hv => ?_)
    · have l1 := layAll_le (m := false) (w := w) (N := N) i
      have l2 := layAll_le (m := true) (w := w) (N := N) i
      refine WS.asg (y := .list ((layAll false w N (i + 1)).map V.s)) (by tm_at "var") (by tm_at "hx") (by rfl) (Ev.eq (Ev.fn H (by tm_at "glo") (by kernel_rfl) rfl (Evs.cons (Ev.name rfl rfl) (Evs.cons (Ev.name rfl rfl) (Evs.cons Ev.bool Evs.nil rfl) rfl) rfl) (k_laid (n := 52) H (by omega))) ?_) ?_
      · rw [layAll, if_pos hv]
      refine WS.asg (y := .list ((layAll true w N (i + 1)).map V.s)) (by tm_at "var") (by tm_at "hx") (by rfl) (Ev.eq (Ev.fn H (by tm_at "glo") (by kernel_rfl) rfl (Evs.cons (Ev.name rfl rfl) (Evs.cons (Ev.name rfl rfl) (Evs.cons Ev.bool Evs.nil rfl) rfl) rfl) (k_laid (n := 52) H (by omega))) ?_) ?_
      · rw [layAll, if_pos hv]
      exact WS.nil (WS.nil ⟨rfl, has_cons rfl (has_cons rfl (has_cons rfl (has_cons rfl (has_cons rfl (has_cons rfl (has_cons rfl has_nil))))))⟩)
    · rw [layAll, layAll, if_neg (by rw [hv]; exact Bool.false_ne_true), if_neg (by rw [hv]; exact Bool.false_ne_true)]
      exact WS.nil ⟨rfl, has_cons rfl (has_cons rfl (has_cons rfl (has_cons rfl (has_cons rfl (has_cons rfl (has_cons rfl has_nil))))))⟩
  · rintro i ρ' own' ⟨rfl, _⟩ a ⟨z, ys, e⟩
    cases e
  · rintro ρ' own' ⟨rfl, hρ⟩
    rw [← O.eF, ← O.eB] at hρ
    exact ⟨rfl, hρ⟩
  rintro ρ' own' ⟨rfl, hρ⟩
  refine WS.canon hρ ?_
  clear hρ ρ'
  have lenF := O.lenF
  have lenB := O.lenB
  have memF : ∀ x ∈ F, x.length = N ∧ ∀ y ∈ x, y = 97 ∨ y = 98 := fun x hx => by rw [O.eF] at hx; exact layAll_mem _ x hx
  refine WS.if false (Tst.eq (Tst.cmp (Ev.call (by tm_at "glo") rfl rfl (Evs.cons (Ev.name rfl rfl) Evs.nil rfl) CallV.len_list) (Ev.binop (Ev.name rfl rfl) Ev.int BinV.add_int) CmpV.ne rfl) (by rw [List.length_map, lenF]; simp)) nofun (fun _ => ?_)
  refine WS.if false (Tst.eq (Tst.cmp (a := .list ((List.replicate N (1 : Int)).map V.int)) (b := .list ((List.replicate N (1 : Int)).map V.int)) (Ev.eq (Ev.compRange (k := N) (by tm_at "glo") rfl (Evs.cons (Ev.name rfl rfl) Evs.nil rfl) (by omega) (ScopeOk.of rfl rfl rfl rfl) (fun _ => rfl) (fun k => some (V.int (saidOf true (B.getD (k + 1) []) (B.getD k [])))) ?_) ?_) (Ev.eq (Ev.binop (Ev.list (Evs.cons Ev.int Evs.nil rfl) (Nat.le_of_ble_eq_true rfl)) (Ev.name rfl rfl) (BinV.mul_list (by omega) (by omega) (by simp; omega))) ?_) CmpV.ne_ints rfl) (by simp)) nofun (fun _ => ?_)
  · intro i hi C
    refine ⟨rfl, fun y hy => ?_⟩
    cases hy
    exact Ev.fn H (by tm_at "glo") (by kernel_rfl) rfl (Evs.cons (Ev.sub (Ev.name rfl rfl) (EvIx.val (Ev.eq (y' := .int ((i + 1 : Nat) : Int)) (Ev.binop (Ev.name rfl rfl) Ev.int BinV.add_int) rfl)) (SubV.texts_nat (by omega))) (Evs.cons (Ev.sub (Ev.name rfl rfl) (EvIx.val (Ev.name rfl rfl)) (SubV.texts_nat (by omega))) (Evs.cons Ev.bool Evs.nil rfl) rfl) rfl) (k_said (n := 53) H)
  · rw [← O.said1, List.map_map, List.filterMap_eq_map']; rfl
  · rw [flat_rep]; simp
  refine WS.asg (y := .int st) (by tm_at "var") (by tm_at "hx") (by rfl) (Ev.eq (Ev.binop (Ev.binop (d2 rfl) Ev.int (BinV.mod_int (by decide))) Ev.int BinV.sub_int) (by rw [hstd, Int.fmod_eq_emod_of_nonneg _ (by decide)])) ?_
  have hxw : ∀ k, x k = st + weigh (F.getD k []) mk := fun k => by rw [O.ex]
  have hmkl : mk.length = N + 1 := by rw [O.emk]; simp [marksOf]
  have hM := O.hM
  have getF : ∀ k, k ≤ N → (F.getD k []).length = N ∧ Ascii (F.getD k []) := fun k hk => by
    have hm : F.getD k [] ∈ F := by rw [List.getD_eq_getElem?_getD, List.getElem?_eq_getElem (show k < F.length by omega)]; exact List.getElem_mem _
    exact ⟨(memF _ hm).1, ascii_ab (memF _ hm).2⟩
  refine WS.asg (y := .list ((List.range (N + 1)).map fun k => V.tup [.int (x k / M), .int (x k % M)])) (by tm_at "var") (by tm_at "hx") (by rfl) (Ev.eq (Ev.compRange (k := N + 1) (by tm_at "glo") rfl (Evs.cons (Ev.binop (Ev.name rfl rfl) Ev.int BinV.add_int) Evs.nil rfl) (by omega) (ScopeOk.of rfl rfl rfl rfl) (fun _ => rfl) (fun k => some (V.tup [.int (x k / M), .int (x k % M)])) ?_) (by rw [List.filterMap_eq_map'])) ?_
  · intro i hi C
    refine ⟨rfl, fun y hy => ?_⟩
    cases hy
    have kt := k_turns (n := 0) H T (text := F.getD i []) (marks := mk) (start := st) (M := M) (turned := ((i : Int).fmod 2 == 1)) (by rw [(getF i (by omega)).1]; omega) (by omega) (by omega) (by rw [hmkl]; exact O.eM.symm) hM.1 hM.2 (by rw [← hxw]; have := O.hx i (by omega); omega)
    rw [← hxw] at kt
    exact Ev.fn H (by tm_at "glo") (by kernel_rfl) rfl (Evs.cons (Ev.sub (Ev.name rfl rfl) (EvIx.val (Ev.name rfl rfl)) (SubV.texts_nat (by omega))) (Evs.cons (Ev.name rfl rfl) (Evs.cons (Ev.name rfl rfl) (Evs.cons (Ev.cmp (Ev.binop (Ev.name rfl rfl) Ev.int (BinV.mod_int (by decide))) Ev.int CmpV.eq rfl) Evs.nil rfl) rfl) rfl) rfl) kt
  have hlay : ∀ l : List Nat, PyData.canLayAll0 (V.datas (l.map fun k => V.tup [.int (x k / M), .int (x k % M)])) = true ∧ (V.datas (l.map fun k => V.tup [.int (x k / M), .int (x k % M)])).any (fun y => PyData.eqv y (V.tup []).data) = false := fun l => by
    induction l with
    | nil => exact ⟨rfl, rfl⟩
    | cons a l ih => exact ⟨by rw [List.map_cons, V.datas, PyData.canLayAll0, ih.1]; rfl, by rw [List.map_cons, V.datas, List.any_cons, ih.2]; rfl⟩
  refine WS.if false (Tst.eq (Tst.cmp (Ev.tuple Evs.nil (Nat.zero_le _)) (Ev.name rfl rfl) (CmpV.in_list rfl (hlay _).1) rfl) (hlay _).2) nofun (fun _ => ?_)
  clear hlay
  have hbl : ∀ ch : Nat, (behind ch w S).length ≤ 4 := fun ch => by
    have : (behind ch w S).length ≤ (List.range w.length).length := List.length_filterMap_le _ _
    rw [List.length_range] at this; omega
  have evb : ∀ {env : Env} {C : Addr} {ρ : Mine.Frame} {p1 p2 p3 p4 p5 : Pos} {k1 : Nat} (ch : Nat) {cs : Str} {i : Nat}, cs = ⟨#[ch]⟩ → i < N - 1 → List.lookup (Str.ofString "word") ρ = some (V.s w) → List.lookup (Str.ofString "k") ρ = some (V.int (i : Int)) →
      Tst c 55 env ρ (.Compare (.Subscript (.Name (Str.ofString "word") p1) (.Name (Str.ofString "k") p2) p3) [.Eq] [.Constant (.str cs) k1 p4] p5) (if w.getD i 0 = ch then some (V.int (S.getD (i + 1) 0)) else none).isSome := fun {env C ρ p1 p2 p3 p4 p5 k1} ch {cs i} hcs hi hw1 hk1 => by
    refine Tst.eq (Tst.cmp (Ev.sub (Ev.name hw1 rfl) (EvIx.val (Ev.name hk1 rfl)) (SubV.s_nat (by omega))) (Ev.s (l := [ch]) hcs (Nat.le_of_ble_eq_true rfl)) CmpV.eq_s rfl) ?_
    by_cases h : w.getD i 0 = ch
    · rw [if_pos h, h]; simp
    · rw [if_neg h, decide_eq_false (fun q => h (List.cons.inj q).1)]; rfl
  have hmb : ∀ ch, ((List.range (N - 1)).filterMap fun k => if w.getD k 0 = ch then some (V.int (S.getD (k + 1) 0)) else none) = (behind ch w S).map V.int := fun ch => by
    unfold behind
    rw [List.map_filterMap, show N - 1 = w.length by omega]
    congr 1
    funext k
    split <;> rfl
  have els : ∀ {env : Env} {ρ : Mine.Frame} {p1 p2 p3 p4 p5 : Pos} {k1 : Nat} {ch i : Nat} {y : V}, i < N - 1 → (if w.getD i 0 = ch then some (V.int (S.getD (i + 1) 0)) else none) = some y → List.lookup (Str.ofString "sizes") ρ = some (V.list (S.map V.int)) → List.lookup (Str.ofString "k") ρ = some (V.int (i : Int)) →
      Ev c 55 env ρ (.Subscript (.Name (Str.ofString "sizes") p1) (.BinOp (.Name (Str.ofString "k") p2) .Add (.Constant (.int 1) k1 p3) p5) p4) y := fun {env ρ p1 p2 p3 p4 p5 k1 ch i y} hi hy h1 h2 => by
    split at hy
    · cases hy
      exact Ev.sub (Ev.name h1 rfl) (EvIx.val (Ev.eq (y' := .int ((i + 1 : Nat) : Int)) (Ev.binop (Ev.name h2 rfl) Ev.int BinV.add_int) rfl)) (SubV.ints_nat (by omega))
    · cases hy
  have hbbl : bb.length ≤ 4 := by rw [O.ebb]; exact hbl 98
  have hbal : ba.length ≤ 4 := by rw [O.eba]; exact hbl 97
  refine WS.asg (y := .list (bb.map V.int)) (by tm_at "var") (by tm_at "hx") (by rfl) (Ev.eq (Ev.compRange (k := N - 1) (by tm_at "glo") rfl (Evs.cons (Ev.eq (Ev.binop (Ev.name rfl rfl) Ev.int BinV.sub_int) ?_) Evs.nil rfl) (by omega) (ScopeOk.of rfl rfl rfl rfl) (fun _ => rfl) (fun k => if w.getD k 0 = 98 then some (V.int (S.getD (k + 1) 0)) else none) ?_) ?_) ?_
  · congr 1; omega
  · intro i hi C
    exact ⟨evb 98 (C := C) rfl hi rfl rfl, fun y hy => els hi hy rfl rfl⟩
  · rw [hmb, O.ebb]
  refine WS.cons (WX.asgRange (k := N - 1) (by tm_at "glo") rfl (Evs.cons (Ev.eq (Ev.binop (Ev.name rfl rfl) Ev.int BinV.sub_int) ?_) Evs.nil rfl) (by omega) (ScopeOk.of rfl rfl rfl rfl) (fun _ => rfl) (fun k => if w.getD k 0 = 97 then some (V.int (S.getD (k + 1) 0)) else none) ?_ (by tm_at "var") (by tm_at "hx") ?_)
  · congr 1; omega
  · intro i hi C
    exact ⟨evb 97 (C := C) rfl hi rfl rfl, fun y hy => els hi hy rfl rfl⟩
  show WS _ _ _ _ _ _ _
  rw [hmb, ← O.eba]
  clear hmb els evb hbl
  let lt : V → List Nat := fun v => match v with
    | .str s => s.cps.toList
    | _ => []
  refine WS.cons (WX.assignComp2 (xs1 := [V.s w, V.s (w.map up)]) (xs2 := F.map V.s) (f := fun a b => V.int (coll (lt b) (lt a))) ?_ ?_ (ScopeOk.of rfl rfl rfl rfl) (fun _ => rfl) (fun _ => rfl) rfl rfl ?_ ?_ (by tm_at "var") (by tm_at "hx") ?_)
  · exact It.list (Ev.list (Evs.cons (Ev.name rfl rfl) (Evs.cons (Ev.meth rfl rfl rfl (by simp) (Ev.name rfl rfl) Evs.nil (MethV.upper_s hwA (by omega))) Evs.nil rfl) rfl) (Nat.le_of_ble_eq_true rfl))
  · simp; omega
  · intro a ha C
    exact It.list (Ev.name rfl rfl)
  · intro a ha b hb C
    obtain ⟨t, ht, rfl⟩ := List.mem_map.mp hb
    rcases List.mem_cons.mp ha with rfl | ha
    · exact Ev.fn H (by tm_at "glo") (by kernel_rfl) rfl (Evs.cons (Ev.name rfl rfl) (Evs.cons (Ev.name rfl rfl) Evs.nil rfl) rfl) (k_strcoll (n := 54) H)
    · obtain rfl := List.mem_singleton.mp ha
      exact Ev.fn H (by tm_at "glo") (by kernel_rfl) rfl (Evs.cons (Ev.name rfl rfl) (Evs.cons (Ev.name rfl rfl) Evs.nil rfl) rfl) (k_strcoll (n := 54) H)
  show WS _ _ _ _ _ _ _
  have hsaid : ([V.s w, V.s (w.map up)].flatMap fun a => (F.map V.s).map ((fun a b => V.int (coll (lt b) (lt a))) a)) = (List.replicate bb.length (-1) ++ List.replicate (2 * N + 2 - bb.length) 1).map V.int := by
    rw [← O.said2]
    simp only [List.flatMap_cons, List.flatMap_nil, List.append_nil, List.map_append, List.map_map]
    rfl
  rw [hsaid]
  clear hsaid
  generalize hsd : List.replicate bb.length (-1 : Int) ++ List.replicate (2 * N + 2 - bb.length) (1 : Int) = said
  have hsdl : said.length = 2 * N + 2 := by rw [← hsd]; simp; omega
  refine WS.if false (Tst.eq (Tst.cmp (b := .list (said.map V.int)) (Ev.name rfl rfl) (Ev.eq (Ev.binop (a := .list ((List.replicate bb.length (-1 : Int)).map V.int)) (b := .list ((List.replicate (2 * N + 2 - bb.length) (1 : Int)).map V.int)) (Ev.eq (Ev.binop (a := .list [V.int (-1)]) (b := .int (bb.length : Int)) (Ev.list (Evs.cons (Ev.unary Ev.int UnV.neg) Evs.nil rfl) (Nat.le_of_ble_eq_true rfl)) (Ev.eq (Ev.call (by tm_at "glo") rfl rfl (Evs.cons (Ev.name rfl rfl) Evs.nil rfl) CallV.len_list) ?_) (BinV.mul_list (by omega) (by omega) ?_)) ?_)
      (Ev.eq (Ev.binop (a := .list [V.int 1]) (b := .int ((2 * N + 2 - bb.length : Nat) : Int)) (Ev.list (Evs.cons Ev.int Evs.nil rfl) (Nat.le_of_ble_eq_true rfl)) (Ev.eq (Ev.binop (Ev.binop (Ev.binop Ev.int (Ev.name rfl rfl) (BinV.mul_int (.inl (by decide)))) Ev.int BinV.add_int) (Ev.call (by tm_at "glo") rfl rfl (Evs.cons (Ev.name rfl rfl) Evs.nil rfl) CallV.len_list) BinV.sub_int) ?_) (BinV.mul_list (by omega) (by omega) ?_)) ?_) (BinV.add_list ?_)) ?_) CmpV.ne_ints rfl) (by simp)) nofun (fun _ => ?_)
  · rw [List.length_map]
  · simp only [List.length_cons, List.length_nil]; omega
  · rw [flat_rep]; simp
  · rw [List.length_map]; congr 1; omega
  · simp only [List.length_cons, List.length_nil]; omega
  · rw [flat_rep]; simp
  · simp only [List.length_map, List.length_replicate]; omega
  · rw [← List.map_append, ← hsd]
  have hlb : ∀ l : List Int, PyData.canLayAll0 (V.datas (l.map fun _ => V.bool false)) = true ∧ (V.datas (l.map fun _ => V.bool false)).any (fun y => PyData.eqv y (V.bool true).data) = false := fun l => by
    induction l with
    | nil => exact ⟨rfl, rfl⟩
    | cons a l ih => exact ⟨by rw [List.map_cons, V.datas, PyData.canLayAll0, ih.1]; rfl, by rw [List.map_cons, V.datas, List.any_cons, ih.2]; rfl⟩
  refine WS.if false (Tst.eq (Tst.cmp (b := .list (said.map fun _ => V.bool false)) Ev.bool (Ev.eq (Ev.compItems (is := said) (v := V.int) (It.list (Ev.name rfl rfl)) (by omega) (ScopeOk.of rfl rfl rfl rfl) (fun _ => rfl) (fun _ => some (V.bool false)) ?_) (by rw [List.filterMap_eq_map'])) (CmpV.in_list rfl (hlb _).1) rfl) (hlb _).2) nofun (fun _ => ?_)
  · intro i hi C
    refine ⟨rfl, fun y hy => ?_⟩
    cases hy
    exact Ev.isinst (by tm_at "glo") (by tm_at "glo") rfl (Ev.name rfl rfl) isinst_int_bool
  clear hlb
  have rest : ∀ {env : Env} {ρ : Mine.Frame} {e : Expr} {p1 p2 p3 p4 : Pos} {k1 : Nat} {k : Nat}, k ≤ N → List.lookup (Str.ofString "turns") ρ = some (V.list ((List.range (N + 1)).map fun k => V.tup [.int (x k / M), .int (x k % M)])) → Ev c 55 env ρ e (.int (k : Int)) → EvIx c 55 env ρ e (.val (.int (k : Int))) →
      Ev c 55 env ρ (.Subscript (.Subscript (.Name (Str.ofString "turns") p1) e p2) (.Constant (.int 1) k1 p3) p4) (.int (x k % M)) := fun {env ρ e p1 p2 p3 p4 k1 k} hk h1 h2 h3 =>
    Ev.sub (Ev.sub (Ev.name h1 rfl) h3 (SubV.eq (SubV.map_nat 0 (by simp; omega)) (by
      rw [List.getD_eq_getElem?_getD, List.getElem?_range (by omega)]; rfl))) (EvIx.val Ev.int) (SubV.tup (l := [V.int (x k / M), V.int (x k % M)]) (i := 1) (k := 1) rfl rfl (by decide) (by decide))
  have evM : ∀ {env : Env} {ρ : Mine.Frame} {p1 p2 p3 : Pos}, List.lookup (Str.ofString "marks") ρ = some (V.list (mk.map V.int)) → List.lookup (Str.ofString "n") ρ = some (V.int (N : Int)) → Ev c 55 env ρ (.Subscript (.Name (Str.ofString "marks") p1) (.Name (Str.ofString "n") p2) p3) (.int M) := fun h1 h2 =>
    Ev.sub (Ev.name h1 rfl) (EvIx.val (Ev.name h2 rfl)) (SubV.eq (SubV.ints_nat (by omega)) (by rw [O.eM]))
  have hfm : ∀ a : Int, a.fmod M = a % M := fun a => Int.fmod_eq_emod_of_nonneg _ (by omega)
  refine WS.cons (WX.asgItems (is := List.range N) (v := fun (k : Nat) => V.int ((k + 1 : Nat) : Int)) ?_ (by simp; omega) (ScopeOk.of rfl rfl rfl rfl) (fun _ => rfl) (fun k => some (V.int ((x k % M - x (k + 1) % M) % M))) ?_ (by tm_at "var") (by tm_at "hx") ?_)
  · have e1 : steps 1 1 ((N + 1 : Nat) - 1 : Int).toNat = (List.range N).map fun (k : Nat) => V.int ((k + 1 : Nat) : Int) := by
      rw [show ((N + 1 : Nat) - 1 : Int).toNat = N by omega]
      unfold steps
      refine List.map_congr_left fun i _ => ?_
      congr 1; omega
    rw [← e1]
    exact It.range2 (by tm_at "glo") rfl (Evs.cons Ev.int (Evs.cons (Ev.binop (Ev.name rfl rfl) Ev.int BinV.add_int) Evs.nil rfl) rfl) (by omega) (by omega)
  · intro i hi C
    have hi := List.mem_range.mp hi
    refine ⟨rfl, fun y hy => ?_⟩
    cases hy
    refine Ev.eq (Ev.binop (Ev.binop (rest (k := i) (by omega) rfl ?_ (EvIx.val ?_)) (rest (k := i + 1) (by omega) rfl (Ev.name rfl rfl) (EvIx.val (Ev.name rfl rfl))) BinV.sub_int) (evM rfl rfl) (BinV.mod_int (by omega))) (by rw [hfm])
    all_goals exact Ev.eq (Ev.binop (Ev.name rfl rfl) Ev.int BinV.sub_int) (by congr 1; omega)
  show WS _ _ _ _ _ _ _
  have edn : (List.range N).filterMap (fun k => some (V.int ((x k % M - x (k + 1) % M) % M))) = ((List.range N).map fun k => (x k % M - x (k + 1) % M) % M).map V.int := by
    rw [List.filterMap_eq_map', List.map_map]; rfl
  rw [edn]
  clear edn
  refine WS.asg (y := .list (((List.range N).map (fun k => (x k % M - x (k + 1) % M) % M) ++ [(x N % M - x 0 % M) % M]).map V.int)) (by tm_at "var") (by tm_at "hx") (by rfl) (Ev.eq (Ev.binop (b := .list [V.int ((x N % M - x 0 % M) % M)]) (Ev.name rfl rfl) (Ev.list (Evs.cons (Ev.eq (Ev.binop (Ev.binop (rest (k := N) (by omega) rfl (Ev.name rfl rfl) (EvIx.val (Ev.name rfl rfl))) (rest (k := 0) (by omega) rfl Ev.int (EvIx.val Ev.int)) BinV.sub_int) (evM rfl rfl) (BinV.mod_int (by omega))) (by rw [hfm])) Evs.nil rfl) (Nat.le_of_ble_eq_true rfl)) (BinV.add_list (by simp; omega))) (by rw [List.map_append]; rfl)) ?_
  rw [O.downs]
  have evS : ∀ {env : Env} {ρ : Mine.Frame} {e : Expr} {p1 p2 : Pos} {k : Nat}, k ≤ N → List.lookup (Str.ofString "sizes") ρ = some (V.list (S.map V.int)) → EvIx c 55 env ρ e (.val (.int (k : Int))) → Ev c 55 env ρ (.Subscript (.Name (Str.ofString "sizes") p1) e p2) (.int (S.getD k 0)) := fun hk h1 h2 =>
    Ev.sub (Ev.name h1 rfl) h2 (SubV.ints_nat (by omega))
  refine WS.if false (Tst.eq (Tst.cmp (b := .list ((bb ++ [S.getD N 0] ++ ba.reverse ++ [S.getD 0 0]).map V.int)) (Ev.name rfl rfl) (Ev.eq (Ev.binop (b := .list [V.int (S.getD 0 0)]) (Ev.binop (b := .list (ba.map V.int).reverse) (Ev.binop (b := .list [V.int (S.getD N 0)]) (Ev.name rfl rfl) (Ev.list (Evs.cons (evS (k := N) (by omega) rfl (EvIx.val (Ev.name rfl rfl))) Evs.nil rfl) (Nat.le_of_ble_eq_true rfl)) (BinV.add_list ?_)) (Ev.sub (Ev.name rfl rfl) (EvIx.slice EvPart.none EvPart.none (EvPart.some (Ev.unary Ev.int UnV.neg))) SubV.l_rev) (BinV.add_list ?_)) (Ev.list (Evs.cons (evS (k := 0) (by omega) rfl (EvIx.val Ev.int)) Evs.nil rfl) (Nat.le_of_ble_eq_true rfl)) (BinV.add_list ?_)) ?_) CmpV.ne_ints rfl) (by simp)) nofun (fun _ => ?_)
  · simp; omega
  · simp; omega
  · simp; omega
  · simp
  clear rest
  refine WS.asg (y := .list (((List.range (N + 1)).map x).map V.int)) (by tm_at "var") (by tm_at "hx") (by rfl) (Ev.eq (Ev.comp (outs := (List.range (N + 1)).map fun k => some (V.int (x k))) (It.list (Ev.name rfl rfl)) (by simp; omega) (ScopeOk.of rfl rfl rfl rfl) (All2.map fun k _ => ⟨[(Str.ofString "whole", .int (x k / M)), (Str.ofString "rest", .int (x k % M))], fun C => AsgC.pair rfl rfl (by decide) rfl, fun C => rfl, fun y hy C => ?_⟩)) ?_) ?_
  · cases hy
    have hq : (x k / M).natAbs < 2 ^ 64 ∨ M.natAbs < 2 ^ 64 := .inr (by omega)
    exact Ev.eq (Ev.binop (Ev.binop (evM rfl rfl) (Ev.name rfl rfl) (BinV.mul_int (by omega))) (Ev.name rfl rfl) BinV.add_int) (by rw [Int.mul_ediv_add_emod])
  · rw [List.filterMap_map, List.map_map]
    exact congrArg (fun f => V.list (f (List.range (N + 1)))) (List.filterMap_eq_map' (f := V.int ∘ x))
  have BF := O.BF
  refine WS.asg (y := .list (B.map fun t => V.int (F.idxOf t : Nat))) (by tm_at "var") (by tm_at "hx") (by rfl) (Ev.eq (Ev.compItems (is := B) (v := V.s) (It.list (Ev.name rfl rfl)) (by omega) (ScopeOk.of rfl rfl rfl rfl) (fun _ => rfl) (fun t => some (V.int (F.idxOf t : Nat))) ?_) (by rw [List.filterMap_eq_map'])) ?_
  · intro t ht C
    refine ⟨rfl, fun y hy => ?_⟩
    cases hy
    exact Ev.meth rfl rfl rfl (by simp) (Ev.name rfl rfl) (Evs.cons (Ev.name rfl rfl) Evs.nil rfl) (MethV.index_s (BF t ht) (by omega))
  have hpl : ∀ k, k ≤ N → pl k ≤ N := fun k hk => by
    rw [O.epl]
    have hm : B.getD k [] ∈ B := by rw [List.getD_eq_getElem?_getD, List.getElem?_eq_getElem (show k < B.length by omega)]; exact List.getElem_mem _
    have := List.idxOf_lt_length_iff.mpr (BF _ hm)
    show F.idxOf (B.getD k []) ≤ N
    omega
  have evP : ∀ {env : Env} {ρ : Mine.Frame} {e : Expr} {p1 p2 : Pos} {k : Nat}, k ≤ N → List.lookup (Str.ofString "places") ρ = some (V.list (B.map fun t => V.int (F.idxOf t : Nat))) → EvIx c 55 env ρ e (.val (.int (k : Int))) →
      Ev c 55 env ρ (.Subscript (.Name (Str.ofString "places") p1) e p2) (.int (pl k : Nat)) := fun hk h1 h2 =>
    Ev.sub (Ev.name h1 rfl) h2 (SubV.eq (SubV.map_nat [] (by omega)) (by rw [O.epl]))
  have evH : ∀ {env : Env} {ρ : Mine.Frame} {e : Expr} {p1 p2 : Pos} {k : Nat}, k ≤ N → List.lookup (Str.ofString "heights") ρ = some (V.list (((List.range (N + 1)).map x).map V.int)) → EvIx c 55 env ρ e (.val (.int (k : Int))) →
      Ev c 55 env ρ (.Subscript (.Name (Str.ofString "heights") p1) e p2) (.int (x k)) := fun {env ρ e p1 p2 k} hk h1 h2 =>
    Ev.sub (Ev.name h1 rfl) h2 (SubV.eq (SubV.ints_nat (by simp; omega)) (by
      rw [List.getD_eq_getElem?_getD, List.getElem?_map, List.getElem?_range (by omega)]; rfl))
  refine WS.cons (WX.asgRange (k := N) (by tm_at "glo") rfl (Evs.cons (Ev.name rfl rfl) Evs.nil rfl) (by omega) (ScopeOk.of rfl rfl rfl rfl) (fun _ => rfl) (fun k => some (V.int (x (pl (k + 1)) - x (pl k)))) ?_ (by tm_at "var") (by tm_at "hx") ?_)
  · intro i hi C
    refine ⟨rfl, fun y hy => ?_⟩
    cases hy
    exact Ev.binop (evH (hpl (i + 1) (by omega)) rfl (EvIx.val (evP (k := i + 1) (by omega) rfl (EvIx.val (Ev.eq (Ev.binop (Ev.name rfl rfl) Ev.int BinV.add_int) rfl))))) (evH (hpl i (by omega)) rfl (EvIx.val (evP (k := i) (by omega) rfl (EvIx.val (Ev.name rfl rfl))))) BinV.sub_int
  show WS _ _ _ _ _ _ _
  have eup : (List.range N).filterMap (fun k => some (V.int (x (pl (k + 1)) - x (pl k)))) = (bb.reverse ++ [S.getD 0 0] ++ ba).map V.int := by
    rw [← O.ups, List.filterMap_eq_map', List.map_map]; rfl
  rw [eup]
  clear eup
  refine WS.if false (Tst.eq (Tst.cmp (b := .list ((bb.reverse ++ [S.getD 0 0] ++ ba).map V.int)) (Ev.name rfl rfl) (Ev.eq (Ev.binop (b := .list (ba.map V.int)) (Ev.binop (a := .list (bb.map V.int).reverse) (b := .list [V.int (S.getD 0 0)]) (Ev.sub (Ev.name rfl rfl) (EvIx.slice EvPart.none EvPart.none (EvPart.some (Ev.unary Ev.int UnV.neg))) SubV.l_rev) (Ev.list (Evs.cons (evS (k := 0) (by omega) rfl (EvIx.val Ev.int)) Evs.nil rfl) (Nat.le_of_ble_eq_true rfl)) (BinV.add_list ?_)) (Ev.name rfl rfl) (BinV.add_list ?_)) ?_) CmpV.ne_ints rfl) (by simp)) nofun (fun _ => ?_)
  · simp; omega
  · simp; omega
  · simp
  refine WS.if false (Tst.eq (Tst.cmp (a := .list ((List.replicate (N + 1) (0 : Int)).map V.int)) (b := .list ((List.replicate (N + 1) (0 : Int)).map V.int)) (Ev.eq (Ev.compRange (k := N + 1) (by tm_at "glo") rfl (Evs.cons (Ev.binop (Ev.name rfl rfl) Ev.int BinV.add_int) Evs.nil rfl) (by omega) (ScopeOk.of rfl rfl rfl rfl) (fun _ => rfl) (fun k => some (V.int (((pl k : Int) + k - bb.length) % (N + 1)))) ?_) ?_) (Ev.eq (Ev.binop (b := .int ((N + 1 : Nat) : Int)) (Ev.list (Evs.cons Ev.int Evs.nil rfl) (Nat.le_of_ble_eq_true rfl)) (Ev.eq (Ev.binop (Ev.name rfl rfl) Ev.int BinV.add_int) rfl) (BinV.mul_list (by omega) (by omega) (by simp; omega))) ?_) CmpV.ne_ints rfl) (by simp)) nofun (fun _ => ?_)
  · intro i hi C
    refine ⟨rfl, fun y hy => ?_⟩
    cases hy
    exact Ev.eq (Ev.binop (Ev.binop (Ev.binop (evP (k := i) (by omega) rfl (EvIx.val (Ev.name rfl rfl))) (Ev.name rfl rfl) BinV.add_int) (Ev.call (by tm_at "glo") rfl rfl (Evs.cons (Ev.name rfl rfl) Evs.nil rfl) CallV.len_list) BinV.sub_int) (Ev.binop (Ev.name rfl rfl) Ev.int BinV.add_int) (BinV.mod_int (by omega))) (by rw [List.length_map, Int.fmod_eq_emod_of_nonneg _ (by omega)])
  · rw [← O.mods, List.map_map, List.filterMap_eq_map']; rfl
  · rw [flat_rep]; simp
  have kc := k_chords (n := 52) H (texts := F) (hs := (List.range (N + 1)).map x) (ms := mk.take N) (m := N) (by omega) (by simp; omega) (by omega) (fun i hi => getF i (by omega)) O.chL O.chP O.chS
  refine WS.return (Ev.eq (Ev.cmp (b := .list ((mk.take N).map V.int)) (Ev.fn H (by tm_at "glo") (by kernel_rfl) rfl (Evs.cons (Ev.name rfl rfl) (Evs.cons (Ev.name rfl rfl) Evs.nil rfl) rfl) kc) (Ev.eq (Ev.sub (Ev.name rfl rfl) (EvIx.slice EvPart.none (EvPart.some (Ev.name rfl rfl)) EvPart.none) SubV.l_upto) (by rw [List.map_take])) CmpV.eq_ints rfl) (by simp)) rfl
end

/-! the plain law, by counting -/
noncomputable def ind (t : List Nat) : List Int := t.map fun x => if x = 98 then 1 else 0
noncomputable def iv (t : List Nat) : List Int := ind t ++ [0]
noncomputable def dot : List Int → List Int → Int
  | a :: as, m :: ms => a * m + dot as ms
  | _, _ => 0
noncomputable def subv (a b : List Int) : List Int := List.zipWith (· - ·) a b
noncomputable def ev1 (L p : Nat) : List Int := (List.range L).map fun i => if i = p then 1 else 0
noncomputable def sv (L j : Nat) : List Int := (List.range L).map fun i => if i = j then 1 else if i + 1 = j then -1 else 0
noncomputable def bIdx (ch : Nat) (w : List Nat) : List Nat := (List.range w.length).filter fun k => w.getD k 0 = ch
noncomputable def DI (N : Nat) (w : List Nat) : List Nat := (bIdx 98 w).map (· + 1) ++ [N] ++ ((bIdx 97 w).map (· + 1)).reverse ++ [0]
noncomputable def UI (w : List Nat) : List Nat := ((bIdx 98 w).map (· + 1)).reverse ++ [0] ++ (bIdx 97 w).map (· + 1)

noncomputable def chkCost (N : Nat) (w : List Nat) : Bool := (List.range (2 ^ N)).all fun i => decide (2 ≤ costOf w N i) && (decide (costOf w N i = 2) == hit w N i)
noncomputable def isDown (N j : Nat) (d : List Int) : Bool := d == sv (N + 1) j || d == subv (sv (N + 1) j) (ev1 (N + 1) N)
noncomputable def chordPl (F : List (List Nat)) : List Nat := (List.range F.length).flatMap fun i => (List.range (i + 1)).flatMap fun j => if dueC (F.getD i []) (F.getD j []) = 2 then [(unlikeL (F.getD i []) (F.getD j [])).headD 0] else []
noncomputable def chkText (N : Nat) (w : List Nat) (F B : List (List Nat)) : Bool :=
  F.length == N + 1 && (B.length == N + 1 &&
  (decide ((List.range N).map (fun k => saidOf true (B.getD (k + 1) []) (B.getD k [])) = List.replicate N 1) &&
  (decide ([w, w.map up].flatMap (fun o => F.map fun t => coll t o) = List.replicate (bIdx 98 w).length (-1) ++ List.replicate (2 * N + 2 - (bIdx 98 w).length) 1) &&
  (B.all (fun t => F.contains t) &&
  decide ((List.range (N + 1)).map (fun k => ((F.idxOf (B.getD k []) : Int) + k - (bIdx 98 w).length) % (N + 1)) = List.replicate (N + 1) 0)))))
noncomputable def chkNum (N : Nat) (w : List Nat) (F B : List (List Nat)) : Bool :=
  (DI N w).length == N + 1 && ((List.range N).all (fun k => isDown N ((DI N w).getD k 0) (subv (iv (F.getD k [])) (iv (F.getD (k + 1) [])))) &&
  (isDown N ((DI N w).getD N 0) (subv (iv (F.getD N [])) (iv (F.getD 0 []))) &&
  ((UI w).length == N && (List.range N).all (fun k => subv (iv (F.getD (F.idxOf (B.getD (k + 1) [])) [])) (iv (F.getD (F.idxOf (B.getD k [])) [])) == sv (N + 1) ((UI w).getD k 0)))))
noncomputable def chkCh (N : Nat) (F : List (List Nat)) : Bool :=
  (List.range F.length).all (fun i => (List.range (i + 1)).all fun j =>
    lev (F.getD i []) (F.getD j []) (dueC (F.getD i []) (F.getD j []) + 0) == dueC (F.getD i []) (F.getD j []) && (lev (F.getD i []) (F.getD j []) (dueC (F.getD i []) (F.getD j []) + 1) == dueC (F.getD i []) (F.getD j []) &&
    (dueC (F.getD i []) (F.getD j []) != 2 || (subv (iv (F.getD i [])) (iv (F.getD j [])) == ev1 (N + 1) ((unlikeL (F.getD i []) (F.getD j [])).headD 0) || subv (iv (F.getD j [])) (iv (F.getD i [])) == ev1 (N + 1) ((unlikeL (F.getD i []) (F.getD j [])).headD 0))))) &&
  (chordPl F).isPerm (List.range N)
noncomputable def words : Nat → List (List Nat)
  | 0 => [[]]
  | k + 1 => (words k).flatMap fun r => [97 :: r, 98 :: r]
theorem cost4 : (words 3).all (chkCost 4) = true := by decide +kernel
theorem text4 : (words 3).all (fun w => chkText 4 w (layAll false w 4 16) (layAll true w 4 16)) = true := by decide +kernel
theorem num4 : (words 3).all (fun w => chkNum 4 w (layAll false w 4 16) (layAll true w 4 16)) = true := by decide +kernel
theorem ch4 : (words 3).all (fun w => chkCh 4 (layAll false w 4 16)) = true := by decide +kernel
theorem cost5 : (words 4).all (chkCost 5) = true := by decide +kernel
theorem text5 : (words 4).all (fun w => chkText 5 w (layAll false w 5 32) (layAll true w 5 32)) = true := by decide +kernel
theorem num5 : (words 4).all (fun w => chkNum 5 w (layAll false w 5 32) (layAll true w 5 32)) = true := by decide +kernel
theorem ch5 : (words 4).all (fun w => chkCh 5 (layAll false w 5 32)) = true := by decide +kernel

theorem words_mem : ∀ {k : Nat} {w : List Nat}, w ∈ words k → w.length = k ∧ ∀ x ∈ w, x = 97 ∨ x = 98
  | 0, w, h => by obtain rfl := List.mem_singleton.mp h; exact ⟨rfl, nofun⟩
  | k + 1, w, h => by
    obtain ⟨r, hr, h⟩ := List.mem_flatMap.mp h
    obtain ⟨h1, h2⟩ := words_mem hr
    rcases List.mem_cons.mp h with rfl | h
    · exact ⟨by simp [h1], fun x hx => by rcases List.mem_cons.mp hx with rfl | hx; exact .inl rfl; exact h2 x hx⟩
    · obtain rfl := List.mem_singleton.mp h
      exact ⟨by simp [h1], fun x hx => by rcases List.mem_cons.mp hx with rfl | hx; exact .inr rfl; exact h2 x hx⟩
theorem mem_words : ∀ {w : List Nat}, (∀ x ∈ w, x = 97 ∨ x = 98) → w ∈ words w.length
  | [], _ => List.mem_singleton.mpr rfl
  | x :: w, h => by
    refine List.mem_flatMap.mpr ⟨w, mem_words fun y hy => h y (by simp [hy]), ?_⟩
    rcases h x (by simp) with rfl | rfl <;> simp

theorem dot_nil : ∀ m, dot [] m = 0
  | [] => rfl
  | _ :: _ => rfl
theorem dot_pad : ∀ (a m : List Int), dot (a ++ [0]) m = dot a m
  | [], [] => rfl
  | [], m :: ms => by show 0 * m + dot [] ms = 0; rw [dot_nil]; omega
  | a :: as, [] => rfl
  | a :: as, m :: ms => by show a * m + dot (as ++ [0]) ms = a * m + dot as ms; rw [dot_pad as ms]
theorem dot_sub : ∀ (a b m : List Int), a.length = b.length → dot (subv a b) m = dot a m - dot b m
  | [], [], m, _ => by show dot [] m = dot [] m - dot [] m; rw [dot_nil]; rfl
  | a :: as, b :: bs, [], _ => rfl
  | a :: as, b :: bs, m :: ms, h => by
    show (a - b) * m + dot (subv as bs) ms = (a * m + dot as ms) - (b * m + dot bs ms)
    rw [dot_sub as bs ms (by simpa using h), Int.sub_mul]
    omega
theorem weigh_ind : ∀ (t : List Nat) (mk : List Int), t.length ≤ mk.length → weigh t mk = dot (ind t) mk
  | [], mk, _ => by rw [show ind [] = [] from rfl, dot_nil]; rfl
  | x :: t, m :: ms, h => by
    have ih := weigh_ind t ms (by simpa using h)
    unfold weigh at ih ⊢
    rw [List.length_cons, List.range_succ_eq_map, List.filterMap_cons]
    have e : (fun k => if (x :: t).getD k 0 = 98 then some ((m :: ms).getD k 0) else none) ∘ Nat.succ = fun k => if t.getD k 0 = 98 then some (ms.getD k 0) else none := by
      funext k; simp
    rw [List.filterMap_map, e]
    show _ = (if x = 98 then 1 else 0) * m + dot (ind t) ms
    rw [← ih]
    by_cases hx : x = 98
    · subst hx; simp
    · simp [hx]
theorem weigh_iv {t : List Nat} {mk : List Int} (h : t.length ≤ mk.length) : weigh t mk = dot (iv t) mk := by
  rw [weigh_ind t mk h, iv, dot_pad]
theorem dot_bound : ∀ (t : List Nat) (m : List Int), (∀ y ∈ m, 0 ≤ y ∧ y ≤ 50) → 0 ≤ dot (ind t) m ∧ dot (ind t) m ≤ 50 * t.length
  | [], m, _ => by rw [show ind [] = [] from rfl, dot_nil]; simp
  | x :: t, [], _ => by show 0 ≤ (0 : Int) ∧ (0 : Int) ≤ 50 * ((x :: t).length : Nat); omega
  | x :: t, y :: m, h => by
    have ih := dot_bound t m fun z hz => h z (by simp [hz])
    have hy := h y (by simp)
    show 0 ≤ (if x = 98 then 1 else 0) * y + dot (ind t) m ∧ (if x = 98 then 1 else 0) * y + dot (ind t) m ≤ 50 * ((t.length + 1 : Nat) : Int)
    split <;> omega

structure Marks (N : Nat) (S mk : List Int) : Prop where
  len : mk.length = N + 1
  dsv : ∀ j, j ≤ N → dot (sv (N + 1) j) mk = S.getD j 0
  dev : ∀ p, p ≤ N → dot (ev1 (N + 1) p) mk = mk.getD p 0
  big : ∀ j, j ≤ N → 0 ≤ S.getD j 0 ∧ S.getD j 0 < mk.getD N 0
  pos : ∀ p, p ≤ N → 0 < mk.getD p 0
  bnd : ∀ y ∈ mk, 0 ≤ y ∧ y ≤ 50
  inc : (mk.take N).Pairwise (· ≤ ·)
theorem marks4 {S : List Int} (hl : 5 ≤ S.length) (hb : ∀ x ∈ S, 1 ≤ x ∧ x ≤ 5) : Marks 4 S (marksOf S 4) := by
  obtain ⟨s0, S, rfl⟩ := List.exists_cons_of_length_pos (l := S) (by omega)
  obtain ⟨s1, S, rfl⟩ := List.exists_cons_of_length_pos (l := S) (by simp at hl; omega)
  obtain ⟨s2, S, rfl⟩ := List.exists_cons_of_length_pos (l := S) (by simp at hl; omega)
  obtain ⟨s3, S, rfl⟩ := List.exists_cons_of_length_pos (l := S) (by simp at hl; omega)
  obtain ⟨s4, S, rfl⟩ := List.exists_cons_of_length_pos (l := S) (by simp at hl; omega)
  have h0 := hb s0 (by simp)
  have h1 := hb s1 (by simp)
  have h2 := hb s2 (by simp)
  have h3 := hb s3 (by simp)
  have h4 := hb s4 (by simp)
  have e : marksOf (s0 :: s1 :: s2 :: s3 :: s4 :: S) 4 = [s0, s0 + s1, s0 + s1 + s2, s0 + s1 + s2 + s3, s0 + s1 + s2 + s3 + s4] := by
    simp [marksOf, List.range, List.range.loop]; omega
  rw [e]
  have five : ∀ j, j ≤ 4 → j = 0 ∨ j = 1 ∨ j = 2 ∨ j = 3 ∨ j = 4 := by omega
  constructor
  · rfl
  · intro j hj; rcases five j hj with rfl | rfl | rfl | rfl | rfl <;> simp [sv, dot, List.range, List.range.loop] <;> omega
  · intro j hj; rcases five j hj with rfl | rfl | rfl | rfl | rfl <;> simp [ev1, dot, List.range, List.range.loop]
  · intro j hj; rcases five j hj with rfl | rfl | rfl | rfl | rfl <;> simp <;> omega
  · intro j hj; rcases five j hj with rfl | rfl | rfl | rfl | rfl <;> simp <;> omega
  · intro y hy; simp at hy; omega
  · simp; omega
theorem marks5 {S : List Int} (hl : 6 ≤ S.length) (hb : ∀ x ∈ S, 1 ≤ x ∧ x ≤ 5) : Marks 5 S (marksOf S 5) := by
  obtain ⟨s0, S, rfl⟩ := List.exists_cons_of_length_pos (l := S) (by omega)
  obtain ⟨s1, S, rfl⟩ := List.exists_cons_of_length_pos (l := S) (by simp at hl; omega)
  obtain ⟨s2, S, rfl⟩ := List.exists_cons_of_length_pos (l := S) (by simp at hl; omega)
  obtain ⟨s3, S, rfl⟩ := List.exists_cons_of_length_pos (l := S) (by simp at hl; omega)
  obtain ⟨s4, S, rfl⟩ := List.exists_cons_of_length_pos (l := S) (by simp at hl; omega)
  obtain ⟨s5, S, rfl⟩ := List.exists_cons_of_length_pos (l := S) (by simp at hl; omega)
  have h0 := hb s0 (by simp)
  have h1 := hb s1 (by simp)
  have h2 := hb s2 (by simp)
  have h3 := hb s3 (by simp)
  have h4 := hb s4 (by simp)
  have h5 := hb s5 (by simp)
  have e : marksOf (s0 :: s1 :: s2 :: s3 :: s4 :: s5 :: S) 5 = [s0, s0 + s1, s0 + s1 + s2, s0 + s1 + s2 + s3, s0 + s1 + s2 + s3 + s4, s0 + s1 + s2 + s3 + s4 + s5] := by
    simp [marksOf, List.range, List.range.loop]; omega
  rw [e]
  have six : ∀ j, j ≤ 5 → j = 0 ∨ j = 1 ∨ j = 2 ∨ j = 3 ∨ j = 4 ∨ j = 5 := by omega
  constructor
  · rfl
  · intro j hj; rcases six j hj with rfl | rfl | rfl | rfl | rfl | rfl <;> simp [sv, dot, List.range, List.range.loop] <;> omega
  · intro j hj; rcases six j hj with rfl | rfl | rfl | rfl | rfl | rfl <;> simp [ev1, dot, List.range, List.range.loop]
  · intro j hj; rcases six j hj with rfl | rfl | rfl | rfl | rfl | rfl <;> simp <;> omega
  · intro j hj; rcases six j hj with rfl | rfl | rfl | rfl | rfl | rfl <;> simp <;> omega
  · intro y hy; simp at hy; omega
  · simp; omega

theorem iv_length (t : List Nat) : (iv t).length = t.length + 1 := by simp [iv, ind]
theorem down_of {N j : Nat} {S mk : List Int} (K : Marks N S mk) (hj : j ≤ N) {a b : List Nat} (ha : a.length = N) (hb : b.length = N) {st : Int} (h : isDown N j (subv (iv a) (iv b)) = true) :
    ((st + weigh a mk) % mk.getD N 0 - (st + weigh b mk) % mk.getD N 0) % mk.getD N 0 = S.getD j 0 := by
  have hl := K.len
  have hd := dot_sub (iv a) (iv b) mk (by rw [iv_length, iv_length, ha, hb])
  obtain ⟨b1, b2⟩ := K.big j hj
  rw [weigh_iv (by omega), weigh_iv (by omega), ← Int.sub_emod]
  have e : st + dot (iv a) mk - (st + dot (iv b) mk) = dot (subv (iv a) (iv b)) mk := by rw [hd]; omega
  rw [e]
  unfold isDown at h
  rcases Bool.or_eq_true_iff.mp h with h | h
  · rw [beq_iff_eq.mp h, K.dsv j hj]
    exact Int.emod_eq_of_lt b1 b2
  · rw [beq_iff_eq.mp h, dot_sub _ _ _ (by simp [sv, ev1]), K.dsv j hj, K.dev N (Nat.le_refl _)]
    have : S.getD j 0 - mk.getD N 0 = S.getD j 0 + mk.getD N 0 * (-1) := by omega
    rw [this, Int.add_mul_emod_self_left]
    exact Int.emod_eq_of_lt b1 b2
theorem behind_map (ch : Nat) (w : List Nat) (S : List Int) : behind ch w S = ((bIdx ch w).map (· + 1)).map fun j => S.getD j 0 := by
  unfold behind bIdx
  rw [List.map_map]
  generalize List.range w.length = r
  induction r with
  | nil => rfl
  | cons k r ih =>
    rw [List.filterMap_cons, List.filter_cons, ih]
    by_cases h : w.getD k 0 = ch
    · rw [if_pos h, if_pos (decide_eq_true h)]; rfl
    · rw [if_neg h, if_neg (by rw [decide_eq_true_eq]; exact h)]
theorem bIdx_lt {ch : Nat} {w : List Nat} : ∀ k ∈ bIdx ch w, k < w.length := fun k hk => List.mem_range.mp (List.mem_filter.mp hk).1
theorem range_getD {α β : Type} (f : α → β) (d : α) (l : List α) {n : Nat} (h : l.length = n) : (List.range n).map (fun k => f (l.getD k d)) = l.map f := by
  subst h
  refine List.ext_getElem (by simp) fun i h1 h2 => ?_
  simp at h1
  simp [List.getD_eq_getElem?_getD, h1]
theorem flatMap_cong {α β : Type} {f g : α → List β} : ∀ {l : List α}, (∀ x ∈ l, f x = g x) → l.flatMap f = l.flatMap g
  | [], _ => rfl
  | x :: l, h => by rw [List.flatMap_cons, List.flatMap_cons, h x (by simp), flatMap_cong fun y hy => h y (by simp [hy])]

theorem law_ok {N : Nat} (hN : 4 ≤ N ∧ N ≤ 5) {S : List Int} {w : List Nat} {st : Int} (hS : N + 1 ≤ S.length ∧ S.length ≤ 10) (hSb : ∀ x ∈ S, 1 ≤ x ∧ x ≤ 5) (hst : -999 ≤ st ∧ st ≤ 999) (hwl : w.length + 1 = N) (hwA : ∀ x ∈ w, x = 97 ∨ x = 98)
    (K : Marks N S (marksOf S N)) (c1 : chkCost N w = true) (c2 : chkText N w (layAll false w N (2 ^ N)) (layAll true w N (2 ^ N)) = true) (c3 : chkNum N w (layAll false w N (2 ^ N)) (layAll true w N (2 ^ N)) = true) (c4 : chkCh N (layAll false w N (2 ^ N)) = true) :
    LawOk N S w st (layAll false w N (2 ^ N)) (layAll true w N (2 ^ N)) (marksOf S N) ((marksOf S N).getD N 0) (fun k => st + weigh ((layAll false w N (2 ^ N)).getD k []) (marksOf S N)) (fun k => (layAll false w N (2 ^ N)).idxOf ((layAll true w N (2 ^ N)).getD k [])) (behind 98 w S) (behind 97 w S) := by
  have memF : ∀ x ∈ layAll false w N (2 ^ N), x.length = N ∧ ∀ y ∈ x, y = 97 ∨ y = 98 := fun x hx => layAll_mem _ x hx
  generalize hF : layAll false w N (2 ^ N) = F at *
  generalize hB : layAll true w N (2 ^ N) = B at *
  generalize hmk : marksOf S N = mk at *
  unfold chkText at c2
  simp only [Bool.and_eq_true, decide_eq_true_eq, beq_iff_eq] at c2
  obtain ⟨lenF, lenB, said1, said2, BF, mods⟩ := c2
  unfold chkNum at c3
  simp only [Bool.and_eq_true, beq_iff_eq] at c3
  obtain ⟨lenD, dn, dl, lenU, us⟩ := c3
  unfold chkCh at c4
  rw [Bool.and_eq_true] at c4
  obtain ⟨ch, cp⟩ := c4
  have getF : ∀ k, k ≤ N → (F.getD k []).length = N := fun k hk => by
    have hm : F.getD k [] ∈ F := by rw [List.getD_eq_getElem?_getD, List.getElem?_eq_getElem (show k < F.length by omega)]; exact List.getElem_mem _
    exact (memF _ hm).1
  have hl := K.len
  have eb := behind_map 98 w S
  have ea := behind_map 97 w S
  have ebl : (behind 98 w S).length = (bIdx 98 w).length := by rw [eb]; simp
  have hD : ∀ k, k < (DI N w).length → (DI N w).getD k 0 ≤ N := fun k hk => by
    have hm : (DI N w).getD k 0 ∈ DI N w := by rw [List.getD_eq_getElem?_getD, List.getElem?_eq_getElem hk]; exact List.getElem_mem _
    unfold DI at hm
    simp only [List.mem_append, List.mem_map, List.mem_reverse, List.mem_singleton] at hm
    rcases hm with ((⟨a, ha, e⟩ | e) | ⟨a, ha, e⟩) | e
    · have := bIdx_lt a ha; unfold DI; omega
    · unfold DI; omega
    · have := bIdx_lt a ha; unfold DI; omega
    · unfold DI; omega
  have hU : ∀ k, k < (UI w).length → (UI w).getD k 0 ≤ N := fun k hk => by
    have hm : (UI w).getD k 0 ∈ UI w := by rw [List.getD_eq_getElem?_getD, List.getElem?_eq_getElem hk]; exact List.getElem_mem _
    unfold UI at hm
    simp only [List.mem_append, List.mem_map, List.mem_reverse, List.mem_singleton] at hm
    rcases hm with (⟨a, ha, e⟩ | e) | ⟨a, ha, e⟩
    · have := bIdx_lt a ha; unfold UI; omega
    · unfold UI; omega
    · have := bIdx_lt a ha; unfold UI; omega
  have hpl : ∀ k, k ≤ N → F.idxOf (B.getD k []) ≤ N := fun k hk => by
    have hm : B.getD k [] ∈ B := by rw [List.getD_eq_getElem?_getD, List.getElem?_eq_getElem (show k < B.length by omega)]; exact List.getElem_mem _
    have := List.all_eq_true.mp BF _ hm
    have := List.idxOf_lt_length_iff.mpr (List.contains_iff_mem.mp this)
    omega
  constructor
  · exact hN
  · exact hwl
  · exact hwA
  · exact hS
  · exact hSb
  · exact hst
  · exact hF.symm
  · exact hB.symm
  · exact hmk.symm
  · rfl
  · rfl
  · rfl
  · rfl
  · rfl
  · intro i hi
    have := List.all_eq_true.mp c1 i (List.mem_range.mpr hi)
    rw [Bool.and_eq_true, decide_eq_true_eq, beq_iff_eq] at this
    exact this
  · exact lenF
  · exact lenB
  · exact said1
  · rw [ebl]; exact said2
  · have := K.big 0 (Nat.zero_le _)
    have hm : mk.getD N 0 ∈ mk := by rw [List.getD_eq_getElem?_getD, List.getElem?_eq_getElem (show N < mk.length by omega)]; exact List.getElem_mem _
    have := K.bnd _ hm
    omega
  · intro k hk
    have h1 := getF k hk
    have := dot_bound (F.getD k []) mk K.bnd
    rw [← weigh_ind _ mk (by omega), h1] at this
    show -(2 ^ 20) ≤ st + weigh (F.getD k []) mk ∧ st + weigh (F.getD k []) mk ≤ 2 ^ 20
    omega
  · have e1 : behind 98 w S ++ [S.getD N 0] ++ (behind 97 w S).reverse ++ [S.getD 0 0] = (DI N w).map fun j => S.getD j 0 := by
      rw [eb, ea]; unfold DI; simp only [List.map_append, List.map_reverse, List.map_cons, List.map_nil]
    rw [e1, ← range_getD (fun j => S.getD j 0) 0 (DI N w) lenD, List.range_succ, List.map_append]
    congr 1
    · refine List.map_congr_left fun k hk => ?_
      have hk := List.mem_range.mp hk
      exact down_of K (hD k (by omega)) (getF k (by omega)) (getF (k + 1) (by omega)) (List.all_eq_true.mp dn k (List.mem_range.mpr hk))
    · show [_] = [_]
      congr 1
      exact down_of K (hD N (by omega)) (getF N (by omega)) (getF 0 (by omega)) dl
  · intro t ht
    exact List.contains_iff_mem.mp (List.all_eq_true.mp BF t ht)
  · have e1 : (behind 98 w S).reverse ++ [S.getD 0 0] ++ behind 97 w S = (UI w).map fun j => S.getD j 0 := by
      rw [eb, ea]; unfold UI; simp only [List.map_append, List.map_reverse, List.map_cons, List.map_nil]
    rw [e1, ← range_getD (fun j => S.getD j 0) 0 (UI w) lenU]
    refine List.map_congr_left fun k hk => ?_
    have hk := List.mem_range.mp hk
    have h1 := getF _ (hpl (k + 1) (by omega))
    have h2 := getF _ (hpl k (by omega))
    have := List.all_eq_true.mp us k (List.mem_range.mpr hk)
    have hd := dot_sub (iv (F.getD (F.idxOf (B.getD (k + 1) [])) [])) (iv (F.getD (F.idxOf (B.getD k [])) [])) mk (by rw [iv_length, iv_length, h1, h2])
    rw [beq_iff_eq.mp this, K.dsv _ (hU k (by omega)), ← weigh_iv (by omega), ← weigh_iv (by omega)] at hd
    rw [hd]; omega
  · rw [ebl]; exact mods
  · intro i j hj hi e he
    have := List.all_eq_true.mp (List.all_eq_true.mp ch i (List.mem_range.mpr hi)) j (List.mem_range.mpr (by omega))
    simp only [Bool.and_eq_true, beq_iff_eq] at this
    rcases he with rfl | rfl
    · exact this.1
    · exact this.2.1
  · have e1 : chordAll F ((List.range (N + 1)).map fun k => st + weigh (F.getD k []) mk) F.length = (chordPl F).map fun p => mk.getD p 0 := by
      unfold chordAll chordPl
      rw [List.map_flatMap]
      refine flatMap_cong fun i hi => ?_
      have hi := List.mem_range.mp hi
      unfold chordRow
      rw [List.map_flatMap]
      refine flatMap_cong fun j hj => ?_
      have hj := List.mem_range.mp hj
      have h := List.all_eq_true.mp (List.all_eq_true.mp ch i (List.mem_range.mpr hi)) j (List.mem_range.mpr (by omega))
      simp only [Bool.and_eq_true, beq_iff_eq, Bool.or_eq_true, bne_iff_ne, ne_eq] at h
      unfold chordOne
      by_cases hd : dueC (F.getD i []) (F.getD j []) = 2
      · rw [if_pos hd, if_pos hd, List.map_cons, List.map_nil]
        have hp : (unlikeL (F.getD i []) (F.getD j [])).headD 0 < N := by
          have : (unlikeL (F.getD i []) (F.getD j [])).headD 0 ∈ chordPl F := by
            unfold chordPl
            refine List.mem_flatMap.mpr ⟨i, List.mem_range.mpr hi, List.mem_flatMap.mpr ⟨j, List.mem_range.mpr hj, ?_⟩⟩
            rw [if_pos hd]; simp
          exact List.mem_range.mp ((List.isPerm_iff.mp cp).mem_iff.mp this)
        have gx : ∀ k, k ≤ N → ((List.range (N + 1)).map fun k => st + weigh (F.getD k []) mk).getD k 0 = st + weigh (F.getD k []) mk := fun k hk => by
          rw [List.getD_eq_getElem?_getD, List.getElem?_map, List.getElem?_range (by omega)]; rfl
        rw [gx i (by omega), gx j (by omega)]
        have l1 := getF i (by omega)
        have l2 := getF j (by omega)
        have d1 := dot_sub (iv (F.getD i [])) (iv (F.getD j [])) mk (by rw [iv_length, iv_length, l1, l2])
        have d2 := dot_sub (iv (F.getD j [])) (iv (F.getD i [])) mk (by rw [iv_length, iv_length, l1, l2])
        rw [← weigh_iv (by omega), ← weigh_iv (by omega)] at d1 d2
        have hpos := K.pos _ (Nat.le_of_lt hp)
        have hdev := K.dev _ (Nat.le_of_lt hp)
        rcases h.2.2 with h3 | h3
        · exact absurd hd h3
        · rcases h3 with h3 | h3
          · rw [h3, hdev] at d1
            rw [if_neg (by omega)]
            congr 1; omega
          · rw [h3, hdev] at d2
            rw [if_pos (by omega)]
            congr 1; omega
      · rw [if_neg hd, if_neg hd]; rfl
    rw [e1]
    have e2 : mk.take N = (List.range N).map fun p => mk.getD p 0 := by
      refine List.ext_getElem (by simp; omega) fun i h1 h2 => ?_
      have h3 : i < mk.length := by simp at h1; omega
      simp [List.getD_eq_getElem?_getD, h3]
    rw [e2]
    exact ((List.isPerm_iff.mp cp).map _).symm
  · exact K.inc

theorem law_all (ns : List Int) {N : Nat} (eN : N = if ns.length < 4 then 4 else 5) : ∃ F B mk M x pl bb ba, LawOk N (dueOf (sizeOf N ns) (drawOf [2702, 5, 850] ns 2)) (letters (drawOf [2702, 5, 850] ns 1) (N - 1)) (drawOf [2702, 5, 850] ns 2 % 1999 - 999) F B mk M x pl bb ba := by
  have hN : N = 4 ∨ N = 5 := by subst eN; split <;> simp
  generalize drawOf [2702, 5, 850] ns 2 = d
  have hms : (sizeOf N ns).length = N + 1 := by simp [sizeOf]
  have hmb : ∀ z ∈ sizeOf N ns, 1 ≤ z ∧ z ≤ 5 := fun z hz => by
    obtain ⟨k, _, rfl⟩ := List.mem_map.mp hz
    have h1 := Int.emod_nonneg (drawOf [2702, 5, 850] ns 0 / 5 ^ k) (show (5 : Int) ≠ 0 by decide)
    have h2 := Int.emod_lt_of_pos (drawOf [2702, 5, 850] ns 0 / 5 ^ k) (show (0 : Int) < 5 by decide)
    omega
  have hS : N + 1 ≤ (dueOf (sizeOf N ns) d).length ∧ (dueOf (sizeOf N ns) d).length ≤ 10 := by
    unfold dueOf
    split
    · simp only [List.length_append, List.length_replicate, List.length_take, hms]; omega
    · omega
  have hSb : ∀ z ∈ dueOf (sizeOf N ns) d, 1 ≤ z ∧ z ≤ 5 := by
    unfold dueOf
    split
    · intro z hz
      rcases List.mem_append.mp hz with hz | hz
      · exact hmb z (List.mem_of_mem_take hz)
      · obtain ⟨_, rfl⟩ := List.mem_replicate.mp hz
        refine hmb _ (List.mem_of_mem_take (i := (d / 3 % ((sizeOf N ns).length : Int)).toNat + 1) ?_)
        have hl : 0 < ((sizeOf N ns).take ((d / 3 % ((sizeOf N ns).length : Int)).toNat + 1)).length := by rw [List.length_take, hms]; omega
        rw [List.getD_eq_getElem?_getD, List.getElem?_eq_getElem (by omega)]
        exact List.getElem_mem _
    · exact hmb
  have hw : letters (drawOf [2702, 5, 850] ns 1) (N - 1) ∈ words (N - 1) := by
    have := mem_words (letters_ab (d := drawOf [2702, 5, 850] ns 1) (m := N - 1))
    rwa [letters_length] at this
  have hwl : (letters (drawOf [2702, 5, 850] ns 1) (N - 1)).length + 1 = N := by rw [letters_length]; omega
  have hst : -999 ≤ d % 1999 - 999 ∧ d % 1999 - 999 ≤ 999 := by omega
  refine ⟨_, _, _, _, _, _, _, _, law_ok (by omega) hS hSb hst hwl letters_ab ?_ ?_ ?_ ?_ ?_⟩ <;> (clear eN hms hmb hwl; rcases hN with rfl | rfl)
  · exact marks4 (by omega) hSb
  · exact marks5 (by omega) hSb
  · exact List.all_eq_true.mp cost4 _ hw
  · exact List.all_eq_true.mp cost5 _ hw
  · exact List.all_eq_true.mp text4 _ hw
  · exact List.all_eq_true.mp text5 _ hw
  · exact List.all_eq_true.mp num4 _ hw
  · exact List.all_eq_true.mp num5 _ hw
  · exact List.all_eq_true.mp ch4 _ hw
  · exact List.all_eq_true.mp ch5 _ hw
section
variable {c : Cx} {P : Params}
theorem k_final (H : Cok c (KK P)) (T : Tabs c) (ns : List Int) (hns : ns.length ≤ 63) : CallV c 56 (.ref 148) [.list (ns.map V.int)] (.bool true) := by
  obtain ⟨N, eN⟩ : ∃ N, N = if ns.length < 4 then 4 else 5 := ⟨_, rfl⟩
  obtain ⟨F, B, mk, M, x, pl, bb, ba, O⟩ := law_all ns eN
  exact k_law H T hns eN O
end

end Mine
namespace Mine
theorem good_of {c : Cx} {s₁ s' : Shared} {cw : ClaimW} {cl : Str → Option Addr} {mean : ExcName → Option Value} {args : List WData} (I : Inv c s₁) (st : Step c s₁ s') (h0 : ∀ t ∈ c.tabs, s₁.heap.get? t.P = some (tabObj #[]))
    (hr : ∀ cls, cw.raises args cls = false) (hp : cw.post args (.bool true) args = true) : GoodWG cw cl mean args s₁ (.ok (.ret (.bool true))) s' := by
  refine ⟨.inl ⟨_, .bool true, [], rfl, hr, .bool true, hp, fun _ => ⟨List.nodup_nil, nofun⟩⟩, ⟨fun b o e => ?_, fun b o e => st.stay b o e⟩, st.os, st.inv.gens⟩
  by_cases hb : ∃ t ∈ c.tabs, b = t.P
  · obtain ⟨t, ht, rfl⟩ := hb
    obtain ⟨hc, ps, e', _⟩ := I.tab t ht
    obtain ⟨_, ps', e2, _⟩ := st.inv.tab t ht
    rw [h0 t ht] at e
    cases e
    exact .inr (.inl ⟨(hc.tab (h0 t ht)).isCodeTable, rfl, #[], ps', rfl, by rw [Array.empty_append]; exact e2⟩)
  · exact .inl (st.old b o e fun t ht q => hb ⟨t, ht, q⟩)
theorem cok_of {c : Cx} {K : Frag} {h : Heap} (hK : c.K = K) (X : K.In h) (g : h.Ns mainGlobals c.mg) : Cok c K := ⟨hK, fun x v e => by
  cases v with
  | some v => exact mg_of X g e
  | none => exact ns_none_of X g e⟩
theorem well_list {P : Params} {h : Heap} {a : Addr} {vs : List Value} {ns : List Int} (w : Well P h (.ref a) (ofPy (.list (ns.map PyData.int)))) (hl : h.IsList a vs.toArray) : h.PlainList a vs.toArray := by
  unfold ofPy at w
  cases w with
  | list e _ =>
    obtain ⟨o, e', hc, n, hd⟩ := hl
    rw [e] at e'
    cases e'
    cases hd
    exact ⟨_, e⟩
theorem noTabs_K (P : Params) : noTabs (KK P) = true := by kernel_rfl
/-- the text without its names of modules -/
noncomputable def view : Program := { PySem.Challenge.pw_sc0069_02 with main := { PySem.Challenge.pw_sc0069_02.main with body := [1, 2, 3, 4, 5, 7, 8, 9, 10, 11, 12, 13, 15, 16, 17, 19, 20, 21, 22, 23, 24, 25, 26, 27, 28].filterMap fun i => (PySem.Challenge.pw_sc0069_02.main.body.drop i).head? } }
noncomputable def asK : List Addr := [3, 20, 21, 27, 28, 34, 35, 41, 42, 48, 49, 55, 56, 62, 63, 69, 70, 76, 77, 83, 84, 90, 91, 97, 98, 104, 105, 111, 112, 118, 119, 125, 126, 132, 133, 137, 138, 142, 143, 147, 148]
theorem asK_is (P : Params) : asK = (KK P).map (·.1) := by kernel_rfl
noncomputable abbrev hook : Hook := kmHook KK asK asK_is [51, 44]
noncomputable abbrev rowW : RowW := OpenRow.toRowW PySem.Challenge.rw_sc0069_02.row
theorem look : PySem.Challenge.rw_sc0069_02.wellSaid = true := by
  unfold OpenLaw.wellSaid OpenRow.wellSaid OpenRow.partSaid looksOpen
  simp only [Bool.and_eq_true, and_assoc]
  repeat' (with_reducible refine And.intro ?_ ?_)
  all_goals decide +kernel
theorem left : LeftO PySem.Challenge.rw_sc0069_02.row.prog view [] (fun s => xlAt view [] s && recOk (RowW.records rowW) s) (Hook.obs hook) (Hook.val hook) 1570 := by
  intro w
  kernel_rfl
theorem join (k : ∀ {c : Cx} {P : Params}, Cok c (KK P) → Tabs c → ∀ ns : List Int, ns.length ≤ 63 → CallV c 56 (.ref 148) [.list (ns.map V.int)] (.bool true)) : PySem.Challenge.rw_sc0069_02.Holds := by
  refine holds_law look fun said => ?_
  refine holds_open (q := view) (loose := []) (Xt := fun s => xlAt view [] s && recOk (RowW.records rowW) s) (XP := XL view []) (Yf := Hook.obs hook) (Ya := Hook.val hook) (YP := Hook.says hook) (N := 1570) left (Hook.of hook) (Hook.keeps hook) (fun s e => xl_of s (Bool.and_eq_true_iff.mp e).1) XL.keeps (by rfl) (by rfl) (by rfl) (fun s e => recFacts_of (Bool.and_eq_true_iff.mp e).2) (by rfl) (by assumption) (by decide +kernel) ⟨rfl, rfl, rfl, rfl, rfl, by decide +kernel⟩ ?hw ?hc
  case hw => w_witness2
  intro w s₀ s₁ mg mb G Y fa o pm cd doc dV kV ho hd' hcd hD hmg hg args vals as hpre hlay hrd hwl hlo
  have KX := km_in_of Y
  km_tabs Y
  clear hd' hcd hD
  refine Ground.open G ?_
  intro T B D TE TW
  wrow_args hpre hlay hrd hwl hlo
  rename s₁.heap.IsList _ _ => hL
  rename IntsAre _ _ => hI
  rename Well _ _ _ _ => hW
  rename_i hlen _
  have hfa := (mg_of KX T.g (show nsIn (KK w.params) mainGlobals "law" = some (some (.ref 148)) by kernel_rfl)).symm.trans hmg
  cases hfa
  let c : Cx := ⟨PySem.Challenge.rw_sc0069_02.row.prog, w, KK w.params, mg, mb, [tabD, tabI], noTabs_K _, T.builtins⟩
  have I : Inv c s₁ := {
    k := KX
    g := T.g
    b := T.b
    nl := T.nolimit
    gens := .of_eq hg
    tab := List.forall_mem_cons.mpr ⟨⟨codeHd_of_K (c := 55) (P := 51) KX (by kernel_rfl), #[], hT8 51 (by k_mem), .inl rfl⟩, List.forall_mem_cons.mpr ⟨⟨codeHd_of_K (c := 48) (P := 44) KX (by kernel_rfl), #[], hT8 44 (by k_mem), .inl rfl⟩, nofun⟩⟩
    bmain := T.bmain }
  rename List Int => ns
  have hns : ns.length ≤ 63 := by omega
  have hr := ints_reps (P := fun _ => True) (h := s₁.heap) hI
  have rp : Reps (fun _ => True) s₁.heap [V.list (ns.map V.int)] [Value.ref _] := Reps.cons (by unfold Rep; exact ⟨_, _, rfl, trivial, well_list hW hL, by rw [hr.length, List.length_map]; have hlm : lim = 1048576 := rfl; omega, hr⟩) Reps.nil
  refine wpAny_mono ((k (c := c) (P := w.params) (cok_of rfl KX T.g) ⟨rfl⟩ ns hns).run (fun _ => True) callerA _ s₁ _ ⟨⟨rfl, by decide, by decide⟩, I, fun _ _ => trivial⟩ rp) (fun v s' hv => ?_) fun _ _ e => e
  · obtain ⟨r, st⟩ := hv
    obtain rfl := r.bool_inv
    exact good_of I st (List.forall_mem_cons.mpr ⟨hT8 51 (by k_mem), List.forall_mem_cons.mpr ⟨hT8 44 (by k_mem), nofun⟩⟩) (fun _ => rfl) (by wrow_post)

end Mine
theorem PySem.Challenge.cw_sc0069_02_holds : PySem.Challenge.rw_sc0069_02.Holds :=
  Mine.join fun H T ns h => Mine.k_final H T ns h
