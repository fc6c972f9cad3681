import PyProof.Rows.All
import Wide.All
import OpenK.AllK
import Wide.FinOn
import Lean
import PySem.Challenge.RW_pm0018_01
open PySem PySem.W PyProof.Rows PySem.Calls PySem.Spec
set_option Elab.async false
namespace Mine
set_option maxRecDepth 100000 in
set_option maxHeartbeats 8000000 in
open_top hd for PySem.Challenge.rw_pm0018_01
set_option maxRecDepth 100000
set_option maxHeartbeats 1000000
set_option linter.unusedVariables false
noncomputable section
/- part F1 -/

abbrev PR : Program := PySem.Challenge.rw_pm0018_01.row.prog

/-- the room of a call: no exception is being handled, d calls more may be entered -/
structure Rm (d : Nat) (A : Around) : Prop where
  hh : A.handled = none
  dp : A.depth + d < 900
  un : A.units + 4 * d < 9000

theorem Rm.deeper {d : Nat} {A : Around} (r : Rm (d + 1) A) (env : Env) : Rm d (A.deeper env) :=
  ⟨r.hh, (show A.depth + 1 + d < 900 from (Nat.add_right_comm A.depth 1 d).symm ▸ r.dp), (show A.units + 3 + 4 * d < 9000 from Nat.lt_of_le_of_lt (Nat.add_assoc A.units 3 (4 * d) ▸ Nat.add_le_add_left (Nat.add_comm 3 (4 * d) ▸ Nat.add_le_add_left (show 3 ≤ 4 by decide) (4 * d)) A.units) r.un)⟩
theorem Rm.le {d e : Nat} {A : Around} (r : Rm d A) (h : e ≤ d) : Rm e A := ⟨r.hh, Nat.lt_of_le_of_lt (Nat.add_le_add_left h _) r.dp, Nat.lt_of_le_of_lt (Nat.add_le_add_left (Nat.mul_le_mul_left 4 h) _) r.un⟩
theorem Rm.line {d : Nat} {A : Around} (r : Rm d A) : A.units + 64 < cLine := by have := r.un; have := cLine_is; omega
theorem Rm.depth {d : Nat} {A : Around} (r : Rm d A) : A.depth < recursionLimit := Nat.lt_trans (Nat.lt_of_le_of_lt (Nat.le_add_right _ _) r.dp) (show 900 < 1000 by decide)

/-- what a heap keeps of another's lists and tuples -/
noncomputable def KSeq (h h' : Heap) : Prop := ∀ b o xs n, h.get? b = some o → o.data = .seq xs n → h'.get? b = some o
mutual
/-- a datum at a value: its lists and tuples are plain objects -/
inductive Rep (h : Heap) : PyData → Value → Prop
  | none : Rep h .none .none
  | bool (b) : Rep h (.bool b) (.bool b)
  | int (i t) : Rep h (.int i) (.int i t)
  | str (x t) : Rep h (.str x) (.str x t)
  | list {a vs n xs} : h.get? a = some { cls := .type "list", data := .seq vs n } → Reps h xs vs.toList → Rep h (.list xs) (.ref a)
  | tuple {a vs n xs} : h.get? a = some { cls := .type "tuple", data := .seq vs n } → Reps h xs vs.toList → Rep h (.tuple xs) (.ref a)
inductive Reps (h : Heap) : List PyData → List Value → Prop
  | nil : Reps h [] []
  | cons {d v ds vs} : Rep h d v → Reps h ds vs → Reps h (d :: ds) (v :: vs)
end
theorem Rep.kseq {h h' : Heap} (hk : KSeq h h') {d : PyData} {v : Value} (r : Rep h d v) : Rep h' d v :=
  Rep.rec (motive_1 := fun d v _ => Rep h' d v) (motive_2 := fun ds vs _ => Reps h' ds vs) .none .bool .int .str (fun h1 _ ih => .list (hk _ _ _ _ h1 rfl) ih) (fun h1 _ ih => .tuple (hk _ _ _ _ h1 rfl) ih) .nil (fun _ _ a b => .cons a b) r
theorem Reps.kseq {h h' : Heap} (hk : KSeq h h') {ds : List PyData} {vs : List Value} (r : Reps h ds vs) : Reps h' ds vs :=
  Reps.rec (motive_1 := fun d v _ => Rep h' d v) (motive_2 := fun ds vs _ => Reps h' ds vs) .none .bool .int .str (fun h1 _ ih => .list (hk _ _ _ _ h1 rfl) ih) (fun h1 _ ih => .tuple (hk _ _ _ _ h1 rfl) ih) .nil (fun _ _ a b => .cons a b) r
theorem Rep.reads {h : Heap} {d : PyData} {v : Value} (r : Rep h d v) : ∃ as, Reads h v d as :=
  Rep.rec (motive_1 := fun d v _ => ∃ as, Reads h v d as) (motive_2 := fun ds vs _ => ∃ as, ReadsAll h vs ds as) ⟨_, .none⟩ (fun b => ⟨_, .bool b⟩) (fun i t => ⟨_, .int i t⟩) (fun x t => ⟨_, .str x t⟩) (fun h1 _ ih => ih.elim fun _ q => ⟨_, .list h1 rfl rfl q⟩) (fun h1 _ ih => ih.elim fun _ q => ⟨_, .tuple h1 rfl rfl q⟩) ⟨_, .nil⟩ (fun _ _ a b => a.elim fun _ p => b.elim fun _ q => ⟨_, .cons p q⟩) r
theorem Reps.reads {h : Heap} {ds : List PyData} {vs : List Value} (r : Reps h ds vs) : ∃ as, ReadsAll h vs ds as := by
  induction ds generalizing vs with
  | nil => cases r; exact ⟨_, .nil⟩
  | cons d ds ih =>
    cases r with
    | cons a b => exact a.reads.elim fun _ p => (ih b).elim fun _ q => ⟨_, .cons p q⟩
noncomputable def PlainTup (h : Heap) (a : Addr) (vs : Array Value) : Prop := ∃ n, h.get? a = some { cls := .type "tuple", data := .seq vs n }
theorem PlainTup.isTup {h : Heap} {a : Addr} {vs : Array Value} (x : PlainTup h a vs) : IsTup h a vs := let ⟨n, e⟩ := x; ⟨_, e, rfl, n, rfl⟩

section
variable {h h' : Heap} {d : PyData} {ds : List PyData} {v : Value} {vs : List Value}
theorem kseq_of (k : ∀ b o, h.get? b = some o → h'.get? b = some o) : KSeq h h' := fun b o _ _ e _ => k b o e
theorem Rep.keeps (r : Rep h d v) (k : ∀ b o, h.get? b = some o → h'.get? b = some o) : Rep h' d v := r.kseq (kseq_of k)
theorem Reps.keeps (r : Reps h ds vs) (k : ∀ b o, h.get? b = some o → h'.get? b = some o) : Reps h' ds vs := r.kseq (kseq_of k)
theorem Rep.int_inv {i : Int} (r : Rep h (.int i) v) : ∃ t, v = .int i t := by cases r; exact ⟨_, rfl⟩
theorem Rep.str_inv {x : Str} (r : Rep h (.str x) v) : ∃ t, v = .str x t := by cases r; exact ⟨_, rfl⟩
theorem Rep.bool_inv {b : Bool} (r : Rep h (.bool b) v) : v = .bool b := by cases r; rfl
theorem Rep.list_inv {xs : List PyData} (r : Rep h (.list xs) v) : ∃ a vs, v = .ref a ∧ h.PlainList a vs ∧ Reps h xs vs.toList := by
  cases r with
  | list h1 h2 => exact ⟨_, _, rfl, ⟨_, h1⟩, h2⟩
theorem Rep.tuple_inv {xs : List PyData} (r : Rep h (.tuple xs) v) : ∃ a vs, v = .ref a ∧ PlainTup h a vs ∧ Reps h xs vs.toList := by
  cases r with
  | tuple h1 h2 => exact ⟨_, _, rfl, ⟨_, h1⟩, h2⟩
theorem Rep.list_of {xs : List PyData} {a : Addr} {vs : Array Value} (l : h.PlainList a vs) (r : Reps h xs vs.toList) : Rep h (.list xs) (.ref a) := let ⟨_, e⟩ := l; .list e r
theorem Rep.tuple_of {xs : List PyData} {a : Addr} {vs : Array Value} (l : PlainTup h a vs) (r : Reps h xs vs.toList) : Rep h (.tuple xs) (.ref a) := let ⟨_, e⟩ := l; .tuple e r
theorem Reps.cons_inv (r : Reps h (d :: ds) vs) : ∃ v r, vs = v :: r ∧ Rep h d v ∧ Reps h ds r := by
  cases r with
  | cons a b => exact ⟨_, _, rfl, a, b⟩
theorem Reps.nil_inv (r : Reps h [] vs) : vs = [] := by cases r; rfl
theorem Reps.length (r : Reps h ds vs) : vs.length = ds.length := by obtain ⟨_, r⟩ := r.reads; exact SeqAt.ReadsAll.length _ _ _ r
theorem Reps.append {es : List PyData} {us : List Value} (r : Reps h ds vs) (q : Reps h es us) : Reps h (ds ++ es) (vs ++ us) := by
  induction ds generalizing vs with
  | nil => rw [r.nil_inv]; exact q
  | cons d ds ih =>
    obtain ⟨v, r', rfl, a, b⟩ := r.cons_inv
    exact (show Reps h (d :: (ds ++ es)) (v :: (r' ++ us)) from .cons a (ih b))
theorem Reps.get {i : Nat} {d : PyData} (r : Reps h ds vs) (hi : ds[i]? = some d) : ∃ v, vs[i]? = some v ∧ Rep h d v := by
  induction ds generalizing vs i with
  | nil => simp at hi
  | cons e ds ih =>
    obtain ⟨v, r', rfl, a, b⟩ := r.cons_inv
    cases i with
    | zero => simp at hi; subst hi; exact ⟨v, rfl, a⟩
    | succ i => simp at hi; have := ih b hi; simpa using this
theorem Reps.at {i : Nat} {v : Value} (r : Reps h ds vs) (hi : vs[i]? = some v) : ∃ d, ds[i]? = some d ∧ Rep h d v := by
  have hl := r.length
  have hlt : i < vs.length := (List.getElem?_eq_some_iff.mp hi).1
  have hd : ds[i]? = some ds[i] := by simp [hl ▸ hlt]
  obtain ⟨u, hu, q⟩ := r.get hd
  rw [hi] at hu
  cases hu
  exact ⟨_, hd, q⟩
end

/-- the module's ground at a heap -/
structure Gd (w : World) (h : Heap) : Prop where
  X : (hd.heap_39 w.params).In h
  T : ∃ mean mg mb, Top hd.view_39 (looseW hd.view_39 [Str.ofString "_filemode_table"]) mean mg mb h
theorem Gd.keeps {w : World} {h h' : Heap} (g : Gd w h) (k : ∀ b o, h.get? b = some o → h'.get? b = some o) : Gd w h' :=
  ⟨fun a o e => k a o (g.X a o e), let ⟨a, b, c, t⟩ := g.T; ⟨a, b, c, t.keeps k⟩⟩

noncomputable def Kp (s s' : Shared) : Prop := PySem.Keeps s s'
theorem Kp.refl (s : Shared) : Kp s s := ⟨s.heap, s.toks, rfl, fun _ _ e => e⟩
theorem Kp.trans {s s' s'' : Shared} (a : Kp s s') (b : Kp s' s'') : Kp s s'' := by
  obtain ⟨h1, t1, rfl, k1⟩ := a
  obtain ⟨h2, t2, rfl, k2⟩ := b
  exact ⟨h2, t2, rfl, fun x o e => k2 x o (k1 x o e)⟩
theorem Kp.ext {s s' : Shared} (a : Kp s s') : ∀ b o, s.heap.get? b = some o → s'.heap.get? b = some o := by
  obtain ⟨h1, t1, rfl, k1⟩ := a; exact k1
theorem Kp.tok (s : Shared) (t : Nat) : Kp s { s with toks := t } := ⟨s.heap, t, rfl, fun _ _ e => e⟩
theorem Kp.push (s : Shared) (o : Obj) (t : Nat) : Kp s { s with heap := s.heap.push o, toks := t } := ⟨_, t, rfl, fun _ _ e => Heap.get?_push_of_some _ e⟩
theorem Kp.push' (s : Shared) (o : Obj) : Kp s { s with heap := s.heap.push o } := ⟨_, _, rfl, fun _ _ e => Heap.get?_push_of_some _ e⟩

/-- a name of the frame's holds a value -/
noncomputable def NameIs (env : Env) (h : Heap) (x : Str) (v : Value) : Prop :=
  (x == ("__debug__" : Str)) = false ∧ ((env.kindOf x = some .local ∧ ∃ m, h.Ns env.locals m ∧ m x = some v) ∨
  ((env.kindOf x = some .cell) ∧ ∃ c, env.cells.lookup x = some c ∧ h.IsCell c (some v)))
theorem NameIs.keeps {env : Env} {h h' : Heap} {x : Str} {v : Value} (n : NameIs env h x v) (k : ∀ b o, h.get? b = some o → h'.get? b = some o) : NameIs env h' x v :=
  ⟨n.1, n.2.imp (fun ⟨a, m, b, c⟩ => ⟨a, m, b.keeps k, c⟩) fun ⟨a, c, b, d⟩ => ⟨a, c, b, d.keeps k⟩⟩

abbrev Rho := List (Str × PyData)
/-- the ground, and what the names hold -/
structure Cx (w : World) (env : Env) (ρ : Rho) (h : Heap) : Prop where
  gd : Gd w h
  nm : ∀ p ∈ ρ, ∃ v, NameIs env h p.1 v ∧ Rep h p.2 v
theorem Cx.keeps {w : World} {env : Env} {ρ : Rho} {h h' : Heap} (c : Cx w env ρ h) (k : ∀ b o, h.get? b = some o → h'.get? b = some o) : Cx w env ρ h' :=
  ⟨c.gd.keeps k, fun p hp => let ⟨v, a, b⟩ := c.nm p hp; ⟨v, a.keeps k, b.keeps k⟩⟩
theorem Cx.on {w : World} {env : Env} {ρ : Rho} {s s' : Shared} (c : Cx w env ρ s.heap) (k : Kp s s') : Cx w env ρ s'.heap := c.keeps k.ext

/-- what is so of every env at hand -/
structure EnvOk (env : Env) : Prop where
  kind : env.scope.kind = .function
  glob : env.globals = mainGlobals
  bult : env.builtins = builtinsNs

section
variable (w : World) (A : Around) (env : Env) (ρ : Rho)
structure Evs (e : PySem.Expr) (t : PyData) : Prop where
  go : ∀ (s : Shared) (E : Value → Shared → Prop), Cx w env ρ s.heap → wpAny (model PR w) A (eval e env) (fun v s' => Kp s s' ∧ Rep s'.heap t v) E s
structure EvsL (es : List PySem.Expr) (ts : List PyData) : Prop where
  go : ∀ (pos : Pos) (s : Shared) (E : Value → Shared → Prop), Cx w env ρ s.heap → wpAny (model PR w) A (spliced (backTo pos (starEach es env))) (fun vs s' => Kp s s' ∧ Reps s'.heap ts vs) E s
structure Tst (e : PySem.Expr) (b : Bool) : Prop where
  go : ∀ (s : Shared) (E : Value → Shared → Prop), Cx w env ρ s.heap → wpAny (model PR w) A (isTrue e env (eval e env)) (fun c s' => c = b ∧ Kp s s') E s
structure BinSem (op : Operator) (a b t : PyData) : Prop where
  go : ∀ (s : Shared) (E : Value → Shared → Prop) (u v : Value), Gd w s.heap → Rep s.heap a u → Rep s.heap b v → wpAny (model PR w) A (binaryOp op u v) (fun r s' => Kp s s' ∧ Rep s'.heap t r) E s
structure CmpSem (op : CmpOp) (a b : PyData) (t : Bool) : Prop where
  go : ∀ (s : Shared) (E : Value → Shared → Prop) (u v : Value), Gd w s.heap → Rep s.heap a u → Rep s.heap b v → wpAny (model PR w) A (compareOp op u v) (fun r s' => r = .bool t ∧ Kp s s') E s
end

section
variable {w : World} {A : Around} {env : Env} {ρ : Rho}

theorem ev_name {x : Str} {pos : Pos} {t : PyData} (he : EnvOk env) (hx : (x, t) ∈ ρ) : Evs w A env ρ (.Name x pos) t := ⟨fun s E c => by
  obtain ⟨v, ⟨hd, n⟩, r⟩ := c.nm _ hx
  rcases n with ⟨hl, m, hn, hm⟩ | ⟨hc, a, hl, hv⟩
  · exact wpAny_Name (wpAny_loadName_local he.kind hl hn hm ⟨.refl s, r⟩) hd
  · exact wpAny_Name (wpAny_loadName_cell he.kind hc hl hv ⟨.refl s, r⟩) hd⟩
theorem ev_int {i : Int} {k : Nat} {pos : Pos} : Evs w A env ρ (.Constant (.int i) k pos) (.int i) := ⟨fun s E _ => wpAny_Constant_int ⟨.tok s _, .int i _⟩⟩
theorem ev_str {x : Str} {k : Nat} {pos : Pos} : Evs w A env ρ (.Constant (.str x) k pos) (.str x) := ⟨fun s E _ => Constant_str ⟨.tok s _, .str x _⟩⟩
theorem ev_bool {b : Bool} {k : Nat} {pos : Pos} : Evs w A env ρ (.Constant (.bool b) k pos) (.bool b) := ⟨fun s E _ => by
  cases b <;> exact wpAny_pure ⟨.refl s, .bool _⟩⟩

theorem ev_bin {l r : PySem.Expr} {op : Operator} {pos : Pos} {a b t : PyData} (hl : Evs w A env ρ l a) (hr : Evs w A env ρ r b) (h : BinSem w A op a b t) : Evs w A env ρ (.BinOp l op r pos) t := ⟨fun s E c => by
  refine wpAny_BinOp (wpAny_mono (hl.go s E c) (fun u s₁ ⟨k₁, r₁⟩ => ?_) fun _ _ x => x)
  refine wpAny_mono (hr.go s₁ E (c.on k₁)) (fun v s₂ ⟨k₂, r₂⟩ => ?_) fun _ _ x => x
  refine wpAny_mono (h.go s₂ E u v (c.on (k₁.trans k₂)).gd (r₁.keeps k₂.ext) r₂) (fun q s₃ ⟨k₃, r₃⟩ => ⟨(k₁.trans k₂).trans k₃, r₃⟩) fun _ _ x => x⟩
theorem ev_cmp {l r : PySem.Expr} {op : CmpOp} {pos : Pos} {a b : PyData} {t : Bool} (hl : Evs w A env ρ l a) (hr : Evs w A env ρ r b) (h : CmpSem w A op a b t) (hm : behindInMarks op r = false := by rfl) :
    Evs w A env ρ (.Compare l [op] [r] pos) (.bool t) := ⟨fun s E c => by
  refine wpAny_Compare1 (wpAny_mono (hl.go s E c) (fun u s₁ ⟨k₁, r₁⟩ => ?_) fun _ _ x => x) hm
  refine wpAny_mono (hr.go s₁ E (c.on k₁)) (fun v s₂ ⟨k₂, r₂⟩ => ?_) fun _ _ x => x
  refine wpAny_mono (h.go s₂ E u v (c.on (k₁.trans k₂)).gd (r₁.keeps k₂.ext) r₂) (fun q s₃ ⟨e, k₃⟩ => ⟨(k₁.trans k₂).trans k₃, e ▸ .bool _⟩) fun _ _ x => x⟩
theorem tst_cmp {l r : PySem.Expr} {op : CmpOp} {pos : Pos} {a b : PyData} {t : Bool} (hl : Evs w A env ρ l a) (hr : Evs w A env ρ r b) (h : CmpSem w A op a b t) (hm : behindInMarks op r = false := by rfl) :
    Tst w A env ρ (.Compare l [op] [r] pos) t := ⟨fun s E c => by
  refine wpAny_isTrue_Compare1 (wpAny_mono (hl.go s E c) (fun u s₁ ⟨k₁, r₁⟩ => ?_) fun _ _ x => x) hm
  refine wpAny_mono (hr.go s₁ E (c.on k₁)) (fun v s₂ ⟨k₂, r₂⟩ => ?_) fun _ _ x => x
  refine wpAny_mono (h.go s₂ E u v (c.on (k₁.trans k₂)).gd (r₁.keeps k₂.ext) r₂) (fun q s₃ ⟨e, k₃⟩ => ?_) fun _ _ x => x
  subst e
  exact wpAny_truthy_bool ⟨rfl, (k₁.trans k₂).trans k₃⟩⟩

theorem evl_nil : EvsL w A env ρ [] [] := ⟨fun pos s E _ => spliced_nil ⟨.refl s, .nil⟩⟩
theorem evl_cons {e : PySem.Expr} {es : List PySem.Expr} {t : PyData} {ts : List PyData} (h : Evs w A env ρ e t) (hr : EvsL w A env ρ es ts)
    (hs : starEach (e :: es) env = (false, eval e env) :: starEach es env := by rfl) : EvsL w A env ρ (e :: es) (t :: ts) := ⟨fun pos s E c => by
  rw [hs]
  refine spliced_cons (wpAny_mono (h.go s E c) (fun u s₁ ⟨k₁, r₁⟩ => ?_) fun _ _ x => x)
  exact wpAny_mono (hr.go pos s₁ E (c.on k₁)) (fun vs s₂ ⟨k₂, r₂⟩ => ⟨k₁.trans k₂, .cons (r₁.keeps k₂.ext) r₂⟩) fun _ _ x => x⟩


theorem ev_tuple {es : List PySem.Expr} {k : Nat} {pos : Pos} {ts : List PyData} (h : EvsL w A env ρ es ts) (hz : ts.length ≤ 100000 := by decide) : Evs w A env ρ (.Tuple es k pos) (.tuple ts) := ⟨fun s E c => by
  refine Tuple_ (wpAny_mono (h.go pos s E c) (fun vs s₁ ⟨k₁, r₁⟩ => ?_) fun _ _ x => x)
  refine wpAny_newTuple ⟨k₁.trans (.push' ..), .tuple_of ⟨_, Heap.get?_push_size _ rfl⟩ (by simpa using r₁.keeps (Kp.push' s₁ _).ext)⟩ (by rw [r₁.length, sizeLine_eq]; omega)⟩
theorem ev_list {es : List PySem.Expr} {pos : Pos} {ts : List PyData} (h : EvsL w A env ρ es ts) (hz : ts.length ≤ 100000 := by decide) : Evs w A env ρ (.List es pos) (.list ts) := ⟨fun s E c => by
  refine List_ (wpAny_mono (h.go pos s E c) (fun vs s₁ ⟨k₁, r₁⟩ => ?_) fun _ _ x => x)
  refine wpAny_newList ⟨k₁.trans (.push' ..), .list_of ⟨_, Heap.get?_push_size _ rfl⟩ (by simpa using r₁.keeps (Kp.push' s₁ _).ext)⟩ (by rw [r₁.length, sizeLine_eq]; omega)⟩
end
/- part F2 -/

section
variable {w : World} {A : Around}
theorem bin_add {a b : Int} : BinSem w A .Add (.int a) (.int b) (.int (a + b)) := ⟨fun s E u v _ ru rv => by
  obtain ⟨t, rfl⟩ := ru.int_inv; obtain ⟨t', rfl⟩ := rv.int_inv
  exact PyProof.Rows.add_int ⟨Kp.tok s _, .int _ _⟩⟩
theorem bin_sub {a b : Int} : BinSem w A .Sub (.int a) (.int b) (.int (a - b)) := ⟨fun s E u v _ ru rv => by
  obtain ⟨t, rfl⟩ := ru.int_inv; obtain ⟨t', rfl⟩ := rv.int_inv
  exact PyProof.Rows.sub_int ⟨Kp.tok s _, .int _ _⟩⟩
theorem bin_mul {a b : Int} (h : a.natAbs < 2 ^ 64) : BinSem w A .Mult (.int a) (.int b) (.int (a * b)) := ⟨fun s E u v _ ru rv => by
  obtain ⟨t, rfl⟩ := ru.int_inv; obtain ⟨t', rfl⟩ := rv.int_inv
  exact PyProof.Rows.mul_int ⟨Kp.tok s _, .int _ _⟩ (.of_left (intBits_le h))⟩
theorem bin_div {a b : Int} (hb : 0 < b) (hb2 : b < 1073741824) : BinSem w A .FloorDiv (.int a) (.int b) (.int (a / b)) := ⟨fun s E u v _ ru rv => by
  obtain ⟨t, rfl⟩ := ru.int_inv; obtain ⟨t', rfl⟩ := rv.int_inv
  refine floordiv_int (by omega) ⟨Kp.tok s _, ?_⟩ (Or.inl (PyProof.noPylong_small (by omega)))
  rw [Int.fdiv_eq_ediv_of_nonneg _ (by omega)]
  exact .int _ _⟩
theorem bin_mod {a b : Int} (hb : 0 < b) : BinSem w A .Mod (.int a) (.int b) (.int (a % b)) := ⟨fun s E u v _ ru rv => by
  obtain ⟨t, rfl⟩ := ru.int_inv; obtain ⟨t', rfl⟩ := rv.int_inv
  refine PyProof.Rows.mod_int (by omega) ⟨Kp.tok s _, ?_⟩
  rw [Int.fmod_eq_emod_of_nonneg _ (by omega)]
  exact .int _ _⟩
theorem bin_pow {a b : Int} (h0 : 0 ≤ b) (h1 : b ≤ 1000000) (ha : a.natAbs < 2 ^ 64) : BinSem w A .Pow (.int a) (.int b) (.int (a ^ b.toNat)) := ⟨fun s E u v _ ru rv => by
  obtain ⟨t, rfl⟩ := ru.int_inv; obtain ⟨t', rfl⟩ := rv.int_inv
  exact pow_int_small h0 h1 ha ⟨Kp.tok s _, .int _ _⟩⟩
theorem bin_and {a b : Int} : BinSem w A .BitAnd (.int a) (.int b) (.int (Builtin.bitAnd a b)) := ⟨fun s E u v _ ru rv => by
  obtain ⟨t, rfl⟩ := ru.int_inv; obtain ⟨t', rfl⟩ := rv.int_inv
  exact and_int ⟨Kp.tok s _, .int _ _⟩⟩
theorem bin_xor {a b : Int} : BinSem w A .BitXor (.int a) (.int b) (.int (Builtin.bitXor a b)) := ⟨fun s E u v _ ru rv => by
  obtain ⟨t, rfl⟩ := ru.int_inv; obtain ⟨t', rfl⟩ := rv.int_inv
  exact xor_int ⟨Kp.tok s _, .int _ _⟩⟩
theorem bin_str {a b : Str} (h : a.length + b.length ≤ 1000000) : BinSem w A .Add (.str a) (.str b) (.str (a ++ b)) := ⟨fun s E u v _ ru rv => by
  obtain ⟨t, rfl⟩ := ru.str_inv; obtain ⟨t', rfl⟩ := rv.str_inv
  exact PyProof.Rows.add_str (fun t' tk => ⟨Kp.tok s _, .str _ _⟩) (by rw [sizeLine_eq]; omega)⟩
theorem bin_tup {xs ys : List PyData} (h : xs.length + ys.length ≤ 1000000) : BinSem w A .Add (.tuple xs) (.tuple ys) (.tuple (xs ++ ys)) := ⟨fun s E u v _ ru rv => by
  obtain ⟨t, vs, rfl, ht, rt⟩ := ru.tuple_inv
  obtain ⟨b, ws, rfl, hb, rb⟩ := rv.tuple_inv
  have e1 := rt.length
  have e2 := rb.length
  obtain ⟨⟨cls, dd, data, sl⟩, ho, hc, n, hd⟩ := id ht.isTup
  obtain ⟨⟨cls2, dd2, data2, sl2⟩, ho2, hc2, n2, hd2⟩ := id hb.isTup
  simp only at hc hd hc2 hd2
  subst hc hd hc2 hd2
  by_cases hv : vs.isEmpty = true
  · refine concat_meets ⟨_, ho, rfl⟩ ⟨_, ho2, rfl⟩ noFill_tuple_add seq_tuple_add PySem.F.slot_tuple_add PySem.F.entry_tuple_add (PySem.F.args_tuple_add_2 _ _)
      (tuple_addW0 t b vs ws n n2 dd dd2 sl sl2 hv) ⟨ho, ho2, Kp.refl s, ?_⟩
    have : vs.toList = [] := by simpa using hv
    rw [this] at e1
    have : xs = [] := List.length_eq_zero_iff.mp e1.symm
    subst this
    exact rv
  · by_cases hw : ws.isEmpty = true
    · refine concat_meets ⟨_, ho, rfl⟩ ⟨_, ho2, rfl⟩ noFill_tuple_add seq_tuple_add PySem.F.slot_tuple_add PySem.F.entry_tuple_add (PySem.F.args_tuple_add_2 _ _)
        (tuple_addW1 t b vs ws n n2 dd dd2 sl sl2 hv hw) ⟨ho, ho2, Kp.refl s, ?_⟩
      have : ws.toList = [] := by simpa using hw
      rw [this] at e2
      have : ys = [] := List.length_eq_zero_iff.mp e2.symm
      subst this
      rw [List.append_nil]
      exact ru
    · refine concat_meets ⟨_, ho, rfl⟩ ⟨_, ho2, rfl⟩ noFill_tuple_add seq_tuple_add PySem.F.slot_tuple_add PySem.F.entry_tuple_add (PySem.F.args_tuple_add_2 _ _)
        (tuple_addW2 t b vs ws n n2 dd dd2 sl sl2 hv hw (by rw [sizeLine_eq]; simp only [Array.length_toList] at e1 e2; omega)) ⟨ho, ho2, Kp.push' s _, ?_⟩
      exact .tuple_of ⟨_, Heap.get?_push_size _ rfl⟩ (by simpa using (rt.append rb).keeps (Kp.ext (Kp.push' s _)))⟩
theorem bin_lst {xs ys : List PyData} (h : xs.length + ys.length ≤ 1000000) : BinSem w A .Add (.list xs) (.list ys) (.list (xs ++ ys)) := ⟨fun s E u v _ ru rv => by
  obtain ⟨t, vs, rfl, ht, rt⟩ := ru.list_inv
  obtain ⟨b, ws, rfl, hb, rb⟩ := rv.list_inv
  have e1 := rt.length
  have e2 := rb.length
  obtain ⟨⟨cls, dd, data, sl⟩, ho, hc, n, hd⟩ := id ht.isList
  obtain ⟨⟨cls2, dd2, data2, sl2⟩, ho2, hc2, n2, hd2⟩ := id hb.isList
  simp only at hc hd hc2 hd2
  subst hc hd hc2 hd2
  refine concat_meets ⟨_, ho, rfl⟩ ⟨_, ho2, rfl⟩ noFill_list_add seq_list_add PySem.F.slot_list_add PySem.F.entry_list_add (PySem.F.args_list_add_2 _ _)
    (list_addW t b vs ws n n2 dd dd2 sl sl2 (by rw [sizeLine_eq]; simp only [Array.length_toList] at e1 e2; omega)) ⟨ho, ho2, Kp.push' s _, ?_⟩
  exact .list_of ⟨_, Heap.get?_push_size _ rfl⟩ (by simpa using (rt.append rb).keeps (Kp.ext (Kp.push' s _)))⟩

theorem cmp_eq {d : Nat} {a b : PyData} (r : Rm d A) (ha : SeqAt.shaped a = true) (hb : SeqAt.shaped b = true) : CmpSem w A .Eq a b (PyData.eqv a b) := ⟨fun s E u v _ ru rv => by
  obtain ⟨as, ra⟩ := ru.reads; obtain ⟨bs, rb⟩ := rv.reads
  exact eq_dataH ra rb ha hb r.line ⟨rfl, Kp.refl s⟩⟩
theorem cmp_ne {d : Nat} {a b : PyData} (r : Rm d A) (ha : SeqAt.shaped a = true) (hb : SeqAt.shaped b = true) : CmpSem w A .NotEq a b (!PyData.eqv a b) := ⟨fun s E u v _ ru rv => by
  obtain ⟨as, ra⟩ := ru.reads; obtain ⟨bs, rb⟩ := rv.reads
  exact ne_dataH ra rb ha hb r.line ⟨rfl, Kp.refl s⟩⟩
theorem cmp_eqI {a b : Int} : CmpSem w A .Eq (.int a) (.int b) (a == b) := ⟨fun s E u v _ ru rv => by
  obtain ⟨t, rfl⟩ := ru.int_inv; obtain ⟨t', rfl⟩ := rv.int_inv
  exact PyProof.Rows.eq_int ⟨rfl, Kp.refl s⟩⟩
theorem cmp_neI {a b : Int} : CmpSem w A .NotEq (.int a) (.int b) (a != b) := ⟨fun s E u v _ ru rv => by
  obtain ⟨t, rfl⟩ := ru.int_inv; obtain ⟨t', rfl⟩ := rv.int_inv
  exact PyProof.Rows.ne_int ⟨rfl, Kp.refl s⟩⟩
theorem cmp_leI {a b : Int} : CmpSem w A .LtE (.int a) (.int b) (decide (a ≤ b)) := ⟨fun s E u v _ ru rv => by
  obtain ⟨t, rfl⟩ := ru.int_inv; obtain ⟨t', rfl⟩ := rv.int_inv
  exact PyProof.Rows.le_int ⟨rfl, Kp.refl s⟩⟩
theorem cmp_eqS {a b : Str} : CmpSem w A .Eq (.str a) (.str b) (a == b) := ⟨fun s E u v _ ru rv => by
  obtain ⟨t, rfl⟩ := ru.str_inv; obtain ⟨t', rfl⟩ := rv.str_inv
  exact PyProof.Rows.eq_str ⟨rfl, Kp.refl s⟩⟩
theorem cmp_neB {a b : Bool} : CmpSem w A .NotEq (.bool a) (.bool b) (a != b) := ⟨fun s E u v _ ru rv => by
  rw [ru.bool_inv, rv.bool_inv]
  exact PyProof.Rows.ne_bool ⟨rfl, Kp.refl s⟩⟩
theorem cmp_isB {a b : Bool} : CmpSem w A .Is (.bool a) (.bool b) (a == b) := ⟨fun s E u v _ ru rv => by
  rw [ru.bool_inv, rv.bool_inv]
  exact PyProof.Rows.is_bool ⟨rfl, Kp.refl s⟩⟩
theorem cmp_in1 {x : Str} {c : Nat} : CmpSem w A .In (.str ⟨#[c]⟩) (.str x) (decide (c ∈ x.cps.toList)) := ⟨fun s E u v _ ru rv => by
  obtain ⟨t, rfl⟩ := ru.str_inv; obtain ⟨t', rfl⟩ := rv.str_inv
  exact PyProof.Rows.in_str ⟨by rw [StrLaws.found_one], Kp.refl s⟩⟩
end
/- part F3 -/

section
variable {w : World} {A : Around} {env : Env} {ρ : Rho}
/-- an item of a datum at a datum -/
structure ItemSem (w : World) (A : Around) (a b t : PyData) : Prop where
  go : ∀ (s : Shared) (E : Value → Shared → Prop) (u v : Value), Gd w s.heap → Rep s.heap a u → Rep s.heap b v →
    ∃ T id, s.TypeIs u T ∧ typeLookup (.type T) "__getitem__" = pure (some (.builtin id)) ∧ wpAny (model PR w) A (getItem u v) (fun r s' => Kp s s' ∧ Rep s'.heap t r) E s

theorem item_lst {xs : List PyData} {k : Int} {t : PyData} (h0 : 0 ≤ k) (hx : xs[k.toNat]? = some t) (hz : xs.length ≤ 100000) : ItemSem w A (.list xs) (.int k) t := ⟨fun s E u v _ ru rv => by
  obtain ⟨a, vs, rfl, hl, rl⟩ := ru.list_inv; obtain ⟨tk, rfl⟩ := rv.int_inv
  have hlt : k.toNat < xs.length := (List.getElem?_eq_some_iff.mp hx).1
  obtain ⟨x, e, rx⟩ := rl.get hx
  exact ⟨_, _, hl.isList.typeIs, slot_list_getitem.lookup, wpAny_getItem_list hl.isList h0 (by omega) (by simpa using e) ⟨Kp.refl s, rx⟩⟩⟩
theorem item_tup {xs : List PyData} {k : Int} {t : PyData} (h0 : 0 ≤ k) (hx : xs[k.toNat]? = some t) (hz : xs.length ≤ 100000) : ItemSem w A (.tuple xs) (.int k) t := ⟨fun s E u v _ ru rv => by
  obtain ⟨a, vs, rfl, hl, rl⟩ := ru.tuple_inv; obtain ⟨tk, rfl⟩ := rv.int_inv
  have hlt : k.toNat < xs.length := (List.getElem?_eq_some_iff.mp hx).1
  obtain ⟨x, e, rx⟩ := rl.get hx
  have hlen := rl.length
  have hj : seqIndex? k vs.size = some k.toNat := by
    unfold seqIndex?
    simp only [Array.length_toList] at hlen
    have e1 : ¬ (k < 0) := by omega
    have e2 : k < (vs.size : Int) := by omega
    simp [e1, e2, h0]
  exact ⟨_, _, hl.isTup.typeIs, slot_tuple_getitem.lookup, getItem_tuple hl.isTup (by omega) (by omega) hj (by simpa using e) ⟨Kp.refl s, rx⟩⟩⟩
theorem item_str {x : Str} {k : Int} {c : Nat} (h0 : 0 ≤ k) (hx : x.cps.toList[k.toNat]? = some c) (hz : x.length ≤ 100000) : ItemSem w A (.str x) (.int k) (.str ⟨#[c]⟩) := ⟨fun s E u v _ ru rv => by
  obtain ⟨t, rfl⟩ := ru.str_inv; obtain ⟨tk, rfl⟩ := rv.int_inv
  have hlt : k.toNat < x.cps.toList.length := (List.getElem?_eq_some_iff.mp hx).1
  have hlt' : k.toNat < x.length := by simpa [Str.length] using hlt
  have hj : (seqIndex? k x.length).bind (x.cps[·]?) = some c := by
    unfold seqIndex?
    have e1 : ¬ (k < 0) := by omega
    have e2 : k < (x.length : Int) := by omega
    simpa [e1, e2, h0] using hx
  have hr : (decide (k < -(2 ^ 63 : Int)) || decide (k ≥ 2 ^ 63)) = false := by
    rw [decide_eq_false (by omega), decide_eq_false (by omega)]; rfl
  exact ⟨_, _, typeIs_str _ _ _, slot_str_getitem.lookup, getItem_str hr hj ⟨Kp.tok s _, .str _ _⟩⟩⟩

theorem ev_item {value slice : PySem.Expr} {pos : Pos} {a b t : PyData} (hv : Evs w A env ρ value a) (hs : Evs w A env ρ slice b) (h : ItemSem w A a b t)
    (hsub : ∀ o i, subscripted slice false o i = operate [o, i] (getItem o i) := by intro _ _; rfl) : Evs w A env ρ (.Subscript value slice pos) t := ⟨fun s E c => by
  refine Subscript_ (wpAny_mono (hv.go s E c) (fun o s₁ ⟨k₁, r₁⟩ => ?_) fun _ _ x => x)
  refine wpAny_mono (hs.go s₁ E (c.on k₁)) (fun i s₂ ⟨k₂, r₂⟩ => ?_) fun _ _ x => x
  obtain ⟨T, id, hT, hl, hg⟩ := h.go s₂ E o i (c.on (k₁.trans k₂)).gd (r₁.keeps k₂.ext) r₂
  exact tail_any hT hl (wpAny_mono hg (fun r s₃ ⟨k₃, r₃⟩ => ⟨(k₁.trans k₂).trans k₃, r₃⟩) fun _ _ x => x) (hsub o i)⟩

/-- a part of a slice -/
noncomputable def PartIs (w : World) (A : Around) (env : Env) (ρ : Rho) : Option PySem.Expr → Option Int → Prop
  | none, none => True
  | some e, some i => Evs w A env ρ e (.int i)
  | _, _ => False
theorem part_ev {x : Option PySem.Expr} {k : Option Int} (h : PartIs w A env ρ x k) (s : Shared) (E : Value → Shared → Prop) (c : Cx w env ρ s.heap) :
    wpAny (model PR w) A (evalPart x env) (fun v s' => Kp s s' ∧ ∃ p : Option (Int × Tok), p.map (·.1) = k ∧ v = partValue p) E s := by
  match x, k, h with
  | none, none, _ => exact wpAny_pure ⟨Kp.refl s, none, rfl, rfl⟩
  | some e, some i, h =>
    refine wpAny_mono (h.go s E c) (fun v s' ⟨k, r⟩ => ?_) fun _ _ x => x
    obtain ⟨t, rfl⟩ := r.int_inv
    exact ⟨k, some (i, t), rfl, rfl⟩
theorem isPart_of (p : Option (Int × Tok)) : IsPart (partValue p) (p.map (·.1)) := by
  match p with
  | none => exact .none
  | some (i, t) => exact .int i t

theorem ev_cut {value : PySem.Expr} {lo hi : Option PySem.Expr} {p pos : Pos} {x : Str} {l u : Option Int} (hv : Evs w A env ρ value (.str x)) (hl : PartIs w A env ρ lo l) (hu : PartIs w A env ρ hi u) (hz : x.length ≤ 100000) :
    Evs w A env ρ (.Subscript value (.Slice lo hi none p) pos) (.str (Txt.slice x l u)) := ⟨fun s E c => by
  refine Subscript_ (wpAny_mono (hv.go s E c) (fun o s₁ ⟨k₁, r₁⟩ => ?_) fun _ _ x => x)
  obtain ⟨t, rfl⟩ := r₁.str_inv
  refine wpAny_Slice (wpAny_mono (part_ev hl s₁ E (c.on k₁)) (fun vl s₂ ⟨k₂, pl, el, e1⟩ => ?_) fun _ _ x => x)
  refine wpAny_mono (part_ev hu s₂ E ((c.on k₁).on k₂)) (fun vu s₃ ⟨k₃, pu, eu, e2⟩ => ?_) fun _ _ x => x
  rw [evalPart_none]
  refine wpAny_pure ?_
  subst e1 e2 el eu
  refine tail_any (T := "str") (ops := [.ref s₃.heap.objs.size, .str x t]) (typeIs_str _ _ _) slot_str_getitem.lookup ?_ rfl
  refine wpAny_getItem_str_slice (l := pl) (u := pu) (st := none) ⟨_, Heap.get?_push_size _ rfl, rfl, rfl⟩ rfl ?_
  refine post_val_or_str ⟨?_, fun t' k => ⟨((k₁.trans k₂).trans k₃).trans (Kp.push s₃ _ _), .str _ _⟩⟩
  have := Txt.slice_le x (pl.map (·.1)) (pu.map (·.1))
  unfold Txt.slice at this
  rw [sizeLine_eq]
  exact Nat.le_trans this (by omega)⟩

/-- what a slice of a list picks -/
noncomputable def pickL {α : Type} (xs : List α) (lo hi st : Option Int) : List α :=
  (sliceRange (sliceBounds lo hi st xs.length).1 (sliceBounds lo hi st xs.length).2.1 (sliceBounds lo hi st xs.length).2.2).filterMap (xs[·]?)
theorem reps_pick {h : Heap} {ds : List PyData} {vs : List Value} (r : Reps h ds vs) : ∀ is : List Nat, Reps h (is.filterMap (ds[·]?)) (is.filterMap (vs[·]?))
  | [] => .nil
  | i :: is => by
    have ih := reps_pick r is
    cases hd : ds[i]? with
    | none =>
      have : vs[i]? = none := by rw [List.getElem?_eq_none_iff] at hd ⊢; rw [r.length]; exact hd
      simp only [List.filterMap_cons, hd, this]
      exact ih
    | some d =>
      obtain ⟨v, hv, rv⟩ := r.get hd
      simp only [List.filterMap_cons, hd, hv]
      exact .cons rv ih
theorem pick_map {α β : Type} (f : α → β) (xs : List α) (lo hi st : Option Int) : pickL (xs.map f) lo hi st = (pickL xs lo hi st).map f := by
  unfold pickL
  rw [List.length_map, List.map_filterMap]
  congr 1
  funext i
  simp
theorem ev_pick {value : PySem.Expr} {lo hi st : Option PySem.Expr} {p pos : Pos} {xs : List PyData} {l u t : Option Int} (hv : Evs w A env ρ value (.list xs)) (hl : PartIs w A env ρ lo l) (hu : PartIs w A env ρ hi u) (hs : PartIs w A env ρ st t)
    (h0 : t ≠ some 0) (hz : xs.length ≤ 100000) (hsub : ∀ o i, ∃ ops, subscripted (.Slice lo hi st p) false o i = operate ops (getItem o i) := by intro _ _; exact ⟨_, rfl⟩) :
    Evs w A env ρ (.Subscript value (.Slice lo hi st p) pos) (.list (pickL xs l u t)) := ⟨fun s E c => by
  refine Subscript_ (wpAny_mono (hv.go s E c) (fun o s₁ ⟨k₁, r₁⟩ => ?_) fun _ _ x => x)
  obtain ⟨a, vs, rfl, hL, rL⟩ := r₁.list_inv
  refine wpAny_Slice (wpAny_mono (part_ev hl s₁ E (c.on k₁)) (fun vl s₂ ⟨k₂, pl, el, e1⟩ => ?_) fun _ _ x => x)
  refine wpAny_mono (part_ev hu s₂ E ((c.on k₁).on k₂)) (fun vu s₃ ⟨k₃, pu, eu, e2⟩ => ?_) fun _ _ x => x
  refine wpAny_mono (part_ev hs s₃ E (((c.on k₁).on k₂).on k₃)) (fun vt s₄ ⟨k₄, pt, et, e3⟩ => ?_) fun _ _ x => x
  subst e1 e2 e3 el eu et
  have k := ((k₂.trans k₃).trans k₄).trans (Kp.push' s₄ { cls := .type "slice", data := .fields #[partValue pl, partValue pu, partValue pt] })
  obtain ⟨ops, ho⟩ := hsub (.ref a) (.ref s₄.heap.objs.size)
  have hL' := hL.isList.at fun o e => k.ext a o e
  refine tail_any (T := "list") (ops := ops) hL'.typeIs slot_list_getitem.lookup ?_ ho
  have hlen := rL.length
  simp only [Array.length_toList] at hlen
  refine wpAny_getItem_list_slice hL' (Heap.IsSliceOf.new ..) (isPart_of pl) (isPart_of pu) (isPart_of pt) h0 ⟨(k₁.trans k).trans (Kp.push' _ _), ?_⟩ (by rw [sizeLine_eq]; omega)
  refine .list_of ⟨_, Heap.get?_push_size _ rfl⟩ ?_
  have r := reps_pick ((rL.keeps k.ext).keeps fun b o e => Heap.get?_push_of_some { cls := .type "list", data := .seq (slicePick vs (pl.map (·.1)) (pu.map (·.1)) (pt.map (·.1))) } e) (sliceRange (sliceBounds (pl.map (·.1)) (pu.map (·.1)) (pt.map (·.1)) vs.size).1 (sliceBounds (pl.map (·.1)) (pu.map (·.1)) (pt.map (·.1)) vs.size).2.1 (sliceBounds (pl.map (·.1)) (pu.map (·.1)) (pt.map (·.1)) vs.size).2.2)
  have e : (slicePick vs (pl.map (·.1)) (pu.map (·.1)) (pt.map (·.1))).toList = (sliceRange (sliceBounds (pl.map (·.1)) (pu.map (·.1)) (pt.map (·.1)) vs.size).1 (sliceBounds (pl.map (·.1)) (pu.map (·.1)) (pt.map (·.1)) vs.size).2.1 (sliceBounds (pl.map (·.1)) (pu.map (·.1)) (pt.map (·.1)) vs.size).2.2).filterMap (vs.toList[·]?) := by
    unfold slicePick; simp
  rw [e]
  unfold pickL
  rw [← hlen]
  exact r⟩
end
/- part F4 -/

noncomputable def Same (s s' : Shared) : Prop := ∃ h tk, s' = { s with heap := h, toks := tk }
theorem Same.refl (s : Shared) : Same s s := ⟨_, _, rfl⟩
theorem Same.trans {s s' s'' : Shared} (a : Same s s') (b : Same s' s'') : Same s s'' := by
  obtain ⟨h, t, rfl⟩ := a; obtain ⟨h', t', rfl⟩ := b; exact ⟨h', t', rfl⟩
theorem Kp.same {s s' : Shared} (k : Kp s s') : Same s s' := by obtain ⟨h, t, e, _⟩ := k; exact ⟨h, t, e⟩
theorem Same.kp {s s' : Shared} (a : Same s s') (k : ∀ b o, s.heap.get? b = some o → s'.heap.get? b = some o) : Kp s s' := by
  obtain ⟨h, t, rfl⟩ := a; exact ⟨h, t, rfl, k⟩

/-- an address of the frame's own: its names, its cells -/
noncomputable def Own (env : Env) (b : Addr) : Prop := b = env.locals ∨ ∃ x, env.cells.lookup x = some b
/-- the frame, over the heap that the call met -/
structure Fs (env : Env) (g h : Heap) : Prop where
  keep : ∀ b o, g.get? b = some o → h.get? b = some o
  ns : ∃ m, h.Ns env.locals m
  fresh : g.objs.size ≤ env.locals
  cell : ∀ x c, env.cells.lookup x = some c → ∃ v, h.IsCell c v
  above : ∀ x c, env.cells.lookup x = some c → env.locals < c
  apart : env.cells.Pairwise fun x y => x.2 ≠ y.2
theorem Fs.ext {env : Env} {g h h' : Heap} (f : Fs env g h) (k : ∀ b o, h.get? b = some o → h'.get? b = some o) : Fs env g h' :=
  ⟨fun b o e => k b o (f.keep b o e), f.ns.imp fun m n => n.keeps k, f.fresh, fun x c e => (f.cell x c e).imp fun v n => n.keeps k, f.above, f.apart⟩
/-- what a statement leaves: all but the frame's own -/
noncomputable def Ch (env : Env) (h h' : Heap) : Prop := ∀ b o, ¬ Own env b → h.get? b = some o → h'.get? b = some o
theorem Ch.refl (env : Env) (h : Heap) : Ch env h h := fun _ _ _ e => e
theorem Ch.trans {env : Env} {h h' h'' : Heap} (a : Ch env h h') (b : Ch env h' h'') : Ch env h h'' := fun x o n e => b x o n (a x o n e)
theorem Ch.of {env : Env} {h h' : Heap} (k : ∀ b o, h.get? b = some o → h'.get? b = some o) : Ch env h h' := fun b o _ e => k b o e
theorem Fs.own {env : Env} {g h : Heap} (f : Fs env g h) {b : Addr} {o : Obj} {xs : Array Value} {n : Nat} (ho : h.get? b = some o) (hd : o.data = .seq xs n) : ¬ Own env b := by
  rintro (rfl | ⟨x, e⟩)
  · obtain ⟨m, o', es, ep, e1, e2, _⟩ := f.ns
    rw [ho] at e1; cases e1; rw [hd] at e2; cases e2
  · obtain ⟨v, o', e1, e2⟩ := f.cell x b e
    rw [ho] at e1; cases e1; rw [hd] at e2; cases e2
theorem Fs.ownF {env : Env} {g h : Heap} (f : Fs env g h) {b : Addr} {o : Obj} {xs : Array Value} (ho : h.get? b = some o) (hd : o.data = .fields xs) : ¬ Own env b := by
  rintro (rfl | ⟨x, e⟩)
  · obtain ⟨m, o', es, ep, e1, e2, _⟩ := f.ns
    rw [ho] at e1; cases e1; rw [hd] at e2; cases e2
  · obtain ⟨v, o', e1, e2⟩ := f.cell x b e
    rw [ho] at e1; cases e1; rw [hd] at e2; cases e2
theorem Fs.old {env : Env} {g h : Heap} (f : Fs env g h) {b : Addr} {o : Obj} (ho : g.get? b = some o) : ¬ Own env b := by
  have hlt := Heap.lt_size ho
  have hf := f.fresh
  rintro (e | ⟨x, e⟩)
  · exact Nat.lt_irrefl _ (Nat.lt_of_lt_of_le (e ▸ hlt) hf)
  · exact Nat.lt_irrefl _ (Nat.lt_trans (Nat.lt_of_lt_of_le hlt hf) (f.above x b e))
theorem Fs.kseq {env : Env} {g h h' : Heap} (f : Fs env g h) (c : Ch env h h') : KSeq h h' := fun b o xs n e d => c b o (f.own e d) e

/-- the state within a call: what the names hold was laid in hb, which is kept -/
structure Lp (w : World) (env : Env) (hb : Heap) (s₀ : Shared) (ρ : Rho) (s : Shared) : Prop where
  same : Same s₀ s
  fs : Fs env s₀.heap s.heap
  gd : Gd w s₀.heap
  kq : Ch env hb s.heap
  bs : ∀ b o xs n, hb.get? b = some o → o.data = .seq xs n → ¬ Own env b
  nm : ∀ p ∈ ρ, ∃ v, NameIs env s.heap p.1 v ∧ Rep hb p.2 v
theorem Lp.ks {w : World} {env : Env} {hb : Heap} {s₀ s : Shared} {ρ : Rho} (l : Lp w env hb s₀ ρ s) : KSeq hb s.heap := fun b o xs n e d => l.kq b o (l.bs b o xs n e d) e
theorem Lp.cx {w : World} {env : Env} {hb : Heap} {s₀ s : Shared} {ρ : Rho} (l : Lp w env hb s₀ ρ s) : Cx w env ρ s.heap :=
  ⟨l.gd.keeps l.fs.keep, fun p hp => let ⟨v, a, b⟩ := l.nm p hp; ⟨v, a, b.kseq l.ks⟩⟩
theorem Lp.rebase {w : World} {env : Env} {hb : Heap} {s₀ s : Shared} {ρ : Rho} (l : Lp w env hb s₀ ρ s) : Lp w env s.heap s₀ ρ s :=
  ⟨l.same, l.fs, l.gd, Ch.refl _ _, fun b o xs n e d => l.fs.own e d, l.cx.nm⟩
theorem Lp.on {w : World} {env : Env} {hb : Heap} {s₀ s s' : Shared} {ρ : Rho} (l : Lp w env hb s₀ ρ s) (k : Kp s s') : Lp w env hb s₀ ρ s' :=
  ⟨l.same.trans k.same, l.fs.ext k.ext, l.gd, l.kq.trans (.of k.ext), l.bs, fun p hp => let ⟨v, a, b⟩ := l.nm p hp; ⟨v, a.keeps k.ext, b⟩⟩
theorem Lp.sub {w : World} {env : Env} {hb : Heap} {s₀ s : Shared} {ρ ρ' : Rho} (l : Lp w env hb s₀ ρ s) (h : ∀ p ∈ ρ', p ∈ ρ) : Lp w env hb s₀ ρ' s :=
  ⟨l.same, l.fs, l.gd, l.kq, l.bs, fun p hp => l.nm p (h p hp)⟩

noncomputable def del (x : Str) (ρ : Rho) : Rho := ρ.filter fun p => !(p.1 == x)

/-- a name that a statement of the frame's may store into -/
structure Stores (env : Env) (x : Str) : Prop where
  dbg : (x == ("__debug__" : Str)) = false
  kind : env.kindOf x = some .local ∨ (env.kindOf x = some .cell ∧ (env.cells.lookup x).isSome = true)

/-- what a store into a name does -/
structure Sto (env : Env) (s₀ : Shared) (y : Str) (t : PyData) (s s' : Shared) : Prop where
  same : Same s s'
  fs : Fs env s₀.heap s'.heap
  ch : Ch env s.heap s'.heap
  nm : ∀ x v, x ≠ y → NameIs env s.heap x v → NameIs env s'.heap x v
  it : ∃ v, NameIs env s'.heap y v ∧ Rep s'.heap t v
/-- a plain datum is a datum in any heap -/
noncomputable def flat : PyData → Bool
  | .none | .bool _ | .int _ | .str _ => true
  | _ => false
theorem Rep.flat {h h' : Heap} {t : PyData} {v : Value} (r : Rep h t v) (f : flat t = true) : Rep h' t v := by
  cases r with
  | none => exact .none
  | bool b => exact .bool b
  | int i t => exact .int i t
  | str x t => exact .str x t
  | list => cases f
  | tuple => cases f
section
variable {w : World} {A : Around} {env : Env} {ρ : Rho} {hb : Heap} {s₀ s s' : Shared} {E : Value → Shared → Prop} {x : Str} {t : PyData}
theorem mem_del {y : Str} {p : Str × PyData} (h : p ∈ del y ρ) : p ∈ ρ ∧ p.1 ≠ y := by
  obtain ⟨h1, h2⟩ := List.mem_filter.mp h
  exact ⟨h1, fun q => by rw [q] at h2; simp at h2⟩
theorem Lp.sto (l : Lp w env hb s₀ ρ s) (q : Sto env s₀ x t s s') : Lp w env hb s₀ (del x ρ) s' :=
  ⟨l.same.trans q.same, q.fs, l.gd, l.kq.trans q.ch, l.bs, fun p hp => let ⟨h1, h2⟩ := mem_del hp; let ⟨v, a, b⟩ := l.nm p h1; ⟨v, q.nm _ v h2 a, b⟩⟩
theorem Lp.stoF (l : Lp w env hb s₀ ρ s) (q : Sto env s₀ x t s s') (f : flat t = true) : Lp w env hb s₀ ((x, t) :: del x ρ) s' :=
  ⟨l.same.trans q.same, q.fs, l.gd, l.kq.trans q.ch, l.bs, fun p hp => by
    rcases List.mem_cons.mp hp with rfl | hp
    · obtain ⟨v, a, b⟩ := q.it; exact ⟨v, a, b.flat f⟩
    · exact (l.sto q).nm p hp⟩
theorem Lp.stoR (l : Lp w env hb s₀ ρ s) (q : Sto env s₀ x t s s') : Lp w env s'.heap s₀ ((x, t) :: del x ρ) s' :=
  have l' := (l.sto q).rebase
  ⟨l'.same, l'.fs, l'.gd, l'.kq, l'.bs, fun p hp => by
    rcases List.mem_cons.mp hp with rfl | hp
    · exact q.it
    · exact l'.nm p hp⟩
theorem Sto.on {s₁ : Shared} (k : Kp s s₁) (q : Sto env s₀ x t s₁ s') : Sto env s₀ x t s s' :=
  ⟨k.same.trans q.same, q.fs, Ch.trans (.of k.ext) q.ch, fun x v h n => q.nm x v h (n.keeps k.ext), q.it⟩

theorem store_nameV {v : Value} (he : EnvOk env) (hx : Stores env x) (f : Fs env s₀.heap s.heap) (r : Rep s.heap t v) {Q : Unit → Shared → Prop}
    (h : ∀ s', Sto env s₀ x t s s' → NameIs env s'.heap x v → Q () s') : wpAny (model PR w) A (storeName env x v) Q E s := by
  obtain ⟨m, hn⟩ := f.ns
  have hp : (env.scope.kind == .class || (env.scope.kind == .module && env.locals != env.globals)) = false := by rw [he.kind]; rfl
  rcases hx.kind with hl | ⟨hc, hs⟩
  · refine wpAny_storeName_local hl hn (fun h' hn' hs' => ?_) hp
    have ch : Ch env s.heap h' := fun b o n e => hs'.extBut b o (fun q => n (.inl q)) e
    have hlc : ∀ y c, env.cells.lookup y = some c → c ≠ env.locals := fun y c e => Nat.ne_of_gt (f.above y c e)
    refine h _ ⟨⟨_, _, rfl⟩, ⟨fun b o e => ch b o (f.old e) (f.keep b o e), ⟨_, hn'⟩, f.fresh, fun y c e => (f.cell y c e).imp fun v q => q.sameBut hs' (hlc y c e), f.above, f.apart⟩, ch, ?_,
      ⟨v, ⟨hx.dbg, .inl ⟨hl, _, hn', by simp⟩⟩, r.kseq (f.kseq ch)⟩⟩ ⟨hx.dbg, .inl ⟨hl, _, hn', by simp⟩⟩
    rintro y u hne ⟨d, n⟩
    refine ⟨d, n.imp (fun ⟨a, m', b, c⟩ => ⟨a, _, hn', ?_⟩) fun ⟨a, c, b, e⟩ => ⟨a, c, b, e.sameBut hs' (hlc _ _ b)⟩⟩
    rw [if_neg hne, Heap.Ns.agree hn b y]; exact c
  · obtain ⟨c, hcl⟩ := Option.isSome_iff_exists.mp hs
    obtain ⟨v₀, hcell⟩ := f.cell x c hcl
    refine wpAny_storeName_cell he.kind hc hcl hcell (fun h' hc' hs' => ?_)
    have ch : Ch env s.heap h' := fun b o n e => hs'.extBut b o (fun q => n (.inr ⟨x, q ▸ hcl⟩)) e
    have hne : env.locals ≠ c := Nat.ne_of_lt (f.above x c hcl)
    refine h _ ⟨⟨_, _, rfl⟩, ⟨fun b o e => ch b o (f.old e) (f.keep b o e), ⟨m, hn.sameBut hs' hne⟩, f.fresh, fun y d e => ?_, f.above, f.apart⟩, ch, ?_,
      ⟨v, ⟨hx.dbg, .inr ⟨hc, c, hcl, hc'⟩⟩, r.kseq (f.kseq ch)⟩⟩ ⟨hx.dbg, .inr ⟨hc, c, hcl, hc'⟩⟩
    · by_cases hd : d = c
      · exact ⟨_, hd ▸ hc'⟩
      · exact (f.cell y d e).imp fun v q => q.sameBut hs' hd
    · rintro y u hnx ⟨d, n⟩
      refine ⟨d, n.imp (fun ⟨a, m', b, e⟩ => ⟨a, m', b.sameBut hs' hne, e⟩) fun ⟨a, d', b, e⟩ => ⟨a, d', b, e.sameBut hs' fun hd => hnx ?_⟩⟩
      exact name_of_addr f.apart (mem_of_lookup b) (hd ▸ mem_of_lookup hcl)

theorem store_name {v : Value} (he : EnvOk env) (hx : Stores env x) (f : Fs env s₀.heap s.heap) (r : Rep s.heap t v) {Q : Unit → Shared → Prop}
    (h : ∀ s', Sto env s₀ x t s s' → Q () s') : wpAny (model PR w) A (storeName env x v) Q E s := store_nameV he hx f r fun s' q _ => h s' q
theorem ex_assign {px p : Pos} {e : PySem.Expr} (he : EnvOk env) (hx : Stores env x) (h : Evs w A env ρ e t) (l : Lp w env hb s₀ ρ s) (hsw : swapsWith e (some (.Name x px)) p.line env = pure false)
    {Q : Flow → Shared → Prop} (hQ : ∀ s', Sto env s₀ x t s s' → Q .next s') : wpAny (model PR w) A (exec (.Assign [.Name x px] e p) env) Q E s := by
  refine wpAny_Assign_Name (wpAny_mono (h.go s E l.cx) (fun v s₁ ⟨k₁, r₁⟩ => ?_) fun _ _ x => x) hsw
  exact store_name he hx (l.on k₁).fs r₁ fun s' q => hQ s' (q.on k₁)
end

/-- a block that returns t -/
structure Blk (w : World) (A : Around) (env : Env) (ρ : Rho) (s₀ : Shared) (b : List Stmt) (t : PyData) : Prop where
  go : ∀ (s : Shared) (E : Value → Shared → Prop) (hb : Heap), Lp w env hb s₀ ρ s → wpAny (model PR w) A (execs b env) (fun f s' => ∃ v, f = .ret v ∧ Kp s₀ s' ∧ Rep s'.heap t v) E s
section
variable {w : World} {A : Around} {env : Env} {ρ : Rho} {s₀ : Shared} {t : PyData} {rest : List Stmt}
theorem blk_assign {x : Str} {px p : Pos} {e : PySem.Expr} {u : PyData} (he : EnvOk env) (hx : Stores env x) (h : Evs w A env ρ e u) (hsw : swapsWith e (some (.Name x px)) p.line env = pure false)
    (hr : Blk w A env ((x, u) :: del x ρ) s₀ rest t) : Blk w A env ρ s₀ (.Assign [.Name x px] e p :: rest) t := ⟨fun s E hb l =>
  wpAny_execs_cons (ex_assign he hx h l hsw fun s' q => hr.go s' E _ (l.stoR q))⟩
theorem blk_return {p : Pos} {e : PySem.Expr} (h : Evs w A env ρ e t) : Blk w A env ρ s₀ (.Return (some e) p :: rest) t := ⟨fun s E hb l =>
  wpAny_execs_cons (wpAny_Return_some (wpAny_mono (h.go s E l.cx) (fun v s₁ ⟨k₁, r₁⟩ => ⟨v, rfl, (l.on k₁).same.kp (l.on k₁).fs.keep, r₁⟩) fun _ _ x => x))⟩
theorem blk_if {p : Pos} {c : PySem.Expr} {body : List Stmt} {b : Bool} (h : Tst w A env ρ c b) (h1 : b = true → Blk w A env ρ s₀ body t) (h0 : b = false → Blk w A env ρ s₀ rest t) :
    Blk w A env ρ s₀ (.If c body [] p :: rest) t := ⟨fun s E hb l => by
  refine wpAny_execs_cons (wpAny_If (wpAny_mono (h.go s E l.cx) (fun d s₁ ⟨e, k₁⟩ => ?_) fun _ _ x => x))
  subst e
  cases d with
  | true => exact wpAny_mono ((h1 rfl).go s₁ E hb (l.on k₁)) (fun f s' q => by obtain ⟨v, rfl, q⟩ := q; exact ⟨v, rfl, q⟩) fun _ _ x => x
  | false => exact wpAny_execs_nil ((h0 rfl).go s₁ E hb (l.on k₁))⟩
theorem blk_mono {ρ' : Rho} {b : List Stmt} (h : Blk w A env ρ' s₀ b t) (hs : ∀ p ∈ ρ', p ∈ ρ) : Blk w A env ρ s₀ b t := ⟨fun s E hb l => h.go s E hb (l.sub hs)⟩
end

/-- what a call of the def at a gives back -/
structure Fn (w : World) (A : Around) (a : Addr) (ts : List PyData) (t : PyData) : Prop where
  go : ∀ (s : Shared) (vs : List Value) (R : Result → Shared → Prop), Gd w s.heap → Reps s.heap ts vs → (∀ v s', Kp s s' → Rep s'.heap t v → R (.ok (.ret v)) s') →
    codeAny (model PR w) A (.call (.ref a) ⟨vs, []⟩) R s

theorem bindL_off {ko : Str → Option NameKind} {x : Str} : ∀ (b : List (Str × Value)) (m : Str → Option Value), x ∉ b.map (·.1) → bindL ko b m x = m x
  | [], _, _ => rfl
  | (n, v) :: r, m, h => by
    have h1 : x ≠ n := fun e => h (by simp [e])
    unfold bindL
    rw [bindL_off r _ fun e => h (List.mem_cons_of_mem _ e)]
    split
    · simp [h1]
    · rfl
theorem bindC_off {ko : Str → Option NameKind} {x : Str} : ∀ (b : List (Str × Value)) (m : Str → Option Value), x ∉ b.map (·.1) → bindC ko b m x = m x
  | [], _, _ => rfl
  | (n, v) :: r, m, h => by
    have h1 : x ≠ n := fun e => h (by simp [e])
    unfold bindC
    rw [bindC_off r _ fun e => h (List.mem_cons_of_mem _ e)]
    split
    · rfl
    · simp [h1]
theorem bindL_at {ko : Str → Option NameKind} {x : Str} {v : Value} (hl : ko x = some .local) : ∀ (b : List (Str × Value)) (m : Str → Option Value), (b.map (·.1)).Nodup → (x, v) ∈ b → bindL ko b m x = some v
  | (n, u) :: r, m, nd, h => by
    obtain ⟨nd1, nd2⟩ := List.nodup_cons.mp nd
    unfold bindL
    rcases List.mem_cons.mp h with e | h
    · cases e
      rw [bindL_off r _ nd1, if_pos hl]; simp
    · exact bindL_at hl r _ nd2 h
theorem bindC_at {ko : Str → Option NameKind} {x : Str} {v : Value} (hl : ¬ ko x = some .local) : ∀ (b : List (Str × Value)) (m : Str → Option Value), (b.map (·.1)).Nodup → (x, v) ∈ b → bindC ko b m x = some v
  | (n, u) :: r, m, nd, h => by
    obtain ⟨nd1, nd2⟩ := List.nodup_cons.mp nd
    unfold bindC
    rcases List.mem_cons.mp h with e | h
    · cases e
      rw [bindC_off r _ nd1, if_neg hl]; simp
    · exact bindC_at hl r _ nd2 h

theorem enter {w : World} {A : Around} {d : Nat} {a : Addr} {oc : Value} {od : Option Addr} {osl : Array (Option Value)} {fd : FuncData} {body : List Stmt} {ts : List PyData} {t : PyData} {names : List Str}
    (r : Rm d A) (hK : (hd.heap_39 w.params).lookup a = some ⟨oc, od, .func fd, osl⟩) (hcode : codeIn (hd.heap_39 w.params) fd.code fd.qualname = true) (hbody : fd.body = .stmts body) (hclo : fd.closure = [])
    (hglob : fd.globals = mainGlobals) (hbult : fd.builtins = builtinsNs) (hbind : ∀ vs : List Value, vs.length = names.length → bindArgs fd ⟨vs, []⟩ = pure (names.zip vs))
    (hlen : ts.length = names.length) (hnd : names.Nodup) (hdbg : ∀ x ∈ names, (x == ("__debug__" : Str)) = false)
    (hkind : ∀ x ∈ names, fd.scope.names.lookup x = some .local ∨ (fd.scope.names.lookup x = some .cell ∧ ∀ n, ((cellsFrom n fd.scope.names []).lookup x).isSome = true))
    (hco : fd.scope.isCoroutine = false) (hgen : fd.scope.isGenerator = false) (hk : fd.scope.kind = .function)
    (h : ∀ (s : Shared) (env : Env), EnvOk env → env.scope = fd.scope → env.cells = cellsFrom (env.locals + 1) fd.scope.names [] → Blk w (A.deeper env) env (names.zip ts) s body t) : Fn w A a ts t := by
  refine ⟨fun s vs R G rs hR => ?_⟩
  have hT := G.T
  obtain ⟨mean, mg, mb, T⟩ := hT
  have hvl : vs.length = names.length := by rw [rs.length, hlen]
  have hz : ∀ x ∈ names.zip vs, x.1 ∈ names := fun x hx => (List.of_mem_zip hx).1
  refine codeAny_call_cells r.depth (G.X _ _ hK) rfl T.nolimit (codeRec_of G.X hcode) hbody (hbind vs hvl) hclo (fun x hx => (hkind x.1 (hz x hx)).imp id fun q => ⟨q.1, q.2 _⟩) (fun s₁ I => ?_) hco hgen hk
  have hnx : ((names.zip vs).map (·.1)) = names := by rw [List.map_fst_zip]; omega
  refine wpAny_mono ((h s (callEnvC fd s.heap.objs.size a) ⟨hk, hglob, hbult⟩ rfl rfl).go s₁ (fun _ _ => False) s₁.heap ?_) (fun f s' q => ?_) fun _ _ x => x.elim
  · have fs : Fs (callEnvC fd s.heap.objs.size a) s.heap s₁.heap :=
      ⟨I.toInCall.keep, ⟨_, I.toInCall.ns⟩, I.toInCall.fresh, fun x c e => ⟨_, I.cell x c e⟩, fun x c e => I.above x c (mem_of_lookup e), I.apart⟩
    refine ⟨I.toInCall.same, fs, G, Ch.refl _ _, fun b o xs n e d => fs.own e d, fun p hp => ?_⟩
    obtain ⟨i, hi⟩ := List.mem_iff_getElem?.mp hp
    obtain ⟨h1, h2⟩ := List.getElem?_zip_eq_some.mp hi
    obtain ⟨v, h3, rv⟩ := rs.get h2
    have hm : (p.1, v) ∈ names.zip vs := List.mem_iff_getElem?.mpr ⟨i, List.getElem?_zip_eq_some.mpr ⟨h1, h3⟩⟩
    have hpn : p.1 ∈ names := List.mem_iff_getElem?.mpr ⟨i, h1⟩
    refine ⟨v, ⟨hdbg _ hpn, ?_⟩, rv.keeps I.toInCall.keep⟩
    rcases hkind _ hpn with q | ⟨q, q'⟩
    · exact .inl ⟨q, _, I.toInCall.ns, bindL_at q _ _ (by rw [hnx]; exact hnd) hm⟩
    · obtain ⟨c, hc⟩ := Option.isSome_iff_exists.mp (q' (s.heap.objs.size + 1))
      have hnl : ¬ (callEnvC fd s.heap.objs.size a).kindOf p.1 = some .local := by
        intro e
        have e' : fd.scope.names.lookup p.1 = some .local := e
        rw [q] at e'; cases e'
      have := I.cell p.1 c hc
      rw [bindC_at hnl _ _ (by rw [hnx]; exact hnd) hm] at this
      exact .inr ⟨q, c, hc, this⟩
  · obtain ⟨v, rfl, k, rv⟩ := q
    exact hR v s' k rv
/- part F5 -/

section
variable {w : World} {A : Around} {env : Env} {ρ : Rho}
theorem tst_and {x y : PySem.Expr} {pos : Pos} {a b : Bool} (hx : Tst w A env ρ x a) (hy : a = true → Tst w A env ρ y b) : Tst w A env ρ (.BoolOp .And [x, y] pos) (a && b) := ⟨fun s E c => by
  show wpAny _ A (isTrue x env (eval x env) >>= fun r => _) _ _ _
  refine wpAny_bind (wpAny_mono (hx.go s E c) (fun r s₁ ⟨e, k⟩ => ?_) fun _ _ x => x)
  subst e
  cases r with
  | false => exact wpAny_pure ⟨rfl, k⟩
  | true =>
    show wpAny _ A (isTrue y env (eval y env) >>= fun r => _) _ _ _
    refine wpAny_bind (wpAny_mono ((hy rfl).go s₁ E (c.on k)) (fun r s₂ ⟨e, k₂⟩ => ?_) fun _ _ x => x)
    subst e
    cases r <;> exact wpAny_pure ⟨rfl, k.trans k₂⟩⟩
theorem tst_or {x y : PySem.Expr} {pos : Pos} {a b : Bool} (hx : Tst w A env ρ x a) (hy : a = false → Tst w A env ρ y b) : Tst w A env ρ (.BoolOp .Or [x, y] pos) (a || b) := ⟨fun s E c => by
  show wpAny _ A (isTrue x env (eval x env) >>= fun r => _) _ _ _
  refine wpAny_bind (wpAny_mono (hx.go s E c) (fun r s₁ ⟨e, k⟩ => ?_) fun _ _ x => x)
  subst e
  cases r with
  | true => exact wpAny_pure ⟨rfl, k⟩
  | false =>
    show wpAny _ A (isTrue y env (eval y env) >>= fun r => _) _ _ _
    refine wpAny_bind (wpAny_mono ((hy rfl).go s₁ E (c.on k)) (fun r s₂ ⟨e, k₂⟩ => ?_) fun _ _ x => x)
    subst e
    cases r <;> exact wpAny_pure ⟨rfl, k.trans k₂⟩⟩
end

theorem fill_now (P : Params) : PySem.Challenge.rw_pm0018_01.foot = 9 ∧ hd.heap_39 P = hd.heap_39 P := by
  k_fill
  exact ⟨rfl, rfl⟩


noncomputable def lengths (y : Int) : List Int := if y % 4 == 0 && (y % 100 != 0 || y % 400 == 0) then [31, 29, 31, 30, 31, 30, 31, 31, 30, 31, 30, 31] else [31, 28, 31, 30, 31, 30, 31, 31, 30, 31, 30, 31]

theorem fit0 {P : List Value → Prop} (h : P []) : ∀ vs, vs.length = 0 → P vs := fun vs e => List.length_eq_zero_iff.mp e ▸ h
theorem fitS {n : Nat} {P : List Value → Prop} (h : ∀ a vs, vs.length = n → P (a :: vs)) : ∀ vs, vs.length = n + 1 → P vs
  | [], e => nomatch e
  | a :: vs, e => h a vs (Nat.succ.inj e)
theorem fit1 {P : List Value → Prop} (h : ∀ a, P [a]) : ∀ vs, vs.length = 1 → P vs := fitS fun a => fit0 (h a)
theorem fit2 {P : List Value → Prop} (h : ∀ a b, P [a, b]) : ∀ vs, vs.length = 2 → P vs := fitS fun a => fit1 (h a)
theorem fit4 {P : List Value → Prop} (h : ∀ a b c d, P [a, b, c, d]) : ∀ vs, vs.length = 4 → P vs := fitS fun a => fitS fun b => fit2 (h a b)
theorem fit6 {P : List Value → Prop} (h : ∀ a b c d e f, P [a, b, c, d, e, f]) : ∀ vs, vs.length = 6 → P vs := fitS fun a => fitS fun b => fit4 (h a b)
theorem fit7 {P : List Value → Prop} (h : ∀ a b c d e f g, P [a, b, c, d, e, f, g]) : ∀ vs, vs.length = 7 → P vs := fitS fun a => fit6 (h a)
theorem fn_lengths {w : World} {A : Around} {d : Nat} (r : Rm (d + 1) A) (y : Int) : Fn w A 138 [.int y] (.list ((lengths y).map .int)) := by
  refine' enter (names := [Str.ofString "year"]) r ?k1 ?k2 ?k3 ?k4 ?k5 ?k6 ?k7 ?k8 ?k9 ?k10 ?k11 ?k12 ?k13 ?k14 ?k15
  case k1 => k_is
  case k2 => k_is
  case k3 => exact rfl
  case k4 => exact rfl
  case k5 => exact rfl
  case k6 => exact rfl
  case k7 => exact fit1 fun _ => rfl
  case k8 => exact rfl
  case k9 => decide
  case k10 => decide
  case k11 => intro x hx; left; simp at hx; subst hx; exact rfl
  case k12 => exact rfl
  case k13 => exact rfl
  case k14 => exact rfl
  intro s env he hs hc
  refine blk_if (tst_and (tst_cmp (ev_bin (ev_name he (by (repeat (first | exact List.Mem.head _ | refine List.Mem.tail _ ?_)))) ev_int (bin_mod (by decide))) ev_int cmp_eqI) fun _ => tst_or (tst_cmp (ev_bin (ev_name he (by (repeat (first | exact List.Mem.head _ | refine List.Mem.tail _ ?_)))) ev_int (bin_mod (by decide))) ev_int cmp_neI) fun _ => (tst_cmp (ev_bin (ev_name he (by (repeat (first | exact List.Mem.head _ | refine List.Mem.tail _ ?_)))) ev_int (bin_mod (by decide))) ev_int cmp_eqI)) (fun h => ?_) (fun h => ?_)
  · unfold lengths
    rw [if_pos h]
    exact blk_return (ev_list (by (repeat (first | exact evl_nil | refine evl_cons ev_int ?_ | refine evl_cons ev_str ?_))))
  · unfold lengths
    rw [if_neg (by rw [h]; decide)]
    exact blk_return (ev_list (by (repeat (first | exact evl_nil | refine evl_cons ev_int ?_ | refine evl_cons ev_str ?_))))
/- part F6 -/

section
variable {w : World} {A : Around} {env : Env} {ρ : Rho}
/-- a name of the module's -/
theorem name_top {x : Str} {pos : Pos} {v : Value} (he : EnvOk env) (hx : env.kindOf x = some .globalImplicit) (hn : nsIn (hd.heap_39 w.params) mainGlobals x = some (some v)) (hd : (x == ("__debug__" : Str)) = false)
    {s : Shared} {E : Value → Shared → Prop} {Q : Value → Shared → Prop} (G : Gd w s.heap) (h : Q v s) : wpAny (model PR w) A (eval (.Name x pos) env) Q E s := by
  obtain ⟨mean, mg, mb, T⟩ := G.T
  exact Name_function_global he.kind hx (loadGlobal_global (env := env) (by rw [he.glob]; exact T.g) (mg_of G.X T.g hn) h) hd
theorem name_boot {x : Str} {pos : Pos} {v : Value} (he : EnvOk env) (hx : env.kindOf x = some .globalImplicit) (hn : nsIn (hd.heap_39 w.params) mainGlobals x = some none) (hb : bootBuiltins x = some v) (hne : x ≠ "__name__") (hd : (x == ("__debug__" : Str)) = false)
    {s : Shared} {E : Value → Shared → Prop} {Q : Value → Shared → Prop} (G : Gd w s.heap) (h : Q v s) : wpAny (model PR w) A (eval (.Name x pos) env) Q E s := by
  obtain ⟨mean, mg, mb, T⟩ := G.T
  exact Name_function_global he.kind hx (loadGlobal_builtin (env := env) (by rw [he.glob]; exact T.g) (mg_none_of G.X T.g hn) (by rw [he.bult]; exact T.b) ((T.builtins x hne).trans hb) h) hd
theorem ev_top {x : Str} {pos : Pos} {v : Value} {t : PyData} (he : EnvOk env) (hx : env.kindOf x = some .globalImplicit) (hn : nsIn (hd.heap_39 w.params) mainGlobals x = some (some v)) (hd : (x == ("__debug__" : Str)) = false)
    (hr : ∀ h, Gd w h → Rep h t v) : Evs w A env ρ (.Name x pos) t := ⟨fun s E c =>
  name_top he hx hn hd c.gd ⟨Kp.refl s, hr _ c.gd⟩⟩

/-- a def's name, known to the module -/
structure Def (w : World) (f : Str) (a : Addr) : Prop where
  at_ : nsIn (hd.heap_39 w.params) mainGlobals f = some (some (.ref a))
  keep : keepIn (hd.heap_39 w.params) (.ref a) = true
  dbg : (f == ("__debug__" : Str)) = false

theorem ev_call {f : Str} {p pos : Pos} {a : Addr} {e : PySem.Expr} {es : List PySem.Expr} {ts : List PyData} {t : PyData} (he : EnvOk env) (D : Def w f a) (hx : env.kindOf f = some .globalImplicit) (ha : EvsL w A env ρ (e :: es) ts) (hf : Fn w A a ts t)
    (hs : starEach (e :: es) env = (false, eval e env) :: starEach es env := by rfl) (hp : (backTo pos (starEach es env)).any (·.1) = false := by rfl) : Evs w A env ρ (.Call (.Name f p) (e :: es) [] pos) t := ⟨fun s E c => by
  refine wpAny_Call_NameR (name_top he hx D.at_ D.dbg c.gd ?_)
  refine callWith_K c.gd.X D.keep (wpAny_mono (ha.go pos s E c) (fun vs s₁ ⟨k, r⟩ => ⟨(c.on k).gd.X, ?_⟩) fun _ _ x => x) hs hp
  exact wpAny_call (hf.go s₁ vs _ (c.on k).gd r fun v s' k' r' => ⟨k.trans k', r'⟩)⟩

/-- a call of a built-in function of one argument -/
abbrev Bi1 (w : World) (A : Around) (f : Value) (a t : PyData) : Prop :=
  ∀ (s : Shared) (E : Value → Shared → Prop) (u : Value), Gd w s.heap → Rep s.heap a u → wpAny (model PR w) A (call f [u]) (fun r s' => Kp s s' ∧ Rep s'.heap t r) E s
structure Bts (w : World) (f : Str) (v : Value) : Prop where
  at_ : nsIn (hd.heap_39 w.params) mainGlobals f = some none
  boot : bootBuiltins f = some v
  name : f ≠ "__name__"
  dbg : (f == ("__debug__" : Str)) = false
theorem ev_bi {f : Str} {p pos : Pos} {id : String} {e : PySem.Expr} {a t : PyData} (he : EnvOk env) (D : Bts w f (.builtin id)) (hx : env.kindOf f = some .globalImplicit) (ha : Evs w A env ρ e a) (hf : Bi1 w A (.builtin id) a t)
    (hs : starEach [e] env = [(false, eval e env)] := by rfl) : Evs w A env ρ (.Call (.Name f p) [e] [] pos) t := ⟨fun s E c => by
  refine wpAny_Call_NameR (name_boot he hx D.at_ D.boot D.name D.dbg c.gd ?_)
  rw [hs]
  refine callWith_builtin1 (wpAny_mono (ha.go s E c) (fun v s₁ ⟨k, r⟩ => ?_) fun _ _ x => x)
  exact wpAny_mono (hf s₁ E v (c.on k).gd r) (fun r s' ⟨k', r'⟩ => ⟨k.trans k', r'⟩) fun _ _ x => x⟩
theorem ev_ty {f : Str} {p pos : Pos} {id : String} {e : PySem.Expr} {a t : PyData} (he : EnvOk env) (D : Bts w f (.type id)) (hx : env.kindOf f = some .globalImplicit) (ha : Evs w A env ρ e a) (hf : Bi1 w A (.type id) a t)
    (hs : starEach [e] env = [(false, eval e env)] := by rfl) : Evs w A env ρ (.Call (.Name f p) [e] [] pos) t := ⟨fun s E c => by
  refine wpAny_Call_NameR (name_boot he hx D.at_ D.boot D.name D.dbg c.gd ?_)
  rw [hs]
  refine PySem.callWith_type1 (wpAny_mono (ha.go s E c) (fun v s₁ ⟨k, r⟩ => ?_) fun _ _ x => x)
  exact wpAny_mono (hf s₁ E v (c.on k).gd r) (fun r s' ⟨k', r'⟩ => ⟨k.trans k', r'⟩) fun _ _ x => x⟩

theorem ints_at {h : Heap} : ∀ {ns : List Int} {vs : List Value}, Reps h (ns.map PyData.int) vs → ∀ (i : Nat) (v : Value), vs[i]? = some v → ∃ t, v = Value.int (ns.getD i 0) t := fun {ns vs} r i v hi => by
  obtain ⟨d, hd, q⟩ := r.at hi
  rw [List.getElem?_map] at hd
  obtain ⟨n, hn, rfl⟩ := Option.map_eq_some_iff.mp hd
  obtain ⟨t, rfl⟩ := q.int_inv
  exact ⟨t, by rw [List.getD_eq_getElem?_getD, hn]; rfl⟩

theorem bi_sum {d : Nat} {ns : List Int} (r : Rm d A) : Bi1 w A (.builtin "sum") (.list (ns.map PyData.int)) (.int ns.sum) := fun s E u G ru => by
  obtain ⟨a, vs, rfl, hl, rl⟩ := ru.list_inv
  have hlen : vs.size = ns.length := by have := rl.length; simpa using this
  have hl := hl.isList
  obtain ⟨ol, hol, hol'⟩ := id hl
  have hax : a < s.heap.objs.size := Heap.lt_size hol
  refine call_sum_walkG (wpAny_pyIter_list hl ?_)
  refine ⟨s.heap.objs.size, [s.heap.objs.size, a], [s.heap.objs.size], vs.size, fun i v => vs[i]? = some v, _, fun i => ns.getD i 0, rfl, Walks.list (A := A.in1) r.hh s.heap.objs.size a (Nat.ne_of_lt hax) vs,
    ⟨⟨_, Heap.get?_push_size _ rfl, rfl, rfl⟩, hl.push _⟩, ?_, ?_, ?_⟩
  · intro b hb
    show b < (s.heap.push _).objs.size
    rw [Heap.size_push]
    rcases List.mem_cons.mp hb with rfl | hb
    · exact Nat.lt_succ_self _
    · rcases List.mem_cons.mp hb with rfl | hb
      · exact Nat.lt_succ_of_lt hax
      · cases hb
  · intro i v hv
    exact ints_at rl i v (by simpa using hv)
  · intro h' tk t' hk
    rw [preSum_getD, hlen, List.take_length]
    refine ⟨⟨h', tk, rfl, fun b o e => hk b o ?_ (Heap.get?_push_of_some _ e)⟩, .int _ _⟩
    intro hm
    have hlt := Heap.lt_size e
    rw [List.mem_singleton.mp hm] at hlt
    exact Nat.lt_irrefl _ hlt

theorem bi_str {n : Int} (h : n.natAbs < 10 ^ 10) : Bi1 w A (.type "str") (.int n) (.str (toString n)) := fun s E u G ru => by
  obtain ⟨t, rfl⟩ := ru.int_inv
  refine str_of_int_fit (N := 10 ^ 10) (by split <;> omega) (by decide) fun _ => ⟨Kp.tok s _, .str _ _⟩
end
/- part F7 -/

/-- plain, or a tuple of plain ones -/
noncomputable def fl2 : PyData → Bool
  | .tuple xs => xs.all flat
  | x => flat x
/-- what a heap keeps of another's tuples -/
noncomputable def KTup (h h' : Heap) : Prop := ∀ b o xs n, h.get? b = some o → o.cls = .type "tuple" → o.data = .seq xs n → h'.get? b = some o
theorem Reps.flat {h h' : Heap} : ∀ {ds : List PyData} {vs : List Value}, Reps h ds vs → ds.all Mine.flat = true → Reps h' ds vs
  | [], vs, r, _ => by rw [r.nil_inv]; exact .nil
  | d :: ds, vs, r, f => by
    obtain ⟨v, r', rfl, a, b⟩ := r.cons_inv
    rw [List.all_cons, Bool.and_eq_true] at f
    exact .cons (a.flat f.1) (Reps.flat b f.2)
theorem Rep.ktup {h h' : Heap} {d : PyData} {v : Value} (r : Rep h d v) (f : fl2 d = true) (k : KTup h h') : Rep h' d v := by
  cases d with
  | tuple xs =>
    obtain ⟨a, vs, rfl, ⟨n, h1⟩, r'⟩ := r.tuple_inv
    exact .tuple (k _ _ _ _ h1 rfl rfl) (r'.flat f)
  | _ => exact r.flat f
theorem Reps.ktup {h h' : Heap} (k : KTup h h') : ∀ {ds : List PyData} {vs : List Value}, Reps h ds vs → (∀ d ∈ ds, fl2 d = true) → Reps h' ds vs
  | [], vs, r, _ => by rw [r.nil_inv]; exact .nil
  | d :: ds, vs, r, f => by
    obtain ⟨v, r', rfl, a, b⟩ := r.cons_inv
    exact .cons (a.ktup (f _ (.head _)) k) (Reps.ktup k b fun e he => f e (.tail _ he))

theorem lets_go {w : World} {A : Around} {s : Shared} {I : Addr} {o : Obj} {n : String} (ho : s.heap.get? I = some o) (hc : o.cls = .type n)
    (hn : ["enumerate", "zip", "dict_itemiterator", "dict_reverseitemiterator", "odict_iterator", "itertools.zip_longest", "itertools.pairwise"].contains n = false)
    (tg : PySem.Expr) (v : Value) {E : Value → Shared → Prop} {Q : Unit → Shared → Prop} (h : Q () s) : wpAny (model PR w) A (letOwnedTupleGo tg (.ref I) v) Q E s := by
  have key : ∀ elts x1 pos, wpAny (model PR w) A (letOwnedTupleGo (.Tuple elts x1 pos) (.ref I) v) Q E s := fun elts x1 pos => by
    cases v with
    | ref T =>
      unfold letOwnedTupleGo
      refine wpAny_bind (wpAny_load ho ?_)
      rw [hc]
      cases hd : o.data with
      | fields vs =>
        dsimp only
        rw [hn, Bool.false_and]
        exact wpAny_pure h
      | _ => exact wpAny_pure h
    | _ => exact wpAny_pure h
  have key2 : ∀ elts pos, wpAny (model PR w) A (letOwnedTupleGo (.List elts pos) (.ref I) v) Q E s := fun elts pos => by
    cases v with
    | ref T =>
      unfold letOwnedTupleGo
      refine wpAny_bind (wpAny_load ho ?_)
      rw [hc]
      cases hd : o.data with
      | fields vs =>
        dsimp only
        rw [hn, Bool.false_and]
        exact wpAny_pure h
      | _ => exact wpAny_pure h
    | _ => exact wpAny_pure h
  cases tg with
  | Tuple elts x1 pos => exact key elts x1 pos
  | List elts pos => exact key2 elts pos
  | _ => exact wpAny_pure h

/-- an iterator over data -/
structure Itr (w : World) (A : Around) (h : Heap) (I : Addr) (fp wr : List Addr) (ts : List PyData) (P : Nat → Value → Prop) (St : Nat → Heap → Prop) : Prop where
  W : Walks PR w A I fp wr ts.length P St
  st : St 0 h
  lt : ∀ b ∈ fp, b < h.objs.size
  fl : ∀ i h', St i h' → ∀ b ∈ wr, ∃ o xs, h'.get? b = some o ∧ o.data = .fields xs
  fp : ∀ b ∈ fp, ∃ o, h.get? b = some o ∧ ((∃ xs, o.data = .fields xs) ∨ ∃ xs n, o.data = .seq xs n ∧ Reps h ts xs.toList)
  it : ∀ i v, P i v → ∃ t, ts[i]? = some t ∧ Rep h t v
  lg : ∀ i (s : Shared) (tg : PySem.Expr) (v : Value) (E : Value → Shared → Prop) (Q : Unit → Shared → Prop), St i s.heap → Q () s → wpAny (model PR w) A (letOwnedTupleGo tg (.ref I) v) Q E s
/-- an expression that is iterated -/
structure Src (w : World) (A : Around) (env : Env) (ρ : Rho) (e : PySem.Expr) (ts : List PyData) : Prop where
  go : ∀ (s : Shared) (E : Value → Shared → Prop) (Q : Value → Shared → Prop), Cx w env ρ s.heap →
    (∀ I fp wr P St s', Kp s s' → Itr w A s'.heap I fp wr ts P St → (∀ b ∈ wr, s.heap.get? b = none) → Q (.ref I) s') →
    wpAny (model PR w) A (eval e env) (fun x s₁ => wpAny (model PR w) A (pyIter x) Q E s₁) E s

section
variable {w : World} {A : Around} {env : Env} {ρ : Rho}
theorem new_of_size {s : Shared} : s.heap.get? s.heap.objs.size = none := by
  cases e : s.heap.get? s.heap.objs.size with
  | none => rfl
  | some o => exact absurd (Heap.lt_size e) (Nat.lt_irrefl _)
theorem Kp.none {s s' : Shared} (k : Kp s s') {b : Addr} (e : s'.heap.get? b = none) : s.heap.get? b = none := by
  cases q : s.heap.get? b with
  | none => rfl
  | some o => rw [k.ext b o q] at e; cases e
theorem src_list {d : Nat} {e : PySem.Expr} {ts : List PyData} (r : Rm d A) (h : Evs w A env ρ e (.list ts)) : Src w A env ρ e ts := ⟨fun s E Q c hQ => by
  refine wpAny_mono (h.go s E c) (fun x s₁ ⟨k, q⟩ => ?_) fun _ _ x => x
  obtain ⟨a, vs, rfl, hl, rl⟩ := q.list_inv
  have hlen : vs.size = ts.length := by have := rl.length; simpa using this
  have hl := hl.isList
  obtain ⟨ol, hol, hol'⟩ := id hl
  have hax : a < s₁.heap.objs.size := Heap.lt_size hol
  have hk := Kp.push' s₁ { cls := .type "list_iterator", data := .fields #[.ref a, .int 0 0] }
  refine wpAny_pyIter_list hl (hQ s₁.heap.objs.size [s₁.heap.objs.size, a] [s₁.heap.objs.size] (fun i v => vs[i]? = some v) _ _ (k.trans hk) ⟨hlen ▸ Walks.list r.hh s₁.heap.objs.size a (Nat.ne_of_lt hax) vs,
    ⟨⟨_, Heap.get?_push_size _ rfl, rfl, rfl⟩, hl.push _⟩, ?_, ?_, ?_, ?_, fun i s' tg v E' Q' st hq => let ⟨o, e1, e2, _⟩ := st.1; lets_go e1 e2 (by decide) tg v hq⟩ ?_)
  · intro b hb
    show b < (s₁.heap.push _).objs.size
    rw [Heap.size_push]
    rcases List.mem_cons.mp hb with rfl | hb
    · exact Nat.lt_succ_self _
    · rcases List.mem_cons.mp hb with rfl | hb
      · exact Nat.lt_succ_of_lt hax
      · cases hb
  · rintro i h' ⟨⟨o, e, _, q⟩, _⟩ b hb
    rw [List.mem_singleton.mp hb]
    exact ⟨_, _, e, q⟩
  · intro b hb
    rcases List.mem_cons.mp hb with rfl | hb
    · exact ⟨_, Heap.get?_push_size _ rfl, .inl ⟨_, rfl⟩⟩
    · rw [List.mem_singleton.mp hb]
      obtain ⟨hc, n, hd⟩ := hol'
      exact ⟨_, Heap.get?_push_of_some _ hol, .inr ⟨_, _, hd, rl.keeps hk.ext⟩⟩
  · intro i v hv
    obtain ⟨t, h1, h2⟩ := rl.at (i := i) (v := v) (by simpa using hv)
    exact ⟨t, h1, h2.keeps hk.ext⟩
  · intro b hb
    rw [List.mem_singleton.mp hb]
    exact k.none new_of_size⟩
theorem src_tuple {d : Nat} {e : PySem.Expr} {ts : List PyData} (r : Rm d A) (h : Evs w A env ρ e (.tuple ts)) : Src w A env ρ e ts := ⟨fun s E Q c hQ => by
  refine wpAny_mono (h.go s E c) (fun x s₁ ⟨k, q⟩ => ?_) fun _ _ x => x
  obtain ⟨a, vs, rfl, hl, rl⟩ := q.tuple_inv
  have hlen : vs.size = ts.length := by have := rl.length; simpa using this
  have hl := hl.isTup
  obtain ⟨ol, hol, hol'⟩ := id hl
  have hax : a < s₁.heap.objs.size := Heap.lt_size hol
  have hk := Kp.push' s₁ { cls := .type "tuple_iterator", data := .fields #[.ref a, .int 0 0] }
  refine wpAny_pyIter_tuple hl (hQ s₁.heap.objs.size [s₁.heap.objs.size, a] [s₁.heap.objs.size] (fun i v => vs[i]? = some v) _ _ (k.trans hk) ⟨hlen ▸ Walks.tuple r.hh s₁.heap.objs.size a (Nat.ne_of_lt hax) vs,
    ⟨⟨_, Heap.get?_push_size _ rfl, rfl, rfl⟩, ⟨ol, Heap.get?_push_of_some _ hol, hol'⟩⟩, ?_, ?_, ?_, ?_, fun i s' tg v E' Q' st hq => let ⟨o, e1, e2, _⟩ := st.1; lets_go e1 e2 (by decide) tg v hq⟩ ?_)
  · intro b hb
    show b < (s₁.heap.push _).objs.size
    rw [Heap.size_push]
    rcases List.mem_cons.mp hb with rfl | hb
    · exact Nat.lt_succ_self _
    · rcases List.mem_cons.mp hb with rfl | hb
      · exact Nat.lt_succ_of_lt hax
      · cases hb
  · rintro i h' ⟨⟨o, e, _, q⟩, _⟩ b hb
    rw [List.mem_singleton.mp hb]
    exact ⟨_, _, e, q⟩
  · intro b hb
    rcases List.mem_cons.mp hb with rfl | hb
    · exact ⟨_, Heap.get?_push_size _ rfl, .inl ⟨_, rfl⟩⟩
    · rw [List.mem_singleton.mp hb]
      obtain ⟨hc, n, hd⟩ := hol'
      exact ⟨_, Heap.get?_push_of_some _ hol, .inr ⟨_, _, hd, rl.keeps hk.ext⟩⟩
  · intro i v hv
    obtain ⟨t, h1, h2⟩ := rl.at (i := i) (v := v) (by simpa using hv)
    exact ⟨t, h1, h2.keeps hk.ext⟩
  · intro b hb
    rw [List.mem_singleton.mp hb]
    exact k.none new_of_size⟩
theorem src_range (I : Addr) {d : Nat} (r : Rm d A) {s₁ : Shared} {a : Int} {n : Nat} {E : Value → Shared → Prop} {Q : Value → Shared → Prop} {rg : Addr} {t u v : Tok} (hr : IsRange s₁.heap rg a (a + n) 1 t u v) (ha : -1000000 ≤ a) (ha2 : a ≤ 1000000) (hn : n ≤ 100000)
    (hQ : ∀ I fp wr P St s', Kp s₁ s' → Itr w A s'.heap I fp wr ((List.range n).map fun i : Nat => PyData.int (a + i)) P St → (∀ b ∈ wr, s₁.heap.get? b = none) → Q (.ref I) s') :
    wpAny (model PR w) A (pyIter (.ref rg)) Q E s₁ := by
  have hsz : Builtin.Range.rangeSize a (a + n) 1 = (n : Int) := by rw [rangeSize_one]; split <;> omega
  refine wpAny_pyIter_range hr (small_one (by omega) (by omega) (by omega) (by omega)) ?_
  refine hQ s₁.heap.objs.size [s₁.heap.objs.size] [s₁.heap.objs.size] (fun i v => i < n ∧ ∃ t, v = .int (a + i * 1) t) _ _ (Kp.push' s₁ _) ⟨by rw [List.length_map, List.length_range]; exact (Walks.range r.hh s₁.heap.objs.size a 1 n).bound, ?_, ?_, ?_, ?_, ?_, fun i s' tg v E' Q' st hq => lets_go (show s'.heap.get? _ = some _ from st) rfl (by decide) tg v hq⟩ ?_
  · show IsRangeIter _ _ _ _ _
    rw [hsz]
    simpa using Heap.get?_push_size _ rfl
  · intro b hb
    rw [List.mem_singleton.mp hb]
    show _ < (s₁.heap.push _).objs.size
    rw [Heap.size_push]; exact Nat.lt_succ_self _
  · intro i h' e b hb
    rw [List.mem_singleton.mp hb]
    exact ⟨_, _, e, rfl⟩
  · intro b hb
    rw [List.mem_singleton.mp hb]
    exact ⟨_, Heap.get?_push_size _ rfl, .inl ⟨_, rfl⟩⟩
  · rintro i v ⟨hi, t, rfl⟩
    refine ⟨.int (a + i), by simp [hi], ?_⟩
    rw [Int.mul_one]
    exact .int _ _
  · intro b hb
    rw [List.mem_singleton.mp hb]
    exact new_of_size

theorem src_range1 {d : Nat} {e : PySem.Expr} {p pos : Pos} {n : Nat} (r : Rm d A) (he : EnvOk env) (D : Bts w "range" (.type "range")) (hx : env.kindOf "range" = some .globalImplicit) (h : Evs w A env ρ e (.int n)) (hn : n ≤ 100000)
    (hs : starEach [e] env = [(false, eval e env)] := by rfl) : Src w A env ρ (.Call (.Name "range" p) [e] [] pos) ((List.range n).map fun i : Nat => PyData.int (0 + i)) := ⟨fun s E Q c hQ => by
  refine wpAny_Call_NameR (name_boot he hx D.at_ D.boot D.name D.dbg c.gd ?_)
  rw [hs]
  refine PySem.callWith_type1 (wpAny_mono (h.go s E c) (fun v s₁ ⟨k, q⟩ => ?_) fun _ _ x => x)
  obtain ⟨t, rfl⟩ := q.int_inv
  refine call_range_1 ?_
  have k2 := k.trans (Kp.push s₁ { cls := .type "range", data := .fields #[.int 0 s₁.toks, .int n t, .int 1 (s₁.toks + 1)] } (s₁.toks + 1 + 1))
  exact src_range 0 r (a := 0) (n := n) (by rw [Int.zero_add]; exact IsRange.new ..) (by decide) (by decide) hn fun I fp wr P St s' k' i w' => hQ I fp wr P St s' (k2.trans k') i fun b hb => k2.none (w' b hb)⟩
theorem src_range2 {d : Nat} {e e' : PySem.Expr} {p pos : Pos} {a : Int} {n : Nat} (r : Rm d A) (he : EnvOk env) (D : Bts w "range" (.type "range")) (hx : env.kindOf "range" = some .globalImplicit) (h : Evs w A env ρ e (.int a)) (h' : Evs w A env ρ e' (.int (a + n))) (ha : -1000000 ≤ a) (ha2 : a ≤ 1000000) (hn : n ≤ 100000)
    (hs : starEach [e, e'] env = [(false, eval e env), (false, eval e' env)] := by rfl) : Src w A env ρ (.Call (.Name "range" p) [e, e'] [] pos) ((List.range n).map fun i : Nat => PyData.int (a + i)) := ⟨fun s E Q c hQ => by
  refine wpAny_Call_NameR (name_boot he hx D.at_ D.boot D.name D.dbg c.gd ?_)
  rw [hs]
  refine PySem.callWith_type rfl (evalArgs_plain (spliced_cons (wpAny_mono (h.go s E c) (fun v s₁ ⟨k, q⟩ => ?_) fun _ _ x => x)))
  refine spliced_cons (wpAny_mono (h'.go s₁ E (c.on k)) (fun v' s₂ ⟨k', q'⟩ => spliced_nil ?_) fun _ _ x => x)
  obtain ⟨t, rfl⟩ := q.int_inv
  obtain ⟨t', rfl⟩ := q'.int_inv
  refine call_range_2 ?_
  have k2 := (k.trans k').trans (Kp.push s₂ { cls := .type "range", data := .fields #[.int a t, .int (a + n) t', .int 1 s₂.toks] } (s₂.toks + 1))
  exact src_range 0 r (a := a) (n := n) (IsRange.new ..) ha ha2 hn fun I fp wr P St s' k' i w' => hQ I fp wr P St s' (k2.trans k') i fun b hb => k2.none (w' b hb)⟩
end
/- part F8 -/

noncomputable def recell (names : List (Str × NameKind)) : List (Str × NameKind) := names.map fun p => if p.2 == .free then (p.1, .cell) else p
noncomputable def clOf (cells : List (Str × Addr)) : List (Str × NameKind) → List (Str × Addr) → List (Str × Addr)
  | [], acc => acc
  | (n, k) :: r, acc => if k == .free then clOf cells r ((n, (cells.lookup n).getD 0) :: acc) else clOf cells r acc
theorem closure_go {env : Env} (f : Str × NameKind → List (Str × Addr) → Sem (ForInStep (List (Str × Addr))))
    (hf : ∀ n k acc, f (n, k) acc = if (k == .free) = true then (do let a ← cellOf env n; pure (.yield ((n, a) :: acc))) else pure (.yield acc)) :
    ∀ (names : List (Str × NameKind)) (acc : List (Str × Addr)), (∀ y ∈ names, y.2 = .free → (env.cells.lookup y.1).isSome = true) → forIn names acc f = pure (clOf env.cells names acc)
  | [], acc, _ => rfl
  | (n, k) :: r, acc, h => by
    rw [List.forIn_cons, hf]
    unfold clOf
    have ih := fun acc' => closure_go f hf r acc' fun y hy => h y (List.mem_cons_of_mem _ hy)
    by_cases hk : (k == .free) = true
    · rw [if_pos hk, if_pos hk]
      obtain ⟨c, hc⟩ := Option.isSome_iff_exists.mp (h _ (.head _) (by simpa using hk))
      have : cellOf env n = pure c := by unfold cellOf; rw [hc]
      rw [this, hc]
      exact ih _
    · rw [if_neg hk, if_neg hk]
      exact ih _
theorem closureFor_eq {scope : Scope} {env : Env} (h : ∀ y ∈ scope.names, y.2 = .free → (env.cells.lookup y.1).isSome = true) : closureFor scope env = pure (clOf env.cells scope.names []) := by
  unfold closureFor
  have e := closure_go (env := env) (fun (x : Str × NameKind) (cs : List (Str × Addr)) => match x with | (name, kind) => if (kind == NameKind.free) = true then do let a ← cellOf env name; pure (.yield ((name, a) :: cs)) else pure (.yield cs)) (fun n k acc => rfl) _ [] h
  dsimp only
  rw [show (forIn scope.names ([] : List (Str × Addr)) _ : Sem _) = _ from e]
  rfl
theorem clOf_is {cells : List (Str × Addr)} : ∀ (names : List (Str × NameKind)) (acc : List (Str × Addr)), (∀ y ∈ names, y.2 = .free → (cells.lookup y.1).isSome = true) → (∀ p ∈ acc, cells.lookup p.1 = some p.2) → ∀ p ∈ clOf cells names acc, cells.lookup p.1 = some p.2
  | [], _, _, h => h
  | (n, k) :: r, acc, hy, h => by
    unfold clOf
    split
    · rename_i hk
      refine clOf_is r _ (fun y q => hy y (List.mem_cons_of_mem _ q)) fun p hp => ?_
      rcases List.mem_cons.mp hp with rfl | hp
      · obtain ⟨c, hc⟩ := Option.isSome_iff_exists.mp (hy _ (.head _) (by simpa using hk))
        show cells.lookup n = some ((cells.lookup n).getD 0)
        rw [hc]; rfl
      · exact h p hp
    · exact clOf_is r _ (fun y q => hy y (List.mem_cons_of_mem _ q)) h
theorem clOf_has {cells : List (Str × Addr)} {x : Str} : ∀ (names : List (Str × NameKind)) (acc : List (Str × Addr)), (x, NameKind.free) ∈ names ∨ (acc.lookup x).isSome = true → ((clOf cells names acc).lookup x).isSome = true
  | [], acc, h => h.elim (fun q => by cases q) id
  | (n, k) :: r, acc, h => by
    unfold clOf
    split
    · refine clOf_has r _ ?_
      rcases h with h | h
      · rcases List.mem_cons.mp h with e | h
        · cases e; right; simp [List.lookup_cons]
        · exact .inl h
      · right
        rw [List.lookup_cons]
        cases hx : x == n with
        | true => rfl
        | false => exact h
    · rename_i hk
      refine clOf_has r _ ?_
      rcases h with h | h
      · rcases List.mem_cons.mp h with e | h
        · cases e; exact absurd (by rfl) hk
        · exact .inl h
      · exact .inr h
theorem clOf_at {cells : List (Str × Addr)} {names : List (Str × NameKind)} {x : Str} {c : Addr} (hy : ∀ y ∈ names, y.2 = .free → (cells.lookup y.1).isSome = true) (hx : (x, NameKind.free) ∈ names) (hc : cells.lookup x = some c) :
    (clOf cells names []).lookup x = some c := by
  obtain ⟨c', h'⟩ := Option.isSome_iff_exists.mp (clOf_has (cells := cells) names [] (.inl hx))
  have := clOf_is names [] hy (fun _ h => nomatch h) _ (mem_of_lookup h')
  rw [hc] at this
  cases this
  exact h'
theorem relabel_names {scope : Scope} {env : Env} (hk : env.scope.kind = .function) (h : ∀ y ∈ scope.names, y.2 = .free → env.kindOf y.1 = some .cell) : (relabel scope env).names = recell scope.names := by
  unfold relabel recell
  refine List.map_congr_left fun y hy => ?_
  obtain ⟨n, k⟩ := y
  dsimp only
  by_cases hf : k = .free
  · subst hf
    rw [hk, h _ hy rfl]
    simp
  · have : (k == NameKind.free) = false := by simpa using hf
    simp [this]

section
variable (w : World) (A : Around) (env : Env) (ρ : Rho)
/-- the tests of a comprehension's clause -/
abbrev TstL (ifs : List PySem.Expr) (b : Bool) : Prop :=
  ∀ (s : Shared) (E : Value → Shared → Prop), Cx w env ρ s.heap →
    wpAny (model PR w) A (forIn ifs true fun c r => if r = true then do let ok ← isTrue c env (eval c env); pure (ForInStep.yield ok) else pure (ForInStep.yield r)) (fun c s' => c = b ∧ Kp s s') E s
end
section
variable {w : World} {A : Around} {env : Env} {ρ : Rho}
theorem tstl_nil : TstL w A env ρ [] true := fun s E c => wpAny_tests_nil ⟨rfl, Kp.refl s⟩
theorem tstl_one {c : PySem.Expr} {b : Bool} (h : Tst w A env ρ c b) : TstL w A env ρ [c] b := fun s E cx => wpAny_tests_one (h.go s E cx)

/-- an expression that lays a new list -/
abbrev EvsN (w : World) (A : Around) (env : Env) (ρ : Rho) (e : PySem.Expr) (xs : List PyData) : Prop :=
  ∀ (s : Shared) (E : Value → Shared → Prop), Cx w env ρ s.heap → wpAny (model PR w) A (eval e env) (fun v s' => ∃ D, v = .ref D ∧ s.heap.get? D = none ∧ Kp s s' ∧ Rep s'.heap (.list xs) v) E s
/-- the env of a comprehension's block -/
structure CEnv (env : Env) (scope : Scope) (cenv : Env) : Prop where
  names : cenv.scope.names = recell scope.names
  ok : EnvOk cenv

/-- a comprehension's target: what it binds -/
abbrev CTg (w : World) (A : Around) (target : PySem.Expr) (scope : Scope) (t : PyData) (bs : Rho) : Prop :=
  ∀ (cenv : Env) (s : Shared) (v : Value) (m : Str → Option Value) (E : Value → Shared → Prop) (Q : Shared → Prop), EnvOk cenv → cenv.scope.names = recell scope.names → s.heap.Ns cenv.locals m → Rep s.heap t v →
    (∀ h' m' k, h'.Ns cenv.locals m' → (∀ b o, b ≠ cenv.locals → s.heap.get? b = some o → h'.get? b = some o) → (∀ p ∈ bs, ∃ v, NameIs cenv h' p.1 v ∧ Rep h' p.2 v) → Q { s with heap := h', toks := k }) →
    wpAny (model PR w) A (assign target cenv v) (fun _ s' => Q s') E s
theorem ns_seq {h : Heap} {L : Addr} {m : Str → Option Value} (n : h.Ns L m) {b : Addr} {o : Obj} {xs : Array Value} {k : Nat} (e : h.get? b = some o) (d : o.data = .seq xs k) : b ≠ L := by
  rintro rfl; obtain ⟨o', es, ep, q1, q2, _⟩ := n; rw [e] at q1; cases q1; rw [d] at q2; cases q2
theorem ctg_name {x : Str} {px : Pos} {scope : Scope} {t : PyData} (hx : (recell scope.names).lookup x = some .local) (hdbg : (x == ("__debug__" : Str)) = false) : CTg w A (.Name x px) scope t [(x, t)] := fun cenv s v m E Q he hcn hn hr h => by
  have hk : cenv.kindOf x = some .local := by unfold Env.kindOf; rw [hcn]; exact hx
  refine wpAny_assign_Name (wpAny_storeName_local hk hn (fun h₃ hn₃ hs₃ => ?_) (by rw [he.kind]; rfl))
  refine h h₃ _ _ hn₃ (fun b o hb e => hs₃.extBut b o hb e) fun p hp => ?_
  rw [List.mem_singleton.mp hp]
  exact ⟨v, ⟨hdbg, .inl ⟨hk, _, hn₃, by simp⟩⟩, hr.kseq fun b o xs n e d => hs₃.extBut b o (ns_seq hn e d) e⟩
theorem ctg_pair {x y : Str} {px py pt : Pos} {kt : Nat} {scope : Scope} {a b : PyData} {d : Nat} (r : Rm d A) (hx : (recell scope.names).lookup x = some .local) (hy : (recell scope.names).lookup y = some .local) (hdbg : (y == ("__debug__" : Str)) = false) (hf : Mine.flat b = true) :
    CTg w A (.Tuple [.Name x px, .Name y py] kt pt) scope (.tuple [a, b]) [(y, b)] := fun cenv s v m E Q he hcn hn hr h => by
  have hkx : cenv.kindOf x = some .local := by unfold Env.kindOf; rw [hcn]; exact hx
  have hky : cenv.kindOf y = some .local := by unfold Env.kindOf; rw [hcn]; exact hy
  obtain ⟨T, ws, rfl, ⟨nT, eT⟩, hws⟩ := hr.tuple_inv
  obtain ⟨v0, r1, e1, ra, hr1⟩ := hws.cons_inv
  obtain ⟨v1, r2, rfl, rb, hr3⟩ := hr1.cons_inv
  have := hr3.nil_inv
  subst this
  have hlen : ws.size = 2 := by have := congrArg List.length e1; simpa using this
  refine wpAny_assign_Tuple r.hh ⟨_, eT, rfl, nT, rfl⟩ (by rw [hlen]; rfl) rfl fun h₃ he₃ => ?_
  have up₃ : ∀ c o, s.heap.get? c = some o → h₃.get? c = some o := fun c o e => he₃ c o (Nat.ne_of_lt (Heap.lt_size e)) e
  rw [e1]
  show wpAny _ _ (assignInOrder [assign (.Name x px) _, assign (.Name y py) _] [v0, v1]) _ _ _
  refine assignInOrder_cons (wpAny_assign_Name (wpAny_storeName_local hkx (hn.at' fun o e => up₃ _ o e) (fun h₄ hn₄ hs₄ => ?_) (by rw [he.kind]; rfl)))
  refine assignInOrder_cons (wpAny_assign_Name (wpAny_storeName_local hky hn₄ (fun h₅ hn₅ hs₅ => ?_) (by rw [he.kind]; rfl)))
  refine assignInOrder_nil (h h₅ _ _ hn₅ (fun b o hb e => hs₅.extBut b o hb (hs₄.extBut b o hb (up₃ b o e))) fun p hp => ?_)
  rw [List.mem_singleton.mp hp]
  exact ⟨v1, ⟨hdbg, .inl ⟨hky, _, hn₅, by simp⟩⟩, rb.flat hf⟩
/-- a comprehension's loop, of any target -/
theorem comp_loop {E : Value → Shared → Prop} {elt target iter : PySem.Expr} {ifs : List PySem.Expr} {scope : Scope} {pos : Pos} {it acc : Value} {R : Result → Shared → Prop} (I : Nat → Shared → Prop)
    (turn : ∀ n s, I n s → wpAny (model PR w) A (pyNext it) (fun r s₁ => match r with
      | none => R (.ok .next) s₁
      | some v => wpAny (model PR w) A (letOwnedTupleGo target it v) (fun _ s₁' => wpAny (model PR w) A (assign target env v) (fun _ s₂ =>
          wpAny (model PR w) A (forIn ifs true fun c r => if r = true then do let ok ← isTrue c env (eval c env); pure (ForInStep.yield ok) else pure (ForInStep.yield r)) (fun ok s₃ =>
            if ok = true then wpAny (model PR w) A (eval elt env) (fun x s₄ =>
              wpAny (model PR w) A (call (.builtin "list.append") [acc, x]) (fun _ s₅ => ∃ m, m < n ∧ I m s₅) (notedBy (model PR w) A env fun e s' => R (.error e) s') s₄) (notedBy (model PR w) A env fun e s' => R (.error e) s') s₃
            else ∃ m, m < n ∧ I m s₃) (notedBy (model PR w) A env fun e s' => R (.error e) s') s₂) (notedBy (model PR w) A env fun e s' => R (.error e) s') s₁') (notedBy (model PR w) A env fun e s' => R (.error e) s') s₁) (notedBy (model PR w) A env fun e s' => R (.error e) s') s)
    (n : Nat) {s : Shared} (h : I n s) : codeAny (model PR w) A (.compLoop (.ListComp elt [⟨target, iter, ifs, 0⟩] scope pos) 0 it acc env) R s := by
  refine codeAny_loop rfl I (fun n s hI => ?_) n h
  show wpAny _ A ((compTurn (.ListComp elt [⟨target, iter, ifs, 0⟩] scope pos) 0 it acc env).onRaise (fun x => do noteFrame x env; theTreesLotGoes x)) _ _ s
  refine wpAny_noted ?_
  rw [compTurn_list]
  refine wpAny_bind (wpAny_standAt (wpAny_bind (wpAny_mono (turn n s hI) (fun r s₁ h₁ => ?_) fun _ _ q => q)))
  cases r with
  | none => exact wpAny_pure h₁
  | some v =>
    refine wpAny_bind (wpAny_mono h₁ (fun _ s₁' h₁' => wpAny_bind (wpAny_mono h₁' (fun _ s₂ h₂ => wpAny_bind (wpAny_mono h₂ (fun ok s₃ h₃ => ?_) fun _ _ q => q)) fun _ _ q => q)) fun _ _ q => q)
    cases ok with
    | false => exact wpAny_pure ⟨rfl, h₃⟩
    | true => exact wpAny_bind (wpAny_bind (wpAny_mono h₃ (fun x s₄ h₄ => wpAny_bind (wpAny_mono h₄ (fun _ s₅ h₅ => wpAny_pure (wpAny_pure ⟨rfl, h₅⟩)) fun _ _ q => q)) fun _ _ q => q))
/-- what a comprehension's state keeps of the heap it began in -/
noncomputable def Kx (C D : Addr) (wr : List Addr) (g h : Heap) : Prop := ∀ b o, b ≠ C → b ∉ wr → b ≠ D → g.get? b = some o → h.get? b = some o
noncomputable def res (p : PyData → Bool) (f : PyData → PyData) (ts : List PyData) (i : Nat) : List PyData := ((ts.take i).filter p).map f
theorem res_flat {p : PyData → Bool} {f : PyData → PyData} {ts : List PyData} (hfl : ∀ t ∈ ts, p t = true → fl2 (f t) = true) (i : Nat) : ∀ d ∈ res p f ts i, fl2 d = true := fun d hd => by
  obtain ⟨t, h1, rfl⟩ := List.mem_map.mp hd
  obtain ⟨h2, h3⟩ := List.mem_filter.mp h1
  exact hfl t (List.mem_of_mem_take h2) h3
theorem res_succ {p : PyData → Bool} {f : PyData → PyData} {ts : List PyData} {i : Nat} {t : PyData} (ht : ts[i]? = some t) : res p f ts (i + 1) = res p f ts i ++ (if p t = true then [f t] else []) := by
  unfold res
  rw [take_succ_filter p ts i t ht, List.map_append]
  congr 1
  split <;> rfl
/-- a comprehension's state, i items through -/
noncomputable def CSt (St : Nat → Heap → Prop) (C D : Addr) (wr : List Addr) (p : PyData → Bool) (f : PyData → PyData) (ts : List PyData) (g : Heap) (i : Nat) (h : Heap) : Prop :=
  St i h ∧ (∃ ys, h.PlainList D ys ∧ Reps h (res p f ts i) ys.toList) ∧ (∃ m, h.Ns C m) ∧ Kx C D wr g h
theorem comp_turn {elt target : PySem.Expr} {ifs : List PySem.Expr} {scope : Scope} {cenv : Env} {ts : List PyData} {p : PyData → Bool} {f : PyData → PyData} {ρc : Rho} {bs : PyData → Rho} {I C D : Addr} {fp wr : List Addr} {P : Nat → Value → Prop} {St : Nat → Heap → Prop} {s₂ : Shared} {i : Nat} {tk : Nat} {H : Heap} {Z K : Shared → Prop} {N : Value → Shared → Prop}
    (hz : ts.length ≤ 100000) (hok : EnvOk cenv) (hcn : cenv.scope.names = recell scope.names) (hC : cenv.locals = C) (hI : Itr w A s₂.heap I fp wr ts P St) (hDC : D ≠ C) (hDf : D ∉ fp) (hCf : C ∉ fp) (up2 : ∀ h', Kx C D wr s₂.heap h' → KSeq s₂.heap h')
    (cx : ∀ h' t, Kx C D wr s₂.heap h' → (∀ p ∈ bs t, ∃ v, NameIs cenv h' p.1 v ∧ Rep h' p.2 v) → Cx w cenv (bs t ++ ρc) h')
    (htg : ∀ t ∈ ts, CTg w A target scope t (bs t)) (htest : ∀ t ∈ ts, TstL w A cenv (bs t ++ ρc) ifs (p t)) (helt : ∀ t ∈ ts, p t = true → Evs w A cenv (bs t ++ ρc) elt (f t)) (hfl : ∀ t ∈ ts, p t = true → fl2 (f t) = true)
    (hlt : i < ts.length) (st : CSt St C D wr p f ts s₂.heap i H) (hK : ∀ h' k, CSt St C D wr p f ts s₂.heap (i + 1) h' → K { s₂ with heap := h', toks := k }) :
    wpAny (model PR w) A (pyNext (.ref I)) (fun r s₁ => match r with
      | none => Z s₁
      | some v => wpAny (model PR w) A (letOwnedTupleGo target (.ref I) v) (fun _ s₁' => wpAny (model PR w) A (assign target cenv v) (fun _ s₂ =>
          wpAny (model PR w) A (forIn ifs true fun c r => if r = true then do let ok ← isTrue c cenv (eval c cenv); pure (ForInStep.yield ok) else pure (ForInStep.yield r)) (fun ok s₃ =>
            if ok = true then wpAny (model PR w) A (eval elt cenv) (fun x s₄ => wpAny (model PR w) A (call (.builtin "list.append") [.ref D, x]) (fun _ s₅ => K s₅) N s₄) N s₃ else K s₃) N s₂) N s₁') N s₁) N { s₂ with heap := H, toks := tk } := by
  subst hC
  obtain ⟨hst', ⟨ys, hacc', hF⟩, ⟨m', hn'⟩, hk⟩ := st
  have hCw : cenv.locals ∉ wr := fun h => hCf (hI.W.sub _ h)
  have hDw : D ∉ wr := fun h => hDf (hI.W.sub _ h)
  have hnW : ∀ {b : Addr} {o : Obj} {xs : Array Value} {n : Nat}, H.get? b = some o → o.data = .seq xs n → b ∉ wr := fun {b o xs n} e hd q => by
    obtain ⟨o', xs', e', d'⟩ := hI.fl _ _ hst' b q
    rw [e] at e'; cases e'; rw [hd] at d'; cases d'
  have hres := res_flat hfl i
  refine hI.W.item i _ _ _ hlt hst' fun v h₂ tk₂ hPv hst₂ hk₂ => ?_
  obtain ⟨t, ht, hr⟩ := hI.it i v hPv
  have htm : t ∈ ts := List.mem_of_getElem? ht
  have hs := res_succ (p := p) (f := f) ht
  refine hI.lg (i + 1) _ _ _ _ _ hst₂ ?_
  refine (htg t htm) _ { s₂ with heap := h₂, toks := tk₂ } v m' _ _ hok hcn (hn'.at' fun o e => hk₂ _ o hCw e) (hr.kseq (up2 _ fun b o a1 a2 a3 e => hk₂ b o a2 (hk b o a1 a2 a3 e))) fun h₃ m₃ tk₃ hn₃ hs₃ hb₃ => ?_
  have up₃ : ∀ b o, b ≠ cenv.locals → b ∉ wr → H.get? b = some o → h₃.get? b = some o := fun b o hbC hbf e => hs₃ b o hbC (hk₂ b o hbf e)
  have hst₃ : St (i + 1) h₃ := hI.W.frame _ _ _ hst₂ fun b hb o e => hs₃ b o (fun h => hCf (h ▸ hb)) e
  have hk₃ : Kx cenv.locals D wr s₂.heap h₃ := fun b o a1 a2 a3 e => up₃ b o a1 a2 (hk b o a1 a2 a3 e)
  refine wpAny_mono ((htest t htm) _ _ (cx _ _ hk₃ hb₃)) (fun ok s₄ h₄ => ?_) fun _ _ e => e
  obtain ⟨rfl, k₄⟩ := h₄
  obtain ⟨h₄, tk₄, rfl, k₄⟩ := k₄
  have hk₄ : Kx cenv.locals D wr s₂.heap h₄ := fun b o a1 a2 a3 e => k₄ b o (hk₃ b o a1 a2 a3 e)
  cases hp : p t with
  | false =>
    rw [hp] at hs
    refine hK h₄ tk₄ ⟨hI.W.frame _ _ _ hst₃ fun b _ o e => k₄ b o e, ⟨ys, hacc'.at fun o e => k₄ _ o (up₃ _ o hDC hDw e), ?_⟩, ⟨m₃, hn₃.keeps k₄⟩, hk₄⟩
    rw [hs]
    show Reps h₄ (res p f ts i ++ []) _
    rw [List.append_nil]
    exact hF.ktup (fun b o xs n e hc hd => k₄ b o (up₃ b o (ns_seq hn' e hd) (hnW e hd) e)) hres
  | true =>
    rw [hp] at hs
    show wpAny _ _ _ _ _ _
    refine wpAny_mono ((helt t htm hp).go { s₂ with heap := h₄, toks := tk₄ } _ (cx _ _ hk₄ fun q hq => let ⟨u, a, r⟩ := hb₃ q hq; ⟨u, a.keeps k₄, r.keeps k₄⟩)) (fun y s₅ h₅ => ?_) fun _ _ e => e
    obtain ⟨k₅, r₅⟩ := h₅
    obtain ⟨h₅, tk₅, rfl, k₅⟩ := k₅
    have k₅' : ∀ b o, h₃.get? b = some o → h₅.get? b = some o := fun b o e => k₅ b o (k₄ b o e)
    have hlen : ys.size ≤ 100000 := by
      have e1 := hF.length
      have e2 : (res p f ts i).length ≤ ts.length := by
        unfold res
        rw [List.length_map]
        exact Nat.le_trans (List.length_filter_le _ _) (by rw [List.length_take]; exact Nat.min_le_right _ _)
      rw [Array.length_toList] at e1
      exact e1 ▸ Nat.le_trans e2 hz
    refine wpAny_list_append_plain (hsz := by rw [sizeLine_eq]; omega) (hacc'.at fun o e => k₅' _ o (up₃ _ o hDC hDw e)) fun h₆ hl₆ hs₆ => ?_
    refine hK h₆ tk₅ ⟨hI.W.frame _ _ _ hst₃ fun b hb o e => hs₆.extBut b o (fun h => hDf (h ▸ hb)) (k₅' b o e), ⟨ys.push y, hl₆, ?_⟩, ⟨m₃, (hn₃.keeps k₅').sameBut hs₆ (Ne.symm hDC)⟩, fun b o a1 a2 a3 e => hs₆.extBut b o a3 (k₅' b o (hk₃ b o a1 a2 a3 e))⟩
    rw [hs, Array.toList_push]
    obtain ⟨nD, eD⟩ := hacc'.at fun o e => k₅' _ o (up₃ _ o hDC hDw e)
    have kt : KTup h₅ h₆ := fun b o xs n e hc hd => hs₆.extBut b o (fun q => by subst q; rw [eD] at e; cases e; exact absurd hc (by simp)) e
    exact .append (hF.ktup (fun b o xs n e hc hd => kt b o xs n (k₅' b o (up₃ b o (ns_seq hn' e hd) (hnW e hd) e)) hc hd) hres) (.cons (r₅.ktup (hfl t htm hp) kt) .nil)

theorem comp_core {elt target iter : PySem.Expr} {ifs : List PySem.Expr} {scope : Scope} {pos : Pos} {ts : List PyData} {d : Nat} (p : PyData → Bool) (f : PyData → PyData) (ρc : Rho)
    (r : Rm d A) (he : EnvOk env) (src : Src w A env ρ iter ts) (hz : ts.length ≤ 100000)
    (hkind : scope.kind = .function) (hfree : ∀ y ∈ scope.names, y.2 = .free → env.kindOf y.1 = some .cell ∧ (env.cells.lookup y.1).isSome = true)
    (hcell : ∀ y ∈ scope.names, y.2 ≠ .cell) (hnames : ∀ y ∈ scope.names, y.2 = .local → scope.names.lookup y.1 = some .local)
    (bs : PyData → Rho) (htg : ∀ t ∈ ts, CTg w A target scope t (bs t))
    (hρ : ∀ q ∈ ρc, q ∈ ρ ∧ (q.1, NameKind.free) ∈ scope.names ∧ (recell scope.names).lookup q.1 = some .cell)
    (htest : ∀ t ∈ ts, ∀ cenv, CEnv env scope cenv → TstL w A cenv (bs t ++ ρc) ifs (p t))
    (helt : ∀ t ∈ ts, p t = true → ∀ cenv, CEnv env scope cenv → Evs w A cenv (bs t ++ ρc) elt (f t))
    (hfl : ∀ t ∈ ts, p t = true → fl2 (f t) = true)
    (hs : ∀ v, foldedSetIterable iter env v = pure v) {pos' : Pos} {use : Option (Value → Sem Unit)} {Q : Value → Shared → Prop} {s : Shared} {E : Value → Shared → Prop} (c : Cx w env ρ s.heap)
    (hfin : ∀ D C m' s', Kp s s' → Rep s'.heap (.list ((ts.filter p).map f)) (.ref D) → s'.heap.Ns C m' → s.heap.get? C = none → s.heap.get? D = none → compPost (model PR w) A E use Q (.ref D) C (.ok .next) s') :
    wpAny (model PR w) A (comprehension (.ListComp elt [⟨target, iter, ifs, 0⟩] scope pos) scope env pos' (newList []) false (eval iter env) use) Q E s := by
  have hcl := closureFor_eq (scope := scope) (env := env) fun y hy q => (hfree y hy q).2
  refine wpAny_comprehension_free (use := use) rfl hs hcl hkind hnames ?_
  refine src.go s E _ c (fun I fp wr P St s₂ k hI hw => ?_)
  refine wpAny_newList (wpAny_newFunctionEnv hcell (by intro y hy; simp at hy) (fun h₁ hns₁ hsb₁ => ?_) hkind)
  dsimp only at hns₁ hsb₁ ⊢
  generalize hH2 : s₂.heap.push { cls := .type "list", dict := none, data := .seq ([] : List Value).toArray } = H2 at hns₁ hsb₁ ⊢
  have hC : H2.objs.size = s₂.heap.objs.size + 1 := by rw [← hH2, Heap.size_push]
  have hDC : s₂.heap.objs.size ≠ H2.objs.size := by rw [hC]; exact Nat.ne_of_lt (Nat.lt_succ_self _)
  have below : ∀ b, b < s₂.heap.objs.size → b ≠ H2.objs.size ∧ b ≠ s₂.heap.objs.size := fun b hb => ⟨by rw [hC]; exact Nat.ne_of_lt (Nat.lt_succ_of_lt hb), Nat.ne_of_lt hb⟩
  have hDf : s₂.heap.objs.size ∉ fp := fun hm => Nat.lt_irrefl _ (hI.lt _ hm)
  have hCf : H2.objs.size ∉ fp := fun hm => by have := hI.lt _ hm; rw [hC] at this; exact Nat.lt_irrefl _ (Nat.lt_of_succ_lt this)
  have old : ∀ b o, s₂.heap.get? b = some o → h₁.get? b = some o := fun b o e => hsb₁.extBut b o (below b (Heap.lt_size e)).1 (Heap.get?_push_of_some _ (hH2 ▸ Heap.get?_push_of_some _ e))
  have hacc : h₁.PlainList s₂.heap.objs.size #[] := ⟨_, hsb₁.extBut _ _ hDC (Heap.get?_push_of_some _ (hH2 ▸ Heap.get?_push_size _ rfl))⟩
  have hst₁ : St 0 h₁ := hI.W.frame _ _ _ hI.st fun b _ o e => old b o e
  have up1 : ∀ h', Kx H2.objs.size s₂.heap.objs.size wr s₂.heap h' → ∀ b o, s.heap.get? b = some o → h'.get? b = some o := by
    intro h' hk b o e
    have e2 := k.ext b o e
    refine hk b o (below b (Heap.lt_size e2)).1 (fun q => ?_) (below b (Heap.lt_size e2)).2 e2
    rw [hw b q] at e
    cases e
  have up2 : ∀ h', Kx H2.objs.size s₂.heap.objs.size wr s₂.heap h' → KSeq s₂.heap h' := by
    intro h' hk b o xs n e hd
    refine hk b o (below b (Heap.lt_size e)).1 (fun q => ?_) (below b (Heap.lt_size e)).2 e
    obtain ⟨o', xs', e', d'⟩ := hI.fl 0 _ hI.st b q
    rw [e] at e'
    cases e'
    rw [hd] at d'
    cases d'
  have hcn : (compEnvC scope (clOf env.cells scope.names []) H2.objs.size env).scope.names = recell scope.names := relabel_names he.kind fun y hy q => (hfree y hy q).1
  have hce : CEnv env scope (compEnvC scope (clOf env.cells scope.names []) H2.objs.size env) := ⟨hcn, ⟨hkind, he.glob, he.bult⟩⟩
  have hcells : ∀ q ∈ ρc, ∀ cc, env.cells.lookup q.1 = some cc → (compEnvC scope (clOf env.cells scope.names []) H2.objs.size env).cells.lookup q.1 = some cc := fun q hq cc b4 => clOf_at (fun y hy z => (hfree y hy z).2) (hρ q hq).2.1 b4
  have hloc : (compEnvC scope (clOf env.cells scope.names []) H2.objs.size env).locals = H2.objs.size := rfl
  obtain ⟨cenv, hcenv⟩ : ∃ cenv, cenv = compEnvC scope (clOf env.cells scope.names []) H2.objs.size env := ⟨_, rfl⟩
  rw [← hcenv] at hcn hce hcells hloc
  have cx : ∀ h' t, Kx H2.objs.size s₂.heap.objs.size wr s₂.heap h' → (∀ p ∈ bs t, ∃ v, NameIs cenv h' p.1 v ∧ Rep h' p.2 v) → Cx w cenv (bs t ++ ρc) h' := fun h' t hk hbs => by
    have u1 := up1 _ hk
    refine ⟨c.gd.keeps u1, fun q hq => ?_⟩
    rcases List.mem_append.mp hq with hq | hq
    · exact hbs q hq
    · obtain ⟨a1, a2, a3⟩ := hρ q hq
      obtain ⟨u, ⟨b1, b2⟩, b3⟩ := c.nm q a1
      have f1 : env.kindOf q.1 = some .cell := (hfree _ a2 rfl).1
      rcases b2 with ⟨b2, _⟩ | ⟨b2, cc, b4, b5⟩
      · rw [f1] at b2; cases b2
      · exact ⟨u, ⟨b1, .inr ⟨by unfold Env.kindOf; rw [hcn]; exact a3, cc, hcells q hq cc b4, b5.keeps u1⟩⟩, b3.keeps u1⟩
  have loop : ∀ k₀, codeAny (model PR w) A (.compLoop (.ListComp elt [⟨target, iter, ifs, 0⟩] scope pos) 0 (.ref I) (.ref s₂.heap.objs.size) cenv)
        (compPost (model PR w) A E use Q (.ref s₂.heap.objs.size) H2.objs.size) { s₂ with heap := h₁, toks := k₀ } := by
    intro k₀
    refine comp_loop (E := E) (fun j s' => ∃ i h' tk, s' = { s₂ with heap := h', toks := tk } ∧ i ≤ ts.length ∧ j = ts.length + 1 - i ∧ CSt St H2.objs.size s₂.heap.objs.size wr p f ts s₂.heap i h') ?_ (ts.length + 1)
      ⟨0, h₁, k₀, rfl, Nat.zero_le _, rfl, hst₁, ⟨#[], hacc, .nil⟩, ⟨_, hns₁⟩, fun b o _ _ _ e => old b o e⟩
    rintro j s' ⟨i, H, tk, rfl, hi, rfl, st⟩
    by_cases hlt : i < ts.length
    · exact comp_turn hz hce.ok hcn hloc hI hDC hDf hCf up2 cx htg (fun t ht => htest t ht _ hce) (fun t ht hp => helt t ht hp _ hce) hfl hlt st fun h' k st' => ⟨ts.length + 1 - (i + 1), by omega, i + 1, h', k, rfl, hlt, rfl, st'⟩
    · obtain rfl : i = ts.length := Nat.le_antisymm hi (Nat.not_lt.mp hlt)
      obtain ⟨hst', ⟨ys, hacc', hF⟩, ⟨m', hn'⟩, hk⟩ := st
      refine hI.W.done _ _ _ hst' fun h₂ tk₂ hk₂ => ?_
      refine hfin _ _ m' _ ⟨h₂, tk₂, ?_, up1 _ fun b o a1 a2 a3 e => hk₂ b o a2 (hk b o a1 a2 a3 e)⟩ ?_ (hn'.at' fun o e => hk₂ _ o (fun h => hCf (hI.W.sub _ h)) e) ?_ (k.none new_of_size)
      · obtain ⟨hh, tt, e, _⟩ := k
        rw [e]
      · refine .list_of (hacc'.at fun o e => hk₂ _ o (fun h => hDf (hI.W.sub _ h)) e) ?_
        have e0 : res p f ts ts.length = (ts.filter p).map f := by unfold res; rw [List.take_of_length_le (Nat.le_refl _)]
        rw [← e0]
        exact hF.ktup (fun b o xs n e hc hd => hk₂ b o (fun q => by
          obtain ⟨o', xs', e', d'⟩ := hI.fl _ _ hst' b q
          rw [e] at e'; cases e'; rw [hd] at d'; cases d') e) (res_flat hfl _)
      · refine k.none ?_
        cases q : s₂.heap.get? H2.objs.size with
        | none => rfl
        | some o => exact absurd rfl (below _ (Heap.lt_size q)).1
  subst hcenv
  exact codeAny_compStart_list (loop _) (hI.W.self 0 _ _ _ hst₁ (loop _))

theorem ev_compN {elt iter : PySem.Expr} {x : Str} {px : Pos} {ifs : List PySem.Expr} {scope : Scope} {pos : Pos} {ts : List PyData} {d : Nat} (p : PyData → Bool) (f : PyData → PyData) (ρc : Rho)
    (r : Rm d A) (he : EnvOk env) (src : Src w A env ρ iter ts) (hz : ts.length ≤ 100000)
    (hkind : scope.kind = .function) (hfree : ∀ y ∈ scope.names, y.2 = .free → env.kindOf y.1 = some .cell ∧ (env.cells.lookup y.1).isSome = true)
    (hcell : ∀ y ∈ scope.names, y.2 ≠ .cell) (hnames : ∀ y ∈ scope.names, y.2 = .local → scope.names.lookup y.1 = some .local)
    (hx : (recell scope.names).lookup x = some .local) (hdbg : (x == ("__debug__" : Str)) = false)
    (hρ : ∀ q ∈ ρc, q ∈ ρ ∧ (q.1, NameKind.free) ∈ scope.names ∧ (recell scope.names).lookup q.1 = some .cell)
    (htest : ∀ t ∈ ts, ∀ cenv, CEnv env scope cenv → TstL w A cenv ((x, t) :: ρc) ifs (p t))
    (helt : ∀ t ∈ ts, p t = true → ∀ cenv, CEnv env scope cenv → Evs w A cenv ((x, t) :: ρc) elt (f t))
    (hfl : ∀ t ∈ ts, p t = true → fl2 (f t) = true)
    (hs : ∀ v, foldedSetIterable iter env v = pure v := by intro _; rfl) :
    EvsN w A env ρ (.ListComp elt [⟨.Name x px, iter, ifs, 0⟩] scope pos) ((ts.filter p).map f) := fun s E c => by
  rw [eval_ListComp]
  refine comp_core p f ρc r he src hz hkind hfree hcell hnames (fun t => [(x, t)]) (fun t _ => ctg_name hx hdbg) hρ htest helt hfl hs c fun D C m' s' k rp hn hC hD => ?_
  refine ⟨m', hn, fun h' hs' => ⟨D, rfl, hD, ⟨h', s'.toks, ?_, fun b o e => hs'.extBut b o ?_ (k.ext b o e)⟩, rp.kseq fun b o xs n e hd => hs'.extBut b o ?_ e⟩⟩
  · obtain ⟨hh, tt, e, _⟩ := k
    rw [e]
  · rintro rfl; rw [hC] at e; cases e
  · rintro rfl; obtain ⟨o', es, ep, q1, q2, _⟩ := hn; rw [e] at q1; cases q1; rw [hd] at q2; cases q2

theorem EvsN.evs {e : PySem.Expr} {xs : List PyData} (h : EvsN w A env ρ e xs) : Evs w A env ρ e (.list xs) := ⟨fun s E c => wpAny_mono (h s E c) (fun v s' ⟨D, e, hD, k, r⟩ => ⟨k, r⟩) fun _ _ x => x⟩
theorem ev_comp {elt iter : PySem.Expr} {x : Str} {px : Pos} {ifs : List PySem.Expr} {scope : Scope} {pos : Pos} {ts : List PyData} {d : Nat} (p : PyData → Bool) (f : PyData → PyData) (ρc : Rho)
    (r : Rm d A) (he : EnvOk env) (src : Src w A env ρ iter ts) (hz : ts.length ≤ 100000)
    (hkind : scope.kind = .function) (hfree : ∀ y ∈ scope.names, y.2 = .free → env.kindOf y.1 = some .cell ∧ (env.cells.lookup y.1).isSome = true)
    (hcell : ∀ y ∈ scope.names, y.2 ≠ .cell) (hnames : ∀ y ∈ scope.names, y.2 = .local → scope.names.lookup y.1 = some .local)
    (hx : (recell scope.names).lookup x = some .local) (hdbg : (x == ("__debug__" : Str)) = false)
    (hρ : ∀ q ∈ ρc, q ∈ ρ ∧ (q.1, NameKind.free) ∈ scope.names ∧ (recell scope.names).lookup q.1 = some .cell)
    (htest : ∀ t ∈ ts, ∀ cenv, CEnv env scope cenv → TstL w A cenv ((x, t) :: ρc) ifs (p t))
    (helt : ∀ t ∈ ts, p t = true → ∀ cenv, CEnv env scope cenv → Evs w A cenv ((x, t) :: ρc) elt (f t))
    (hfl : ∀ t ∈ ts, p t = true → fl2 (f t) = true)
    (hs : ∀ v, foldedSetIterable iter env v = pure v := by intro _; rfl) :
    Evs w A env ρ (.ListComp elt [⟨.Name x px, iter, ifs, 0⟩] scope pos) (.list ((ts.filter p).map f)) := EvsN.evs (ev_compN p f ρc r he src hz hkind hfree hcell hnames hx hdbg hρ htest helt hfl hs)
theorem ex_compN {elt iter : PySem.Expr} {x y : Str} {px py : Pos} {ifs : List PySem.Expr} {scope : Scope} {pos spos : Pos} {ts : List PyData} {d : Nat} {hb : Heap} {s₀ s : Shared} {E : Value → Shared → Prop} (p : PyData → Bool) (f : PyData → PyData) (ρc : Rho)
    (hsw : swapsWith (.ListComp elt [⟨.Name x px, iter, ifs, 0⟩] scope pos) (some (.Name y py)) spos.line env = pure true)
    (r : Rm d A) (he : EnvOk env) (hy : Stores env y) (src : Src w A env ρ iter ts) (hz : ts.length ≤ 100000)
    (hkind : scope.kind = .function) (hfree : ∀ y ∈ scope.names, y.2 = .free → env.kindOf y.1 = some .cell ∧ (env.cells.lookup y.1).isSome = true)
    (hcell : ∀ y ∈ scope.names, y.2 ≠ .cell) (hnames : ∀ y ∈ scope.names, y.2 = .local → scope.names.lookup y.1 = some .local)
    (hx : (recell scope.names).lookup x = some .local) (hdbg : (x == ("__debug__" : Str)) = false)
    (hρ : ∀ q ∈ ρc, q ∈ ρ ∧ (q.1, NameKind.free) ∈ scope.names ∧ (recell scope.names).lookup q.1 = some .cell)
    (htest : ∀ t ∈ ts, ∀ cenv, CEnv env scope cenv → TstL w A cenv ((x, t) :: ρc) ifs (p t))
    (helt : ∀ t ∈ ts, p t = true → ∀ cenv, CEnv env scope cenv → Evs w A cenv ((x, t) :: ρc) elt (f t))
    (hfl : ∀ t ∈ ts, p t = true → fl2 (f t) = true) (l : Lp w env hb s₀ ρ s)
    {Q : Flow → Shared → Prop} (hQ : ∀ s' D, Sto env s₀ y (.list ((ts.filter p).map f)) s s' → NameIs env s'.heap y (.ref D) → Rep s'.heap (.list ((ts.filter p).map f)) (.ref D) → s.heap.get? D = none → Q .next s')
    (hs : ∀ v, foldedSetIterable iter env v = pure v := by intro _; rfl) :
    wpAny (model PR w) A (exec (.Assign [.Name y py] (.ListComp elt [⟨.Name x px, iter, ifs, 0⟩] scope pos) spos) env) Q E s := by
  rw [exec_Assign_Name_used _ _ _ _ hsw]
  refine wpAny_bind (wpAny_standAt (wpAny_bind ?_))
  show wpAny _ A (do let _ ← comprehension (.ListComp elt [⟨.Name x px, iter, ifs, 0⟩] scope pos) scope env _ (newList []) false (eval iter env) (some (assign (.Name y py) env))) _ _ s
  refine wpAny_bind (wpAny_mono (comp_core p f ρc r he src hz hkind hfree hcell hnames (fun t => [(x, t)]) (fun t _ => ctg_name hx hdbg) hρ htest helt hfl hs (use := some (assign (.Name y py) env)) (Q := fun _ s' => Q .next s') l.cx fun D C m' s' k rp hn hC hD => ?_) (fun _ s' hq => wpAny_pure (wpAny_pure hq)) fun _ _ e => e)
  show wpAny _ A (assign (.Name y py) env (.ref D)) _ _ _
  refine wpAny_assign_Name (store_nameV he hy (l.on k).fs rp fun s'' q hq => ?_)
  have hCo : ¬ Own env C := by
    rintro (e | ⟨z, e⟩)
    · obtain ⟨m, o, _, _, h1, _⟩ := l.fs.ns
      rw [← e, hC] at h1; cases h1
    · obtain ⟨v, o, h1, _⟩ := l.fs.cell z C e
      rw [hC] at h1; cases h1
  have hn2 : s''.heap.Ns C m' := hn.at' fun o e => q.ch C o hCo e
  refine ⟨m', hn2, fun h' hs' => ?_⟩
  have hne : ∀ {b : Addr}, Own env b → b ≠ C := fun {b} ob e => hCo (e ▸ ob)
  have nmk : ∀ z v, NameIs env s''.heap z v → NameIs env h' z v := fun z v ⟨d, n⟩ =>
    ⟨d, n.imp (fun ⟨a, m, b, e⟩ => ⟨a, m, b.sameBut hs' (hne (.inl rfl)), e⟩) fun ⟨a, c, b, e⟩ => ⟨a, c, b, e.sameBut hs' (hne (.inr ⟨z, b⟩))⟩⟩
  have qq := q.on k
  have ks : KSeq s''.heap h' := fun b o xs n e hd => hs'.extBut b o (by rintro rfl; obtain ⟨o', es, ep, q1, q2, _⟩ := hn2; rw [e] at q1; cases q1; rw [hd] at q2; cases q2) e
  have hrD : Rep s''.heap (.list ((ts.filter p).map f)) (.ref D) := rp.kseq ((l.on k).fs.kseq q.ch)
  refine hQ _ D ?_ (nmk _ _ hq) (hrD.kseq ks) hD
  refine ⟨qq.same.trans ⟨_, _, rfl⟩, ⟨fun b o e => hs'.extBut b o ?_ (qq.fs.keep b o e), qq.fs.ns.imp fun m n => n.sameBut hs' (hne (.inl rfl)), qq.fs.fresh, fun z c e => (qq.fs.cell z c e).imp fun v n => n.sameBut hs' (hne (.inr ⟨z, e⟩)), qq.fs.above, qq.fs.apart⟩,
    fun b o nb e => hs'.extBut b o ?_ (qq.ch b o nb e), fun z v hz n => nmk z v (qq.nm z v hz n), ?_⟩
  · rintro rfl
    have := l.fs.keep _ _ e
    rw [hC] at this; cases this
  · rintro rfl; rw [hC] at e; cases e
  · obtain ⟨v, a, b⟩ := qq.it
    exact ⟨v, nmk _ _ a, b.kseq ks⟩
theorem ex_comp {elt iter : PySem.Expr} {x y : Str} {px py : Pos} {ifs : List PySem.Expr} {scope : Scope} {pos spos : Pos} {ts : List PyData} {d : Nat} {hb : Heap} {s₀ s : Shared} {E : Value → Shared → Prop} (p : PyData → Bool) (f : PyData → PyData) (ρc : Rho)
    (hsw : swapsWith (.ListComp elt [⟨.Name x px, iter, ifs, 0⟩] scope pos) (some (.Name y py)) spos.line env = pure true)
    (r : Rm d A) (he : EnvOk env) (hy : Stores env y) (src : Src w A env ρ iter ts) (hz : ts.length ≤ 100000)
    (hkind : scope.kind = .function) (hfree : ∀ y ∈ scope.names, y.2 = .free → env.kindOf y.1 = some .cell ∧ (env.cells.lookup y.1).isSome = true)
    (hcell : ∀ y ∈ scope.names, y.2 ≠ .cell) (hnames : ∀ y ∈ scope.names, y.2 = .local → scope.names.lookup y.1 = some .local)
    (hx : (recell scope.names).lookup x = some .local) (hdbg : (x == ("__debug__" : Str)) = false)
    (hρ : ∀ q ∈ ρc, q ∈ ρ ∧ (q.1, NameKind.free) ∈ scope.names ∧ (recell scope.names).lookup q.1 = some .cell)
    (htest : ∀ t ∈ ts, ∀ cenv, CEnv env scope cenv → TstL w A cenv ((x, t) :: ρc) ifs (p t))
    (helt : ∀ t ∈ ts, p t = true → ∀ cenv, CEnv env scope cenv → Evs w A cenv ((x, t) :: ρc) elt (f t))
    (hfl : ∀ t ∈ ts, p t = true → fl2 (f t) = true) (l : Lp w env hb s₀ ρ s)
    {Q : Flow → Shared → Prop} (hQ : ∀ s', Sto env s₀ y (.list ((ts.filter p).map f)) s s' → Q .next s')
    (hs : ∀ v, foldedSetIterable iter env v = pure v := by intro _; rfl) :
    wpAny (model PR w) A (exec (.Assign [.Name y py] (.ListComp elt [⟨.Name x px, iter, ifs, 0⟩] scope pos) spos) env) Q E s :=
  ex_compN p f ρc hsw r he hy src hz hkind hfree hcell hnames hx hdbg hρ htest helt hfl l (fun s' _ q _ _ _ => hQ s' q) hs
end
/- part F9 -/

abbrev Mu := List (Str × List PyData)
/-- the lists that a block builds -/
noncomputable def Mu1 (env : Env) (h : Heap) (D : Addr) (p : Str × List PyData) : Prop := NameIs env h p.1 (.ref D) ∧ (∀ d ∈ p.2, fl2 d = true) ∧ ∃ vs, h.PlainList D vs ∧ Reps h p.2 vs.toList
noncomputable def MuOk (env : Env) (h : Heap) (Ds : List Addr) (μ : Mu) : Prop := Ds.length = μ.length ∧ ∀ (i : Nat) (D : Addr) (p : Str × List PyData), Ds[i]? = some D → μ[i]? = some p → Mu1 env h D p
theorem MuOk.nil {env : Env} {h : Heap} : MuOk env h [] [] := ⟨rfl, fun i D p e => nomatch e⟩
theorem MuOk.cons {env : Env} {h : Heap} {D : Addr} {Ds : List Addr} {p : Str × List PyData} {μ : Mu} (a : Mu1 env h D p) (m : MuOk env h Ds μ) : MuOk env h (D :: Ds) (p :: μ) :=
  ⟨congrArg (· + 1) m.1, fun i E q h1 h2 => by
    cases i with
    | zero => cases h1; cases h2; exact a
    | succ i => exact m.2 i E q h1 h2⟩
theorem MuOk.move {env : Env} {h h' : Heap} (kt : KTup h h') {Ds : List Addr} {μ : Mu} (m : MuOk env h Ds μ) (hn : ∀ p ∈ μ, ∀ v, NameIs env h p.1 v → NameIs env h' p.1 v) (hd : ∀ D ∈ Ds, ∀ o, h.get? D = some o → h'.get? D = some o) : MuOk env h' Ds μ :=
  ⟨m.1, fun i D p h1 h2 => let ⟨a, b, vs, c, d⟩ := m.2 i D p h1 h2; ⟨hn p (List.mem_of_getElem? h2) _ a, b, vs, c.at (hd D (List.mem_of_getElem? h1)), d.ktup kt b⟩⟩
theorem MuOk.get {env : Env} {h : Heap} {Ds : List Addr} {μ : Mu} {i : Nat} {x : Str} {xs : List PyData} (m : MuOk env h Ds μ) (e : μ[i]? = some (x, xs)) :
    ∃ D, Ds[i]? = some D ∧ NameIs env h x (.ref D) ∧ (∀ d ∈ xs, fl2 d = true) ∧ ∃ vs, h.PlainList D vs ∧ Reps h xs vs.toList := by
  have hl : i < Ds.length := m.1 ▸ (List.getElem?_eq_some_iff.mp e).1
  have hD := List.getElem?_eq_getElem hl
  exact ⟨_, hD, m.2 i _ _ hD e⟩
theorem MuOk.at {env : Env} {h : Heap} {Ds : List Addr} {μ : Mu} {D : Addr} (m : MuOk env h Ds μ) (hD : D ∈ Ds) : ∃ p ∈ μ, ∃ vs, h.PlainList D vs ∧ Reps h p.2 vs.toList := by
  obtain ⟨i, hi⟩ := List.mem_iff_getElem?.mp hD
  have hl : i < μ.length := m.1 ▸ (List.getElem?_eq_some_iff.mp hi).1
  exact ⟨_, List.getElem_mem hl, (m.2 i D _ hi (List.getElem?_eq_getElem hl)).2.2⟩
theorem MuOk.set {env : Env} {h h' : Heap} (kt : KTup h h') {D : Addr} {x : Str} {xs : List PyData} (hk : ∀ b o, b ≠ D → h.get? b = some o → h'.get? b = some o)
    (hnew : NameIs env h' x (.ref D) ∧ (∀ d ∈ xs, fl2 d = true) ∧ ∃ vs, h'.PlainList D vs ∧ Reps h' xs vs.toList) {Ds : List Addr} {μ : Mu} {i : Nat} (m : MuOk env h Ds μ) (nd : Ds.Nodup) (e : Ds[i]? = some D) (hn : ∀ p ∈ μ, ∀ v, NameIs env h p.1 v → NameIs env h' p.1 v) : MuOk env h' Ds (μ.set i (x, xs)) :=
  ⟨m.1.trans List.length_set.symm, fun j E p h1 h2 => by
    by_cases hj : i = j
    · subst hj
      rw [h1] at e
      cases e
      rw [List.getElem?_set_self (m.1 ▸ (List.getElem?_eq_some_iff.mp h1).1)] at h2
      cases h2
      exact hnew
    · rw [List.getElem?_set_ne hj] at h2
      obtain ⟨a, b, vs, c, d⟩ := m.2 j E p h1 h2
      have hne : E ≠ D := fun q => by
        obtain ⟨l1, g1⟩ := List.getElem?_eq_some_iff.mp e
        obtain ⟨l2, g2⟩ := List.getElem?_eq_some_iff.mp h1
        have key := List.pairwise_iff_getElem.mp nd
        rcases Nat.lt_or_gt_of_ne hj with z | z
        · exact key i j l1 l2 z (g1.trans (q.symm.trans g2.symm))
        · exact key j i l2 l1 z (g2.trans (q.trans g1.symm))
      exact ⟨hn p (List.mem_of_getElem? h2) _ a, b, vs, c.at fun o => hk E o hne, d.ktup kt b⟩⟩

/-- the state within a block that builds the lists μ, at Ds -/
structure Lm (w : World) (env : Env) (hb : Heap) (s₀ : Shared) (Ds : List Addr) (ρ : Rho) (μ : Mu) (s : Shared) : Prop where
  same : Same s₀ s
  fs : Fs env s₀.heap s.heap
  gd : Gd w s₀.heap
  new : ∀ D ∈ Ds, s₀.heap.get? D = none
  kq : ∀ b o, ¬ Own env b → b ∉ Ds → hb.get? b = some o → s.heap.get? b = some o
  bs : ∀ b o xs n, hb.get? b = some o → o.data = .seq xs n → ¬ Own env b ∧ b ∉ Ds
  base : KSeq s₀.heap hb
  nm : ∀ p ∈ ρ, ∃ v, NameIs env s.heap p.1 v ∧ Rep hb p.2 v
  nd : Ds.Nodup
  mu : MuOk env s.heap Ds μ
noncomputable def ChD (env : Env) (Ds : List Addr) (h h' : Heap) : Prop := ∀ b o, ¬ Own env b → b ∉ Ds → h.get? b = some o → h'.get? b = some o
theorem ChD.refl (env : Env) (Ds : List Addr) (h : Heap) : ChD env Ds h h := fun _ _ _ _ e => e
theorem ChD.trans {env : Env} {Ds : List Addr} {h h' h'' : Heap} (a : ChD env Ds h h') (b : ChD env Ds h' h'') : ChD env Ds h h'' := fun x o n d e => b x o n d (a x o n d e)
theorem ChD.of {env : Env} {Ds : List Addr} {h h' : Heap} (k : ∀ b o, h.get? b = some o → h'.get? b = some o) : ChD env Ds h h' := fun b o _ _ e => k b o e

section
variable {w : World} {A : Around} {env : Env} {ρ ρ' : Rho} {μ μ' : Mu} {hb : Heap} {Ds : List Addr} {s₀ s s' : Shared} {E : Value → Shared → Prop} {x : Str} {t : PyData}
theorem Lm.ks (l : Lm w env hb s₀ Ds ρ μ s) : KSeq hb s.heap := fun b o xs n e d => l.kq b o (l.bs b o xs n e d).1 (l.bs b o xs n e d).2 e
theorem Lm.cx (l : Lm w env hb s₀ Ds ρ μ s) : Cx w env ρ s.heap := ⟨l.gd.keeps l.fs.keep, fun p hp => let ⟨v, a, b⟩ := l.nm p hp; ⟨v, a, b.kseq l.ks⟩⟩
theorem Lm.of (l : Lp w env hb s₀ ρ s) : Lm w env s.heap s₀ [] ρ [] s :=
  ⟨l.same, l.fs, l.gd, fun _ h => by (cases h), fun _ _ _ _ e => e, fun b o xs n e d => ⟨l.fs.own e d, by simp⟩, fun b o xs n e d => l.fs.keep b o e, l.cx.nm, .nil, .nil⟩
theorem Lm.toks (l : Lm w env hb s₀ Ds ρ μ s) : KTup s.heap s.heap := fun _ _ _ _ e _ _ => e
/-- what is moved: the frame and the lists stand -/
theorem Lm.move (l : Lm w env hb s₀ Ds ρ μ s) (hs : Same s s') (hk : ∀ b o, (Own env b ∨ b ∈ Ds ∨ (∃ xs n, o.data = .seq xs n) ∨ (∃ o', hb.get? b = some o') ∨ ∃ o', s₀.heap.get? b = some o') → s.heap.get? b = some o → s'.heap.get? b = some o) : Lm w env hb s₀ Ds ρ μ s' := by
  have ns : ∀ m, s.heap.Ns env.locals m → s'.heap.Ns env.locals m := fun m n => n.at' fun o e => hk _ o (.inl (.inl rfl)) e
  have cel : ∀ x c v, env.cells.lookup x = some c → s.heap.IsCell c v → s'.heap.IsCell c v := fun x c v e ⟨o, h1, h2⟩ => ⟨o, hk _ o (.inl (.inr ⟨x, e⟩)) h1, h2⟩
  have nmk : ∀ x v, NameIs env s.heap x v → NameIs env s'.heap x v := fun x v ⟨d, n⟩ => ⟨d, n.imp (fun ⟨a, m, b, c⟩ => ⟨a, m, ns m b, c⟩) fun ⟨a, c, b, e⟩ => ⟨a, c, b, cel x c _ b e⟩⟩
  exact ⟨l.same.trans hs, ⟨fun b o e => hk b o (.inr (.inr (.inr (.inr ⟨o, e⟩)))) (l.fs.keep b o e), l.fs.ns.imp ns, l.fs.fresh, fun x c e => (l.fs.cell x c e).imp fun v h => cel x c v e h, l.fs.above, l.fs.apart⟩, l.gd, l.new,
    fun b o n d e => hk b o (.inr (.inr (.inr (.inl ⟨o, e⟩)))) (l.kq b o n d e), l.bs, l.base, fun p hp => let ⟨v, a, b⟩ := l.nm p hp; ⟨v, nmk _ _ a, b⟩, l.nd,
    l.mu.move (fun b o xs n e _ d => hk b o (.inr (.inr (.inl ⟨xs, n, d⟩))) e) (fun p _ v => nmk p.1 v) fun D hD o => hk D o (.inr (.inl hD))⟩
theorem Lm.on (l : Lm w env hb s₀ Ds ρ μ s) (k : Kp s s') : Lm w env hb s₀ Ds ρ μ s' := l.move k.same fun b o _ e => k.ext b o e
theorem Lm.sub (l : Lm w env hb s₀ Ds ρ μ s) (h : ∀ p ∈ ρ', p ∈ ρ) : Lm w env hb s₀ Ds ρ' μ s :=
  ⟨l.same, l.fs, l.gd, l.new, l.kq, l.bs, l.base, fun p hp => l.nm p (h p hp), l.nd, l.mu⟩
theorem Lm.off (l : Lm w env hb s₀ Ds ρ μ s) {D : Addr} (hD : D ∈ Ds) : ¬ Own env D := by
  obtain ⟨p, _, vs, ⟨n, e⟩, _⟩ := l.mu.at hD
  exact l.fs.own e rfl
/-- a store into a name: what it holds stands in hb -/
theorem Lm.sto (l : Lm w env hb s₀ Ds ρ μ s) (q : Sto env s₀ x t s s') (hμ : ∀ p ∈ μ, p.1 ≠ x) (hr : ∃ v, NameIs env s'.heap x v ∧ Rep hb t v) : Lm w env hb s₀ Ds ((x, t) :: del x ρ) μ s' :=
  ⟨l.same.trans q.same, q.fs, l.gd, l.new, fun b o n d e => q.ch b o n (l.kq b o n d e), l.bs, l.base, fun p hp => by
    rcases List.mem_cons.mp hp with rfl | hp
    · exact hr
    · obtain ⟨h1, h2⟩ := mem_del hp; obtain ⟨v, a, b⟩ := l.nm p h1; exact ⟨v, q.nm _ v h2 a, b⟩, l.nd,
    l.mu.move (fun b o xs n e _ d => q.ch b o (l.fs.own e d) e) (fun p hp v h => q.nm _ v (hμ p hp) h) fun D hD o e => q.ch D o (l.off hD) e⟩
theorem Lm.stoF (l : Lm w env hb s₀ Ds ρ μ s) (q : Sto env s₀ x t s s') (hμ : ∀ p ∈ μ, p.1 ≠ x) (f : flat t = true) : Lm w env hb s₀ Ds ((x, t) :: del x ρ) μ s' :=
  l.sto q hμ (let ⟨v, a, b⟩ := q.it; ⟨v, a, b.flat f⟩)
/-- a block that has built its lists -/
theorem Lm.fin (l : Lm w env hb s₀ Ds ρ μ s) : Lp w env s.heap s₀ (μ.map (fun p => (p.1, PyData.list p.2)) ++ ρ) s :=
  ⟨l.same, l.fs, l.gd, Ch.refl _ _, fun b o xs n e d => l.fs.own e d, fun p hp => by
    rcases List.mem_append.mp hp with hp | hp
    · obtain ⟨q, hq, rfl⟩ := List.mem_map.mp hp
      obtain ⟨i, hi⟩ := List.mem_iff_getElem?.mp hq
      obtain ⟨D, _, h1, _, vs, h2, h3⟩ := l.mu.get hi
      exact ⟨_, h1, .list_of h2 h3⟩
    · exact l.cx.nm p hp⟩
end

/-- a heap's plain sequences alone, but those at Ds -/
noncomputable def isSeq : Data → Bool
  | .seq _ _ => true
  | _ => false
noncomputable def blO (Ds : List Addr) (i : Nat) (o : Obj) : Obj := if (!(Ds.contains i) && isSeq o.data) = true then o else { o with data := .freed }
noncomputable def bl (Ds : List Addr) (h : Heap) : Heap := { h with objs := h.objs.mapIdx (blO Ds) }
theorem bl_get {Ds : List Addr} {h : Heap} {b : Addr} : (bl Ds h).objs[b]? = (h.objs[b]?).map (blO Ds b) := by
  unfold bl
  simp
theorem seq_of {d : Data} (h : isSeq d = true) : ∃ xs n, d = .seq xs n := by
  cases d with
  | seq xs n => exact ⟨xs, n, rfl⟩
  | _ => cases h
theorem bl_of {Ds : List Addr} {h : Heap} {b : Addr} {o : Obj} (e : (bl Ds h).get? b = some o) : b ∉ Ds ∧ (∃ xs n, o.data = .seq xs n) ∧ h.get? b = some o := by
  obtain ⟨e1, e2⟩ := (Heap.get?_eq_some _ _ _).mp e
  rw [bl_get] at e1
  obtain ⟨o', h1, h2⟩ := Option.map_eq_some_iff.mp e1
  unfold blO at h2
  by_cases hc : (!(Ds.contains b) && isSeq o'.data) = true
  · rw [if_pos hc] at h2
    subst h2
    have hc' := (Bool.and_eq_true _ _).mp hc
    refine ⟨fun q => ?_, seq_of hc'.2, (Heap.get?_eq_some _ _ _).mpr ⟨h1, e2⟩⟩
    have := hc'.1
    rw [List.contains_iff_mem.mpr q] at this
    exact Bool.false_ne_true this
  · rw [if_neg hc] at h2
    subst h2
    exact absurd e2 Bool.false_ne_true
theorem bl_to {Ds : List Addr} {h : Heap} {b : Addr} {o : Obj} {xs : Array Value} {n : Nat} (hb : b ∉ Ds) (e : h.get? b = some o) (d : o.data = .seq xs n) : (bl Ds h).get? b = some o := by
  obtain ⟨e1, e2⟩ := (Heap.get?_eq_some _ _ _).mp e
  have hc : (!(Ds.contains b) && isSeq o.data) = true := by
    rw [d]
    cases q : Ds.contains b with
    | false => rfl
    | true => exact absurd (List.contains_iff_mem.mp q) hb
  refine (Heap.get?_eq_some _ _ _).mpr ⟨?_, e2⟩
  rw [bl_get, e1]
  exact congrArg some (if_pos hc)
/-- the state, whatever the names' lists were laid in -/
noncomputable def LmE (w : World) (env : Env) (s₀ : Shared) (Ds : List Addr) (ρ : Rho) (μ : Mu) (s : Shared) : Prop := ∃ hb, Lm w env hb s₀ Ds ρ μ s
section
variable {w : World} {A : Around} {env : Env} {ρ ρ' : Rho} {μ μ' : Mu} {Ds : List Addr} {s₀ s s' : Shared} {E : Value → Shared → Prop} {x : Str} {t : PyData}
theorem Lm.blank {hb : Heap} (l : Lm w env hb s₀ Ds ρ μ s) : Lm w env (bl Ds s.heap) s₀ Ds ρ μ s :=
  ⟨l.same, l.fs, l.gd, l.new, fun b o _ _ e => (bl_of e).2.2, fun b o xs n e d => ⟨l.fs.own (bl_of e).2.2 d, (bl_of e).1⟩,
    fun b o xs n e d => bl_to (fun h => by rw [l.new b h] at e; cases e) (l.fs.keep b o e) d,
    fun p hp => let ⟨v, a, r⟩ := l.nm p hp; ⟨v, a, r.kseq fun b o xs n e d => bl_to (l.bs b o xs n e d).2 (l.ks b o xs n e d) d⟩, l.nd, l.mu⟩
theorem LmE.lp {hb : Heap} (l : Lp w env hb s₀ ρ s) : LmE w env s₀ [] ρ [] s := ⟨_, .of l⟩
theorem LmE.cx (l : LmE w env s₀ Ds ρ μ s) : Cx w env ρ s.heap := let ⟨_, l⟩ := l; l.cx
theorem LmE.fs (l : LmE w env s₀ Ds ρ μ s) : Fs env s₀.heap s.heap := let ⟨_, l⟩ := l; l.fs
theorem LmE.mu (l : LmE w env s₀ Ds ρ μ s) : MuOk env s.heap Ds μ := let ⟨_, l⟩ := l; l.mu
theorem LmE.on (l : LmE w env s₀ Ds ρ μ s) (k : Kp s s') : LmE w env s₀ Ds ρ μ s' := let ⟨_, l⟩ := l; ⟨_, l.on k⟩
theorem LmE.sub (l : LmE w env s₀ Ds ρ μ s) (h : ∀ p ∈ ρ', p ∈ ρ) : LmE w env s₀ Ds ρ' μ s := let ⟨_, l⟩ := l; ⟨_, l.sub h⟩
theorem LmE.stoF (l : LmE w env s₀ Ds ρ μ s) (q : Sto env s₀ x t s s') (hμ : ∀ p ∈ μ, p.1 ≠ x) (f : flat t = true) : LmE w env s₀ Ds ((x, t) :: del x ρ) μ s' := let ⟨_, l⟩ := l; ⟨_, l.stoF q hμ f⟩
theorem LmE.fin (l : LmE w env s₀ Ds ρ μ s) : Lp w env s.heap s₀ (μ.map (fun p => (p.1, PyData.list p.2)) ++ ρ) s := let ⟨_, l⟩ := l; l.fin
end

section
variable (w : World) (A : Around) (env : Env) (s₀ : Shared)
/-- a statement, a block: from names ρ and lists μ to ρ' and μ'; br: it ends with a break -/
structure X1 (ρ : Rho) (μ : Mu) (st : Stmt) (br : Bool) (ρ' : Rho) (μ' : Mu) : Prop where
  go : ∀ (s : Shared) (E : Value → Shared → Prop) (Ds : List Addr), LmE w env s₀ Ds ρ μ s → wpAny (model PR w) A (exec st env) (fun f s' => f = (if br then .brk else .next) ∧ LmE w env s₀ Ds ρ' μ' s' ∧ ChD env Ds s.heap s'.heap) E s
structure Xs (ρ : Rho) (μ : Mu) (b : List Stmt) (br : Bool) (ρ' : Rho) (μ' : Mu) : Prop where
  go : ∀ (s : Shared) (E : Value → Shared → Prop) (Ds : List Addr), LmE w env s₀ Ds ρ μ s → wpAny (model PR w) A (execs b env) (fun f s' => f = (if br then .brk else .next) ∧ LmE w env s₀ Ds ρ' μ' s' ∧ ChD env Ds s.heap s'.heap) E s
/-- a block that returns t -/
structure BlkM (ρ : Rho) (μ : Mu) (b : List Stmt) (t : PyData) : Prop where
  go : ∀ (s : Shared) (E : Value → Shared → Prop) (Ds : List Addr), LmE w env s₀ Ds ρ μ s → wpAny (model PR w) A (execs b env) (fun f s' => ∃ v, f = .ret v ∧ Kp s₀ s' ∧ Rep s'.heap t v) E s
end

section
variable {w : World} {A : Around} {env : Env} {s₀ : Shared} {ρ ρ' ρ'' : Rho} {μ μ' μ'' : Mu} {t : PyData} {br : Bool} {st : Stmt} {rest : List Stmt}
theorem xs_nil : Xs w A env s₀ ρ μ [] false ρ μ := ⟨fun s E Ds l => wpAny_execs_nil ⟨rfl, l, .refl _ _ _⟩⟩
theorem xs_cons (h : X1 w A env s₀ ρ μ st false ρ' μ') (hr : Xs w A env s₀ ρ' μ' rest br ρ'' μ'') : Xs w A env s₀ ρ μ (st :: rest) br ρ'' μ'' := ⟨fun s E Ds l => by
  refine wpAny_execs_cons (wpAny_mono (h.go s E Ds l) (fun f s₁ ⟨e, l₁, c₁⟩ => ?_) fun _ _ x => x)
  subst e
  exact wpAny_mono (hr.go s₁ E Ds l₁) (fun f s₂ ⟨e, l₂, c₂⟩ => ⟨e, l₂, c₁.trans c₂⟩) fun _ _ x => x⟩
theorem xs_last (h : X1 w A env s₀ ρ μ st br ρ' μ') : Xs w A env s₀ ρ μ [st] br ρ' μ' := ⟨fun s E Ds l => by
  refine wpAny_execs_cons (wpAny_mono (h.go s E Ds l) (fun f s₁ ⟨e, l₁, c₁⟩ => ?_) fun _ _ x => x)
  subst e
  cases br with
  | true => exact ⟨rfl, l₁, c₁⟩
  | false => exact wpAny_execs_nil ⟨rfl, l₁, c₁⟩⟩
theorem x1_break {p : Pos} : X1 w A env s₀ ρ μ (.Break p) true ρ μ := ⟨fun s E Ds l => wpAny_Break ⟨rfl, l, .refl _ _ _⟩⟩
theorem xs_sub {b : List Stmt} (h : Xs w A env s₀ ρ μ b br ρ' μ') (hs : ∀ p ∈ ρ'', p ∈ ρ') : Xs w A env s₀ ρ μ b br ρ'' μ' := ⟨fun s E Ds l =>
  wpAny_mono (h.go s E Ds l) (fun f s₁ ⟨e, l₁, c₁⟩ => ⟨e, l₁.sub hs, c₁⟩) fun _ _ x => x⟩
theorem x1_if {p : Pos} {c : PySem.Expr} {body orelse : List Stmt} {b : Bool} (h : Tst w A env ρ c b) (h1 : b = true → Xs w A env s₀ ρ μ body br ρ' μ') (h0 : b = false → Xs w A env s₀ ρ μ orelse br ρ' μ') :
    X1 w A env s₀ ρ μ (.If c body orelse p) br ρ' μ' := ⟨fun s E Ds l => by
  refine wpAny_If (wpAny_mono (h.go s E l.cx) (fun d s₁ ⟨e, k₁⟩ => ?_) fun _ _ x => x)
  subst e
  cases d with
  | true => exact wpAny_mono ((h1 rfl).go s₁ E Ds (l.on k₁)) (fun f s₂ ⟨e, l₂, c₂⟩ => ⟨e, l₂, (ChD.of k₁.ext).trans c₂⟩) fun _ _ x => x
  | false => exact wpAny_mono ((h0 rfl).go s₁ E Ds (l.on k₁)) (fun f s₂ ⟨e, l₂, c₂⟩ => ⟨e, l₂, (ChD.of k₁.ext).trans c₂⟩) fun _ _ x => x⟩
theorem x1_assign {x : Str} {px p : Pos} {e : PySem.Expr} (he : EnvOk env) (hx : Stores env x) (h : Evs w A env ρ e t) (hf : flat t = true) (hμ : ∀ p ∈ μ, p.1 ≠ x) (hsw : swapsWith e (some (.Name x px)) p.line env = pure false) :
    X1 w A env s₀ ρ μ (.Assign [.Name x px] e p) false ((x, t) :: del x ρ) μ := ⟨fun s E Ds l => by
  refine wpAny_Assign_Name (wpAny_mono (h.go s E l.cx) (fun v s₁ ⟨k₁, r₁⟩ => ?_) fun _ _ x => x) hsw
  exact store_name he hx (l.on k₁).fs r₁ fun s' q => ⟨rfl, (l.on k₁).stoF q hμ hf, (ChD.of k₁.ext).trans fun b o n _ e => q.ch b o n e⟩⟩
/-- a list of the block's has grown -/
theorem Lm.grow {Ds : List Addr} {hb : Heap} {s₁ : Shared} {h' : Heap} {i : Nat} {D : Addr} {x : Str} {xs ys : List PyData} {vs us : Array Value} (l₁ : Lm w env hb s₀ Ds ρ μ s₁) (hD : Ds[i]? = some D) (hn : NameIs env s₁.heap x (.ref D)) (hfl : ∀ d ∈ xs, fl2 d = true) (hf : ∀ d ∈ ys, fl2 d = true)
    (hl₁ : s₁.heap.PlainList D vs) (hr₁ : Reps s₁.heap xs vs.toList) (hq : Reps s₁.heap ys us.toList) (hs' : Heap.SameBut D s₁.heap h') (hl' : h'.PlainList D (vs ++ us)) : LmE w env s₀ Ds ρ (μ.set i (x, xs ++ ys)) { s₁ with heap := h' } ∧ ChD env Ds s₁.heap h' := by
  have hDm : D ∈ Ds := List.mem_iff_getElem?.mpr ⟨i, hD⟩
  have hDo := l₁.off hDm
  obtain ⟨nD, eD⟩ := id hl₁
  have kt : KTup s₁.heap h' := fun b o xs n e hc hd => hs'.extBut b o (fun q => by subst q; rw [eD] at e; cases e; exact absurd hc (by simp)) e
  have nmk : ∀ y u, NameIs env s₁.heap y u → NameIs env h' y u := fun y u ⟨d, n⟩ =>
    ⟨d, n.imp (fun ⟨a, m, b, c⟩ => ⟨a, m, b.sameBut hs' fun q => hDo (.inl q.symm), c⟩) fun ⟨a, c, b, e⟩ => ⟨a, c, b, e.sameBut hs' fun q => hDo (.inr ⟨y, q ▸ b⟩)⟩⟩
  refine ⟨⟨hb, l₁.same.trans ⟨_, _, rfl⟩, ⟨fun b o e => hs'.extBut b o (fun q => ?_) (l₁.fs.keep b o e), l₁.fs.ns.imp fun m n => n.sameBut hs' fun q => hDo (.inl q.symm), l₁.fs.fresh, fun y c e => (l₁.fs.cell y c e).imp fun u h => h.sameBut hs' fun q => hDo (.inr ⟨y, q ▸ e⟩), l₁.fs.above, l₁.fs.apart⟩,
    l₁.gd, l₁.new, fun b o n d e => hs'.extBut b o (fun q => d (q ▸ hDm)) (l₁.kq b o n d e), l₁.bs, l₁.base, fun p hp => let ⟨v, a, b⟩ := l₁.nm p hp; ⟨v, nmk _ _ a, b⟩, l₁.nd, ?_⟩, fun b o n d e => hs'.extBut b o (fun q => d (q ▸ hDm)) e⟩
  · subst q; rw [l₁.new _ hDm] at e; cases e
  · refine l₁.mu.set kt (fun b o hb e => hs'.extBut b o hb e) ⟨nmk _ _ hn, fun d hd => (List.mem_append.mp hd).elim (hfl d) (hf d), _, hl', ?_⟩ l₁.nd hD fun p _ v => nmk p.1 v
    rw [Array.toList_append]
    exact (hr₁.ktup kt hfl).append (hq.ktup kt hf)
theorem x1_append {x : Str} {xs : List PyData} {i : Nat} {px apos pos p : Pos} {e : PySem.Expr} (he : EnvOk env) (hi : μ[i]? = some (x, xs)) (h : Evs w A env ρ e t) (hf : fl2 t = true) (hz : xs.length ≤ 100000)
    (hbase : attributeBase (.Name x px) "append" env (eval (.Name x px) env) = eval (.Name x px) env)
    (hfew : ((backTo pos (starEach [e] env)).all (fun x => !x.1) && (backToKw pos (keywordEach [] env)).all (fun x => x.1.isSome)
      && decide (([e] : List PySem.Expr).length + ([] : List Keyword).length + (if ([] : List Keyword).isEmpty then 0 else 1) < 30)) = true)
    (hline : (apos.endLine == pos.line) = true) (htrees : backTo pos (starEach [e] env) = [(false, eval e env)])
    (hsw : swapsWith (.Call (.Attribute (.Name x px) "append" apos) [e] [] pos) none p.line env = pure false) :
    X1 w A env s₀ ρ μ (.Expr (.Call (.Attribute (.Name x px) "append" apos) [e] [] pos) p) false ρ (μ.set i (x, xs ++ [t])) := ⟨fun s E Ds ⟨hb, l⟩ => by
  obtain ⟨D, hD, ⟨hdbg, hn⟩, hfl, vs, hl, hr⟩ := l.mu.get hi
  have hDm : D ∈ Ds := List.mem_iff_getElem?.mpr ⟨i, hD⟩
  have hev : ∀ {Q : Value → Shared → Prop}, Q (.ref D) s → wpAny (model PR w) A (eval (.Name x px) env) Q E s := fun hQ => by
    rcases hn with ⟨a, m, b, c⟩ | ⟨a, c, b, d⟩
    · exact wpAny_Name (wpAny_loadName_local he.kind a b c hQ) hdbg
    · exact wpAny_Name (wpAny_loadName_cell he.kind a b d hQ) hdbg
  have hPL : ∀ {h : Heap} {us : Array Value}, h.PlainList D us → PlainL h D us := fun ⟨n, e⟩ => ⟨_, n, e, rfl, rfl, rfl⟩
  refine wpAny_Expr_any (wpAny_Call_append hbase hfew hline htrees (hev ⟨D, vs, rfl, hPL hl, ?_⟩)) (by unfold interactive; rw [he.kind]; rfl) hsw
  refine wpAny_mono (h.go s E l.cx) (fun v s₁ ⟨k₁, r₁⟩ => ?_) fun _ _ x => x
  have l₁ := l.on k₁
  have hl₁ := hl.at fun o e => k₁.ext D o e
  have hr₁ := hr.keeps k₁.ext
  have hlen := hr.length
  simp only [Array.length_toList] at hlen
  refine wpAny_list_append_plain hl₁ (fun h' hl' hs' => ?_) (by rw [sizeLine_eq]; omega)
  have q := l₁.grow (us := #[v]) hD (NameIs.keeps ⟨hdbg, hn⟩ k₁.ext) hfl (fun d hd => List.mem_singleton.mp hd ▸ hf) hl₁ hr₁ (.cons r₁ .nil) hs' hl'
  exact ⟨rfl, q.1, (ChD.of k₁.ext).trans q.2⟩⟩

theorem blkm_of {b : List Stmt} (h : BlkM w A env s₀ ρ [] b t) : Blk w A env ρ s₀ b t := ⟨fun s E hb l => h.go s E [] (.lp l)⟩
theorem blkm_fin {b : List Stmt} (h : Blk w A env (μ.map (fun p => (p.1, PyData.list p.2)) ++ ρ) s₀ b t) : BlkM w A env s₀ ρ μ b t := ⟨fun s E Ds l => h.go s E _ l.fin⟩
theorem blkm_x (h : X1 w A env s₀ ρ μ st false ρ' μ') (hr : BlkM w A env s₀ ρ' μ' rest t) : BlkM w A env s₀ ρ μ (st :: rest) t := ⟨fun s E Ds l => by
  refine wpAny_execs_cons (wpAny_mono (h.go s E Ds l) (fun f s₁ ⟨e, l₁, c₁⟩ => ?_) fun _ _ x => x)
  subst e
  exact hr.go s₁ E Ds l₁⟩
/-- a name is given a list newly laid -/
theorem blkm_newL {x : Str} {xs : List PyData} {px p : Pos} {e : PySem.Expr} (he : EnvOk env) (hx : Stores env x) (hμ : ∀ p ∈ μ, p.1 ≠ x) (h : EvsN w A env ρ e xs) (hfl : ∀ d ∈ xs, fl2 d = true) (hsw : swapsWith e (some (.Name x px)) p.line env = pure false)
    (hr : BlkM w A env s₀ (del x ρ) ((x, xs) :: μ) rest t) : BlkM w A env s₀ ρ μ (.Assign [.Name x px] e p :: rest) t := ⟨fun s E Ds ⟨hb, l⟩ => by
  refine wpAny_execs_cons (wpAny_Assign_Name (wpAny_mono (h s E l.cx) (fun v s₁ ⟨D, ev, hD, k, r⟩ => ?_) fun _ _ x => x) hsw)
  subst ev
  have l₁ := l.on k
  refine store_nameV (t := .list xs) he hx l₁.fs r fun s' q hq => ?_
  obtain ⟨a, vs, e1, ⟨n, hnew⟩, hr1⟩ := r.list_inv
  cases e1
  have hno : ¬ Own env D := l₁.fs.own hnew rfl
  have hD2 := q.ch _ _ hno hnew
  have hnd : D ∉ Ds := fun h => by
    obtain ⟨p, _, vs, ⟨n, e⟩, _⟩ := l.mu.at h
    rw [hD] at e; cases e
  have l₂ : Lm w env hb s₀ Ds (del x ρ) μ s' := ⟨l₁.same.trans q.same, q.fs, l.gd, l.new, fun b o n d e => q.ch b o n (l₁.kq b o n d e), l.bs, l.base, fun p hp => by
    obtain ⟨h1, h2⟩ := mem_del hp; obtain ⟨v, a, b⟩ := l₁.nm p h1; exact ⟨v, q.nm _ v h2 a, b⟩, l.nd,
    l₁.mu.move (fun b o xs n e _ d => q.ch b o (l₁.fs.own e d) e) (fun p hp v h => q.nm _ v (hμ p hp) h) fun D hD o e => q.ch D o (l₁.off hD) e⟩
  refine hr.go s' E (D :: Ds) ⟨hb, l₂.same, l₂.fs, l₂.gd, ?_, fun b o n d e => l₂.kq b o n (fun h => d (.tail _ h)) e, fun b o xs n e d => ⟨(l₂.bs b o xs n e d).1, fun h => ?_⟩, l₂.base, l₂.nm, .cons (fun y hy e => hnd (e ▸ hy)) l₂.nd,
    .cons ⟨hq, hfl, _, ⟨_, hD2⟩, hr1.kseq (l₁.fs.kseq q.ch)⟩ l₂.mu⟩
  · intro D' hD'
    rcases List.mem_cons.mp hD' with rfl | hD'
    · cases e : s₀.heap.get? D' with
      | none => rfl
      | some o => rw [l.fs.keep _ _ e] at hD; cases hD
    · exact l.new D' hD'
  · rcases List.mem_cons.mp h with rfl | h
    · rw [l.ks _ _ _ _ e d] at hD; cases hD
    · exact (l₂.bs b o xs n e d).2 h⟩
theorem evn_nil {pos : Pos} : EvsN w A env ρ (.List [] pos) [] := fun s E c => List_ (spliced_nil (wpAny_newList ⟨_, rfl, new_of_size, Kp.push' .., .list_of ⟨_, Heap.get?_push_size _ rfl⟩ .nil⟩ (by rw [sizeLine_eq]; exact Nat.zero_le _)))
theorem blkm_new {x : Str} {px p pos : Pos} (he : EnvOk env) (hx : Stores env x) (hμ : ∀ p ∈ μ, p.1 ≠ x) (hsw : swapsWith (.List [] pos) (some (.Name x px)) p.line env = pure false)
    (hr : BlkM w A env s₀ (del x ρ) ((x, []) :: μ) rest t) : BlkM w A env s₀ ρ μ (.Assign [.Name x px] (.List [] pos) p :: rest) t := blkm_newL he hx hμ evn_nil (fun _ h => nomatch h) hsw hr
end
/- part F10 -/

/-- one turn of a loop: the next item, bound by the target to the names Bd i -/
abbrev Turn (w : World) (A : Around) (env : Env) (s₀ : Shared) (g : Heap) (Ds : List Addr) (target : PySem.Expr) (I : Addr) (fp wr : List Addr) (n : Nat) (Bd : Nat → Rho) (St : Nat → Heap → Prop) : Prop :=
  (∀ b ∈ wr, b ∈ fp) ∧ (∀ i h h', St i h → (∀ b ∈ fp, ∀ o, h.get? b = some o → h'.get? b = some o) → St i h') ∧ (∀ i (s : Shared) (ρ : Rho) (μ : Mu) (E : Value → Shared → Prop) (Q : Shared → Prop), i < n → St i s.heap → LmE w env s₀ Ds ρ μ s → (∀ b o, ¬ Own env b → b ∉ Ds → b ∉ wr → g.get? b = some o → s.heap.get? b = some o) → (∀ p ∈ ρ, p.1 ∉ (Bd i).map (·.1)) → (∀ p ∈ μ, p.1 ∉ (Bd i).map (·.1)) →
    (∀ s', LmE w env s₀ Ds (Bd i ++ ρ) μ s' → St (i + 1) s'.heap → (∀ b o, ¬ Own env b → b ∉ wr → s.heap.get? b = some o → s'.heap.get? b = some o) → Q s') →
    wpAny (model PR w) A (pyNext (.ref I)) (fun r s₁ => ∃ v, r = some v ∧ wpAny (model PR w) A (letOwnedTupleGo target (.ref I) v) (fun _ s₁' => wpAny (model PR w) A (assign target env v) (fun _ s₂ => Q s₂) E s₁') E s₁) E s) ∧ (∀ (s : Shared) (ρ : Rho) (μ : Mu) (E : Value → Shared → Prop) (Q : Shared → Prop), St n s.heap → LmE w env s₀ Ds ρ μ s →
    (∀ s', LmE w env s₀ Ds ρ μ s' → (∀ b o, b ∉ wr → s.heap.get? b = some o → s'.heap.get? b = some o) → Q s') → wpAny (model PR w) A (pyNext (.ref I)) (fun r s₁ => r = none ∧ Q s₁) E s)
/-- what a loop iterates -/
abbrev SrcT (w : World) (A : Around) (env : Env) (s₀ : Shared) (ρ : Rho) (μ : Mu) (iter target : PySem.Expr) (n : Nat) (Bd : Nat → Rho) : Prop :=
  ∀ (s : Shared) (E : Value → Shared → Prop) (Ds : List Addr) (Q : Value → Shared → Prop), LmE w env s₀ Ds ρ μ s →
    (∀ I fp wr St s', Kp s s' → Turn w A env s₀ s'.heap Ds target I fp wr n Bd St → St 0 s'.heap → (n ≠ 0 → ∀ b ∈ fp, ¬ Own env b ∧ b ∉ Ds) → (∀ b ∈ wr, s.heap.get? b = none) → Q (.ref I) s') →
    wpAny (model PR w) A (eval iter env) (fun x s₁ => wpAny (model PR w) A (pyIter x) Q E s₁) E s

section
variable {w : World} {A : Around} {env : Env} {s₀ : Shared} {ρ ρ' : Rho} {μ μ' : Mu}

/-- the state of a loop, k turns ahead -/
noncomputable def ForI (w : World) (env : Env) (s₀ : Shared) (g : Heap) (Ds : List Addr) (wr : List Addr) (n : Nat) (St : Nat → Heap → Prop) (br : Nat → Bool) (R : Nat → Rho) (M : Nat → Mu) (k : Nat) (s' : Shared) : Prop :=
  ∃ i, k = n + 1 - i ∧ i ≤ n ∧ (∀ j, j < i → br j = false) ∧ LmE w env s₀ Ds (R i) (M i) s' ∧ St i s'.heap ∧ (∀ b o, ¬ Own env b → b ∉ Ds → b ∉ wr → g.get? b = some o → s'.heap.get? b = some o)
noncomputable def ForP (I : Nat → Shared → Prop) (Z : Shared → Prop) (k : Nat) (f : Flow) (s : Shared) : Prop := match f with
  | .next | .cont => ∃ m, m < k ∧ I m s
  | .brk => Z s
  | .ret v => False
theorem x1_for {target iter : PySem.Expr} {body orelse : List Stmt} {pos : Pos} (n : Nat) (Bd R : Nat → Rho) (M : Nat → Mu) (br : Nat → Bool) (src : SrcT w A env s₀ (R 0) (M 0) iter target n Bd)
    (hR : ∀ i, i < n → ∀ p ∈ R i, p.1 ∉ (Bd i).map (·.1)) (hM : ∀ i, i < n → ∀ p ∈ M i, p.1 ∉ (Bd i).map (·.1))
    (hbody : ∀ i, i < n → (∀ j, j < i → br j = false) → Xs w A env s₀ (Bd i ++ R i) (M i) body (br i) (R (i + 1)) (M (i + 1)))
    (hbrk : ∀ i, i < n → br i = true → (∀ j, j < i → br j = false) → (∀ p ∈ ρ', p ∈ R (i + 1)) ∧ M (i + 1) = μ')
    (helse : (∀ j, j < n → br j = false) → Xs w A env s₀ (R n) (M n) orelse false ρ' μ')
    (hs : ∀ x, foldedSetIterable iter env x = pure x := by intro _; rfl) :
    X1 w A env s₀ (R 0) (M 0) (.For target iter body orelse pos) false ρ' μ' := ⟨fun s E Ds l => by
  refine wpAny_For (src s E Ds _ l fun I fp wr St s₂ k T hst hfp hwr => ?_) hs
  have hwD : ∀ b o, s.heap.get? b = some o → b ∉ wr := fun b o e h => by rw [hwr b h] at e; cases e
  refine codeAny_forLoop_any (ForI w env s₀ s₂.heap Ds wr n St br R M) ?_ (n + 1) ⟨0, rfl, Nat.zero_le _, fun j hj => absurd hj (Nat.not_lt_zero _), l.on k, hst, fun _ _ _ _ _ e => e⟩
  rintro _ s' ⟨i, rfl, hi, hbr, l', st', c'⟩
  by_cases hlt : i < n
  · have hn0 : n ≠ 0 := Nat.ne_of_gt (Nat.lt_of_le_of_lt (Nat.zero_le _) hlt)
    refine wpAny_mono (T.2.2.1 i s' (R i) (M i) _ (fun s₃ => wpAny (model PR w) A (execs body env) (ForP (ForI w env s₀ s₂.heap Ds wr n St br R M) (fun s₃ => Flow.next = (if false then Flow.brk else Flow.next) ∧ LmE w env s₀ Ds ρ' μ' s₃ ∧ ChD env Ds s.heap s₃.heap) (n + 1 - i)) (fun _ _ => False) s₃) hlt st' l' c' (hR i hlt) (hM i hlt) fun s₃ l₃ st₃ c₃ => ?_) (fun r s₁ h₁ => ?_) fun _ _ x => x
    · have c2 : ∀ b o, ¬ Own env b → b ∉ Ds → b ∉ wr → s₂.heap.get? b = some o → s₃.heap.get? b = some o := fun b o n d f e => c₃ b o n f (c' b o n d f e)
      have c3 : ChD env Ds s.heap s₃.heap := fun b o n d e => c2 b o n d (hwD b o e) (k.ext b o e)
      refine wpAny_mono ((hbody i hlt hbr).go s₃ _ Ds l₃) (fun f s₄ ⟨e, l₄, c₄⟩ => ?_) fun _ _ x => x
      subst e
      cases hb' : br i with
      | true =>
        obtain ⟨h1, h2⟩ := hbrk i hlt hb' hbr
        exact ⟨rfl, h2 ▸ (l₄.sub h1), c3.trans c₄⟩
      | false =>
        refine ⟨n + 1 - (i + 1), by omega, i + 1, rfl, hlt, fun j hj => ?_, l₄, T.2.1 _ _ _ st₃ fun b hb o e => c₄ b o (hfp hn0 b hb).1 (hfp hn0 b hb).2 e, fun b o n d f e => c₄ b o n d (c2 b o n d f e)⟩
        rcases Nat.lt_succ_iff_lt_or_eq.mp hj with h | rfl
        · exact hbr j h
        · exact hb'
    · obtain ⟨v, rfl, h₁⟩ := h₁
      refine wpAny_mono h₁ (fun _ s₂ h₂ => wpAny_mono h₂ (fun _ s₃ h₃ => wpAny_mono h₃ (fun f s₄ h₄ => ?_) fun _ _ x => x.elim) fun _ _ x => x) fun _ _ x => x
      cases f with
      | next => exact h₄
      | cont => exact h₄
      | brk => exact h₄
      | ret v => exact h₄.elim
  · obtain rfl : i = n := Nat.le_antisymm hi (Nat.not_lt.mp hlt)
    refine wpAny_mono (T.2.2.2 s' (R i) (M i) _ (fun s₃ => LmE w env s₀ Ds (R i) (M i) s₃ ∧ ChD env Ds s.heap s₃.heap) st' l' fun s₃ l₃ c₃ => ⟨l₃, fun b o n d e => c₃ b o (hwD b o e) (c' b o n d (hwD b o e) (k.ext b o e))⟩) (fun r s₁ h₁ => ?_) fun _ _ x => x
    obtain ⟨rfl, l₁, c₁⟩ := h₁
    exact wpAny_mono ((helse hbr).go s₁ _ Ds l₁) (fun f s₄ ⟨e, l₄, c₄⟩ => ⟨e, l₄, c₁.trans c₄⟩) fun _ _ x => x⟩
end
/- part F11 -/

theorem Reps.uniq {h : Heap} {ds es : List PyData} {vs : List Value} (r : Reps h ds vs) (q : Reps h es vs) : ds = es :=
  Reps.rec (motive_1 := fun d v _ => ∀ e, Rep h e v → d = e) (motive_2 := fun ds vs _ => ∀ es, Reps h es vs → ds = es)
    (fun e r => by cases r; rfl) (fun b e r => by cases r; rfl) (fun i t e r => by cases r; rfl) (fun x t e r => by cases r; rfl)
    (fun h1 _ ih e r => by
      cases r with
      | list g1 g2 => rw [h1] at g1; cases g1; rw [ih _ g2]
      | tuple g1 g2 => exact absurd (congrArg Obj.cls (Option.some.inj (h1.symm.trans g1))) (fun q => absurd (Value.type.inj q) (by decide)))
    (fun h1 _ ih e r => by
      cases r with
      | list g1 g2 => exact absurd (congrArg Obj.cls (Option.some.inj (h1.symm.trans g1))) (fun q => absurd (Value.type.inj q) (by decide))
      | tuple g1 g2 => rw [h1] at g1; cases g1; rw [ih _ g2])
    (fun es r => by cases r; rfl) (fun _ _ ia ib es r => by
      cases r with
      | cons g1 g2 => rw [ia _ g1, ib _ g2]) r es q
theorem del_off {x : Str} {ρ : Rho} (h : ∀ p ∈ ρ, p.1 ≠ x) : del x ρ = ρ := by
  unfold del
  refine List.filter_eq_self.mpr fun p hp => ?_
  simpa using h p hp

section
variable {w : World} {A : Around} {env : Env} {s₀ : Shared} {ρ ρ' : Rho} {μ μ' : Mu}

/-- a target, of one name or of two -/
abbrev Tgt (w : World) (A : Around) (env : Env) (s₀ : Shared) (target : PySem.Expr) (t : PyData) (bs : Rho) : Prop :=
  ∀ (Ds : List Addr) (ρ : Rho) (μ : Mu) (s : Shared) (v : Value) (E : Value → Shared → Prop) (Q : Unit → Shared → Prop), LmE w env s₀ Ds ρ μ s → Rep s.heap t v →
    (∀ p ∈ ρ, p.1 ∉ bs.map (·.1)) → (∀ p ∈ μ, p.1 ∉ bs.map (·.1)) → (∀ s', LmE w env s₀ Ds (bs ++ ρ) μ s' → (∀ b o, ¬ Own env b → s.heap.get? b = some o → s'.heap.get? b = some o) → Q () s') →
    wpAny (model PR w) A (assign target env v) Q E s
theorem tgt_name {x : Str} {px : Pos} {t : PyData} (he : EnvOk env) (hx : Stores env x) (hf : flat t = true) : Tgt w A env s₀ (.Name x px) t [(x, t)] := fun Ds ρ μ s v E Q l r hρ hμ hQ => by
  refine wpAny_assign_Name (store_name he hx l.fs r fun s' q => hQ s' ?_ q.ch)
  have := l.stoF q (fun p hp e => hμ p hp (by simp [e])) hf
  rw [del_off fun p hp e => hρ p hp (by simp [e])] at this
  exact this
theorem PlainTup.isTuple {h : Heap} {a : Addr} {vs : Array Value} (x : PlainTup h a vs) : h.IsTuple a vs := let ⟨n, e⟩ := x; ⟨_, e, rfl, n, rfl⟩
theorem tgt_pair {x y : Str} {px py pt : Pos} {k : Nat} {a b : PyData} {d : Nat} (r : Rm d A) (he : EnvOk env) (hx : Stores env x) (hy : Stores env y) (hxy : x ≠ y) (hfa : flat a = true) (hfb : flat b = true) :
    Tgt w A env s₀ (.Tuple [.Name x px, .Name y py] k pt) (.tuple [a, b]) [(x, a), (y, b)] := fun Ds ρ μ s v E Q l r' hρ hμ hQ => by
  obtain ⟨T, vs, rfl, hT, hr⟩ := r'.tuple_inv
  obtain ⟨v0, r1, e1, ra, hr1⟩ := hr.cons_inv
  obtain ⟨v1, r2, rfl, rb, hr2⟩ := hr1.cons_inv
  have := hr2.nil_inv
  subst this
  have hlen : vs.size = 2 := by have := congrArg List.length e1; simpa using this
  refine wpAny_assign_Tuple r.hh hT.isTuple (by rw [hlen]; rfl) rfl fun h₁ he₁ => ?_
  have up₁ : ∀ c o, s.heap.get? c = some o → h₁.get? c = some o := fun c o e => he₁ c o (Nat.ne_of_lt (Heap.lt_size e)) e
  have k₁ : Kp s { s with heap := h₁ } := ⟨h₁, s.toks, rfl, up₁⟩
  rw [e1]
  show wpAny _ _ (assignInOrder [assign (.Name x px) env, assign (.Name y py) env] [v0, v1]) _ _ _
  have l₁ := l.on k₁
  refine assignInOrder_cons (wpAny_assign_Name (store_name he hx l₁.fs (ra.keeps up₁) fun s₂ q₂ => ?_))
  have l₂ := l₁.stoF q₂ (fun p hp e => hμ p hp (by simp [e])) hfa
  refine assignInOrder_cons (wpAny_assign_Name (store_name he hy l₂.fs ((rb.flat hfb)) fun s₃ q₃ => ?_))
  have l₃ := l₂.stoF q₃ (fun p hp e => hμ p hp (by simp [e])) hfb
  refine assignInOrder_nil (hQ s₃ (l₃.sub fun p hp => ?_) fun c o n e => q₃.ch c o n (q₂.ch c o n (up₁ c o e)))
  rw [del_off (x := x) fun p hp e => hρ p hp (by simp [e])]
  rcases List.mem_cons.mp hp with rfl | hp
  · refine .tail _ (List.mem_filter.mpr ⟨.head _, ?_⟩)
    simpa using hxy
  · rcases List.mem_cons.mp hp with rfl | hp
    · exact .head _
    · refine .tail _ (List.mem_filter.mpr ⟨.tail _ hp, ?_⟩)
      have := hρ p hp
      simp at this
      simpa using this.2
theorem srct_of {iter target : PySem.Expr} {ts : List PyData} (Bd : Nat → Rho) (src : Src w A env ρ iter ts) (htgt : ∀ i t, ts[i]? = some t → Tgt w A env s₀ target t (Bd i)) (hfl : ∀ t ∈ ts, fl2 t = true) (hμ : ∀ p ∈ μ, ts ≠ [] → p.2 ≠ ts) :
    SrcT w A env s₀ ρ μ iter target ts.length Bd := fun s E Ds Q l hQ => by
  refine src.go s E Q l.cx fun I fp wr P St s₁ k hI hw => ?_
  have l₁ := l.on k
  have hwO : ∀ b ∈ wr, ¬ Own env b := fun b hbw ho => by
    have hn := hw b hbw
    rcases ho with rfl | ⟨x, e⟩
    · obtain ⟨m, o, _, _, h1, _⟩ := l.fs.ns; rw [hn] at h1; cases h1
    · obtain ⟨v, o, h1, _⟩ := l.fs.cell x b e; rw [hn] at h1; cases h1
  have hwD : ∀ b ∈ wr, b ∉ Ds := fun b hbw hd => by
    obtain ⟨p, _, vs, ⟨n, e⟩, _⟩ := l.mu.at hd
    rw [hw b hbw] at e; cases e
  have hw0 : ∀ b ∈ wr, ∀ o, s₀.heap.get? b ≠ some o := fun b hbw o e => by
    have := l.fs.keep b o e
    rw [hw b hbw] at this; cases this
  have mv : ∀ {i : Nat} {ρ : Rho} {μ : Mu} {s s' : Shared}, St i s.heap → LmE w env s₀ Ds ρ μ s → Same s s' → (∀ b o, b ∉ wr → s.heap.get? b = some o → s'.heap.get? b = some o) → LmE w env s₀ Ds ρ μ s' := fun {i ρ μ s s'} st ⟨hb, l⟩ hs hk =>
    have nf : ∀ b ∈ wr, ∀ o xs n, s.heap.get? b = some o → o.data = .seq xs n → False := fun b hbw o xs n e h => by
      obtain ⟨o', ys, h1, h2⟩ := hI.fl i _ st b hbw; rw [e] at h1; cases h1; rw [h] at h2; cases h2
    ⟨_, l.blank.move hs fun b o hc e => hk b o (fun hbw => by
      rcases hc with h | h | ⟨xs, n, h⟩ | ⟨o', h⟩ | ⟨o', h⟩
      · exact hwO b hbw h
      · exact hwD b hbw h
      · exact nf b hbw o xs n e h
      · obtain ⟨_, ⟨xs, n, h2⟩, h3⟩ := bl_of h; exact nf b hbw _ xs n h3 h2
      · exact hw0 b hbw _ h) e⟩
  refine hQ I fp wr St s₁ k ⟨hI.W.sub, hI.W.frame, fun i s' ρ μ E Q hi st l' hg hρ hμ hQ' => ?_, fun s' ρ μ E Q st l' hQ' => ?_⟩ hI.st (fun hn b hbf => ?_) hw
  · refine hI.W.item i s' _ _ hi st fun v h' tk hP st' hk' => ?_
    obtain ⟨t, ht, rt⟩ := hI.it i v hP
    have l₂ : LmE w env s₀ Ds ρ μ { s' with heap := h', toks := tk } := mv st l' ⟨_, _, rfl⟩ hk'
    refine ⟨v, rfl, hI.lg (i + 1) _ target v _ _ st' ?_⟩
    have rv : Rep h' t v := by
      refine rt.ktup (hfl t (List.mem_of_getElem? ht)) fun b o xs n e hc hd => ?_
      have hno : ¬ Own env b := l₁.fs.own e hd
      have hnw : b ∉ wr := fun q => by obtain ⟨o', ys, h1, h2⟩ := hI.fl 0 _ hI.st b q; rw [e] at h1; cases h1; rw [hd] at h2; cases h2
      refine hk' b o hnw (hg b o hno (fun q => ?_) hnw e)
      obtain ⟨p, _, vs, ⟨n', e'⟩, _⟩ := l₁.mu.at q
      rw [e] at e'; cases e'; exact absurd hc (by simp)
    refine (htgt i t ht) Ds ρ μ _ v _ _ l₂ rv hρ hμ fun s₃ l₃ c₃ => hQ' s₃ l₃ (hI.W.frame _ _ _ st' fun b hbf o e => c₃ b o ?_ e) fun b o n f e => c₃ b o n (hk' b o f e)
    obtain ⟨o', e', hc⟩ := hI.fp b hbf
    rcases hc with ⟨xs, hd⟩ | ⟨xs, n, hd, _⟩
    · exact l₁.fs.ownF e' hd
    · exact l₁.fs.own e' hd
  · exact hI.W.done s' _ _ st fun h' tk hk' => ⟨rfl, hQ' _ (mv st l' ⟨_, _, rfl⟩ hk') hk'⟩
  · obtain ⟨o', e', hc⟩ := hI.fp b hbf
    rcases hc with ⟨xs, hd⟩ | ⟨xs, n, hd, hr⟩
    · refine ⟨l₁.fs.ownF e' hd, fun q => ?_⟩
      obtain ⟨p, _, vs, ⟨n', e2⟩, _⟩ := l₁.mu.at q
      rw [e'] at e2; cases e2; cases hd
    · refine ⟨l₁.fs.own e' hd, fun q => ?_⟩
      obtain ⟨p, hp, vs, ⟨n', e2⟩, hr2⟩ := l₁.mu.at q
      rw [e'] at e2; cases e2; cases hd
      exact hμ p hp (fun q => hn (by rw [q]; rfl)) (hr2.uniq hr)
end
/- part F12 -/

section
variable {w : World} {A : Around} {env : Env} {s₀ : Shared} {ρ ρ' ρ'' : Rho} {μ μ' μ'' : Mu} {t : PyData} {br : Bool} {st : Stmt} {rest : List Stmt}
theorem Lm.stoDel {x : Str} {hb : Heap} {Ds : List Addr} {s s' : Shared} {t : PyData} (l : Lm w env hb s₀ Ds ρ μ s) (q : Sto env s₀ x t s s') (hμ : ∀ p ∈ μ, p.1 ≠ x) : Lm w env hb s₀ Ds (del x ρ) μ s' :=
  ⟨l.same.trans q.same, q.fs, l.gd, l.new, fun b o n d e => q.ch b o n (l.kq b o n d e), l.bs, l.base, fun p hp => by
    obtain ⟨h1, h2⟩ := mem_del hp; obtain ⟨v, a, b⟩ := l.nm p h1; exact ⟨v, q.nm _ v h2 a, b⟩, l.nd,
    l.mu.move (fun b o xs n e _ d => q.ch b o (l.fs.own e d) e) (fun p hp v h => q.nm _ v (hμ p hp) h) fun D hD o e => q.ch D o (l.off hD) e⟩
theorem x1_comp {elt iter : PySem.Expr} {x y : Str} {px py : Pos} {ifs : List PySem.Expr} {scope : Scope} {pos spos : Pos} {ts : List PyData} {d : Nat} (p : PyData → Bool) (f : PyData → PyData) (ρc : Rho)
    (hsw : swapsWith (.ListComp elt [⟨.Name x px, iter, ifs, 0⟩] scope pos) (some (.Name y py)) spos.line env = pure true)
    (r : Rm d A) (he : EnvOk env) (hy : Stores env y) (hμ : ∀ p ∈ μ, p.1 ≠ y) (src : Src w A env ρ iter ts) (hz : ts.length ≤ 100000)
    (hkind : scope.kind = .function) (hfree : ∀ y ∈ scope.names, y.2 = .free → env.kindOf y.1 = some .cell ∧ (env.cells.lookup y.1).isSome = true)
    (hcell : ∀ y ∈ scope.names, y.2 ≠ .cell) (hnames : ∀ y ∈ scope.names, y.2 = .local → scope.names.lookup y.1 = some .local)
    (hx : (recell scope.names).lookup x = some .local) (hdbg : (x == ("__debug__" : Str)) = false)
    (hρ : ∀ q ∈ ρc, q ∈ ρ ∧ (q.1, NameKind.free) ∈ scope.names ∧ (recell scope.names).lookup q.1 = some .cell)
    (htest : ∀ t ∈ ts, ∀ cenv, CEnv env scope cenv → TstL w A cenv ((x, t) :: ρc) ifs (p t))
    (helt : ∀ t ∈ ts, p t = true → ∀ cenv, CEnv env scope cenv → Evs w A cenv ((x, t) :: ρc) elt (f t))
    (hfl : ∀ t ∈ ts, p t = true → Mine.flat (f t) = true)
    (hs : ∀ v, foldedSetIterable iter env v = pure v := by intro _; rfl) :
    X1 w A env s₀ ρ μ (.Assign [.Name y py] (.ListComp elt [⟨.Name x px, iter, ifs, 0⟩] scope pos) spos) false ((y, .list ((ts.filter p).map f)) :: del y ρ) μ := ⟨fun s E Ds l => by
  have hfl2 : ∀ t, Mine.flat t = true → fl2 t = true := fun t h => by cases t <;> first | exact h | cases h
  refine ex_compN p f ρc hsw r he hy src hz hkind hfree hcell hnames hx hdbg hρ htest helt (fun t ht hp => hfl2 _ (hfl t ht hp)) (l.fin.sub fun q hq => List.mem_append_right _ hq) (fun s' D q hq hr hD => ?_) hs
  obtain ⟨hb, l⟩ := l
  refine ⟨rfl, ?_, fun b o n d e => q.ch b o n e⟩
  have l₂ := (l.stoDel q hμ).blank
  have hnd : D ∉ Ds := fun h => by
    obtain ⟨p, _, vs, ⟨n, e⟩, _⟩ := l.mu.at h
    rw [hD] at e; cases e
  refine ⟨_, l₂.same, l₂.fs, l₂.gd, l₂.new, l₂.kq, l₂.bs, l₂.base, fun p' hp' => ?_, l₂.nd, l₂.mu⟩
  rcases List.mem_cons.mp hp' with rfl | hp'
  · obtain ⟨a, vs, e1, ⟨n, e2⟩, hr1⟩ := hr.list_inv
    cases e1
    refine ⟨_, hq, .list (bl_to hnd e2 rfl) (hr1.flat (List.all_eq_true.mpr fun u hu => ?_))⟩
    obtain ⟨t, h1, rfl⟩ := List.mem_map.mp hu
    obtain ⟨h2, h3⟩ := List.mem_filter.mp h1
    exact hfl t h2 h3
  · exact l₂.nm p' hp'⟩

theorem x1_extend {x : Str} {xs ys : List PyData} {i : Nat} {px apos pos p : Pos} {e : PySem.Expr} (he : EnvOk env) (hi : μ[i]? = some (x, xs)) (h : Evs w A env ρ e (.list ys)) (hf : ∀ d ∈ ys, fl2 d = true) (hz : xs.length ≤ 100000) (hz2 : ys.length ≤ 100000)
    (hbase : attributeBase (.Name x px) "extend" env (eval (.Name x px) env) = eval (.Name x px) env)
    (hline : (apos.endLine == pos.line) = true) (htrees : starEach [e] env = [(false, eval e env)])
    (hsw : swapsWith (.Call (.Attribute (.Name x px) "extend" apos) [e] [] pos) none p.line env = pure false) :
    X1 w A env s₀ ρ μ (.Expr (.Call (.Attribute (.Name x px) "extend" apos) [e] [] pos) p) false ρ (μ.set i (x, xs ++ ys)) := ⟨fun s E Ds ⟨hb, l⟩ => by
  obtain ⟨D, hD, ⟨hdbg, hn⟩, hfl, vs, hl, hr⟩ := l.mu.get hi
  have hDm : D ∈ Ds := List.mem_iff_getElem?.mpr ⟨i, hD⟩
  have hev : ∀ {Q : Value → Shared → Prop}, Q (.ref D) s → wpAny (model PR w) A (eval (.Name x px) env) Q E s := fun hQ => by
    rcases hn with ⟨a, m, b, c⟩ | ⟨a, c, b, d⟩
    · exact wpAny_Name (wpAny_loadName_local he.kind a b c hQ) hdbg
    · exact wpAny_Name (wpAny_loadName_cell he.kind a b d hQ) hdbg
  refine wpAny_Expr_any (Call_method1 hbase htrees hline (hev ?_)) (by unfold interactive; rw [he.kind]; rfl) hsw
  obtain ⟨nL, eL⟩ := id hl
  refine ⟨"list", "list.extend", F.plainAttrs_list, F.slot_list_extend, F.type_list_extend, ⟨_, eL, rfl⟩, (fun a e => by cases e; exact ⟨_, eL, rfl⟩), ?_⟩
  refine Calls.callWith_builtin rfl (Calls.evalArgs_plain (Calls.spliced_cons (wpAny_mono (h.go s E l.cx) (fun v s₁ ⟨k₁, r₁⟩ => Calls.spliced_nil ?_) fun _ _ e => e)))
  obtain ⟨b, us, rfl, ⟨nb, eb⟩, hu⟩ := r₁.list_inv
  have l₁ := l.on k₁
  have eL₁ := k₁.ext _ _ eL
  have hr₁ := hr.keeps k₁.ext
  have hlen := hr.length
  have hlen2 := hu.length
  simp only [Array.length_toList] at hlen hlen2
  refine call_meets F.slot_list_extend ⟨_, eL₁, rfl⟩ F.entry_list_extend (F.args_list_extend_2 _ _) (AutoSeq1.list_extend_list_list_0 D vs nL b us nb (extend_door (by rw [sizeLine_eq]; omega)) (by rw [sizeLine_eq]; omega)) ⟨eL₁, eb, ?_⟩
  have hs' : Heap.SameBut D s₁.heap (s₁.heap.update D (Obj.mapSeq fun x => x ++ us)) := Heap.SameBut.update ..
  have hl' : (s₁.heap.update D (Obj.mapSeq fun x => x ++ us)).PlainList D (vs ++ us) := ⟨_, by rw [Heap.get?_update_self _ eL₁ (by rw [mapSeq_app]; rfl), mapSeq_app]⟩
  generalize (s₁.heap.update D (Obj.mapSeq fun x => x ++ us)) = h' at hs' hl' ⊢
  have q := l₁.grow hD (NameIs.keeps ⟨hdbg, hn⟩ k₁.ext) hfl hf ⟨_, eL₁⟩ hr₁ hu hs' hl'
  exact ⟨rfl, q.1, (ChD.of k₁.ext).trans q.2⟩⟩
end
/- part F13 -/

noncomputable def isStrV (z : Str) : Value → Bool
  | .str y _ => y == z
  | _ => false
section
variable {w : World} {A : Around} {env : Env} {ρ : Rho}
theorem ev_index {o e : PySem.Expr} {apos pos : Pos} {ys : List Str} {z : Str} {j : Nat} (ho : Evs w A env ρ o (.list (ys.map .str))) (he : Evs w A env ρ e (.str z)) (hj : ys[j]? = some z) (hmin : ∀ m, m < j → ys[m]? ≠ some z) (hsz : ys.length ≤ 100000)
    (hbase : attributeBase o "index" env (eval o env) = eval o env) (hline : (apos.endLine == pos.line) = true) (hs : starEach [e] env = [(false, eval e env)] := by rfl) :
    Evs w A env ρ (.Call (.Attribute o "index" apos) [e] [] pos) (.int j) := ⟨fun s E c => by
  refine Call_method1 hbase hs hline (wpAny_mono (ho.go s E c) (fun ov s₁ ⟨k₁, r₁⟩ => ?_) fun _ _ x => x)
  obtain ⟨a, vs, rfl, ⟨n, hl⟩, hr⟩ := r₁.list_inv
  refine ⟨"list", "list.index", F.plainAttrs_list, F.slot_list_index, F.type_list_index, ⟨_, hl, rfl⟩, (fun a e => by cases e; exact ⟨_, hl, rfl⟩), ?_⟩
  refine Calls.callWith_builtin rfl (Calls.evalArgs_plain (Calls.spliced_cons (wpAny_mono (he.go s₁ E (c.on k₁)) (fun v s₂ ⟨k₂, r₂⟩ => Calls.spliced_nil ?_) fun _ _ e => e)))
  obtain ⟨t, rfl⟩ := r₂.str_inv
  have hl₂ := k₂.ext _ _ hl
  have hr₂ := hr.keeps k₂.ext
  have hlen := hr₂.length
  simp only [Array.length_toList, List.length_map] at hlen
  have at_ : ∀ (i : Nat) (h : i < vs.size), ∃ y u, vs[i] = .str y u ∧ ys[i]? = some y := fun i h => by
    obtain ⟨dd, h1, h2⟩ := hr₂.at (i := i) (v := vs[i]) (by simp [h])
    rw [List.getElem?_map] at h1
    obtain ⟨y, h3, rfl⟩ := Option.map_eq_some_iff.mp h1
    obtain ⟨u, h4⟩ := h2.str_inv
    exact ⟨y, u, h4, h3⟩
  have hjl : j < vs.size := by rw [hlen]; exact (List.getElem?_eq_some_iff.mp hj).1
  refine call_meets F.slot_list_index ⟨_, hl₂, rfl⟩ F.entry_list_index (F.args_list_index_2 _ _) (MeetsSeq.list_index a vs n (.str z t) (isStrV z) ?_ j hjl (by omega) ?_ ?_) ⟨hl₂, (k₁.trans k₂).trans (Kp.tok s₂ _), .int _ _⟩
  · intro y hy
    obtain ⟨i, hi, rfl⟩ := Array.getElem_of_mem hy
    obtain ⟨x, u, h1, _⟩ := at_ i hi
    rw [h1]
    exact fun _ _ _ _ _ _ h => wpAny_eqBool_str h
  · obtain ⟨x, u, h1, h2⟩ := at_ j hjl
    rw [h1]
    rw [hj] at h2; cases h2
    show (z == z) = true
    simp
  · intro m hm hlt
    obtain ⟨x, u, h1, h2⟩ := at_ m hm
    rw [h1]
    show (x == z) = false
    cases q : x == z with
    | false => rfl
    | true => rw [eq_of_beq q] at h2; exact absurd h2 (hmin m hlt)⟩
end
/- part F14 -/

theorem rep_fold (items : Array Value) : ∀ (k : Nat) (a : Array Value), (List.foldl (fun x1 x2 => x1 ++ x2) a (List.replicate k items)).toList = a.toList ++ (List.replicate k items.toList).flatten
  | 0, a => by simp
  | k + 1, a => by
    rw [List.replicate_succ, List.foldl_cons, rep_fold items k (a ++ items), List.replicate_succ, List.flatten_cons, Array.toList_append, List.append_assoc]
theorem Reps.times {h : Heap} {ds : List PyData} {vs : List Value} (r : Reps h ds vs) : ∀ k : Nat, Reps h (List.replicate k ds).flatten (List.replicate k vs).flatten
  | 0 => .nil
  | k + 1 => by
    rw [List.replicate_succ, List.replicate_succ, List.flatten_cons, List.flatten_cons]
    exact r.append (Reps.times r k)
section
variable {w : World} {A : Around}
theorem bin_mulL {xs : List PyData} {n : Int} (h0 : 0 ≤ n) (h1 : n ≤ 1000) (hne : xs ≠ []) (hz : xs.length ≤ 1000) : BinSem w A .Mult (.list xs) (.int n) (.list (List.replicate n.toNat xs).flatten) := ⟨fun s E u v _ ru rv => by
  obtain ⟨l, vs, rfl, ⟨k, hl⟩, hr⟩ := ru.list_inv
  obtain ⟨t, rfl⟩ := rv.int_inv
  have hlen := hr.length
  simp only [Array.length_toList] at hlen
  have hsz : vs.size * n.toNat ≤ 1000 * 1000 := Nat.mul_le_mul (by omega) (by omega)
  refine wpAny_binaryOp_repeat_ref (T := "list") (U := "int") (by decide) ⟨_, hl, rfl⟩ (fun s' => typeIs_int s' n t) noFill_list_mul F.fills_int_mul F.slot_int_rmul repeat_list F.slot_int_index.lookup
    (call_meets F.slot_int_rmul (typeIs_int s n t) F.entry_int_rmul (F.args_int_rmul_2 _ _) (int___rmul___int_list n t l vs k)
      ⟨hl, rfl, ⟨_, hl, rfl⟩, call_meets F.slot_list_mul ⟨_, hl, rfl⟩ F.entry_list_mul (F.args_list_mul_2 _ _)
        (AutoListH.list___mul___list_int_3 l vs k n t (by simp [Builtin.List.listFitsIndex]; omega) (by omega) (by simp [Builtin.List.listTooLong, sizeLine]; omega))
        ⟨hl, Kp.push' s _, .list_of ⟨_, Heap.get?_push_size _ rfl⟩ ?_⟩⟩)
  have hemp : vs.isEmpty = false := by
    cases hq : vs.isEmpty with
    | false => rfl
    | true =>
      have : vs.size = 0 := by simpa using hq
      exact absurd (List.length_eq_zero_iff.mp (by omega)) hne
  rw [hemp, if_neg (by decide), rep_fold]
  exact (hr.times n.toNat).keeps (Kp.push' s _).ext⟩
end
/- part F15 -/
section
variable {w : World} {A : Around} {env : Env} {ρ : Rho}
theorem ev_sindex {o e : PySem.Expr} {apos pos : Pos} {x y : Str} {i : Nat} {rest : List Nat} (ho : Evs w A env ρ o (.str x)) (he : Evs w A env ρ e (.str y)) (hocc : Builtin.Str.occurrences x y 0 x.length 1 = i :: rest)
    (hbase : attributeBase o "index" env (eval o env) = eval o env) (hline : (apos.endLine == pos.line) = true) (hs : starEach [e] env = [(false, eval e env)] := by rfl) :
    Evs w A env ρ (.Call (.Attribute o "index" apos) [e] [] pos) (.int i) := ⟨fun s E c => by
  refine Call_method1 hbase hs hline (wpAny_mono (ho.go s E c) (fun ov s₁ ⟨k₁, r₁⟩ => ?_) fun _ _ x => x)
  obtain ⟨t, rfl⟩ := r₁.str_inv
  refine ⟨"str", "str.index", F.plainAttrs_str, F.slot_str_index, F.type_str_index, typeIs_str _ _ _, (fun _ e => nomatch e), ?_⟩
  refine Calls.callWith_builtin rfl (Calls.evalArgs_plain (Calls.spliced_cons (wpAny_mono (he.go s₁ E (c.on k₁)) (fun v s₂ ⟨k₂, r₂⟩ => Calls.spliced_nil ?_) fun _ _ e => e)))
  obtain ⟨u, rfl⟩ := r₂.str_inv
  exact SC.index hocc ⟨(k₁.trans k₂).trans (Kp.tok s₂ _), .int _ _⟩⟩
end
/- part F16 -/
/-- a sort's tree, answered by lt -/
noncomputable def evalK {α : Type} (lt : Nat → Nat → Bool) : KasT α → α
  | .ret a => a
  | .ask i j k => evalK lt (k (lt i j))
noncomputable def ltK (keys : List Nat) (i j : Nat) : Bool := decide (keys.getD i 0 < keys.getD j 0)
/- part G1 -/
theorem kind_of {env : Env} {sc : Scope} {x : Str} {k : NameKind} (hs : env.scope = sc) (h : sc.names.lookup x = some k) : env.kindOf x = some k := by
  unfold Env.kindOf; rw [hs]; exact h


theorem d_ifmt (w : World) : Def w "S_IFMT" 35 := ⟨by k_is, by k_is, by decide⟩
theorem d_imode (w : World) : Def w "S_IMODE" 28 := ⟨by k_is, by k_is, by decide⟩

section
variable {w : World} {A : Around} {d : Nat} {m : Int}
theorem fn_ifmt (r : Rm (d + 1) A) : Fn w A 35 [.int m] (.int (Builtin.bitAnd m 61440)) := by
  refine' enter (names := [Str.ofString "mode"]) r ?k1 ?k2 ?k3 ?k4 ?k5 ?k6 ?k7 ?k8 ?k9 ?k10 ?k11 ?k12 ?k13 ?k14 ?k15
  (((((case k1 => k_is); (case k2 => k_is); (case k3 => exact rfl); (case k4 => exact rfl); (case k5 => exact rfl); (case k6 => exact rfl); (case k8 => exact rfl); (case k9 => decide); (case k10 => decide); (case k11 => ((repeat (refine List.forall_mem_cons.mpr ⟨?_, ?_⟩; (first | exact .inl rfl | exact .inr ⟨rfl, fun _ => rfl⟩))); exact List.forall_mem_nil _)); (case k12 => exact rfl); (case k13 => exact rfl); (case k14 => exact rfl))); (case k7 => exact fit1 fun _ => rfl)))
  intro s env he hs hc
  exact blk_return (ev_bin (ev_name he (by (repeat (first | exact List.Mem.head _ | refine List.Mem.tail _ ?_)))) ev_int bin_and)
theorem fn_imode (r : Rm (d + 1) A) : Fn w A 28 [.int m] (.int (Builtin.bitAnd m 4095)) := by
  refine' enter (names := [Str.ofString "mode"]) r ?k1 ?k2 ?k3 ?k4 ?k5 ?k6 ?k7 ?k8 ?k9 ?k10 ?k11 ?k12 ?k13 ?k14 ?k15
  (((((case k1 => k_is); (case k2 => k_is); (case k3 => exact rfl); (case k4 => exact rfl); (case k5 => exact rfl); (case k6 => exact rfl); (case k8 => exact rfl); (case k9 => decide); (case k10 => decide); (case k11 => ((repeat (refine List.forall_mem_cons.mpr ⟨?_, ?_⟩; (first | exact .inl rfl | exact .inr ⟨rfl, fun _ => rfl⟩))); exact List.forall_mem_nil _)); (case k12 => exact rfl); (case k13 => exact rfl); (case k14 => exact rfl))); (case k7 => exact fit1 fun _ => rfl)))
  intro s env he hs hc
  exact blk_return (ev_bin (ev_name he (by (repeat (first | exact List.Mem.head _ | refine List.Mem.tail _ ?_)))) ev_int bin_and)
end
/- part G2 -/

theorem slen_append (a b : Str) : (a ++ b).length = a.length + b.length := by
  show (a.cps ++ b.cps).size = _
  rw [Array.size_append]; rfl
theorem off_of {α : Type} {ρ : List (Str × α)} {xs : List Str} (h : (ρ.all fun p => !(xs.contains p.1)) = true) : ∀ p ∈ ρ, p.1 ∉ xs := fun p hp hx => by
  have := List.all_eq_true.mp h p hp
  rw [List.contains_iff_mem.mpr hx] at this
  cases this
theorem ne_of {α : Type} {ρ : List (Str × α)} {x : Str} (h : (ρ.all fun p => !(p.1 == x)) = true) : ∀ p ∈ ρ, p.1 ≠ x := fun p hp hx => by
  have := List.all_eq_true.mp h p hp
  rw [hx] at this
  simp at this
noncomputable def chAt (x : Str) (i : Int) : Str := ⟨#[x.cps.toList.getD i.toNat 0]⟩
theorem slen_chAt (x : Str) (i : Int) : (chAt x i).length = 1 := rfl
section
variable {w : World} {A : Around} {env : Env} {ρ : Rho}
theorem item_strD {x : Str} {k : Int} (h0 : 0 ≤ k) (h1 : k < x.cps.toList.length) (hz : x.length ≤ 100000 := by decide) : ItemSem w A (.str x) (.int k) (.str (chAt x k)) := by
  refine item_str h0 ?_ hz
  have : k.toNat < x.cps.toList.length := by omega
  rw [List.getD_eq_getElem?_getD, List.getElem?_eq_getElem this]; rfl
theorem stores_local {env : Env} {sc : Scope} {x : Str} (hs : env.scope = sc) (h : sc.names.lookup x = some .local) (hd : (x == ("__debug__" : Str)) = false := by decide) : Stores env x := ⟨hd, .inl (kind_of hs h)⟩
end

theorem wid {x a b c d : Int} (h : a ≤ x ∧ x < b) (h1 : c ≤ a := by decide) (h2 : b ≤ d := by decide) : c ≤ x ∧ x < d := ⟨Int.le_trans h1 h.1, Int.lt_of_lt_of_le h.2 h2⟩
theorem bd (x : Int) {b : Int} (hb : 0 < b := by decide) : 0 ≤ x % b ∧ x % b < b := ⟨Int.emod_nonneg _ (Int.ne_of_gt hb), Int.emod_lt_of_pos _ hb⟩
theorem bq {x a b c : Int} (h : 0 ≤ x ∧ x < c) (ha : 0 < a := by decide) (hc : c ≤ b * a := by decide) : 0 ≤ x / a ∧ x / a < b := ⟨Int.ediv_nonneg h.1 (Int.le_of_lt ha), Int.ediv_lt_of_lt_mul ha (Int.lt_of_lt_of_le h.2 hc)⟩
theorem nle {a b c : Nat} (h : a ≤ b) (h2 : b ≤ c := by decide) : a ≤ c := Nat.le_trans h h2
noncomputable def pick3 (k : Int) : Str := if k = 2 then "-xTt" else "-xSs"
noncomputable def figure (m k : Int) : Int := m / 8 ^ k.toNat % 8
noncomputable def rowStep (m : Int) (row : Str) (k : Int) : Str := ((row ++ chAt "-r" (figure m k / 4)) ++ chAt "-w" (figure m k / 2 % 2)) ++ chAt (pick3 (2 - k)) (figure m k % 2 + m / 2 ^ (9 + k).toNat % 2 * 2)
noncomputable def rowS (m : Int) : Nat → Str
  | 0 => chAt "?pc?d?b?-?l?s???" (m / 4096)
  | n + 1 => rowStep m (rowS m n) (2 - (n : Int))
theorem slen_row (m : Int) : ∀ n, (rowS m n).length = 1 + 3 * n
  | 0 => rfl
  | n + 1 => by
    unfold rowS rowStep
    rw [slen_append, slen_append, slen_append, slen_row m n, slen_chAt, slen_chAt, slen_chAt]
    omega

section
variable {w : World} {A : Around} {d : Nat} {m : Int}
theorem k_in : ∀ {i : Nat}, i < 3 → (2 - (i : Int) = 2 ∨ 2 - (i : Int) = 1 ∨ 2 - (i : Int) = 0)
  | 0, _ => .inl rfl
  | 1, _ => .inr (.inl rfl)
  | 2, _ => .inr (.inr rfl)
theorem k_at : ∀ {i : Nat} {t : PyData}, [PyData.int 2, .int 1, .int 0][i]? = some t → t = .int (2 - (i : Int))
  | 0, _, e => by cases e; rfl
  | 1, _, e => by cases e; rfl
  | 2, _, e => by cases e; rfl
theorem fn_row (r : Rm (d + 1) A) (h0 : 0 ≤ m) (h1 : m < 65536) : Fn w A 131 [.int m] (.str (rowS m 3)) := by
  refine' enter (names := [Str.ofString "mode"]) r ?k1 ?k2 ?k3 ?k4 ?k5 ?k6 ?k7 ?k8 ?k9 ?k10 ?k11 ?k12 ?k13 ?k14 ?k15
  (((((case k1 => k_is); (case k2 => k_is); (case k3 => exact rfl); (case k4 => exact rfl); (case k5 => exact rfl); (case k6 => exact rfl); (case k8 => exact rfl); (case k9 => decide); (case k10 => decide); (case k11 => ((repeat (refine List.forall_mem_cons.mpr ⟨?_, ?_⟩; (first | exact .inl rfl | exact .inr ⟨rfl, fun _ => rfl⟩))); exact List.forall_mem_nil _)); (case k12 => exact rfl); (case k13 => exact rfl); (case k14 => exact rfl))); (case k7 => exact fit1 fun _ => rfl)))
  intro s env he hs hc
  have r' := r.deeper env
  have hq : 0 ≤ m / 4096 ∧ m / 4096 < 16 := bq ⟨h0, h1⟩
  refine blk_assign he (stores_local hs rfl) (ev_item ev_str (ev_bin (ev_name he (by (repeat (first | exact List.Mem.head _ | refine List.Mem.tail _ ?_)))) ev_int (bin_div (by decide) (by decide))) (item_strD hq.1 hq.2)) rfl ?_
  refine blkm_of (blkm_x (x1_for 3 (fun i => [("k", .int (2 - (i : Int)))]) (fun i => [("row", .str (rowS m i)), ("mode", .int m)]) (fun _ => []) (fun _ => false)
    (srct_of _ (src_tuple r' (ev_tuple (ts := [PyData.int 2, .int 1, .int 0]) (show EvsL _ _ _ _ _ (List.map PyData.int [2, 1, 0]) from by (repeat (first | exact evl_nil | refine evl_cons ev_int ?_ | refine evl_cons ev_str ?_))))) (fun i t ht => ?_) (by decide) (fun p hp => by cases hp)) ?_ (fun i hi p hp => by cases hp) ?_ (fun i hi h => by cases h) (fun _ => xs_nil)) (blkm_fin (blk_return (ev_name he (by (repeat (first | exact List.Mem.head _ | refine List.Mem.tail _ ?_)))))))
  · rw [k_at ht]; exact tgt_name he (stores_local hs rfl) rfl
  · exact fun i hi => off_of rfl
  · intro i hi _
    have hk := k_in hi
    have hrow : (rowS m i).length ≤ 1000 := by rw [slen_row]; exact nle (Nat.add_le_add_left (Nat.mul_le_mul_left 3 (Nat.le_of_lt hi)) 1)
    show Xs w (A.deeper env) env s ([(_, _)] ++ [_, _]) [] _ false [(_, .str (rowStep m (rowS m i) (2 - (i : Int)))), _] []
    generalize rowS m i = row at hrow ⊢
    generalize 2 - (i : Int) = k at hk ⊢
    have hk0 : 0 ≤ k ∧ k ≤ 1000000 ∧ 0 ≤ 9 + k ∧ 9 + k ≤ 1000000 ∧ k < 3 := by rcases hk with rfl | rfl | rfl <;> decide
    have hf : 0 ≤ figure m k ∧ figure m k < 8 := bd _
    have hp8 : 0 < (8 : Int) ^ k.toNat ∧ (8 : Int) ^ k.toNat < 1073741824 := by rcases hk with rfl | rfl | rfl <;> decide
    have hp2 : 0 < (2 : Int) ^ (9 + k).toNat ∧ (2 : Int) ^ (9 + k).toNat < 1073741824 := by rcases hk with rfl | rfl | rfl <;> decide
    have f4 : 0 ≤ figure m k / 4 ∧ figure m k / 4 < 2 := bq hf
    have f2 := bd (figure m k / 2) (b := 2)
    have f1 := bd (figure m k) (b := 2)
    have m2 := bd (m / 2 ^ (9 + k).toNat) (b := 2)
    have l1 : (row ++ chAt "-r" (figure m k / 4)).length ≤ 1001 := by rw [slen_append, slen_chAt]; exact Nat.add_le_add_right hrow 1
    have l2 : ((row ++ chAt "-r" (figure m k / 4)) ++ chAt "-w" (figure m k / 2 % 2)).length ≤ 1002 := by rw [slen_append, slen_chAt]; exact Nat.add_le_add_right l1 1
    refine xs_cons (x1_assign he (stores_local hs rfl) (t := .int (figure m k)) (ev_bin (ev_bin (ev_name he (by (repeat (first | exact List.Mem.head _ | refine List.Mem.tail _ ?_)))) (ev_bin ev_int (ev_name he (by (repeat (first | exact List.Mem.head _ | refine List.Mem.tail _ ?_)))) (bin_pow hk0.1 hk0.2.1 (by decide))) (bin_div hp8.1 hp8.2)) ev_int (bin_mod (by decide))) rfl (fun p hp => by cases hp) rfl) ?_
    refine xs_cons (x1_assign he (stores_local hs rfl) (t := .str ((row ++ chAt "-r" (figure m k / 4)) ++ chAt "-w" (figure m k / 2 % 2))) (ev_bin (ev_bin (ev_name he (by (repeat (first | exact List.Mem.head _ | refine List.Mem.tail _ ?_)))) (ev_item ev_str (ev_bin (ev_name he (by (repeat (first | exact List.Mem.head _ | refine List.Mem.tail _ ?_)))) ev_int (bin_div (by decide) (by decide))) (item_strD f4.1 f4.2)) (bin_str (nle (Nat.add_le_add_right hrow 1))))
      (ev_item ev_str (ev_bin (ev_bin (ev_name he (by (repeat (first | exact List.Mem.head _ | refine List.Mem.tail _ ?_)))) ev_int (bin_div (by decide) (by decide))) ev_int (bin_mod (by decide))) (item_strD f2.1 f2.2)) (bin_str (nle (Nat.add_le_add_right l1 1)))) rfl (fun p hp => by cases hp) rfl) ?_
    refine xs_sub (xs_last (x1_assign he (stores_local hs rfl) (t := .str (rowStep m row k)) (ev_bin (ev_name he (by (repeat (first | exact List.Mem.head _ | refine List.Mem.tail _ ?_)))) (ev_item (a := .str (pick3 (2 - k))) (ev_item (ev_tuple (show EvsL _ _ _ _ _ (List.map PyData.str ["-xTt", "-xSs", "-xSs"]) from by (repeat (first | exact evl_nil | refine evl_cons ev_int ?_ | refine evl_cons ev_str ?_)))) (ev_name he (by (repeat (first | exact List.Mem.head _ | refine List.Mem.tail _ ?_)))) ?_)
      (ev_bin (ev_bin (ev_name he (by (repeat (first | exact List.Mem.head _ | refine List.Mem.tail _ ?_)))) ev_int (bin_mod (by decide))) (ev_bin (ev_bin (ev_bin (ev_name he (by (repeat (first | exact List.Mem.head _ | refine List.Mem.tail _ ?_)))) (ev_bin ev_int (ev_bin ev_int (ev_name he (by (repeat (first | exact List.Mem.head _ | refine List.Mem.tail _ ?_)))) bin_add) (bin_pow hk0.2.2.1 hk0.2.2.2.1 (by decide))) (bin_div hp2.1 hp2.2)) ev_int (bin_mod (by decide))) ev_int (bin_mul (by rcases Int.emod_two_eq (m / 2 ^ (9 + k).toNat) with h | h <;> rw [h] <;> decide))) bin_add) ?_) (bin_str ?_)) rfl (fun p hp => by cases hp) rfl)) ?_
    · rcases hk with rfl | rfl | rfl <;> exact item_tup (by decide) rfl (by decide)
    · refine item_strD (Int.add_nonneg f1.1 (Int.mul_nonneg m2.1 (by decide))) ?_ ?_
      · have : (pick3 (2 - k)).cps.toList.length = 4 := by unfold pick3; split <;> rfl
        rw [this]; omega
      · unfold pick3; split <;> decide
    · rw [slen_chAt]; exact nle (Nat.add_le_add_right l2 1)
    · (repeat (first | exact List.forall_mem_nil _ | refine List.forall_mem_cons.mpr ⟨by (repeat (first | exact List.Mem.head _ | refine List.Mem.tail _ ?_)), ?_⟩))
end
/- part G3 -/

theorem free_of {env : Env} {sc : Scope} {names : List (Str × NameKind)} (hs : env.scope = sc) (hc : env.cells = cellsFrom (env.locals + 1) sc.names [])
    (h : ∀ n, (names.all fun y => !(y.2 == .free) || (sc.names.lookup y.1 == some .cell && ((cellsFrom n sc.names []).lookup y.1).isSome)) = true) :
    ∀ y ∈ names, y.2 = .free → env.kindOf y.1 = some .cell ∧ (env.cells.lookup y.1).isSome = true := fun y hy e => by
  have := List.all_eq_true.mp (h (env.locals + 1)) y hy
  rw [e] at this
  simp only [beq_self_eq_true, Bool.not_true, Bool.false_or, Bool.and_eq_true, beq_iff_eq] at this
  refine ⟨kind_of hs this.1, ?_⟩
  rw [hc]; exact this.2
noncomputable def isK (m c : Int) : Bool := Builtin.bitAnd m 61440 == c

section
variable {w : World} {A : Around} {d : Nat} {m : Int}
theorem fn_is42 (r : Rm (d + 2) A) : Fn w A 42 [.int m] (.bool (isK m 16384)) := by ((refine' enter (names := [Str.ofString "mode"]) (by assumption) ?k1 ?k2 ?k3 ?k4 ?k5 ?k6 ?k7 ?k8 ?k9 ?k10 ?k11 ?k12 ?k13 ?k14 ?k15; (((((case k1 => k_is); (case k2 => k_is); (case k3 => exact rfl); (case k4 => exact rfl); (case k5 => exact rfl); (case k6 => exact rfl); (case k8 => exact rfl); (case k9 => decide); (case k10 => decide); (case k11 => ((repeat (refine List.forall_mem_cons.mpr ⟨?_, ?_⟩; (first | exact .inl rfl | exact .inr ⟨rfl, fun _ => rfl⟩))); exact List.forall_mem_nil _)); (case k12 => exact rfl); (case k13 => exact rfl); (case k14 => exact rfl))); (case k7 => exact fit1 fun _ => rfl))); intro s env he hs hc; exact blk_return (ev_cmp (ev_call he (d_ifmt _) (kind_of hs rfl) (evl_cons (ev_name he (by (repeat (first | exact List.Mem.head _ | refine List.Mem.tail _ ?_)))) evl_nil) (fn_ifmt (Rm.deeper (by assumption) env))) (ev_top he (kind_of hs rfl) (by k_is) (by decide) fun _ _ => Rep.int _ _) cmp_eqI)))
theorem fn_is49 (r : Rm (d + 2) A) : Fn w A 49 [.int m] (.bool (isK m 8192)) := by ((refine' enter (names := [Str.ofString "mode"]) (by assumption) ?k1 ?k2 ?k3 ?k4 ?k5 ?k6 ?k7 ?k8 ?k9 ?k10 ?k11 ?k12 ?k13 ?k14 ?k15; (((((case k1 => k_is); (case k2 => k_is); (case k3 => exact rfl); (case k4 => exact rfl); (case k5 => exact rfl); (case k6 => exact rfl); (case k8 => exact rfl); (case k9 => decide); (case k10 => decide); (case k11 => ((repeat (refine List.forall_mem_cons.mpr ⟨?_, ?_⟩; (first | exact .inl rfl | exact .inr ⟨rfl, fun _ => rfl⟩))); exact List.forall_mem_nil _)); (case k12 => exact rfl); (case k13 => exact rfl); (case k14 => exact rfl))); (case k7 => exact fit1 fun _ => rfl))); intro s env he hs hc; exact blk_return (ev_cmp (ev_call he (d_ifmt _) (kind_of hs rfl) (evl_cons (ev_name he (by (repeat (first | exact List.Mem.head _ | refine List.Mem.tail _ ?_)))) evl_nil) (fn_ifmt (Rm.deeper (by assumption) env))) (ev_top he (kind_of hs rfl) (by k_is) (by decide) fun _ _ => Rep.int _ _) cmp_eqI)))
theorem fn_is56 (r : Rm (d + 2) A) : Fn w A 56 [.int m] (.bool (isK m 24576)) := by ((refine' enter (names := [Str.ofString "mode"]) (by assumption) ?k1 ?k2 ?k3 ?k4 ?k5 ?k6 ?k7 ?k8 ?k9 ?k10 ?k11 ?k12 ?k13 ?k14 ?k15; (((((case k1 => k_is); (case k2 => k_is); (case k3 => exact rfl); (case k4 => exact rfl); (case k5 => exact rfl); (case k6 => exact rfl); (case k8 => exact rfl); (case k9 => decide); (case k10 => decide); (case k11 => ((repeat (refine List.forall_mem_cons.mpr ⟨?_, ?_⟩; (first | exact .inl rfl | exact .inr ⟨rfl, fun _ => rfl⟩))); exact List.forall_mem_nil _)); (case k12 => exact rfl); (case k13 => exact rfl); (case k14 => exact rfl))); (case k7 => exact fit1 fun _ => rfl))); intro s env he hs hc; exact blk_return (ev_cmp (ev_call he (d_ifmt _) (kind_of hs rfl) (evl_cons (ev_name he (by (repeat (first | exact List.Mem.head _ | refine List.Mem.tail _ ?_)))) evl_nil) (fn_ifmt (Rm.deeper (by assumption) env))) (ev_top he (kind_of hs rfl) (by k_is) (by decide) fun _ _ => Rep.int _ _) cmp_eqI)))
theorem fn_is63 (r : Rm (d + 2) A) : Fn w A 63 [.int m] (.bool (isK m 32768)) := by ((refine' enter (names := [Str.ofString "mode"]) (by assumption) ?k1 ?k2 ?k3 ?k4 ?k5 ?k6 ?k7 ?k8 ?k9 ?k10 ?k11 ?k12 ?k13 ?k14 ?k15; (((((case k1 => k_is); (case k2 => k_is); (case k3 => exact rfl); (case k4 => exact rfl); (case k5 => exact rfl); (case k6 => exact rfl); (case k8 => exact rfl); (case k9 => decide); (case k10 => decide); (case k11 => ((repeat (refine List.forall_mem_cons.mpr ⟨?_, ?_⟩; (first | exact .inl rfl | exact .inr ⟨rfl, fun _ => rfl⟩))); exact List.forall_mem_nil _)); (case k12 => exact rfl); (case k13 => exact rfl); (case k14 => exact rfl))); (case k7 => exact fit1 fun _ => rfl))); intro s env he hs hc; exact blk_return (ev_cmp (ev_call he (d_ifmt _) (kind_of hs rfl) (evl_cons (ev_name he (by (repeat (first | exact List.Mem.head _ | refine List.Mem.tail _ ?_)))) evl_nil) (fn_ifmt (Rm.deeper (by assumption) env))) (ev_top he (kind_of hs rfl) (by k_is) (by decide) fun _ _ => Rep.int _ _) cmp_eqI)))
theorem fn_is70 (r : Rm (d + 2) A) : Fn w A 70 [.int m] (.bool (isK m 4096)) := by ((refine' enter (names := [Str.ofString "mode"]) (by assumption) ?k1 ?k2 ?k3 ?k4 ?k5 ?k6 ?k7 ?k8 ?k9 ?k10 ?k11 ?k12 ?k13 ?k14 ?k15; (((((case k1 => k_is); (case k2 => k_is); (case k3 => exact rfl); (case k4 => exact rfl); (case k5 => exact rfl); (case k6 => exact rfl); (case k8 => exact rfl); (case k9 => decide); (case k10 => decide); (case k11 => ((repeat (refine List.forall_mem_cons.mpr ⟨?_, ?_⟩; (first | exact .inl rfl | exact .inr ⟨rfl, fun _ => rfl⟩))); exact List.forall_mem_nil _)); (case k12 => exact rfl); (case k13 => exact rfl); (case k14 => exact rfl))); (case k7 => exact fit1 fun _ => rfl))); intro s env he hs hc; exact blk_return (ev_cmp (ev_call he (d_ifmt _) (kind_of hs rfl) (evl_cons (ev_name he (by (repeat (first | exact List.Mem.head _ | refine List.Mem.tail _ ?_)))) evl_nil) (fn_ifmt (Rm.deeper (by assumption) env))) (ev_top he (kind_of hs rfl) (by k_is) (by decide) fun _ _ => Rep.int _ _) cmp_eqI)))
theorem fn_is77 (r : Rm (d + 2) A) : Fn w A 77 [.int m] (.bool (isK m 40960)) := by ((refine' enter (names := [Str.ofString "mode"]) (by assumption) ?k1 ?k2 ?k3 ?k4 ?k5 ?k6 ?k7 ?k8 ?k9 ?k10 ?k11 ?k12 ?k13 ?k14 ?k15; (((((case k1 => k_is); (case k2 => k_is); (case k3 => exact rfl); (case k4 => exact rfl); (case k5 => exact rfl); (case k6 => exact rfl); (case k8 => exact rfl); (case k9 => decide); (case k10 => decide); (case k11 => ((repeat (refine List.forall_mem_cons.mpr ⟨?_, ?_⟩; (first | exact .inl rfl | exact .inr ⟨rfl, fun _ => rfl⟩))); exact List.forall_mem_nil _)); (case k12 => exact rfl); (case k13 => exact rfl); (case k14 => exact rfl))); (case k7 => exact fit1 fun _ => rfl))); intro s env he hs hc; exact blk_return (ev_cmp (ev_call he (d_ifmt _) (kind_of hs rfl) (evl_cons (ev_name he (by (repeat (first | exact List.Mem.head _ | refine List.Mem.tail _ ?_)))) evl_nil) (fn_ifmt (Rm.deeper (by assumption) env))) (ev_top he (kind_of hs rfl) (by k_is) (by decide) fun _ _ => Rep.int _ _) cmp_eqI)))
theorem fn_is84 (r : Rm (d + 2) A) : Fn w A 84 [.int m] (.bool (isK m 49152)) := by ((refine' enter (names := [Str.ofString "mode"]) (by assumption) ?k1 ?k2 ?k3 ?k4 ?k5 ?k6 ?k7 ?k8 ?k9 ?k10 ?k11 ?k12 ?k13 ?k14 ?k15; (((((case k1 => k_is); (case k2 => k_is); (case k3 => exact rfl); (case k4 => exact rfl); (case k5 => exact rfl); (case k6 => exact rfl); (case k8 => exact rfl); (case k9 => decide); (case k10 => decide); (case k11 => ((repeat (refine List.forall_mem_cons.mpr ⟨?_, ?_⟩; (first | exact .inl rfl | exact .inr ⟨rfl, fun _ => rfl⟩))); exact List.forall_mem_nil _)); (case k12 => exact rfl); (case k13 => exact rfl); (case k14 => exact rfl))); (case k7 => exact fit1 fun _ => rfl))); intro s env he hs hc; exact blk_return (ev_cmp (ev_call he (d_ifmt _) (kind_of hs rfl) (evl_cons (ev_name he (by (repeat (first | exact List.Mem.head _ | refine List.Mem.tail _ ?_)))) evl_nil) (fn_ifmt (Rm.deeper (by assumption) env))) (ev_top he (kind_of hs rfl) (by k_is) (by decide) fun _ _ => Rep.int _ _) cmp_eqI)))
theorem d_42 (w : World) : Def w "S_ISDIR" 42 := ⟨by k_is, by k_is, by decide⟩
theorem d_49 (w : World) : Def w "S_ISCHR" 49 := ⟨by k_is, by k_is, by decide⟩
theorem d_56 (w : World) : Def w "S_ISBLK" 56 := ⟨by k_is, by k_is, by decide⟩
theorem d_63 (w : World) : Def w "S_ISREG" 63 := ⟨by k_is, by k_is, by decide⟩
theorem d_70 (w : World) : Def w "S_ISFIFO" 70 := ⟨by k_is, by k_is, by decide⟩
theorem d_77 (w : World) : Def w "S_ISLNK" 77 := ⟨by k_is, by k_is, by decide⟩
theorem d_84 (w : World) : Def w "S_ISSOCK" 84 := ⟨by k_is, by k_is, by decide⟩

noncomputable def kinds7 : List Int := [4096, 8192, 16384, 24576, 32768, 40960, 49152]
noncomputable def twoB (b : Bool) : PyData := .tuple [.bool (b == true), .bool (b == false)]
noncomputable def asked (m : Int) : List PyData := kinds7.map fun c => twoB (isK m c)
theorem fn_asked (r : Rm (d + 3) A) : Fn w A 170 [.int m] (.list (asked m)) := by
  refine' enter (names := [Str.ofString "mode"]) r ?k1 ?k2 ?k3 ?k4 ?k5 ?k6 ?k7 ?k8 ?k9 ?k10 ?k11 ?k12 ?k13 ?k14 ?k15
  (((((case k1 => k_is); (case k2 => k_is); (case k3 => exact rfl); (case k4 => exact rfl); (case k5 => exact rfl); (case k6 => exact rfl); (case k8 => exact rfl); (case k9 => decide); (case k10 => decide); (case k11 => ((repeat (refine List.forall_mem_cons.mpr ⟨?_, ?_⟩; (first | exact .inl rfl | exact .inr ⟨rfl, fun _ => rfl⟩))); exact List.forall_mem_nil _)); (case k12 => exact rfl); (case k13 => exact rfl); (case k14 => exact rfl))); (case k7 => exact fit1 fun _ => rfl)))
  intro s env he hs hc
  have r' := r.deeper env
  have hm : ∀ {a : Addr} {f : Str} {p pos pp : Pos} {b : Bool} {ρ : Rho}, Def w f a → env.kindOf f = some .globalImplicit → (Str.ofString "mode", PyData.int m) ∈ ρ → Fn w (A.deeper env) a [.int m] (.bool b) → Evs w (A.deeper env) env ρ (.Call (.Name f p) [.Name "mode" pp] [] pos) (.bool b) :=
    fun D hk hm hf => ev_call he D hk (evl_cons (ev_name he hm) evl_nil) hf
  refine blk_assign he (stores_local hs rfl) (ev_list (evl_cons (hm (d_70 w) (kind_of hs rfl) (by (repeat (first | exact List.Mem.head _ | refine List.Mem.tail _ ?_))) (fn_is70 r')) (evl_cons (hm (d_49 w) (kind_of hs rfl) (by (repeat (first | exact List.Mem.head _ | refine List.Mem.tail _ ?_))) (fn_is49 r')) (evl_cons (hm (d_42 w) (kind_of hs rfl) (by (repeat (first | exact List.Mem.head _ | refine List.Mem.tail _ ?_))) (fn_is42 r'))
    (evl_cons (hm (d_56 w) (kind_of hs rfl) (by (repeat (first | exact List.Mem.head _ | refine List.Mem.tail _ ?_))) (fn_is56 r')) (evl_cons (hm (d_63 w) (kind_of hs rfl) (by (repeat (first | exact List.Mem.head _ | refine List.Mem.tail _ ?_))) (fn_is63 r')) evl_nil))))) (by (first | decide | (simp only [List.length_cons, List.length_nil, List.length_map, List.length_append]; omega)))) rfl ?_
  have hb : ∀ t ∈ [PyData.bool (isK m 4096), .bool (isK m 8192), .bool (isK m 16384), .bool (isK m 24576), .bool (isK m 32768)] ++ [PyData.bool (isK m 40960), .bool (isK m 49152)], ∃ b, t = .bool b := by
    intro t ht
    simp only [List.cons_append, List.nil_append, List.mem_cons, List.not_mem_nil, or_false] at ht
    rcases ht with h | h | h | h | h | h | h <;> exact ⟨_, h⟩
  refine blk_return (ev_comp (p := fun _ => true) (f := fun t => match t with | .bool b => twoB b | x => x) (ρc := []) (ts := [PyData.bool (isK m 4096), .bool (isK m 8192), .bool (isK m 16384), .bool (isK m 24576), .bool (isK m 32768)] ++ [PyData.bool (isK m 40960), .bool (isK m 49152)]) r' he (src_list r' (ev_bin (ev_name he (by (repeat (first | exact List.Mem.head _ | refine List.Mem.tail _ ?_)))) (ev_list (evl_cons (hm (d_77 w) (kind_of hs rfl) (by (repeat (first | exact List.Mem.head _ | refine List.Mem.tail _ ?_))) (fn_is77 r')) (evl_cons (hm (d_84 w) (kind_of hs rfl) (by (repeat (first | exact List.Mem.head _ | refine List.Mem.tail _ ?_))) (fn_is84 r')) evl_nil)) (by (first | decide | (simp only [List.length_cons, List.length_nil, List.length_map, List.length_append]; omega)))) (bin_lst (by (first | decide | (simp only [List.length_cons, List.length_nil, List.length_map, List.length_append]; omega)))))) (by (first | decide | (simp only [List.length_cons, List.length_nil, List.length_map, List.length_append]; omega))) rfl ?_ ?_ ?_ rfl (by decide) (fun q hq => by cases hq) (fun t ht cenv hce => tstl_nil) (fun t ht _ cenv hce => ?_) (fun t ht _ => ?_))
  · exact free_of hs hc fun _ => rfl
  · decide
  · decide
  · obtain ⟨b, rfl⟩ := hb t ht
    exact ev_tuple (evl_cons (ev_cmp (ev_name hce.ok (by (repeat (first | exact List.Mem.head _ | refine List.Mem.tail _ ?_)))) ev_bool cmp_isB) (evl_cons (ev_cmp (ev_name hce.ok (by (repeat (first | exact List.Mem.head _ | refine List.Mem.tail _ ?_)))) ev_bool cmp_isB) evl_nil)) (by (first | decide | (simp only [List.length_cons, List.length_nil, List.length_map, List.length_append]; omega)))
  · obtain ⟨b, rfl⟩ := hb t ht
    rfl
end
/- part G4 -/

noncomputable def intz (n : Nat) : List Int := (List.range n).map fun i : Nat => (i : Int)
theorem mem_intz {n : Nat} {i : Int} : i ∈ intz n ↔ 0 ≤ i ∧ i < n := by
  refine ⟨fun h => ?_, fun h => List.mem_map.mpr ⟨i.toNat, List.mem_range.mpr ((Int.toNat_lt h.1).mpr h.2), Int.toNat_of_nonneg h.1⟩⟩
  obtain ⟨a, h', rfl⟩ := List.mem_map.mp h
  exact ⟨Int.natCast_nonneg a, Int.ofNat_lt.mpr (List.mem_range.mp h')⟩
noncomputable def pI (P : Int → Bool) : PyData → Bool
  | .int i => P i
  | _ => false
noncomputable def fI (F : Int → PyData) : PyData → PyData
  | .int i => F i
  | x => x
noncomputable def pS (P : Str → Bool) : PyData → Bool
  | .str i => P i
  | _ => false
noncomputable def fS (F : Str → PyData) : PyData → PyData
  | .str i => F i
  | x => x
theorem comp_ints (P : Int → Bool) (F : Int → PyData) : ∀ xs : List Int, ((xs.map PyData.int).filter (pI P)).map (fI F) = (xs.filter P).map F
  | [] => rfl
  | x :: xs => by
    have ih := comp_ints P F xs
    by_cases h : P x = true
    · rw [List.map_cons, List.filter_cons_of_pos (show pI P (.int x) = true from h), List.filter_cons_of_pos h, List.map_cons, List.map_cons, ih]; rfl
    · rw [List.map_cons, List.filter_cons_of_neg (show ¬ pI P (.int x) = true from h), List.filter_cons_of_neg h, ih]
theorem comp_strs (P : Str → Bool) (F : Str → PyData) : ∀ xs : List Str, ((xs.map PyData.str).filter (pS P)).map (fS F) = (xs.filter P).map F
  | [] => rfl
  | x :: xs => by
    have ih := comp_strs P F xs
    by_cases h : P x = true
    · rw [List.map_cons, List.filter_cons_of_pos (show pS P (.str x) = true from h), List.filter_cons_of_pos h, List.map_cons, List.map_cons, ih]; rfl
    · rw [List.map_cons, List.filter_cons_of_neg (show ¬ pS P (.str x) = true from h), List.filter_cons_of_neg h, ih]

section
variable {w : World} {A : Around} {env : Env} {ρ : Rho} {s₀ : Shared}
theorem stores_cell {env : Env} {sc : Scope} {x : Str} (hs : env.scope = sc) (hc : env.cells = cellsFrom (env.locals + 1) sc.names []) (h : sc.names.lookup x = some .cell) (hl : ∀ n, ((cellsFrom n sc.names []).lookup x).isSome = true) (hd : (x == ("__debug__" : Str)) = false := by decide) : Stores env x :=
  ⟨hd, .inr ⟨kind_of hs h, by rw [hc]; exact hl _⟩⟩
theorem item_tupG {α : Type} (c : α → PyData) (z : α) {xs : List α} {k : Int} (h0 : 0 ≤ k) (h1 : k < xs.length) (hz : xs.length ≤ 100000 := by decide) : ItemSem w A (.tuple (xs.map c)) (.int k) (c (xs.getD k.toNat z)) := by
  refine item_tup h0 ?_ (by simpa using hz)
  have : k.toNat < xs.length := by omega
  rw [List.getD_eq_getElem?_getD, List.getElem?_map, List.getElem?_eq_getElem this]; rfl
theorem item_lstG {α : Type} (c : α → PyData) (z : α) {xs : List α} {k : Int} (h0 : 0 ≤ k) (h1 : k < xs.length) (hz : xs.length ≤ 100000 := by decide) : ItemSem w A (.list (xs.map c)) (.int k) (c (xs.getD k.toNat z)) := by
  refine item_lst h0 ?_ (by simpa using hz)
  have : k.toNat < xs.length := by omega
  rw [List.getD_eq_getElem?_getD, List.getElem?_map, List.getElem?_eq_getElem this]; rfl
theorem src_rangeI {d : Nat} {e : PySem.Expr} {p pos : Pos} (n : Nat) (r : Rm d A) (he : EnvOk env) (D : Bts w "range" (.type "range")) (hx : env.kindOf "range" = some .globalImplicit) (h : Evs w A env ρ e (.int n)) (hn : n ≤ 100000)
    (hs : starEach [e] env = [(false, eval e env)] := by rfl) : Src w A env ρ (.Call (.Name "range" p) [e] [] pos) ((intz n).map PyData.int) := by
  have := src_range1 (p := p) (pos := pos) r he D hx h hn hs
  unfold intz
  rw [List.map_map]
  have e : (PyData.int ∘ fun i : Nat => (i : Int)) = fun i : Nat => PyData.int (0 + i) := by funext i; simp
  rw [e]; exact this
theorem b_range (w : World) : Bts w "range" (.type "range") := ⟨by k_is, PyProof.Rows.Boot.«range», by decide, by decide⟩
theorem b_sum (w : World) : Bts w "sum" (.builtin "sum") := ⟨by k_is, PyProof.Rows.Boot.«sum», by decide, by decide⟩
theorem b_str (w : World) : Bts w "str" (.type "str") := ⟨by k_is, PyProof.Rows.Boot.«str», by decide, by decide⟩

theorem ev_compI {elt iter : PySem.Expr} {x : Str} {px : Pos} {ifs : List PySem.Expr} {scope : Scope} {pos : Pos} {xs : List Int} {d : Nat} (P : Int → Bool) (F : Int → PyData) (ρc : Rho)
    (r : Rm d A) (he : EnvOk env) (src : Src w A env ρ iter (xs.map PyData.int)) (hz : xs.length ≤ 100000)
    (hkind : scope.kind = .function) (hfree : ∀ y ∈ scope.names, y.2 = .free → env.kindOf y.1 = some .cell ∧ (env.cells.lookup y.1).isSome = true)
    (hcell : ∀ y ∈ scope.names, y.2 ≠ .cell) (hnames : ∀ y ∈ scope.names, y.2 = .local → scope.names.lookup y.1 = some .local)
    (hx : (recell scope.names).lookup x = some .local) (hdbg : (x == ("__debug__" : Str)) = false)
    (hρ : ∀ q ∈ ρc, q ∈ ρ ∧ (q.1, NameKind.free) ∈ scope.names ∧ (recell scope.names).lookup q.1 = some .cell)
    (htest : ∀ t ∈ xs, ∀ cenv, CEnv env scope cenv → TstL w A cenv ((x, .int t) :: ρc) ifs (P t))
    (helt : ∀ t ∈ xs, P t = true → ∀ cenv, CEnv env scope cenv → Evs w A cenv ((x, .int t) :: ρc) elt (F t))
    (hfl : ∀ t ∈ xs, P t = true → fl2 (F t) = true)
    (hs : ∀ v, foldedSetIterable iter env v = pure v := by intro _; rfl) :
    Evs w A env ρ (.ListComp elt [⟨.Name x px, iter, ifs, 0⟩] scope pos) (.list ((xs.filter P).map F)) := by
  rw [← comp_ints]
  refine ev_comp (pI P) (fI F) ρc r he src (by simpa using hz) hkind hfree hcell hnames hx hdbg hρ (fun t ht => ?_) (fun t ht => ?_) (fun t ht => ?_) hs <;> obtain ⟨i, hi, rfl⟩ := List.mem_map.mp ht
  · exact htest i hi
  · exact helt i hi
  · exact hfl i hi
theorem ev_compS {elt iter : PySem.Expr} {x : Str} {px : Pos} {ifs : List PySem.Expr} {scope : Scope} {pos : Pos} {xs : List Str} {d : Nat} (P : Str → Bool) (F : Str → PyData) (ρc : Rho)
    (r : Rm d A) (he : EnvOk env) (src : Src w A env ρ iter (xs.map PyData.str)) (hz : xs.length ≤ 100000)
    (hkind : scope.kind = .function) (hfree : ∀ y ∈ scope.names, y.2 = .free → env.kindOf y.1 = some .cell ∧ (env.cells.lookup y.1).isSome = true)
    (hcell : ∀ y ∈ scope.names, y.2 ≠ .cell) (hnames : ∀ y ∈ scope.names, y.2 = .local → scope.names.lookup y.1 = some .local)
    (hx : (recell scope.names).lookup x = some .local) (hdbg : (x == ("__debug__" : Str)) = false)
    (hρ : ∀ q ∈ ρc, q ∈ ρ ∧ (q.1, NameKind.free) ∈ scope.names ∧ (recell scope.names).lookup q.1 = some .cell)
    (htest : ∀ t ∈ xs, ∀ cenv, CEnv env scope cenv → TstL w A cenv ((x, .str t) :: ρc) ifs (P t))
    (helt : ∀ t ∈ xs, P t = true → ∀ cenv, CEnv env scope cenv → Evs w A cenv ((x, .str t) :: ρc) elt (F t))
    (hfl : ∀ t ∈ xs, P t = true → fl2 (F t) = true)
    (hs : ∀ v, foldedSetIterable iter env v = pure v := by intro _; rfl) :
    Evs w A env ρ (.ListComp elt [⟨.Name x px, iter, ifs, 0⟩] scope pos) (.list ((xs.filter P).map F)) := by
  rw [← comp_strs]
  refine ev_comp (pS P) (fS F) ρc r he src (by simpa using hz) hkind hfree hcell hnames hx hdbg hρ (fun t ht => ?_) (fun t ht => ?_) (fun t ht => ?_) hs <;> obtain ⟨i, hi, rfl⟩ := List.mem_map.mp ht
  · exact htest i hi
  · exact helt i hi
  · exact hfl i hi
theorem blk_ifa {p pa px : Pos} {c e : PySem.Expr} {x : Str} {u t : PyData} {b : Bool} {rest : List Stmt} (he : EnvOk env) (hx : Stores env x) (h : Tst w A env ρ c b) (hu : Evs w A env ρ e u) (hsw : swapsWith e (some (.Name x px)) pa.line env = pure false)
    (h1 : b = true → Blk w A env ((x, u) :: del x ρ) s₀ rest t) (h0 : b = false → Blk w A env ρ s₀ rest t) :
    Blk w A env ρ s₀ (.If c [.Assign [.Name x px] e pa] [] p :: rest) t := ⟨fun s E hb l => by
  refine wpAny_execs_cons (wpAny_If (wpAny_mono (h.go s E l.cx) (fun d s₁ ⟨e, k₁⟩ => ?_) fun _ _ x => x))
  subst e
  cases d with
  | true => exact wpAny_execs_cons (ex_assign he hx hu (l.on k₁) hsw fun s' q => wpAny_execs_nil ((h1 rfl).go s' E _ ((l.on k₁).stoR q)))
  | false => exact wpAny_execs_nil ((h0 rfl).go s₁ E hb (l.on k₁))⟩
theorem blk_ifv {p pa px : Pos} {c e : PySem.Expr} {x : Str} {u u0 t : PyData} {b : Bool} {rest : List Stmt} (he : EnvOk env) (hx : Stores env x) (h0 : (x, u0) ∈ ρ) (h : Tst w A env ρ c b) (hu : Evs w A env ρ e u) (hsw : swapsWith e (some (.Name x px)) pa.line env = pure false)
    (hr : Blk w A env ((x, if b = true then u else u0) :: del x ρ) s₀ rest t) : Blk w A env ρ s₀ (.If c [.Assign [.Name x px] e pa] [] p :: rest) t :=
  blk_ifa he hx h hu hsw (fun hb => by subst hb; exact hr) (fun hb => by
    subst hb
    refine blk_mono hr fun q hq => ?_
    rcases List.mem_cons.mp hq with rfl | hq
    · exact h0
    · exact (mem_del hq).1)
end

noncomputable def thereL (ls : List Int) (day : Int) : List Int := ((intz 12).filter fun k => decide (day ≤ ls.getD k.toNat 0)).map fun k => 2 ^ (11 - k).toNat
noncomputable def partsL (ls : List Int) : List Int := if ls.getD 1 0 == 29 then [2336, 4, 128, 1040, 514, 64, 9] else [2052, 128, 16, 1538, 64, 9, 288]
noncomputable def listing (ls : List Int) (day first mask : Int) : List Int :=
  (intz 7).map fun k => [1, 2, 4, 6, 8, 10, 12].getD k.toNat 0 * 4096 + Builtin.bitXor (Builtin.bitAnd ((partsL ls).getD ((k - first) % 7).toNat 0) (thereL ls day).sum) mask

section
variable {w : World} {A : Around} {d : Nat}
theorem parts_if (ls : List Int) : (if (ls.getD (1 : Int).toNat 0 == 29) = true then PyData.tuple ([2336, 4, 128, 1040, 514, 64, 9].map .int) else PyData.tuple ([2052, 128, 16, 1538, 64, 9, 288].map .int)) = .tuple ((partsL ls).map .int) := by
  unfold partsL
  show (if (ls.getD 1 0 == 29) = true then _ else _) = _
  split <;> rfl
theorem fn_listing (r : Rm (d + 1) A) {ls : List Int} {day first mask : Int} (hls : ls.length = 12) : Fn w A 160 [.list (ls.map .int), .int day, .int first, .int mask] (.list ((listing ls day first mask).map .int)) := by
  refine' enter (names := ["lengths", "day", "first", "mask"]) r ?k1 ?k2 ?k3 ?k4 ?k5 ?k6 ?k7 ?k8 ?k9 ?k10 ?k11 ?k12 ?k13 ?k14 ?k15
  (((((case k1 => k_is); (case k2 => k_is); (case k3 => exact rfl); (case k4 => exact rfl); (case k5 => exact rfl); (case k6 => exact rfl); (case k8 => exact rfl); (case k9 => decide); (case k10 => decide); (case k11 => ((repeat (refine List.forall_mem_cons.mpr ⟨?_, ?_⟩; (first | exact .inl rfl | exact .inr ⟨rfl, fun _ => rfl⟩))); exact List.forall_mem_nil _)); (case k12 => exact rfl); (case k13 => exact rfl); (case k14 => exact rfl))); (case k7 => exact fit4 fun _ _ _ _ => rfl)))
  intro s env he hs hc
  have r' := r.deeper env
  refine blk_assign he (stores_cell hs hc rfl fun _ => rfl) (ev_tuple (show EvsL _ _ _ _ _ (List.map PyData.int [2052, 128, 16, 1538, 64, 9, 288]) from by (repeat (first | exact evl_nil | refine evl_cons ev_int ?_ | refine evl_cons ev_str ?_)))) rfl ?_
  refine blk_ifv he (stores_cell hs hc rfl fun _ => rfl) (.head _) (tst_cmp (ev_item (ev_name he (by (repeat (first | exact List.Mem.head _ | refine List.Mem.tail _ ?_)))) ev_int (item_lstG PyData.int 0 (by decide) (by rw [hls]; decide) (by rw [hls]; decide))) ev_int cmp_eqI) (ev_tuple (show EvsL _ _ _ _ _ (List.map PyData.int [2336, 4, 128, 1040, 514, 64, 9]) from by (repeat (first | exact evl_nil | refine evl_cons ev_int ?_ | refine evl_cons ev_str ?_)))) rfl ?_
  rw [parts_if]
  have hp7 : (partsL ls).length = 7 := by unfold partsL; split <;> rfl
  unfold listing
  rw [List.map_map]
  refine blk_assign (u := .int (thereL ls day).sum) he (stores_cell hs hc rfl fun _ => rfl) (ev_bi he (b_sum _) (kind_of hs rfl) (ev_compI (xs := intz 12) (fun k => decide (day ≤ ls.getD k.toNat 0)) (fun k => .int (2 ^ (11 - k).toNat)) [("day", .int day), ("lengths", .list (ls.map .int))] r' he (src_rangeI 12 r' he (b_range _) (kind_of hs rfl) ev_int (by decide)) (by decide)
    rfl (free_of hs hc fun _ => rfl) (by decide) (by decide) rfl (by decide) ?_ (fun t ht cenv hce => tstl_one (tst_cmp (ev_name hce.ok (by (repeat (first | exact List.Mem.head _ | refine List.Mem.tail _ ?_)))) (ev_item (ev_name hce.ok (by (repeat (first | exact List.Mem.head _ | refine List.Mem.tail _ ?_)))) (ev_name hce.ok (by (repeat (first | exact List.Mem.head _ | refine List.Mem.tail _ ?_)))) (item_lstG PyData.int 0 (mem_intz.mp ht).1 (by rw [hls]; exact (mem_intz.mp ht).2) (by rw [hls]; decide))) cmp_leI))
    (fun t ht _ cenv hce => ev_bin ev_int (ev_bin ev_int (ev_name hce.ok (by (repeat (first | exact List.Mem.head _ | refine List.Mem.tail _ ?_)))) bin_sub) (bin_pow (by have := mem_intz.mp ht; omega) (by have := mem_intz.mp ht; omega) (by decide))) (fun t ht _ => rfl)) ?_) rfl ?_
  rotate_left
  · have e : ((intz 12).filter fun k => decide (day ≤ ls.getD k.toNat 0)).map (fun k => PyData.int (2 ^ (11 - k).toNat)) = (thereL ls day).map PyData.int := by unfold thereL; rw [List.map_map]; rfl
    rw [e]
    exact bi_sum r'
  · refine blk_assign he (stores_cell hs hc rfl fun _ => rfl) (ev_tuple (show EvsL _ _ _ _ _ (List.map PyData.int [1, 2, 4, 6, 8, 10, 12]) from by (repeat (first | exact evl_nil | refine evl_cons ev_int ?_ | refine evl_cons ev_str ?_)))) rfl ?_
    refine blk_return (ev_compI (xs := intz 7) (fun _ => true) (fun k => .int ([1, 2, 4, 6, 8, 10, 12].getD k.toNat 0 * 4096 + Builtin.bitXor (Builtin.bitAnd ((partsL ls).getD ((k - first) % 7).toNat 0) (thereL ls day).sum) mask))
      [("kinds", .tuple ([1, 2, 4, 6, 8, 10, 12].map .int)), ("there", .int (thereL ls day).sum), ("parts", .tuple ((partsL ls).map .int)), ("first", .int first), ("mask", .int mask)] r' he (src_rangeI 7 r' he (b_range _) (kind_of hs rfl) ev_int (by decide)) (by decide)
      rfl (free_of hs hc fun _ => rfl) (by decide) (by decide) rfl (by decide) ?_ (fun t ht cenv hce => tstl_nil)
      (fun t ht _ cenv hce => ev_bin (ev_bin (ev_item (ev_name hce.ok (by (repeat (first | exact List.Mem.head _ | refine List.Mem.tail _ ?_)))) (ev_name hce.ok (by (repeat (first | exact List.Mem.head _ | refine List.Mem.tail _ ?_)))) (item_tupG (xs := [1, 2, 4, 6, 8, 10, 12]) PyData.int 0 (mem_intz.mp ht).1 (mem_intz.mp ht).2)) ev_int (bin_mul ?_))
        (ev_bin (ev_bin (ev_item (ev_name hce.ok (by (repeat (first | exact List.Mem.head _ | refine List.Mem.tail _ ?_)))) (ev_bin (ev_bin (ev_name hce.ok (by (repeat (first | exact List.Mem.head _ | refine List.Mem.tail _ ?_)))) (ev_name hce.ok (by (repeat (first | exact List.Mem.head _ | refine List.Mem.tail _ ?_)))) bin_sub) ev_int (bin_mod (by decide))) (item_tupG PyData.int 0 (bd _).1 (by rw [hp7]; exact (bd _).2) (by rw [hp7]; decide))) (ev_name hce.ok (by (repeat (first | exact List.Mem.head _ | refine List.Mem.tail _ ?_)))) bin_and) (ev_name hce.ok (by (repeat (first | exact List.Mem.head _ | refine List.Mem.tail _ ?_)))) bin_xor) bin_add) (fun t ht _ => rfl))
    · (repeat (first | exact List.forall_mem_nil _ | refine List.forall_mem_cons.mpr ⟨⟨by (repeat (first | exact List.Mem.head _ | refine List.Mem.tail _ ?_)), by (repeat (first | exact List.Mem.head _ | refine List.Mem.tail _ ?_)), rfl⟩, ?_⟩))
    · revert t ht; decide
  · (repeat (first | exact List.forall_mem_nil _ | refine List.forall_mem_cons.mpr ⟨⟨by (repeat (first | exact List.Mem.head _ | refine List.Mem.tail _ ?_)), by (repeat (first | exact List.Mem.head _ | refine List.Mem.tail _ ?_)), rfl⟩, ?_⟩))
end
/- part G5 -/

theorem strs_are {h : Heap} : ∀ {ys : List Str} {vs : List Value}, Reps h (ys.map PyData.str) vs → StrsAre vs ys
  | [], vs, r => by rw [r.nil_inv]; exact .nil
  | y :: ys, vs, r => by
    obtain ⟨v, r', rfl, a, b⟩ := r.cons_inv
    obtain ⟨t, rfl⟩ := a.str_inv
    exact .cons y t (strs_are b)
section
variable {w : World} {A : Around} {env : Env} {ρ : Rho} {s₀ : Shared}
theorem ev_join {o e : PySem.Expr} {apos pos : Pos} {sep : Str} {ys : List Str} (ho : Evs w A env ρ o (.str sep)) (he : Evs w A env ρ e (.list (ys.map .str))) (hok : (ys.map (·.length)).sum + ys.length * sep.length ≤ 16777216)
    (hbase : attributeBase o "join" env (eval o env) = eval o env) (hline : (apos.endLine == pos.line) = true) (hs : starEach [e] env = [(false, eval e env)] := by rfl) :
    Evs w A env ρ (.Call (.Attribute o "join" apos) [e] [] pos) (.str (Txt.join sep ys)) := ⟨fun s E c => by
  refine Call_method1 hbase hs hline (wpAny_mono (ho.go s E c) (fun ov s₁ ⟨k₁, r₁⟩ => ?_) fun _ _ x => x)
  obtain ⟨t, rfl⟩ := r₁.str_inv
  refine ⟨"str", "str.join", F.plainAttrs_str, F.slot_str_join, F.type_str_join, typeIs_str _ _ _, (fun _ e => nomatch e), ?_⟩
  refine Calls.callWith_builtin rfl (Calls.evalArgs_plain (Calls.spliced_cons (wpAny_mono (he.go s₁ E (c.on k₁)) (fun v s₂ ⟨k₂, r₂⟩ => Calls.spliced_nil ?_) fun _ _ e => e)))
  obtain ⟨a, vs, rfl, hl, rl⟩ := r₂.list_inv
  exact join_list hl.isList (strs_are rl) hok fun t' k => ⟨(k₁.trans k₂).trans (Kp.tok s₂ k), .str _ _⟩⟩

theorem swaps_is {elt : PySem.Expr} {gens : List Comprehension} {scope sc : Scope} {pos py : Pos} {y : Str} {line : Nat} (he : EnvOk env) (hs : env.scope = sc) (hk : sc.names.lookup y = some .local) (hl : (py.line == pos.line) = true)
    (hn : (scope.names.any fun (n, k) => n == y && (k == .local || k == .cell)) = false) : swapsWith (.ListComp elt gens scope pos) (some (.Name y py)) line env = pure true := by
  show (pure (env.blockKind == .function && env.kindOf y == some .local && py.line == pos.line && !(scope.names.any fun (n, k) => n == y && (k == .local || k == .cell))) : Sem Bool) = pure true
  rw [kind_of hs hk, hl, hn]
  rw [show env.blockKind = .function from by unfold Env.blockKind; rw [he.kind]; rfl]
  rfl
theorem ckind {scope : Scope} {cenv : Env} {x : Str} {k : NameKind} (hce : CEnv env scope cenv) (h : (recell scope.names).lookup x = some k) : cenv.kindOf x = some k := by
  unfold Env.kindOf; rw [hce.names]; exact h
theorem blk_assignX {x : Str} {rest : List Stmt} {u t : PyData} {st : Stmt} (h : ∀ (hb : Heap) (s : Shared) (E : Value → Shared → Prop) (Q : Flow → Shared → Prop), Lp w env hb s₀ ρ s → (∀ s', Sto env s₀ x u s s' → Q .next s') → wpAny (model PR w) A (exec st env) Q E s)
    (hr : Blk w A env ((x, u) :: del x ρ) s₀ rest t) : Blk w A env ρ s₀ (st :: rest) t := ⟨fun s E hb l =>
  wpAny_execs_cons (h hb s E _ l fun s' q => hr.go s' E _ (l.stoR q))⟩

theorem blk_compI {elt iter : PySem.Expr} {x y : Str} {px py : Pos} {ifs : List PySem.Expr} {scope : Scope} {pos spos : Pos} {xs : List Int} {d : Nat} {rest : List Stmt} {t : PyData} (P : Int → Bool) (F : Int → PyData) (ρc : Rho)
    (hsw : swapsWith (.ListComp elt [⟨.Name x px, iter, ifs, 0⟩] scope pos) (some (.Name y py)) spos.line env = pure true)
    (r : Rm d A) (he : EnvOk env) (hy : Stores env y) (src : Src w A env ρ iter (xs.map PyData.int)) (hz : xs.length ≤ 100000)
    (hkind : scope.kind = .function) (hfree : ∀ y ∈ scope.names, y.2 = .free → env.kindOf y.1 = some .cell ∧ (env.cells.lookup y.1).isSome = true)
    (hcell : ∀ y ∈ scope.names, y.2 ≠ .cell) (hnames : ∀ y ∈ scope.names, y.2 = .local → scope.names.lookup y.1 = some .local)
    (hx : (recell scope.names).lookup x = some .local) (hdbg : (x == ("__debug__" : Str)) = false)
    (hρ : ∀ q ∈ ρc, q ∈ ρ ∧ (q.1, NameKind.free) ∈ scope.names ∧ (recell scope.names).lookup q.1 = some .cell)
    (htest : ∀ t ∈ xs, ∀ cenv, CEnv env scope cenv → TstL w A cenv ((x, .int t) :: ρc) ifs (P t))
    (helt : ∀ t ∈ xs, P t = true → ∀ cenv, CEnv env scope cenv → Evs w A cenv ((x, .int t) :: ρc) elt (F t))
    (hfl : ∀ t ∈ xs, P t = true → fl2 (F t) = true) (hr : Blk w A env ((y, .list ((xs.filter P).map F)) :: del y ρ) s₀ rest t)
    (hs : ∀ v, foldedSetIterable iter env v = pure v := by intro _; rfl) :
    Blk w A env ρ s₀ (.Assign [.Name y py] (.ListComp elt [⟨.Name x px, iter, ifs, 0⟩] scope pos) spos :: rest) t := by
  refine blk_assignX (fun hb s E Q l hQ => ?_) hr
  rw [← comp_ints] at hQ
  refine ex_comp (pI P) (fI F) ρc hsw r he hy src (by simpa using hz) hkind hfree hcell hnames hx hdbg hρ (fun t ht => ?_) (fun t ht => ?_) (fun t ht => ?_) l hQ hs <;> obtain ⟨i, hi, rfl⟩ := List.mem_map.mp ht
  · exact htest i hi
  · exact helt i hi
  · exact hfl i hi
end

theorem pick_tail4 {α : Type} (a b c d : α) : pickL [a, b, c, d] (some 1) none none = [b, c, d] := by
  unfold pickL
  rw [show ([a, b, c, d] : List α).length = 4 from rfl, show sliceRange (sliceBounds (some 1) none none 4).1 (sliceBounds (some 1) none none 4).2.1 (sliceBounds (some 1) none none 4).2.2 = [1, 2, 3] from by decide +kernel]
  rfl
/-- a number's last figures: str(n)[1:] -/
noncomputable def figs (n : Int) : Str := Txt.slice (Str.ofString (toString n)) (some 1) none
noncomputable def dayText (weekday : Int) : Str := Txt.slice "MonTueWedThuFriSatSun" (some (3 * weekday)) (some (3 * weekday + 3))
noncomputable def moonText (month : Int) : Str := Txt.slice "JanFebMarAprMayJunJulAugSepOctNovDec" (some (3 * month)) (some (3 * month + 3))
noncomputable def dateS (year month day clock weekday : Int) (zone : Str) : Str :=
  Txt.join " " [(dayText weekday ++ ", ") ++ figs (100 + day), moonText month, figs (10000 + year), Txt.join ":" (pickL [figs (100 + day), figs (100 + clock / 3600), figs (100 + clock / 60 % 60), figs (100 + clock % 60)] (some 1) none none), zone]

theorem slice_len (x : Str) (l u : Option Int) : (Txt.slice x l u).length ≤ x.length := by
  have := Txt.slice_le x l u
  unfold Txt.slice at this ⊢
  exact this
theorem figs_len {n : Int} (h0 : 0 ≤ n) (h1 : n < 10 ^ 10) : (figs n).length ≤ 10 := Nat.le_trans (slice_len _ _ _) (toString_length_le h0 (by decide) h1)

theorem add_in {t k : Int} (h : 0 ≤ t ∧ t < 100000) (h0 : 0 ≤ k := by decide) (h1 : k ≤ 100000 := by decide) : 0 ≤ k + t ∧ k + t < 200000 := ⟨Int.add_nonneg h0 h.1, Int.add_lt_add_of_le_of_lt h1 h.2⟩
theorem abs_in {n : Int} (h : 0 ≤ n ∧ n < 200000) : n.natAbs < 10 ^ 10 := by omega
theorem figs_in {n : Int} (h : 0 ≤ n ∧ n < 200000) : (figs n).length ≤ 10 := figs_len h.1 (Int.lt_trans h.2 (by decide))
theorem text_in {n : Int} (h : 0 ≤ n ∧ n < 200000) : (Str.ofString (toString n)).length ≤ 100000 := Nat.le_trans (toString_length_le (k := 10) h.1 (by decide) (Int.lt_trans h.2 (by decide))) (by decide)
theorem clk (c : Int) (h : 0 ≤ c ∧ c < 86400) : (0 ≤ c / 3600 ∧ c / 3600 < 24) ∧ (0 ≤ c / 60 % 60 ∧ c / 60 % 60 < 60) ∧ (0 ≤ c % 60 ∧ c % 60 < 60) := ⟨bq h, bd _, bd _⟩
section
variable {w : World} {A : Around} {d : Nat}
theorem fn_date (r : Rm (d + 1) A) {year month day clock weekday : Int} {zone : Str} (hy : 0 ≤ year ∧ year < 10000) (hm : 0 ≤ month ∧ month < 12) (hd : 0 ≤ day ∧ day < 32) (hc' : 0 ≤ clock ∧ clock < 86400) (hw : 0 ≤ weekday ∧ weekday < 7) (hz : zone.length ≤ 1000) :
    Fn w A 150 [.int year, .int month, .int day, .int clock, .int weekday, .str zone] (.str (dateS year month day clock weekday zone)) := by
  refine' enter (names := ["year", "month", "day", "clock", "weekday", "zone"]) r ?k1 ?k2 ?k3 ?k4 ?k5 ?k6 ?k7 ?k8 ?k9 ?k10 ?k11 ?k12 ?k13 ?k14 ?k15
  (((((case k1 => k_is); (case k2 => k_is); (case k3 => exact rfl); (case k4 => exact rfl); (case k5 => exact rfl); (case k6 => exact rfl); (case k8 => exact rfl); (case k9 => decide); (case k10 => decide); (case k11 => ((repeat (refine List.forall_mem_cons.mpr ⟨?_, ?_⟩; (first | exact .inl rfl | exact .inr ⟨rfl, fun _ => rfl⟩))); exact List.forall_mem_nil _)); (case k12 => exact rfl); (case k13 => exact rfl); (case k14 => exact rfl))); (case k7 => exact fit6 fun _ _ _ _ _ _ => rfl)))
  intro s env he hs hc
  have r' := r.deeper env
  refine blk_compI (xs := [day, clock / 3600, clock / 60 % 60, clock % 60]) (fun _ => true) (fun n => .str (figs (100 + n))) [] (swaps_is he hs rfl rfl rfl) r' he (stores_local hs rfl) (src_tuple r' (ev_tuple (ts := [day, clock / 3600, clock / 60 % 60, clock % 60].map PyData.int) (evl_cons (ev_name he (by (repeat (first | exact List.Mem.head _ | refine List.Mem.tail _ ?_)))) (evl_cons (ev_bin (ev_name he (by (repeat (first | exact List.Mem.head _ | refine List.Mem.tail _ ?_)))) ev_int (bin_div (by decide) (by decide)))
    (evl_cons (ev_bin (ev_bin (ev_name he (by (repeat (first | exact List.Mem.head _ | refine List.Mem.tail _ ?_)))) ev_int (bin_div (by decide) (by decide))) ev_int (bin_mod (by decide))) (evl_cons (ev_bin (ev_name he (by (repeat (first | exact List.Mem.head _ | refine List.Mem.tail _ ?_)))) ev_int (bin_mod (by decide))) evl_nil)))) (by (first | decide | (simp only [List.length_cons, List.length_nil, List.length_map, List.length_append]; omega))))) (by (first | decide | (simp only [List.length_cons, List.length_nil, List.length_map, List.length_append]; omega)))
    rfl (free_of hs hc fun _ => rfl) (by decide) (by decide) rfl (by decide) (List.forall_mem_nil _) (fun t ht cenv hce => tstl_nil) (fun t ht _ cenv hce => ?_) (fun t ht _ => rfl) ?_
  · have hb : 0 ≤ t ∧ t < 86400 := by
      simp only [List.mem_cons, List.not_mem_nil, or_false] at ht
      obtain ⟨k1, k2, k3⟩ := clk clock hc'
      rcases ht with rfl | rfl | rfl | rfl
      · exact wid hd
      · exact wid k1
      · exact wid k2
      · exact wid k3
    have hb' := add_in (k := 100) (wid hb)
    refine ev_cut (ev_ty hce.ok (b_str w) (ckind hce rfl) (ev_bin ev_int (ev_name hce.ok (by (repeat (first | exact List.Mem.head _ | refine List.Mem.tail _ ?_)))) bin_add) (bi_str (abs_in hb'))) (show Evs w _ cenv _ _ (.int 1) from ev_int) trivial (text_in hb')
  · obtain ⟨k1, k2, k3⟩ := clk clock hc'
    have y5 := add_in (t := year) (k := 10000) (wid hy)
    have f1 := figs_in (add_in (k := 100) (wid hd))
    have f2 := figs_in (add_in (k := 100) (wid k1))
    have f3 := figs_in (add_in (k := 100) (wid k2))
    have f4 := figs_in (add_in (k := 100) (wid k3))
    have f5 := figs_in y5
    have hw1 : (dayText weekday).length ≤ 21 := slice_len _ _ _
    have hm1 : (moonText month).length ≤ 36 := slice_len _ _ _
    have hb0 : (("MonTueWedThuFriSatSun" : Str)).length = 21 := by decide
    refine blk_assign he (stores_local hs rfl) (ev_bin (ev_bin (ev_cut ev_str (show PartIs w _ env _ (some _) (some (3 * weekday)) from ev_bin ev_int (ev_name he (by (repeat (first | exact List.Mem.head _ | refine List.Mem.tail _ ?_)))) (bin_mul (by decide))) (show PartIs w _ env _ (some _) (some (3 * weekday + 3)) from ev_bin (ev_bin ev_int (ev_name he (by (repeat (first | exact List.Mem.head _ | refine List.Mem.tail _ ?_)))) (bin_mul (by decide))) ev_int bin_add) (by decide)) ev_str (bin_str (a := dayText weekday) ?_))
      (ev_item (ev_name he (by (repeat (first | exact List.Mem.head _ | refine List.Mem.tail _ ?_)))) ev_int (item_lstG (xs := [figs (100 + day), figs (100 + clock / 3600), figs (100 + clock / 60 % 60), figs (100 + clock % 60)]) PyData.str "" (by decide) (by (first | decide | (simp only [List.length_cons, List.length_nil, List.length_map, List.length_append]; omega))) (by (first | decide | (simp only [List.length_cons, List.length_nil, List.length_map, List.length_append]; omega))))) (bin_str (a := dayText weekday ++ ", ") (b := figs (100 + day)) ?_)) rfl ?_
    · exact nle (Nat.add_le_add_right hw1 _)
    · exact nle (Nat.add_le_add (by rw [slen_append]; exact Nat.add_le_add_right hw1 _) f1)
    refine blk_assign he (stores_local hs rfl) (ev_cut ev_str (show PartIs w _ env _ (some _) (some (3 * month)) from ev_bin ev_int (ev_name he (by (repeat (first | exact List.Mem.head _ | refine List.Mem.tail _ ?_)))) (bin_mul (by decide))) (show PartIs w _ env _ (some _) (some (3 * month + 3)) from ev_bin (ev_bin ev_int (ev_name he (by (repeat (first | exact List.Mem.head _ | refine List.Mem.tail _ ?_)))) (bin_mul (by decide))) ev_int bin_add) (by decide)) rfl ?_
    have hcol : ((pickL [figs (100 + day), figs (100 + clock / 3600), figs (100 + clock / 60 % 60), figs (100 + clock % 60)] (some 1) none none).map (·.length)).sum + (pickL [figs (100 + day), figs (100 + clock / 3600), figs (100 + clock / 60 % 60), figs (100 + clock % 60)] (some 1) none none).length * (":" : Str).length ≤ 100 := by
      rw [pick_tail4, show (":" : Str).length = 1 from by decide]
      simp only [List.map_cons, List.map_nil, List.sum_cons, List.sum_nil, List.length_cons, List.length_nil]
      omega
    have hjn : (Txt.join ":" (pickL [figs (100 + day), figs (100 + clock / 3600), figs (100 + clock / 60 % 60), figs (100 + clock % 60)] (some 1) none none)).length ≤ 100 := by
      refine Nat.le_trans ?_ hcol
      show (Builtin.Str.glued _ _).length ≤ _
      rw [StrLaws.glued_eq_join]
      exact StrLaws.join_length_le _ _
    refine blk_return (ev_join (ys := [(dayText weekday ++ ", ") ++ figs (100 + day), moonText month, figs (10000 + year), Txt.join ":" (pickL [figs (100 + day), figs (100 + clock / 3600), figs (100 + clock / 60 % 60), figs (100 + clock % 60)] (some 1) none none), zone]) ev_str
      (ev_list (ts := [PyData.str ((dayText weekday ++ ", ") ++ figs (100 + day)), .str (moonText month), .str (figs (10000 + year)), .str (Txt.join ":" (pickL [figs (100 + day), figs (100 + clock / 3600), figs (100 + clock / 60 % 60), figs (100 + clock % 60)] (some 1) none none)), .str zone]) (evl_cons (ev_name he (by (repeat (first | exact List.Mem.head _ | refine List.Mem.tail _ ?_)))) (evl_cons (ev_name he (by (repeat (first | exact List.Mem.head _ | refine List.Mem.tail _ ?_)))) (evl_cons ?e1 (evl_cons ?e2 (evl_cons (ev_name he (by (repeat (first | exact List.Mem.head _ | refine List.Mem.tail _ ?_)))) evl_nil))))) (by (first | decide | (simp only [List.length_cons, List.length_nil, List.length_map, List.length_append]; omega)))) ?_ rfl rfl)
    case e1 =>
      refine ev_cut (ev_ty he (b_str w) (kind_of hs rfl) (ev_bin ev_int (ev_name he (by (repeat (first | exact List.Mem.head _ | refine List.Mem.tail _ ?_)))) bin_add) (bi_str (abs_in y5))) (show Evs w _ env _ _ (.int 1) from ev_int) trivial (text_in y5)
    case e2 =>
      refine ev_join ev_str ?_ (Nat.le_trans hcol (by decide)) rfl rfl
      rw [← pick_map]
      exact ev_pick (ev_name he (by (repeat (first | exact List.Mem.head _ | refine List.Mem.tail _ ?_)))) (show Evs w _ env _ _ (.int 1) from ev_int) trivial trivial (by decide) (by (first | decide | (simp only [List.length_cons, List.length_nil, List.length_map, List.length_append]; omega)))
    simp only [List.map_cons, List.map_nil, List.sum_cons, List.sum_nil, List.length_cons, List.length_nil, slen_append, show (", " : Str).length = 2 from by decide, show (" " : Str).length = 1 from by decide]
    omega
end
/- part G6 -/

section
variable {w : World} {A : Around} {env : Env} {ρ : Rho} {s₀ : Shared}
theorem swaps_no {elt : PySem.Expr} {gens : List Comprehension} {scope sc : Scope} {pos py : Pos} {y : Str} {line : Nat} (hs : env.scope = sc) (hk : sc.names.lookup y = some .cell) :
    swapsWith (.ListComp elt gens scope pos) (some (.Name y py)) line env = pure false := by
  show (pure (env.blockKind == .function && env.kindOf y == some .local && py.line == pos.line && !(scope.names.any fun (n, k) => n == y && (k == .local || k == .cell))) : Sem Bool) = pure false
  rw [kind_of hs hk, show ((some NameKind.cell : Option NameKind) == some .local) = false from rfl]
  simp
theorem ev_compNI {elt iter : PySem.Expr} {x : Str} {px : Pos} {ifs : List PySem.Expr} {scope : Scope} {pos : Pos} {xs : List Int} {d : Nat} (P : Int → Bool) (F : Int → PyData) (ρc : Rho)
    (r : Rm d A) (he : EnvOk env) (src : Src w A env ρ iter (xs.map PyData.int)) (hz : xs.length ≤ 100000)
    (hkind : scope.kind = .function) (hfree : ∀ y ∈ scope.names, y.2 = .free → env.kindOf y.1 = some .cell ∧ (env.cells.lookup y.1).isSome = true)
    (hcell : ∀ y ∈ scope.names, y.2 ≠ .cell) (hnames : ∀ y ∈ scope.names, y.2 = .local → scope.names.lookup y.1 = some .local)
    (hx : (recell scope.names).lookup x = some .local) (hdbg : (x == ("__debug__" : Str)) = false)
    (hρ : ∀ q ∈ ρc, q ∈ ρ ∧ (q.1, NameKind.free) ∈ scope.names ∧ (recell scope.names).lookup q.1 = some .cell)
    (htest : ∀ t ∈ xs, ∀ cenv, CEnv env scope cenv → TstL w A cenv ((x, .int t) :: ρc) ifs (P t))
    (helt : ∀ t ∈ xs, P t = true → ∀ cenv, CEnv env scope cenv → Evs w A cenv ((x, .int t) :: ρc) elt (F t))
    (hfl : ∀ t ∈ xs, P t = true → fl2 (F t) = true)
    (hs : ∀ v, foldedSetIterable iter env v = pure v := by intro _; rfl) :
    EvsN w A env ρ (.ListComp elt [⟨.Name x px, iter, ifs, 0⟩] scope pos) ((xs.filter P).map F) := by
  rw [← comp_ints]
  refine ev_compN (pI P) (fI F) ρc r he src (by simpa using hz) hkind hfree hcell hnames hx hdbg hρ (fun t ht => ?_) (fun t ht => ?_) (fun t ht => ?_) hs <;> obtain ⟨i, hi, rfl⟩ := List.mem_map.mp ht
  · exact htest i hi
  · exact helt i hi
  · exact hfl i hi
theorem src_rangeI2 {d : Nat} {e e' : PySem.Expr} {p pos : Pos} (a : Int) (n : Nat) (r : Rm d A) (he : EnvOk env) (D : Bts w "range" (.type "range")) (hx : env.kindOf "range" = some .globalImplicit) (h : Evs w A env ρ e (.int a)) (h' : Evs w A env ρ e' (.int (a + n))) (ha : -1000000 ≤ a) (ha2 : a ≤ 1000000) (hn : n ≤ 100000)
    (hs : starEach [e, e'] env = [(false, eval e env), (false, eval e' env)] := by rfl) : Src w A env ρ (.Call (.Name "range" p) [e, e'] [] pos) (((List.range n).map fun i : Nat => (a + i : Int)).map PyData.int) := by
  have := src_range2 (p := p) (pos := pos) r he D hx h h' ha ha2 hn hs
  rw [List.map_map]
  exact this
end

noncomputable def inS (row : Str) (i : Int) (x : Str) : Bool := decide (row.cps.toList.getD i.toNat 0 ∈ x.cps.toList)
noncomputable def rightsB (row : Str) : List Bool := ((intz 3).map fun k => inS row (3 + 3 * k) "sStT") ++ (((List.range 9).map fun i : Nat => (1 + i : Int)).map fun k => inS row k "rwxst")
noncomputable def monthsL (row : Str) (mask : Int) : List Int := (intz 12).filter fun k => (rightsB row).getD k.toNat false != (mask / 2 ^ (11 - k).toNat % 2 == 1)

section
variable {w : World} {A : Around} {d : Nat}
theorem fn_months (r : Rm (d + 1) A) {row : Str} {mask : Int} (hrow : row.length = 10) : Fn w A 165 [.str row, .int mask] (.list ((monthsL row mask).map .int)) := by
  refine' enter (names := ["row", "mask"]) r ?k1 ?k2 ?k3 ?k4 ?k5 ?k6 ?k7 ?k8 ?k9 ?k10 ?k11 ?k12 ?k13 ?k14 ?k15
  (((((case k1 => k_is); (case k2 => k_is); (case k3 => exact rfl); (case k4 => exact rfl); (case k5 => exact rfl); (case k6 => exact rfl); (case k8 => exact rfl); (case k9 => decide); (case k10 => decide); (case k11 => ((repeat (refine List.forall_mem_cons.mpr ⟨?_, ?_⟩; (first | exact .inl rfl | exact .inr ⟨rfl, fun _ => rfl⟩))); exact List.forall_mem_nil _)); (case k12 => exact rfl); (case k13 => exact rfl); (case k14 => exact rfl))); (case k7 => exact fit2 fun _ _ => rfl)))
  intro s env he hs hc
  have r' := r.deeper env
  have hlen : row.cps.toList.length = 10 := by simpa [Str.length] using hrow
  refine blkm_of (blkm_newL (xs := ((intz 3).filter fun _ => true).map fun k => PyData.bool (inS row (3 + 3 * k) "sStT")) he (stores_cell hs hc rfl fun _ => rfl) (fun p hp => by cases hp) (ev_compNI (fun _ => true) (fun k => .bool (inS row (3 + 3 * k) "sStT")) [("row", .str row)] r' he (src_rangeI 3 r' he (b_range w) (kind_of hs rfl) ev_int (by decide)) (by decide)
    rfl (free_of hs hc fun _ => rfl) (by decide) (by decide) rfl (by decide) ?h1 (fun t ht cenv hce => tstl_nil) (fun t ht _ cenv hce => ev_cmp (ev_item (ev_name hce.ok (by (repeat (first | exact List.Mem.head _ | refine List.Mem.tail _ ?_)))) (ev_bin ev_int (ev_bin ev_int (ev_name hce.ok (by (repeat (first | exact List.Mem.head _ | refine List.Mem.tail _ ?_)))) (bin_mul (by decide))) bin_add) (item_strD (by have := mem_intz.mp ht; omega) (by have := mem_intz.mp ht; rw [hlen]; omega) (by omega))) ev_str cmp_in1) (fun t ht _ => rfl)) ?h2 (swaps_no hs rfl) ?_)
  case h1 => (repeat (first | exact List.forall_mem_nil _ | refine List.forall_mem_cons.mpr ⟨⟨by (repeat (first | exact List.Mem.head _ | refine List.Mem.tail _ ?_)), by (repeat (first | exact List.Mem.head _ | refine List.Mem.tail _ ?_)), rfl⟩, ?_⟩))
  case h2 => intro d hd; obtain ⟨k, _, rfl⟩ := List.mem_map.mp hd; rfl
  refine blkm_x (x1_extend (i := 0) (ys := (((List.range 9).map fun i : Nat => (1 + i : Int)).filter fun _ => true).map fun k => PyData.bool (inS row k "rwxst")) he rfl (ev_compI (fun _ => true) (fun k => .bool (inS row k "rwxst")) [("row", .str row)] r' he (src_rangeI2 1 9 r' he (b_range w) (kind_of hs rfl) ev_int ev_int (by decide) (by decide) (by decide)) (by decide)
    rfl (free_of hs hc fun _ => rfl) (by decide) (by decide) rfl (by decide) ?h3 (fun t ht cenv hce => tstl_nil) (fun t ht _ cenv hce => ev_cmp (ev_item (ev_name hce.ok (by (repeat (first | exact List.Mem.head _ | refine List.Mem.tail _ ?_)))) (ev_name hce.ok (by (repeat (first | exact List.Mem.head _ | refine List.Mem.tail _ ?_)))) (item_strD ?h4 ?h5 (by omega))) ev_str cmp_in1) (fun t ht _ => rfl)) ?h6 (by rw [List.length_map]; decide) (by rw [List.length_map]; decide) rfl rfl rfl rfl) (blkm_fin ?_)
  case h3 => (repeat (first | exact List.forall_mem_nil _ | refine List.forall_mem_cons.mpr ⟨⟨by (repeat (first | exact List.Mem.head _ | refine List.Mem.tail _ ?_)), by (repeat (first | exact List.Mem.head _ | refine List.Mem.tail _ ?_)), rfl⟩, ?_⟩))
  case h4 => revert t ht; decide
  case h5 => rw [hlen]; revert t ht; decide
  case h6 => intro d hd; obtain ⟨k, _, rfl⟩ := List.mem_map.mp hd; rfl
  have e : (((intz 3).filter fun _ => true).map fun k => PyData.bool (inS row (3 + 3 * k) "sStT")) ++ ((((List.range 9).map fun i : Nat => (1 + i : Int)).filter fun _ => true).map fun k => PyData.bool (inS row k "rwxst")) = (rightsB row).map PyData.bool := by
    unfold rightsB
    rw [List.map_append, List.map_map, List.map_map]
    rfl
  refine blk_mono (ρ' := [("rights", PyData.list ((rightsB row).map PyData.bool)), ("row", .str row), ("mask", .int mask)]) ?_ (by rw [← e]; intro p hp; exact hp)
  have hr : (rightsB row).length = 12 := by unfold rightsB; rw [List.length_append, List.length_map, List.length_map]; rfl
  refine blk_return ?_
  rw [show (monthsL row mask).map PyData.int = ((intz 12).filter fun k => (rightsB row).getD k.toNat false != (mask / 2 ^ (11 - k).toNat % 2 == 1)).map PyData.int from rfl]
  refine ev_compI (fun k => (rightsB row).getD k.toNat false != (mask / 2 ^ (11 - k).toNat % 2 == 1)) PyData.int [("rights", .list ((rightsB row).map PyData.bool)), ("mask", .int mask)] r' he (src_rangeI 12 r' he (b_range w) (kind_of hs rfl) ev_int (by decide)) (by decide)
    rfl (free_of hs hc fun _ => rfl) (by decide) (by decide) rfl (by decide) ?g1 (fun t ht cenv hce => tstl_one (tst_cmp (ev_item (ev_name hce.ok (by (repeat (first | exact List.Mem.head _ | refine List.Mem.tail _ ?_)))) (ev_name hce.ok (by (repeat (first | exact List.Mem.head _ | refine List.Mem.tail _ ?_)))) (item_lstG PyData.bool false ?g2 ?g3 (by rw [hr]; decide)))
      (ev_cmp (ev_bin (ev_bin (ev_name hce.ok (by (repeat (first | exact List.Mem.head _ | refine List.Mem.tail _ ?_)))) (ev_bin ev_int (ev_bin ev_int (ev_name hce.ok (by (repeat (first | exact List.Mem.head _ | refine List.Mem.tail _ ?_)))) bin_sub) (bin_pow ?g4 ?g5 (by decide))) (bin_div ?g6 ?g7)) ev_int (bin_mod (by decide))) ev_int cmp_eqI) cmp_neB)) (fun t ht _ cenv hce => ev_name hce.ok (by (repeat (first | exact List.Mem.head _ | refine List.Mem.tail _ ?_)))) (fun t ht _ => rfl)
  case g1 => (repeat (first | exact List.forall_mem_nil _ | refine List.forall_mem_cons.mpr ⟨⟨by (repeat (first | exact List.Mem.head _ | refine List.Mem.tail _ ?_)), by (repeat (first | exact List.Mem.head _ | refine List.Mem.tail _ ?_)), rfl⟩, ?_⟩))
  case g2 => exact (mem_intz.mp ht).1
  case g3 => rw [hr]; exact (mem_intz.mp ht).2
  case g4 => have := mem_intz.mp ht; omega
  case g5 => have := mem_intz.mp ht; omega
  case g6 => revert t ht; decide
  case g7 => revert t ht; decide
end
/- part P0 -/
section
open Builtin Builtin.Str

theorem pad_step {M : Model} {A : Around} {E : Value → Shared → Prop} {s : Shared} {p : List Value} {r : List Nat}
  {R : ForInStep (List Value × Writer × List Nat) → Shared → Prop} {w : Writer} {o : Option (List Nat)} {d : List Nat} {pr : Option (List Nat) → Sem (ForInStep (List Value × Writer × List Nat))}
  (hn : pr none = pure (.yield (p, w.add ⟨d.toArray⟩ none, r))) (hs : ∀ laid, pr (some laid) = pure (.yield (p, w.add ⟨laid.toArray⟩ none, r)))
  (h : R (.yield (p, w.add ⟨(o.getD d).toArray⟩ none, r)) s) : wpAny M A (pr o) R E s := by
  cases o with
  | none => rw [hn]; exact wpAny_pure h
  | some laid => rw [hs]; exact wpAny_pure h
theorem pad_all {M : Model} {A : Around} {E : Value → Shared → Prop} {s : Shared} {p : List Value} {r : List Nat}
  {R : ForInStep (List Value × Writer × List Nat) → Shared → Prop} {w : Writer} {o₀ : Option (List Nat)} {d : List Nat} {pr : Option (List Nat) → Sem (ForInStep (List Value × Writer × List Nat))}
  (hn : pr none = pure (.yield (p, w.add ⟨d.toArray⟩ none, r))) (hs : ∀ laid, pr (some laid) = pure (.yield (p, w.add ⟨laid.toArray⟩ none, r)))
  (h : R (.yield (p, w.add ⟨(o₀.getD d).toArray⟩ none, r)) s) : ∀ o, o₀ = o → wpAny M A (pr o) R E s := fun o e => by
  subst e
  exact pad_step hn hs h
/-- a number's figures, filled up with zeroes -/
noncomputable def padZ (k : Nat) (x : List Nat) : List Nat := List.replicate (k - x.length) 48 ++ x
theorem field_pad {c : Percent} {k : Nat} {d : List Nat} (h1 : c.width = some k) (h2 : c.prec = none) (h3 : c.sign = false) (h4 : c.blank = false) (h5 : c.alt = false) (h6 : c.ljust = false) (h7 : c.zero = true) (h8 : c.type = 100) (hd : d.head? ≠ some 45) (hd' : d.head? ≠ some 43) :
    (percentField c true d).getD d = padZ k d := by
  unfold percentField padZ
  simp only [h1, h2, h3, h4, h5, h6, h7, h8]
  by_cases hk : k ≤ d.length
  · have e : k - d.length = 0 := by omega
    simp [hk, e]
  · have : ∀ (X : List Nat × List Nat), X = ([], d) → X.1 = [] ∧ X.2 = d := by rintro _ rfl; exact ⟨rfl, rfl⟩
    simp only [Option.all_some, hk, decide_false, Bool.false_and, Bool.false_eq_true, if_false, Bool.not_true]
    cases d with
    | nil => simp
    | cons a r =>
      have ha : a ≠ 45 := fun q => hd (by rw [q]; rfl)
      have ha' : a ≠ 43 := fun q => hd' (by rw [q]; rfl)
      simp
      split
      · rename_i e; cases e; exact absurd rfl ha
      · rename_i e; cases e; exact absurd rfl ha'
      · simp
theorem dig_ge : ∀ d : Nat, d < 10 → 48 ≤ (Nat.digitChar d).toNat := by decide
theorem digs_ge (m : Nat) : ∀ c ∈ (Nat.toDigits 10 m).map Char.toNat, 48 ≤ c := by
  induction m using Nat.strongRecOn with
  | _ m ih =>
    intro c hc
    by_cases h : m < 10
    · rw [Nat.toDigits_of_lt_base h] at hc
      simp only [List.map_cons, List.map_nil, List.mem_singleton] at hc
      rw [hc]; exact dig_ge m h
    · rw [Nat.toDigits_of_base_le (by decide) (by omega), List.map_append] at hc
      rcases List.mem_append.mp hc with hc | hc
      · exact ih (m / 10) (by omega) c hc
      · simp only [List.map_cons, List.map_nil, List.mem_singleton] at hc
        rw [hc]; exact dig_ge _ (by omega)
theorem figs_head {n : Int} (hn : 0 ≤ n) : ((PySem.Str.ofString (toString n)).cps.toList).head? ≠ some 45 ∧ ((PySem.Str.ofString (toString n)).cps.toList).head? ≠ some 43 := by
  obtain ⟨m, rfl⟩ := Int.eq_ofNat_of_zero_le hn
  have e : (PySem.Str.ofString (toString ((m : Nat) : Int))).cps.toList = (Nat.toDigits 10 m).map Char.toNat := by
    rw [show ((m : Nat) : Int) = Int.ofNat m from rfl, text_ofNat]
  rw [e]
  have key : ∀ k : Nat, k < 48 → ((Nat.toDigits 10 m).map Char.toNat).head? ≠ some k := fun k hk h => by
    have := digs_ge m k (List.mem_of_mem_head? (by rw [h]; rfl))
    omega
  exact ⟨key 45 (by decide), key 43 (by decide)⟩
theorem after_pad {M : Model} {A : Around} {E : Value → Shared → Prop} {s : Shared} {l : List Nat} {p : List Value} {r : List Nat}
  {f : Nat → List Value × Writer × List Nat → Sem (ForInStep (List Value × Writer × List Nat))} {Q : List Value × Writer × List Nat → Shared → Prop} {w : Writer} {T : Str} {N : Nat} {c : Percent} {n : Int} {d : List Nat} {k : Nat} (g : KPc.Good w T N)
  (h1 : c.width = some k) (h2 : c.prec = none) (h3 : c.sign = false) (h4 : c.blank = false) (h5 : c.alt = false) (h6 : c.ljust = false) (h7 : c.zero = true) (h8 : c.type = 100) (hn : 0 ≤ n) (hm : n < 10 ^ 10) (hk : k ≤ 10)
  (hd : d = (PySem.Str.ofString (toString ((n.natAbs : Nat) : Int))).cps.toList) (h : ∀ w', KPc.Good w' (T ++ ⟨(padZ k (PySem.Str.ofString (toString n)).cps.toList).toArray⟩) (N + 20) → wpAny M A (forIn l (p, w', r) f) Q E s) :
    wpAny M A (forIn l (p, w.add ⟨((percentField c true (percentInt c (decide (n < 0)) d)).getD (percentInt c (decide (n < 0)) d)).toArray⟩ none, r) f) Q E s := by
  have en : ((n.natAbs : Nat) : Int) = n := Int.natAbs_of_nonneg hn
  rw [KPc.int_text c h5 (.inl h8) h2 hn, hd, en]
  have hlen : ((PySem.Str.ofString (toString n)).cps.toList).length ≤ 10 := by simpa [Str.length] using toString_length_le (k := 10) hn (by decide) hm
  obtain ⟨d1, d2⟩ := figs_head hn
  rw [field_pad h1 h2 h3 h4 h5 h6 h7 h8 d1 d2]
  refine h _ (KPc.good_mono (KPc.good_add g (KPc.obj_none rfl)) (Nat.add_le_add_left ?_ _))
  show (padZ k _).toArray.size ≤ 20
  unfold padZ
  rw [List.size_toArray, List.length_append, List.length_replicate]
  omega
end
/- part P1 -/
section
open Builtin Builtin.Str

noncomputable def padS (k : Nat) (n : Int) : Str := ⟨(padZ k (PySem.Str.ofString (toString n)).cps.toList).toArray⟩
noncomputable def fmtS (a : Str) (day : Int) (moon : Str) (year hh mi ss : Int) (zone : Str) : Str :=
  (((((((((((((a ++ PySem.Str.ofString ", ") ++ padS 2 day) ++ PySem.Str.ofString " ") ++ moon) ++ PySem.Str.ofString " ") ++ padS 4 year) ++ PySem.Str.ofString " ") ++ padS 2 hh) ++ PySem.Str.ofString ":") ++ padS 2 mi) ++ PySem.Str.ofString ":") ++ padS 2 ss) ++ PySem.Str.ofString " ") ++ zone
theorem obj_if {c : Prop} [Decidable c] {y : PySem.Str} {t : Tok} : KPc.Obj (if c then some (.str y t) else none) y := by
  split
  · exact KPc.obj_some rfl
  · exact KPc.obj_none rfl
theorem fmt_run {M : Model} {A : Around} {F : Nat → List Value × Writer × List Nat → Sem (ForInStep (List Value × Writer × List Nat))} 
    (h_str : ∀ (x : Nat) (l : List Nat) (y : PySem.Str) (t : Tok) (vs : List Value) (w : Writer) (T : PySem.Str) (N : Nat) (rest : List Nat) (Q : List Value × Writer × List Nat → Shared → Prop) (E : Value → Shared → Prop) (s : Shared), KPc.Good w T N → y.length ≤ 1000 → N ≤ 100000 →
    (∀ w', KPc.Good w' (T ++ y) (N + 1000) → wpAny M A (forIn l (vs, w', rest) F) Q E s) → wpAny M A (forIn (x :: l) (.str y t :: vs, w, 37 :: 115 :: rest) F) Q E s)
    (h_num : ∀ (x : Nat) (l : List Nat) (n : Int) (t : Tok) (vs : List Value) (w : Writer) (T : PySem.Str) (N : Nat) (dg k c : Nat) (rest : List Nat) (Q : List Value × Writer × List Nat → Shared → Prop) (E : Value → Shared → Prop) (s : Shared), KPc.Good w T N → 0 ≤ n → n < 1000000 → N ≤ 100000 →
      (fun c : Nat => c == 45 || c == 43 || c == 32 || c == 35 || c == 48) dg = false → (some dg == some 42) = false → isAsciiDigit dg = true → percentNumber (2 ^ 63 - 1) (dg :: 100 :: c :: rest) 0 = some (k, 100 :: c :: rest) → k ≤ 10 →
      (∀ w' k', KPc.Good w' (T ++ padS k n) (N + 20) → wpAny M A (forIn l (vs, w', c :: rest) F) Q E { s with toks := k' }) → wpAny M A (forIn (x :: l) (.int n t :: vs, w, 37 :: 48 :: dg :: 100 :: c :: rest) F) Q E s)
    (h_sep : ∀ (x : Nat) (l : List Nat) (c : Nat) (cs chars r : List Nat) (vs : List Value) (w : Writer) (T : PySem.Str) (N : Nat) (Q : List Value × Writer × List Nat → Shared → Prop) (E : Value → Shared → Prop) (s : Shared), KPc.Good w T N → chars.isEmpty = false → chars.span (fun c : Nat => c != 37) = (c :: cs, r) → cs.length ≤ 3 → N ≤ 100000 →
    (∀ w', KPc.Good w' (T ++ ⟨(c :: cs).toArray⟩) (N + (cs.length + 1)) → wpAny M A (forIn l (vs, w', r) F) Q E s) → wpAny M A (forIn (x :: l) (vs, w, chars) F) Q E s)
    {Q : List Value × Writer × List Nat → Shared → Prop} {E : Value → Shared → Prop} {s : Shared}
    {t1 t2 t3 t4 t5 t6 t7 t8 : Tok} {a moon zone : PySem.Str} {day year hh mi ss : Int} (ha : a.length ≤ 1000) (hmoon : moon.length ≤ 1000) (hz : zone.length ≤ 1000) (hd : 0 ≤ day ∧ day < 1000000) (hy : 0 ≤ year ∧ year < 1000000) (hh' : 0 ≤ hh ∧ hh < 1000000) (hmi : 0 ≤ mi ∧ mi < 1000000) (hss : 0 ≤ ss ∧ ss < 1000000)
    {x1 x2 x3 x4 x5 x6 x7 x8 x9 x10 x11 x12 x13 x14 x15 : Nat} {l : List Nat} {w : Writer} (g : KPc.Good w PySem.Str.empty 0) (h : ∀ w' k, KPc.Good w' (fmtS a day moon year hh mi ss zone) 4000 → wpAny M A (forIn l ([], w', []) F) Q E { s with toks := k }) :
    wpAny M A (forIn (x1 :: x2 :: x3 :: x4 :: x5 :: x6 :: x7 :: x8 :: x9 :: x10 :: x11 :: x12 :: x13 :: x14 :: x15 :: l) ([.str a t1, .int day t2, .str moon t3, .int year t4, .int hh t5, .int mi t6, .int ss t7, .str zone t8], w,
      [37, 115, 44, 32, 37, 48, 50, 100, 32, 37, 115, 32, 37, 48, 52, 100, 32, 37, 48, 50, 100, 58, 37, 48, 50, 100, 58, 37, 48, 50, 100, 32, 37, 115]) F) Q E s := by
  refine h_str _ _ _ _ _ _ _ _ _ _ _ _ g ha (by decide) fun w1 g1 => ?_
  rw [KPc.empty_app] at g1
  refine h_sep _ _ 44 [32] _ _ _ _ _ _ _ _ _ g1 rfl rfl (by decide) (by decide) fun w2 g2 => ?_
  refine h_num _ _ _ _ _ _ _ _ 50 2 _ _ _ _ _ g2 hd.1 hd.2 (by decide) rfl rfl rfl rfl (by decide) fun w3 k3 g3 => ?_
  refine h_sep _ _ _ [] _ _ _ _ _ _ _ _ _ g3 rfl rfl (by decide) (by decide) fun w4 g4 => ?_
  refine h_str _ _ _ _ _ _ _ _ _ _ _ _ g4 hmoon (by decide) fun w5 g5 => ?_
  refine h_sep _ _ _ [] _ _ _ _ _ _ _ _ _ g5 rfl rfl (by decide) (by decide) fun w6 g6 => ?_
  refine h_num _ _ _ _ _ _ _ _ 52 4 _ _ _ _ _ g6 hy.1 hy.2 (by decide) rfl rfl rfl rfl (by decide) fun w7 k7 g7 => ?_
  refine h_sep _ _ _ [] _ _ _ _ _ _ _ _ _ g7 rfl rfl (by decide) (by decide) fun w8 g8 => ?_
  refine h_num _ _ _ _ _ _ _ _ 50 2 _ _ _ _ _ g8 hh'.1 hh'.2 (by decide) rfl rfl rfl rfl (by decide) fun w9 k9 g9 => ?_
  refine h_sep _ _ _ [] _ _ _ _ _ _ _ _ _ g9 rfl rfl (by decide) (by decide) fun w10 g10 => ?_
  refine h_num _ _ _ _ _ _ _ _ 50 2 _ _ _ _ _ g10 hmi.1 hmi.2 (by decide) rfl rfl rfl rfl (by decide) fun w11 k11 g11 => ?_
  refine h_sep _ _ _ [] _ _ _ _ _ _ _ _ _ g11 rfl rfl (by decide) (by decide) fun w12 g12 => ?_
  refine h_num _ _ _ _ _ _ _ _ 50 2 _ _ _ _ _ g12 hss.1 hss.2 (by decide) rfl rfl rfl rfl (by decide) fun w13 k13 g13 => ?_
  refine h_sep _ _ _ [] _ _ _ _ _ _ _ _ _ g13 rfl rfl (by decide) (by decide) fun w14 g14 => ?_
  exact h_str _ _ _ _ _ _ _ _ _ _ _ _ g14 hz (by decide) fun w15 g15 => h w15 _ (KPc.good_mono g15 (by decide))
set_option maxHeartbeats 20000000 in
theorem fmt_meets {t t1 t2 t3 t4 t5 t6 t7 t8 : Tok} {b : Addr} {a moon zone : Str} {day year hh mi ss : Int} (ha : a.length ≤ 1000) (hmoon : moon.length ≤ 1000) (hz : zone.length ≤ 1000) (hd : 0 ≤ day ∧ day < 1000000) (hy : 0 ≤ year ∧ year < 1000000) (hh' : 0 ≤ hh ∧ hh < 1000000) (hmi : 0 ≤ mi ∧ mi < 1000000) (hss : 0 ≤ ss ∧ ss < 1000000)
   : Meets («str.__mod__» ⟨[.str ⟨#[37, 115, 44, 32, 37, 48, 50, 100, 32, 37, 115, 32, 37, 48, 52, 100, 32, 37, 48, 50, 100, 58, 37, 48, 50, 100, 58, 37, 48, 50, 100, 32, 37, 115]⟩ t, .ref b], []⟩) (fun _ R s => IsTup s.heap b #[.str a t1, .int day t2, .str moon t3, .int year t4, .int hh t5, .int mi t6, .int ss t7, .str zone t8] ∧ ∀ t' k, R (.ok (.ret (.str (fmtS a day moon year hh mi ss zone) t'))) { s with toks := k }) := by
  apply KPt.meets_tup
  intro _ _ _ _ _ _ kptH hfin
  obtain ⟨kptO, kptG, kptC, kptN, kptD⟩ := kptH
  rw [KPt.entry_is_r]
  unfold Builtin.Str.percentFormat
  refine wpAny_bind (wpAny_isInstance (T := "tuple") ⟨kptO, kptG, kptC⟩ KPt.sub_tt ?_)
  refine wpAny_bind (KPt.asStr_ref kptG kptD ?_)
  refine wpAny_bind (KPt.fills_ref ⟨kptO, kptG, kptC⟩ ?_)
  intro _
  kpc_if
  refine wpAny_bind (wpAny_seqItems kptG kptD ?_)
  refine wpAny_bind (wpAny_pure ?_)
  refine wpAny_bind ?_
  rw [KPc.range_list]
  refine KPc.start ?_
  intro w0 g0
  refine fmt_run ?str ?num ?sep ha hmoon hz hd hy hh' hmi hss g0 ?fin
  case fin =>
    intro w' k g
    refine KPc.turn ?_; kpc_check; (repeat kpc_if)
    kpc_close
  case str =>
    intro x l y t vs w T N rest Q E s g hy hN h
    refine KPc.turn ?_
    refine wpAny_ite (KPc.ite_no (KPc.short_good g (Nat.le_trans hN (by decide))) ?_)
    (repeat kpc_if)
    refine wpAny_bind ?_; refine wpAny_holding ?_; (repeat kpc_if); kpt_conv; refine wpAny_pure ?_; refine wpAny_pure ?_
    exact KPc.after_str g hy obj_if h
  case sep =>
    intro x l c cs chars r vs w T N Q E s g he hspan hl hN h
    refine KPc.turn ?_
    refine wpAny_ite (KPc.ite_no (KPc.short_good g (Nat.le_trans hN (by decide))) ?_)
    refine wpAny_ite (KPc.ite_no (by rw [he]; exact Bool.false_ne_true) ?_)
    rw [hspan]
    (repeat kpc_if)
    refine wpAny_pure ?_
    exact KPc.after_add g rfl (KPc.obj_none (if_neg (by
      show ¬ ((cs.length + 1 == 34) = true)
      rw [beq_iff_eq]
      exact Nat.ne_of_lt (Nat.lt_of_le_of_lt (Nat.add_le_add_right hl 1) (by decide))))) h
  case num =>
    intro x l n t vs w T N dg k c rest Q E s g hn0 hn1 hN hflag h42 hdig hnum hk h
    refine KPc.turn ?_
    refine wpAny_ite (KPc.ite_no (KPc.short_good g (Nat.le_trans hN (by decide))) ?_)
    (repeat kpc_if)
    refine wpAny_ite (KPc.ite_no (by rw [hflag]; show ¬ ((some dg == some 42) = true); rw [h42]; exact Bool.false_ne_true) ?_)
    refine wpAny_ite (KPc.ite_yes (by rw [hflag]; exact hdig) ?_)
    rw [hflag, show percentNumber (2 ^ 63 - 1) (Prod.snd (match false with | true => List.span.loop (fun c => c == 45 || c == 43 || c == 32 || c == 35 || c == 48) (100 :: c :: rest) [dg, 48] | false => ([48].reverse, dg :: 100 :: c :: rest))) 0 = some (k, 100 :: c :: rest) from hnum]
    (repeat kpc_if)
    refine wpAny_ite (KPc.ite_no (KPc.short (Nat.le_trans hk (by decide))) ?_)
    refine wpAny_bind ?_; refine wpAny_holding ?_; (repeat kpc_if); kpt_conv
    generalize hdg : PySem.Str.ofString (toString ((Int.natAbs n : Nat) : Int)) = dg'
    generalize hng : decide (n < 0) = ng
    refine wpAny_pure ?_
    conv => arg 3; dsimp only
    generalize hpf : Builtin.Str.percentField _ true _ = o
    revert o
    refine' pad_all ?hn0 ?hs0 ?_
    case hn0 => exact rfl
    case hs0 => exact fun _ => rfl
    subst hng
    subst hdg
    exact after_pad g rfl rfl rfl rfl rfl rfl rfl rfl hn0 (Int.lt_trans hn1 (by decide)) hk rfl fun w' g' => h w' _ g'
end
/- part G7 -/

section
variable {w : World} {A : Around} {env : Env} {ρ : Rho} {s₀ : Shared}
noncomputable def mkV : PyData → Tok → Value
  | .int i, t => .int i t
  | .str x, t => .str x t
  | _, _ => .none
theorem vals_of {h : Heap} : ∀ {ds : List PyData} {vs : List Value}, Reps h ds vs → (∀ d ∈ ds, (∃ i, d = .int i) ∨ ∃ x, d = .str x) → ∃ ts : List Tok, ts.length = ds.length ∧ vs = List.zipWith mkV ds ts
  | [], vs, r, _ => ⟨[], rfl, r.nil_inv⟩
  | d :: ds, vs, r, hd => by
    obtain ⟨v, r', rfl, a, b⟩ := r.cons_inv
    obtain ⟨ts, h1, rfl⟩ := vals_of b fun e he => hd e (.tail _ he)
    rcases hd d (.head _) with ⟨i, rfl⟩ | ⟨x, rfl⟩
    · obtain ⟨t, rfl⟩ := a.int_inv; exact ⟨t :: ts, congrArg (· + 1) h1, rfl⟩
    · obtain ⟨t, rfl⟩ := a.str_inv; exact ⟨t :: ts, congrArg (· + 1) h1, rfl⟩
theorem fitT {n : Nat} {P : List Tok → Prop} (h : ∀ a ts, ts.length = n → P (a :: ts)) : ∀ ts, ts.length = n + 1 → P ts
  | [], e => nomatch e
  | a :: ts, e => h a ts (Nat.succ.inj e)
theorem fitT0 {P : List Tok → Prop} (h : P []) : ∀ ts, ts.length = 0 → P ts := fun ts e => List.length_eq_zero_iff.mp e ▸ h
theorem vals8 {h : Heap} {a moon zone : Str} {day year hh mi ss : Int} {vs : Array Value} (hr : Reps h [.str a, .int day, .str moon, .int year, .int hh, .int mi, .int ss, .str zone] vs.toList) :
    ∃ t1 t2 t3 t4 t5 t6 t7 t8, vs = #[.str a t1, .int day t2, .str moon t3, .int year t4, .int hh t5, .int mi t6, .int ss t7, .str zone t8] := by
  obtain ⟨ts, h1, h2⟩ := vals_of hr (by
    refine List.forall_mem_cons.mpr ⟨.inr ⟨_, rfl⟩, List.forall_mem_cons.mpr ⟨.inl ⟨_, rfl⟩, List.forall_mem_cons.mpr ⟨.inr ⟨_, rfl⟩, List.forall_mem_cons.mpr ⟨.inl ⟨_, rfl⟩, List.forall_mem_cons.mpr ⟨.inl ⟨_, rfl⟩, List.forall_mem_cons.mpr ⟨.inl ⟨_, rfl⟩, List.forall_mem_cons.mpr ⟨.inl ⟨_, rfl⟩, List.forall_mem_cons.mpr ⟨.inr ⟨_, rfl⟩, List.forall_mem_nil _⟩⟩⟩⟩⟩⟩⟩⟩)
  revert h2
  refine fitT (P := fun ts => _ = List.zipWith mkV _ ts → _) (fun t1 => fitT fun t2 => fitT fun t3 => fitT fun t4 => fitT fun t5 => fitT fun t6 => fitT fun t7 => fitT fun t8 => fitT0 fun e => ⟨t1, t2, t3, t4, t5, t6, t7, t8, Array.toList_inj.mp e⟩) ts h1
theorem bin_fmt {a moon zone : Str} {day year hh mi ss : Int} (ha : a.length ≤ 1000) (hmoon : moon.length ≤ 1000) (hz : zone.length ≤ 1000) (hd : 0 ≤ day ∧ day < 1000000) (hy : 0 ≤ year ∧ year < 1000000) (hh' : 0 ≤ hh ∧ hh < 1000000) (hmi : 0 ≤ mi ∧ mi < 1000000) (hss : 0 ≤ ss ∧ ss < 1000000) :
    BinSem w A .Mod (.str "%s, %02d %s %04d %02d:%02d:%02d %s") (.tuple [.str a, .int day, .str moon, .int year, .int hh, .int mi, .int ss, .str zone]) (.str (fmtS a day moon year hh mi ss zone)) := ⟨fun s E u v _ ru rv => by
  obtain ⟨t, rfl⟩ := ru.str_inv
  obtain ⟨b, vs, rfl, hT, hr⟩ := rv.tuple_inv
  obtain ⟨t1, t2, t3, t4, t5, t6, t7, t8, ev⟩ := vals8 hr
  subst ev
  have ht := hT.isTup
  have hTy : s.TypeIs (.ref b) "tuple" := by
    obtain ⟨o, ho, hc, _⟩ := ht
    exact ⟨o, ho, hc⟩
  have hX : Str.ofString "%s, %02d %s %04d %02d:%02d:%02d %s" = ⟨#[37, 115, 44, 32, 37, 48, 50, 100, 32, 37, 115, 32, 37, 48, 52, 100, 32, 37, 48, 50, 100, 58, 37, 48, 50, 100, 58, 37, 48, 50, 100, 32, 37, 115]⟩ := by decide +kernel
  rw [hX]
  exact KPt.bin_left (T := "str") (U := "tuple") (op := .Mod) (by decide) (typeIs_str s _ t) hTy F.fills_str_mod KPt.fills_tuple F.slot_str_mod
    (call_meets F.slot_str_mod (typeIs_str s _ t) F.entry_str_mod (F.args_str_mod_2 _ _) (fmt_meets ha hmoon hz hd hy hh' hmi hss) ⟨ht, fun t' k => ⟨(fun e => nomatch e), Kp.tok s k, .str _ _⟩⟩)⟩
end

noncomputable def dayNames : List Str := ["Mon", "Tue", "Wed", "Thu", "Fri", "Sat", "Sun"]
noncomputable def moonNames : List Str := ["Jan", "Feb", "Mar", "Apr", "May", "Jun", "Jul", "Aug", "Sep", "Oct", "Nov", "Dec"]
noncomputable def writtenS (year month day clock weekday : Int) (zone : Str) : Str :=
  fmtS (dayNames.getD weekday.toNat "") day (moonNames.getD month.toNat "") year (clock / 3600) (clock / 60 % 60) (clock % 60) zone

section
variable {w : World} {A : Around} {d : Nat}
theorem d_format (w : World) : Def w "_format_timetuple_and_zone" 21 := ⟨by k_is, by k_is, by decide⟩
theorem fn_format (r : Rm (d + 1) A) {more : List PyData} {year month1 day hh mi ss weekday : Int} {zone : Str} (hy : 0 ≤ year ∧ year < 10000) (hm : 1 ≤ month1 ∧ month1 < 13) (hd : 0 ≤ day ∧ day < 32) (hh' : 0 ≤ hh ∧ hh < 24) (hmi : 0 ≤ mi ∧ mi < 60) (hss : 0 ≤ ss ∧ ss < 60) (hw : 0 ≤ weekday ∧ weekday < 7) (hz : zone.length ≤ 1000) (hmore : more.length ≤ 100) :
    Fn w A 21 [.tuple ([PyData.int year, .int month1, .int day, .int hh, .int mi, .int ss, .int weekday] ++ more), .str zone] (.str (fmtS (dayNames.getD weekday.toNat "") day (moonNames.getD (month1 - 1).toNat "") year hh mi ss zone)) := by
  refine' enter (names := ["timetuple", "zone"]) r ?k1 ?k2 ?k3 ?k4 ?k5 ?k6 ?k7 ?k8 ?k9 ?k10 ?k11 ?k12 ?k13 ?k14 ?k15
  (((((case k1 => k_is); (case k2 => k_is); (case k3 => exact rfl); (case k4 => exact rfl); (case k5 => exact rfl); (case k6 => exact rfl); (case k8 => exact rfl); (case k9 => decide); (case k10 => decide); (case k11 => ((repeat (refine List.forall_mem_cons.mpr ⟨?_, ?_⟩; (first | exact .inl rfl | exact .inr ⟨rfl, fun _ => rfl⟩))); exact List.forall_mem_nil _)); (case k12 => exact rfl); (case k13 => exact rfl); (case k14 => exact rfl))); (case k7 => exact fit2 fun _ _ => rfl)))
  intro s env he hs hc
  have r' := r.deeper env
  have hl : ([PyData.int year, .int month1, .int day, .int hh, .int mi, .int ss, .int weekday] ++ more).length ≤ 100000 := by rw [List.length_append]; exact (show 7 + more.length ≤ 100000 from nle (Nat.add_le_add_left hmore 7))
  have it : ∀ (k : Int) (x : PyData), 0 ≤ k → ([PyData.int year, .int month1, .int day, .int hh, .int mi, .int ss, .int weekday] ++ more)[k.toNat]? = some x → ItemSem w (A.deeper env) (.tuple ([PyData.int year, .int month1, .int day, .int hh, .int mi, .int ss, .int weekday] ++ more)) (.int k) x := fun k x h0 h => item_tup h0 h hl
  have hdn : (dayNames.getD weekday.toNat "").length ≤ 1000 := by
    have : ∀ i : Nat, i < 7 → (dayNames.getD i "").length ≤ 1000 := by decide
    exact this _ ((Int.toNat_lt hw.1).mpr hw.2)
  have h1 : 0 ≤ month1 - 1 ∧ month1 - 1 < 12 := by omega
  have hmn : (moonNames.getD (month1 - 1).toNat "").length ≤ 1000 := by
    have : ∀ i : Nat, i < 12 → (moonNames.getD i "").length ≤ 1000 := by decide
    exact this _ ((Int.toNat_lt h1.1).mpr h1.2)
  refine blk_return (ev_bin ev_str (ev_tuple (ts := [.str (dayNames.getD weekday.toNat ""), .int day, .str (moonNames.getD (month1 - 1).toNat ""), .int year, .int hh, .int mi, .int ss, .str zone]) (evl_cons (ev_item (ev_list (show EvsL _ _ _ _ _ (List.map PyData.str dayNames) from by (repeat (first | exact evl_nil | refine evl_cons ev_int ?_ | refine evl_cons ev_str ?_)))) (ev_item (ev_name he (by (repeat (first | exact List.Mem.head _ | refine List.Mem.tail _ ?_)))) ev_int (it 6 _ (by decide) rfl)) (item_lstG PyData.str "" hw.1 hw.2))
    (evl_cons (ev_item (ev_name he (by (repeat (first | exact List.Mem.head _ | refine List.Mem.tail _ ?_)))) ev_int (it 2 _ (by decide) rfl)) (evl_cons (ev_item (ev_list (show EvsL _ _ _ _ _ (List.map PyData.str moonNames) from by (repeat (first | exact evl_nil | refine evl_cons ev_int ?_ | refine evl_cons ev_str ?_)))) (ev_bin (ev_item (ev_name he (by (repeat (first | exact List.Mem.head _ | refine List.Mem.tail _ ?_)))) ev_int (it 1 _ (by decide) rfl)) ev_int bin_sub) (item_lstG PyData.str "" h1.1 h1.2))
    (evl_cons (ev_item (ev_name he (by (repeat (first | exact List.Mem.head _ | refine List.Mem.tail _ ?_)))) ev_int (it 0 _ (by decide) rfl)) (evl_cons (ev_item (ev_name he (by (repeat (first | exact List.Mem.head _ | refine List.Mem.tail _ ?_)))) ev_int (it 3 _ (by decide) rfl)) (evl_cons (ev_item (ev_name he (by (repeat (first | exact List.Mem.head _ | refine List.Mem.tail _ ?_)))) ev_int (it 4 _ (by decide) rfl)) (evl_cons (ev_item (ev_name he (by (repeat (first | exact List.Mem.head _ | refine List.Mem.tail _ ?_)))) ev_int (it 5 _ (by decide) rfl)) (evl_cons (ev_name he (by (repeat (first | exact List.Mem.head _ | refine List.Mem.tail _ ?_)))) evl_nil)))))))) (by (first | decide | (simp only [List.length_cons, List.length_nil, List.length_map, List.length_append]; omega))))
    (bin_fmt hdn hmn hz (wid hd) (wid hy) (wid hh') (wid hmi) (wid hss)))
theorem fn_written (r : Rm (d + 2) A) {more : List PyData} {year month day clock weekday : Int} {zone : Str} (hy : 0 ≤ year ∧ year < 10000) (hm : 0 ≤ month ∧ month < 12) (hd : 0 ≤ day ∧ day < 32) (hc' : 0 ≤ clock ∧ clock < 86400) (hw : 0 ≤ weekday ∧ weekday < 7) (hz : zone.length ≤ 1000) (hmore : more.length ≤ 100) :
    Fn w A 145 [.int year, .int month, .int day, .int clock, .int weekday, .tuple more, .str zone] (.str (writtenS year month day clock weekday zone)) := by
  refine' enter (names := ["year", "month", "day", "clock", "weekday", "more", "zone"]) r ?k1 ?k2 ?k3 ?k4 ?k5 ?k6 ?k7 ?k8 ?k9 ?k10 ?k11 ?k12 ?k13 ?k14 ?k15
  (((((case k1 => k_is); (case k2 => k_is); (case k3 => exact rfl); (case k4 => exact rfl); (case k5 => exact rfl); (case k6 => exact rfl); (case k8 => exact rfl); (case k9 => decide); (case k10 => decide); (case k11 => ((repeat (refine List.forall_mem_cons.mpr ⟨?_, ?_⟩; (first | exact .inl rfl | exact .inr ⟨rfl, fun _ => rfl⟩))); exact List.forall_mem_nil _)); (case k12 => exact rfl); (case k13 => exact rfl); (case k14 => exact rfl))); (case k7 => exact fit7 fun _ _ _ _ _ _ _ => rfl)))
  intro s env he hs hc
  have r' := r.deeper env
  refine blk_assign he (stores_local hs rfl) (ev_bin (ev_tuple (ts := [PyData.int year, .int (month + 1), .int day, .int (clock / 3600), .int (clock / 60 % 60), .int (clock % 60), .int weekday]) (evl_cons (ev_name he (by (repeat (first | exact List.Mem.head _ | refine List.Mem.tail _ ?_)))) (evl_cons (ev_bin (ev_name he (by (repeat (first | exact List.Mem.head _ | refine List.Mem.tail _ ?_)))) ev_int bin_add) (evl_cons (ev_name he (by (repeat (first | exact List.Mem.head _ | refine List.Mem.tail _ ?_)))) (evl_cons (ev_bin (ev_name he (by (repeat (first | exact List.Mem.head _ | refine List.Mem.tail _ ?_)))) ev_int (bin_div (by decide) (by decide)))
    (evl_cons (ev_bin (ev_bin (ev_name he (by (repeat (first | exact List.Mem.head _ | refine List.Mem.tail _ ?_)))) ev_int (bin_div (by decide) (by decide))) ev_int (bin_mod (by decide))) (evl_cons (ev_bin (ev_name he (by (repeat (first | exact List.Mem.head _ | refine List.Mem.tail _ ?_)))) ev_int (bin_mod (by decide))) (evl_cons (ev_name he (by (repeat (first | exact List.Mem.head _ | refine List.Mem.tail _ ?_)))) evl_nil))))))) (by (first | decide | (simp only [List.length_cons, List.length_nil, List.length_map, List.length_append]; omega)))) (ev_name he (by (repeat (first | exact List.Mem.head _ | refine List.Mem.tail _ ?_)))) (bin_tup (show 7 + more.length ≤ 1000000 from nle (Nat.add_le_add_left hmore 7)))) rfl ?_
  have := fn_format (w := w) (A := A.deeper env) (d := d) r' (more := more) (year := year) (month1 := month + 1) (day := day) (hh := clock / 3600) (mi := clock / 60 % 60) (ss := clock % 60) (weekday := weekday) (zone := zone) hy ⟨Int.add_le_add_right hm.1 1, Int.add_lt_add_right hm.2 1⟩ hd (clk clock hc').1 (clk clock hc').2.1 (clk clock hc').2.2 hw hz hmore
  rw [Int.add_sub_cancel] at this
  exact blk_return (ev_call he (d_format w) (kind_of hs rfl) (evl_cons (ev_name he (by (repeat (first | exact List.Mem.head _ | refine List.Mem.tail _ ?_)))) (evl_cons (ev_name he (by (repeat (first | exact List.Mem.head _ | refine List.Mem.tail _ ?_)))) evl_nil)) this)
end
/- part G8 -/

section
variable {w : World} {A : Around} {env : Env} {ρ : Rho} {μ : Mu} {s₀ : Shared}
theorem x1_compSI {elt iter : PySem.Expr} {x y : Str} {px py : Pos} {ifs : List PySem.Expr} {scope : Scope} {pos spos : Pos} {xs : List Str} {d : Nat} (P : Str → Bool) (g : Str → Int) (ρc : Rho)
    (hsw : swapsWith (.ListComp elt [⟨.Name x px, iter, ifs, 0⟩] scope pos) (some (.Name y py)) spos.line env = pure true)
    (r : Rm d A) (he : EnvOk env) (hy : Stores env y) (hμ : ∀ p ∈ μ, p.1 ≠ y) (src : Src w A env ρ iter (xs.map .str)) (hz : xs.length ≤ 100000)
    (hkind : scope.kind = .function) (hfree : ∀ y ∈ scope.names, y.2 = .free → env.kindOf y.1 = some .cell ∧ (env.cells.lookup y.1).isSome = true)
    (hcell : ∀ y ∈ scope.names, y.2 ≠ .cell) (hnames : ∀ y ∈ scope.names, y.2 = .local → scope.names.lookup y.1 = some .local)
    (hx : (recell scope.names).lookup x = some .local) (hdbg : (x == ("__debug__" : Str)) = false)
    (hρ : ∀ q ∈ ρc, q ∈ ρ ∧ (q.1, NameKind.free) ∈ scope.names ∧ (recell scope.names).lookup q.1 = some .cell)
    (htest : ∀ t ∈ xs, ∀ cenv, CEnv env scope cenv → TstL w A cenv ((x, .str t) :: ρc) ifs (P t))
    (helt : ∀ t ∈ xs, P t = true → ∀ cenv, CEnv env scope cenv → Evs w A cenv ((x, .str t) :: ρc) elt (.int (g t)))
    (hs : ∀ v, foldedSetIterable iter env v = pure v := by intro _; rfl) :
    X1 w A env s₀ ρ μ (.Assign [.Name y py] (.ListComp elt [⟨.Name x px, iter, ifs, 0⟩] scope pos) spos) false ((y, .list (((xs.filter P).map g).map .int)) :: del y ρ) μ := by
  have e : ((xs.filter P).map g).map PyData.int = ((xs.map PyData.str).filter (pS P)).map (fS fun t => .int (g t)) := by rw [comp_strs, List.map_map]; rfl
  rw [e]
  refine x1_comp (pS P) (fS fun t => .int (g t)) ρc hsw r he hy hμ src (by simpa using hz) hkind hfree hcell hnames hx hdbg hρ (fun t ht => ?_) (fun t ht => ?_) (fun t ht => ?_) hs <;> obtain ⟨i, hi, rfl⟩ := List.mem_map.mp ht
  · exact htest i hi
  · exact helt i hi
  · exact fun _ => rfl
end

noncomputable def rightsL : List Int := [2048, 1024, 512, 256, 128, 64, 32, 16, 8, 4, 2, 1]
noncomputable def monIdx (z : Str) : Nat := moonNames.findIdx (· == z)
noncomputable def foundL (dates : List Str) (k : Nat) : List Int := (dates.filter fun d => Txt.slice d none (some 3) == dayNames.getD k "").map fun d => rightsL.getD (monIdx (Txt.slice d (some 8) (some 11))) 0
noncomputable def modeAt (dates : List Str) (mask : Int) (k : Nat) : Int := kinds7.getD k 0 + Builtin.bitXor (foundL dates k).sum mask
noncomputable def modesL (dates : List Str) (mask : Int) (n : Nat) : List Int := (List.range n).map (modeAt dates mask)

theorem modesL_succ (dates : List Str) (mask : Int) (n : Nat) : modesL dates mask (n + 1) = modesL dates mask n ++ [modeAt dates mask n] := by
  unfold modesL
  rw [List.range_succ, List.map_append]; rfl
theorem rng_get {n i : Nat} {t : PyData} (h : ((intz n).map PyData.int)[i]? = some t) : t = .int i := by
  unfold intz at h
  rw [List.map_map, List.getElem?_map] at h
  obtain ⟨a, h1, rfl⟩ := Option.map_eq_some_iff.mp h
  have h2 := List.getElem?_eq_some_iff.mp h1
  obtain ⟨h3, h4⟩ := h2
  rw [List.getElem_range] at h4
  subst h4; rfl
theorem mon_lt {z : Str} (h : z ∈ moonNames) : monIdx z < 12 := by
  have : monIdx z < moonNames.length := List.findIdx_lt_length_of_exists ⟨z, h, by simp⟩
  exact this
theorem mon_at {z : Str} (h : z ∈ moonNames) : moonNames[monIdx z]? = some z := by
  have hl : monIdx z < moonNames.length := List.findIdx_lt_length_of_exists ⟨z, h, by simp⟩
  rw [List.getElem?_eq_getElem hl]
  have := List.findIdx_getElem (p := (· == z)) (w := hl)
  exact congrArg some (eq_of_beq this)
theorem mon_min (z : Str) : ∀ m, m < monIdx z → moonNames[m]? ≠ some z := fun m hm e => by
  have := List.not_of_lt_findIdx (p := (· == z)) (xs := moonNames) hm
  obtain ⟨h1, h2⟩ := List.getElem?_eq_some_iff.mp e
  simp [h2] at this
section
variable {w : World} {A : Around} {d : Nat}
theorem fn_modes (r : Rm (d + 1) A) {dates : List Str} {mask : Int} (hn : dates.length ≤ 100) (hlen : ∀ t ∈ dates, t.length ≤ 1000) (hmon : ∀ t ∈ dates, Txt.slice t (some 8) (some 11) ∈ moonNames) :
    Fn w A 155 [.list (dates.map .str), .int mask] (.list ((modesL dates mask 7).map .int)) := by
  refine' enter (names := ["dates", "mask"]) r ?k1 ?k2 ?k3 ?k4 ?k5 ?k6 ?k7 ?k8 ?k9 ?k10 ?k11 ?k12 ?k13 ?k14 ?k15
  (((((case k1 => k_is); (case k2 => k_is); (case k3 => exact rfl); (case k4 => exact rfl); (case k5 => exact rfl); (case k6 => exact rfl); (case k8 => exact rfl); (case k9 => decide); (case k10 => decide); (case k11 => ((repeat (refine List.forall_mem_cons.mpr ⟨?_, ?_⟩; (first | exact .inl rfl | exact .inr ⟨rfl, fun _ => rfl⟩))); exact List.forall_mem_nil _)); (case k12 => exact rfl); (case k13 => exact rfl); (case k14 => exact rfl))); (case k7 => exact fit2 fun _ _ => rfl)))
  intro s env he hs hc
  have r' := r.deeper env
  refine blk_assign he (stores_local hs rfl) (ev_tuple (ts := [PyData.int 4096, .int 8192, .int 16384, .int 24576, .int 32768, .int 40960, .int 49152]) (evl_cons (ev_top he (kind_of hs rfl) (by k_is) (by decide) fun _ _ => Rep.int _ _) (evl_cons (ev_top he (kind_of hs rfl) (by k_is) (by decide) fun _ _ => Rep.int _ _) (evl_cons (ev_top he (kind_of hs rfl) (by k_is) (by decide) fun _ _ => Rep.int _ _) (evl_cons (ev_top he (kind_of hs rfl) (by k_is) (by decide) fun _ _ => Rep.int _ _) (evl_cons (ev_top he (kind_of hs rfl) (by k_is) (by decide) fun _ _ => Rep.int _ _) (evl_cons (ev_top he (kind_of hs rfl) (by k_is) (by decide) fun _ _ => Rep.int _ _) (evl_cons (ev_top he (kind_of hs rfl) (by k_is) (by decide) fun _ _ => Rep.int _ _) evl_nil)))))))) rfl ?_
  refine blk_assign he (stores_cell hs hc rfl fun _ => rfl) (ev_tuple (ts := [PyData.int 2048, .int 1024, .int 512, .int 256, .int 128, .int 64]) (evl_cons (ev_top he (kind_of hs rfl) (by k_is) (by decide) fun _ _ => Rep.int _ _) (evl_cons (ev_top he (kind_of hs rfl) (by k_is) (by decide) fun _ _ => Rep.int _ _) (evl_cons (ev_top he (kind_of hs rfl) (by k_is) (by decide) fun _ _ => Rep.int _ _) (evl_cons (ev_top he (kind_of hs rfl) (by k_is) (by decide) fun _ _ => Rep.int _ _) (evl_cons (ev_top he (kind_of hs rfl) (by k_is) (by decide) fun _ _ => Rep.int _ _) (evl_cons (ev_top he (kind_of hs rfl) (by k_is) (by decide) fun _ _ => Rep.int _ _) evl_nil))))))) rfl ?_
  refine blk_assign he (stores_cell hs hc rfl fun _ => rfl) (ev_bin (ev_name he (by (repeat (first | exact List.Mem.head _ | refine List.Mem.tail _ ?_)))) (ev_tuple (ts := [PyData.int 32, .int 16, .int 8, .int 4, .int 2, .int 1]) (evl_cons (ev_top he (kind_of hs rfl) (by k_is) (by decide) fun _ _ => Rep.int _ _) (evl_cons (ev_top he (kind_of hs rfl) (by k_is) (by decide) fun _ _ => Rep.int _ _) (evl_cons (ev_top he (kind_of hs rfl) (by k_is) (by decide) fun _ _ => Rep.int _ _) (evl_cons (ev_top he (kind_of hs rfl) (by k_is) (by decide) fun _ _ => Rep.int _ _) (evl_cons (ev_top he (kind_of hs rfl) (by k_is) (by decide) fun _ _ => Rep.int _ _) (evl_cons (ev_top he (kind_of hs rfl) (by k_is) (by decide) fun _ _ => Rep.int _ _) evl_nil))))))) (bin_tup (by decide))) rfl ?_
  refine blk_assign he (stores_cell hs hc rfl fun _ => rfl) (ev_list (show EvsL _ _ _ _ _ (List.map PyData.str dayNames) from by (repeat (first | exact evl_nil | refine evl_cons ev_int ?_ | refine evl_cons ev_str ?_)))) rfl ?_
  refine blk_assign he (stores_cell hs hc rfl fun _ => rfl) (ev_list (show EvsL _ _ _ _ _ (List.map PyData.str moonNames) from by (repeat (first | exact evl_nil | refine evl_cons ev_int ?_ | refine evl_cons ev_str ?_)))) rfl ?_
  refine blk_mono (ρ' := [("kinds", .tuple (kinds7.map .int)), ("rights", .tuple (rightsL.map .int)), ("weekdays", .list (dayNames.map .str)), ("months", .list (moonNames.map .str)), ("dates", .list (dates.map .str)), ("mask", .int mask)]) ?_ ?hsub
  case hsub =>
    (repeat (first | exact List.forall_mem_nil _ | refine List.forall_mem_cons.mpr ⟨by (repeat (first | exact List.Mem.head _ | refine List.Mem.tail _ ?_)), ?_⟩))
  refine blkm_of (blkm_new he (stores_local hs rfl) (fun p hp => by cases hp) rfl (blkm_x (x1_for 7 (fun i => [("k", .int i)]) (fun i => [("kinds", .tuple (kinds7.map .int)), ("rights", .tuple (rightsL.map .int)), ("weekdays", .list (dayNames.map .str)), ("months", .list (moonNames.map .str)), ("dates", .list (dates.map .str)), ("mask", .int mask)]) (fun i => [("modes", (modesL dates mask i).map .int)]) (fun _ => false) ?src
    (fun i hi => off_of rfl) (fun i hi => off_of rfl) ?hb (fun i hi h => by cases h) (fun _ => xs_nil)) (blkm_fin (blk_return (ev_name he (by (repeat (first | exact List.Mem.head _ | refine List.Mem.tail _ ?_))))))))
  case src =>
    exact srct_of (ts := (intz 7).map PyData.int) _ (src_rangeI 7 r' he (b_range w) (kind_of hs rfl) ev_int (by decide)) (fun i t ht => by rw [rng_get ht]; exact tgt_name he (stores_cell hs hc rfl fun _ => rfl) rfl) (by decide) (fun p hp h e => by rw [List.mem_singleton.mp hp] at e; exact absurd (congrArg List.length e) (show ¬ ((0 : Nat) = 7) by decide))
  case hb =>
    intro i hi _
    show Xs w (A.deeper env) env s _ _ _ false _ [("modes", (modesL dates mask (i + 1)).map .int)]
    rw [modesL_succ, List.map_append]
    refine xs_cons (x1_compSI (xs := dates) (fun d => Txt.slice d none (some 3) == dayNames.getD i "") (fun d => rightsL.getD (monIdx (Txt.slice d (some 8) (some 11))) 0) [("rights", .tuple (rightsL.map .int)), ("months", .list (moonNames.map .str)), ("weekdays", .list (dayNames.map .str)), ("k", .int i)] (swaps_is he hs rfl rfl rfl) r' he (stores_local hs rfl) (ne_of rfl) (src_list r' (ev_name he (by (repeat (first | exact List.Mem.head _ | refine List.Mem.tail _ ?_))))) (by omega)
      rfl (free_of hs hc fun _ => rfl) (by decide) (by decide) rfl (by decide) ?h1 (fun t ht cenv hce => tstl_one (tst_cmp (ev_cut (ev_name hce.ok (by (repeat (first | exact List.Mem.head _ | refine List.Mem.tail _ ?_)))) (show PartIs w _ cenv _ none none from trivial) (show PartIs w _ cenv _ (some _) (some 3) from ev_int) ?h2) (ev_item (ev_name hce.ok (by (repeat (first | exact List.Mem.head _ | refine List.Mem.tail _ ?_)))) (ev_name hce.ok (by (repeat (first | exact List.Mem.head _ | refine List.Mem.tail _ ?_)))) (item_lstG (xs := dayNames) PyData.str "" (by omega) (show (i : Int) < 7 by omega))) cmp_eqS))
      (fun t ht _ cenv hce => ev_item (ev_name hce.ok (by (repeat (first | exact List.Mem.head _ | refine List.Mem.tail _ ?_)))) (ev_index (j := monIdx (Txt.slice t (some 8) (some 11))) (ev_name hce.ok (by (repeat (first | exact List.Mem.head _ | refine List.Mem.tail _ ?_)))) (ev_cut (ev_name hce.ok (by (repeat (first | exact List.Mem.head _ | refine List.Mem.tail _ ?_)))) (show PartIs w _ cenv _ (some _) (some 8) from ev_int) (show PartIs w _ cenv _ (some _) (some 11) from ev_int) ?h3) (mon_at (hmon t ht)) (mon_min _) (by decide) rfl rfl) (item_tupG (xs := rightsL) PyData.int 0 (by omega) (by have := mon_lt (hmon t ht); show (monIdx _ : Int) < 12; omega)))) ?_
    case h1 => (repeat (first | exact List.forall_mem_nil _ | refine List.forall_mem_cons.mpr ⟨⟨by (repeat (first | exact List.Mem.head _ | refine List.Mem.tail _ ?_)), by (repeat (first | exact List.Mem.head _ | refine List.Mem.tail _ ?_)), rfl⟩, ?_⟩))
    case h2 => have := hlen t ht; omega
    case h3 => have := hlen t ht; omega
    refine xs_sub (xs_last (x1_append (i := 0) he rfl (ev_bin (ev_item (ev_name he (by (repeat (first | exact List.Mem.head _ | refine List.Mem.tail _ ?_)))) (ev_name he (by (repeat (first | exact List.Mem.head _ | refine List.Mem.tail _ ?_)))) (item_tupG (xs := kinds7) PyData.int 0 (by omega) (show (i : Int) < 7 by omega))) (ev_bin (ev_bi he (b_sum w) (kind_of hs rfl) (ev_name he (by (repeat (first | exact List.Mem.head _ | refine List.Mem.tail _ ?_)))) (bi_sum r')) (ev_name he (by (repeat (first | exact List.Mem.head _ | refine List.Mem.tail _ ?_)))) bin_xor) bin_add) rfl ?h4 rfl rfl rfl rfl rfl)) ?h5
    case h4 => rw [List.length_map]; unfold modesL; rw [List.length_map, List.length_range]; omega
    case h5 =>
      (repeat (first | exact List.forall_mem_nil _ | refine List.forall_mem_cons.mpr ⟨by (repeat (first | exact List.Mem.head _ | refine List.Mem.tail _ ?_)), ?_⟩))
end
/- part L1 -/
section
open Builtin Builtin.Str

noncomputable def dc (n : Nat) : Nat := (Nat.digitChar n).toNat
theorem cps_num (m : Nat) : (Str.ofString (toString ((m : Nat) : Int))).cps.toList = (Nat.toDigits 10 m).map Char.toNat := by
  rw [show ((m : Nat) : Int) = Int.ofNat m from rfl, text_ofNat]
noncomputable def digs (n : Nat) : List Nat := (Nat.toDigits 10 n).map Char.toNat
theorem num1 {n : Nat} (h : n < 10) : digs n = [dc n] := by
  unfold digs
  rw [Nat.toDigits_of_lt_base h]; rfl
theorem numS {n : Nat} (h : 10 ≤ n) : digs n = digs (n / 10) ++ [dc (n % 10)] := by
  unfold digs
  rw [Nat.toDigits_of_base_le (by decide) h, List.map_append]; rfl
/-- a number's last k figures -/
noncomputable def padR : Nat → Nat → List Nat
  | 0, _ => []
  | k + 1, n => padR k (n / 10) ++ [dc (n % 10)]
theorem digs_more : ∀ (k n : Nat), n < 10 ^ k → digs (10 ^ k + n) = 49 :: padR k n
  | 0, n, h => by
    obtain rfl : n = 0 := Nat.lt_one_iff.mp h
    decide +kernel
  | k + 1, n, h => by
    rw [Nat.pow_succ] at h ⊢
    have h10 : 10 ≤ 10 ^ k * 10 + n := Nat.le_trans (Nat.le_mul_of_pos_left 10 (Nat.pow_pos (by decide))) (Nat.le_add_right _ _)
    rw [numS h10, Nat.add_comm (10 ^ k * 10) n, Nat.add_mul_div_right _ _ (by decide), Nat.add_mul_mod_self_right, Nat.add_comm (n / 10), digs_more k (n / 10) (Nat.div_lt_of_lt_mul (Nat.mul_comm 10 (10 ^ k) ▸ h))]
    rfl
theorem pad_more : ∀ (k n : Nat), n < 10 ^ (k + 1) → padZ (k + 1) (digs n) = padR (k + 1) n
  | 0, n, h => by
    have h' : n < 10 := h
    rw [num1 h']
    show [dc n] = [] ++ [dc (n % 10)]
    rw [Nat.mod_eq_of_lt h']; rfl
  | k + 1, n, h => by
    show _ = padR (k + 1) (n / 10) ++ [dc (n % 10)]
    rw [← pad_more k (n / 10) (Nat.div_lt_of_lt_mul (by rw [Nat.mul_comm]; exact h))]
    by_cases h10 : n < 10
    · rw [num1 h10, Nat.div_eq_of_lt h10, num1 (n := 0) (by decide), Nat.mod_eq_of_lt h10]
      show List.replicate (k + 1) 48 ++ [dc n] = (List.replicate k 48 ++ [48]) ++ [dc n]
      rw [List.replicate_succ']
    · rw [numS (Nat.le_of_not_lt h10)]
      unfold padZ
      rw [List.length_append, List.append_assoc]
      congr 2
      exact Nat.add_sub_add_right (k + 1) 1 _
theorem str_ext {x y : Str} (h : x.cps.toList = y.cps.toList) : x = y := by
  obtain ⟨a⟩ := x; obtain ⟨b⟩ := y
  exact congrArg Str.mk (Array.toList_inj.mp h)
theorem slice_cps {x : Str} {a b : Nat} (hab : a ≤ b) (hb : b ≤ x.length) : (Txt.slice x (some (a : Int)) (some (b : Int))).cps.toList = (x.cps.toList.drop a).take (b - a) := by
  unfold Txt.slice
  split
  · rename_i h
    have h2 : (Builtin.Str.strSliceIndices (some (a : Int)) (some (b : Int)) 1 x.length).length = x.length := by simpa using h
    rw [StrLaws.strSliceIndices_plain hab hb, List.length_map, List.length_range] at h2
    have ha : a = 0 := by omega
    have hbb : b = x.length := by omega
    subst ha
    rw [List.drop_zero, List.take_of_length_le]
    show x.cps.toList.length ≤ b - 0
    rw [hbb]; simp [Str.length]
  · simp only [List.toList_toArray]
    exact StrLaws.sliced_plain x hab hb
theorem slice_end (x : Str) (l : Option Int) : Txt.slice x l none = Txt.slice x l (some (x.length : Int)) := by
  have e : Builtin.Str.strSliceIndices l none 1 x.length = Builtin.Str.strSliceIndices l (some (x.length : Int)) 1 x.length := by
    unfold Builtin.Str.strSliceIndices
    have h : ¬ ((x.length : Int) < 0) := by omega
    simp [h]
  unfold Txt.slice
  rw [e]
theorem figs_gen {k n : Nat} (h : n < 10 ^ k) : figs ((10 ^ k + n : Nat) : Int) = ⟨(padR k n).toArray⟩ := by
  have e := (cps_num (10 ^ k + n)).trans (digs_more k n h)
  unfold figs
  generalize Str.ofString (toString ((10 ^ k + n : Nat) : Int)) = x at e ⊢
  have hl : x.length = (padR k n).length + 1 := (Array.length_toList (xs := x.cps)).symm.trans (congrArg List.length e)
  apply str_ext
  rw [slice_end, show (some (1 : Int)) = some ((1 : Nat) : Int) from rfl, slice_cps (by rw [hl]; exact Nat.le_add_left _ _) (Nat.le_refl _), e, hl, Nat.add_sub_cancel]
  exact List.take_of_length_le (Nat.le_refl _)
theorem pad_gen {k n : Nat} (h : n < 10 ^ (k + 1)) : padS (k + 1) (n : Int) = ⟨(padR (k + 1) n).toArray⟩ := by
  unfold padS
  rw [cps_num]
  exact congrArg (fun l : List Nat => (⟨l.toArray⟩ : Str)) (pad_more k n h)
end
/- part L2 -/

theorem day_text {k : Int} (h0 : 0 ≤ k) (h1 : k < 7) : dayText k = dayNames.getD k.toNat "" := by
  have key : ∀ i : Nat, i < 7 → dayText (i : Int) = dayNames.getD i "" := by decide +kernel
  have := key k.toNat ((Int.toNat_lt h0).mpr h1)
  rwa [Int.toNat_of_nonneg h0] at this
theorem moon_text {k : Int} (h0 : 0 ≤ k) (h1 : k < 12) : moonText k = moonNames.getD k.toNat "" := by
  have key : ∀ i : Nat, i < 12 → moonText (i : Int) = moonNames.getD i "" := by decide +kernel
  have := key k.toNat ((Int.toNat_lt h0).mpr h1)
  rwa [Int.toNat_of_nonneg h0] at this
theorem pad_figs2 {n : Int} (h0 : 0 ≤ n) (h1 : n < 100) : padS 2 n = figs (100 + n) := by
  obtain ⟨m, rfl⟩ := Int.eq_ofNat_of_zero_le h0
  have h : m < 10 ^ 2 := Int.ofNat_lt.mp h1
  exact (pad_gen h).trans (figs_gen h).symm
theorem pad_figs4 {n : Int} (h0 : 0 ≤ n) (h1 : n < 10000) : padS 4 n = figs (10000 + n) := by
  obtain ⟨m, rfl⟩ := Int.eq_ofNat_of_zero_le h0
  have h : m < 10 ^ 4 := Int.ofNat_lt.mp h1
  exact (pad_gen h).trans (figs_gen h).symm
theorem written_eq {year month day clock weekday : Int} {zone : Str} (hy : 0 ≤ year ∧ year < 10000) (hm : 0 ≤ month ∧ month < 12) (hd : 0 ≤ day ∧ day < 32) (hc' : 0 ≤ clock ∧ clock < 86400) (hw : 0 ≤ weekday ∧ weekday < 7) :
    writtenS year month day clock weekday zone = dateS year month day clock weekday zone := by
  obtain ⟨k1, k2, k3⟩ := clk clock hc'
  unfold writtenS dateS fmtS Txt.join
  rw [pick_tail4, StrLaws.glued_eq_join, StrLaws.glued_eq_join, day_text hw.1 hw.2, moon_text hm.1 hm.2, pad_figs2 hd.1 (wid (c := 0) (d := 100) hd).2, pad_figs4 hy.1 hy.2, pad_figs2 k1.1 (wid (c := 0) (d := 100) k1).2, pad_figs2 k2.1 (wid (c := 0) (d := 100) k2).2, pad_figs2 k3.1 (wid (c := 0) (d := 100) k3).2]
  apply str_ext
  simp only [Str.join, Str.cps_append, Array.toList_append, List.append_assoc]
/- part L3 -/
/-- / and % laws, to spare the great ones -/
theorem md {x p q : Int} (hp : 0 < p) : x % (p * q) / p = x / p % q := by
  have h1 : x % (p * q) = x - p * q * (x / (p * q)) := Int.emod_def x (p * q)
  have h2 : x / p % q = x / p - q * (x / p / q) := Int.emod_def (x / p) q
  rw [h1, h2, Int.ediv_ediv_of_nonneg (Int.le_of_lt hp), Int.mul_assoc, Int.sub_eq_add_neg, ← Int.mul_neg, Int.add_mul_ediv_left _ _ (Int.ne_of_gt hp), ← Int.sub_eq_add_neg]
theorem low {n c k : Int} (hc : 0 < c) (h : 4096 = c * (2 * k)) : n % 4096 / c % 2 = n / c % 2 := by
  rw [h, md hc, Int.emod_emod_of_dvd _ (Int.dvd_mul_right 2 k)]
theorem qq (x a b c : Int) (ha : 0 ≤ a) (h : a * b = c) : x / a / b = x / c := by rw [Int.ediv_ediv_of_nonneg ha, h]
theorem even_half (c : Int) : 2 * c / 2 = c := Int.mul_ediv_cancel_left c (by decide)
theorem odd_half (c : Int) : (2 * c + 1) / 2 = c := by rw [Int.add_comm, Int.add_mul_ediv_left _ _ (by decide)]; exact Int.zero_add c
theorem odd_mod (c : Int) : (2 * c + 1) % 2 = 1 := by rw [Int.add_comm, Int.add_mul_emod_self_left]; rfl
theorem and_even (x c : Int) : Builtin.bitAnd x (2 * c) = 2 * Builtin.bitAnd (x / 2) c := by
  rw [kbt_halves, even_half, Int.mul_emod_right, if_neg (fun h => absurd h.2 (by decide)), Int.add_zero]
theorem and_odd (x c : Int) : Builtin.bitAnd x (2 * c + 1) = 2 * Builtin.bitAnd (x / 2) c + x % 2 := by
  rw [kbt_halves, odd_half, odd_mod]
  rcases Int.emod_two_eq x with h | h <;> rw [h] <;> rfl
theorem and_shift (c : Int) : ∀ (k : Nat) (x : Int), Builtin.bitAnd x (2 ^ k * c) = 2 ^ k * Builtin.bitAnd (x / 2 ^ k) c
  | 0, x => by rw [Int.pow_zero, Int.one_mul, Int.one_mul, Int.ediv_one]
  | k + 1, x => by
    rw [Int.pow_succ, Int.mul_comm (2 ^ k) 2, Int.mul_assoc, and_even, and_shift c k, ← Int.mul_assoc, Int.ediv_ediv_of_nonneg (by decide)]
theorem and_61440 (x : Int) : Builtin.bitAnd x 61440 = x / 4096 % 16 * 4096 := by
  rw [show (61440 : Int) = 2 ^ 12 * (2 ^ 4 - 1) from rfl, and_shift, kbt_mask, Int.mul_comm]; rfl
theorem and_4095 (x : Int) : Builtin.bitAnd x 4095 = x % 4096 := by
  rw [show (4095 : Int) = 2 ^ 12 - 1 from rfl, kbt_mask]; rfl
/- part L4 -/
theorem and_pow (x : Int) (k : Nat) (c : Int) (h : c = 2 ^ k) : Builtin.bitAnd x c = (x / c % 2) * c := by rw [h, kbt_bit]
theorem and_two (x : Int) (k j : Nat) : Builtin.bitAnd x (2 ^ k * (2 * 2 ^ j + 1)) = (x / (2 ^ k * 2 * 2 ^ j) % 2) * (2 ^ k * 2 * 2 ^ j) + (x / 2 ^ k % 2) * 2 ^ k := by
  rw [and_shift, and_odd, kbt_bit, Int.ediv_ediv_of_nonneg (Int.le_of_lt (kbt_pos k)), Int.ediv_ediv_of_nonneg (Int.mul_nonneg (Int.le_of_lt (kbt_pos k)) (by decide)), Int.mul_add, Int.mul_comm (2 ^ k) (x / 2 ^ k % 2)]
  congr 1
  rw [Int.mul_assoc (2 ^ k) 2, Int.mul_left_comm 2 (x / _ % 2), Int.mul_left_comm (2 ^ k)]
theorem and_513 (x : Int) : Builtin.bitAnd x 513 = (x / 512 % 2) * 512 + x % 2 := by
  have := and_two x 0 8
  rw [show (2 : Int) ^ 0 * (2 * 2 ^ 8 + 1) = 513 from rfl, show (2 : Int) ^ 0 * 2 * 2 ^ 8 = 512 from rfl, Int.pow_zero, Int.ediv_one, Int.mul_one] at this
  exact this
theorem and_1032 (x : Int) : Builtin.bitAnd x 1032 = (x / 1024 % 2) * 1024 + (x / 8 % 2) * 8 := and_two x 3 6
theorem and_2112 (x : Int) : Builtin.bitAnd x 2112 = (x / 2048 % 2) * 2048 + (x / 64 % 2) * 64 := and_two x 6 4
/- part H1 -/

/-- enumerate's making, over a tuple -/
theorem meets_enum_tup (l : Addr) (its : Array Value) (k : Nat) :
    Meets (Builtin.«enumerate.__new__» ⟨[.type "enumerate", .ref l], []⟩) (fun _ R s => s.heap.get? l = some { cls := .type "tuple", data := .seq its k } ∧
      R (.ok (.ret (.ref (s.heap.push { cls := .type "tuple_iterator", data := .fields #[.ref l, .int 0 0] }).objs.size)))
        { s with heap := (s.heap.push { cls := .type "tuple_iterator", data := .fields #[.ref l, .int 0 0] }).push { cls := .type "enumerate", data := .fields #[.none, .bool false, .ref s.heap.objs.size, rawInt 0, .none, .none] } }) := by
  refine .of_wp fun prog w A R s hs => ?_
  obtain ⟨hp, g, d, tk, os⟩ := s
  obtain ⟨hl, hR⟩ := hs
  have sub := sub_enumerate
  have hT : Heap.IsTuple (Shared.heap ⟨hp, g, d, tk, os⟩) l its := ⟨_, hl, rfl, k, rfl⟩
  wp_walk
  refine wpAny_stack_any fun st => wpAny_pure ?_
  split
  · rename_i c _ _ _ _ _
    cases (c == Value.type "enumerate") <;> (wp_walk using wpAny_pyIter_tuple hT; exact ⟨_, rfl, hR⟩)
  · wp_walk using wpAny_pyIter_tuple hT
    exact ⟨_, rfl, hR⟩

section
variable {prog : Program} {w : World} {A : Around} {E : Value → Shared → Prop} {s : Shared}
open Builtin.SmallTypes
/-- the item that a tuple's iterator stands at -/
theorem nextOf_tup {it t : Addr} {i : Nat} {its : Array Value} {x : Value} {Q : Value → Shared → Prop} (hit : s.heap.IsTupleIter it t i) (ht : s.heap.IsTuple t its) (hx : its[i]? = some x)
    (hQ : ∀ h', h'.IsTupleIter it t (i + 1) → Heap.SameBut it s.heap h' → Q x { s with heap := h' }) : wpAny (model prog w) A (nextOf (.ref it)) Q E s := by
  have ty := hit.typeIs (s := s)
  obtain ⟨o, e1, e2, e3⟩ := hit
  obtain ⟨u, f1, _, k, f2⟩ := ht
  unfold nextOf
  refine wpAny_bind (wpAny_callSpecial?_slot (name := Str.ofString "__next__") ty F.slot_tuple_iterator_next (wpAny_call_entry F.slot_tuple_iterator_next ty F.entry_tuple_iterator_next ?_ (F.args_tuple_iterator_next_1 _)))
  show wpAny _ _ (field (.ref it) 0 >>= _) _ _ s
  refine wpAny_bind (wpAny_field e1 e3 (x := .ref t) rfl ?_)
  show wpAny _ _ (if (Value.ref t == Value.none) = true then _ else _) _ _ s
  rw [if_neg (by exact Bool.false_ne_true)]
  show wpAny _ _ (field (.ref it) 1 >>= _) _ _ s
  refine wpAny_bind (wpAny_field e1 e3 (x := .int i 0) rfl ?_)
  show wpAny _ _ (seqItems? (.ref t) >>= _) _ _ s
  refine wpAny_bind (wpAny_seqItems f1 f2 ?_)
  simp only [Int.toNat_natCast, hx]
  refine wpAny_bind (wpAny_setField e1 e3 (by simp) (wpAny_pure ⟨x, rfl, wpAny_pure (hQ _ ⟨_, Heap.get?_update_self _ e1 (Obj.isFreed_of_fields (Obj.data_mapFields e3 _)), (Obj.cls_mapFields ..).trans e2, ?_⟩ (Heap.SameBut.update ..))⟩))
  rw [Obj.data_mapFields e3]
  simp [rawInt]

/-- a turn of enumerate, over any inner iterator -/
theorem enum_turn {e it : Addr} {i : Nat} {x old : Value} {P : Heap → Prop} {Q : Value → Shared → Prop} (he : IsEnum s.heap e it i old) (hne : e ≠ it)
    (hin : ∀ (A' : Around) (s' : Shared) (Q' : Value → Shared → Prop) (E' : Value → Shared → Prop), s'.heap = s.heap → (∀ h₁, P h₁ → Heap.SameBut it s.heap h₁ → Q' x { s' with heap := h₁ }) → wpAny (model prog w) A' (nextOf (.ref it)) Q' E' s')
    (hP : ∀ h h', P h → (∀ b o, b ≠ e → h.get? b = some o → h'.get? b = some o) → P h')
    (hQ : ∀ h', P h' → IsEnumOut h' e it ((i : Int) + 1) x s.heap.objs.size → h'.get? s.heap.objs.size = some { cls := .type "tuple", data := .seq #[.int i s.toks, x] } →
      (∀ b o, b ≠ e → b ≠ it → s.heap.get? b = some o → h'.get? b = some o) → Q (.ref s.heap.objs.size) { s with heap := h', toks := s.toks + 1 }) :
    wpAny (model prog w) A (Builtin.«enumerate.__next__» ⟨[.ref e], []⟩) (fun fin s' => ∃ v, fin = .done (.ret v) ∧ Q v s') E s := by
  obtain ⟨hp, g, d, tk, os⟩ := s
  have lt : e < hp.objs.size := Heap.lt_size he
  show wpAny _ _ (field (.ref e) 2 >>= _) _ _ _
  refine wpAny_bind (wpAny_field he rfl (x := .ref it) rfl (wpAny_bind (hin _ _ _ _ rfl fun h₁ p₁ b₁ => ?_)))
  replace b₁ : Heap.SameBut it hp h₁ := b₁
  have o₁ : IsEnum h₁ e it i old := (b₁.2 e hne).trans he
  show wpAny _ _ (field (.ref e) 3 >>= _) _ _ ⟨h₁, g, d, tk, os⟩
  refine wpAny_bind (wpAny_field o₁ rfl (x := rawInt i) rfl ?_)
  show wpAny _ _ (field (.ref e) 4 >>= _) _ _ ⟨h₁, g, d, tk, os⟩
  refine wpAny_bind (wpAny_field o₁ rfl (x := .none) rfl ?_)
  show wpAny _ _ (mkInt i >>= _) _ _ ⟨h₁, g, d, tk, os⟩
  refine wpAny_bind (wpAny_mkInt ?_)
  show wpAny _ _ (setField (.ref e) 3 (rawInt ((i : Int) + 1)) >>= _) _ _ ⟨h₁, g, d, tk + 1, os⟩
  refine wpAny_bind (wpAny_setField_rec o₁ (by simp) fun h₂ o₂ b₂ => ?_)
  replace b₂ : Heap.SameBut e h₁ h₂ := b₂
  replace o₂ : IsEnum h₂ e it ((i : Int) + 1) old := o₂
  show wpAny _ _ (setField (.ref e) 4 .none >>= _) _ _ ⟨h₂, g, d, tk + 1, os⟩
  refine wpAny_bind (wpAny_setField_rec o₂ (by simp) fun h₃ o₃ b₃ => ?_)
  replace b₃ : Heap.SameBut e h₂ h₃ := b₃
  replace o₃ : IsEnum h₃ e it ((i : Int) + 1) old := o₃
  have z₃ : h₃.objs.size = hp.objs.size := by rw [b₃.1, b₂.1, b₁.1]
  show wpAny _ _ (newTuple [.int i tk, x] >>= _) _ _ ⟨h₃, g, d, tk + 1, os⟩
  refine wpAny_bind (wpAny_newTuple ?_)
  have k₄ : ∀ b o, b ≠ e → h₁.get? b = some o → (h₃.push { cls := .type "tuple", data := .seq #[.int i tk, x] }).get? b = some o := fun b o n q => Heap.get?_push_of_some _ (b₃.extBut b o n (b₂.extBut b o n q))
  have o₄ : IsEnum (h₃.push { cls := .type "tuple", data := .seq #[.int i tk, x] }) e it ((i : Int) + 1) old := Heap.get?_push_of_some _ o₃
  have n₄ : (h₃.push { cls := .type "tuple", data := .seq #[.int i tk, x] }).get? hp.objs.size = some { cls := .type "tuple", data := .seq #[.int i tk, x] } := by rw [← z₃]; exact Heap.get?_push_size _ rfl
  generalize hh : h₃.push { cls := .type "tuple", data := .seq #[.int i tk, x] } = h₄ at k₄ o₄ n₄
  show wpAny _ _ (ownedTupleIsFree (.ref e) >>= _) _ _ _
  dsimp only
  rw [z₃]
  refine wpAny_bind ?_
  unfold ownedTupleIsFree
  refine wpAny_bind (wpAny_field o₄ rfl (x := .none) rfl (wpAny_pure ?_))
  simp only [if_true]
  refine wpAny_bind (wpAny_rule (wpAny_bind (wpAny_field o₄ rfl (x := old) rfl (wpAny_bind (wpAny_setField_rec o₄ (by simp) fun h₅ o₅ b₅ => ?_)))))
  replace b₅ : Heap.SameBut e h₄ h₅ := b₅
  replace o₅ : IsEnum h₅ e it ((i : Int) + 1) x := o₅
  refine wpAny_bind ?_
  unfold ownedTupleHandOut
  refine wpAny_bind (wpAny_setField_rec o₅ (by simp) fun h₆ o₆ b₆ => ?_)
  replace b₆ : Heap.SameBut e h₅ h₆ := b₆
  replace o₆ : IsEnumOut h₆ e it ((i : Int) + 1) x hp.objs.size := o₆
  refine wpAny_setField_rec o₆ (by simp) fun h₇ o₇ b₇ => ?_
  replace b₇ : Heap.SameBut e h₆ h₇ := b₇
  replace o₇ : IsEnumOut h₇ e it ((i : Int) + 1) x hp.objs.size := o₇
  have up : ∀ b o, b ≠ e → h₄.get? b = some o → h₇.get? b = some o := fun b o n q => b₇.extBut b o n (b₆.extBut b o n (b₅.extBut b o n q))
  refine wpAny_bind (wpAny_letGo (wpAny_pure ⟨_, rfl, hQ h₇ (hP _ _ p₁ fun b o n q => up b o n (k₄ b o n q)) o₇ (up _ _ (Nat.ne_of_gt lt) n₄) fun b o n m q => up b o n (k₄ b o n (b₁.extBut b o m q))⟩))
end
/- part H2 -/
section
variable {prog : Program} {w : World} {A : Around} {E : Value → Shared → Prop} {s : Shared}
open Builtin.SmallTypes
theorem nextOf_tup_end {it t : Addr} {i : Nat} {its : Array Value} {Q : Value → Shared → Prop} (hh : A.handled = none) (hit : s.heap.IsTupleIter it t i) (ht : s.heap.IsTuple t its) (hx : its[i]? = none)
    (hE : ∀ h' e, Heap.ExtBut it s.heap h' → (∃ o, h'.get? e = some o ∧ o.cls = .type "StopIteration") → E (.ref e) { s with heap := h' }) : wpAny (model prog w) A (nextOf (.ref it)) Q E s := by
  have ty := hit.typeIs (s := s)
  obtain ⟨o, e1, e2, e3⟩ := hit
  obtain ⟨u, f1, _, k, f2⟩ := ht
  unfold nextOf
  refine wpAny_bind (wpAny_callSpecial?_slot (name := Str.ofString "__next__") ty F.slot_tuple_iterator_next (wpAny_call_entry F.slot_tuple_iterator_next ty F.entry_tuple_iterator_next ?_ (F.args_tuple_iterator_next_1 _)))
  show wpAny _ _ (field (.ref it) 0 >>= _) _ _ s
  refine wpAny_bind (wpAny_field e1 e3 (x := .ref t) rfl ?_)
  show wpAny _ _ (if (Value.ref t == Value.none) = true then _ else _) _ _ s
  rw [if_neg (by exact Bool.false_ne_true)]
  show wpAny _ _ (field (.ref it) 1 >>= _) _ _ s
  refine wpAny_bind (wpAny_field e1 e3 (x := .int i 0) rfl ?_)
  show wpAny _ _ (seqItems? (.ref t) >>= _) _ _ s
  refine wpAny_bind (wpAny_seqItems f1 f2 ?_)
  simp only [Int.toNat_natCast, hx]
  refine wpAny_bind (wpAny_rule (wpAny_bind (wpAny_setField e1 e3 (by simp) ?_)))
  show wpAny _ _ (newExc (.type "StopIteration") [] >>= _) _ _ _
  refine wpAny_bind ?_
  simp only [newExc, newTuple]
  refine wpAny_bind (wpAny_newObj_type ?_ (by size_fits))
  refine wpAny_bind (m := firstArgMember _ _) (wpAny_of_eq (a := Value.none) (by first | rfl | (simp only [firstArgMember]; rfl)) ?_)
  refine wpAny_newObj_type ?_ (by size_fits)
  unfold raiseNew
  refine wpAny_bind (wpAny_handled ?_)
  first | rw [show A.in1.handled = none from hh] | rw [hh]
  refine wpAny_bind (wpAny_pure (wpAny_throw (hE _ _ (((Heap.SameBut.update ..).extBut.push _).push _) ⟨_, Heap.get?_push_size _ rfl, rfl⟩)))

theorem walks_enum_tup (hh : A.handled = none) (e it t : Addr) (hei : e ≠ it) (hte : t ≠ e) (hti : t ≠ it) (its : Array Value) :
    WalksT prog w A e [e, it, t] [e, it] its.size (fun i vals => ∃ k x, its[i]? = some x ∧ vals = #[.int i k, x])
      (fun i h => (∃ old, IsEnum h e it i old) ∧ h.IsTupleIter it t i ∧ h.IsTuple t its)
      (fun i T h => (∃ x, IsEnumOut h e it ((i : Int) + 1) x T) ∧ h.IsTupleIter it t (i + 1) ∧ h.IsTuple t its ∧ T ≠ e ∧ T ≠ it) where
  sub := by
    intro b hb
    simp only [List.mem_cons, List.not_mem_nil, or_false] at hb ⊢
    exact hb.imp id Or.inl
  frame := fun i h h' ⟨⟨old, q⟩, a, b⟩ hk => ⟨⟨old, hk e (by simp) _ q⟩, a.at fun o => hk it (by simp) o, b.at fun o => hk t (by simp) o⟩
  item := fun i s Q E hi ⟨⟨old, q⟩, a, b⟩ hQ => by
    have hx : its[i]? = some its[i] := Array.getElem?_eq_getElem hi
    have hT : s.TypeIs (.ref e) "enumerate" := ⟨_, q, rfl⟩
    have l1 : e < s.heap.objs.size := Heap.lt_size q
    have l2 : it < s.heap.objs.size := by obtain ⟨_, y, _⟩ := a; exact Heap.lt_size y
    unfold pyNext
    refine wpAny_bind (wpAny_attempt (wpAny_callSpecial?_slot (name := Str.ofString "__next__") hT F.slot_enumerate_next (wpAny_call_entry F.slot_enumerate_next hT F.entry_enumerate_next
      (enum_turn (P := fun h => h.IsTupleIter it t (i + 1) ∧ h.IsTuple t its) q hei (fun A' s' Q' E' es hq => nextOf_tup (es ▸ a) (es ▸ b) hx fun h' c d => hq h' ⟨c, b.extBut (es ▸ d).extBut hti⟩ (es ▸ d))
        (fun h h' c k => ⟨c.1.at fun o => k it o (Ne.symm hei), c.2.at fun o => k t o hte⟩)
        (fun h' c o n k => wpAny_pure (hQ s.heap.objs.size _ h' (s.toks + 1) ⟨_, _, hx, rfl⟩ (Nat.le_refl _) ⟨_, n, rfl, _, rfl⟩ ⟨⟨_, o⟩, c.1, c.2, Nat.ne_of_gt l1, Nat.ne_of_gt l2⟩ fun b o hb => k b o (fun z => hb (by simp [z])) fun z => hb (by simp [z])))) (F.args_enumerate_next_1 _))))
  go := fun elts k pos i T s Q E ⟨⟨x, o⟩, a, b, n1, n2⟩ hQ => by
    refine wpAny_letOwnedTupleGo_enum o fun h' q d => hQ h' ⟨⟨x, by simpa using q⟩, a.at fun o => (d.extBut it o (Ne.symm hei)), b.at fun o => d.extBut t o hte⟩ fun b o hb => d.extBut b o fun z => hb (by simp [z])
  apart := fun i T h ⟨_, _, _, n1, n2⟩ hT => by
    simp only [List.mem_cons, List.not_mem_nil, or_false] at hT
    exact hT.elim n1 n2
  done := fun s Q E ⟨⟨old, q⟩, a, b⟩ hQ => by
    have hT : s.TypeIs (.ref e) "enumerate" := ⟨_, q, rfl⟩
    unfold pyNext
    refine wpAny_bind (wpAny_attempt (wpAny_callSpecial?_slot (name := Str.ofString "__next__") hT F.slot_enumerate_next (wpAny_call_entry F.slot_enumerate_next hT F.entry_enumerate_next ?_ (F.args_enumerate_next_1 _))))
    show wpAny _ _ (field (.ref e) 2 >>= _) _ _ _
    refine wpAny_bind (wpAny_field q rfl (x := .ref it) rfl (wpAny_bind (nextOf_tup_end hh a b (Array.getElem?_eq_none (Nat.le_refl _)) fun h' x he' hx' => ?_)))
    obtain ⟨o, ho, hc⟩ := hx'
    exact wpAny_bind (wpAny_isInstance (T := "StopIteration") (b := true) ⟨o, ho, hc⟩ isSubtype_stop (wpAny_pure (hQ h' s.toks fun b o hb => he' b o fun z => hb (by simp [z]))))
  self := fun i s Q E ⟨⟨old, q⟩, _, _⟩ hQ => wpAny_pyIter_enum q hQ
end
/- part H3 -/
section
variable {w : World} {A : Around} {env : Env} {s₀ : Shared} {ρ ρ' : Rho} {μ μ' : Mu}
theorem LmE.gd {Ds : List Addr} {s : Shared} (l : LmE w env s₀ Ds ρ μ s) : Gd w s₀.heap := let ⟨_, l⟩ := l; l.gd
theorem srct_enum {x xi xc : Str} {a : Addr} {ts : List PyData} {p px pos p1 p2 pt : Pos} {k d : Nat} (r : Rm d A) (he : EnvOk env) (D : Bts w "enumerate" (.type "enumerate")) (hen : env.kindOf "enumerate" = some .globalImplicit) (hx : env.kindOf x = some .globalImplicit)
    (hn : nsIn (hd.heap_39 w.params) mainGlobals x = some (some (.ref a))) (hdb : (x == ("__debug__" : Str)) = false) (hrep : ∀ h, Gd w h → Rep h (.tuple ts) (.ref a)) (hxi : Stores env xi) (hxc : Stores env xc) (hne : xi ≠ xc)
    (hs : starEach [.Name x px] env = [(false, eval (.Name x px) env)] := by rfl) :
    SrcT w A env s₀ ρ μ (.Call (.Name "enumerate" p) [.Name x px] [] pos) (.Tuple [.Name xi p1, .Name xc p2] k pt) ts.length (fun i => [(xi, .int i), (xc, ts.getD i .none)]) := fun s E Ds Q l hQ => by
  have gd := l.cx.gd
  obtain ⟨a', its, e1, hT0, hr0⟩ := (hrep _ l.gd).tuple_inv
  cases e1
  obtain ⟨n, eT0⟩ := id hT0
  have eT := l.fs.keep _ _ eT0
  have hsz : its.size = ts.length := by have := hr0.length; simpa using this
  refine wpAny_Call_NameR (name_boot he hen D.at_ D.boot D.name D.dbg gd ?_)
  rw [hs]
  refine PySem.callWith_type1 (name_top he hx hn hdb gd ?_)
  refine callType_new F.called_enumerate (by decide) (F.typeCall_enumerate_1 _) (F.newCall_enumerate_1 _) (fun obj => F.args_object_init_2 obj _) F.entry_enumerate_new (meets_enum_tup a its n) ⟨eT, ?_⟩
  have z1 : (s.heap.push { cls := .type "tuple_iterator", data := .fields #[.ref a, .int 0 0] }).objs.size = s.heap.objs.size + 1 := Heap.size_push ..
  show _ ∧ _
  rw [z1]
  have kp : Kp s { s with heap := (s.heap.push { cls := .type "tuple_iterator", data := .fields #[.ref a, .int 0 0] }).push { cls := .type "enumerate", data := .fields #[.none, .bool false, .ref s.heap.objs.size, rawInt 0, .none, .none] } } := (Kp.push' s _).trans (Kp.push' _ _)
  have oe : IsEnum ((s.heap.push { cls := .type "tuple_iterator", data := .fields #[.ref a, .int 0 0] }).push { cls := .type "enumerate", data := .fields #[.none, .bool false, .ref s.heap.objs.size, rawInt 0, .none, .none] }) (s.heap.objs.size + 1) s.heap.objs.size 0 .none := by
    have := Heap.get?_push_size (s.heap.push { cls := .type "tuple_iterator", data := .fields #[.ref a, .int 0 0] }) (o := { cls := .type "enumerate", data := .fields #[.none, .bool false, .ref s.heap.objs.size, rawInt 0, .none, .none] }) rfl
    rw [z1] at this; exact this
  have oi : ((s.heap.push { cls := .type "tuple_iterator", data := .fields #[.ref a, .int 0 0] }).push { cls := .type "enumerate", data := .fields #[.none, .bool false, .ref s.heap.objs.size, rawInt 0, .none, .none] }).IsTupleIter s.heap.objs.size a 0 := ⟨_, Heap.get?_push_of_some _ (Heap.get?_push_size _ rfl), rfl, rfl⟩
  have ot := kp.ext _ _ eT
  generalize (s.heap.push { cls := .type "tuple_iterator", data := .fields #[.ref a, .int 0 0] }).push { cls := .type "enumerate", data := .fields #[.none, .bool false, .ref s.heap.objs.size, rawInt 0, .none, .none] } = H at kp oe oi ot
  have la : a < s.heap.objs.size := Heap.lt_size eT
  refine ⟨⟨_, oe, rfl⟩, ?_⟩
  have l₁ := l.on kp
  have W := walks_enum_tup (prog := PR) (w := w) (A := A) r.hh (s.heap.objs.size + 1) s.heap.objs.size a (Nat.succ_ne_self _) (Nat.ne_of_lt (Nat.lt_succ_of_lt la)) (Nat.ne_of_lt la) its
  have hwr : ∀ b ∈ [s.heap.objs.size + 1, s.heap.objs.size], s.heap.get? b = none := by
    intro b hb
    cases e : s.heap.get? b with
    | none => rfl
    | some o =>
      have := Heap.lt_size e
      simp only [List.mem_cons, List.not_mem_nil, or_false] at hb
      rcases hb with rfl | rfl
      · exact absurd this (Nat.not_lt.mpr (Nat.le_succ _))
      · exact absurd this (Nat.lt_irrefl _)
  have hwO : ∀ b ∈ [s.heap.objs.size + 1, s.heap.objs.size], ¬ Own env b := fun b hbw ho => by
    have hn := hwr b hbw
    rcases ho with rfl | ⟨x, e⟩
    · obtain ⟨m, o, _, _, h1, _⟩ := l.fs.ns; rw [hn] at h1; cases h1
    · obtain ⟨v, o, h1, _⟩ := l.fs.cell x b e; rw [hn] at h1; cases h1
  have hwD : ∀ b ∈ [s.heap.objs.size + 1, s.heap.objs.size], b ∉ Ds := fun b hbw hd => by
    obtain ⟨p, _, vs, ⟨n, e⟩, _⟩ := l.mu.at hd
    rw [hwr b hbw] at e; cases e
  have hw0 : ∀ b ∈ [s.heap.objs.size + 1, s.heap.objs.size], ∀ o, s₀.heap.get? b ≠ some o := fun b hbw o e => by
    have := l.fs.keep b o e
    rw [hwr b hbw] at this; cases this
  have mv : ∀ {ρ : Rho} {μ : Mu} {s₁ s₂ : Shared}, (∀ b ∈ [s.heap.objs.size + 1, s.heap.objs.size], ∃ o xs, s₁.heap.get? b = some o ∧ o.data = .fields xs) → LmE w env s₀ Ds ρ μ s₁ → Same s₁ s₂ → (∀ b o, b ∉ [s.heap.objs.size + 1, s.heap.objs.size] → s₁.heap.get? b = some o → s₂.heap.get? b = some o) → LmE w env s₀ Ds ρ μ s₂ := fun {ρ μ s₁ s₂} hf ⟨hb, l⟩ hs hk =>
    have nf : ∀ b ∈ [s.heap.objs.size + 1, s.heap.objs.size], ∀ o xs n, s₁.heap.get? b = some o → o.data = .seq xs n → False := fun b hbw o xs n e h => by
      obtain ⟨o', ys, h1, h2⟩ := hf b hbw; rw [e] at h1; cases h1; rw [h] at h2; cases h2
    ⟨_, l.blank.move hs fun b o hc e => hk b o (fun hbw => by
      rcases hc with h | h | ⟨xs, n, h⟩ | ⟨o', h⟩ | ⟨o', h⟩
      · exact hwO b hbw h
      · exact hwD b hbw h
      · exact nf b hbw o xs n e h
      · obtain ⟨_, ⟨xs, n, h2⟩, h3⟩ := bl_of h; exact nf b hbw _ xs n h3 h2
      · exact hw0 b hbw _ h) e⟩
  have ff : ∀ {i : Nat} {h : Heap}, ((∃ old, IsEnum h (s.heap.objs.size + 1) s.heap.objs.size i old) ∧ h.IsTupleIter s.heap.objs.size a i ∧ h.IsTuple a its) → ∀ b ∈ [s.heap.objs.size + 1, s.heap.objs.size], ∃ o xs, h.get? b = some o ∧ o.data = .fields xs := by
    rintro i h ⟨⟨old, q⟩, ⟨o, c1, c2, c3⟩, _⟩ b hb
    simp only [List.mem_cons, List.not_mem_nil, or_false] at hb
    rcases hb with rfl | rfl
    · exact ⟨_, _, q, rfl⟩
    · exact ⟨_, _, c1, c3⟩
  have fm : ∀ {i : Nat} {T : Addr} {h : Heap}, ((∃ x, IsEnumOut h (s.heap.objs.size + 1) s.heap.objs.size ((i : Int) + 1) x T) ∧ h.IsTupleIter s.heap.objs.size a (i + 1) ∧ h.IsTuple a its ∧ T ≠ s.heap.objs.size + 1 ∧ T ≠ s.heap.objs.size) → ∀ b ∈ [s.heap.objs.size + 1, s.heap.objs.size], ∃ o xs, h.get? b = some o ∧ o.data = .fields xs := by
    rintro i T h ⟨⟨old, q⟩, ⟨o, c1, c2, c3⟩, _⟩ b hb
    simp only [List.mem_cons, List.not_mem_nil, or_false] at hb
    rcases hb with rfl | rfl
    · exact ⟨_, _, q, rfl⟩
    · exact ⟨_, _, c1, c3⟩
  rw [← hsz] at hQ
  have hfp : ∀ b ∈ [s.heap.objs.size + 1, s.heap.objs.size, a], ¬ Own env b ∧ b ∉ Ds := by
    intro b hb
    rcases List.mem_cons.mp hb with rfl | hb
    · exact ⟨hwO _ (by simp), hwD _ (by simp)⟩
    · rcases List.mem_cons.mp hb with rfl | hb
      · exact ⟨hwO _ (by simp), hwD _ (by simp)⟩
      · rw [List.mem_singleton.mp hb]
        refine ⟨l.fs.own eT rfl, fun h => ?_⟩
        obtain ⟨p, _, vs, ⟨n', e⟩, _⟩ := l.mu.at h
        rw [eT] at e; exact absurd e (by simp)
  refine wpAny_pyIter_enum oe (hQ _ [s.heap.objs.size + 1, s.heap.objs.size, a] [s.heap.objs.size + 1, s.heap.objs.size] _ _ kp ⟨W.sub, W.frame, ?_, ?_⟩ ⟨⟨_, oe⟩, oi, ⟨_, ot, rfl, n, rfl⟩⟩ (fun _ => hfp) hwr)
  · intro i s' ρ μ E Q hi st l' hg hρ hμ hQ'
    refine W.item i s' _ _ hi st fun T vals h' tk hPt hT hTup hMid hk => ⟨.ref T, rfl, W.go _ _ _ i T _ _ _ hMid fun h'' st'' hk'' => ?_⟩
    obtain ⟨k', x', hx', rfl⟩ := hPt
    have l2 : LmE w env s₀ Ds ρ μ { s' with heap := h', toks := tk } := mv (ff st) l' ⟨_, _, rfl⟩ hk
    have l3 : LmE w env s₀ Ds ρ μ { s' with heap := h'', toks := tk } := mv (s₂ := { s' with heap := h'', toks := tk }) (fm hMid) l2 ⟨h'', tk, rfl⟩ hk''
    have hT'' : h''.IsTuple T #[.int i k', x'] := hTup.at fun o e => hk'' T o (W.apart i T h' hMid) e
    obtain ⟨dd, hd1, hd2⟩ := hr0.at (i := i) (v := x') (by simpa using hx')
    have hgd : ts.getD i .none = dd := by rw [List.getD_eq_getElem?_getD, hd1]; rfl
    refine wpAny_assign_Tuple r.hh hT'' rfl rfl fun h₁ he₁ => ?_
    have up₁ : ∀ c o, h''.get? c = some o → h₁.get? c = some o := fun c o e => he₁ c o (Nat.ne_of_lt (Heap.lt_size e)) e
    have k₁ : Kp { s' with heap := h'', toks := tk } { s' with heap := h₁, toks := tk } := ⟨h₁, tk, rfl, up₁⟩
    show wpAny _ _ (assignInOrder [assign (.Name xi p1) env, assign (.Name xc p2) env] [.int i k', x']) _ _ _
    have l4 := l3.on k₁
    refine assignInOrder_cons (wpAny_assign_Name (store_name (t := .int i) he hxi l4.fs (.int _ _) fun s₂ q₂ => ?_))
    have l5 := l4.stoF q₂ (fun p hp e => hμ p hp (by simp [e])) rfl
    obtain ⟨hb5, m5⟩ := l5
    refine assignInOrder_cons (wpAny_assign_Name (store_nameV (t := dd) he hxc m5.fs (hd2.kseq fun b o xs n e _ => m5.fs.keep b o e) fun s₃ q₃ hq₃ => ?_))
    have m6 := m5.sto q₃ (fun p hp e => hμ p hp (by simp [e])) ⟨_, hq₃, hd2.kseq m5.base⟩
    refine assignInOrder_nil (hQ' s₃ ⟨hb5, m6.sub fun p hp => ?_⟩ (W.frame _ _ _ st'' fun b hbf o e => q₃.ch b o (hfp b hbf).1 (q₂.ch b o (hfp b hbf).1 (up₁ b o e))) fun b o n f e => q₃.ch b o n (q₂.ch b o n (up₁ b o (hk'' b o f (hk b o f e)))))
    rw [del_off (x := xi) fun p hp e => hρ p hp (by simp [e])]
    rcases List.mem_cons.mp hp with rfl | hp
    · refine .tail _ (List.mem_filter.mpr ⟨.head _, ?_⟩)
      simpa using hne
    · rcases List.mem_cons.mp hp with rfl | hp
      · rw [hgd]; exact .head _
      · refine .tail _ (List.mem_filter.mpr ⟨.tail _ hp, ?_⟩)
        have := hρ p hp
        simp at this
        simpa using this.2
  · intro s' ρ μ E Q st l' hQ'
    exact W.done s' _ _ st fun h' tk hk => ⟨rfl, hQ' _ (mv (ff st) l' ⟨_, _, rfl⟩ hk) hk⟩
end
/- part H4 -/

noncomputable def tableL : List (List (Int × Str)) := [[(40960, "l"), (49152, "s"), (32768, "-"), (24576, "b"), (16384, "d"), (8192, "c"), (4096, "p")], [(256, "r")], [(128, "w")], [(2112, "s"), (2048, "S"), (64, "x")], [(32, "r")], [(16, "w")], [(1032, "s"), (1024, "S"), (8, "x")], [(4, "r")], [(2, "w")], [(513, "t"), (512, "T"), (1, "x")]]
noncomputable def pairD (p : Int × Str) : PyData := .tuple [.int p.1, .str p.2]
noncomputable def rowD (r : List (Int × Str)) : PyData := .tuple (r.map pairD)
theorem rep_table {w : World} (h : Heap) (G : Gd w h) : Rep h (.tuple (tableL.map rowD)) (.ref 117) := by
  refine .tuple (G.X _ _ (by k_is)) ?_
  repeat' first
    | exact Reps.nil
    | exact Rep.int _ _
    | exact Rep.str _ _
    | refine Reps.cons ?_ ?_
    | refine Rep.tuple (G.X _ _ (by k_is)) ?_

noncomputable def hit (m i : Int) (p : Int × Str) : Bool := if i = 0 then Builtin.bitAnd m 61440 == p.1 else Builtin.bitAnd m p.1 == p.1
noncomputable def cellS (m i : Int) (row : List (Int × Str)) : Str := ((row.find? (hit m i)).map (·.2)).getD (if i = 0 then "?" else "-")
noncomputable def filesL (m : Int) (n : Nat) : List Str := (List.range n).map fun i : Nat => cellS m (i : Int) (tableL.getD i [])
theorem filesL_succ (m : Int) (n : Nat) : filesL m (n + 1) = filesL m n ++ [cellS m n (tableL.getD n [])] := by
  unfold filesL
  rw [List.range_succ, List.map_append]; rfl
theorem cellS_len {m i : Int} {row : List (Int × Str)} (h : ∀ p ∈ row, p.2.length = 1) : (cellS m i row).length = 1 := by
  unfold cellS
  cases hf : row.find? (hit m i) with
  | none =>
    show (if i = 0 then Str.ofString "?" else Str.ofString "-").length = 1
    split <;> decide
  | some p => exact h p (List.mem_of_find?_eq_some hf)
theorem filesL_len (m : Int) {n : Nat} (hn : n ≤ 10) : ∀ x ∈ filesL m n, x.length = 1 := by
  intro x hx
  unfold filesL at hx
  obtain ⟨i, hi, rfl⟩ := List.mem_map.mp hx
  have hi := List.mem_range.mp hi
  have key : ∀ i : Nat, i < 10 → ∀ p ∈ tableL.getD i [], p.2.length = 1 := by decide
  exact cellS_len (key i (by omega))
theorem sum_ones : ∀ l : List Str, (∀ x ∈ l, x.length = 1) → (l.map (·.length)).sum = l.length
  | [], _ => rfl
  | x :: l, h => by
    rw [List.map_cons, List.sum_cons, sum_ones l fun y hy => h y (.tail _ hy), h x (.head _), List.length_cons]
    omega
theorem b_enum (w : World) : Bts w "enumerate" (.type "enumerate") := ⟨by k_is, PyProof.Rows.Boot.«enumerate», by decide, by decide⟩

theorem find_at {α : Type} (q : α → Bool) : ∀ (l : List α) (i : Nat) (x : α), l[i]? = some x → q x = true → (∀ j, j < i → ∀ y, l[j]? = some y → q y = false) → l.find? q = some x
  | y :: l, 0, x, h, hq, _ => by simp at h; subst h; simp [hq]
  | y :: l, i + 1, x, h, hq, hn => by
    have h0 := hn 0 (Nat.succ_pos _) y rfl
    rw [List.find?_cons, h0]
    exact find_at q l i x (by simpa using h) hq fun j hj z hz => hn (j + 1) (Nat.succ_lt_succ hj) z (by simpa using hz)
theorem find_none {α : Type} (q : α → Bool) (l : List α) (hn : ∀ j, j < l.length → ∀ y, l[j]? = some y → q y = false) : l.find? q = none := by
  rw [List.find?_eq_none]
  intro x hx
  obtain ⟨j, hj⟩ := List.mem_iff_getElem?.mp hx
  rw [hn j (List.getElem?_eq_some_iff.mp hj).1 x hj]
  decide

noncomputable def permM (m i : Int) (row : List (Int × Str)) (L : List Str) : Nat → Mu
  | 0 => [("perm", L.map .str)]
  | j + 1 => if hit m i (row.getD j (0, "")) = true then [("perm", (L ++ [(row.getD j (0, "")).2]).map .str)] else [("perm", L.map .str)]
theorem permM_succ (m i : Int) (row : List (Int × Str)) (L : List Str) (j : Nat) : permM m i row L (j + 1) = if hit m i (row.getD j (0, "")) = true then ([(Str.ofString "perm", (L ++ [(row.getD j (0, "")).2]).map PyData.str)] : Mu) else [(Str.ofString "perm", L.map PyData.str)] := rfl
theorem permM_no {m i : Int} {row : List (Int × Str)} {L : List Str} : ∀ (j : Nat), (∀ k, k < j → hit m i (row.getD k (0, "")) = false) → permM m i row L j = ([(Str.ofString "perm", L.map PyData.str)] : Mu)
  | 0, _ => rfl
  | j + 1, h => by
    rw [permM_succ, if_neg (by rw [h j (Nat.lt_succ_self _)]; decide)]
section
variable {w : World} {A : Around} {d : Nat} {m : Int}
theorem fn_filemode (r : Rm (d + 2) A) : Fn w A 124 [.int m] (.str (Txt.join "" (filesL m 10))) := by
  refine' enter (names := [Str.ofString "mode"]) r ?k1 ?k2 ?k3 ?k4 ?k5 ?k6 ?k7 ?k8 ?k9 ?k10 ?k11 ?k12 ?k13 ?k14 ?k15
  (((((case k1 => k_is); (case k2 => k_is); (case k3 => exact rfl); (case k4 => exact rfl); (case k5 => exact rfl); (case k6 => exact rfl); (case k8 => exact rfl); (case k9 => decide); (case k10 => decide); (case k11 => ((repeat (refine List.forall_mem_cons.mpr ⟨?_, ?_⟩; (first | exact .inl rfl | exact .inr ⟨rfl, fun _ => rfl⟩))); exact List.forall_mem_nil _)); (case k12 => exact rfl); (case k13 => exact rfl); (case k14 => exact rfl))); (case k7 => exact fit1 fun _ => rfl)))
  intro s env he hs hc
  have r' := r.deeper env
  refine blkm_of (blkm_new he (stores_local hs rfl) (fun p hp => by cases hp) rfl (blkm_x (x1_for 10 (fun i => [("index", .int i), ("table", (tableL.map rowD).getD i .none)]) (fun i => [("mode", .int m)]) (fun i => [("perm", (filesL m i).map .str)]) (fun _ => false) ?src
    (fun i hi => off_of rfl) (fun i hi => off_of rfl) ?hb (fun i hi h => by cases h) (fun _ => xs_nil)) (blkm_fin (blk_return ?ret))))
  case src => exact srct_enum (a := 117) (ts := tableL.map rowD) r' he (b_enum w) (kind_of hs rfl) (kind_of hs rfl) (by k_is) (by decide) (fun h G => rep_table h G) (stores_local hs rfl) (stores_local hs rfl) (by decide)
  case ret =>
    refine ev_join (ys := filesL m 10) ev_str (ev_name he (by (repeat (first | exact List.Mem.head _ | refine List.Mem.tail _ ?_)))) ?_ rfl rfl
    rw [sum_ones _ (filesL_len m (Nat.le_refl _)), show (filesL m 10).length = 10 from by unfold filesL; rw [List.length_map, List.length_range]]
    decide
  case hb =>
    intro i hi _
    have hrow : (tableL.map rowD).getD i .none = rowD (tableL.getD i []) := by
      have : ∀ i : Nat, i < 10 → (tableL.map rowD).getD i .none = rowD (tableL.getD i []) := by
        intro i hi
        rw [List.getD_eq_getElem?_getD, List.getD_eq_getElem?_getD, List.getElem?_map, List.getElem?_eq_getElem (show i < tableL.length from hi)]; rfl
      exact this i hi
    have hlen : (tableL.getD i []).length ≤ 100 := by
      have : ∀ i : Nat, i < 10 → (tableL.getD i []).length ≤ 100 := by decide
      exact this i hi
    have hpl : (filesL m i).length ≤ 100000 := by unfold filesL; rw [List.length_map, List.length_range]; omega
    show Xs w (A.deeper env) env s [_, (_, (tableL.map rowD).getD i .none), _] [(_, (filesL m i).map .str)] _ false _ [("perm", (filesL m (i + 1)).map .str)]
    rw [filesL_succ, hrow]
    generalize tableL.getD i [] = row at hlen
    generalize filesL m i = L at hpl
    refine xs_last ?_
    refine x1_for row.length (fun j => [("bit", .int (row.getD j (0, "")).1), ("char", .str (row.getD j (0, "")).2)]) (fun j => [("index", .int i), ("table", rowD row), ("mode", .int m)]) (permM m i row L) (fun j => hit m i (row.getD j (0, "")))
      ?src2 (fun j hj => off_of rfl) ?hM ?hb2 ?hbrk ?hels
    case src2 =>
      have hl : (row.map pairD).length = row.length := List.length_map ..
      rw [← hl]
      refine srct_of (ts := row.map pairD) _ (src_tuple r' (ev_name he (by (repeat (first | exact List.Mem.head _ | refine List.Mem.tail _ ?_))))) (fun j t ht => ?g1) ?g2 ?g3
      case g1 =>
        rw [List.getElem?_map] at ht
        obtain ⟨p, hp, rfl⟩ := Option.map_eq_some_iff.mp ht
        have e : row.getD j (0, "") = p := by rw [List.getD_eq_getElem?_getD, hp]; rfl
        rw [e]
        exact tgt_pair r' he (stores_local hs rfl) (stores_local hs rfl) (by decide) rfl rfl
      case g2 =>
        intro t ht
        obtain ⟨p, _, rfl⟩ := List.mem_map.mp ht
        rfl
      case g3 =>
        intro p hp hne e
        rw [List.mem_singleton.mp hp] at e
        cases row with
        | nil => exact hne rfl
        | cons a row =>
          cases L with
          | nil => cases e
          | cons b L => cases e
    case hM =>
      intro j hj
      cases j with
      | zero => exact off_of rfl
      | succ j =>
        show ∀ p ∈ (if hit m i (row.getD j (0, "")) = true then ([(Str.ofString "perm", (L ++ [(row.getD j (0, "")).2]).map PyData.str)] : Mu) else [(Str.ofString "perm", L.map PyData.str)]), p.1 ∉ [Str.ofString "bit", Str.ofString "char"]
        split
        · exact off_of rfl
        · exact off_of rfl
    case hbrk =>
      intro j hj hb hno
      have gk : ∀ k, k < row.length → row[k]? = some (row.getD k (0, "")) := fun k hk => by rw [List.getD_eq_getElem?_getD, List.getElem?_eq_getElem hk]; rfl
      refine ⟨fun q hq => by rw [List.mem_singleton.mp hq]; (repeat (first | exact List.Mem.head _ | refine List.Mem.tail _ ?_)), ?_⟩
      have hc : cellS m i row = (row.getD j (0, "")).2 := by
        unfold cellS
        rw [find_at _ row j _ (gk j hj) hb fun k hk y hy => by rw [gk k (by omega)] at hy; cases hy; exact hno k hk]
        rfl
      rw [permM_succ, if_pos hb, hc]
    case hels =>
      intro hno
      have gk : ∀ k, k < row.length → row[k]? = some (row.getD k (0, "")) := fun k hk => by rw [List.getD_eq_getElem?_getD, List.getElem?_eq_getElem hk]; rfl
      have hc : cellS m i row = if (i : Int) = 0 then Str.ofString "?" else Str.ofString "-" := by
        unfold cellS
        rw [find_none _ row fun k hk y hy => by rw [gk k hk] at hy; cases hy; exact hno k hk]
        rfl
      rw [permM_no _ hno, hc, List.map_append]
      refine xs_sub (xs_last (x1_if (b := (i : Int) == 0) (tst_cmp (ev_name he (by (repeat (first | exact List.Mem.head _ | refine List.Mem.tail _ ?_)))) ev_int cmp_eqI) (fun h => ?p1) (fun h => ?p0))) (ρ' := [(Str.ofString "index", .int i), (Str.ofString "table", rowD row), (Str.ofString "mode", .int m)]) (fun q hq => by rw [List.mem_singleton.mp hq]; (repeat (first | exact List.Mem.head _ | refine List.Mem.tail _ ?_)))
      case p1 =>
        rw [if_pos (eq_of_beq h)]
        exact xs_last (x1_append (i := 0) he rfl ev_str rfl (by rw [List.length_map]; exact hpl) rfl rfl rfl rfl rfl)
      case p0 =>
        rw [if_neg (by simpa using h)]
        exact xs_last (x1_append (i := 0) he rfl ev_str rfl (by rw [List.length_map]; exact hpl) rfl rfl rfl rfl rfl)
    case hb2 =>
      intro j hj hno
      rw [permM_no j hno]
      rw [permM_succ]
      generalize row.getD j (0, "") = p
      refine xs_sub (xs_last (x1_if (b := (i : Int) == 0) (tst_cmp (ev_name he (by (repeat (first | exact List.Mem.head _ | refine List.Mem.tail _ ?_)))) ev_int cmp_eqI) (fun h => ?q1) (fun h => ?q0))) (ρ' := [(Str.ofString "bit", .int p.1), (Str.ofString "char", .str p.2)] ++ [(Str.ofString "index", .int i), (Str.ofString "table", rowD row), (Str.ofString "mode", .int m)]) (fun q hq => List.mem_append_right _ hq)
      case q1 =>
        have hh : hit m i p = (Builtin.bitAnd m 61440 == p.1) := by unfold hit; rw [if_pos (eq_of_beq h)]
        rw [hh]
        refine xs_last (x1_if (b := Builtin.bitAnd m 61440 == p.1) (tst_cmp (ev_call he (d_ifmt w) (kind_of hs rfl) (evl_cons (ev_name he (by (repeat (first | exact List.Mem.head _ | refine List.Mem.tail _ ?_)))) evl_nil) (fn_ifmt r')) (ev_name he (by (repeat (first | exact List.Mem.head _ | refine List.Mem.tail _ ?_)))) cmp_eqI) (fun h2 => ?_) (fun h2 => ?_))
        · rw [h2, if_pos rfl, List.map_append]
          exact xs_cons (x1_append (i := 0) he rfl (ev_name he (by (repeat (first | exact List.Mem.head _ | refine List.Mem.tail _ ?_)))) rfl (by rw [List.length_map]; exact hpl) rfl rfl rfl rfl rfl) (xs_last x1_break)
        · rw [h2, if_neg (by decide)]
          exact xs_nil
      case q0 =>
        have hh : hit m i p = (Builtin.bitAnd m p.1 == p.1) := by unfold hit; rw [if_neg (by simpa using h)]
        rw [hh]
        refine xs_last (x1_if (b := Builtin.bitAnd m p.1 == p.1) (tst_cmp (ev_bin (ev_name he (by (repeat (first | exact List.Mem.head _ | refine List.Mem.tail _ ?_)))) (ev_name he (by (repeat (first | exact List.Mem.head _ | refine List.Mem.tail _ ?_)))) bin_and) (ev_name he (by (repeat (first | exact List.Mem.head _ | refine List.Mem.tail _ ?_)))) cmp_eqI) (fun h2 => ?_) (fun h2 => ?_))
        · rw [h2, if_pos rfl, List.map_append]
          exact xs_cons (x1_append (i := 0) he rfl (ev_name he (by (repeat (first | exact List.Mem.head _ | refine List.Mem.tail _ ?_)))) rfl (by rw [List.length_map]; exact hpl) rfl rfl rfl rfl rfl) (xs_last x1_break)
        · rw [h2, if_neg (by decide)]
          exact xs_nil
end
/- part L5 -/
theorem bit_is {a c : Int} (hc : 0 < c) (ha : a = 0 ∨ a = 1) : (a * c == c) = (a == 1) := by
  rcases ha with rfl | rfl
  · rw [Int.zero_mul]
    have : (0 : Int) ≠ c := by omega
    simp [this]
  · simp
theorem cell_r {m i : Int} (hi : i ≠ 0) {c : Int} (k : Nat) (hk : c = 2 ^ k) (hc : 0 < c) (x : Str) : cellS m i [(c, x)] = if m / c % 2 = 1 then x else "-" := by
  have hh : hit m i (c, x) = (m / c % 2 == 1) := by
    unfold hit
    rw [if_neg hi]
    show (Builtin.bitAnd m c == c) = _
    rw [and_pow m k c hk]
    exact bit_is hc (Int.emod_two_eq _)
  unfold cellS
  rw [List.find?_cons, hh]
  by_cases h : m / c % 2 = 1
  · rw [h, if_pos rfl]; rfl
  · rw [if_neg h, show (m / c % 2 == 1) = false from by simpa using h, List.find?_nil]
    show (if i = 0 then Str.ofString "?" else Str.ofString "-") = _
    rw [if_neg hi]
/- part L6 -/
/-- a row of three: both bits, the high one, the low one -/
theorem cell_x {m i h l : Int} (hi : i ≠ 0) (hl : 0 < l) (hlh : l < h) (j k : Nat) (hj : h = 2 ^ j) (hk : l = 2 ^ k) (x y z : Str) (hb : Builtin.bitAnd m (h + l) = (m / h % 2) * h + (m / l % 2) * l) :
    cellS m i [(h + l, x), (h, y), (l, z)] = if m / h % 2 = 1 then (if m / l % 2 = 1 then x else y) else (if m / l % 2 = 1 then z else "-") := by
  have e1 : hit m i (h + l, x) = ((m / h % 2 == 1) && (m / l % 2 == 1)) := by
    unfold hit
    rw [if_neg hi]
    show (Builtin.bitAnd m (h + l) == h + l) = _
    rw [hb]
    rcases Int.emod_two_eq (m / h) with a | a <;> rcases Int.emod_two_eq (m / l) with b | b <;> rw [a, b]
    · have : (0 : Int) * h + 0 * l ≠ h + l := by omega
      simpa using this
    · have : (0 : Int) * h + 1 * l ≠ h + l := by omega
      simpa using this
    · have : (1 : Int) * h + 0 * l ≠ h + l := by omega
      simpa using this
    · simp
  have e2 : hit m i (h, y) = (m / h % 2 == 1) := by
    unfold hit
    rw [if_neg hi]
    show (Builtin.bitAnd m h == h) = _
    rw [and_pow m j h hj]
    exact bit_is (Int.lt_trans hl hlh) (Int.emod_two_eq _)
  have e3 : hit m i (l, z) = (m / l % 2 == 1) := by
    unfold hit
    rw [if_neg hi]
    show (Builtin.bitAnd m l == l) = _
    rw [and_pow m k l hk]
    exact bit_is hl (Int.emod_two_eq _)
  unfold cellS
  rw [List.find?_cons, e1, List.find?_cons, e2, List.find?_cons, e3, List.find?_nil]
  rcases Int.emod_two_eq (m / h) with a | a <;> rcases Int.emod_two_eq (m / l) with b | b <;> rw [a, b]
  · show (if i = 0 then Str.ofString "?" else Str.ofString "-") = _
    rw [if_neg hi]; rfl
  · rfl
  · rfl
  · rfl
/- part L7 -/
/-- the kind's sign -/
theorem cell_0 {m : Int} (h0 : 0 ≤ m) : cellS m 0 (tableL.getD 0 []) = chAt "?pc?d?b?-?l?s???" (m / 4096 % 16) := by
  have hh : ∀ p : Int × Str, hit m 0 p = (m / 4096 % 16 * 4096 == p.1) := fun p => by
    unfold hit
    rw [if_pos rfl, and_61440]
  have hf : hit m 0 = fun p => (m / 4096 % 16 * 4096 == p.1) := funext hh
  unfold cellS
  rw [hf]
  have key : ∀ k : Nat, k < 16 → (((tableL.getD 0 []).find? fun p => ((k : Int) * 4096 == p.1)).map (·.2)).getD (Str.ofString "?") = chAt "?pc?d?b?-?l?s???" (k : Int) := by decide +kernel
  have := key (m / 4096 % 16).toNat (by omega)
  rw [show (((m / 4096 % 16).toNat : Nat) : Int) = m / 4096 % 16 by omega] at this
  exact this
/- part L8 -/
theorem ch_r {i : Int} (h : i = 0 ∨ i = 1) : chAt "-r" i = if i = 1 then Str.ofString "r" else Str.ofString "-" := by
  rcases h with rfl | rfl <;> decide
theorem ch_w {i : Int} (h : i = 0 ∨ i = 1) : chAt "-w" i = if i = 1 then Str.ofString "w" else Str.ofString "-" := by
  rcases h with rfl | rfl <;> decide
theorem ch_t {a b : Int} (ha : a = 0 ∨ a = 1) (hb : b = 0 ∨ b = 1) : chAt "-xTt" (b + a * 2) = if a = 1 then (if b = 1 then Str.ofString "t" else Str.ofString "T") else (if b = 1 then Str.ofString "x" else Str.ofString "-") := by
  rcases ha with rfl | rfl <;> rcases hb with rfl | rfl <;> decide
theorem ch_s {a b : Int} (ha : a = 0 ∨ a = 1) (hb : b = 0 ∨ b = 1) : chAt "-xSs" (b + a * 2) = if a = 1 then (if b = 1 then Str.ofString "s" else Str.ofString "S") else (if b = 1 then Str.ofString "x" else Str.ofString "-") := by
  rcases ha with rfl | rfl <;> rcases hb with rfl | rfl <;> decide
/- part L9 -/
theorem fig2 (m : Int) : figure m 2 = m / 64 % 8 := rfl
theorem fig1 (m : Int) : figure m 1 = m / 8 % 8 := rfl
theorem fig0 (m : Int) : figure m 0 = m % 8 := by
  show m / 1 % 8 = _
  rw [Int.ediv_one]
theorem fi4 (x : Int) : x % 8 / 4 = x / 4 % 2 := md (p := 4) (q := 2) (by decide)
theorem fi2 (x : Int) : x % 8 / 2 % 2 = x / 2 % 2 := by
  rw [show x % 8 / 2 = x / 2 % 4 from md (p := 2) (q := 4) (by decide), Int.emod_emod_of_dvd _ (by decide)]
theorem fi1 (x : Int) : x % 8 % 2 = x % 2 := Int.emod_emod_of_dvd _ (by decide)
theorem step_s (m : Int) (row : Str) (k : Int) (x h a b c : Int) (hx : figure m k = x % 8) (hp : pick3 (2 - k) = "-xSs") (hh : (2 : Int) ^ (9 + k).toNat = h) (ha : x / 4 = m / a) (hb : x / 2 = m / b) (hc : x = m / c) :
    rowStep m row k = ((row ++ (if m / a % 2 = 1 then Str.ofString "r" else Str.ofString "-")) ++ (if m / b % 2 = 1 then Str.ofString "w" else Str.ofString "-")) ++ (if m / h % 2 = 1 then (if m / c % 2 = 1 then Str.ofString "s" else Str.ofString "S") else (if m / c % 2 = 1 then Str.ofString "x" else Str.ofString "-")) := by
  unfold rowStep
  rw [hx, hp, hh, fi4, fi2, fi1, ha, hb, hc, ch_r (Int.emod_two_eq _), ch_w (Int.emod_two_eq _), ch_s (Int.emod_two_eq _) (Int.emod_two_eq _)]
theorem step_t (m : Int) (row : Str) :
    rowStep m row 0 = ((row ++ (if m / 4 % 2 = 1 then Str.ofString "r" else Str.ofString "-")) ++ (if m / 2 % 2 = 1 then Str.ofString "w" else Str.ofString "-")) ++ (if m / 512 % 2 = 1 then (if m / 1 % 2 = 1 then Str.ofString "t" else Str.ofString "T") else (if m / 1 % 2 = 1 then Str.ofString "x" else Str.ofString "-")) := by
  unfold rowStep
  rw [fig0, show pick3 (2 - 0) = Str.ofString "-xTt" from rfl, show (2 : Int) ^ (9 + 0 : Int).toNat = 512 from rfl, fi4, fi2, fi1, Int.ediv_one, ch_r (Int.emod_two_eq _), ch_w (Int.emod_two_eq _), ch_t (Int.emod_two_eq _) (Int.emod_two_eq _)]
theorem files_is {m : Int} (h0 : 0 ≤ m) : filesL m 10 = [chAt "?pc?d?b?-?l?s???" (m / 4096 % 16), if m / 256 % 2 = 1 then "r" else "-", if m / 128 % 2 = 1 then "w" else "-", if m / 2048 % 2 = 1 then (if m / 64 % 2 = 1 then "s" else "S") else (if m / 64 % 2 = 1 then "x" else "-"), if m / 32 % 2 = 1 then "r" else "-", if m / 16 % 2 = 1 then "w" else "-", if m / 1024 % 2 = 1 then (if m / 8 % 2 = 1 then "s" else "S") else (if m / 8 % 2 = 1 then "x" else "-"), if m / 4 % 2 = 1 then "r" else "-", if m / 2 % 2 = 1 then "w" else "-", if m / 512 % 2 = 1 then (if m / 1 % 2 = 1 then "t" else "T") else (if m / 1 % 2 = 1 then "x" else "-")] := by
  have e : filesL m 10 = [cellS m 0 (tableL.getD 0 []), cellS m 1 [(256, "r")], cellS m 2 [(128, "w")], cellS m 3 [(2048 + 64, "s"), (2048, "S"), (64, "x")], cellS m 4 [(32, "r")], cellS m 5 [(16, "w")], cellS m 6 [(1024 + 8, "s"), (1024, "S"), (8, "x")], cellS m 7 [(4, "r")], cellS m 8 [(2, "w")], cellS m 9 [(512 + 1, "t"), (512, "T"), (1, "x")]] := rfl
  rw [e, cell_0 h0, cell_r (by decide) 8 (by decide) (by decide), cell_r (by decide) 7 (by decide) (by decide), cell_r (by decide) 5 (by decide) (by decide), cell_r (by decide) 4 (by decide) (by decide), cell_r (by decide) 2 (by decide) (by decide), cell_r (by decide) 1 (by decide) (by decide),
    cell_x (by decide) (by decide) (by decide) 11 6 (by decide) (by decide) _ _ _ (and_2112 m), cell_x (by decide) (by decide) (by decide) 10 3 (by decide) (by decide) _ _ _ (and_1032 m), cell_x (by decide) (by decide) (by decide) 9 0 (by decide) (by decide) _ _ _ (by rw [Int.ediv_one, Int.mul_one]; exact and_513 m)]
theorem join_ten (a b c d e f g h i j : Str) : Txt.join "" [a, b, c, d, e, f, g, h, i, j] = (((((((((a ++ b) ++ c) ++ d) ++ e) ++ f) ++ g) ++ h) ++ i) ++ j) := by
  unfold Txt.join
  rw [StrLaws.glued_eq_join]
  apply str_ext
  simp only [Str.join, Str.cps_append, Array.toList_append, List.append_assoc, show (Str.ofString "").cps.toList = [] from rfl, List.nil_append]
theorem files_row {m : Int} (h0 : 0 ≤ m) (h1 : m < 65536) : Txt.join "" (filesL m 10) = rowS m 3 := by
  rw [show rowS m 3 = rowStep m (rowStep m (rowStep m (chAt "?pc?d?b?-?l?s???" (m / 4096)) 2) 1) 0 from rfl, step_t,
    step_s m _ 1 (m / 8) 1024 32 16 8 (fig1 m) rfl rfl (qq m 8 4 32 (by decide) rfl) (qq m 8 2 16 (by decide) rfl) rfl,
    step_s m _ 2 (m / 64) 2048 256 128 64 (fig2 m) rfl rfl (qq m 64 4 256 (by decide) rfl) (qq m 64 2 128 (by decide) rfl) rfl, files_is h0, join_ten, show m / 4096 % 16 = m / 4096 by omega]
/- part L10 -/
theorem files_eighth {mask : Int} (h0 : 0 ≤ mask) (h1 : mask < 4096) : filesL (126976 + mask) 10 = filesL (61440 + mask) 10 := by
  have e : (126976 + mask) % 4096 = (61440 + mask) % 4096 := by omega
  have q : ∀ c k : Int, 0 < c → 4096 = c * (2 * k) → (126976 + mask) / c % 2 = (61440 + mask) / c % 2 := fun c k hc h => by rw [← low hc h, e, low hc h]
  have g : ∀ (c k : Int) (s u : Str), 0 < c → 4096 = c * (2 * k) → (if (126976 + mask) / c % 2 = 1 then s else u) = (if (61440 + mask) / c % 2 = 1 then s else u) := fun c k s u hc h => by rw [q c k hc h]
  have g2 : ∀ (c k a b : Int) (s u v x : Str), 0 < c → 4096 = c * (2 * k) → 0 < a → 4096 = a * (2 * b) → (if (126976 + mask) / c % 2 = 1 then (if (126976 + mask) / a % 2 = 1 then s else u) else (if (126976 + mask) / a % 2 = 1 then v else x)) = (if (61440 + mask) / c % 2 = 1 then (if (61440 + mask) / a % 2 = 1 then s else u) else (if (61440 + mask) / a % 2 = 1 then v else x)) := fun c k a b s u v x hc h ha h' => by rw [q c k hc h, q a b ha h']
  have cc : ∀ {a b : Str} {l r : List Str}, a = b → l = r → a :: l = b :: r := fun h1 h2 => h1 ▸ h2 ▸ rfl
  exact (files_is (Int.add_nonneg (by decide) h0)).trans ((cc (congrArg (chAt "?pc?d?b?-?l?s???") (show (126976 + mask) / 4096 % 16 = (61440 + mask) / 4096 % 16 by omega)) (cc (g 256 8 _ _ (by decide) rfl) (cc (g 128 16 _ _ (by decide) rfl) (cc (g2 2048 1 64 32 _ _ _ _ (by decide) rfl (by decide) rfl)
    (cc (g 32 64 _ _ (by decide) rfl) (cc (g 16 128 _ _ (by decide) rfl) (cc (g2 1024 2 8 256 _ _ _ _ (by decide) rfl (by decide) rfl) (cc (g 4 512 _ _ (by decide) rfl) (cc (g 2 1024 _ _ (by decide) rfl) (cc (g2 512 4 1 2048 _ _ _ _ (by decide) rfl (by decide) rfl) rfl)))))))))).trans (files_is (Int.add_nonneg (by decide) h0)).symm)
/- part K1 -/
/-- the law's own body and names -/
noncomputable def lawD : Option (List Stmt × Scope) := match PR.main.body.getLast? with
  | some (.FunctionDef _ _ b _ _ _ sc _ _ _) => some (b, sc)
  | _ => none
noncomputable def lawB : List Stmt := match lawD with
  | some (b, _) => b
  | none => []
noncomputable def lawS : Scope := match lawD with
  | some (_, s) => s
  | none => default

/-- the law's parts, each by itself -/
abbrev Law (w : World) (A : Around) (ns : List Int) : Prop :=
  ∀ (s : Shared) (env : Env), EnvOk env → env.scope = lawS → env.cells = cellsFrom (env.locals + 1) lawS.names [] → Blk w (A.deeper env) env [("script", .list (ns.map .int))] s lawB (.bool true)
theorem law_of {w : World} {A : Around} {d : Nat} (r : Rm (d + 1) A) {ns : List Int} (h : Law w A ns) : Fn w A 175 [.list (ns.map .int)] (.bool true) := by
  refine' enter (names := [Str.ofString "script"]) r ?k1 ?k2 ?k3 ?k4 ?k5 ?k6 ?k7 ?k8 ?k9 ?k10 ?k11 ?k12 ?k13 ?k14 ?k15
  (((((case k1 => k_is); (case k2 => k_is); (case k3 => exact rfl); (case k4 => exact rfl); (case k5 => exact rfl); (case k6 => exact rfl); (case k8 => exact rfl); (case k9 => decide); (case k10 => decide); (case k11 => ((repeat (refine List.forall_mem_cons.mpr ⟨?_, ?_⟩; (first | exact .inl rfl | exact .inr ⟨rfl, fun _ => rfl⟩))); exact List.forall_mem_nil _)); (case k12 => exact rfl); (case k13 => exact rfl); (case k14 => exact rfl))); (case k7 => exact fit1 fun _ => rfl)))
  intro s env he hs hc
  exact h s env he hs hc
/- part K2 -/
theorem d_lengths (w : World) : Def w "_law_lengths" 138 := ⟨by k_is, by k_is, by decide⟩
theorem d_written (w : World) : Def w "_law_written" 145 := ⟨by k_is, by k_is, by decide⟩
theorem d_date (w : World) : Def w "_law_date" 150 := ⟨by k_is, by k_is, by decide⟩
theorem d_modes (w : World) : Def w "_law_modes" 155 := ⟨by k_is, by k_is, by decide⟩
theorem d_listing (w : World) : Def w "_law_listing" 160 := ⟨by k_is, by k_is, by decide⟩
theorem d_months (w : World) : Def w "_law_months" 165 := ⟨by k_is, by k_is, by decide⟩
theorem d_asked (w : World) : Def w "_law_asked" 170 := ⟨by k_is, by k_is, by decide⟩
theorem d_row (w : World) : Def w "_law_row" 131 := ⟨by k_is, by k_is, by decide⟩
theorem d_filemode (w : World) : Def w "filemode" 124 := ⟨by k_is, by k_is, by decide⟩

noncomputable def zones : List Str := ["-0000", "GMT", "+013015", "est"]
structure Given (y d c m f : Int) (z : Str) : Prop where
  y0 : 1 ≤ y
  y1 : y ≤ 9999
  d0 : 1 ≤ d
  d1 : d ≤ 31
  c0 : 0 ≤ c
  c1 : c < 86400
  m0 : 0 ≤ m
  m1 : m < 4096
  f0 : 0 ≤ f
  f1 : f < 7
  zl : z.length ≤ 7
  zo : PyData.strOk z = true
theorem Given.yy {y d c m f : Int} {z : Str} (G : Given y d c m f z) : 0 ≤ y ∧ y < 10000 := ⟨Int.le_trans (by decide) G.y0, Int.lt_of_le_of_lt G.y1 (by decide)⟩
theorem Given.dd {y d c m f : Int} {z : Str} (G : Given y d c m f z) : 0 ≤ d ∧ d < 32 := ⟨Int.le_trans (by decide) G.d0, Int.lt_of_le_of_lt G.d1 (by decide)⟩
theorem Given.cc {y d c m f : Int} {z : Str} (G : Given y d c m f z) : 0 ≤ c ∧ c < 86400 := ⟨G.c0, G.c1⟩
theorem Given.mm {y d c m f : Int} {z : Str} (G : Given y d c m f z) : 0 ≤ m ∧ m < 4096 := ⟨G.m0, G.m1⟩
theorem Given.zz {y d c m f : Int} {z : Str} (G : Given y d c m f z) : z.length ≤ 1000 := nle G.zl
theorem up1 {x b : Int} (h : 0 ≤ x ∧ x < b) : 1 ≤ x + 1 ∧ x + 1 ≤ b := ⟨Int.add_le_add_right h.1 1, Int.add_one_le_of_lt h.2⟩
theorem nat_in {i n : Nat} (h : i < n) : 0 ≤ (i : Int) ∧ (i : Int) < (n : Int) := ⟨Int.natCast_nonneg i, Int.ofNat_lt.mpr h⟩
theorem tn {x : Int} {n : Nat} (h : 0 ≤ x ∧ x < (n : Int)) : x.toNat < n := (Int.toNat_lt h.1).mpr h.2
abbrev rhoB (y d c m f : Int) (z : Str) : Rho := [("year", .int y), ("day", .int d), ("clock", .int c), ("zone", .str z), ("mask", .int m), ("lengths", .list ((lengths y).map .int)), ("first", .int f)]
theorem zones_len (k : Nat) : (zones.getD k "").length ≤ 7 := by
  match k with
  | 0 => decide
  | 1 => decide
  | 2 => decide
  | 3 => decide
  | k + 4 => exact (by decide : ("" : Str).length ≤ 7)

theorem zones_ok (k : Nat) : PyData.strOk (zones.getD k "") = true := by
  match k with
  | 0 => decide +kernel
  | 1 => decide +kernel
  | 2 => decide +kernel
  | 3 => decide +kernel
  | k + 4 => exact (by decide +kernel : PyData.strOk ("" : Str) = true)
theorem ev_sumpick {w : World} {A : Around} {d : Nat} {env : Env} {ρ : Rho} {value : PySem.Expr} {lo hi st : Option PySem.Expr} {p pos pc pn : Pos} {xs : List Int} {l u t : Option Int} (r : Rm d A) (he : EnvOk env) (hx : env.kindOf "sum" = some .globalImplicit)
    (hv : Evs w A env ρ value (.list (xs.map PyData.int))) (hl : PartIs w A env ρ lo l) (hu : PartIs w A env ρ hi u) (hs : PartIs w A env ρ st t) (h0 : t ≠ some 0) (hz : xs.length ≤ 100000)
    (hsub : ∀ o i, ∃ ops, subscripted (.Slice lo hi st p) false o i = operate ops (getItem o i) := by intro _ _; exact ⟨_, rfl⟩)
    (hse : starEach [PySem.Expr.Subscript value (.Slice lo hi st p) pos] env = [(false, eval (PySem.Expr.Subscript value (.Slice lo hi st p) pos) env)] := by rfl) :
    Evs w A env ρ (.Call (.Name "sum" pn) [.Subscript value (.Slice lo hi st p) pos] [] pc) (.int (pickL xs l u t).sum) := by
  refine ev_bi he (b_sum w) hx (a := .list ((pickL xs l u t).map PyData.int)) ?_ (bi_sum r) hse
  rw [← pick_map]
  exact ev_pick hv hl hu hs h0 (by simpa using hz) hsub

theorem law_1 {w : World} {A : Around} {env : Env} {s₀ : Shared} {d : Nat} (r : Rm (d + 1) A) (he : EnvOk env) (hs : env.scope = lawS) (hc : env.cells = cellsFrom (env.locals + 1) lawS.names []) {ns : List Int} (hn : ns.length ≤ 63)
    (h : ∀ y dd c m f z, Given y dd c m f z → Blk w A env (rhoB y dd c m f z) s₀ (lawB.drop 8) (.bool true)) : Blk w A env [("script", .list (ns.map .int))] s₀ lawB (.bool true) := by
  have hsc : ∀ {ρ : Rho} {p : Pos}, ((Str.ofString "script", PyData.list (ns.map .int)) : Str × PyData) ∈ ρ → Evs w A env ρ (.Name "script" p) (.list (ns.map .int)) := fun h => ev_name he h
  have hz : ns.length ≤ 100000 := nle hn
  have hsum := kind_of (x := "sum") hs rfl
  refine blk_assign he (stores_local hs rfl) (ev_bin (ev_bin (ev_bin ev_int (ev_sumpick (l := none) (u := none) (t := some 4) r he hsum (hsc (by (repeat (first | exact List.Mem.head _ | refine List.Mem.tail _ ?_)))) trivial trivial (show PartIs w A env _ (some _) (some 4) from ev_int) (by decide) hz) bin_add) ev_int (bin_mod (by decide))) ev_int bin_add) rfl ?_
  refine blk_assign he (stores_local hs rfl) (ev_bin (ev_bin (ev_bin ev_int (ev_sumpick (l := some 1) (u := none) (t := some 4) r he hsum (hsc (by (repeat (first | exact List.Mem.head _ | refine List.Mem.tail _ ?_)))) (show PartIs w A env _ (some _) (some 1) from ev_int) trivial (show PartIs w A env _ (some _) (some 4) from ev_int) (by decide) hz) bin_add) ev_int (bin_mod (by decide))) ev_int bin_add) rfl ?_
  refine blk_assign he (stores_local hs rfl) (ev_bin (ev_bin ev_int (ev_sumpick (l := some 2) (u := none) (t := some 4) r he hsum (hsc (by (repeat (first | exact List.Mem.head _ | refine List.Mem.tail _ ?_)))) (show PartIs w A env _ (some _) (some 2) from ev_int) trivial (show PartIs w A env _ (some _) (some 4) from ev_int) (by decide) hz) bin_add) ev_int (bin_mod (by decide))) rfl ?_
  refine blk_assign he (stores_local hs rfl) (ev_item (ev_tuple (show EvsL _ _ _ _ _ (List.map PyData.str zones) from by (repeat (first | exact evl_nil | refine evl_cons ev_int ?_ | refine evl_cons ev_str ?_)))) (ev_bin (ev_sumpick (l := some 3) (u := none) (t := some 4) r he hsum (hsc (by (repeat (first | exact List.Mem.head _ | refine List.Mem.tail _ ?_)))) (show PartIs w A env _ (some _) (some 3) from ev_int) trivial (show PartIs w A env _ (some _) (some 4) from ev_int) (by decide) hz) ev_int (bin_mod (by decide))) (item_tupG (xs := zones) PyData.str "" (Int.emod_nonneg _ (by decide)) (Int.emod_lt_of_pos _ (by decide)))) rfl ?_
  refine blk_assign he (stores_local hs rfl) (ev_bin (ev_bin (ev_sumpick (l := some 3) (u := none) (t := some 4) r he hsum (hsc (by (repeat (first | exact List.Mem.head _ | refine List.Mem.tail _ ?_)))) (show PartIs w A env _ (some _) (some 3) from ev_int) trivial (show PartIs w A env _ (some _) (some 4) from ev_int) (by decide) hz) ev_int (bin_div (by decide) (by decide))) ev_int (bin_mod (by decide))) rfl ?_
  generalize hy : (2025 + (pickL ns none none (some 4)).sum) % 9999 + 1 = y
  generalize hdd : (12 + (pickL ns (some 1) none (some 4)).sum) % 31 + 1 = dd
  generalize hcc : (3723 + (pickL ns (some 2) none (some 4)).sum) % 86400 = cc
  generalize hzz : zones.getD ((pickL ns (some 3) none (some 4)).sum % 4).toNat "" = zz
  generalize hmm : (pickL ns (some 3) none (some 4)).sum / 4 % 4096 = mm
  refine blk_assign he (stores_local hs rfl) (ev_call he (d_lengths w) (kind_of hs rfl) (evl_cons (ev_name he (by (repeat (first | exact List.Mem.head _ | refine List.Mem.tail _ ?_)))) evl_nil) (fn_lengths r y)) rfl ?_
  refine blk_assign he (stores_local hs rfl) (ev_bin (ev_name he (by (repeat (first | exact List.Mem.head _ | refine List.Mem.tail _ ?_)))) ev_int bin_sub) rfl ?_
  refine blk_assign he (stores_local hs rfl) (ev_bin (ev_bin (ev_bin (ev_bin (ev_bin (ev_bin (ev_bin ev_int (ev_name he (by (repeat (first | exact List.Mem.head _ | refine List.Mem.tail _ ?_)))) (bin_mul (by decide))) (ev_bin (ev_name he (by (repeat (first | exact List.Mem.head _ | refine List.Mem.tail _ ?_)))) ev_int (bin_div (by decide) (by decide))) bin_add) (ev_bin (ev_name he (by (repeat (first | exact List.Mem.head _ | refine List.Mem.tail _ ?_)))) ev_int (bin_div (by decide) (by decide))) bin_sub) (ev_bin (ev_name he (by (repeat (first | exact List.Mem.head _ | refine List.Mem.tail _ ?_)))) ev_int (bin_div (by decide) (by decide))) bin_add) (ev_name he (by (repeat (first | exact List.Mem.head _ | refine List.Mem.tail _ ?_)))) bin_add) ev_int bin_sub) ev_int (bin_mod (by decide))) rfl ?_
  refine blk_mono (h y dd cc mm ((365 * (y - 1) + (y - 1) / 4 - (y - 1) / 100 + (y - 1) / 400 + dd - 1) % 7) zz ⟨hy ▸ (up1 (bd _)).1, hy ▸ (up1 (bd _)).2, hdd ▸ (up1 (bd _)).1, hdd ▸ (up1 (bd _)).2, hcc ▸ (bd _).1, hcc ▸ (bd _).2, hmm ▸ (bd _).1, hmm ▸ (bd _).2, (bd _).1, (bd _).2, hzz ▸ zones_len _, hzz ▸ zones_ok _⟩) ?_
  (repeat (first | exact List.forall_mem_nil _ | refine List.forall_mem_cons.mpr ⟨by (repeat (first | exact List.Mem.head _ | refine List.Mem.tail _ ?_)), ?_⟩))
/- part K3 -/
theorem ev_neg {w : World} {A : Around} {env : Env} {ρ : Rho} {e : PySem.Expr} {pos : Pos} {a : Int} (h : Evs w A env ρ e (.int a)) : Evs w A env ρ (.UnaryOp .USub e pos) (.int (-a)) := ⟨fun s E c => by
  refine wpAny_UnaryOp (wpAny_mono (h.go s E c) (fun v s₁ ⟨k₁, r₁⟩ => ?_) fun _ _ x => x)
  obtain ⟨t, rfl⟩ := r₁.int_inv
  exact PyProof.Rows.neg_int ⟨k₁.trans (Kp.tok s₁ _), .int _ _⟩⟩

theorem lengths_len (y : Int) : (lengths y).length = 12 := by unfold lengths; split <;> rfl
/-- a month that has the day; the days ahead of it; its weekday -/
noncomputable def hasM (y d : Int) (m : Nat) : Bool := decide (d ≤ (lengths y).getD m 0)
noncomputable def aheadM (y : Int) (m : Nat) : Int := (pickL (lengths y) none (some (m : Int)) none).sum
noncomputable def wkM (y f : Int) (m : Nat) : Int := (f + aheadM y m) % 7
noncomputable def datesL (y d c f : Int) (z : Str) (n : Nat) : List Str := ((List.range n).filter (hasM y d)).map fun m : Nat => writtenS y m d c (wkM y f m) z
noncomputable def wantedL (y d c f : Int) (z : Str) (n : Nat) : List Str := ((List.range n).filter (hasM y d)).map fun m : Nat => dateS y m d c ((wkM y f m + 1) % 7) z
theorem filt_succ {α : Type} (p : Nat → Bool) (g : Nat → α) (n : Nat) : ((List.range (n + 1)).filter p).map g = ((List.range n).filter p).map g ++ (if p n = true then [g n] else []) := by
  rw [List.range_succ, List.filter_append, List.map_append]
  by_cases h : p n = true
  · rw [if_pos h, List.filter_cons_of_pos h]; rfl
  · rw [if_neg h, List.filter_cons_of_neg h]; rfl
theorem filt_len {α : Type} (p : Nat → Bool) (g : Nat → α) (n : Nat) : (((List.range n).filter p).map g).length ≤ n := by
  rw [List.length_map]
  exact Nat.le_trans (List.length_filter_le _ _) (by rw [List.length_range]; exact Nat.le_refl _)
theorem wk_lo (y f : Int) (m : Nat) : 0 ≤ wkM y f m := Int.emod_nonneg _ (by decide)
theorem wk_hi (y f : Int) (m : Nat) : wkM y f m < 7 := Int.emod_lt_of_pos _ (by decide)

abbrev rhoC (y d c m f : Int) (z : Str) : Rho := (Str.ofString "wanted", .list ((wantedL y d c f z 12).map .str)) :: (Str.ofString "dates", .list ((datesL y d c f z 12).map .str)) :: rhoB y d c m f z
theorem law_2 {w : World} {A : Around} {env : Env} {s₀ : Shared} {e : Nat} (r : Rm (e + 3) A) (he : EnvOk env) (hs : env.scope = lawS) (hc : env.cells = cellsFrom (env.locals + 1) lawS.names []) {y d c m f : Int} {z : Str} (G : Given y d c m f z)
    (h : Blk w A env (rhoC y d c m f z) s₀ (lawB.drop 11) (.bool true)) : Blk w A env (rhoB y d c m f z) s₀ (lawB.drop 8) (.bool true) := by
  have hl := lengths_len y
  refine blkm_of (blkm_new he (stores_local hs rfl) (fun p hp => by cases hp) rfl (blkm_new he (stores_local hs rfl) (ne_of rfl) rfl ?_))
  refine blkm_x (x1_for 12 (fun i => [("month", .int i)]) (fun _ => rhoB y d c m f z) (fun i => [("wanted", (wantedL y d c f z i).map .str), ("dates", (datesL y d c f z i).map .str)]) (fun _ => false) ?src
    (fun i hi => off_of rfl) (fun i hi => off_of rfl) ?hb (fun i hi h => by cases h) (fun _ => xs_nil)) (blkm_fin ?_)
  case src =>
    exact srct_of (ts := (intz 12).map PyData.int) _ (src_rangeI 12 r he (b_range w) (kind_of hs rfl) ev_int (by decide)) (fun i t ht => by rw [rng_get ht]; exact tgt_name he (stores_local hs rfl) rfl) (by decide) (fun p hp h e => by
      simp only [List.mem_cons, List.not_mem_nil, or_false] at hp
      rcases hp with rfl | rfl <;> exact absurd (congrArg List.length e) (show ¬ ((0 : Nat) = 12) by decide))
  case hb =>
    intro i hi _
    show Xs w A env s₀ _ _ _ false _ [("wanted", (wantedL y d c f z (i + 1)).map .str), ("dates", (datesL y d c f z (i + 1)).map .str)]
    have e1 : wantedL y d c f z (i + 1) = wantedL y d c f z i ++ (if hasM y d i = true then [dateS y i d c ((wkM y f i + 1) % 7) z] else []) := filt_succ (hasM y d) (fun m : Nat => dateS y m d c ((wkM y f m + 1) % 7) z) i
    have e2 : datesL y d c f z (i + 1) = datesL y d c f z i ++ (if hasM y d i = true then [writtenS y i d c (wkM y f i) z] else []) := filt_succ (hasM y d) (fun m : Nat => writtenS y m d c (wkM y f m) z) i
    have n1 : (wantedL y d c f z i).length ≤ i := filt_len _ _ _
    have n2 : (datesL y d c f z i).length ≤ i := filt_len _ _ _
    rw [e1, e2]
    refine xs_last (x1_if (b := hasM y d i) (tst_cmp (ev_name he (by (repeat (first | exact List.Mem.head _ | refine List.Mem.tail _ ?_)))) (ev_item (ev_name he (by (repeat (first | exact List.Mem.head _ | refine List.Mem.tail _ ?_)))) (ev_name he (by (repeat (first | exact List.Mem.head _ | refine List.Mem.tail _ ?_)))) (item_lstG PyData.int 0 (nat_in hi).1 (by rw [hl]; exact (nat_in hi).2) (by rw [hl]; decide))) cmp_leI) (fun hb => ?_) (fun hb => ?_))
    · rw [if_pos hb, if_pos hb, List.map_append, List.map_append]
      refine xs_cons (x1_assign he (stores_local hs rfl) (ev_sumpick (l := none) (u := some i) (t := none) r he (kind_of hs rfl) (ev_name he (by (repeat (first | exact List.Mem.head _ | refine List.Mem.tail _ ?_)))) trivial (show PartIs w A env _ (some _) (some (i : Int)) from ev_name he (by (repeat (first | exact List.Mem.head _ | refine List.Mem.tail _ ?_)))) trivial (by decide) (by rw [hl]; decide)) rfl (ne_of rfl) rfl) ?_
      refine xs_cons (x1_assign (t := .int (wkM y f i)) he (stores_local hs rfl) (ev_bin (ev_bin (ev_name he (by (repeat (first | exact List.Mem.head _ | refine List.Mem.tail _ ?_)))) (ev_name he (by (repeat (first | exact List.Mem.head _ | refine List.Mem.tail _ ?_)))) bin_add) ev_int (bin_mod (by decide))) rfl (ne_of rfl) rfl) ?_
      refine xs_cons (x1_append (i := 1) he rfl (ev_call he (d_written w) (kind_of hs rfl) (evl_cons (ev_name he (by (repeat (first | exact List.Mem.head _ | refine List.Mem.tail _ ?_)))) (evl_cons (ev_name he (by (repeat (first | exact List.Mem.head _ | refine List.Mem.tail _ ?_)))) (evl_cons (ev_name he (by (repeat (first | exact List.Mem.head _ | refine List.Mem.tail _ ?_)))) (evl_cons (ev_name he (by (repeat (first | exact List.Mem.head _ | refine List.Mem.tail _ ?_)))) (evl_cons (ev_name he (by (repeat (first | exact List.Mem.head _ | refine List.Mem.tail _ ?_)))) (evl_cons (ev_tuple (evl_cons (ev_bin (ev_name he (by (repeat (first | exact List.Mem.head _ | refine List.Mem.tail _ ?_)))) (ev_name he (by (repeat (first | exact List.Mem.head _ | refine List.Mem.tail _ ?_)))) bin_add) (evl_cons (ev_neg ev_int) evl_nil)) (by (first | decide | (simp only [List.length_cons, List.length_nil, List.length_map, List.length_append]; omega)))) (evl_cons (ev_name he (by (repeat (first | exact List.Mem.head _ | refine List.Mem.tail _ ?_)))) evl_nil)))))))
        (fn_written (d := e + 1) r G.yy (nat_in hi) G.dd G.cc ⟨wk_lo _ _ _, wk_hi _ _ _⟩ G.zz (by (first | decide | (simp only [List.length_cons, List.length_nil, List.length_map, List.length_append]; omega))))) rfl (by rw [List.length_map]; exact nle (Nat.le_trans n2 (Nat.le_of_lt hi))) rfl rfl rfl rfl rfl) ?_
      refine xs_sub (xs_last (x1_append (i := 0) he rfl (ev_call he (d_date w) (kind_of hs rfl) (evl_cons (ev_name he (by (repeat (first | exact List.Mem.head _ | refine List.Mem.tail _ ?_)))) (evl_cons (ev_name he (by (repeat (first | exact List.Mem.head _ | refine List.Mem.tail _ ?_)))) (evl_cons (ev_name he (by (repeat (first | exact List.Mem.head _ | refine List.Mem.tail _ ?_)))) (evl_cons (ev_name he (by (repeat (first | exact List.Mem.head _ | refine List.Mem.tail _ ?_)))) (evl_cons (ev_bin (ev_bin (ev_name he (by (repeat (first | exact List.Mem.head _ | refine List.Mem.tail _ ?_)))) ev_int bin_add) ev_int (bin_mod (by decide))) (evl_cons (ev_name he (by (repeat (first | exact List.Mem.head _ | refine List.Mem.tail _ ?_)))) evl_nil))))))
        (fn_date (d := e + 2) r G.yy (nat_in hi) G.dd G.cc (bd _) G.zz)) rfl (by rw [List.length_map]; exact nle (Nat.le_trans n1 (Nat.le_of_lt hi))) rfl rfl rfl rfl rfl)) ?h5
      (repeat (first | exact List.forall_mem_nil _ | refine List.forall_mem_cons.mpr ⟨by (repeat (first | exact List.Mem.head _ | refine List.Mem.tail _ ?_)), ?_⟩))
    · rw [hb, if_neg (by decide), if_neg (by decide), List.append_nil, List.append_nil]
      exact xs_sub xs_nil fun p hp => List.mem_append_right _ hp
  exact h
/- part K4 -/
theorem flat_can {d : PyData} (h : flat d = true) : d.depth = 0 := by
  cases d with
  | list => cases h
  | tuple => cases h
  | dict => cases h
  | _ => simp [PyData.depth]
theorem flats_can : ∀ {ds : List PyData}, (∀ d ∈ ds, flat d = true) → PyData.depthAll ds = 0
  | [], _ => rfl
  | d :: ds, h => by
    have h1 := flat_can (h d (.head _))
    have h2 := flats_can (ds := ds) fun x hx => h x (.tail _ hx)
    simp [PyData.depthAll, h1, h2]
theorem fl2_can {d : PyData} (h : fl2 d = true) : d.depth ≤ 1 := by
  cases d with
  | tuple xs =>
    have hq : ∀ d ∈ xs, flat d = true := List.all_eq_true.mp h
    have := flats_can hq
    simp [PyData.depth, this]
  | list xs => cases h
  | dict xs => cases h
  | _ => simp [PyData.depth]
/-- what a comparison takes -/
noncomputable def can2 (d : PyData) : Bool := fl2 d && d.canLay0
theorem fl2s_can : ∀ {ds : List PyData}, (∀ d ∈ ds, can2 d = true) → PyData.canLayAll0 ds = true ∧ PyData.depthAll ds ≤ 1
  | [], _ => ⟨rfl, Nat.zero_le _⟩
  | d :: ds, h => by
    have h0 := h d (.head _)
    unfold can2 at h0
    rw [Bool.and_eq_true] at h0
    have h1 := fl2_can h0.1
    have h2 := fl2s_can (ds := ds) fun x hx => h x (.tail _ hx)
    refine ⟨by simp [PyData.canLayAll0, h0.2, h2.1], ?_⟩
    simp only [PyData.depthAll]
    omega
theorem shaped_fl2 {ds : List PyData} (h : ∀ d ∈ ds, can2 d = true) : SeqAt.shaped (.list ds) = true := by
  have := fl2s_can h
  unfold SeqAt.shaped
  rw [Bool.and_eq_true, decide_eq_true_eq]
  refine ⟨by simp [PyData.canLay0, this.1], ?_⟩
  simp only [PyData.depth]
  omega
section
variable {w : World} {A : Around} {d : Nat}
theorem ne_same (r : Rm d A) {xs ys : List PyData} (h : ∀ x ∈ xs, can2 x = true) (e : xs = ys) : CmpSem w A .NotEq (.list xs) (.list ys) false := by
  subst e
  have hs := shaped_fl2 h
  have := cmp_ne (w := w) r hs hs
  rw [SeqAt.eqv_refl _ (SeqAt.canLay_of_shaped hs)] at this
  exact this
theorem eq_same (r : Rm d A) {xs ys : List PyData} (h : ∀ x ∈ xs, can2 x = true) (e : xs = ys) : CmpSem w A .Eq (.list xs) (.list ys) true := by
  subst e
  have hs := shaped_fl2 h
  have := cmp_eq (w := w) r hs hs
  rw [SeqAt.eqv_refl _ (SeqAt.canLay_of_shaped hs)] at this
  exact this
end
theorem can_int (ns : List Int) : ∀ x ∈ ns.map PyData.int, can2 x = true := by
  intro x hx
  obtain ⟨n, _, rfl⟩ := List.mem_map.mp hx; rfl
theorem can_str {ns : List Str} (h : ∀ s ∈ ns, PyData.strOk s = true) : ∀ x ∈ ns.map PyData.str, can2 x = true := by
  intro x hx
  obtain ⟨n, hn, rfl⟩ := List.mem_map.mp hx
  exact h n hn

/-- texts by their signs -/
theorem ok_iff {x : Str} : PyData.strOk x = true ↔ ∀ c ∈ x.cps.toList, c < 0x110000 := by
  unfold PyData.strOk
  rw [← Array.all_toList, List.all_eq_true]
  exact ⟨fun h c hc => of_decide_eq_true (h c hc), fun h c hc => decide_eq_true (h c hc)⟩
theorem ok_slice {x : Str} (l u : Option Int) (h : PyData.strOk x = true) : PyData.strOk (Txt.slice x l u) = true := by
  unfold Txt.slice
  split
  · exact h
  · rw [ok_iff] at h ⊢
    intro c hc
    simp only [List.toList_toArray, List.mem_filterMap] at hc
    obtain ⟨i, _, hi⟩ := hc
    exact h c (by have := Array.mem_of_getElem? hi; simpa using this)
theorem slice_none (x : Str) (u : Option Int) : Txt.slice x none u = Txt.slice x (some ((0 : Nat) : Int)) u := by
  have e : ∀ n, Builtin.Str.strSliceIndices none u 1 n = Builtin.Str.strSliceIndices (some ((0 : Nat) : Int)) u 1 n := fun n => by
    unfold Builtin.Str.strSliceIndices
    simp
    rw [show min (0 : Int) (n : Int) = 0 by omega]
    rfl
  unfold Txt.slice
  rw [e]
/- part K5 -/
/-- a date, sign by sign -/
noncomputable def tailS (y m d c : Int) (z : Str) : List Nat := [44, 32] ++ ((figs (100 + d)).cps.toList ++ ([32] ++ ((moonNames.getD m.toNat "").cps.toList ++ ([32] ++ ((figs (10000 + y)).cps.toList ++ ([32] ++ ((Txt.join ":" (pickL [figs (100 + d), figs (100 + c / 3600), figs (100 + c / 60 % 60), figs (100 + c % 60)] (some 1) none none)).cps.toList ++ ([32] ++ z.cps.toList))))))))
theorem date_cps {y m d c wd : Int} {z : Str} (hm : 0 ≤ m ∧ m < 12) (hw : 0 ≤ wd ∧ wd < 7) : (dateS y m d c wd z).cps.toList = (dayNames.getD wd.toNat "").cps.toList ++ tailS y m d c z := by
  unfold dateS tailS
  rw [day_text hw.1 hw.2, moon_text hm.1 hm.2]
  generalize (Txt.join ":" (pickL [figs (100 + d), figs (100 + c / 3600), figs (100 + c / 60 % 60), figs (100 + c % 60)] (some 1) none none)) = q
  unfold Txt.join
  rw [StrLaws.glued_eq_join]
  simp only [Str.join, Str.cps_append, Array.toList_append, List.append_assoc]
  rfl
theorem day_len {k : Nat} (h : k < 7) : (dayNames.getD k "").cps.toList.length = 3 := by
  have key : ∀ i : Nat, i < 7 → (dayNames.getD i "").cps.toList.length = 3 := by decide +kernel
  exact key k h
theorem moon_len {k : Nat} (h : k < 12) : (moonNames.getD k "").cps.toList.length = 3 := by
  have key : ∀ i : Nat, i < 12 → (moonNames.getD i "").cps.toList.length = 3 := by decide +kernel
  exact key k h
theorem dc_ok (k : Nat) : dc k < 0x110000 := by
  have := (Nat.digitChar k).valid
  unfold dc Char.toNat
  rcases this with h | h <;> omega
theorem figs2I {n : Int} (h0 : 0 ≤ n) (h1 : n < 100) : ∃ a b : Nat, figs (100 + n) = ⟨#[a, b]⟩ ∧ a < 0x110000 ∧ b < 0x110000 := by
  obtain ⟨m, rfl⟩ := Int.eq_ofNat_of_zero_le h0
  exact ⟨_, _, figs_gen (k := 2) (Int.ofNat_lt.mp h1), dc_ok _, dc_ok _⟩
theorem figs4I {n : Int} (h0 : 0 ≤ n) (h1 : n < 10000) : ∃ a b c d : Nat, figs (10000 + n) = ⟨#[a, b, c, d]⟩ ∧ a < 0x110000 ∧ b < 0x110000 ∧ c < 0x110000 ∧ d < 0x110000 := by
  obtain ⟨m, rfl⟩ := Int.eq_ofNat_of_zero_le h0
  exact ⟨_, _, _, _, figs_gen (k := 4) (Int.ofNat_lt.mp h1), dc_ok _, dc_ok _, dc_ok _, dc_ok _⟩
section
variable {y m d c wd : Int} {z : Str}
theorem tail_is (hm : 0 ≤ m ∧ m < 12) (hd : 0 ≤ d ∧ d < 100) : ∃ a b r, tailS y m d c z = [44, 32, a, b, 32] ++ ((moonNames.getD m.toNat "").cps.toList ++ r) := by
  obtain ⟨a, b, e, _⟩ := figs2I hd.1 hd.2
  unfold tailS
  rw [e]
  exact ⟨a, b, _, rfl⟩
theorem date_len (hm : 0 ≤ m ∧ m < 12) (hw : 0 ≤ wd ∧ wd < 7) : (dateS y m d c wd z).length = 3 + (tailS y m d c z).length := by
  have := congrArg List.length (date_cps (y := y) (d := d) (c := c) (z := z) hm hw)
  rw [List.length_append, day_len (tn hw)] at this
  simpa [Str.length] using this
theorem date_day (hm : 0 ≤ m ∧ m < 12) (hw : 0 ≤ wd ∧ wd < 7) : Txt.slice (dateS y m d c wd z) none (some 3) = dayNames.getD wd.toNat "" := by
  apply str_ext
  rw [slice_none, show (some (3 : Int)) = some ((3 : Nat) : Int) from rfl, slice_cps (by decide) (by rw [date_len hm hw]; exact Nat.le_add_right _ _), date_cps hm hw, List.drop_zero]
  rw [List.take_append_of_le_length (by rw [day_len (tn hw)]; decide), List.take_of_length_le (by rw [day_len (tn hw)]; decide)]
theorem date_tail (hm : 0 ≤ m ∧ m < 12) (hw : 0 ≤ wd ∧ wd < 7) : Txt.slice (dateS y m d c wd z) (some 3) none = ⟨(tailS y m d c z).toArray⟩ := by
  apply str_ext
  rw [slice_end, show (some (3 : Int)) = some ((3 : Nat) : Int) from rfl, slice_cps (by rw [date_len hm hw]; exact Nat.le_add_right _ _) (Nat.le_refl _), date_cps hm hw, List.drop_append_of_le_length (by rw [day_len (tn hw)]; decide)]
  rw [List.drop_of_length_le (by rw [day_len (tn hw)]; decide), List.nil_append, List.take_of_length_le (by rw [date_len hm hw]; exact Nat.le_of_eq (Nat.add_sub_cancel_left _ _).symm)]
theorem date_moon (hm : 0 ≤ m ∧ m < 12) (hw : 0 ≤ wd ∧ wd < 7) (hd : 0 ≤ d ∧ d < 100) : Txt.slice (dateS y m d c wd z) (some 8) (some 11) = moonNames.getD m.toNat "" := by
  apply str_ext
  obtain ⟨a, b, r, e⟩ := tail_is (y := y) (c := c) (z := z) hm hd
  have hl := moon_len (k := m.toNat) (tn hm)
  have hl2 := date_len (y := y) (d := d) (c := c) (z := z) hm hw
  rw [e, List.length_append, List.length_append, hl] at hl2
  rw [show (some (8 : Int)) = some ((8 : Nat) : Int) from rfl, show (some (11 : Int)) = some ((11 : Nat) : Int) from rfl, slice_cps (by decide) (by rw [hl2]; simp; omega), date_cps hm hw, e]
  have hdn := day_len (k := wd.toNat) (tn hw)
  match hq : (dayNames.getD wd.toNat "").cps.toList, hdn with
  | [p, q, s], _ =>
    show List.take 3 ((moonNames.getD m.toNat "").cps.toList ++ r) = _
    rw [List.take_append_of_le_length (by rw [hl]; decide), List.take_of_length_le (by rw [hl]; decide)]
theorem join_ok {sep : Str} {ys : List Str} (hs : PyData.strOk sep = true) (h : ∀ x ∈ ys, PyData.strOk x = true) : PyData.strOk (Txt.join sep ys) = true := by
  unfold Txt.join
  rw [StrLaws.glued_eq_join, ok_iff]
  rw [ok_iff] at hs
  induction ys with
  | nil => intro c hc; simp [Str.join, Str.empty] at hc
  | cons x ys ih =>
    have hx := ok_iff.mp (h x (.head _))
    cases ys with
    | nil => exact hx
    | cons y ys =>
      intro c hc
      simp only [Str.join, Str.cps_append, Array.toList_append, List.mem_append] at hc
      rcases hc with (hc | hc) | hc
      · exact hx c hc
      · exact hs c hc
      · exact ih (fun z hz => h z (.tail _ hz)) c hc
theorem figs_ok2 {n : Int} (h : 0 ≤ n ∧ n < 100) : PyData.strOk (figs (100 + n)) = true ∧ (figs (100 + n)).length = 2 := by
  obtain ⟨a, b, e, h2, h3⟩ := figs2I h.1 h.2
  rw [e]
  refine ⟨ok_iff.mpr fun c hc => ?_, rfl⟩
  simp at hc
  rcases hc with rfl | rfl <;> assumption
theorem figs_ok4 {n : Int} (h : 0 ≤ n ∧ n < 10000) : PyData.strOk (figs (10000 + n)) = true ∧ (figs (10000 + n)).length = 4 := by
  obtain ⟨a, b, c, d, e, h2, h3, h4, h5⟩ := figs4I h.1 h.2
  rw [e]
  refine ⟨ok_iff.mpr fun c hc => ?_, rfl⟩
  simp at hc
  rcases hc with rfl | rfl | rfl | rfl <;> assumption
theorem app_ok {a b : Str} (ha : PyData.strOk a = true) (hb : PyData.strOk b = true) : PyData.strOk (a ++ b) = true := by
  rw [ok_iff] at ha hb ⊢
  intro c hc
  rw [Str.cps_append, Array.toList_append] at hc
  rcases List.mem_append.mp hc with hc | hc
  · exact ha c hc
  · exact hb c hc
theorem date_ok (hy : 0 ≤ y ∧ y < 10000) (hd : 0 ≤ d ∧ d < 32) (hc : 0 ≤ c ∧ c < 86400) (hz : PyData.strOk z = true) : PyData.strOk (dateS y m d c wd z) = true := by
  obtain ⟨k1, k2, k3⟩ := clk c hc
  have f1 := (figs_ok2 (wid hd)).1
  have f2 := (figs_ok2 (wid k1)).1
  have f3 := (figs_ok2 (wid k2)).1
  have f4 := (figs_ok2 (wid k3)).1
  have f5 := (figs_ok4 hy).1
  unfold dateS
  rw [pick_tail4]
  refine join_ok (by decide +kernel) fun x hx => ?_
  simp only [List.mem_cons, List.not_mem_nil, or_false] at hx
  rcases hx with rfl | rfl | rfl | rfl | rfl
  · exact app_ok (app_ok (ok_slice _ _ (by decide +kernel)) (by decide +kernel)) f1
  · exact ok_slice _ _ (by decide +kernel)
  · exact f5
  · refine join_ok (by decide +kernel) fun x hx => ?_
    simp only [List.mem_cons, List.not_mem_nil, or_false] at hx
    rcases hx with rfl | rfl | rfl <;> assumption
  · exact hz
theorem date_short (hy : 0 ≤ y ∧ y < 10000) (hm : 0 ≤ m ∧ m < 12) (hw : 0 ≤ wd ∧ wd < 7) (hd : 0 ≤ d ∧ d < 32) (hc : 0 ≤ c ∧ c < 86400) (hz : z.length ≤ 7) : (dateS y m d c wd z).length ≤ 1000 := by
  obtain ⟨k1, k2, k3⟩ := clk c hc
  have f1 := (figs_ok2 (wid hd)).2
  have f2 := (figs_ok2 (wid k1)).2
  have f3 := (figs_ok2 (wid k2)).2
  have f4 := (figs_ok2 (wid k3)).2
  have f5 := (figs_ok4 hy).2
  have hl := moon_len (k := m.toNat) (tn hm)
  have hj : (Txt.join ":" [figs (100 + c / 3600), figs (100 + c / 60 % 60), figs (100 + c % 60)]).length ≤ 100 := by
    show (Builtin.Str.glued _ _).length ≤ _
    rw [StrLaws.glued_eq_join]
    refine Nat.le_trans (StrLaws.join_length_le _ _) ?_
    simp only [List.map_cons, List.map_nil, List.sum_cons, List.sum_nil, List.length_cons, List.length_nil, f2, f3, f4, show (":" : Str).length = 1 from by decide]
    omega
  rw [date_len hm hw]
  unfold tailS
  rw [pick_tail4]
  simp only [List.length_append, List.length_cons, List.length_nil, hl]
  simp only [Str.length, ← Array.length_toList] at f1 f5 hz hj
  omega
end
/- part K6 -/
theorem dates_eq {y d c m f : Int} {z : Str} (G : Given y d c m f z) : datesL y d c f z 12 = ((List.range 12).filter (hasM y d)).map fun i : Nat => dateS y i d c (wkM y f i) z := by
  unfold datesL
  refine List.map_congr_left fun i hi => ?_
  have hi2 := List.mem_range.mp (List.mem_filter.mp hi).1
  exact written_eq G.yy (nat_in hi2) G.dd G.cc ⟨wk_lo _ _ _, wk_hi _ _ _⟩
theorem date_mem {y d c m f : Int} {z : Str} (G : Given y d c m f z) {t : Str} (h : t ∈ datesL y d c f z 12) : ∃ i : Nat, i < 12 ∧ hasM y d i = true ∧ t = dateS y i d c (wkM y f i) z := by
  rw [dates_eq G] at h
  obtain ⟨i, hi, rfl⟩ := List.mem_map.mp h
  obtain ⟨h1, h2⟩ := List.mem_filter.mp hi
  exact ⟨i, List.mem_range.mp h1, h2, rfl⟩
theorem want_mem {y d c m f : Int} {z : Str} (G : Given y d c m f z) {t : Str} (h : t ∈ wantedL y d c f z 12) : ∃ i : Nat, i < 12 ∧ t = dateS y i d c ((wkM y f i + 1) % 7) z := by
  obtain ⟨i, hi, rfl⟩ := List.mem_map.mp h
  obtain ⟨h1, h2⟩ := List.mem_filter.mp hi
  exact ⟨i, List.mem_range.mp h1, rfl⟩
theorem same_tails {y d c m f : Int} {z : Str} (G : Given y d c m f z) : (datesL y d c f z 12).map (fun t => PyData.str (Txt.slice t (some 3) none)) = (wantedL y d c f z 12).map (fun t => PyData.str (Txt.slice t (some 3) none)) := by
  rw [dates_eq G]
  unfold wantedL
  rw [List.map_map, List.map_map]
  refine List.map_congr_left fun i hi => ?_
  have hi2 := List.mem_range.mp (List.mem_filter.mp hi).1
  show PyData.str (Txt.slice (dateS y i d c _ z) (some 3) none) = PyData.str (Txt.slice (dateS y i d c _ z) (some 3) none)
  rw [date_tail (nat_in hi2) ⟨wk_lo _ _ _, wk_hi _ _ _⟩, date_tail (nat_in hi2) (bd _)]
theorem filt_true {α β : Type} (xs : List α) (F : α → β) : ((xs.filter fun _ => true).map F) = xs.map F := by
  rw [List.filter_eq_self.mpr fun _ _ => rfl]
theorem row_ok {n : Int} (h0 : 0 ≤ n) (h1 : n < 65536) : PyData.strOk (rowS n 3) = true := by
  have hc : ∀ {x : Str} {i : Int}, PyData.strOk x = true → PyData.strOk (chAt x i) = true := fun {x i} h => by
    rw [ok_iff] at h ⊢
    intro c hc
    have : c = x.cps.toList.getD i.toNat 0 := by simpa [chAt] using hc
    subst this
    rw [List.getD_eq_getElem?_getD]
    cases q : x.cps.toList[i.toNat]? with
    | none => decide
    | some v => exact h v (List.mem_of_getElem? q)
  have hp : ∀ k : Int, PyData.strOk (pick3 k) = true := fun k => by
    unfold pick3
    split <;> decide +kernel
  have step : ∀ j, PyData.strOk (rowS n j) = true := fun j => by
    induction j with
    | zero => exact hc (by decide +kernel)
    | succ j ih =>
      show PyData.strOk (rowStep n (rowS n j) _) = true
      unfold rowStep
      exact app_ok (app_ok (app_ok ih (hc (by decide +kernel))) (hc (by decide +kernel))) (hc (hp _))
  exact step 3

theorem asked_is (n : Int) : asked n = kinds7.map fun c => twoB (n / 4096 % 16 * 4096 == c) := by
  unfold asked isK
  rw [and_61440]
theorem eighth_hi {m : Int} (h0 : 0 ≤ m) (h1 : m < 4096) : (126976 + m) / 4096 % 16 * 4096 = 61440 := by omega
theorem asked_eighth {m : Int} (h0 : 0 ≤ m) (h1 : m < 4096) : asked (126976 + m) = (List.replicate (Int.toNat 7) [PyData.tuple [.bool false, .bool true]]).flatten := by
  rw [asked_is, eighth_hi h0 h1]
  rfl

theorem law_3 {w : World} {A : Around} {env : Env} {s₀ : Shared} {e : Nat} (r : Rm (e + 3) A) (he : EnvOk env) (hs : env.scope = lawS) (hc : env.cells = cellsFrom (env.locals + 1) lawS.names []) {y d c m f : Int} {z : Str} (G : Given y d c m f z)
    (hM : modesL (datesL y d c f z 12) m 7 = listing (lengths y) d f m) (hN : ∀ n ∈ listing (lengths y) d f m, 0 ≤ n ∧ n < 65536)
    (h : ∀ ρ : Rho, (∀ p ∈ ((Str.ofString "rows", PyData.list (((listing (lengths y) d f m).map fun n => rowS n 3).map .str)) :: (Str.ofString "modes", PyData.list ((listing (lengths y) d f m).map .int)) :: (Str.ofString "wanted", PyData.list ((wantedL y d c f z 12).map .str)) :: rhoB y d c m f z : Rho), p ∈ ρ) →
      Blk w A env ρ s₀ (lawB.drop 20) (.bool true)) : Blk w A env (rhoC y d c m f z) s₀ (lawB.drop 11) (.bool true) := by
  have hdl : (datesL y d c f z 12).length ≤ 100 := Nat.le_trans (filt_len _ _ _) (by decide)
  have hwl : (wantedL y d c f z 12).length ≤ 100 := Nat.le_trans (filt_len _ _ _) (by decide)
  have gy := G.yy
  have gd := G.dd
  have hds : ∀ t ∈ datesL y d c f z 12, t.length ≤ 1000 := fun t ht => by
    obtain ⟨i, hi, _, rfl⟩ := date_mem G ht
    exact date_short gy (nat_in hi) ⟨wk_lo _ _ _, wk_hi _ _ _⟩ gd G.cc G.zl
  have hws : ∀ t ∈ wantedL y d c f z 12, t.length ≤ 1000 := fun t ht => by
    obtain ⟨i, hi, rfl⟩ := want_mem G ht
    exact date_short gy (nat_in hi) (bd _) gd G.cc G.zl
  have hll : (listing (lengths y) d f m).length = 7 := by unfold listing; rw [List.length_map]; rfl
  refine blk_assign he (stores_local hs rfl) (ev_call he (d_modes w) (kind_of hs rfl) (evl_cons (ev_name he (by (repeat (first | exact List.Mem.head _ | refine List.Mem.tail _ ?_)))) (evl_cons (ev_name he (by (repeat (first | exact List.Mem.head _ | refine List.Mem.tail _ ?_)))) evl_nil)) (fn_modes (d := e + 2) r hdl hds ?hmon)) rfl ?_
  case hmon =>
    intro t ht
    obtain ⟨i, hi, _, rfl⟩ := date_mem G ht
    rw [date_moon (nat_in hi) ⟨wk_lo _ _ _, wk_hi _ _ _⟩ (wid gd)]
    have key : ∀ i : Nat, i < 12 → moonNames.getD ((i : Int)).toNat "" ∈ moonNames := by decide +kernel
    exact key i hi
  rw [hM]
  generalize hnum : listing (lengths y) d f m = nums at hN hll h ⊢
  have hl7 : nums.length ≤ 100000 := by rw [hll]; decide
  refine blk_compI (xs := nums) (fun _ => true) (fun n => .str (Txt.join "" (filesL n 10))) [] (swaps_is he hs rfl rfl rfl) r he (stores_local hs rfl) (src_list r (ev_name he (by (repeat (first | exact List.Mem.head _ | refine List.Mem.tail _ ?_))))) hl7
    rfl (free_of hs hc fun _ => rfl) (by decide) (by decide) rfl (by decide) (List.forall_mem_nil _) (fun t ht cenv hce => tstl_nil) (fun t ht _ cenv hce => ev_call hce.ok (d_filemode w) (ckind hce rfl) (evl_cons (ev_name hce.ok (by (repeat (first | exact List.Mem.head _ | refine List.Mem.tail _ ?_)))) evl_nil) (fn_filemode (d := e + 1) r)) (fun t ht _ => rfl) ?_
  have erow : (nums.filter fun _ => true).map (fun n => PyData.str (Txt.join "" (filesL n 10))) = (nums.map fun n => rowS n 3).map .str := by
    rw [filt_true, List.map_map]
    exact List.map_congr_left fun n hn => by
      show PyData.str (Txt.join "" (filesL n 10)) = PyData.str (rowS n 3)
      rw [files_row (hN n hn).1 (hN n hn).2]
  rw [erow]
  refine blk_assign he (stores_local hs rfl) (ev_call he (d_listing w) (kind_of hs rfl) (evl_cons (ev_name he (by (repeat (first | exact List.Mem.head _ | refine List.Mem.tail _ ?_)))) (evl_cons (ev_name he (by (repeat (first | exact List.Mem.head _ | refine List.Mem.tail _ ?_)))) (evl_cons (ev_name he (by (repeat (first | exact List.Mem.head _ | refine List.Mem.tail _ ?_)))) (evl_cons (ev_name he (by (repeat (first | exact List.Mem.head _ | refine List.Mem.tail _ ?_)))) evl_nil)))) (fn_listing (d := e + 2) r (lengths_len y))) rfl ?_
  rw [hnum]
  have hrok : ∀ x ∈ (nums.map fun n => rowS n 3).map PyData.str, can2 x = true := can_str fun s hs => by
    obtain ⟨n, hn, rfl⟩ := List.mem_map.mp hs
    exact row_ok (hN n hn).1 (hN n hn).2
  refine blk_if (b := (false || false)) (tst_or (tst_cmp (ev_name he (by (repeat (first | exact List.Mem.head _ | refine List.Mem.tail _ ?_)))) (ev_name he (by (repeat (first | exact List.Mem.head _ | refine List.Mem.tail _ ?_)))) (ne_same r (can_int nums) rfl)) fun _ => tst_cmp (ev_name he (by (repeat (first | exact List.Mem.head _ | refine List.Mem.tail _ ?_)))) (ev_compI (xs := nums) (fun _ => true) (fun n => .str (rowS n 3)) [] r he (src_list r (ev_name he (by (repeat (first | exact List.Mem.head _ | refine List.Mem.tail _ ?_))))) hl7
    rfl (free_of hs hc fun _ => rfl) (by decide) (by decide) rfl (by decide) (List.forall_mem_nil _) (fun t ht cenv hce => tstl_nil) (fun t ht _ cenv hce => ev_call hce.ok (d_row w) (ckind hce rfl) (evl_cons (ev_name hce.ok (by (repeat (first | exact List.Mem.head _ | refine List.Mem.tail _ ?_)))) evl_nil) (fn_row (d := e + 2) r (hN t ht).1 (hN t ht).2)) (fun t ht _ => rfl)) (ne_same r hrok (by rw [filt_true, List.map_map]; rfl))) (fun hb => by cases hb) (fun _ => ?_)
  refine blk_if (b := false) (tst_cmp (ev_compS (xs := datesL y d c f z 12) (fun _ => true) (fun t => .str (Txt.slice t (some 3) none)) [] r he (src_list r (ev_name he (by (repeat (first | exact List.Mem.head _ | refine List.Mem.tail _ ?_))))) (nle hdl)
    rfl (free_of hs hc fun _ => rfl) (by decide) (by decide) rfl (by decide) (List.forall_mem_nil _) (fun t ht cenv hce => tstl_nil) (fun t ht _ cenv hce => ev_cut (ev_name hce.ok (by (repeat (first | exact List.Mem.head _ | refine List.Mem.tail _ ?_)))) (show PartIs w _ cenv _ (some _) (some 3) from ev_int) (show PartIs w _ cenv _ none none from trivial) ?s1) (fun t ht _ => rfl))
    (ev_compS (xs := wantedL y d c f z 12) (fun _ => true) (fun t => .str (Txt.slice t (some 3) none)) [] r he (src_list r (ev_name he (by (repeat (first | exact List.Mem.head _ | refine List.Mem.tail _ ?_))))) (nle hwl)
    rfl (free_of hs hc fun _ => rfl) (by decide) (by decide) rfl (by decide) (List.forall_mem_nil _) (fun t ht cenv hce => tstl_nil) (fun t ht _ cenv hce => ev_cut (ev_name hce.ok (by (repeat (first | exact List.Mem.head _ | refine List.Mem.tail _ ?_)))) (show PartIs w _ cenv _ (some _) (some 3) from ev_int) (show PartIs w _ cenv _ none none from trivial) ?s2) (fun t ht _ => rfl)) (ne_same r ?s3 ?s4)) (fun hb => by cases hb) (fun _ => ?_)
  case s1 => exact nle (hds t ht)
  case s2 => exact nle (hws t ht)
  case s3 =>
    rw [filt_true]
    intro x hx
    obtain ⟨t, ht, rfl⟩ := List.mem_map.mp hx
    obtain ⟨i, hi, _, rfl⟩ := date_mem G ht
    exact ok_slice _ _ (date_ok gy gd ⟨G.c0, G.c1⟩ G.zo)
  case s4 => rw [filt_true, filt_true]; exact same_tails G
  refine blk_if (b := false) (tst_cmp (ev_compI (xs := nums) (fun _ => true) (fun n => .tuple [.int (Builtin.bitAnd n 61440), .int (Builtin.bitAnd n 4095)]) [] r he (src_list r (ev_name he (by (repeat (first | exact List.Mem.head _ | refine List.Mem.tail _ ?_))))) hl7
    rfl (free_of hs hc fun _ => rfl) (by decide) (by decide) rfl (by decide) (List.forall_mem_nil _) (fun t ht cenv hce => tstl_nil) (fun t ht _ cenv hce => ev_tuple (evl_cons (ev_call hce.ok (d_ifmt w) (ckind hce rfl) (evl_cons (ev_name hce.ok (by (repeat (first | exact List.Mem.head _ | refine List.Mem.tail _ ?_)))) evl_nil) (fn_ifmt (d := e + 2) r)) (evl_cons (ev_call hce.ok (d_imode w) (ckind hce rfl) (evl_cons (ev_name hce.ok (by (repeat (first | exact List.Mem.head _ | refine List.Mem.tail _ ?_)))) evl_nil) (fn_imode (d := e + 2) r)) evl_nil)) (by (first | decide | (simp only [List.length_cons, List.length_nil, List.length_map, List.length_append]; omega)))) (fun t ht _ => rfl))
    (ev_compI (xs := nums) (fun _ => true) (fun n => .tuple [.int (n - n % 4096), .int (n % 4096)]) [] r he (src_list r (ev_name he (by (repeat (first | exact List.Mem.head _ | refine List.Mem.tail _ ?_))))) hl7
    rfl (free_of hs hc fun _ => rfl) (by decide) (by decide) rfl (by decide) (List.forall_mem_nil _) (fun t ht cenv hce => tstl_nil) (fun t ht _ cenv hce => ev_tuple (evl_cons (ev_bin (ev_name hce.ok (by (repeat (first | exact List.Mem.head _ | refine List.Mem.tail _ ?_)))) (ev_bin (ev_name hce.ok (by (repeat (first | exact List.Mem.head _ | refine List.Mem.tail _ ?_)))) ev_int (bin_mod (by decide))) bin_sub) (evl_cons (ev_bin (ev_name hce.ok (by (repeat (first | exact List.Mem.head _ | refine List.Mem.tail _ ?_)))) ev_int (bin_mod (by decide))) evl_nil)) (by (first | decide | (simp only [List.length_cons, List.length_nil, List.length_map, List.length_append]; omega)))) (fun t ht _ => rfl)) (ne_same r ?t3 ?t4)) (fun hb => by cases hb) (fun _ => ?_)
  case t3 =>
    rw [filt_true]
    intro x hx
    obtain ⟨t, ht, rfl⟩ := List.mem_map.mp hx
    rfl
  case t4 =>
    rw [filt_true, filt_true]
    exact List.map_congr_left fun n hn => by
      have h := bq (a := 4096) (b := 16) (hN n hn)
      rw [and_61440, and_4095, Int.emod_eq_of_lt h.1 h.2, Int.emod_def n 4096, Int.sub_sub_self, Int.mul_comm]
  refine blk_assign he (stores_local hs rfl) (ev_bin ev_int (ev_name he (by (repeat (first | exact List.Mem.head _ | refine List.Mem.tail _ ?_)))) bin_add) rfl ?_
  have g8 : 0 ≤ 61440 + m ∧ 61440 + m < 65536 := ⟨Int.add_nonneg (by decide) G.m0, Int.add_lt_add_left G.m1 61440⟩
  have h8 : Txt.join "" (filesL (126976 + m) 10) = rowS (61440 + m) 3 := by
    have := G.m0; have := G.m1
    rw [files_eighth G.m0 G.m1, files_row g8.1 g8.2]
  refine blk_if (b := false) (tst_cmp (ev_list (evl_cons (ev_call he (d_filemode w) (kind_of hs rfl) (evl_cons (ev_name he (by (repeat (first | exact List.Mem.head _ | refine List.Mem.tail _ ?_)))) evl_nil) (fn_filemode (d := e + 1) r)) (evl_cons (ev_call he (d_ifmt w) (kind_of hs rfl) (evl_cons (ev_name he (by (repeat (first | exact List.Mem.head _ | refine List.Mem.tail _ ?_)))) evl_nil) (fn_ifmt (d := e + 2) r)) (evl_cons (ev_call he (d_imode w) (kind_of hs rfl) (evl_cons (ev_name he (by (repeat (first | exact List.Mem.head _ | refine List.Mem.tail _ ?_)))) evl_nil) (fn_imode (d := e + 2) r)) evl_nil))) (by (first | decide | (simp only [List.length_cons, List.length_nil, List.length_map, List.length_append]; omega))))
    (ev_list (evl_cons (ev_call he (d_row w) (kind_of hs rfl) (evl_cons (ev_bin ev_int (ev_name he (by (repeat (first | exact List.Mem.head _ | refine List.Mem.tail _ ?_)))) bin_add) evl_nil) (fn_row (d := e + 2) r g8.1 g8.2)) (evl_cons ev_int (evl_cons (ev_name he (by (repeat (first | exact List.Mem.head _ | refine List.Mem.tail _ ?_)))) evl_nil))) (by (first | decide | (simp only [List.length_cons, List.length_nil, List.length_map, List.length_append]; omega)))) (ne_same r ?u3 ?u4)) (fun hb => by cases hb) (fun _ => ?_)
  case u3 =>
    rw [h8]
    intro x hx
    simp only [List.mem_cons, List.not_mem_nil, or_false] at hx
    have := G.m0; have := G.m1
    rcases hx with rfl | rfl | rfl
    · exact row_ok g8.1 g8.2
    · rfl
    · rfl
  case u4 =>
    have := G.m0; have := G.m1
    rw [h8, and_61440, and_4095, eighth_hi G.m0 G.m1, show (126976 + m) % 4096 = m by omega]
  refine blk_if (b := false) (tst_cmp (ev_call he (d_asked w) (kind_of hs rfl) (evl_cons (ev_name he (by (repeat (first | exact List.Mem.head _ | refine List.Mem.tail _ ?_)))) evl_nil) (fn_asked (d := e) r))
    (ev_bin (ev_list (evl_cons (ev_tuple (evl_cons ev_bool (evl_cons ev_bool evl_nil)) (by (first | decide | (simp only [List.length_cons, List.length_nil, List.length_map, List.length_append]; omega)))) evl_nil) (by (first | decide | (simp only [List.length_cons, List.length_nil, List.length_map, List.length_append]; omega)))) ev_int (bin_mulL (by decide) (by decide) (by simp) (by simp))) (ne_same r ?v3 ?v4)) (fun hb => by cases hb) (fun _ => ?_)
  case v3 =>
    rw [asked_is]
    intro x hx
    obtain ⟨k, _, rfl⟩ := List.mem_map.mp hx
    rfl
  case v4 => exact asked_eighth G.m0 G.m1
  refine h _ ?_
  (repeat (first | exact List.forall_mem_nil _ | refine List.forall_mem_cons.mpr ⟨by (repeat (first | exact List.Mem.head _ | refine List.Mem.tail _ ?_)), ?_⟩))
/- part K7 -/
theorem xs_pre {w : World} {A : Around} {env : Env} {s₀ : Shared} {ρ ρ' ρ'' : Rho} {μ μ' : Mu} {b : List Stmt} {br : Bool} (h : Xs w A env s₀ ρ' μ b br ρ'' μ') (hs : ∀ p ∈ ρ', p ∈ ρ) : Xs w A env s₀ ρ μ b br ρ'' μ' := ⟨fun s E Ds l => h.go s E Ds (l.sub hs)⟩
theorem xs_mu {w : World} {A : Around} {env : Env} {s₀ : Shared} {ρ ρ'' : Rho} {μ μ' μ'' : Mu} {b : List Stmt} {br : Bool} (e : μ' = μ) (h : Xs w A env s₀ ρ μ' b br ρ'' μ'') : Xs w A env s₀ ρ μ b br ρ'' μ'' := e ▸ h
theorem srct_len {w : World} {A : Around} {env : Env} {s₀ : Shared} {ρ : Rho} {μ : Mu} {iter target : PySem.Expr} {n k : Nat} {Bd : Nat → Rho} (e : n = k) (h : SrcT w A env s₀ ρ μ iter target n Bd) : SrcT w A env s₀ ρ μ iter target k Bd := e ▸ h

/-- the months of a row; the dates written anew -/
noncomputable def monthsK (nums : List Int) (m : Int) (k : Nat) : List Int := monthsL (rowS (nums.getD k 0) 3) m
noncomputable def anewK (y d c : Int) (z : Str) (k : Nat) (i : Int) : PyData := .tuple [.int i, .str (writtenS y i d c (((k : Int) + 1) % 7) z)]
noncomputable def againL (y d c m : Int) (z : Str) (nums : List Int) : Nat → List PyData
  | 0 => []
  | k + 1 => againL y d c m z nums k ++ (monthsK nums m k).map (anewK y d c z k)
theorem months_in {nums : List Int} {m : Int} {k : Nat} {i : Int} (h : i ∈ monthsK nums m k) : 0 ≤ i ∧ i < 12 := mem_intz.mp (List.mem_filter.mp h).1
theorem months_len (nums : List Int) (m : Int) (k : Nat) : (monthsK nums m k).length ≤ 12 := Nat.le_trans (List.length_filter_le _ _) (by decide)
theorem again_len (y d c m : Int) (z : Str) (nums : List Int) : ∀ n, (againL y d c m z nums n).length ≤ 12 * n
  | 0 => Nat.zero_le _
  | k + 1 => by
    have := again_len y d c m z nums k
    have := months_len nums m k
    show (againL y d c m z nums k ++ _).length ≤ _
    rw [List.length_append, List.length_map]
    omega
theorem again_tup (y d c m : Int) (z : Str) (nums : List Int) : ∀ n, ∀ t ∈ againL y d c m z nums n, ∃ xs, t = .tuple xs
  | 0, t, h => by cases h
  | k + 1, t, h => by
    rcases List.mem_append.mp h with h | h
    · exact again_tup y d c m z nums k t h
    · obtain ⟨i, _, rfl⟩ := List.mem_map.mp h
      exact ⟨_, rfl⟩
theorem tup_ne {xs : List PyData} {ns : List Int} (h : ∀ t ∈ xs, ∃ ys, t = PyData.tuple ys) (hn : ns.map PyData.int ≠ []) : xs ≠ ns.map PyData.int := by
  intro e
  cases ns with
  | nil => exact hn rfl
  | cons n ns =>
    obtain ⟨ys, q⟩ := h (.int n) (by rw [e]; exact .head _)
    cases q
theorem ints_get {xs : List Int} {i : Nat} {t : PyData} (h : (xs.map PyData.int)[i]? = some t) : t = .int (xs.getD i 0) := by
  rw [List.getElem?_map] at h
  obtain ⟨a, h1, rfl⟩ := Option.map_eq_some_iff.mp h
  rw [List.getD_eq_getElem?_getD, h1]; rfl
theorem take_next {xs : List Int} {i : Nat} (h : i < xs.length) : xs.take (i + 1) = xs.take i ++ [xs.getD i 0] := by
  rw [List.take_add_one, List.getD_eq_getElem?_getD, List.getElem?_eq_getElem h]; rfl

abbrev rhoE (y d c m f : Int) (z : Str) : Rho := [(Str.ofString "rows", PyData.list (((listing (lengths y) d f m).map fun n => rowS n 3).map .str)), (Str.ofString "modes", PyData.list ((listing (lengths y) d f m).map .int)), (Str.ofString "wanted", PyData.list ((wantedL y d c f z 12).map .str)),
  (Str.ofString "year", .int y), (Str.ofString "day", .int d), (Str.ofString "clock", .int c), (Str.ofString "zone", .str z), (Str.ofString "mask", .int m)]
theorem law_4 {w : World} {A : Around} {env : Env} {s₀ : Shared} {e : Nat} (r : Rm (e + 3) A) (he : EnvOk env) (hs : env.scope = lawS) (hc : env.cells = cellsFrom (env.locals + 1) lawS.names []) {y d c m f : Int} {z : Str} (G : Given y d c m f z)
    (hA : ∀ k, k < 7 → asked ((listing (lengths y) d f m).getD k 0) = (intz 7).map fun j => .tuple [.bool (j == (k : Int)), .bool (j != (k : Int))])
    (hI : ∀ k, k < 7 → ∃ rest, Builtin.Str.occurrences "pcdb-ls" (chAt (rowS ((listing (lengths y) d f m).getD k 0) 3) 0) 0 ("pcdb-ls" : Str).length 1 = k :: rest)
    (h : ∀ ρ : Rho, (Str.ofString "again", PyData.list (againL y d c m z (listing (lengths y) d f m) 7)) ∈ ρ → (Str.ofString "wanted", PyData.list ((wantedL y d c f z 12).map .str)) ∈ ρ → Blk w A env ρ s₀ (lawB.drop 22) (.bool true))
    {ρ : Rho} (hρ : ∀ p ∈ rhoE y d c m f z, p ∈ ρ) : Blk w A env ρ s₀ (lawB.drop 20) (.bool true) := by
  have hll : (listing (lengths y) d f m).length = 7 := by unfold listing; rw [List.length_map]; rfl
  have gy := G.yy
  have gd := G.dd
  refine blk_mono ?_ hρ
  generalize hnum : listing (lengths y) d f m = nums at hA hI hll h ⊢
  refine blkm_of (blkm_new he (stores_local hs rfl) (fun p hp => by cases hp) rfl (blkm_x (x1_for 7 (fun i => [("k", .int i)]) (fun _ => rhoE y d c m f z) (fun i => [("again", againL y d c m z nums i)]) (fun _ => false) ?src
    (fun i hi => off_of rfl) (fun i hi => off_of rfl) ?hb (fun i hi h => by cases h) (fun _ => xs_nil)) (blkm_fin (h _ (.head _) ?hw))))
  case hw => (repeat (first | exact List.Mem.head _ | refine List.Mem.tail _ ?_))
  case src =>
    exact srct_of (ts := (intz 7).map PyData.int) _ (src_rangeI 7 r he (b_range w) (kind_of hs rfl) ev_int (by decide)) (fun i t ht => by rw [rng_get ht]; exact tgt_name he (stores_cell hs hc rfl fun _ => rfl) rfl) (by decide) (fun p hp h e => by rw [List.mem_singleton.mp hp] at e; exact absurd (congrArg List.length e) (show ¬ ((0 : Nat) = 7) by decide))
  case hb =>
    intro k hk _
    obtain ⟨rest, hocc⟩ := hI k hk
    have hAk := hA k hk
    have hal := again_len y d c m z nums k
    rw [show rhoE y d c m f z = [(Str.ofString "rows", PyData.list ((nums.map fun n => rowS n 3).map .str)), (Str.ofString "modes", PyData.list (nums.map .int)), (Str.ofString "wanted", PyData.list ((wantedL y d c f z 12).map .str)), (Str.ofString "year", .int y), (Str.ofString "day", .int d), (Str.ofString "clock", .int c), (Str.ofString "zone", .str z), (Str.ofString "mask", .int m)] by rw [← hnum]]
    have hrow : ∀ {ρ : Rho} {p p2 q : Pos}, ((Str.ofString "rows", PyData.list ((nums.map fun n => rowS n 3).map .str)) : Str × PyData) ∈ ρ → ((Str.ofString "k", PyData.int k) : Str × PyData) ∈ ρ → Evs w A env ρ (.Subscript (.Name "rows" p) (.Name "k" p2) q) (.str (rowS (nums.getD k 0) 3)) := fun h1 h2 => by
      have e1 : (nums.map fun n => rowS n 3).getD ((k : Int)).toNat "" = rowS (nums.getD k 0) 3 := by
        rw [show ((k : Int)).toNat = k from rfl, List.getD_eq_getElem?_getD, List.getD_eq_getElem?_getD, List.getElem?_map, List.getElem?_eq_getElem (by rw [hll]; exact hk)]; rfl
      rw [← e1]
      exact ev_item (ev_name he h1) (ev_name he h2) (item_lstG PyData.str "" (nat_in hk).1 (by rw [List.length_map, hll]; exact (nat_in hk).2) (by rw [List.length_map, hll]; decide))
    have hmode : nums.getD ((k : Int)).toNat 0 = nums.getD k 0 := rfl
    refine xs_cons (x1_if (b := false) (tst_cmp (ev_call he (d_asked w) (kind_of hs rfl) (evl_cons (ev_item (ev_name he (by (repeat (first | exact List.Mem.head _ | refine List.Mem.tail _ ?_)))) (ev_name he (by (repeat (first | exact List.Mem.head _ | refine List.Mem.tail _ ?_)))) (item_lstG PyData.int 0 (nat_in hk).1 (by rw [hll]; exact (nat_in hk).2) (by rw [hll]; decide))) evl_nil) (fn_asked (d := e) r))
      (ev_compI (xs := intz 7) (fun _ => true) (fun j => .tuple [.bool (j == (k : Int)), .bool (j != (k : Int))]) [("k", .int k)] r he (src_rangeI 7 r he (b_range w) (kind_of hs rfl) ev_int (by decide)) (by decide)
        rfl (free_of hs hc fun _ => rfl) (by decide) (by decide) rfl (by decide) ?h1 (fun t ht cenv hce => tstl_nil) (fun t ht _ cenv hce => ev_tuple (evl_cons (ev_cmp (ev_name hce.ok (by (repeat (first | exact List.Mem.head _ | refine List.Mem.tail _ ?_)))) (ev_name hce.ok (by (repeat (first | exact List.Mem.head _ | refine List.Mem.tail _ ?_)))) cmp_eqI) (evl_cons (ev_cmp (ev_name hce.ok (by (repeat (first | exact List.Mem.head _ | refine List.Mem.tail _ ?_)))) (ev_name hce.ok (by (repeat (first | exact List.Mem.head _ | refine List.Mem.tail _ ?_)))) cmp_neI) evl_nil)) (by (first | decide | (simp only [List.length_cons, List.length_nil, List.length_map, List.length_append]; omega)))) (fun t ht _ => rfl)) (ne_same r ?h2 ?h3)) (fun hb => by cases hb) (fun _ => xs_nil)) ?_
    case h1 => (repeat (first | exact List.forall_mem_nil _ | refine List.forall_mem_cons.mpr ⟨⟨by (repeat (first | exact List.Mem.head _ | refine List.Mem.tail _ ?_)), by (repeat (first | exact List.Mem.head _ | refine List.Mem.tail _ ?_)), rfl⟩, ?_⟩))
    case h2 =>
      rw [asked_is]
      intro x hx
      obtain ⟨j, _, rfl⟩ := List.mem_map.mp hx
      rfl
    case h3 => rw [hmode, hAk, filt_true]
    refine xs_cons (x1_assign (t := .int k) he (stores_local hs rfl) (ev_sindex (x := "pcdb-ls") ev_str (ev_item (hrow (by (repeat (first | exact List.Mem.head _ | refine List.Mem.tail _ ?_))) (by (repeat (first | exact List.Mem.head _ | refine List.Mem.tail _ ?_)))) ev_int (item_strD (by decide) ?h4 ?h5)) hocc rfl rfl) rfl (ne_of rfl) rfl) ?_
    case h4 => have := slen_row (nums.getD k 0) 3; simp only [Str.length, ← Array.length_toList] at this; omega
    case h5 => exact nle (Nat.le_of_eq (slen_row (nums.getD k 0) 3))
    have hml := months_len nums m k
    show Xs w A env s₀ _ _ _ false _ [("again", againL y d c m z nums k ++ (monthsK nums m k).map (anewK y d c z k))]
    refine xs_pre (ρ' := [(Str.ofString "kind", .int k), (Str.ofString "k", .int k), (Str.ofString "rows", PyData.list ((nums.map fun n => rowS n 3).map .str)), (Str.ofString "modes", PyData.list (nums.map .int)), (Str.ofString "wanted", PyData.list ((wantedL y d c f z 12).map .str)), (Str.ofString "year", .int y), (Str.ofString "day", .int d), (Str.ofString "clock", .int c), (Str.ofString "zone", .str z), (Str.ofString "mask", .int m)]) ?_ ?hpre
    case hpre =>
      (repeat (first | exact List.forall_mem_nil _ | refine List.forall_mem_cons.mpr ⟨by (repeat (first | exact List.Mem.head _ | refine List.Mem.tail _ ?_)), ?_⟩))
    refine xs_mu (μ' := [(Str.ofString "again", againL y d c m z nums k ++ ((monthsK nums m k).take 0).map (anewK y d c z k))]) (by simp) ?_
    refine xs_sub (ρ' := [(Str.ofString "kind", .int k), (Str.ofString "k", .int k), (Str.ofString "rows", PyData.list ((nums.map fun n => rowS n 3).map .str)), (Str.ofString "modes", PyData.list (nums.map .int)), (Str.ofString "wanted", PyData.list ((wantedL y d c f z 12).map .str)), (Str.ofString "year", .int y), (Str.ofString "day", .int d), (Str.ofString "clock", .int c), (Str.ofString "zone", .str z), (Str.ofString "mask", .int m)]) (xs_last (x1_for (monthsK nums m k).length (fun j => [("place", .int ((monthsK nums m k).getD j 0))])
      (fun _ => [(Str.ofString "kind", .int k), (Str.ofString "k", .int k), (Str.ofString "rows", PyData.list ((nums.map fun n => rowS n 3).map .str)), (Str.ofString "modes", PyData.list (nums.map .int)), (Str.ofString "wanted", PyData.list ((wantedL y d c f z 12).map .str)), (Str.ofString "year", .int y), (Str.ofString "day", .int d), (Str.ofString "clock", .int c), (Str.ofString "zone", .str z), (Str.ofString "mask", .int m)])
      (fun j => [("again", againL y d c m z nums k ++ ((monthsK nums m k).take j).map (anewK y d c z k))]) (fun _ => false) ?src2 (fun i hi => off_of rfl) (fun i hi => off_of rfl) ?hb2 (fun i hi h => by cases h) (fun _ => ?els))) ?hpost
    case src2 =>
      refine srct_len (List.length_map (as := monthsK nums m k) PyData.int) ?_
      exact srct_of (ts := (monthsK nums m k).map PyData.int) _ (src_list r (ev_call he (d_months w) (kind_of hs rfl) (evl_cons (hrow (by (repeat (first | exact List.Mem.head _ | refine List.Mem.tail _ ?_))) (by (repeat (first | exact List.Mem.head _ | refine List.Mem.tail _ ?_)))) (evl_cons (ev_name he (by (repeat (first | exact List.Mem.head _ | refine List.Mem.tail _ ?_)))) evl_nil)) (fn_months (d := e + 2) r (by rw [slen_row]))))
        (fun i t ht => by rw [ints_get ht]; exact tgt_name he (stores_local hs rfl) rfl) (fun x hx => by obtain ⟨n, _, rfl⟩ := List.mem_map.mp hx; rfl) (fun p hp hn => by
          rw [List.mem_singleton.mp hp]
          exact tup_ne (by simpa using again_tup y d c m z nums k) hn)
    case hb2 =>
      intro j hj _
      have hin : (monthsK nums m k).getD j 0 ∈ monthsK nums m k := by rw [List.getD_eq_getElem?_getD, List.getElem?_eq_getElem hj]; exact List.getElem_mem hj
      have hpl := months_in hin
      show Xs w A env s₀ _ _ _ false _ [("again", againL y d c m z nums k ++ ((monthsK nums m k).take (j + 1)).map (anewK y d c z k))]
      rw [take_next hj, List.map_append, ← List.append_assoc]
      refine xs_sub (xs_last (x1_append (i := 0) he rfl (ev_tuple (evl_cons (ev_name he (by (repeat (first | exact List.Mem.head _ | refine List.Mem.tail _ ?_)))) (evl_cons (ev_call he (d_written w) (kind_of hs rfl) (evl_cons (ev_name he (by (repeat (first | exact List.Mem.head _ | refine List.Mem.tail _ ?_)))) (evl_cons (ev_name he (by (repeat (first | exact List.Mem.head _ | refine List.Mem.tail _ ?_)))) (evl_cons (ev_name he (by (repeat (first | exact List.Mem.head _ | refine List.Mem.tail _ ?_)))) (evl_cons (ev_name he (by (repeat (first | exact List.Mem.head _ | refine List.Mem.tail _ ?_)))) (evl_cons (ev_bin (ev_bin (ev_name he (by (repeat (first | exact List.Mem.head _ | refine List.Mem.tail _ ?_)))) ev_int bin_add) ev_int (bin_mod (by decide))) (evl_cons (ev_tuple evl_nil) (evl_cons (ev_name he (by (repeat (first | exact List.Mem.head _ | refine List.Mem.tail _ ?_)))) evl_nil)))))))
        (fn_written (d := e + 1) r gy hpl gd G.cc (bd _) G.zz (by decide))) evl_nil)) (by (first | decide | (simp only [List.length_cons, List.length_nil, List.length_map, List.length_append]; omega)))) rfl ?hz rfl rfl rfl rfl rfl)) (fun p hp => List.mem_append_right _ hp)
      case hz =>
        rw [List.length_append, List.length_map, List.length_take]
        omega
    case els =>
      rw [List.take_of_length_le (Nat.le_refl _)]
      exact xs_nil
    case hpost =>
      intro p hp
      exact List.mem_cons_of_mem _ (List.mem_cons_of_mem _ hp)
/- part K8 -/
section
variable {w : World} {A : Around} {E : Value → Shared → Prop} {s : Shared}
/-- list.sort in place: all else is kept -/
theorem lsort_kept {a : Addr} {n : Nat} {vs : List Value} {P : PySem.Fin → Shared → Prop} (out : List Nat) (ho : s.heap.get? a = some (seqObj "list" vs.toArray n)) (h2 : 2 ≤ vs.length) (h64 : vs.length < 64)
    (ask : ∀ h1, (∀ b o, b ≠ a → s.heap.get? b = some o → h1.get? b = some o) → wpAny (model PR w) A (keyKind' vs.toArray) (fun κ s' => (kas_sort vs.length).kasWp (kas_ask PR w A κ vs) (fun p s'' => p.toList = out ∧ Kp { s with heap := h1 } s'') s') (fun _ _ => False) { s with heap := h1 })
    (fin : ∀ s', Same s s' → (∀ b o, b ≠ a → s.heap.get? b = some o → s'.heap.get? b = some o) → s'.heap.PlainList a (out.map fun i => vs.getD i Value.none).toArray → P (.done (.ret .none)) s') :
    wpAny (model PR w) A (Builtin.«list.sort» ⟨[.ref a], []⟩) P E s := by
  have c1 := Heap.SameBut.update s.heap a (Obj.mapSeq fun _ => (#[] : Array Value))
  obtain ⟨e1, o1⟩ : ∃ e1, (s.heap.update a (Obj.mapSeq fun _ => (#[] : Array Value))).get? a = some (seqObj "list" #[] e1) := ⟨_, get?_update_seq ho fun _ => #[]⟩
  rw [list_sort_plain]
  refine wpAny_bind (listItems_at ho rfl (wpAny_bind (listUpdate_at ho rfl (wpAny_bind (seqEpoch_at o1 rfl (wpAny_bind (wpAny_newTuple (wpAny_bind (wpAny_newList (wpAny_holding ?_) (Nat.zero_le _))) (by show vs.length ≤ _; rw [sizeLine_eq]; omega))))) (by rw [List.size_toArray, sizeLine_eq]; omega) (Nat.zero_le _))))
  have grow : ∀ b o, (s.heap.update a (Obj.mapSeq fun _ => (#[] : Array Value))).get? b = some o → (((s.heap.update a (Obj.mapSeq fun _ => (#[] : Array Value))).push (seqObj "tuple" vs.toArray 0)).push (seqObj "list" #[] 0)).get? b = some o :=
    fun b o e => Heap.get?_push_of_some _ (Heap.get?_push_of_some _ e)
  show wpAny (model PR w) A _ P E { s with heap := ((s.heap.update a (Obj.mapSeq fun _ => (#[] : Array Value))).push (seqObj "tuple" vs.toArray 0)).push (seqObj "list" #[] 0) }
  generalize ((s.heap.update a (Obj.mapSeq fun _ => (#[] : Array Value))).push (seqObj "tuple" vs.toArray 0)).push (seqObj "list" #[] 0) = h1 at grow ⊢
  have keep1 : ∀ b o, b ≠ a → s.heap.get? b = some o → h1.get? b = some o := fun b o hb e => grow b o (c1.extBut b o hb e)
  have oa := grow _ _ o1
  dsimp only
  have hn2 : ¬ vs.toArray.size < 2 := by rw [List.size_toArray]; omega
  rw [if_neg hn2, if_neg hn2]
  refine wpAny_bind (wpAny_mono (ask h1 keep1) (fun κ s0 hk => ?_) fun _ _ x => x.elim)
  refine wpAny_bind (wpAny_mono (kat_run (Q := fun st' s' => ∃ p : Array Nat, p.size = vs.length ∧ arrOf st' = p.map (kas_item (vs.toArray.zip vs.toArray)) ∧ failedOf st' = none ∧ p.toList = out ∧ Kp { s with heap := h1 } s')
    rfl h2 h64 (fun p' st' s' a1 a2 a3 a4 => ⟨p', a1, a2, a3, a4⟩) hk) ?_ fun _ _ e => e)
  rintro ⟨⟨⟩, st'⟩ s' ⟨p, hp, har, hf, ho', k⟩
  dsimp only
  have na := k.ext _ _ oa
  have hsz : (List.toArray (p.toList.map fun i => vs.getD i Value.none)).size = vs.length := by rw [List.size_toArray, List.length_map, Array.length_toList, hp]
  rw [kat_snds rfl har]
  have c2 := Heap.SameBut.update s'.heap a (Obj.mapSeq fun _ => List.toArray (p.toList.map fun i => vs.getD i Value.none))
  have o2 := get?_update_seq na fun _ => List.toArray (p.toList.map fun i => vs.getD i Value.none)
  refine wpAny_bind (seqEpoch_at na rfl (wpAny_bind (listUpdate_at na rfl ?_ (Nat.zero_le _) (Nat.le_trans (Nat.le_of_eq hsz) (by rw [sizeLine_eq]; omega)))))
  rw [hf]
  simp only [bne_self_eq_false, Bool.false_eq_true, if_false]
  subst ho'
  refine wpAny_pure (fin _ ((Same.trans ⟨_, _, rfl⟩ k.same).trans ⟨_, _, rfl⟩) (fun b o hb e => c2.extBut b o hb (k.ext b o (keep1 b o hb e))) ⟨_, o2⟩)

/-- sorted of a list: a new list -/
theorem sorted_kept {l : Addr} {vs : List Value} {Q : Value → Shared → Prop} (out : List Nat) (hl : s.heap.IsList l vs.toArray) (h2 : 2 ≤ vs.length) (h64 : vs.length < 64)
    (ask : ∀ s1, Kp s s1 → wpAny (model PR w) A.in1.in1 (keyKind' vs.toArray) (fun κ s' => (kas_sort vs.length).kasWp (kas_ask PR w A.in1.in1 κ vs) (fun p s'' => p.toList = out ∧ Kp s1 s'') s') (fun _ _ => False) s1)
    (fin : ∀ D s', Kp s s' → s'.heap.PlainList D (out.map fun i => vs.getD i Value.none).toArray → Q (.ref D) s') :
    wpAny (model PR w) A (call (.builtin "sorted") [.ref l]) Q E s := by
  refine Calls.call_function_entry kind_sorted plain_sorted entry_sorted (args_sorted1 _) ?_
  unfold Builtin.«sorted»
  refine wpAny_bind (m := checkCount "sorted" 1 1 _) (wpAny_pure (wpAny_bind (collect_list hl (wpAny_bind (wpAny_newList ?_ (by rw [sizeLine_eq]; omega))) (by rw [sizeLine_eq]; omega))))
  have hD : ((s.heap.push (seqObj "list" #[] 0)).update s.heap.objs.size (Obj.mapSeq (· ++ vs.toArray))).objs.size = s.heap.objs.size + 1 := by
    rw [Heap.size_update, size_push']
  have oD : (((s.heap.push (seqObj "list" #[] 0)).update s.heap.objs.size (Obj.mapSeq (· ++ vs.toArray))).push (seqObj "list" vs.toArray 0)).get? (s.heap.objs.size + 1) = some (seqObj "list" vs.toArray 0) := by
    rw [← hD]; exact Heap.get?_push_size _ rfl
  have keep : ∀ b o, s.heap.get? b = some o → (((s.heap.push (seqObj "list" #[] 0)).update s.heap.objs.size (Obj.mapSeq (· ++ vs.toArray))).push (seqObj "list" vs.toArray 0)).get? b = some o := fun b o q => by
    have hlt : b < s.heap.objs.size := Heap.lt_size q
    rw [Heap.get?_push_ne _ _ _ (by rw [hD]; exact Nat.ne_of_lt (Nat.lt_succ_of_lt hlt)), Heap.get?_update_ne _ _ _ _ (Nat.ne_of_lt hlt), Heap.get?_push_ne _ _ _ (Nat.ne_of_lt hlt)]
    exact q
  show wpAny _ _ _ _ _ { s with heap := ((s.heap.push (seqObj "list" #[] 0)).update s.heap.objs.size (Obj.mapSeq (· ++ vs.toArray))).push (seqObj "list" vs.toArray 0) }
  rw [hD]
  generalize ((s.heap.push (seqObj "list" #[] 0)).update s.heap.objs.size (Obj.mapSeq (· ++ vs.toArray))).push (seqObj "list" vs.toArray 0) = hh at oD keep ⊢
  have old : ∀ {b o}, s.heap.get? b = some o → b ≠ s.heap.objs.size + 1 := fun {b o} e => Nat.ne_of_lt (Nat.lt_succ_of_lt (Heap.lt_size e))
  refine wpAny_bind (wpAny_holding (wpAny_call_entry slot_list_sort ⟨_, oD, rfl⟩ entry_list_sort ?body (args_list_sort _)))
  case body =>
    refine lsort_kept (s := { s with heap := hh }) out oD h2 h64 (fun h1 k1 => ?_) (fun s' hs k hp => ⟨_, rfl, wpAny_pure ⟨_, rfl, fin _ s' ((Same.trans ⟨_, _, rfl⟩ hs).kp fun b o e => k b o (old e) (keep b o e)) hp⟩⟩)
    exact ask { s with heap := h1 } ⟨h1, s.toks, rfl, fun b o e => k1 b o (old e) (keep b o e)⟩
end

/-- pairs of a key and a text -/
noncomputable def keyD (W : Nat → Str) (k : Nat) : PyData := .tuple [.int (k : Int), .str (W k)]
theorem pair_at {h : Heap} {W : Nat → Str} {keys : List Nat} {vs : List Value} (r : Reps h (keys.map (keyD W)) vs) {i : Nat} (hi : i < keys.length) :
    ∃ a o xs n t, vs.getD i Value.none = .ref a ∧ h.get? a = some o ∧ o.cls = .type "tuple" ∧ o.data = .seq xs n ∧ ∃ v, xs.toList = [Value.int (keys.getD i 0 : Nat) t, v] := by
  have hg : (keys.map (keyD W))[i]? = some (keyD W (keys.getD i 0)) := by
    rw [List.getElem?_map, List.getD_eq_getElem?_getD, List.getElem?_eq_getElem hi]; rfl
  obtain ⟨v, hv, rv⟩ := r.get hg
  obtain ⟨a, ws, rfl, ⟨n, e⟩, rw'⟩ := rv.tuple_inv
  obtain ⟨v1, r1, e1, q1, r2⟩ := rw'.cons_inv
  obtain ⟨v2, r3, rfl, q2, r4⟩ := r2.cons_inv
  obtain ⟨t, rfl⟩ := q1.int_inv
  have := r4.nil_inv
  subst this
  exact ⟨a, _, ws, n, t, by rw [List.getD_eq_getElem?_getD, hv]; rfl, e, rfl, rfl, v2, e1⟩
theorem pair_tups {h : Heap} {W : Nat → Str} : ∀ {keys : List Nat} {vs : List Value}, Reps h (keys.map (keyD W)) vs → ∃ fs, KatTups h vs fs ∧ fs.length = keys.length ∧ ∀ f ∈ fs, ∃ i t, f = Value.int i t
  | [], vs, r => by rw [r.nil_inv]; exact ⟨[], .nil, rfl, fun _ h => nomatch h⟩
  | k :: keys, vs, r => by
    obtain ⟨v, r', rfl, rv, rr⟩ := r.cons_inv
    obtain ⟨fs, h1, h2, h3⟩ := pair_tups rr
    obtain ⟨a, ws, rfl, ⟨n, e⟩, rw'⟩ := rv.tuple_inv
    obtain ⟨v1, r1, e1, q1, r2⟩ := rw'.cons_inv
    obtain ⟨t, rfl⟩ := q1.int_inv
    refine ⟨.int k t :: fs, .cons e rfl rfl (by rw [← Array.getElem?_toList, e1]; rfl) h1, by simp [h2], fun f hf => ?_⟩
    rcases List.mem_cons.mp hf with rfl | hf
    · exact ⟨_, _, rfl⟩
    · exact h3 f hf
/-- every ask of the tree is of two places below n, not the same -/
noncomputable def apartK {α : Type} (n : Nat) (lt : Nat → Nat → Bool) : KasT α → Bool
  | .ret _ => true
  | .ask i j k => decide (i < n) && decide (j < n) && decide (i ≠ j) && apartK n lt (k (lt i j))
theorem kas_apart {α : Type} {cmp : Nat → Nat → (Bool → Shared → Prop) → Shared → Prop} {n : Nat} {lt : Nat → Nat → Bool} {I : Shared → Prop} {Q : α → Shared → Prop}
    (hc : ∀ i j (C : Bool → Shared → Prop) s, i < n → j < n → i ≠ j → I s → C (lt i j) s → cmp i j C s) :
    ∀ (t : KasT α) (s : Shared), apartK n lt t = true → I s → Q (evalK lt t) s → t.kasWp cmp Q s
  | .ret a, s, _, hi, hq => hq
  | .ask i j k, s, hu, hi, hq => by
    unfold apartK at hu
    rw [Bool.and_eq_true, Bool.and_eq_true, Bool.and_eq_true, decide_eq_true_eq, decide_eq_true_eq, decide_eq_true_eq] at hu
    exact hc i j _ s hu.1.1.1 hu.1.1.2 hu.1.2 hi (kas_apart hc (k (lt i j)) s hu.2 hi hq)
/-- the sort's order, for keys at hand -/
structure Sorts (keys out : List Nat) : Prop where
  two : 2 ≤ keys.length
  few : keys.length < 64
  nd : keys.Nodup
  ok : apartK keys.length (ltK keys) (kas_sort keys.length) = true
  small : ((evalK (ltK keys) (kas_sort keys.length)).toList.all fun i => decide (i < keys.length)) = true
  out : (evalK (ltK keys) (kas_sort keys.length)).toList.map (fun i => keys.getD i 0) = out
theorem nodup_get {keys : List Nat} (nd : keys.Nodup) {i j : Nat} (hi : i < keys.length) (hj : j < keys.length) (h : i ≠ j) : keys.getD i 0 ≠ keys.getD j 0 := by
  rw [List.getD_eq_getElem?_getD, List.getD_eq_getElem?_getD, List.getElem?_eq_getElem hi, List.getElem?_eq_getElem hj]
  intro e
  have e' : keys[i] = keys[j] := Option.some.inj (congrArg some e)
  have key := List.pairwise_iff_getElem.mp nd
  rcases Nat.lt_or_gt_of_ne h with q | q
  · exact key i j hi hj q e'
  · exact key j i hj hi q e'.symm
theorem reps_sel {h : Heap} {ds : List PyData} {vs : List Value} (r : Reps h ds vs) : ∀ {is : List Nat}, (∀ i ∈ is, i < ds.length) → Reps h (is.map fun i => ds.getD i .none) (is.map fun i => vs.getD i Value.none)
  | [], _ => .nil
  | i :: is, hi => by
    have h1 := hi i (.head _)
    obtain ⟨v, hv, rv⟩ := r.get (List.getElem?_eq_getElem h1)
    refine .cons ?_ (reps_sel r fun j hj => hi j (.tail _ hj))
    show Rep h (ds.getD i .none) (vs.getD i Value.none)
    rw [List.getD_eq_getElem?_getD, List.getD_eq_getElem?_getD, List.getElem?_eq_getElem h1, hv]
    exact rv
section
variable {w : World} {A : Around} {env : Env} {ρ : Rho}
theorem bi_sorted {W : Nat → Str} {keys out : List Nat} (S : Sorts keys out) : Bi1 w A (.builtin "sorted") (.list (keys.map (keyD W))) (.list (out.map (keyD W))) := fun s E u G ru => by
  obtain ⟨l, vs, rfl, hl, rl⟩ := ru.list_inv
  have hlen := rl.length
  rw [List.length_map] at hlen
  have hsm : ∀ i ∈ (evalK (ltK keys) (kas_sort keys.length)).toList, i < keys.length := fun i hi => of_decide_eq_true (List.all_eq_true.mp S.small i hi)
  refine sorted_kept (vs := vs.toList) (evalK (ltK keys) (kas_sort keys.length)).toList (by simpa using hl.isList) (by rw [hlen]; exact S.two) (by rw [hlen]; exact S.few) (fun s1 k1 => ?_) fun D s' k hp => ⟨k, ?_⟩
  · have rl1 := rl.keeps k1.ext
    obtain ⟨fs, t1, t2, t3⟩ := pair_tups rl1
    refine kat_kind (T := .type "int") t1 (by rw [t2]; have := S.two; omega) (fun v hv => ?_) (by decide) ?_
    · obtain ⟨i, t, rfl⟩ := t3 v hv
      exact Looks.now
    · rw [hlen]
      refine kas_apart (n := keys.length) (lt := ltK keys) (I := fun s => s = s1) (fun i j C s hi hj hij hs hC => ?_) _ _ S.ok rfl ⟨rfl, Kp.refl _⟩
      subst hs
      obtain ⟨a, oa, xs, na, ta, e1, e2, e3, e4, v, e5⟩ := pair_at rl1 hi
      obtain ⟨b, ob, ys, nb, tb, g1, g2, g3, g4, u, g5⟩ := pair_at rl1 hj
      unfold kas_ask
      rw [e1, g1]
      refine kat_lt e2 e4 g2 g4 ?_
      rw [e5, g5]
      have hne := nodup_get S.nd hi hj hij
      have hf : (((keys.getD i 0 : Nat) : Int) == ((keys.getD j 0 : Nat) : Int)) = false := by
        rw [beq_eq_false_iff_ne]; omega
      refine kat_cons (wpAny_eqBool_int ?_)
      rw [hf]
      refine kat_no (oneLt_int ?_)
      have hd : decide (((keys.getD i 0 : Nat) : Int) < ((keys.getD j 0 : Nat) : Int)) = ltK keys i j := by
        unfold ltK
        exact decide_eq_decide.mpr (by omega)
      rw [hd]
      exact hC
  · refine .list_of hp ?_
    have rr := reps_sel (rl.keeps k.ext) (is := (evalK (ltK keys) (kas_sort keys.length)).toList) (fun i hi => by rw [List.length_map]; exact hsm i hi)
    have e : out.map (keyD W) = (evalK (ltK keys) (kas_sort keys.length)).toList.map fun i => (keys.map (keyD W)).getD i .none := by
      rw [← S.out, List.map_map]
      refine List.map_congr_left fun i hi => ?_
      show keyD W (keys.getD i 0) = _
      rw [List.getD_eq_getElem?_getD, List.getD_eq_getElem?_getD, List.getElem?_map, List.getElem?_eq_getElem (hsm i hi)]; rfl
    rw [e]
    simpa using rr
end
/- part K9 -/
section
variable {w : World} {A : Around} {env : Env} {ρ : Rho}
noncomputable def pairT (p : PyData × PyData) : PyData := .tuple [p.1, p.2]
noncomputable def sndT : PyData → PyData
  | .tuple [_, b] => b
  | x => x
/-- the seconds of pairs -/
theorem ev_compP {iter : PySem.Expr} {x y : Str} {px py pt pe : Pos} {kt : Nat} {scope : Scope} {pos : Pos} {ps : List (PyData × PyData)} {d : Nat}
    (r : Rm d A) (he : EnvOk env) (src : Src w A env ρ iter (ps.map pairT)) (hz : ps.length ≤ 100000) (hflat : ∀ p ∈ ps, Mine.flat p.2 = true)
    (hkind : scope.kind = .function) (hfree : ∀ y ∈ scope.names, y.2 ≠ .free) (hcell : ∀ y ∈ scope.names, y.2 ≠ .cell) (hnames : ∀ y ∈ scope.names, y.2 = .local → scope.names.lookup y.1 = some .local)
    (hx : (recell scope.names).lookup x = some .local) (hy : (recell scope.names).lookup y = some .local) (hdbg : (y == ("__debug__" : Str)) = false)
    (hs : ∀ v, foldedSetIterable iter env v = pure v := by intro _; rfl) :
    Evs w A env ρ (.ListComp (.Name y pe) [⟨.Tuple [.Name x px, .Name y py] kt pt, iter, [], 0⟩] scope pos) (.list (ps.map (·.2))) := ⟨fun s E c => by
  have hin : ∀ t ∈ ps.map pairT, ∃ p ∈ ps, t = pairT p := fun t ht => let ⟨p, h1, h2⟩ := List.mem_map.mp ht; ⟨p, h1, h2.symm⟩
  have e : ps.map (·.2) = ((ps.map pairT).filter fun _ => true).map sndT := by
    rw [filt_true, List.map_map]
    rfl
  rw [eval_ListComp, e]
  refine comp_core (fun _ => true) sndT [] r he src (by rw [List.length_map]; exact hz) hkind (fun y h1 h2 => absurd h2 (hfree y h1)) hcell hnames (fun t => [(y, sndT t)]) (fun t ht => ?_) (List.forall_mem_nil _) (fun t ht cenv hce => tstl_nil) (fun t ht _ cenv hce => ev_name hce.ok (.head _)) (fun t ht _ => ?_) hs c fun D C m' s' k rp hn hC hD => ?_
  · obtain ⟨p, hp, rfl⟩ := hin t ht
    exact ctg_pair r hx hy hdbg (hflat p hp)
  · obtain ⟨p, hp, rfl⟩ := hin t ht
    have hf := hflat p hp
    show fl2 p.2 = true
    cases hq : p.2 with
    | list xs => rw [hq] at hf; cases hf
    | tuple xs => rw [hq] at hf; cases hf
    | dict xs => rw [hq] at hf; cases hf
    | _ => rfl
  · refine ⟨m', hn, fun h' hs' => ⟨⟨h', s'.toks, ?_, fun b o e => hs'.extBut b o ?_ (k.ext b o e)⟩, rp.kseq fun b o xs n e hd => hs'.extBut b o (ns_seq hn e hd) e⟩⟩
    · obtain ⟨hh, tt, e, _⟩ := k
      rw [e]
    · rintro rfl; rw [hC] at e; cases e⟩
end
/- part Q1 -/
noncomputable def lensB (b : Bool) : List Int := if b then [31, 29, 31, 30, 31, 30, 31, 31, 30, 31, 30, 31] else [31, 28, 31, 30, 31, 30, 31, 31, 30, 31, 30, 31]
noncomputable def aheadN (b : Bool) (m : Nat) : Nat := (if b then [0, 31, 60, 91, 121, 152, 182, 213, 244, 274, 305, 335] else [0, 31, 59, 90, 120, 151, 181, 212, 243, 273, 304, 334]).getD m 0
noncomputable def hasN (b : Bool) (dd m : Nat) : Bool := decide (((28 + dd : Nat) : Int) ≤ (lensB b).getD m 0)
noncomputable def wkN (b : Bool) (f m : Nat) : Nat := (f + aheadN b m) % 7
noncomputable def allN (b : Bool) (dd : Nat) : List Nat := (List.range 12).filter (hasN b dd)
noncomputable def onN (b : Bool) (dd f k : Nat) : List Nat := (List.range 12).filter fun i => hasN b dd i && wkN b f i == k
noncomputable def sumS (b : Bool) (dd f k : Nat) : Int := ((onN b dd f k).map fun i => rightsL.getD i 0).sum
noncomputable def keysN (b : Bool) (dd f : Nat) : List Nat := (List.range 7).flatMap (onN b dd f)
noncomputable def sortsB (keys out : List Nat) : Bool := decide (2 ≤ keys.length) && decide (keys.length < 64) && decide keys.Nodup && apartK keys.length (ltK keys) (kas_sort keys.length) && ((evalK (ltK keys) (kas_sort keys.length)).toList.all fun i => decide (i < keys.length)) &&
  decide ((evalK (ltK keys) (kas_sort keys.length)).toList.map (fun i => keys.getD i 0) = out)
theorem sorts_of {keys out : List Nat} (h : sortsB keys out = true) : Sorts keys out := by
  unfold sortsB at h
  simp only [Bool.and_eq_true, decide_eq_true_eq] at h
  obtain ⟨⟨⟨⟨⟨a, b⟩, c⟩, d⟩, e⟩, f⟩ := h
  exact ⟨a, b, c, d, e, f⟩
theorem ahead_is : ∀ b : Bool, ∀ m : Nat, m < 12 → (pickL (lensB b) none (some (m : Int)) none).sum = (aheadN b m : Int) := by decide +kernel
theorem core_parts : ∀ b : Bool, ∀ dd : Nat, dd < 4 → ∀ f : Nat, f < 7 → ∀ k : Nat, k < 7 → Builtin.bitAnd ((partsL (lensB b)).getD (((k : Int) - (f : Int)) % 7).toNat 0) (thereL (lensB b) ((28 + dd : Nat) : Int)).sum = sumS b dd f k := by decide +kernel
theorem core_bits : ∀ b : Bool, ∀ dd : Nat, dd < 4 → ∀ f : Nat, f < 7 → ∀ k : Nat, k < 7 → ((List.range 12).filter fun j => sumS b dd f k / 2 ^ (11 - j) % 2 == 1) = onN b dd f k := by decide +kernel
theorem core_small : ∀ b : Bool, ∀ dd : Nat, dd < 4 → ∀ f : Nat, f < 7 → ∀ k : Nat, k < 7 → 0 ≤ sumS b dd f k ∧ sumS b dd f k < 4096 := by decide +kernel
/- part Q2 -/
theorem xor_aux {x y a b p q A : Int} (hx : x = 2 * a + p) (hy : y = 2 * b + q) : x + y - 2 * (2 * A) = 2 * (a + b - 2 * A) + (p + q) := by omega
theorem xor_half (x y : Int) : Builtin.bitXor x y = 2 * Builtin.bitXor (x / 2) (y / 2) + (if x % 2 = y % 2 then 0 else 1) := by
  rw [bitXor_and, bitXor_and, kbt_halves]
  generalize Builtin.bitAnd (x / 2) (y / 2) = A
  have e := xor_aux (A := A) (Int.mul_ediv_add_emod x 2).symm (Int.mul_ediv_add_emod y 2).symm
  rcases Int.emod_two_eq x with h | h <;> rcases Int.emod_two_eq y with g | g <;> rw [h, g] at e ⊢
  · rw [if_neg (fun q => absurd q.1 (by decide)), if_pos rfl, Int.add_zero, e]; rfl
  · rw [if_neg (fun q => absurd q.1 (by decide)), if_neg (by decide), Int.add_zero, e]; rfl
  · rw [if_neg (fun q => absurd q.2 (by decide)), if_neg (by decide), Int.add_zero, e]; rfl
  · rw [if_pos ⟨rfl, rfl⟩, if_pos rfl, Int.mul_add, ← Int.sub_sub, e]; omega
theorem xor_quot (x y : Int) : Builtin.bitXor x y / 2 = Builtin.bitXor (x / 2) (y / 2) ∧ Builtin.bitXor x y % 2 = if x % 2 = y % 2 then 0 else 1 := by
  rw [xor_half]
  split
  · rw [Int.add_zero]; exact ⟨Int.mul_ediv_cancel_left _ (by decide), Int.mul_emod_right _ _⟩
  · exact ⟨odd_half _, odd_mod _⟩
theorem xor_div (x y : Int) : ∀ j : Nat, Builtin.bitXor x y / 2 ^ j = Builtin.bitXor (x / 2 ^ j) (y / 2 ^ j)
  | 0 => by rw [Int.pow_zero, Int.ediv_one, Int.ediv_one, Int.ediv_one]
  | j + 1 => by
    rw [Int.pow_succ, ← Int.ediv_ediv_of_nonneg (Int.le_of_lt (kbt_pos j)), ← Int.ediv_ediv_of_nonneg (Int.le_of_lt (kbt_pos j)), ← Int.ediv_ediv_of_nonneg (Int.le_of_lt (kbt_pos j)), xor_div x y j, (xor_quot _ _).1]
theorem xor_mod (x y : Int) : Builtin.bitXor x y % 2 = if x % 2 = y % 2 then 0 else 1 := (xor_quot x y).2
theorem xor_bit (x y : Int) (j : Nat) : (Builtin.bitXor x y / 2 ^ j % 2 == 1) = ((x / 2 ^ j % 2 == 1) != (y / 2 ^ j % 2 == 1)) := by
  rw [xor_div, xor_mod]
  generalize x / 2 ^ j = a
  generalize y / 2 ^ j = b
  rcases Int.emod_two_eq a with ha | ha <;> rcases Int.emod_two_eq b with hb | hb <;> rw [ha, hb] <;> rfl
theorem xor_small {x y : Int} (hx : 0 ≤ x ∧ x < 4096) (hy : 0 ≤ y ∧ y < 4096) : 0 ≤ Builtin.bitXor x y ∧ Builtin.bitXor x y < 4096 := by
  have h := xor_div x y 12
  rw [show (2 : Int) ^ 12 = 4096 from rfl, show x / 4096 = 0 by omega, show y / 4096 = 0 by omega, bitXor_self] at h
  omega

theorem join_one : ∀ cs : List Nat, Txt.join "" (cs.map fun c => (⟨#[c]⟩ : Str)) = ⟨cs.toArray⟩ := fun cs => by
  unfold Txt.join
  rw [StrLaws.glued_eq_join]
  apply str_ext
  induction cs with
  | nil => rfl
  | cons c cs ih =>
    cases cs with
    | nil => rfl
    | cons e cs =>
      simp only [List.map_cons, Str.join, Str.cps_append, Array.toList_append] at ih ⊢
      rw [ih]
      rfl
noncomputable def sg (n c : Int) (a b : Nat) : Nat := if n / c % 2 = 1 then a else b
noncomputable def sx (n c e : Int) (a b s d : Nat) : Nat := if n / c % 2 = 1 then (if n / e % 2 = 1 then a else b) else (if n / e % 2 = 1 then s else d)
theorem row_cps {n : Int} (h0 : 0 ≤ n) (h1 : n < 65536) : rowS n 3 = ⟨#[("?pc?d?b?-?l?s???" : Str).cps.toList.getD (n / 4096 % 16).toNat 0, sg n 256 114 45, sg n 128 119 45, sx n 2048 64 115 83 120 45, sg n 32 114 45, sg n 16 119 45, sx n 1024 8 115 83 120 45, sg n 4 114 45, sg n 2 119 45, sx n 512 1 116 84 120 45]⟩ := by
  have r1 : ∀ c : Int, (if n / c % 2 = 1 then ("r" : Str) else "-") = ⟨#[sg n c 114 45]⟩ := fun c => by unfold sg; split <;> rfl
  have w1 : ∀ c : Int, (if n / c % 2 = 1 then ("w" : Str) else "-") = ⟨#[sg n c 119 45]⟩ := fun c => by unfold sg; split <;> rfl
  have s1 : ∀ c e : Int, (if n / c % 2 = 1 then (if n / e % 2 = 1 then ("s" : Str) else "S") else (if n / e % 2 = 1 then "x" else "-")) = ⟨#[sx n c e 115 83 120 45]⟩ := fun c e => by unfold sx; split <;> split <;> rfl
  have t1 : ∀ c e : Int, (if n / c % 2 = 1 then (if n / e % 2 = 1 then ("t" : Str) else "T") else (if n / e % 2 = 1 then "x" else "-")) = ⟨#[sx n c e 116 84 120 45]⟩ := fun c e => by unfold sx; split <;> split <;> rfl
  rw [← files_row h0 h1, files_is h0, r1, r1, r1, w1, w1, w1, s1, s1, t1]
  exact join_one [("?pc?d?b?-?l?s???" : Str).cps.toList.getD (n / 4096 % 16).toNat 0, sg n 256 114 45, sg n 128 119 45, sx n 2048 64 115 83 120 45, sg n 32 114 45, sg n 16 119 45, sx n 1024 8 115 83 120 45, sg n 4 114 45, sg n 2 119 45, sx n 512 1 116 84 120 45]
noncomputable def bitB (n c : Int) : Bool := n / c % 2 == 1
theorem bit_cases (n c : Int) : n / c % 2 = 1 ∨ n / c % 2 = 0 := (Int.emod_two_eq _).symm
theorem rights_row {n : Int} (h0 : 0 ≤ n) (h1 : n < 65536) : rightsB (rowS n 3) = [bitB n 2048, bitB n 1024, bitB n 512, bitB n 256, bitB n 128, bitB n 64, bitB n 32, bitB n 16, bitB n 8, bitB n 4, bitB n 2, bitB n 1] := by
  have a1 : ∀ c e : Int, decide (sx n c e 115 83 120 45 ∈ [115, 83, 116, 84]) = bitB n c := fun c e => by
    unfold sx bitB
    rcases bit_cases n c with h | h <;> rcases bit_cases n e with g | g <;> rw [h, g] <;> rfl
  have a2 : ∀ c e : Int, decide (sx n c e 116 84 120 45 ∈ [115, 83, 116, 84]) = bitB n c := fun c e => by
    unfold sx bitB
    rcases bit_cases n c with h | h <;> rcases bit_cases n e with g | g <;> rw [h, g] <;> rfl
  have b1 : ∀ c e : Int, decide (sx n c e 115 83 120 45 ∈ [114, 119, 120, 115, 116]) = bitB n e := fun c e => by
    unfold sx bitB
    rcases bit_cases n c with h | h <;> rcases bit_cases n e with g | g <;> rw [h, g] <;> rfl
  have b2 : ∀ c e : Int, decide (sx n c e 116 84 120 45 ∈ [114, 119, 120, 115, 116]) = bitB n e := fun c e => by
    unfold sx bitB
    rcases bit_cases n c with h | h <;> rcases bit_cases n e with g | g <;> rw [h, g] <;> rfl
  have c1 : ∀ c : Int, decide (sg n c 114 45 ∈ [114, 119, 120, 115, 116]) = bitB n c := fun c => by
    unfold sg bitB
    rcases bit_cases n c with h | h <;> rw [h] <;> rfl
  have c2 : ∀ c : Int, decide (sg n c 119 45 ∈ [114, 119, 120, 115, 116]) = bitB n c := fun c => by
    unfold sg bitB
    rcases bit_cases n c with h | h <;> rw [h] <;> rfl
  rw [row_cps h0 h1]
  show [decide (sx n 2048 64 115 83 120 45 ∈ [115, 83, 116, 84]), decide (sx n 1024 8 115 83 120 45 ∈ [115, 83, 116, 84]), decide (sx n 512 1 116 84 120 45 ∈ [115, 83, 116, 84]), decide (sg n 256 114 45 ∈ [114, 119, 120, 115, 116]), decide (sg n 128 119 45 ∈ [114, 119, 120, 115, 116]), decide (sx n 2048 64 115 83 120 45 ∈ [114, 119, 120, 115, 116]),
    decide (sg n 32 114 45 ∈ [114, 119, 120, 115, 116]), decide (sg n 16 119 45 ∈ [114, 119, 120, 115, 116]), decide (sx n 1024 8 115 83 120 45 ∈ [114, 119, 120, 115, 116]), decide (sg n 4 114 45 ∈ [114, 119, 120, 115, 116]), decide (sg n 2 119 45 ∈ [114, 119, 120, 115, 116]), decide (sx n 512 1 116 84 120 45 ∈ [114, 119, 120, 115, 116])] = _
  rw [a1, a1, a2, c1, c2, b1, c1, c2, b1, c1, c2, b2]
/- part Q3 -/
/-- a year, a day, a first weekday, by three small numbers -/
structure Small (y d f : Int) (b : Bool) (dd ff : Nat) : Prop where
  len : lengths y = lensB b
  ddl : dd < 4
  ffl : ff < 7
  fe : f = (ff : Int)
  has : ∀ m : Nat, m < 12 → hasM y d m = hasN b dd m
theorem small_of {y d c m f : Int} {z : Str} (G : Given y d c m f z) : ∃ b dd ff, Small y d f b dd ff := by
  have hb : ∃ b, lengths y = lensB b := by
    unfold lengths
    split
    · exact ⟨true, rfl⟩
    · exact ⟨false, rfl⟩
  obtain ⟨b, hb⟩ := hb
  have h28 : ∀ m : Nat, m < 12 → 28 ≤ (lensB b).getD m 0 := by cases b <;> decide +kernel
  have hf := tn (n := 7) ⟨G.f0, G.f1⟩
  have hfe := (Int.toNat_of_nonneg G.f0).symm
  have key : ∀ dd : Nat, dd < 4 → (∀ m : Nat, m < 12 → (d ≤ (lensB b).getD m 0 ↔ ((28 + dd : Nat) : Int) ≤ (lensB b).getD m 0)) → ∃ b dd ff, Small y d f b dd ff := fun dd h1 h2 =>
    ⟨b, dd, f.toNat, hb, h1, hf, hfe, fun m hm => by
      unfold hasM hasN
      rw [hb]
      exact decide_eq_decide.mpr (h2 m hm)⟩
  have hd := G.d1
  rcases (show d ≤ 28 ∨ d = 29 ∨ d = 30 ∨ d = 31 by omega) with h | rfl | rfl | rfl
  · exact key 0 (by decide) fun m hm => ⟨fun _ => h28 m hm, fun _ => Int.le_trans h (h28 m hm)⟩
  · exact key 1 (by decide) fun m hm => Iff.rfl
  · exact key 2 (by decide) fun m hm => Iff.rfl
  · exact key 3 (by decide) fun m hm => Iff.rfl
section
variable {y d c m f : Int} {z : Str} {b : Bool} {dd ff : Nat}
theorem wk_is (S : Small y d f b dd ff) {i : Nat} (hi : i < 12) : wkM y f i = (wkN b ff i : Int) := by
  unfold wkM wkN aheadM
  rw [S.len, ahead_is b i hi, S.fe]
  rfl
theorem has_filter (S : Small y d f b dd ff) : (List.range 12).filter (hasM y d) = allN b dd :=
  List.filter_congr fun i hi => S.has i (List.mem_range.mp hi)
theorem there_is (S : Small y d f b dd ff) : thereL (lengths y) d = thereL (lensB b) ((28 + dd : Nat) : Int) := by
  unfold thereL
  rw [S.len]
  congr 1
  refine List.filter_congr fun k hk => ?_
  have h1 := mem_intz.mp hk
  have := S.has k.toNat (tn h1)
  unfold hasM hasN at this
  rw [S.len] at this
  exact this
noncomputable def kindN (k : Nat) : Int := [1, 2, 4, 6, 8, 10, 12].getD k 0
noncomputable def numK (m : Int) (b : Bool) (dd ff k : Nat) : Int := kindN k * 4096 + Builtin.bitXor (sumS b dd ff k) m
theorem listing_is (S : Small y d f b dd ff) : listing (lengths y) d f m = (List.range 7).map (numK m b dd ff) := by
  unfold listing intz
  rw [List.map_map]
  refine List.map_congr_left fun k hk => ?_
  have h1 := List.mem_range.mp hk
  show [1, 2, 4, 6, 8, 10, 12].getD ((k : Int)).toNat 0 * 4096 + Builtin.bitXor (Builtin.bitAnd ((partsL (lengths y)).getD (((k : Int) - f) % 7).toNat 0) (thereL (lengths y) d).sum) m = _
  rw [there_is S, S.len, S.fe, core_parts b dd S.ddl ff S.ffl k h1, show ((k : Int)).toNat = k from rfl]
  rfl
theorem num_at (S : Small y d f b dd ff) {k : Nat} (hk : k < 7) : (listing (lengths y) d f m).getD k 0 = numK m b dd ff k := by
  rw [listing_is S, List.getD_eq_getElem?_getD, List.getElem?_map, List.getElem?_range hk]; rfl
theorem kind_rng : ∀ k : Nat, k < 7 → 1 ≤ kindN k ∧ kindN k ≤ 12 := by decide +kernel
theorem num_parts {k x : Int} (hk : 1 ≤ k ∧ k ≤ 12) (hx : 0 ≤ x ∧ x < 4096) : 0 ≤ k * 4096 + x ∧ k * 4096 + x < 65536 ∧ (k * 4096 + x) / 4096 = k ∧ (k * 4096 + x) % 4096 = x := by
  refine ⟨Int.add_nonneg (Int.mul_nonneg (Int.le_trans (by decide) hk.1) (by decide)) hx.1, by omega, ?_, ?_⟩
  · rw [Int.add_comm, Int.add_mul_ediv_right _ _ (by decide), Int.ediv_eq_zero_of_lt hx.1 hx.2, Int.zero_add]
  · rw [Int.add_comm, Int.add_mul_emod_self_right, Int.emod_eq_of_lt hx.1 hx.2]
theorem num_rng (G : Given y d c m f z) (S : Small y d f b dd ff) {k : Nat} (hk : k < 7) : 0 ≤ numK m b dd ff k ∧ numK m b dd ff k < 65536 ∧ numK m b dd ff k / 4096 = kindN k ∧ numK m b dd ff k % 4096 = Builtin.bitXor (sumS b dd ff k) m := by
  exact num_parts (kind_rng k hk) (xor_small (core_small b dd S.ddl ff S.ffl k hk) G.mm)
theorem law_N (G : Given y d c m f z) (S : Small y d f b dd ff) : ∀ n ∈ listing (lengths y) d f m, 0 ≤ n ∧ n < 65536 := by
  intro n hn
  rw [listing_is S] at hn
  obtain ⟨k, hk, rfl⟩ := List.mem_map.mp hn
  have := num_rng (m := m) G S (List.mem_range.mp hk)
  exact ⟨this.1, this.2.1⟩

theorem mon_idx : ∀ i : Nat, i < 12 → monIdx (moonNames.getD i "") = i := by decide +kernel
theorem day_eq : ∀ i : Nat, i < 7 → ∀ k : Nat, k < 7 → (dayNames.getD i "" == dayNames.getD k "") = (i == k) := by decide +kernel
theorem kinds_is : ∀ k : Nat, k < 7 → kinds7.getD k 0 = kindN k * 4096 := by decide +kernel
theorem found_is (G : Given y d c m f z) (S : Small y d f b dd ff) {k : Nat} (hk : k < 7) : foundL (datesL y d c f z 12) k = (onN b dd ff k).map fun i => rightsL.getD i 0 := by
  unfold foundL
  rw [dates_eq G, has_filter S, List.filter_map, List.map_map]
  unfold allN onN
  rw [List.filter_filter]
  have e : ∀ i ∈ List.range 12, (((fun t => Txt.slice t none (some 3) == dayNames.getD k "") ∘ fun i : Nat => dateS y i d c (wkM y f i) z) i && hasN b dd i) = (hasN b dd i && wkN b ff i == k) := fun i hi => by
    have h12 := List.mem_range.mp hi
    have hw := wk_is S h12
    show (Txt.slice (dateS y i d c (wkM y f i) z) none (some 3) == dayNames.getD k "" && hasN b dd i) = _
    rw [date_day (nat_in h12) ⟨wk_lo _ _ _, wk_hi _ _ _⟩, hw, show ((wkN b ff i : Nat) : Int).toNat = wkN b ff i from rfl, day_eq (wkN b ff i) (Nat.mod_lt _ (by decide)) k hk, Bool.and_comm]
  rw [List.filter_congr e]
  refine List.map_congr_left fun i hi => ?_
  have h12 := List.mem_range.mp (List.mem_filter.mp hi).1
  show rightsL.getD (monIdx (Txt.slice (dateS y i d c (wkM y f i) z) (some 8) (some 11))) 0 = _
  rw [date_moon (nat_in h12) ⟨wk_lo _ _ _, wk_hi _ _ _⟩ (wid G.dd), show ((i : Int)).toNat = i from rfl, mon_idx i h12]
theorem law_M (G : Given y d c m f z) (S : Small y d f b dd ff) : modesL (datesL y d c f z 12) m 7 = listing (lengths y) d f m := by
  rw [listing_is S]
  unfold modesL
  refine List.map_congr_left fun k hk => ?_
  have h1 := List.mem_range.mp hk
  unfold modeAt numK
  rw [found_is G S h1, kinds_is k h1]
  rfl
theorem asked_kinds : ∀ k : Nat, k < 7 → (kinds7.map fun c => twoB (kindN k * 4096 == c)) = (intz 7).map fun j => PyData.tuple [.bool (j == (k : Int)), .bool (j != (k : Int))] := by
  intro k hk
  match k, hk with
  | 0, _ => rfl
  | 1, _ => rfl
  | 2, _ => rfl
  | 3, _ => rfl
  | 4, _ => rfl
  | 5, _ => rfl
  | 6, _ => rfl
theorem law_A (G : Given y d c m f z) (S : Small y d f b dd ff) : ∀ k, k < 7 → asked ((listing (lengths y) d f m).getD k 0) = (intz 7).map fun j => .tuple [.bool (j == (k : Int)), .bool (j != (k : Int))] := by
  intro k hk
  have h := num_rng (m := m) G S hk
  have h2 := kind_rng k hk
  rw [num_at S hk, asked_is, h.2.2.1, show kindN k % 16 = kindN k by omega]
  exact asked_kinds k hk
theorem sign_is {n : Int} (h0 : 0 ≤ n) (h1 : n < 65536) : chAt (rowS n 3) 0 = chAt "?pc?d?b?-?l?s???" (n / 4096) := by
  rw [row_cps h0 h1, show n / 4096 % 16 = n / 4096 by omega]
  rfl
theorem occ_kinds : ∀ k : Nat, k < 7 → Builtin.Str.occurrences "pcdb-ls" (chAt "?pc?d?b?-?l?s???" (kindN k)) 0 ("pcdb-ls" : Str).length 1 = [k] := by decide +kernel
theorem law_I (G : Given y d c m f z) (S : Small y d f b dd ff) : ∀ k, k < 7 → ∃ rest, Builtin.Str.occurrences "pcdb-ls" (chAt (rowS ((listing (lengths y) d f m).getD k 0) 3) 0) 0 ("pcdb-ls" : Str).length 1 = k :: rest := by
  intro k hk
  have h := num_rng (m := m) G S hk
  rw [num_at S hk, sign_is h.1 h.2.1, h.2.2.1]
  exact ⟨[], occ_kinds k hk⟩
end
/- part Q4 -/
theorem pow_fit : ∀ i : Nat, i < 12 → (4096 : Int) = 2 ^ (11 - i) * (2 * 2 ^ i) := by decide
theorem bits_at {n : Int} (h0 : 0 ≤ n) (h1 : n < 65536) {i : Nat} (hi : i < 12) : (rightsB (rowS n 3)).getD i false = (n % 4096 / 2 ^ (11 - i) % 2 == 1) := by
  have e : rightsB (rowS n 3) = (List.range 12).map fun i => bitB n (2 ^ (11 - i)) := (rights_row h0 h1).trans rfl
  rw [e, List.getD_eq_getElem?_getD, List.getElem?_map, List.getElem?_range hi, low (kbt_pos _) (pow_fit i hi)]
  rfl
section
variable {y d c m f : Int} {z : Str} {b : Bool} {dd ff : Nat}
theorem months_row {n : Int} (h0 : 0 ≤ n) (h1 : n < 65536) (m : Int) : monthsL (rowS n 3) m = ((List.range 12).filter fun i => ((n % 4096 / 2 ^ (11 - i) % 2 == 1) != (m / 2 ^ (11 - i) % 2 == 1))).map fun i : Nat => (i : Int) := by
  have e : ∀ k ∈ List.range 12, ((fun k : Int => (rightsB (rowS n 3)).getD k.toNat false != (m / 2 ^ (11 - k).toNat % 2 == 1)) ∘ fun i : Nat => (i : Int)) k = ((n % 4096 / 2 ^ (11 - k) % 2 == 1) != (m / 2 ^ (11 - k) % 2 == 1)) := fun k hk => by
    have h12 := List.mem_range.mp hk
    have h := bits_at h0 h1 h12
    generalize rightsB (rowS n 3) = R at h ⊢
    show (R.getD ((k : Int)).toNat false != (m / 2 ^ (11 - (k : Int)).toNat % 2 == 1)) = _
    rw [show ((k : Int)).toNat = k from rfl, show (11 - (k : Int)).toNat = 11 - k by omega, h]
  rw [← List.filter_congr e]
  unfold monthsL intz
  exact List.filter_map
theorem months_xor {n s : Int} (h0 : 0 ≤ n) (h1 : n < 65536) (m : Int) (h2 : n % 4096 = Builtin.bitXor s m) : monthsL (rowS n 3) m = ((List.range 12).filter fun i => (s / 2 ^ (11 - i) % 2 == 1)).map fun i : Nat => (i : Int) := by
  rw [months_row h0 h1, h2]
  refine congrArg _ (List.filter_congr fun i hi => ?_)
  rw [xor_bit]
  cases (s / 2 ^ (11 - i) % 2 == 1) <;> cases (m / 2 ^ (11 - i) % 2 == 1) <;> rfl
theorem months_is (G : Given y d c m f z) (S : Small y d f b dd ff) {k : Nat} (hk : k < 7) : monthsK (listing (lengths y) d f m) m k = (onN b dd ff k).map fun i : Nat => (i : Int) := by
  have h := num_rng (m := m) G S hk
  have e : monthsK (listing (lengths y) d f m) m k = monthsL (rowS (numK m b dd ff k) 3) m := congrArg (fun n => monthsL (rowS n 3) m) (num_at S hk)
  exact e.trans ((months_xor h.1 h.2.1 m h.2.2.2).trans (congrArg _ (core_bits b dd S.ddl ff S.ffl k hk)))
noncomputable def anewS (y d c f : Int) (z : Str) (i : Nat) : Str := dateS y i d c ((wkM y f i + 1) % 7) z
theorem again_step {nums : List Int} {k : Nat} {ks on : List Nat} {K : Nat → PyData} (h1 : againL y d c m z nums k = ks.map K) (h2 : monthsK nums m k = on.map fun i : Nat => (i : Int)) (h3 : ∀ i ∈ on, anewK y d c z k (i : Int) = K i) :
    againL y d c m z nums (k + 1) = (ks ++ on).map K := by
  show againL y d c m z nums k ++ (monthsK nums m k).map (anewK y d c z k) = _
  rw [h1, h2, List.map_append, List.map_map]
  exact congrArg _ (List.map_congr_left h3)
theorem anew_is (G : Given y d c m f z) (S : Small y d f b dd ff) {k i : Nat} (hi : i ∈ onN b dd ff k) : anewK y d c z k (i : Int) = keyD (anewS y d c f z) i := by
  obtain ⟨h1, h2⟩ := List.mem_filter.mp hi
  have h12 := List.mem_range.mp h1
  rw [Bool.and_eq_true, beq_iff_eq] at h2
  have hw : ((k : Int) + 1) % 7 = (wkM y f i + 1) % 7 := by rw [wk_is S h12, h2.2]
  show PyData.tuple [.int (i : Int), .str (writtenS y i d c (((k : Int) + 1) % 7) z)] = PyData.tuple [.int (i : Int), .str (dateS y i d c ((wkM y f i + 1) % 7) z)]
  rw [hw, written_eq G.yy (nat_in h12) G.dd G.cc (bd _)]
theorem flat_range (g : Nat → List Nat) (k : Nat) : (List.range (k + 1)).flatMap g = (List.range k).flatMap g ++ g k := by
  rw [List.range_succ, List.flatMap_append, List.flatMap_cons, List.flatMap_nil, List.append_nil]
theorem again_is (G : Given y d c m f z) (S : Small y d f b dd ff) (n : Nat) : n ≤ 7 → againL y d c m z (listing (lengths y) d f m) n = ((List.range n).flatMap (onN b dd ff)).map (keyD (anewS y d c f z)) := by
  generalize hl : listing (lengths y) d f m = nums
  induction n with
  | zero => intro _; rfl
  | succ k ih =>
    intro hk
    have hk7 : k < 7 := hk
    have h2 : monthsK nums m k = (onN b dd ff k).map fun i : Nat => (i : Int) := hl ▸ months_is G S hk7
    rw [flat_range]
    exact again_step (ih (Nat.le_of_lt hk7)) h2 fun i hi => anew_is G S hi
theorem want_is (S : Small y d f b dd ff) : wantedL y d c f z 12 = (allN b dd).map (anewS y d c f z) := by
  unfold wantedL
  rw [has_filter S]; rfl
end
/- part Q5 -/
theorem sorts_0 : ∀ b : Bool, ∀ ff : Nat, ff < 7 → sortsB (keysN b 0 ff) (allN b 0) = true := by decide +kernel
theorem sorts_1 : ∀ b : Bool, ∀ ff : Nat, ff < 7 → sortsB (keysN b 1 ff) (allN b 1) = true := by decide +kernel
theorem sorts_2 : ∀ b : Bool, ∀ ff : Nat, ff < 7 → sortsB (keysN b 2 ff) (allN b 2) = true := by decide +kernel
theorem sorts_3 : ∀ b : Bool, ∀ ff : Nat, ff < 7 → sortsB (keysN b 3 ff) (allN b 3) = true := by decide +kernel
theorem law_S (b : Bool) {dd ff : Nat} (h1 : dd < 4) (h2 : ff < 7) : Sorts (keysN b dd ff) (allN b dd) := by
  refine sorts_of ?_
  match dd, h1 with
  | 0, _ => exact sorts_0 b ff h2
  | 1, _ => exact sorts_1 b ff h2
  | 2, _ => exact sorts_2 b ff h2
  | 3, _ => exact sorts_3 b ff h2
/- part K10 -/
theorem b_sorted (w : World) : Bts w "sorted" (.builtin "sorted") := ⟨by k_is, PyProof.Rows.Boot.«sorted», by decide, by decide⟩
theorem law_5 {w : World} {A : Around} {env : Env} {s₀ : Shared} {e : Nat} (r : Rm (e + 3) A) (he : EnvOk env) (hs : env.scope = lawS) (hc : env.cells = cellsFrom (env.locals + 1) lawS.names []) {keys out : List Nat} {W : Nat → Str} (S : Sorts keys out) (hz : out.length ≤ 100000) (hok : ∀ k ∈ out, PyData.strOk (W k) = true)
    {ρ : Rho} (h1 : (Str.ofString "again", PyData.list (keys.map (keyD W))) ∈ ρ) (h2 : (Str.ofString "wanted", PyData.list ((out.map W).map .str)) ∈ ρ) : Blk w A env ρ s₀ (lawB.drop 22) (.bool true) := by
  have e1 : out.map (keyD W) = (out.map fun k : Nat => ((PyData.int (k : Int), PyData.str (W k)) : PyData × PyData)).map pairT := by rw [List.map_map]; rfl
  refine blk_return (ev_cmp (ev_compP (ps := out.map fun k : Nat => ((PyData.int (k : Int), PyData.str (W k)) : PyData × PyData)) r he (src_list r (e1 ▸ ev_bi he (b_sorted w) (kind_of hs rfl) (ev_name he h1) (bi_sorted S))) (by rw [List.length_map]; exact hz) ?g1
    rfl (by decide) (by decide) (by decide) rfl rfl (by decide)) (ev_name he h2) (eq_same r ?g3 ?g4))
  case g1 =>
    intro p hp
    obtain ⟨k, _, rfl⟩ := List.mem_map.mp hp
    rfl
  case g3 =>
    intro x hx
    rw [List.map_map] at hx
    obtain ⟨k, hk, rfl⟩ := List.mem_map.mp hx
    exact hok k hk
  case g4 => rw [List.map_map, List.map_map]; rfl

theorem law_fn {w : World} {A : Around} {d : Nat} (r : Rm (d + 5) A) {ns : List Int} (hn : ns.length ≤ 63) : Fn w A 175 [.list (ns.map .int)] (.bool true) := by
  refine law_of (d := d + 4) r fun s env he hs hc => ?_
  have r1 := (r.le (e := d + 4 + 1) (by omega)).deeper env
  refine law_1 (d := d + 3) r1 he hs hc hn fun y dd c m f z G => ?_
  have r2 : Rm (d + 1 + 3) (A.deeper env) := r1.le (by omega)
  obtain ⟨b, kk, ff, S⟩ := small_of G
  refine law_2 (e := d + 1) r2 he hs hc G (law_3 (e := d + 1) r2 he hs hc G (law_M G S) (law_N G S) fun ρ hρ => law_4 (e := d + 1) r2 he hs hc G (law_A G S) (law_I G S) (fun ρ' h1 h2 => ?_) ?hsub)
  case hsub => exact fun p hp => hρ p ((show ∀ p ∈ rhoE y dd c m f z, p ∈ ((Str.ofString "rows", PyData.list (((listing (lengths y) dd f m).map fun n => rowS n 3).map .str)) :: (Str.ofString "modes", PyData.list ((listing (lengths y) dd f m).map .int)) :: (Str.ofString "wanted", PyData.list ((wantedL y dd c f z 12).map .str)) :: rhoB y dd c m f z : Rho) by (repeat (first | exact List.forall_mem_nil _ | refine List.forall_mem_cons.mpr ⟨by (repeat (first | exact List.Mem.head _ | refine List.Mem.tail _ ?_)), ?_⟩))) p hp)
  rw [again_is G S 7 (Nat.le_refl _)] at h1
  rw [want_is S] at h2
  refine law_5 (e := d + 1) r2 he hs hc (law_S b S.ddl S.ffl) (Nat.le_trans (List.length_filter_le _ _) (by decide)) (fun k hk => ?_) h1 h2
  exact date_ok G.yy G.dd G.cc G.zo
/- the end -/
theorem fill_J (P : Params) : PySem.Challenge.rw_pm0018_01.foot = 9 ∧ hd.heap_39 P = hd.heap_39 P := by
  k_fill
  exact ⟨rfl, rfl⟩
theorem reps_ints {h : Heap} : ∀ {vs : List Value} {ns : List Int}, IntsAre vs ns → Reps h (ns.map PyData.int) vs
  | [], _, .nil => .nil
  | _ :: _, _, .cons n t r => .cons (.int n t) (reps_ints r)

theorem well_plain {P : Params} {h : Heap} {a : Addr} {vs : List Value} {xs : List PyData} (W : Well P h (.ref a) (ofPy (.list xs))) (L : h.IsList a vs.toArray) : h.PlainList a vs.toArray := by
  unfold ofPy at W
  cases W with
  | list h1 h2 =>
    obtain ⟨o, e1, e2, n, e3⟩ := L
    rw [h1] at e1
    cases e1
    cases e3
    exact ⟨_, h1⟩
end
end Mine
set_option maxRecDepth 100000 in
set_option maxHeartbeats 8000000 in
theorem PySem.Challenge.cw_pm0018_01_holds : PySem.Challenge.rw_pm0018_01.Holds :=
  Mine.hd (by
    intro w s₀ s₁ mg mb G Y fa o pm cd doc dV kV ho hd' hcd hD hmg hg args vals as hpre hlay hrd hwl hlo
    have KX := kIn_of Y
    have T := Ground.T G
    wrow_args hpre hlay hrd hwl hlo
    refine enter_call (codeAny_mono ?_ (fun _ _ g => GoodW.toG g))
    have hfa : fa = 175 := by
      have e := mg_of KX T.g (n := "law") (v := .ref 175) (by k_is)
      have e' := hmg.symm.trans e
      cases e'
      rfl
    clear hcd hd' hmg
    subst hfa
    have W := (by assumption : Well w.params s₁.heap _ _)
    have L := (by assumption : s₁.heap.IsList _ _)
    have I := (by assumption : IntsAre _ _)
    have PL := Mine.well_plain W L
    have FL := fun n (h : n ≤ 63) => h
    refine (Mine.law_fn (d := 295) ⟨rfl, by decide, by decide⟩ ?hn).go s₁ _ _ ⟨KX, _, _, _, T⟩ (.cons (Mine.Rep.list_of PL (by simpa using Mine.reps_ints I)) .nil) fun v s' k r => ?_
    case hn => omega
    obtain ⟨h', tk, rfl, kk⟩ := k
    rw [Mine.Rep.bool_inv r]
    refine ⟨.inl ⟨.bool true, .bool true, [], rfl, ?j1, .bool true, ?j2, ?j3⟩, kk, rfl, hg⟩
    case j1 => exact raisesW_false (fun _ h => nomatch h)
    case j3 => exact fun _ => ⟨List.nodup_nil, fun _ h => nomatch h⟩
    case j2 => exact postW_of (by wrow_shape) rfl (same_self _))

