import PyProof.Rows.All
import Wide.All
import OpenK.AllK
import Wide.FinOn
import PySem.Challenge.RW_tv0012_01
open PySem PySem.W PyProof.Rows
set_option Elab.async false

/-! part M1 -/
section
open PySem PySem.W PySem.Spec PySem.Calls PyProof.Rows
set_option Elab.async false
namespace Mine

abbrev Up (h h' : Heap) : Prop := ∀ b o, h.get? b = some o → h'.get? b = some o
theorem Up.rfl' {h : Heap} : Up h h := fun _ _ e => e
theorem Up.tr {h h' h'' : Heap} (x : Up h h') (y : Up h' h'') : Up h h'' := fun b o e => y b o (x b o e)

abbrev listObj (vs : Array Value) (n : Nat) : Obj := { cls := .type "list", data := .seq vs n }
abbrev tupObj (vs : Array Value) (n : Nat) : Obj := { cls := .type "tuple", data := .seq vs n }

/-- the value reads as the datum; no object of it lies at an address of X -/
inductive Rd (X : Addr → Prop) (h : Heap) : Value → PyData → Prop
  | none : Rd X h .none .none
  | bool (b) : Rd X h (.bool b) (.bool b)
  | int (i t) : Rd X h (.int i t) (.int i)
  | str (x t) : Rd X h (.str x t) (.str x)
  | list {a vs n xs} : ¬ X a → h.get? a = some (listObj vs n) → vs.size = xs.length → (∀ (i : Nat) v d, vs[i]? = some v → xs[i]? = some d → Rd X h v d) → Rd X h (.ref a) (.list xs)
  | tuple {a vs n xs} : ¬ X a → h.get? a = some (tupObj vs n) → vs.size = xs.length → (∀ (i : Nat) v d, vs[i]? = some v → xs[i]? = some d → Rd X h v d) → Rd X h (.ref a) (.tuple xs)

theorem Rd.to {X X' : Addr → Prop} {h h' : Heap} {v : Value} {d : PyData} (x : Rd X h v d) (hk : ∀ b o, ¬ X b → h.get? b = some o → h'.get? b = some o)
    (hX : ∀ b o, h.get? b = some o → X' b → X b) : Rd X' h' v d := by
  induction x with
  | none => exact .none
  | bool b => exact .bool b
  | int i t => exact .int i t
  | str x t => exact .str x t
  | list ha ho hl _ ih => exact .list (fun q => ha (hX _ _ ho q)) (hk _ _ ha ho) hl ih
  | tuple ha ho hl _ ih => exact .tuple (fun q => ha (hX _ _ ho q)) (hk _ _ ha ho) hl ih

theorem Rd.up {X : Addr → Prop} {h h' : Heap} {v : Value} {d : PyData} (x : Rd X h v d) (hk : Up h h') : Rd X h' v d := x.to (fun b o _ => hk b o) fun _ _ _ q => q

theorem Rd.weak {X X' : Addr → Prop} {h : Heap} {v : Value} {d : PyData} (x : Rd X h v d) (hX : ∀ b, X' b → X b) : Rd X' h v d := x.to (fun _ _ _ e => e) fun b _ _ q => hX b q

theorem readsAll_of {h : Heap} : ∀ (vs : List Value) (ds : List PyData), vs.length = ds.length → (∀ (i : Nat) v d, vs[i]? = some v → ds[i]? = some d → ∃ as, Reads h v d as) → ∃ as, ReadsAll h vs ds as
  | [], [], _, _ => ⟨_, .nil⟩
  | [], _ :: _, hl, _ => by simp at hl
  | _ :: _, [], hl, _ => by simp at hl
  | v :: vs, d :: ds, hl, hi => by
    obtain ⟨as, q⟩ := hi 0 v d rfl rfl
    obtain ⟨bs, p⟩ := readsAll_of vs ds (by simpa using hl) fun i v d h1 h2 => hi (i + 1) v d (by simpa using h1) (by simpa using h2)
    exact ⟨_, .cons q p⟩

theorem Rd.reads {X : Addr → Prop} {h : Heap} {v : Value} {d : PyData} (x : Rd X h v d) : ∃ as, Reads h v d as := by
  induction x with
  | none => exact ⟨_, .none⟩
  | bool b => exact ⟨_, .bool b⟩
  | int i t => exact ⟨_, .int i t⟩
  | str x t => exact ⟨_, .str x t⟩
  | @list a vs n xs ha ho hl _ ih =>
    obtain ⟨as, q⟩ := readsAll_of vs.toList xs (by simpa using hl) fun i v d h1 h2 => ih i v d (by simpa using h1) h2
    exact ⟨_, .list ho rfl rfl q⟩
  | @tuple a vs n xs ha ho hl _ ih =>
    obtain ⟨as, q⟩ := readsAll_of vs.toList xs (by simpa using hl) fun i v d h1 h2 => ih i v d (by simpa using h1) h2
    exact ⟨_, .tuple ho rfl rfl q⟩

/-- values and data, item by item -/
inductive RdL (X : Addr → Prop) (h : Heap) : List Value → List PyData → Prop
  | nil : RdL X h [] []
  | cons {v vs d ds} : Rd X h v d → RdL X h vs ds → RdL X h (v :: vs) (d :: ds)

theorem RdL.length {X h} : ∀ {vs ds}, RdL X h vs ds → vs.length = ds.length
  | _, _, .nil => rfl
  | _, _, .cons _ r => by simp [r.length]
theorem RdL.at {X h} : ∀ {vs ds}, RdL X h vs ds → ∀ (i : Nat) v d, vs[i]? = some v → ds[i]? = some d → Rd X h v d
  | _, _, .nil, i, _, _, h1, _ => by simp at h1
  | _, _, .cons x r, 0, _, _, h1, h2 => by simp at h1 h2; subst h1; subst h2; exact x
  | _, _, .cons x r, i + 1, _, _, h1, h2 => r.at i _ _ (by simpa using h1) (by simpa using h2)
theorem RdL.of {X h} : ∀ (vs : List Value) (ds : List PyData), vs.length = ds.length → (∀ (i : Nat) v d, vs[i]? = some v → ds[i]? = some d → Rd X h v d) → RdL X h vs ds
  | [], [], _, _ => .nil
  | [], _ :: _, hl, _ => by simp at hl
  | _ :: _, [], hl, _ => by simp at hl
  | v :: vs, d :: ds, hl, hi => .cons (hi 0 v d rfl rfl) (RdL.of vs ds (by simpa using hl) fun i v d h1 h2 => hi (i + 1) v d (by simpa using h1) (by simpa using h2))
theorem RdL.to {X X' : Addr → Prop} {h h' : Heap} (hk : ∀ b o, ¬ X b → h.get? b = some o → h'.get? b = some o) (hX : ∀ b o, h.get? b = some o → X' b → X b) : ∀ {vs ds}, RdL X h vs ds → RdL X' h' vs ds
  | _, _, .nil => .nil
  | _, _, .cons x r => .cons (x.to hk hX) (r.to hk hX)
theorem RdL.up {X : Addr → Prop} {h h' : Heap} {vs ds} (r : RdL X h vs ds) (hk : Up h h') : RdL X h' vs ds := r.to (fun b o _ => hk b o) fun _ _ _ q => q
theorem RdL.append {X h} : ∀ {vs ds us es}, RdL X h vs ds → RdL X h us es → RdL X h (vs ++ us) (ds ++ es)
  | _, _, _, _, .nil, y => y
  | _, _, _, _, .cons x r, y => .cons x (r.append y)

theorem Rd.mkList {X h a vs n xs} (ha : ¬ X a) (ho : h.get? a = some (listObj vs n)) (r : RdL X h vs.toList xs) : Rd X h (.ref a) (.list xs) :=
  .list ha ho (by simpa using r.length) fun i v d h1 h2 => r.at i v d (by simpa using h1) h2
theorem Rd.mkTuple {X h a vs n xs} (ha : ¬ X a) (ho : h.get? a = some (tupObj vs n)) (r : RdL X h vs.toList xs) : Rd X h (.ref a) (.tuple xs) :=
  .tuple ha ho (by simpa using r.length) fun i v d h1 h2 => r.at i v d (by simpa using h1) h2

theorem Rd.list_inv {X h v xs} (x : Rd X h v (.list xs)) : ∃ a vs n, v = .ref a ∧ ¬ X a ∧ h.get? a = some (listObj vs n) ∧ RdL X h vs.toList xs := by
  cases x with
  | list ha ho hl hi => exact ⟨_, _, _, rfl, ha, ho, RdL.of _ _ (by simpa using hl) fun i v d h1 h2 => hi i v d (by simpa using h1) h2⟩
theorem Rd.tuple_inv {X h v xs} (x : Rd X h v (.tuple xs)) : ∃ a vs n, v = .ref a ∧ ¬ X a ∧ h.get? a = some (tupObj vs n) ∧ RdL X h vs.toList xs := by
  cases x with
  | tuple ha ho hl hi => exact ⟨_, _, _, rfl, ha, ho, RdL.of _ _ (by simpa using hl) fun i v d h1 h2 => hi i v d (by simpa using h1) h2⟩
theorem Rd.int_inv {X h v i} (x : Rd X h v (.int i)) : ∃ t, v = .int i t := by cases x; exact ⟨_, rfl⟩
theorem Rd.str_inv {X h v i} (x : Rd X h v (.str i)) : ∃ t, v = .str i t := by cases x; exact ⟨_, rfl⟩

theorem RdL.ints {X h} : ∀ {vs} {ns : List Int}, RdL X h vs (ns.map .int) → IntsAre vs ns
  | [], [], _ => .nil
  | _, [], r => by cases r; exact .nil
  | _, n :: ns, r => by
    cases r with
    | cons x r => obtain ⟨t, rfl⟩ := x.int_inv; exact .cons _ t (RdL.ints r)
theorem RdL.ofInts {X h} : ∀ {vs} {ns : List Int}, IntsAre vs ns → RdL X h vs (ns.map .int)
  | _, _, .nil => .nil
  | _, _, .cons i t r => .cons (.int i t) (RdL.ofInts r)

/-- what a state may become while an expression is reckoned -/
structure RelOk (R : Shared → Shared → Prop) : Prop where
  refl : ∀ s, R s s
  trans : ∀ {a b c}, R a b → R b c → R a c
  keeps : ∀ (s : Shared) h' tk, Up s.heap h' → R s { s with heap := h', toks := tk }
  up : ∀ {s s'}, R s s' → Up s.heap s'.heap
theorem keepsOk : RelOk Keeps where
  refl := fun s => ⟨s.heap, s.toks, rfl, fun _ _ e => e⟩
  trans := fun ⟨h, t, e, k⟩ ⟨h', t', e', k'⟩ => by subst e; subst e'; exact ⟨h', t', rfl, fun b o x => k' b o (k b o x)⟩
  keeps := fun s h' tk k => ⟨h', tk, rfl, k⟩
  up := fun ⟨h, t, e, k⟩ => by subst e; exact k
structure Mv (s s' : Shared) : Prop where
  up : Up s.heap s'.heap
  os : s'.os = s.os
  bare : AllBare s.gens → AllBare s'.gens
theorem mvOk : RelOk Mv where
  refl := fun _ => ⟨fun _ _ e => e, rfl, id⟩
  trans := fun x y => ⟨x.up.tr y.up, y.os.trans x.os, fun g => y.bare (x.bare g)⟩
  keeps := fun _ _ _ k => ⟨k, rfl, id⟩
  up := fun x => x.up

/-- what a name of the frame is bound to -/
def Sees (env : Env) (h : Heap) (x : Str) (v : Value) : Prop :=
  (env.kindOf x = some .local ∧ ∃ m, h.Ns env.locals m ∧ m x = some v) ∨
  ((env.kindOf x = some .cell ∨ (env.kindOf x = some .free ∧ (x == ("__classdict__" : Str)) = false)) ∧ ∃ c, env.cells.lookup x = some c ∧ h.IsCell c (some v)) ∨
  (env.kindOf x = some .globalImplicit ∧ ∃ mg, h.Ns env.globals mg ∧ (mg x = some v ∨ (mg x = none ∧ ∃ mb, h.Ns env.builtins mb ∧ mb x = some v)))

theorem ns_up {h h' : Heap} {a m} (n : h.Ns a m) (k : Up h h') : h'.Ns a m := n.keeps k
theorem Sees.up {env h h' x v} (s : Sees env h x v) (k : Up h h') : Sees env h' x v := by
  rcases s with ⟨a, m, n, e⟩ | ⟨a, c, e, i⟩ | ⟨a, mg, n, e⟩
  · exact .inl ⟨a, m, n.keeps k, e⟩
  · exact .inr (.inl ⟨a, c, e, i.keeps k⟩)
  · refine .inr (.inr ⟨a, mg, n.keeps k, ?_⟩)
    rcases e with e | ⟨e, mb, nb, eb⟩
    · exact .inl e
    · exact .inr ⟨e, mb, nb.keeps k, eb⟩

section
variable {prog : Program} {w : World} {A : Around} {env : Env} {R : Shared → Shared → Prop} {I : Heap → Prop} {X : Addr → Prop}

/-- the expression comes to a value of which P holds -/
def Ev (prog : Program) (w : World) (A : Around) (R : Shared → Shared → Prop) (env : Env) (I : Heap → Prop) (e : Expr) (P : Heap → Value → Prop) : Prop :=
  ∀ (s : Shared), I s.heap → ∀ (Q E : Value → Shared → Prop), (∀ v s', R s s' → P s'.heap v → Q v s') → wpAny (model prog w) A (eval e env) Q E s

def UpC (I : Heap → Prop) : Prop := ∀ h h', Up h h' → I h → I h'
def UpV (P : Heap → Value → Prop) : Prop := ∀ h h' v, Up h h' → P h v → P h' v
theorem upRd (d : PyData) : UpV (fun h v => Rd X h v d) := fun _ _ _ k r => r.up k

theorem loadSees {M : Model} {E : Value → Shared → Prop} {x : Str} {v : Value} {Q : Value → Shared → Prop} {s : Shared} (hk : env.scope.kind = .function) (hs : Sees env s.heap x v) (h : Q v s) : wpAny M A (loadName env x) Q E s := by
  rcases hs with ⟨a, m, n, e⟩ | ⟨a, c, e, i⟩ | ⟨a, mg, n, e⟩
  · exact wpAny_loadName_local hk a n e h
  · rcases a with a | ⟨a, b⟩
    · exact wpAny_loadName_cell hk a e i h
    · exact wpAny_loadName_free hk a e i h b
  · refine ks_loadName_global hk a ?_
    rcases e with e | ⟨e, mb, nb, eb⟩
    · exact loadGlobal_global n e h
    · exact loadGlobal_builtin n e nb eb h

theorem ev_name {x : Str} {pos : Pos} {P : Heap → Value → Prop} (hR : RelOk R) (hk : env.scope.kind = .function) (hs : ∀ h, I h → ∃ v, Sees env h x v ∧ P h v) (hd : (x == ("__debug__" : Str)) = false := by decide) :
    Ev prog w A R env I (.Name x pos) P := fun s i Q E h => by
  obtain ⟨v, hv, hp⟩ := hs _ i
  exact wpAny_Name (loadSees hk hv (h v s (hR.refl s) hp)) hd

theorem Ev.mono {e : Expr} {P P' : Heap → Value → Prop} (x : Ev prog w A R env I e P) (h : ∀ g v, P g v → P' g v) : Ev prog w A R env I e P' :=
  fun s i Q E q => x s i Q E fun v s' r p => q v s' r (h _ _ p)

theorem ev_int (hR : RelOk R) {i : Int} {k : Nat} {pos : Pos} : Ev prog w A R env I (.Constant (.int i) k pos) (fun h v => Rd X h v (.int i)) := fun s _ Q E h =>
  wpAny_Constant_int (h _ _ (hR.keeps s s.heap _ fun _ _ e => e) (.int _ _))
theorem ev_str (hR : RelOk R) {x : Str} {k : Nat} {pos : Pos} : Ev prog w A R env I (.Constant (.str x) k pos) (fun h v => Rd X h v (.str x)) := fun s _ Q E h =>
  Calls.Constant_str (h _ _ (hR.keeps s s.heap _ fun _ _ e => e) (.str _ _))

/-- two in a row -/
theorem ev_seq2 {e₁ e₂ : Expr} {P₁ P₂ : Heap → Value → Prop} (hR : RelOk R) (hI : UpC I) (h1 : Ev prog w A R env I e₁ P₁) (h2 : Ev prog w A R env I e₂ P₂) (u1 : UpV P₁) {s : Shared} (i : I s.heap) {Q : Value → Value → Shared → Prop} {E : Value → Shared → Prop}
    (h : ∀ v u s', R s s' → P₁ s'.heap v → P₂ s'.heap u → Q v u s') : wpAny (model prog w) A (eval e₁ env) (fun v s₁ => wpAny (model prog w) A (eval e₂ env) (fun u s₂ => Q v u s₂) E s₁) E s :=
  h1 s i _ _ fun v s₁ r1 p1 => h2 s₁ (hI _ _ (hR.up r1) i) _ _ fun u s₂ r2 p2 => h v u s₂ (hR.trans r1 r2) (u1 _ _ _ (hR.up r2) p1) p2
end
end Mine
end

/-! part M2 -/
section
open PySem PySem.W PySem.Spec PySem.Calls PyProof.Rows
set_option Elab.async false
set_option linter.unusedVariables false
namespace Mine
section
variable {prog : Program} {w : World} {A : Around} {env : Env} {R : Shared → Shared → Prop} {I : Heap → Prop} {X : Addr → Prop}

/-- the addresses of X are taken -/
def Taken (X : Addr → Prop) (h : Heap) : Prop := ∀ a, X a → (h.get? a).isSome = true
theorem Taken.up {X : Addr → Prop} {h h' : Heap} (t : Taken X h) (k : Up h h') : Taken X h' := fun a x => by
  obtain ⟨o, ho⟩ := Option.isSome_iff_exists.mp (t a x)
  rw [k a o ho]; rfl
theorem get_size (h : Heap) : h.get? h.objs.size = none := by
  cases e : h.get? h.objs.size with
  | none => rfl
  | some o => exact absurd (Heap.lt_size e) (Nat.lt_irrefl _)
theorem Taken.new {X : Addr → Prop} {h : Heap} (t : Taken X h) : ¬ X h.objs.size := fun x => by
  have := t _ x
  rw [get_size] at this; cases this
theorem Taken.fresh {X : Addr → Prop} {h : Heap} (t : Taken X h) {a : Addr} (e : h.get? a = none) : ¬ X a := fun x => by
  have := t _ x
  rw [e] at this; cases this

/-- what an operation upon two values comes to -/
def Op2 (prog : Program) (w : World) (A : Around) (R : Shared → Shared → Prop) (I : Heap → Prop) (f : Value → Value → Sem Value) (P₁ P₂ P : Heap → Value → Prop) : Prop :=
  ∀ (s : Shared) v u, I s.heap → P₁ s.heap v → P₂ s.heap u → ∀ (Q E : Value → Shared → Prop), (∀ x s', R s s' → P s'.heap x → Q x s') → wpAny (model prog w) A (f v u) Q E s

theorem ev_bin {l r : Expr} {op : Operator} {pos : Pos} {P₁ P₂ P : Heap → Value → Prop} (hR : RelOk R) (hI : UpC I) (h1 : Ev prog w A R env I l P₁) (h2 : Ev prog w A R env I r P₂) (u1 : UpV P₁)
    (hop : Op2 prog w A R I (binaryOp op) P₁ P₂ P) : Ev prog w A R env I (.BinOp l op r pos) P :=
  fun s i Q E h => wpAny_BinOp (ev_seq2 hR hI h1 h2 u1 i fun v u s' r p1 p2 => hop s' v u (hI _ _ (hR.up r) i) p1 p2 Q E fun x s'' r' p => h x s'' (hR.trans r r') p)

theorem ev_cmp {l r : Expr} {op : CmpOp} {pos : Pos} {P₁ P₂ P : Heap → Value → Prop} (hR : RelOk R) (hI : UpC I) (h1 : Ev prog w A R env I l P₁) (h2 : Ev prog w A R env I r P₂) (u1 : UpV P₁)
    (hop : Op2 prog w A R I (compareOp op) P₁ P₂ P) (hm : behindInMarks op r = false := by with_unfolding_all rfl) : Ev prog w A R env I (.Compare l [op] [r] pos) P :=
  fun s i Q E h => wpAny_Compare1 (ev_seq2 hR hI h1 h2 u1 i fun v u s' r p1 p2 => hop s' v u (hI _ _ (hR.up r) i) p1 p2 Q E fun x s'' r' p => h x s'' (hR.trans r r') p) hm

/-- a test comes to b -/
def Tst (prog : Program) (w : World) (A : Around) (R : Shared → Shared → Prop) (env : Env) (I : Heap → Prop) (e : Expr) (b : Bool) : Prop :=
  ∀ (s : Shared), I s.heap → ∀ (Q : Bool → Shared → Prop) (E : Value → Shared → Prop), (∀ s', R s s' → Q b s') → wpAny (model prog w) A (isTrue e env (eval e env)) Q E s

theorem tst_cmp {l r : Expr} {op : CmpOp} {pos : Pos} {P₁ P₂ : Heap → Value → Prop} {b : Bool} (hR : RelOk R) (hI : UpC I) (h1 : Ev prog w A R env I l P₁) (h2 : Ev prog w A R env I r P₂) (u1 : UpV P₁)
    (hop : Op2 prog w A R I (compareOp op) P₁ P₂ (fun h v => Rd X h v (.bool b))) (hm : behindInMarks op r = false := by with_unfolding_all rfl) : Tst prog w A R env I (.Compare l [op] [r] pos) b :=
  fun s i Q E h => wpAny_isTrue_Compare1 (ev_seq2 hR hI h1 h2 u1 i fun v u s' r p1 p2 => hop s' v u (hI _ _ (hR.up r) i) p1 p2 _ E fun x s'' r' p => by
    cases p
    exact wpAny_truthy_bool (h s'' (hR.trans r r'))) hm

section ops
theorem op_addi {a b : Int} (hR : RelOk R) : Op2 prog w A R I (binaryOp .Add) (fun h v => Rd X h v (.int a)) (fun h v => Rd X h v (.int b)) (fun h v => Rd X h v (.int (a + b))) := fun s v u i p q Q E h => by
  obtain ⟨t, rfl⟩ := p.int_inv
  obtain ⟨t', rfl⟩ := q.int_inv
  exact PyProof.Rows.add_int (h _ _ (hR.keeps s s.heap _ fun _ _ e => e) (.int _ _))
theorem op_modi {a b : Int} (hR : RelOk R) (hb : b ≠ 0) : Op2 prog w A R I (binaryOp .Mod) (fun h v => Rd X h v (.int a)) (fun h v => Rd X h v (.int b)) (fun h v => Rd X h v (.int (a.fmod b))) := fun s v u i p q Q E h => by
  obtain ⟨t, rfl⟩ := p.int_inv
  obtain ⟨t', rfl⟩ := q.int_inv
  exact PyProof.Rows.mod_int hb (h _ _ (hR.keeps s s.heap _ fun _ _ e => e) (.int _ _))
theorem op_divi {a b : Int} (hR : RelOk R) (hb : b ≠ 0) (hp : Builtin.divisionGoesByPylong a b = false) : Op2 prog w A R I (binaryOp .FloorDiv) (fun h v => Rd X h v (.int a)) (fun h v => Rd X h v (.int b)) (fun h v => Rd X h v (.int (a.fdiv b))) := fun s v u i p q Q E h => by
  obtain ⟨t, rfl⟩ := p.int_inv
  obtain ⟨t', rfl⟩ := q.int_inv
  exact floordiv_int hb (h _ _ (hR.keeps s s.heap _ fun _ _ e => e) (.int _ _)) (.inl hp)
theorem op_adds {x y : Str} (hR : RelOk R) (hsz : x.length + y.length ≤ sizeLine) : Op2 prog w A R I (binaryOp .Add) (fun h v => Rd X h v (.str x)) (fun h v => Rd X h v (.str y)) (fun h v => Rd X h v (.str (x ++ y))) := fun s v u i p q Q E h => by
  obtain ⟨t, rfl⟩ := p.str_inv
  obtain ⟨t', rfl⟩ := q.str_inv
  exact PyProof.Rows.add_str (fun t'' tk => h _ _ (hR.keeps s s.heap _ fun _ _ e => e) (.str _ _)) hsz

theorem op_eqs {x y : Str} (hR : RelOk R) : Op2 prog w A R I (compareOp .Eq) (fun h v => Rd X h v (.str x)) (fun h v => Rd X h v (.str y)) (fun h v => Rd X h v (.bool (x == y))) := fun s v u i p q Q E h => by
  obtain ⟨t, rfl⟩ := p.str_inv
  obtain ⟨t', rfl⟩ := q.str_inv
  exact PyProof.Rows.eq_str (h _ _ (hR.refl s) (.bool _))
theorem op_eqi {x y : Int} (hR : RelOk R) : Op2 prog w A R I (compareOp .Eq) (fun h v => Rd X h v (.int x)) (fun h v => Rd X h v (.int y)) (fun h v => Rd X h v (.bool (x == y))) := fun s v u i p q Q E h => by
  obtain ⟨t, rfl⟩ := p.int_inv
  obtain ⟨t', rfl⟩ := q.int_inv
  exact PyProof.Rows.eq_int (h _ _ (hR.refl s) (.bool _))
theorem op_addl {xs ys : List PyData} (hR : RelOk R) (hX : ∀ h, I h → Taken X h) (hsz : xs.length + ys.length ≤ sizeLine) :
    Op2 prog w A R I (binaryOp .Add) (fun h v => Rd X h v (.list xs)) (fun h v => Rd X h v (.list ys)) (fun h v => Rd X h v (.list (xs ++ ys))) := fun s v u i p q Q E h => by
  obtain ⟨a, vs, n, rfl, ha, ho, hl⟩ := p.list_inv
  obtain ⟨b, us, n2, rfl, hb, ho', hl'⟩ := q.list_inv
  have k : Up s.heap (s.heap.push (listObj (vs ++ us) 0)) := fun _ _ e => Heap.get?_push_of_some _ e
  refine concat_meets ⟨_, ho, rfl⟩ ⟨_, ho', rfl⟩ noFill_list_add seq_list_add PySem.F.slot_list_add PySem.F.entry_list_add (PySem.F.args_list_add_2 _ _) (list_addW a b vs us n n2 none none #[] #[] (by rw [← Array.length_toList, ← Array.length_toList, hl.length, hl'.length]; exact hsz)) ⟨ho, ho', ?_⟩
  refine h _ { s with heap := s.heap.push (listObj (vs ++ us) 0) } (hR.keeps s _ _ k) (Rd.mkList (n := 0) (hX _ i).new (Heap.get?_push_size _ rfl) ?_)
  rw [Array.toList_append]
  exact (hl.up k).append (hl'.up k)

theorem Rd.canLay {h : Heap} {v : Value} {d : PyData} (x : Rd X h v d) : True := trivial

theorem op_eq {d e : PyData} (hR : RelOk R) (hu : A.units + 64 < cLine) (ha : SeqAt.shaped d = true) (hb : SeqAt.shaped e = true) {b : Bool} (hv : PyData.eqv d e = b) :
    Op2 prog w A R I (compareOp .Eq) (fun h v => Rd X h v d) (fun h v => Rd X h v e) (fun h v => Rd X h v (.bool b)) := fun s v u i p q Q E h => by
  obtain ⟨as, r⟩ := p.reads
  obtain ⟨bs, r'⟩ := q.reads
  exact eq_dataH r r' ha hb hu (h _ _ (hR.refl s) (hv ▸ .bool _))
theorem op_ne {d e : PyData} (hR : RelOk R) (hu : A.units + 64 < cLine) (ha : SeqAt.shaped d = true) (hb : SeqAt.shaped e = true) {b : Bool} (hv : (!PyData.eqv d e) = b) :
    Op2 prog w A R I (compareOp .NotEq) (fun h v => Rd X h v d) (fun h v => Rd X h v e) (fun h v => Rd X h v (.bool b)) := fun s v u i p q Q E h => by
  obtain ⟨as, r⟩ := p.reads
  obtain ⟨bs, r'⟩ := q.reads
  exact ne_dataH r r' ha hb hu (h _ _ (hR.refl s) (hv ▸ .bool _))
theorem op_in {d : PyData} {xs : List PyData} (hR : RelOk R) (hu : A.units + 64 < cLine) (hd : d.canLay0 = true) (hxs : PyData.canLayAll0 xs = true) (h8 : d.depth ≤ 8) {b : Bool} (hv : (xs.any fun y => PyData.eqv y d) = b) :
    Op2 prog w A R I (compareOp .In) (fun h v => Rd X h v d) (fun h v => Rd X h v (.list xs)) (fun h v => Rd X h v (.bool b)) := fun s v u i p q Q E h => by
  obtain ⟨as, r⟩ := p.reads
  obtain ⟨bs, r'⟩ := q.reads
  exact SeqAt.in_list_reads r' r hxs hd (by have : min (PyData.depthAll xs) d.depth ≤ d.depth := Nat.min_le_right _ _; omega) (h _ _ (hR.refl s) (hv ▸ .bool _))
theorem op_notIn {d : PyData} {xs : List PyData} (hR : RelOk R) (hu : A.units + 64 < cLine) (hd : d.canLay0 = true) (hxs : PyData.canLayAll0 xs = true) (h8 : d.depth ≤ 8) {b : Bool} (hv : (!xs.any fun y => PyData.eqv y d) = b) :
    Op2 prog w A R I (compareOp .NotIn) (fun h v => Rd X h v d) (fun h v => Rd X h v (.list xs)) (fun h v => Rd X h v (.bool b)) := fun s v u i p q Q E h => by
  obtain ⟨as, r⟩ := p.reads
  obtain ⟨bs, r'⟩ := q.reads
  exact SeqAt.notIn_list_reads r' r hxs hd (by have : min (PyData.depthAll xs) d.depth ≤ d.depth := Nat.min_le_right _ _; omega) (h _ _ (hR.refl s) (hv ▸ .bool _))
end ops
end
end Mine
end

/-! part M3 -/
section
open PySem PySem.W PySem.Spec PySem.Calls PyProof.Rows
set_option Elab.async false
set_option linter.unusedVariables false
namespace Mine
section
variable {prog : Program} {w : World} {A : Around} {env : Env} {R : Shared → Shared → Prop} {I : Heap → Prop} {X : Addr → Prop}

/-- values of which so much holds, one by one -/
inductive Vals (h : Heap) : List Value → List (Heap → Value → Prop) → Prop
  | nil : Vals h [] []
  | cons {v vs P Ps} : P h v → Vals h vs Ps → Vals h (v :: vs) (P :: Ps)

inductive Evs (prog : Program) (w : World) (A : Around) (R : Shared → Shared → Prop) (env : Env) (I : Heap → Prop) : List Expr → List (Heap → Value → Prop) → Prop
  | nil : Evs prog w A R env I [] []
  | cons {e es P Ps} : Ev prog w A R env I e P → UpV P → starEach (e :: es) env = (false, eval e env) :: starEach es env → Evs prog w A R env I es Ps → Evs prog w A R env I (e :: es) (P :: Ps)

theorem Vals.up {h h' : Heap} (k : Up h h') : ∀ {vs Ps}, (∀ P ∈ Ps, UpV P) → Vals h vs Ps → Vals h' vs Ps
  | _, _, _, .nil => .nil
  | _, _, u, .cons p r => .cons (u _ (.head _) _ _ _ k p) (Vals.up k (fun P hP => u P (.tail _ hP)) r)
theorem Evs.ups : ∀ {es Ps}, Evs prog w A R env I es Ps → ∀ P ∈ Ps, UpV P
  | _, _, .nil => fun _ h => nomatch h
  | _, _, .cons _ u _ r => fun P h => by
    rcases List.mem_cons.mp h with rfl | h
    · exact u
    · exact r.ups P h

theorem evs_spliced (hR : RelOk R) (hI : UpC I) {pos : Pos} : ∀ {es Ps}, Evs prog w A R env I es Ps → ∀ (s : Shared), I s.heap → ∀ (Q : List Value → Shared → Prop) (E : Value → Shared → Prop),
    (∀ vs s', R s s' → Vals s'.heap vs Ps → Q vs s') → wpAny (model prog w) A (spliced (backTo pos (starEach es env))) Q E s
  | _, _, .nil, s, _, Q, E, h => spliced_none (h [] s (hR.refl s) .nil)
  | _, _, .cons (P := P) x u he r, s, i, Q, E, h => spliced_more (x s i _ _ fun v s₁ r₁ p => evs_spliced hR hI r s₁ (hI _ _ (hR.up r₁) i) _ _ fun vs s₂ r₂ q => h _ _ (hR.trans r₁ r₂) (.cons (u _ _ _ (hR.up r₂) p) q)) he

theorem Vals.rdl {h : Heap} : ∀ {vs} {ds : List PyData}, Vals h vs (ds.map fun d h v => Rd X h v d) → RdL X h vs ds
  | [], [], _ => .nil
  | _, [], r => by cases r; exact .nil
  | _, d :: ds, r => by cases r with | cons p r => exact .cons p r.rdl

theorem ev_list {es : List Expr} {ds : List PyData} {pos : Pos} (hR : RelOk R) (hI : UpC I) (hX : ∀ h, I h → Taken X h) (hs : Evs prog w A R env I es (ds.map fun d h v => Rd X h v d)) (hsz : ds.length ≤ sizeLine) :
    Ev prog w A R env I (.List es pos) (fun h v => Rd X h v (.list ds)) := fun s i Q E h => by
  refine List_ (evs_spliced hR hI hs s i _ _ fun vs s₁ r₁ q => ?_)
  have q := q.rdl
  have k : Up s₁.heap (s₁.heap.push (listObj vs.toArray 0)) := fun _ _ e => Heap.get?_push_of_some _ e
  refine wpAny_newObj_type (h _ { s₁ with heap := s₁.heap.push (listObj vs.toArray 0) } (hR.trans r₁ (hR.keeps s₁ _ _ k)) (Rd.mkList (n := 0) ((hX _ i).up (hR.up r₁)).new (Heap.get?_push_size _ rfl) (by simpa using q.up k))) (by
    show vs.toArray.size ≤ sizeLine
    rw [List.size_toArray, q.length]; exact hsz)
theorem ev_tuple {es : List Expr} {ds : List PyData} {c : Nat} {pos : Pos} (hR : RelOk R) (hI : UpC I) (hX : ∀ h, I h → Taken X h) (hs : Evs prog w A R env I es (ds.map fun d h v => Rd X h v d)) (hsz : ds.length ≤ sizeLine) :
    Ev prog w A R env I (.Tuple es c pos) (fun h v => Rd X h v (.tuple ds)) := fun s i Q E h => by
  refine Tuple_ (evs_spliced hR hI hs s i _ _ fun vs s₁ r₁ q => ?_)
  have q := q.rdl
  have k : Up s₁.heap (s₁.heap.push (tupObj vs.toArray 0)) := fun _ _ e => Heap.get?_push_of_some _ e
  refine wpAny_newObj_type (h _ { s₁ with heap := s₁.heap.push (tupObj vs.toArray 0) } (hR.trans r₁ (hR.keeps s₁ _ _ k)) (Rd.mkTuple (n := 0) ((hX _ i).up (hR.up r₁)).new (Heap.get?_push_size _ rfl) (by simpa using q.up k))) (by
    show vs.toArray.size ≤ sizeLine
    rw [List.size_toArray, q.length]; exact hsz)

/-- a call of f upon such values comes to such a value -/
def Cal (prog : Program) (w : World) (A : Around) (R : Shared → Shared → Prop) (I : Heap → Prop) (f : Value) (Ps : List (Heap → Value → Prop)) (P : Heap → Value → Prop) : Prop :=
  ∀ (s : Shared) vs, I s.heap → Vals s.heap vs Ps → ∀ (Q E : Value → Shared → Prop), (∀ v s', R s s' → P s'.heap v → Q v s') → wpAny (model prog w) A (call f vs) Q E s

/-- how the interpreter holds what is called: a def, or one of its own -/
def KeepsF (prog : Program) (w : World) (f : Value) (h : Heap) : Prop := ∃ k, (k = Keeper.frame ∨ k = Keeper.machine ∨ k = Keeper.boundFrame) ∧ Looks (model prog w) h (keeperOf f) k
theorem keepsF_builtin {id : String} {h : Heap} : KeepsF prog w (.builtin id) h := ⟨.machine, .inr (.inl rfl), Looks.of_pure rfl⟩
theorem keepsF_type {T : String} {h : Heap} : KeepsF prog w (.type T) h := ⟨.machine, .inr (.inl rfl), Looks.of_pure rfl⟩
theorem keepsF_def {a : Addr} {o : Obj} {fd : FuncData} {h : Heap} (ho : h.get? a = some o) (hd : o.data = .func fd) : KeepsF prog w (.ref a) h := by
  refine ⟨.frame, .inl rfl, (Looks.ld (part := none) ho).andThen ?_⟩
  rw [hd]; exact Looks.now

theorem callWith_ev {f : Value} {first : List Value} {e : Expr} {es : List Expr} {Ps : List (Heap → Value → Prop)} {pos : Pos} {s : Shared} {Q : Value → Shared → Prop} {E : Value → Shared → Prop} (hR : RelOk R) (hI : UpC I)
    (hf : ∀ h, I h → KeepsF prog w f h) (hs : Evs prog w A R env I (e :: es) Ps) (i : I s.heap) (h : ∀ vs s', R s s' → I s'.heap → Vals s'.heap vs Ps → wpAny (model prog w) A (call f (first ++ vs)) Q E s')
    (he : starEach (e :: es) env = (false, eval e env) :: starEach es env := by rfl) (hplain : (backTo pos (starEach es env)).any (·.1) = false := by rfl) :
    wpAny (model prog w) A (callWith pos f first (backTo pos (starEach (e :: es) env)) []) Q E s := by
  have z := evs_spliced (pos := pos) hR hI hs s i (fun vs s₁ => I s₁.heap ∧ wpAny (model prog w) A (call f (first ++ vs)) Q E s₁) E fun vs s₁ r₁ q => ⟨hI _ _ (hR.up r₁) i, h vs s₁ r₁ (hI _ _ (hR.up r₁) i) q⟩
  rw [he] at z ⊢
  exact callWith_of (by show ((false || (backTo pos (starEach es env)).any (·.1)) || false) = false; rw [hplain]; rfl) hf (evalArgs_plain z)

theorem ev_call {x : Str} {p pos : Pos} {f : Value} {e : Expr} {es : List Expr} {Ps : List (Heap → Value → Prop)} {P : Heap → Value → Prop} (hR : RelOk R) (hI : UpC I) (hk : env.scope.kind = .function)
    (hn : ∀ h, I h → Sees env h x f) (hf : ∀ h, I h → KeepsF prog w f h) (hs : Evs prog w A R env I (e :: es) Ps) (hc : Cal prog w A R I f Ps P)
    (he : starEach (e :: es) env = (false, eval e env) :: starEach es env := by rfl) (hplain : (backTo pos (starEach es env)).any (·.1) = false := by rfl)
    (hd : (x == ("__debug__" : Str)) = false := by decide) : Ev prog w A R env I (.Call (.Name x p) (e :: es) [] pos) P := fun s i Q E h => by
  refine Call_Name rfl (wpAny_Name (loadSees hk (hn _ i) ?_) hd)
  exact callWith_ev hR hI hf hs i (fun vs s' r i' q => hc s' vs i' q Q E fun v s'' r' p => h v s'' (hR.trans r r') p) he hplain

/-- scalars, whatever the heap -/
inductive Sc : Value → PyData → Prop
  | none : Sc .none .none
  | bool (b) : Sc (.bool b) (.bool b)
  | int (i t) : Sc (.int i t) (.int i)
  | str (x t) : Sc (.str x t) (.str x)
theorem Sc.rd {h : Heap} {v d} (x : Sc v d) : Rd X h v d := by cases x <;> constructor
def isSc : PyData → Bool
  | .none | .bool _ | .int _ | .str _ => true
  | _ => false
theorem Rd.sc {h : Heap} {v d} (x : Rd X h v d) (hs : isSc d = true) : Sc v d := by
  cases x <;> first | constructor | cases hs
def toD : Value → PyData
  | .bool b => .bool b
  | .int i _ => .int i
  | .str x _ => .str x
  | _ => .none
theorem Sc.toD {v d} (x : Sc v d) : toD v = d := by cases x <;> rfl

/-- something that a loop goes through: so many scalars -/
def Src (prog : Program) (w : World) (A : Around) (R : Shared → Shared → Prop) (env : Env) (I : Heap → Prop) (iter : Expr) (ds : List PyData) : Prop :=
  ∀ (s : Shared), I s.heap → ∀ (Q E : Value → Shared → Prop),
    (∀ It fp wr P St s₁ h₂ tk₂, R s s₁ → Up s₁.heap h₂ → Walks prog w A It fp wr ds.length P St → St 0 h₂ → (∀ b ∈ fp, b < h₂.objs.size) → (∀ b ∈ wr, s₁.heap.get? b = none) → (∀ i v, P i v → ∃ d, ds[i]? = some d ∧ Sc v d) →
      Q (.ref It) { s₁ with heap := h₂, toks := tk₂ }) → wpAny (model prog w) A (eval iter env) (fun xv s₁ => wpAny (model prog w) A (pyIter xv) Q E s₁) E s

theorem src_list {iter : Expr} {ds : List PyData} (hR : RelOk R) (hA : A.handled = none) (h : Ev prog w A R env I iter (fun h v => Rd X h v (.list ds))) (hs : ∀ d ∈ ds, isSc d = true) : Src prog w A R env I iter ds := fun s i Q E q => by
  refine h s i _ _ fun v s₁ r₁ p => ?_
  obtain ⟨a, vs, n, rfl, ha, ho, hl⟩ := p.list_inv
  have hL : s₁.heap.IsList a vs := ⟨_, ho, rfl, n, rfl⟩
  have k : Up s₁.heap (s₁.heap.push { cls := .type "list_iterator", data := .fields #[.ref a, .int 0 0] }) := fun _ _ e => Heap.get?_push_of_some _ e
  have hne : a ≠ s₁.heap.objs.size := fun e => by rw [e, get_size] at ho; cases ho
  have hlen : vs.size = ds.length := by rw [← hl.length]; simp
  refine wpAny_pyIter_list hL ?_
  refine q s₁.heap.objs.size [s₁.heap.objs.size, a] [s₁.heap.objs.size] _ _ s₁ (s₁.heap.push { cls := .type "list_iterator", data := .fields #[.ref a, .int 0 0] }) s₁.toks r₁ k (hlen ▸ Walks.list hA s₁.heap.objs.size a hne vs) ⟨⟨_, Heap.get?_push_size _ rfl, rfl, rfl⟩, ⟨_, k _ _ ho, rfl, n, rfl⟩⟩ ?_ ?_ ?_
  · intro b hb
    rw [Heap.size_push]
    simp only [List.mem_cons, List.not_mem_nil, or_false] at hb
    rcases hb with rfl | rfl
    · exact Nat.lt_succ_self _
    · exact Nat.lt_succ_of_lt (Heap.lt_size ho)
  · intro b hb; rw [List.mem_singleton.mp hb]; exact get_size _
  · intro j v hj
    have hj' : vs.toList[j]? = some v := by simpa using hj
    have : j < ds.length := by
      rw [← hl.length]; exact (List.getElem?_eq_some_iff.mp hj').1
    obtain ⟨d, hd⟩ : ∃ d, ds[j]? = some d := ⟨_, List.getElem?_eq_getElem this⟩
    exact ⟨d, hd, (hl.at j v d hj' hd).sc (hs d (List.mem_of_getElem? hd))⟩
end
end Mine
end

/-! part M4 -/
section
open PySem PySem.W PySem.Spec PySem.Calls PyProof.Rows
set_option Elab.async false
set_option linter.unusedVariables false
namespace Mine
section
variable {prog : Program} {w : World} {A : Around} {env : Env} {R : Shared → Shared → Prop} {I : Heap → Prop} {X : Addr → Prop}

/-- the numbers 0 to n - 1 as data -/
def upto (n : Nat) : List PyData := (List.range n).map fun (i : Nat) => PyData.int (i : Int)
theorem upto_len (n : Nat) : (upto n).length = n := by simp [upto]
theorem upto_at {n i : Nat} (h : i < n) : (upto n)[i]? = some (.int (i : Int)) := by simp [upto, h]

theorem walks_lt {It : Addr} {fp wr : List Addr} {n : Nat} {P : Nat → Value → Prop} {St : Nat → Heap → Prop} (W : Walks prog w A It fp wr n P St) : Walks prog w A It fp wr n (fun i v => P i v ∧ i < n) St where
  sub := W.sub
  frame := W.frame
  item := fun i s Q E hi st hQ => W.item i s Q E hi st fun v h' tk p => hQ v h' tk ⟨p, hi⟩
  done := W.done
  self := W.self

theorem src_range {e : Expr} {p pos : Pos} {n : Nat} (hR : RelOk R) (hI : UpC I) (hA : A.handled = none) (hk : env.scope.kind = .function) (hn : ∀ h, I h → Sees env h "range" (.type "range"))
    (he : Ev prog w A R env I e (fun h v => Rd X h v (.int (n : Int)))) (hsz : n < 2 ^ 62)
    (hse : backTo pos (starEach [e] env) = [(false, eval e env)] := by rfl) : Src prog w A R env I (.Call (.Name "range" p) [e] [] pos) (upto n) := fun s i Q E q => by
  refine Call_Name hse (wpAny_Name (loadSees hk (hn _ i) ?_) (by decide))
  refine PySem.callWith_type rfl (Calls.evalArgs_plain (Calls.spliced_cons (he s i _ _ fun nv s₁ r₁ pv => Calls.spliced_nil ?_)))
  obtain ⟨t, rfl⟩ := pv.int_inv
  refine call_range_1 ?_
  refine wpAny_pyIter_range (IsRange.new ..) (small_one (by decide) (by decide) (by omega) (by omega)) ?_
  have hz : Builtin.Range.rangeSize 0 (n : Int) 1 = (n : Int) := by rw [rangeSize_one]; split <;> omega
  rw [hz]
  refine q _ _ _ _ _ s₁ _ _ r₁ (fun b o e => Heap.get?_push_of_some _ (Heap.get?_push_of_some _ e)) (by rw [upto_len]; exact walks_lt (Walks.range hA _ 0 1 n)) ?_ ?_ ?_ ?_
  · show IsRangeIter _ _ _ _ _
    have e1 : (0 + ((0 : Nat) : Int) * 1) = 0 := by simp
    have e2 : ((n : Int) - ((0 : Nat) : Int)) = n := by simp
    rw [e1, e2]
    exact Heap.get?_push_size _ rfl
  · intro b hb
    rw [List.mem_singleton.mp hb]
    simp [Heap.size_push]
  · intro b hb
    rw [List.mem_singleton.mp hb]
    cases hg : s₁.heap.get? (s₁.heap.objs.size + 1) with
    | none => simpa [Heap.size_push] using hg
    | some o => exact absurd (Heap.lt_size hg) (Nat.not_lt.mpr (Nat.le_succ _))
  · rintro j v ⟨⟨t', rfl⟩, hj⟩
    exact ⟨_, upto_at hj, by rw [Int.mul_one, Int.zero_add]; exact .int _ _⟩

/-- the signs of a text as data -/
def signs (x : Str) : List PyData := x.cps.toList.map fun c => PyData.str ⟨#[c]⟩
theorem signs_len (x : Str) : (signs x).length = x.cps.size := by simp [signs]

theorem src_str {iter : Expr} {x : Str} (hR : RelOk R) (hA : A.handled = none) (h : Ev prog w A R env I iter (fun h v => Rd X h v (.str x))) (ha : x.cps.all (· < 128) = true) : Src prog w A R env I iter (signs x) := fun s i Q E q => by
  refine h s i _ _ fun v s₁ r₁ p => ?_
  obtain ⟨t, rfl⟩ := p.str_inv
  refine wpAny_pyIter_ascii ha ?_
  have k : Up s₁.heap (s₁.heap.push { cls := .type "str_ascii_iterator", data := .fields #[.str x t, .int 0 0] }) := fun _ _ e => Heap.get?_push_of_some _ e
  refine q s₁.heap.objs.size [s₁.heap.objs.size] [s₁.heap.objs.size] _ _ s₁ (s₁.heap.push { cls := .type "str_ascii_iterator", data := .fields #[.str x t, .int 0 0] }) s₁.toks r₁ k (by rw [signs_len]; exact Walks.strAscii hA _ x t) ?st ?_ ?_ ?_
  case st => exact ⟨_, Heap.get?_push_size _ rfl, rfl, rfl⟩
  · intro b hb
    rw [List.mem_singleton.mp hb, Heap.size_push]; exact Nat.lt_succ_self _
  · intro b hb; rw [List.mem_singleton.mp hb]; exact get_size _
  · rintro j v ⟨c, u, hc, rfl⟩
    exact ⟨.str ⟨#[c]⟩, by simp [signs, hc], .str _ _⟩

/-- the test of one item, if there is one -/
def IfsOk (prog : Program) (w : World) (A : Around) (env : Env) (I : Heap → Prop) (ifs : List Expr) (b : Bool) : Prop := match ifs with
  | [] => b = true
  | [c] => Tst prog w A Keeps env I c b
  | _ => False

theorem ifs_run {ifs : List Expr} {b : Bool} (h : IfsOk prog w A env I ifs b) {s : Shared} (i : I s.heap) {E : Value → Shared → Prop} :
    wpAny (model prog w) A (forIn ifs true fun c r => if r = true then do let ok ← isTrue c env (eval c env); pure (ForInStep.yield ok) else pure (ForInStep.yield r)) (fun ok s₄ => ok = b ∧ Keeps s s₄) E s := by
  match ifs, h with
  | [], h =>
    rw [List.forIn_nil]
    exact wpAny_pure ⟨h.symm, keepsOk.refl s⟩
  | [c], h =>
    rw [List.forIn_cons]
    simp only [if_true]
    refine wpAny_bind (wpAny_bind (h s i _ _ fun s' r => wpAny_pure ?_))
    show wpAny _ _ (forIn [] b _) _ _ _
    rw [List.forIn_nil]
    exact wpAny_pure ⟨rfl, r⟩

theorem paired_rdl {h : Heap} {F : Value → Value → Prop} {g : PyData → PyData} (hF : ∀ v y, F v y → Sc y (g (toD v))) : ∀ {vs : List Value} {ys : List Value}, Paired F vs ys → RdL X h ys ((vs.map toD).map g)
  | _, _, .nil => .nil
  | _, _, .cons x r => .cons (hF _ _ x).rd (paired_rdl hF r)

structure CompOk (prog : Program) (w : World) (A : Around) (env : Env) (I : Heap → Prop) (scope : Scope) (cl : List (Str × Addr)) (x : Str) (ifs : List Expr) (elt : Expr) (ds : List PyData) (p : PyData → Bool) (g : PyData → PyData) : Prop where
  test : ∀ C v d, Sc v d → d ∈ ds → IfsOk prog w A (compEnvC scope cl C env) (fun h => I h ∧ Sees (compEnvC scope cl C env) h x v) ifs (p d)
  elt : ∀ C v d, Sc v d → d ∈ ds → p d = true → Ev prog w A Keeps (compEnvC scope cl C env) (fun h => I h ∧ Sees (compEnvC scope cl C env) h x v) elt (fun _ y => Sc y (g d))

theorem sees_comp {scope : Scope} {cl : List (Str × Addr)} {C : Addr} {x : Str} {h : Heap} {m : Str → Option Value} {v : Value} (hx : scope.names.lookup x = some .local) (hn : h.Ns C m) (hm : m x = some v) : Sees (compEnvC scope cl C env) h x v :=
  .inl ⟨lookup_relabel_local hx, m, hn, hm⟩

theorem ev_comp {elt iter : Expr} {x : Str} {px : Pos} {ifs : List Expr} {scope : Scope} {cl : List (Str × Addr)} {pos : Pos} {ds : List PyData} {p : PyData → Bool} {g : PyData → PyData} (hR : RelOk R) (hI : UpC I) (hX : ∀ h, I h → Taken X h)
    (hsrc : Src prog w A R env I iter ds) (hlen : ds.length ≤ sizeLine) (hok : CompOk prog w A env I scope cl x ifs elt ds p g)
    (hclos : closureFor scope env = pure cl) (hcell : ∀ y ∈ scope.names, y.2 ≠ .cell) (hkind : scope.kind = .function)
    (hnames : ∀ y ∈ scope.names, y.2 = .local → scope.names.lookup y.1 = some .local) (hx : scope.names.lookup x = some .local)
    (hs : ∀ x, foldedSetIterable iter env x = pure x := by intro _; rfl) :
    Ev prog w A R env I (.ListComp elt [⟨.Name x px, iter, ifs, 0⟩] scope pos) (fun h v => Rd X h v (.list ((ds.filter p).map g))) := fun s i Q E q => by
  refine wpAny_ListComp_free (fun v => p (toD v)) (fun v y => Sc y (g (toD v))) hclos hcell hkind hnames hx (hsrc s i _ _ ?_) hs
  intro It fp wr P St s₁ h₂ tk₂ r₁ k₂ W hst hfp hwr hP
  have stay : ∀ s₃ : Shared, (∀ b o, b ∉ wr → h₂.get? b = some o → s₃.heap.get? b = some o) → Up s₁.heap s₃.heap := fun s₃ hk b o e => hk b o (fun hb => by rw [hwr b hb] at e; cases e) (k₂ b o e)
  refine ⟨It, fp, wr, ds.length, P, St, rfl, W, hlen, hst, hfp, ⟨?_, ?_⟩, ?_⟩
  · intro C j v s₃ m₃ E' _ hv hn hm hk _
    obtain ⟨d, hd, sc⟩ := hP j v hv
    have := hok.test C v d sc (List.mem_of_getElem? hd)
    rw [show p (toD v) = p d by rw [sc.toD]]
    exact ifs_run this ⟨hI _ _ ((hR.up r₁).tr (stay s₃ hk)) i, sees_comp hx hn hm⟩
  · intro C j v s₃ m₃ E' _ hv hp hn hm hk _
    obtain ⟨d, hd, sc⟩ := hP j v hv
    rw [sc.toD] at hp
    refine hok.elt C v d sc (List.mem_of_getElem? hd) hp s₃ ⟨hI _ _ ((hR.up r₁).tr (stay s₃ hk)) i, sees_comp hx hn hm⟩ _ _ fun y s₄ k₄ sc' => ⟨?_, k₄⟩
    rw [sc.toD]; exact sc'
  · intro D h' tk ys vs hD hL hpl hlen' hPv hF hk
    have hvs : vs.map toD = ds := by
      refine List.ext_getElem? fun j => ?_
      rw [List.getElem?_map]
      cases hj : vs[j]? with
      | none =>
        have : ds[j]? = none := by
          rw [List.getElem?_eq_none_iff] at hj ⊢; omega
        rw [this]; rfl
      | some v =>
        obtain ⟨d, hd, sc⟩ := hP j v (hPv j v hj)
        rw [hd, Option.map_some, sc.toD]
    have up1 : Up s₁.heap h' := stay ⟨h', s₁.gens, s₁.drawn, s₁.toks, s₁.os⟩ hk
    obtain ⟨n, ho⟩ := hpl
    have hD1 : s₁.heap.get? D = none := by
      cases e : s₁.heap.get? D with
      | none => rfl
      | some o => rw [k₂ _ _ e] at hD; cases hD
    refine q _ _ (hR.trans r₁ (hR.keeps s₁ h' tk up1)) (Rd.mkList ?_ ho ?_)
    · exact ((hX _ i).up (hR.up r₁)).fresh hD1
    · have hf : (vs.filter fun v => p (toD v)).map toD = ds.filter p := by
        rw [← hvs, List.filter_map]; rfl
      rw [← hf]
      exact paired_rdl (fun _ _ z => z) hF

end
end Mine
end

/-! part G1 -/
section
open PySem PySem.W PySem.Spec PySem.Calls PyProof.Rows
set_option Elab.async false
set_option linter.unusedVariables false
namespace Mine
section
variable {M : Model} {A : Around} {R : GenEnd} {Y : Protocol} {n : Nat} {s₀ : Shared} {c : Code} {fs : List Frame} {s : Shared} {env : Env}
  {K : Flow → Sem Fin} {H : Value → Sem Fin} {gd : Bool → Bool} {lv : List Value → List Value}

theorem seg_bw {α β : Type} {m : Sem α} {f : α → Sem β} {K : β → Sem Fin} (h : wpAny M (A.over c fs) m (fun a s' => Seg M A R Y n s₀ c ((f a).wrap K H gd lv) fs s') (fun x s' => Seg M A R Y n s₀ c (H x) fs s') s) :
    Seg M A R Y n s₀ c ((m >>= f).wrap K H gd lv) fs s := by
  rw [Sem.bind_eq_wrap', Sem.wrap_wrap]
  exact seg_wrap h

/-- a statement that gives nothing out and raises nothing -/
theorem seg_plain {st : Stmt} (h : wpAny M (A.over c fs) (exec st env) (fun f s' => Seg M A R Y n s₀ c (K f) fs s') (fun _ _ => False) s) : Seg M A R Y n s₀ c ((exec st env).wrap K H gd lv) fs s :=
  seg_wrap (wpAny_mono h (fun _ _ x => x) fun _ _ x => x.elim)

theorem seg_If {test : Expr} {body orelse : List Stmt} {pos : Pos} (h : wpAny M (A.over c fs) (isTrue test env (eval test env)) (fun b s' => Seg M A R Y n s₀ c ((if b = true then execs body env else execs orelse env).wrap K H gd lv) fs s') (fun _ _ => False) s) :
    Seg M A R Y n s₀ c ((exec (.If test body orelse pos) env).wrap K H gd lv) fs s := by
  rw [exec_If]
  exact seg_bw (wpAny_standAt (seg_bw (wpAny_mono h (fun _ _ x => x) fun _ _ x => x.elim)))

def loopFrame (env : Env) (K : Flow → Sem Fin) (H : Value → Sem Fin) (gd : Bool → Bool) (lv : List Value → List Value) (c : Code) (p : Pos) : Frame :=
  .ret (fun r => ((match r with | .ok f => (.pure f : Sem Flow) | .error e => .raise e).onRaise fun (x : Value) => do
        if (← field x 1) == Value.none then unsupported "frame.own-activation:exception-without-traceback"
        setFlight x env.frame).wrap K H gd lv) none (gd false) (lv []) c p []

theorem seg_For {target iter : Expr} {body orelse : List Stmt} {pos : Pos}
    (h : wpAny M (A.over c fs) (eval iter env) (fun x s₁ => wpAny M (A.over c fs) (pyIter x) (fun it s₂ => ∀ p, Seg M A R Y n s₀ (.forLoop target it body orelse env) (M.den (.forLoop target it body orelse env)) (loopFrame env K H gd lv c p :: fs) s₂) (fun _ _ => False) s₁) (fun _ _ => False) s)
    (hs : ∀ x, foldedSetIterable iter env x = pure x := by intro _; rfl) :
    Seg M A R Y n s₀ c ((exec (.For target iter body orelse pos) env).wrap K H gd lv) fs s := by
  rw [exec_For]
  refine seg_bw (wpAny_standAt (seg_bw (wpAny_mono h (fun x s₁ h₁ => ?_) fun _ _ x => x.elim)))
  refine seg_bw (wpAny_of_eq (hs x) (seg_bw (wpAny_standAt (seg_bw (wpAny_holding (wpAny_mono h₁ (fun it s₂ h₂ => ?_) fun _ _ x => x.elim))))))
  exact seg_call h₂

theorem seg_execs_last {st : Stmt} (h : Seg M A R Y n s₀ c ((exec st env).wrap K H gd lv) fs s) : Seg M A R Y n s₀ c ((execs [st] env).wrap K H gd lv) fs s := by
  rw [execs_cons_wrap]
  refine Eq.mpr (congrArg (fun t => Seg M A R Y n s₀ c t fs s) (Sem.wrap_congr (exec st env) gd lv (K' := K) (H' := H) (fun f => ?_) (fun _ => rfl))) h
  cases f <;> rfl
end

section
variable {prog : Program} {w : World} {A : Around} {R : GenEnd} {Y : Protocol} {n : Nat} {s₀ : Shared} {fs : List Frame} {s : Shared} {env : Env}

def loopK (target : Expr) (it : Value) (body orelse : List Stmt) (env : Env) : Flow → Sem Fin := fun f => match f with
  | .next | .cont => .pure (.again (.forLoop target it body orelse env))
  | .brk => .pure (.done .next)
  | .ret v => .pure (.done (.ret v))
def loopH (env : Env) : Value → Sem Fin := fun e => (do noteFrame e env; theTreesLotGoes e : Sem Unit).wrap (fun _ => .raise e) .raise id id

theorem seg_forLoop {target : Expr} {it : Value} {body orelse : List Stmt}
    (h : wpAny (model prog w) (A.over (.forLoop target it body orelse env) fs) (pyNext it) (fun r s' => match r with
      | none => Seg (model prog w) A R Y n s₀ (.block orelse env) ((model prog w).den (.block orelse env)) fs s'
      | some v => wpAny (model prog w) (A.over (.forLoop target it body orelse env) fs) (letOwnedTupleGo target it v) (fun _ s₂ => wpAny (model prog w) (A.over (.forLoop target it body orelse env) fs) (assign target env v) (fun _ s₃ =>
          Seg (model prog w) A R Y n s₀ (.forLoop target it body orelse env) ((execs body env).wrap (loopK target it body orelse env) (loopH env) id id) fs s₃) (fun _ _ => False) s₂) (fun _ _ => False) s') (fun _ _ => False) s) :
    Seg (model prog w) A R Y n s₀ (.forLoop target it body orelse env) ((model prog w).den (.forLoop target it body orelse env)) fs s := by
  show Seg _ A R Y n s₀ _ ((forTurn target it body orelse env).onRaise (fun x => do noteFrame x env; theTreesLotGoes x)) fs s
  unfold forTurn
  rw [Sem.onRaise_eq_wrap]
  have hH : (fun e => ((fun x => do noteFrame x env; theTreesLotGoes x) e : Sem Unit).bind fun _ => (.raise e : Sem Fin)) = loopH env := by
    funext e; exact Sem.bind_eq_wrap _ _
  rw [hH]
  refine seg_bw (wpAny_standAt (seg_bw (wpAny_onRaise (wpAny_mono h (fun r s' h' => ?_) fun _ _ x => x.elim))))
  cases r with
  | none => exact seg_again rfl h'
  | some v =>
    refine seg_bw (wpAny_mono h' (fun _ s₂ h₂ => seg_bw (wpAny_mono h₂ (fun _ s₃ h₃ => ?_) fun _ _ x => x.elim)) fun _ _ x => x.elim)
    rw [Sem.bind_eq_wrap', Sem.wrap_wrap]
    refine Eq.mpr (congrArg (fun t => Seg (model prog w) A R Y n s₀ (.forLoop target it body orelse env) t fs s₃) (Sem.wrap_congr (execs body env) id id (K' := loopK target it body orelse env) (H' := loopH env) (fun f => ?_) (fun _ => rfl))) h₃
    cases f <;> rfl

/-- behind the loop -/
theorem seg_blockNil {k h g l c₁ p₁ kp} (hk : Seg (model prog w) A R Y n s₀ c₁ (k (.ok .next)) fs s) : Seg (model prog w) A R Y n s₀ (.block [] env) ((model prog w).den (.block [] env)) (.ret k h g l c₁ p₁ kp :: fs) s :=
  seg_leaf (.ok .next) hk
end
end Mine
end

/-! part G2 -/
section
open PySem PySem.W PySem.Spec PySem.Calls PyProof.Rows
set_option Elab.async false
set_option linter.unusedVariables false
namespace Mine

def dOf (i : Nat) : DefRec := match (PySem.Challenge.pw_tv0012_01.main.body)[i]? with
  | some (.FunctionDef name params body _ _ _ scope _ _ pos) => ⟨name, params, body, scope, pos⟩
  | _ => ⟨"", default, [], default, default⟩

/-- what is left to tell of a text, from the place k on; b: a backslash waits -/
def unitsB : Bool → Nat → List Nat → List (Nat × Str)
  | false, _, [] => []
  | true, k, [] => [(k - 1, ⟨#[92]⟩)]
  | false, k, c :: r => if c = 92 then unitsB true (k + 1) r else (k, ⟨#[c]⟩) :: unitsB false (k + 1) r
  | true, k, c :: r => (k, ⟨#[92, c]⟩) :: unitsB false (k + 1) r
def unitsOf (x : Str) : List (Nat × Str) := unitsB false 0 x.cps.toList

def Own (L b : Addr) (o : Obj) : Prop := b = L ∨ o.cls = .type "enumerate" ∨ o.cls = .type "str_ascii_iterator"
structure Mvd (L : Addr) (h h' : Heap) : Prop where
  keep : ∀ b o, h.get? b = some o → (b < L ∨ ¬ Own L b o) → h'.get? b = some o
def Stay (L : Addr) (h h' : Heap) : Prop := ∀ b o, h.get? b = some o → L ≤ b → Own L b o → h'.get? b = some o
theorem Mvd.refl (L : Addr) (h : Heap) : Mvd L h h := ⟨fun _ _ e _ => e⟩
theorem Mvd.trans {L : Addr} {h h' h'' : Heap} (x : Mvd L h h') (y : Mvd L h' h'') : Mvd L h h'' := ⟨fun b o e q => y.keep b o (x.keep b o e q) q⟩
theorem Mvd.of_up {L : Addr} {h h' : Heap} (k : Up h h') : Mvd L h h' := ⟨fun b o e _ => k b o e⟩
/-- one object of its own is changed -/
theorem Mvd.of_but {L c : Addr} {h h' : Heap} (k : ∀ b o, b ≠ c → h.get? b = some o → h'.get? b = some o) (hc : ∀ o, h.get? c = some o → L ≤ c ∧ Own L c o) : Mvd L h h' := ⟨fun b o e q => by
  by_cases hb : b = c
  · subst hb
    obtain ⟨l, w⟩ := hc o e
    rcases q with q | q
    · exact absurd q (Nat.not_lt.mpr l)
    · exact absurd w q
  · exact k b o hb e⟩
/-- a new address is none that stays -/
theorem Mvd.new {L : Addr} {h h' : Heap} (x : Mvd L h h') {T : Addr} (e : h'.get? T = none) : ∀ b o, h.get? b = some o → (b < L ∨ ¬ Own L b o) → b ≠ T := fun b o q z hb => by
  subst hb
  rw [x.keep b o q z] at e; cases e

/-- the same but for the heap and the tokens -/
def SameRest (s s' : Shared) : Prop := ∃ h tk, s' = { s with heap := h, toks := tk }
theorem SameRest.refl (s : Shared) : SameRest s s := ⟨_, _, rfl⟩
theorem SameRest.trans {a b c : Shared} (x : SameRest a b) (y : SameRest b c) : SameRest a c := by
  obtain ⟨_, _, rfl⟩ := x; obtain ⟨_, _, rfl⟩ := y; exact ⟨_, _, rfl⟩

/-- the generator's own objects when it stands at its loop's head -/
structure GIn (L e it : Addr) (x : Str) (t : Tok) (k : Nat) (b : Bool) (h : Heap) : Prop where
  ns : ∃ m, h.Ns L m ∧ m "escape" = some (.bool b) ∧ ∃ tp, m "pos" = some (.int ((k - 1 : Nat) : Int) tp)
  en : ∃ old, IsEnum h e it (k : Int) old
  si : h.IsStrIter it "str_ascii_iterator" x t k
  le : L < e
  li : L < it
  ne : e ≠ it

theorem GIn.stay {L e it : Addr} {x : Str} {t : Tok} {k : Nat} {b : Bool} {h h' : Heap} (g : GIn L e it x t k b h) (y : Stay L h h') : GIn L e it x t k b h' := by
  obtain ⟨⟨m, n, a, c⟩, ⟨old, en⟩, ⟨o, ho, hc, hd⟩, l1, l2, l3⟩ := g
  exact ⟨⟨m, n.at' fun o q => y L o q (Nat.le_refl _) (.inl rfl), a, c⟩, ⟨old, y e _ en (Nat.le_of_lt l1) (.inr (.inl rfl))⟩, ⟨o, y it o ho (Nat.le_of_lt l2) (.inr (.inr hc)), hc, hd⟩, l1, l2, l3⟩

abbrev GenR (L : Addr) : GenEnd := fun n s₀ r s' => r = .ok (.ret .none) ∧ n = 0 ∧ Mvd L s₀.heap s'.heap ∧ SameRest s₀ s'
abbrev GenY (L : Addr) (us : List (Nat × Str)) : Protocol := fun m s₀ v s' kap =>
  (∃ T u t1 t2 n, us[us.length - 1 - m]? = some u ∧ v = .ref T ∧ (T ≠ L ∧ ∀ b o, s₀.heap.get? b = some o → (b < L ∨ ¬ Own L b o) → b ≠ T) ∧ s'.heap.get? T = some (tupObj #[.int (u.1 : Int) t1, .str u.2 t2] n)) ∧
    Mvd L s₀.heap s'.heap ∧ SameRest s₀ s' ∧ ∀ s'', Stay L s'.heap s''.heap → kap (.send .none) s''

section
variable {prog : Program} {w : World} {A : Around} {L a : Addr} {cd : Value} {x : Str} {t : Tok}

abbrev genEnv (L a : Addr) (cd : Value) : Env := envOf (dOf 3).name (dOf 3).scope L a cd

theorem gen_kind : (genEnv L a cd).scope.kind = .function := rfl
theorem gen_pos : (genEnv L a cd).kindOf "pos" = some .local := rfl
theorem gen_ch : (genEnv L a cd).kindOf "ch" = some .local := rfl
theorem gen_esc : (genEnv L a cd).kindOf "escape" = some .local := rfl
end
end Mine
end

/-! part G3 -/
section
open PySem PySem.W PySem.Spec PySem.Calls PyProof.Rows
set_option Elab.async false
set_option linter.unusedVariables false
namespace Mine

def forTgt : Stmt → Expr | .For t _ _ _ _ => t | _ => default
def forBody : Stmt → List Stmt | .For _ _ b _ _ => b | _ => []
def stAt (l : List Stmt) (i : Nat) : Stmt := l.getD i (.Pass default)
def gTgt : Expr := forTgt (stAt (dOf 3).body 2)
def gBody : List Stmt := forBody (stAt (dOf 3).body 2)

section
variable {prog : Program} {w : World} {A : Around} {L a : Addr} {cd : Value} {x : Str} {t : Tok}

theorem ld_loc {M : Model} {A : Around} {E : Value → Shared → Prop} {s : Shared} {env : Env} {y : Str} {pos : Pos} {m : Str → Option Value} {v : Value} {Q : Value → Shared → Prop} (hk : env.scope.kind = .function) (hl : env.kindOf y = some .local) (n : s.heap.Ns env.locals m) (e : m y = some v) (h : Q v s)
    (hd : (y == ("__debug__" : Str)) = false := by decide) : wpAny M A (eval (.Name y pos) env) Q E s := wpAny_Name (wpAny_loadName_local hk hl n e h) hd

/-- behind a loop's turn with the flag set anew -/
theorem gen_turn_set {M : Model} {A : Around} {R : GenEnd} {Y : Protocol} {n : Nat} {s₀ : Shared} {c : Code} {fs : List Frame} {s : Shared} {K : Flow → Sem Fin} {H : Value → Sem Fin} {p1 p2 p3 : Pos} {kk : Nat} {b : Bool} {m : Str → Option Value}
    (hn : s.heap.Ns L m) (h : ∀ h' tk, h'.Ns L (fun y => if y = "escape" then some (.bool b) else m y) → Heap.SameBut L s.heap h' → Seg M A R Y n s₀ c (K .next) fs { s with heap := h', toks := tk }) :
    Seg M A R Y n s₀ c ((execs [.Assign [.Name "escape" p1] (.Constant (.bool b) kk p2) p3] (genEnv L a cd)).wrap K H id id) fs s := by
  refine seg_execs_last (seg_plain (wpAny_Assign_Name ?_))
  show wpAny _ _ (pure (Value.bool b) : Sem Value) _ _ _
  refine wpAny_pure (wpAny_storeName_local (env := genEnv L a cd) gen_esc hn (fun h' hn' hs' => ?_))
  exact h h' _ hn' hs'

theorem GIn.set {L e it : Addr} {x : Str} {t : Tok} {k : Nat} {b b' : Bool} {h h' : Heap} {m' : Str → Option Value} (g : GIn L e it x t k b h) (n : h'.Ns L m') (hs : Heap.SameBut L h h') (h1 : m' "escape" = some (.bool b')) (h2 : ∃ tp, m' "pos" = some (.int ((k - 1 : Nat) : Int) tp)) :
    GIn L e it x t k b' h' := by
  obtain ⟨_, ⟨old, en⟩, ⟨o, ho, hc, hd⟩, l1, l2, l3⟩ := g
  exact ⟨⟨m', n, h1, h2⟩, ⟨old, hs.extBut _ _ (Nat.ne_of_gt l1) en⟩, ⟨o, hs.extBut _ _ (Nat.ne_of_gt l2) ho, hc, hd⟩, l1, l2, l3⟩
theorem GIn.up {L e it : Addr} {x : Str} {t : Tok} {k : Nat} {b : Bool} {h h' : Heap} (g : GIn L e it x t k b h) (y : Up h h') : GIn L e it x t k b h' := g.stay fun b o e _ _ => y b o e

/-- what was made of two, told in one row -/
theorem pair_inv {X : Addr → Prop} {h : Heap} {v : Value} {i : Int} {y : Str} (r : Rd X h v (.tuple [.int i, .str y])) : ∃ T t1 t2 n, v = .ref T ∧ ¬ X T ∧ h.get? T = some (tupObj #[.int i t1, .str y t2] n) := by
  obtain ⟨T, vs, n, rfl, hT, ho, hl⟩ := r.tuple_inv
  obtain ⟨vs⟩ := vs
  change RdL X h vs _ at hl
  cases hl with
  | cons x hl => cases hl with
    | cons y hl => cases hl with
      | nil =>
        obtain ⟨t1, rfl⟩ := x.int_inv
        obtain ⟨t2, rfl⟩ := y.str_inv
        exact ⟨T, t1, t2, n, rfl, hT, ho⟩

theorem suffix_at {α : Type} {us pre l : List α} {u : α} (e : us = pre ++ u :: l) : us[us.length - 1 - l.length]? = some u := by
  subst e
  have : (pre ++ u :: l).length - 1 - l.length = pre.length := by simp
  rw [this]; simp

theorem one_eq (c : Nat) : ((⟨#[c]⟩ : Str) == (⟨#[92]⟩ : Str)) = decide (c = 92) := by
  by_cases h : c = 92
  · subst h; rfl
  · have : (⟨#[c]⟩ : Str) ≠ ⟨#[92]⟩ := fun e => h (by injection e with e; injection e with e; injection e)
    simp [h, this]

theorem taken_of {h₀ h : Heap} (k : Up h₀ h) : Taken (fun b => (h₀.get? b).isSome = true) h := fun b q => by
  obtain ⟨o, ho⟩ := Option.isSome_iff_exists.mp q
  rw [k b o ho]; rfl
theorem bs_is : Str.ofString "\\" = (⟨#[92]⟩ : Str) := by decide +kernel
theorem bs_app (c : Nat) : (Str.ofString "\\" ++ (⟨#[c]⟩ : Str)) = (⟨#[92, c]⟩ : Str) := by rw [bs_is]; rfl

theorem gen_loop (ha : x.cps.all (· < 128) = true) {us : List (Nat × Str)} {c0 : Code} {K : Flow → Sem Fin} {H : Value → Sem Fin} {p0 : Pos} (hA : A.handled = none) (hsz : x.length ≤ sizeLine)
    (hK : ∀ b s₀ s m, s.heap.Ns L m → m "escape" = some (.bool b) → (∃ tp, m "pos" = some (.int ((x.cps.size - 1 : Nat) : Int) tp)) → (∃ pre, us = pre ++ unitsB b x.cps.size []) → Mvd L s₀.heap s.heap → SameRest s₀ s →
      Seg (model prog w) A (GenR L) (GenY L us) (unitsB b x.cps.size []).length s₀ c0 (K .next) [] s) (e it : Addr) :
    ∀ (rest : List Nat) (k : Nat) (b : Bool) (s₀ s : Shared), x.cps.toList.drop k = rest → k ≤ x.cps.size → GIn L e it x t k b s.heap → Mvd L s₀.heap s.heap → SameRest s₀ s → (∃ pre, us = pre ++ unitsB b k rest) →
      Seg (model prog w) A (GenR L) (GenY L us) (unitsB b k rest).length s₀ (.forLoop gTgt (.ref e) gBody [] (genEnv L a cd)) ((model prog w).den (.forLoop gTgt (.ref e) gBody [] (genEnv L a cd))) [loopFrame (genEnv L a cd) K H id id c0 p0] s
  | [], k, b, s₀, s, hd, hk, g, hm, hr, hs => by
    have hkk : k = x.cps.size := by
      have := congrArg List.length hd
      simp at this; omega
    subst hkk
    obtain ⟨⟨m, n, hesc, hpos⟩, ⟨old, en⟩, si, le, li, ne⟩ := id g
    refine seg_forLoop ?_
    have hA' : ((A.over (.forLoop gTgt (.ref e) gBody [] (genEnv L a cd)) [loopFrame (genEnv L a cd) K H id id c0 p0]).in1).handled = none := hA
    refine wpAny_pyNext_enum_endD (Draws.strAscii hA' it x t) en si fun h' hx => ?_
    refine seg_blockNil ?_
    show Seg _ _ _ _ _ _ _ (K .next) _ _
    have m1 : Mvd L s.heap h' := Mvd.of_but (c := it) (fun b o hb q => hx b o hb q) fun o q => by
      obtain ⟨oi, hoi, hci, _⟩ := id si
      rw [hoi] at q; cases q
      exact ⟨Nat.le_of_lt li, .inr (.inr hci)⟩
    exact hK b s₀ _ m (n.at' fun o q => hx L o (Nat.ne_of_lt li) q) hesc hpos hs (hm.trans m1) (hr.trans ⟨_, _, rfl⟩)
  | c :: r, k, b, s₀, s, hd, hk, g, hm, hr, hs => by
    have hlt : k < x.cps.size := by
      have := congrArg List.length hd
      simp at this; omega
    have hc : x.cps[k]? = some c := by
      have : (x.cps.toList.drop k)[0]? = some c := by rw [hd]; rfl
      simpa using this
    have hd' : x.cps.toList.drop (k + 1) = r := by
      have : (x.cps.toList.drop k).drop 1 = r := by rw [hd]; rfl
      rw [List.drop_drop] at this; exact this
    obtain ⟨⟨m, n, hesc, tp, hpos⟩, ⟨old, en⟩, si, le, li, ne⟩ := id g
    have heH : e < s.heap.objs.size := Heap.lt_size en
    obtain ⟨oi, hoi, hci, hdi⟩ := id si
    have hiH : it < s.heap.objs.size := Heap.lt_size hoi
    refine seg_forLoop ?_
    have hA' : (A.over (.forLoop gTgt (.ref e) gBody [] (genEnv L a cd)) [loopFrame (genEnv L a cd) K H id id c0 p0]).handled = none := hA
    refine wpAny_pyNext_enum_itemD (Draws.strAscii (A := (A.over (.forLoop gTgt (.ref e) gBody [] (genEnv L a cd)) [loopFrame (genEnv L a cd) K H id id c0 p0]).in1) hA' it x t) en si hlt ne (by simpa using ne) fun v h₁ tk hP heo si₁ hT₁ hz₁ k₁ => ?_
    obtain ⟨c', u, hc', rfl⟩ := hP
    rw [hc] at hc'; cases hc'
    refine wpAny_letOwnedTupleGo_enum heo fun h₂ he₂ hs₂ => ?_
    replace hs₂ : Heap.SameBut e h₁ h₂ := hs₂
    have ht₂ : h₂.IsTuple s.heap.objs.size #[.int (k : Int) tk, .str ⟨#[c]⟩ u] := ⟨_, (hs₂.2 _ (Nat.ne_of_gt heH)).trans hT₁, rfl, _, rfl⟩
    have hz₂ : h₂.objs.size = s.heap.objs.size + 1 := hs₂.1.trans hz₁
    refine wpAny_assign_Tuple hA' ht₂ rfl rfl fun h₃ hx₃ => ?_
    replace hx₃ : Heap.ExtBut h₂.objs.size h₂ h₃ := hx₃
    have old₃ : ∀ b o, b < s.heap.objs.size → h₂.get? b = some o → h₃.get? b = some o := fun b o hb x => hx₃ b o (by rw [hz₂]; exact Nat.ne_of_lt (Nat.lt_succ_of_lt hb)) x
    have up₃ : ∀ b o, b ≠ e → b ≠ it → s.heap.get? b = some o → h₃.get? b = some o := fun b o h1 h2 q => old₃ b o (Heap.lt_size q) (hs₂.extBut b o h1 (k₁ b o h1 h2 q))
    have hn₃ : h₃.Ns L m := n.at' fun o q => up₃ L o (Nat.ne_of_lt le) (Nat.ne_of_lt li) q
    show wpAny _ _ (do holding [Value.str ⟨#[c]⟩ u] (assign (.Name _ _) (genEnv L a cd) (.int (k : Int) tk)); do holding [] (assign (.Name _ _) (genEnv L a cd) (.str ⟨#[c]⟩ u)); pure ()) _ _ _
    refine wpAny_bind (wpAny_holding (wpAny_assign_Name (wpAny_storeName_local (env := genEnv L a cd) gen_pos hn₃ (fun h₄ hn₄ hs₄ => ?_))))
    replace hs₄ : Heap.SameBut L h₃ h₄ := hs₄
    refine wpAny_bind (wpAny_holding (wpAny_assign_Name (wpAny_storeName_local (env := genEnv L a cd) gen_ch hn₄ (fun h₅ hn₅ hs₅ => wpAny_pure ?_))))
    replace hs₅ : Heap.SameBut L h₄ h₅ := hs₅
    have s45 : ∀ b o, b ≠ L → h₃.get? b = some o → h₅.get? b = some o := fun b o hb q => hs₅.extBut b o hb (hs₄.extBut b o hb q)
    have g₅ : GIn L e it x t (k + 1) b h₅ := by
      refine ⟨⟨_, hn₅, ?_, tk, ?_⟩, ⟨.str ⟨#[c]⟩ u, ?_⟩, ?_, le, li, ne⟩
      · rw [if_neg (by decide), if_neg (by decide)]; exact hesc
      · rw [if_neg (by decide), if_pos rfl]; rfl
      · have : ((k + 1 : Nat) : Int) = (k : Int) + 1 := by push_cast; rfl
        rw [this]
        exact s45 e _ (Nat.ne_of_gt le) (old₃ e _ heH he₂)
      · obtain ⟨o₁, ho₁, q⟩ := si₁
        exact ⟨o₁, s45 it _ (Nat.ne_of_gt li) (old₃ it _ hiH (hs₂.extBut it _ (Ne.symm ne) ho₁)), q⟩
    have m₅ : Mvd L s.heap h₅ := ⟨fun b o q z => by
      have n1 : b ≠ L := by
        rintro rfl
        rcases z with z | z
        · exact Nat.lt_irrefl _ z
        · exact z (.inl rfl)
      have n2 : b ≠ e := by
        rintro rfl
        rcases z with z | z
        · exact absurd z (Nat.not_lt.mpr (Nat.le_of_lt le))
        · rw [en] at q; cases q; exact z (.inr (.inl rfl))
      have n3 : b ≠ it := by
        rintro rfl
        rcases z with z | z
        · exact absurd z (Nat.not_lt.mpr (Nat.le_of_lt li))
        · rw [hoi] at q; cases q; exact z (.inr (.inr hci))
      exact s45 b o n1 (up₃ b o n2 n3 q)⟩
    -- the tail of a turn: the flag set, and the loop goes on
    have again : ∀ (b' : Bool) (s₁ : Shared) (s₂ : Shared) {p1 p2 p3 : Pos} {kk : Nat}, GIn L e it x t (k + 1) b s₂.heap → Mvd L s₁.heap s₂.heap → SameRest s₁ s₂ → (∃ pre, us = pre ++ unitsB b' (k + 1) r) →
        Seg (model prog w) A (GenR L) (GenY L us) (unitsB b' (k + 1) r).length s₁ (.forLoop gTgt (.ref e) gBody [] (genEnv L a cd)) ((execs [.Assign [.Name "escape" p1] (.Constant (.bool b') kk p2) p3] (genEnv L a cd)).wrap (loopK gTgt (.ref e) gBody [] (genEnv L a cd)) (loopH (genEnv L a cd)) id id) [loopFrame (genEnv L a cd) K H id id c0 p0] s₂ := by
      intro b' s₁ s₂ p1 p2 p3 kk g' hm' hr' hs'
      obtain ⟨⟨m₁, n₁, _, tp₁, hpos₁⟩, _⟩ := id g'
      refine gen_turn_set n₁ fun h' tk' hn' hsb => seg_again rfl ?_
      refine gen_loop ha hA hsz hK e it r (k + 1) b' s₁ { s₂ with heap := h', toks := tk' } hd' hlt (g'.set hn' hsb (by rw [if_pos rfl]) ⟨tp₁, by rw [if_neg (by decide)]; exact hpos₁⟩) ?_ (hr'.trans ⟨_, _, rfl⟩) hs'
      exact hm'.trans (Mvd.of_but (c := L) (fun b o hb q => hsb.extBut b o hb q) fun o q => ⟨Nat.le_refl _, .inl rfl⟩)
    have hI : UpC (fun h => Up h₅ h) := fun h h' k i => i.tr k
    have hX : ∀ h, Up h₅ h → Taken (fun b => (h₅.get? b).isSome = true) h := fun h i => taken_of i
    have tell : ∀ (s₅ : Shared) (y : Str) (yv : Value) (m' : Nat), s₅.heap = h₅ → SameRest s₀ s₅ → ∀ v s', Keeps s₅ s' → Rd (fun b => (h₅.get? b).isSome = true) s'.heap v (.tuple [.int (k : Int), .str y]) →
        us[us.length - 1 - m']? = some (k, y) → ∀ (kap : Resume → Shared → Prop), (∀ s'', Stay L s'.heap s''.heap → kap (.send .none) s'') → GenY L us m' s₀ v s' kap := by
      intro s₅ y yv m' e5 hr5 v s' kp rd hu kap hk
      obtain ⟨T, t1, t2, n', rfl, hT, ho⟩ := pair_inv rd
      have up' : Up h₅ s'.heap := e5 ▸ keepsOk.up kp
      have mv' : Mvd L s₀.heap s'.heap := hm.trans (m₅.trans (Mvd.of_up up'))
      refine ⟨⟨T, (k, y), t1, t2, n', hu, rfl, ⟨fun eT => ?_, ?_⟩, ho⟩, mv', hr5.trans (by obtain ⟨h9, tk9, e9, _⟩ := kp; exact ⟨h9, tk9, e9⟩), hk⟩
      · obtain ⟨oL, _, _, hoL, _⟩ := hn₅
        exact hT (by rw [eT]; exact Option.isSome_iff_exists.mpr ⟨oL, hoL⟩)
      intro b o q z hb
      subst hb
      have := m₅.keep b o (hm.keep b o q z) z
      exact hT (by rw [this]; rfl)
    refine seg_execs_last (seg_If (isTrue_plain (ld_loc gen_kind gen_esc hn₅ (by rw [if_neg (by decide), if_neg (by decide)]; exact hesc) (wpAny_truthy_bool ?_))))
    have evpos : ∀ pp : Pos, Ev prog w (A.over (.forLoop gTgt (.ref e) gBody [] (genEnv L a cd)) [loopFrame (genEnv L a cd) K H id id c0 p0]) Keeps (genEnv L a cd) (fun h => Up h₅ h) (.Name "pos" pp) (fun h v => Rd (fun b => (h₅.get? b).isSome = true) h v (.int (k : Int))) :=
      fun pp => ev_name keepsOk rfl fun h i => ⟨.int k tk, .inl ⟨gen_pos, _, hn₅.keeps i, by rw [if_neg (by decide), if_pos rfl]⟩, .int _ _⟩
    have evch : ∀ pp : Pos, Ev prog w (A.over (.forLoop gTgt (.ref e) gBody [] (genEnv L a cd)) [loopFrame (genEnv L a cd) K H id id c0 p0]) Keeps (genEnv L a cd) (fun h => Up h₅ h) (.Name "ch" pp) (fun h v => Rd (fun b => (h₅.get? b).isSome = true) h v (.str ⟨#[c]⟩)) :=
      fun pp => ev_name keepsOk rfl fun h i => ⟨.str ⟨#[c]⟩ u, .inl ⟨gen_ch, _, hn₅.keeps i, by rw [if_pos rfl]⟩, .str _ _⟩
    obtain ⟨pre, hpre⟩ := hs
    cases b with
    | true =>
      show Seg _ _ _ _ (unitsB true k (c :: r)).length s₀ _ ((execs _ _).wrap _ _ _ _) _ _
      refine seg_execs_cons (seg_Expr_Yield (n := (unitsB false (k + 1) r).length) rfl rfl rfl ?_)
      refine ev_tuple (ds := [.int (k : Int), .str ⟨#[92, c]⟩]) keepsOk hI hX (.cons (evpos _) (upRd _) rfl (.cons ?ev2 (upRd _) rfl .nil)) ?_ _ Up.rfl' _ _ fun v s' kp rd => ?_
      case ev2 =>
        rw [← bs_app c]
        exact ev_bin keepsOk hI (ev_str keepsOk) (evch _) (upRd _) (op_adds keepsOk (by rw [bs_is]; exact (show (2 : Nat) ≤ sizeLine by decide)))
      · exact (show (2 : Nat) ≤ sizeLine by decide)
      · intro kap hkap
        refine tell _ _ (.none) _ rfl (hr.trans ⟨_, _, rfl⟩) v s' kp rd (suffix_at (pre := pre) hpre) kap fun s'' hst => hkap .none s'' ?_
        show Seg _ _ _ _ _ s'' _ ((execs _ _).wrap _ _ _ _) _ s''
        exact again false s'' s'' ((g₅.up (keepsOk.up kp)).stay hst) (Mvd.refl _ _) (SameRest.refl _) ⟨pre ++ [(k, ⟨#[92, c]⟩)], by rw [hpre]; simp [unitsB]⟩
    | false =>
      show Seg _ _ _ _ (unitsB false k (c :: r)).length s₀ _ ((execs _ _).wrap _ _ _ _) _ _
      refine seg_execs_last (seg_If ((tst_cmp (X := fun b => (h₅.get? b).isSome = true) (b := decide (c = 92)) keepsOk hI (evch _) (ev_str (X := fun b => (h₅.get? b).isSome = true) keepsOk) (upRd _) ?op) _ Up.rfl' _ _ fun s' kp => ?_))
      case op =>
        have := op_eqs (prog := prog) (w := w) (A := A.over (.forLoop gTgt (.ref e) gBody [] (genEnv L a cd)) [loopFrame (genEnv L a cd) K H id id c0 p0]) (I := fun h => Up h₅ h) (X := fun b => (h₅.get? b).isSome = true) (x := ⟨#[c]⟩) (y := Str.ofString "\\") keepsOk
        rw [bs_is, one_eq, ← bs_is] at this
        exact this
      have up' : Up h₅ s'.heap := keepsOk.up kp
      have hr' : SameRest s₀ s' := hr.trans (by obtain ⟨h9, tk9, e9, _⟩ := kp; exact ⟨h9, tk9, e9⟩)
      by_cases h92 : c = 92
      · subst h92
        have hu : unitsB false k (92 :: r) = unitsB true (k + 1) r := by simp [unitsB]
        rw [hu] at hpre ⊢
        show Seg _ _ _ _ _ s₀ _ ((execs _ _).wrap _ _ _ _) _ s'
        exact again true s₀ s' (g₅.up up') (hm.trans (m₅.trans (Mvd.of_up up'))) hr' ⟨pre, hpre⟩
      · have hu : unitsB false k (c :: r) = (k, ⟨#[c]⟩) :: unitsB false (k + 1) r := by simp [unitsB, h92]
        rw [hu] at hpre ⊢
        rw [if_neg (by simpa using h92)]
        show Seg _ _ _ _ ((unitsB false (k + 1) r).length + 1) s₀ _ ((execs _ _).wrap _ _ _ _) _ s'
        refine seg_execs_last (seg_Expr_Yield (n := (unitsB false (k + 1) r).length) rfl rfl rfl ?_)
        refine ev_tuple (ds := [.int (k : Int), .str ⟨#[c]⟩]) keepsOk hI hX (.cons (evpos _) (upRd _) rfl (.cons (evch _) (upRd _) rfl .nil)) (show (2 : Nat) ≤ sizeLine by decide) s' up' _ _ fun v s'' kp' rd => ?_
        intro kap hkap
        refine tell _ _ (.none) _ rfl (hr.trans ⟨_, _, rfl⟩) v s'' (keepsOk.trans kp kp') rd (suffix_at (pre := pre) hpre) kap fun s9 hst => hkap .none s9 ?_
        show Seg _ _ _ _ _ s9 _ (.pure (.again (.forLoop gTgt (.ref e) gBody [] (genEnv L a cd)))) _ s9
        refine seg_again rfl ?_
        exact gen_loop ha hA hsz hK e it r (k + 1) false s9 s9 hd' hlt ((g₅.up (up'.tr (keepsOk.up kp'))).stay hst) (Mvd.refl _ _) (SameRest.refl _) ⟨pre ++ [(k, ⟨#[c]⟩)], by rw [hpre]; simp⟩
end
end Mine
end

/-! part G4 -/
section
open PySem PySem.W PySem.Spec PySem.Calls PyProof.Rows
set_option Elab.async false
set_option linter.unusedVariables false
namespace Mine
section
variable {prog : Program} {w : World} {A : Around} {L a : Addr} {cd : Value} {x : Str} {t : Tok}

theorem gen_start (ha : x.cps.all (· < 128) = true) (hA : A.handled = none) (hsz : x.length ≤ sizeLine) {s : Shared} {m : Str → Option Value} (hn : s.heap.Ns L m) (hm : m "addr" = some (.str x t))
    (hL : ∀ h', Mvd L s.heap h' → Sees (genEnv L a cd) h' "enumerate" (.type "enumerate")) :
    Seg (model prog w) A (GenR L) (GenY L (unitsOf x)) (unitsOf x).length s (.func (dOf 3).body (genEnv L a cd)) ((model prog w).den (.func (dOf 3).body (genEnv L a cd))) [] s := by
  refine seg_func ?_
  show Seg _ _ _ _ _ _ _ ((execs (_ :: _) _).wrap _ _ _ _) _ _
  refine seg_execs_cons (seg_plain (wpAny_Assign_Name (wpAny_Constant_int (wpAny_storeName_local (env := genEnv L a cd) gen_pos hn (fun h₁ hn₁ hs₁ => ?_)))))
  refine seg_execs_cons (seg_plain (wpAny_Assign_Name ?_))
  show wpAny _ _ (pure (Value.bool false) : Sem Value) _ _ _
  refine wpAny_pure (wpAny_storeName_local (env := genEnv L a cd) gen_esc hn₁ (fun h₂ hn₂ hs₂ => ?_))
  have m₂ : Mvd L s.heap h₂ := (Mvd.of_but (c := L) (fun b o hb q => hs₁.extBut b o hb q) fun o q => ⟨Nat.le_refl _, .inl rfl⟩).trans (Mvd.of_but (c := L) (fun b o hb q => hs₂.extBut b o hb q) fun o q => ⟨Nat.le_refl _, .inl rfl⟩)
  show Seg _ _ _ _ _ _ _ ((execs (_ :: _) _).wrap _ _ _ _) _ _
  refine seg_execs_cons (seg_For ?_)
  refine Call_Name rfl (wpAny_Name (loadSees gen_kind (hL h₂ m₂) ?_) (by decide))
  refine PySem.callWith_type rfl (Calls.evalArgs_plain (Calls.spliced_cons (ld_loc gen_kind rfl hn₂ (v := .str x t) (by rw [if_neg (by decide), if_neg (by decide)]; exact hm) (Calls.spliced_nil ?_))))
  refine call_enumerate_str fun h₃ he₃ hi₃ hz₃ k₃ => ?_
  rw [show strIterType x = "str_ascii_iterator" by simp only [strIterType, ha, if_true]] at hi₃
  have hA' : (A.over (.func (dOf 3).body (genEnv L a cd)) []).handled = none := hA
  have hLs : L < h₂.objs.size := hn₂.lt
  refine (WalksT.enumerateD (Draws.strAscii (A := (A.over (.func (dOf 3).body (genEnv L a cd)) []).in1) hA' h₂.objs.size x t) (h₂.objs.size + 1) (Nat.succ_ne_self _) (by simp) (by simp)).self 0 _ _ _ ⟨⟨.none, he₃⟩, hi₃⟩ ?_
  intro p
  have up₃ : Up h₂ h₃ := k₃
  refine gen_loop (t := t) ha hA hsz ?_ (h₂.objs.size + 1) h₂.objs.size x.cps.toList 0 false s _ rfl (Nat.zero_le _) ?_ (m₂.trans (Mvd.of_up up₃)) ⟨_, _, rfl⟩ ⟨[], rfl⟩
  · intro b s₀ s' m' hn' hesc hpos hs' hm' hr'
    show Seg _ _ _ _ _ _ _ ((execs _ _).wrap _ _ _ _) _ _
    refine seg_execs_last (seg_If (isTrue_plain (ld_loc gen_kind gen_esc hn' hesc (wpAny_truthy_bool ?_))))
    cases b with
    | false =>
      show Seg _ _ _ _ _ _ _ (leafOf (.ok (.ret .none))) _ _
      exact seg_end _ ⟨rfl, rfl, hm', hr'⟩
    | true =>
      show Seg _ _ _ _ (0 + 1) s₀ _ ((execs _ _).wrap _ _ _ _) _ s'
      refine seg_execs_last (seg_Expr_Yield (n := 0) rfl rfl rfl ?_)
      have hI : UpC (fun h => Up s'.heap h) := fun h h' k i => i.tr k
      have hX : ∀ h, Up s'.heap h → Taken (fun b => (s'.heap.get? b).isSome = true) h := fun h i => taken_of i
      obtain ⟨tp, hpos⟩ := hpos
      refine ev_tuple (ds := [.int ((x.cps.size - 1 : Nat) : Int), .str ⟨#[92]⟩]) keepsOk hI hX (.cons (ev_name keepsOk rfl fun h i => ⟨_, .inl ⟨gen_pos, _, hn'.keeps i, hpos⟩, .int _ _⟩) (upRd _) rfl (.cons (bs_is ▸ ev_str keepsOk) (upRd _) rfl .nil)) (show (2 : Nat) ≤ sizeLine by decide) s' Up.rfl' _ _ fun v s'' kp rd => ?_
      intro kap hkap
      obtain ⟨T, t1, t2, n', rfl, hT, ho⟩ := pair_inv rd
      have up' : Up s'.heap s''.heap := keepsOk.up kp
      obtain ⟨pre, hpre⟩ := hs'
      refine ⟨⟨T, (x.cps.size - 1, ⟨#[92]⟩), t1, t2, n', suffix_at (l := []) hpre, rfl, ⟨fun eT => ?_, ?_⟩, ho⟩, hm'.trans (Mvd.of_up up'), hr'.trans (by obtain ⟨h9, tk9, e9, _⟩ := kp; exact ⟨h9, tk9, e9⟩), ?_⟩
      · obtain ⟨oL, _, _, hoL, _⟩ := hn'
        exact hT (by rw [eT]; exact Option.isSome_iff_exists.mpr ⟨oL, hoL⟩)
      · intro b o q z hb
        subst hb
        have := hm'.keep b o q z
        exact hT (by rw [this]; rfl)
      · intro s₉ hst
        refine hkap .none s₉ ?_
        show Seg _ _ _ _ 0 s₉ _ (leafOf (.ok (.ret .none))) _ s₉
        exact seg_end _ ⟨rfl, rfl, Mvd.refl _ _, SameRest.refl _⟩
  · refine ⟨⟨_, (hn₂.keeps k₃), ?_, s.toks, ?_⟩, ⟨.none, he₃⟩, hi₃, Nat.lt_succ_of_lt hLs, hLs, Nat.succ_ne_self _⟩
    · rw [if_pos rfl]
    · rw [if_neg (by decide), if_pos rfl]; rfl

/-- the built-in names that the text uses -/
structure Names (h : Heap) (mg mb : Str → Option Value) : Prop where
  g : h.Ns mainGlobals mg
  b : h.Ns builtinsNs mb
theorem Names.up {h h' : Heap} {mg mb} (n : Names h mg mb) (k : Up h h') : Names h' mg mb := ⟨n.g.keeps k, n.b.keeps k⟩
theorem Names.at {h h' : Heap} {mg mb} (n : Names h mg mb) (k : ∀ b o, (b = mainGlobals ∨ b = builtinsNs) → h.get? b = some o → h'.get? b = some o) : Names h' mg mb :=
  ⟨n.g.at' fun o q => k _ o (.inl rfl) q, n.b.at' fun o q => k _ o (.inr rfl) q⟩
theorem Names.sees {h : Heap} {mg mb} (n : Names h mg mb) {env : Env} {y : Str} {v : Value} (hk : env.kindOf y = some .globalImplicit) (hg : env.globals = mainGlobals) (hb : env.builtins = builtinsNs) (e : mg y = some v ∨ (mg y = none ∧ mb y = some v)) : Sees env h y v := by
  refine .inr (.inr ⟨hk, mg, hg ▸ n.g, ?_⟩)
  rcases e with e | ⟨e1, e2⟩
  · exact .inl e
  · exact .inr ⟨e1, mb, hb ▸ n.b, e2⟩

/-- the generator stands before its unit number i -/
structure GSt (prog : Program) (w : World) (A : Around) (mg mb : Str → Option Value) (a : Addr) (g : Nat) (L : Addr) (us : List (Nat × Str)) (i : Nat) (s : Shared) : Prop where
  gen : s.heap.IsGen a g
  la : L < a
  le : i ≤ us.length
  st : ∃ gs, s.gens[g]? = some gs ∧ gs.bare = true ∧ ∀ s₂ : Shared, Names s₂.heap mg mb → Stay L s.heap s₂.heap → gs.Goes (model prog w) A (GenR L) (GenY L us) (us.length - i) (.send .none) s₂

theorem GSt.frame {mg mb} {g : Nat} {us : List (Nat × Str)} {i : Nat} {s s' : Shared} (G : GSt prog w A mg mb a g L us i s) (hg : s'.gens = s.gens) (ha : ∀ o, s.heap.get? a = some o → s'.heap.get? a = some o) (hst : Stay L s.heap s'.heap) : GSt prog w A mg mb a g L us i s' := by
  obtain ⟨⟨o, nm, qn, ho, hc, hd, hsl⟩, la, le, gs, h1, h2, h3⟩ := G
  exact ⟨⟨o, nm, qn, ha o ho, hc, hd, hsl⟩, la, le, gs, by rw [hg]; exact h1, h2, fun s₂ m st => h3 s₂ m fun b o q l z => st b o (hst b o q l z) l z⟩
end
end Mine
end

/-! part G5 -/
section
open PySem PySem.W PySem.Spec PySem.Calls PyProof.Rows
set_option Elab.async false
set_option linter.unusedVariables false
namespace Mine
section
variable {prog : Program} {w : World} {A : Around} {L a : Addr} {cd : Value} {x : Str} {t : Tok}

/-- that a generator is done is told by an exception of its own -/
theorem stop_new {M : Model} {α β : Type} {E : Value → Shared → Prop} {s : Shared} {k : β → Sem α} {Q : α → Shared → Prop} (hA : A.handled = none)
    (h : ∀ h' e, Up s.heap h' → (∃ o, h'.get? e = some o ∧ o.cls = .type "StopIteration") → E (.ref e) { s with heap := h' }) : wpAny M A (newExc (.type "StopIteration") [] >>= fun v => raiseNew v >>= k) Q E s := by
  have up : ∀ x y : Obj, Up s.heap ((s.heap.push x).push y) := fun x y b o q => Heap.get?_push_of_some y (Heap.get?_push_of_some x q)
  unfold newExc newTuple raiseNew
  have nofirst : ∀ {β : Type} {k : Value → Sem β} {Q' : β → Shared → Prop} {s' : Shared}, wpAny M A (k .none) Q' E s' → wpAny M A (firstArgMember (.type "StopIteration") [] >>= k) Q' E s' := fun hk => wpAny_bind (wpAny_of_eq (by simp only [firstArgMember]; rfl) hk)
  refine wpAny_bind (wpAny_bind (wpAny_newObj_type (nofirst (wpAny_newObj_type ?_ (by size_fits))) (by size_fits)))
  refine wpAny_bind (wpAny_bind (wpAny_handled ?_))
  rw [hA]
  exact wpAny_throw (h _ _ (up _ _) ⟨_, Heap.get?_push_size _ rfl, rfl⟩)
/-- a generator is woken: it tells something, or it is done -/
theorem wake_goes {E : Value → Shared → Prop} {s : Shared} {g n : Nat} {gs : GenState} {R : GenEnd} {Y : Protocol} {Q : Fin → Shared → Prop} (hA : A.handled = none) (hl : s.heap.NoLimit) (hroom : A.depth < recursionLimit) (hg : s.heap.IsGen a g) (hgs : s.gens[g]? = some gs)
    (hgo : gs.Goes (model prog w) A R Y n (.send .none) (s.setGen g .running))
    (told : ∀ v s₁ gs', gs'.bare = true → Y (n - 1) (s.setGen g .running) v s₁ (fun r' s'' => match n with
        | 0 => False
        | m + 1 => gs'.Goes (model prog w) A R Y m r' s'') → Q (.done (.ret v)) (s₁.setGen g gs'))
    (done : ∀ r s₁, R n (s.setGen g .running) r s₁ → r = .ok (.ret .none) ∧ ∀ h' e, Up s₁.heap h' → (∃ o, h'.get? e = some o ∧ o.cls = .type "StopIteration") → E (.ref e) { s₁.setGen g .finished with heap := h' }) :
    wpAny (model prog w) A (Builtin.Generator.genWake (.ref a) (.send .none)) Q E s := by
  have live : gs.status = .fresh ∨ gs.status = .suspended := by
    cases gs with
    | running => exact hgo.elim
    | finished => exact hgo.elim
    | fresh c => exact .inl rfl
    | suspended => exact .inr rfl
  unfold Builtin.Generator.genWake
  refine wpAny_bind (wpAny_holding (wpAny_genNumber hg (wpAny_bind (wpAny_genState hgs ?_))))
  have on := fun (k : GenResult → Sem Fin) => wpAny_resumeQ (E := E) (l := []) (k := k) (Q := Q) hgs hgo
  rcases live with e | e <;> rw [e] <;> refine wpAny_bind (wpAny_roomToWake hl hroom (on _ (fun r s₁ hr => ?_) fun v s₁ gs' hb hv => wpAny_pure (told v s₁ gs' hb hv))) <;> obtain ⟨rfl, hd⟩ := done r s₁ hr <;> exact wpAny_bind (wpAny_pure (stop_new hA hd))

/-- how the rest of the state may have turned while the generator went on -/
structure GMv (L : Addr) (s s' : Shared) : Prop where
  heap : Mvd L s.heap s'.heap
  os : s'.os = s.os
  bare : AllBare s.gens → AllBare s'.gens

theorem allBare_set {gens : Array GenState} {g : Nat} {x : GenState} (h : AllBare gens) (hx : x.bare = true) : AllBare (gens.setIfInBounds g x) := fun y hy => by
  obtain ⟨i, hi, e⟩ := Array.mem_iff_getElem.mp hy
  have hi' : i < gens.size := by simpa using hi
  rw [Array.getElem_setIfInBounds hi'] at e
  split at e
  · rw [← e]; exact hx
  · rw [← e]; exact h _ (Array.getElem_mem hi')

theorem gen_next {mg mb : Str → Option Value} {E : Value → Shared → Prop} {s : Shared} {g i : Nat} {us : List (Nat × Str)} {Q : Option Value → Shared → Prop} (hh : A.handled = none) (hl : s.heap.NoLimit) (hroom : A.depth < recursionLimit) (G : GSt prog w A.in1 mg mb a g L us i s) (N : Names s.heap mg mb)
    (hY : i < us.length → ∀ u T t1 t2 n s', us[i]? = some u → s'.heap.get? T = some (tupObj #[.int (u.1 : Int) t1, .str u.2 t2] n) → (T ≠ L ∧ ∀ b o, s.heap.get? b = some o → (b < L ∨ ¬ Own L b o) → b ≠ T) → GMv L s s' → GSt prog w A.in1 mg mb a g L us (i + 1) s' → Q (some (.ref T)) s')
    (hN : i = us.length → ∀ s', GMv L s s' → Q none s') : wpAny (model prog w) A (pyNext (.ref a)) Q E s := by
  obtain ⟨hgen, la, le, gs, h1, h2, h3⟩ := id G
  have hgl : g < s.gens.size := (Array.getElem?_eq_some_iff.mp h1).1
  have called := @wpAny_callSpecial?_slot
  unfold pyNext
  refine wpAny_bind (wpAny_attempt (called hgen.typeIs slot_gen_next (wpAny_call_entry slot_gen_next hgen.typeIs entry_gen_next (wake_goes (A := A.in1) (n := us.length - i) (Y := GenY L us) hh hl hroom hgen h1 (h3 _ N fun b o q _ _ => q) ?_ ?_) (args_gen_next _))))
  · rintro v s₁ gs' hb ⟨⟨T, u, t1, t2, n, hu, rfl, hT, ho⟩, mv, sr, kap⟩
    have hlt : i < us.length := by
      apply Nat.lt_of_not_le
      intro hge
      have : us.length - i = 0 := by omega
      rw [this] at kap
      exact kap s₁ fun b o q _ _ => q
    obtain ⟨h9, tk9, rfl⟩ := sr
    have hu' : us[i]? = some u := by
      have : us.length - 1 - (us.length - i - 1) = i := by omega
      rw [this] at hu; exact hu
    have e1 : ((s.setGen g .running).gens.setIfInBounds g gs')[g]? = some gs' := by
      show ((s.gens.setIfInBounds g .running).setIfInBounds g gs')[g]? = _
      rw [Array.getElem?_setIfInBounds]
      simp [hgl]
    refine ⟨_, rfl, wpAny_pure (hY hlt u T t1 t2 n _ hu' ho hT ⟨mv, rfl, fun hA => ?_⟩ ?_)⟩
    · show AllBare ((s.gens.setIfInBounds g .running).setIfInBounds g gs')
      exact allBare_set (allBare_set hA rfl) hb
    · obtain ⟨o, nm, qn, ho', hc, hd, hsl⟩ := hgen
      refine ⟨⟨o, nm, qn, mv.keep a o ho' (.inr fun z => ?_), hc, hd, hsl⟩, la, hlt, gs', e1, hb, fun s₂ m st => ?_⟩
      · rcases z with rfl | z | z
        · exact Nat.lt_irrefl _ la
        · rw [hc] at z; exact absurd z (by decide)
        · rw [hc] at z; exact absurd z (by decide)
      · have z := kap s₂ st
        have e : us.length - i = (us.length - (i + 1)) + 1 := by omega
        rw [e] at z
        exact z
  · rintro r s₁ ⟨rfl, h0, mv, sr⟩
    refine ⟨rfl, fun h' e up ⟨o, ho, hc⟩ => wpAny_bind (wpAny_isInstance (b := true) ⟨o, ho, hc⟩ isSubtype_stop ?_)⟩
    obtain ⟨h9, tk9, rfl⟩ := sr
    refine wpAny_pure (hN (by omega) _ ⟨mv.trans (Mvd.of_up up), rfl, fun hA => ?_⟩)
    show AllBare ((s.gens.setIfInBounds g .running).setIfInBounds g .finished)
    exact allBare_set (allBare_set hA rfl) rfl

/-- a def of the text, where it lies -/
def FnAt (h : Heap) (a : Addr) (cd : Value) (d : DefRec) : Prop := ∃ o pm doc, h.get? a = some o ∧ o.data = .func (docDef d.name d.params d.body d.scope pm cd doc) ∧ h.CodeRec cd d.name
theorem FnAt.up {h h' : Heap} {a : Addr} {cd : Value} {d : DefRec} (f : FnAt h a cd d) (k : Up h h') : FnAt h' a cd d := let ⟨o, pm, doc, h1, h2, h3⟩ := f; ⟨o, pm, doc, k _ _ h1, h2, h3.keeps k⟩
theorem gen_call {E : Value → Shared → Prop} {s : Shared} {f : Addr} {Q : Value → Shared → Prop} {mg mb : Str → Option Value} (A' : Around) (ha : x.cps.all (· < 128) = true) (hA : A'.handled = none) (hsz : x.length ≤ sizeLine) (hroom : A.depth < recursionLimit) (hl : s.heap.NoLimit) (F : FnAt s.heap f cd (dOf 3))
    (N : Names s.heap mg mb) (he : mg "enumerate" = none ∧ mb "enumerate" = some (.type "enumerate"))
    (h : ∀ a' s', L = s.heap.objs.size → Up s.heap s'.heap → s.heap.get? a' = none → GSt prog w A' mg mb a' s.gens.size L (unitsOf x) 0 s' → s'.os = s.os → (AllBare s.gens → AllBare s'.gens) → Q (.ref a') s') (hL : L = s.heap.objs.size) :
    wpAny (model prog w) A (call (.ref f) [.str x t]) Q E s := by
  obtain ⟨o, pm, doc, ho, hd, hcd⟩ := F
  refine wpAny_call (codeAny_call_generator hroom ho hd rfl rfl rfl hcd ?_)
  rw [show bindArgs (docDef (dOf 3).name (dOf 3).params (dOf 3).body (dOf 3).scope pm cd doc) ⟨[.str x t], []⟩ = pure [(("addr" : Str), .str x t)] from rfl]
  refine wpAny_pure (wpAny_newFunctionEnv (show ∀ y ∈ (dOf 3).scope.names, y.2 ≠ .cell by decide) (locs rfl) (fun h₁ hns hsb => ⟨hl.fresh _ hsb, ?_⟩) rfl)
  have hz : h₁.objs.size = s.heap.objs.size + 1 := by
    have := hsb.1
    rw [this, Heap.size_push]
  have k1 : Up s.heap h₁ := fun b o q => hsb.extBut b o (Nat.ne_of_lt (Heap.lt_size q)) (Heap.get?_push_of_some _ q)
  have kp : ∀ (o' : Obj), Up s.heap (h₁.push o') := fun o' b o q => Heap.get?_push_of_some _ (k1 b o q)
  subst hL
  refine h _ _ rfl (kp _) ?_ ⟨⟨_, _, _, Heap.get?_push_size _ rfl, rfl, rfl, rfl⟩, ?_, Nat.zero_le _, .fresh (.func (dOf 3).body (genEnv s.heap.objs.size f cd)), ?_, rfl, fun s₂ mv st => ⟨rfl, ?_⟩⟩ rfl fun hB => ?_
  · cases q : s.heap.get? h₁.objs.size with
    | none => rfl
    | some o => exact absurd (Heap.lt_size q) (Nat.not_lt.mpr (by rw [hz]; exact Nat.le_succ _))
  · show s.heap.objs.size < h₁.objs.size
    rw [hz]; exact Nat.lt_succ_self _
  · show (s.gens.push _)[s.gens.size]? = _
    simp; rfl
  · have hn2 : s₂.heap.Ns s.heap.objs.size (fun y => [(("addr" : Str), Value.str x t)].reverse.lookup y) := hns.at' fun o q => st _ o (Heap.get?_push_of_some _ q) (Nat.le_refl _) (.inl rfl)
    refine gen_start (t := t) ha hA hsz hn2 rfl fun h' mv' => ?_
    have nn : Names h' mg mb := mv.at fun b o hb q => mv'.keep b o q (.inl (by
      rcases hb with rfl | rfl
      · obtain ⟨o, _, _, ho, _⟩ := N.g; exact Heap.lt_size ho
      · obtain ⟨o, _, _, ho, _⟩ := N.b; exact Heap.lt_size ho))
    exact nn.sees rfl rfl rfl (.inr he)
  · intro y hy
    rcases Array.mem_push.mp hy with q | rfl
    · exact hB y q
    · rfl
end
end Mine
end

/-! part M5 -/
section
open PySem PySem.W PySem.Spec PySem.Calls PyProof.Rows
set_option Elab.async false
set_option linter.unusedVariables false
namespace Mine
section
variable {prog : Program} {w : World} {A : Around} {env : Env} {R : Shared → Shared → Prop} {I : Heap → Prop} {X : Addr → Prop}

theorem op_nei {x y : Int} (hR : RelOk R) : Op2 prog w A R I (compareOp .NotEq) (fun h v => Rd X h v (.int x)) (fun h v => Rd X h v (.int y)) (fun h v => Rd X h v (.bool (x != y))) := fun s v u i p q Q E h => by
  obtain ⟨t, rfl⟩ := p.int_inv
  obtain ⟨t', rfl⟩ := q.int_inv
  exact PyProof.Rows.ne_int (h _ _ (hR.refl s) (.bool _))
theorem op_lti {x y : Int} (hR : RelOk R) : Op2 prog w A R I (compareOp .Lt) (fun h v => Rd X h v (.int x)) (fun h v => Rd X h v (.int y)) (fun h v => Rd X h v (.bool (decide (x < y)))) := fun s v u i p q Q E h => by
  obtain ⟨t, rfl⟩ := p.int_inv
  obtain ⟨t', rfl⟩ := q.int_inv
  exact PyProof.Rows.lt_int (h _ _ (hR.refl s) (.bool _))
theorem op_inS {x : Str} {c : Nat} (hR : RelOk R) : Op2 prog w A R I (compareOp .In) (fun h v => Rd X h v (.str ⟨#[c]⟩)) (fun h v => Rd X h v (.str x)) (fun h v => Rd X h v (.bool (decide (c ∈ x.cps.toList)))) := fun s v u i p q Q E h => by
  obtain ⟨t, rfl⟩ := p.str_inv
  obtain ⟨t', rfl⟩ := q.str_inv
  exact PyProof.Rows.in_str (by rw [StrLaws.found_one]; exact h _ _ (hR.refl s) (.bool _))
theorem op_notInS {x : Str} {c : Nat} (hR : RelOk R) : Op2 prog w A R I (compareOp .NotIn) (fun h v => Rd X h v (.str ⟨#[c]⟩)) (fun h v => Rd X h v (.str x)) (fun h v => Rd X h v (.bool (!decide (c ∈ x.cps.toList)))) := fun s v u i p q Q E h => by
  obtain ⟨t, rfl⟩ := p.str_inv
  obtain ⟨t', rfl⟩ := q.str_inv
  exact PyProof.Rows.notIn_str (by rw [StrLaws.found_one]; exact h _ _ (hR.refl s) (.bool _))
theorem op_isNone {P : Heap → Value → Prop} {b : Bool} (hR : RelOk R) (hP : ∀ h v, P h v → (v == .none) = b) : Op2 prog w A R I (compareOp .Is) P (fun h v => Rd X h v .none) (fun h v => Rd X h v (.bool b)) := fun s v u i p q Q E h => by
  cases q
  exact is_none (h _ _ (hR.refl s) (by rw [hP _ _ p]; exact .bool _))

theorem ev_none (hR : RelOk R) {k : Nat} {pos : Pos} : Ev prog w A R env I (.Constant .none k pos) (fun h v => Rd X h v .none) := fun s _ Q E h => by
  show wpAny _ _ (pure Value.none : Sem Value) _ _ _
  exact wpAny_pure (h _ _ (hR.refl s) .none)
theorem ev_bool (hR : RelOk R) {b : Bool} {k : Nat} {pos : Pos} : Ev prog w A R env I (.Constant (.bool b) k pos) (fun h v => Rd X h v (.bool b)) := fun s _ Q E h => by
  show wpAny _ _ (pure (Value.bool b) : Sem Value) _ _ _
  exact wpAny_pure (h _ _ (hR.refl s) (.bool _))

/-- an item of a list at a place within -/
theorem ev_item {l e : Expr} {xs : List PyData} {i : Int} {d : PyData} {pos : Pos} (hR : RelOk R) (hI : UpC I) (h1 : Ev prog w A R env I l (fun h v => Rd X h v (.list xs))) (h2 : Ev prog w A R env I e (fun h v => Rd X h v (.int i))) (h0 : 0 ≤ i) (hf : i < 2 ^ 63) (hd : xs[i.toNat]? = some d)
    (hs : ∀ o iv, subscripted e false o iv = operate [o, iv] (getItem o iv) := by intro _ _; with_unfolding_all rfl) (ht : ∀ o r, letTemporaryGo l o r = pure () := by intro _ _; with_unfolding_all rfl) :
    Ev prog w A R env I (.Subscript l e pos) (fun h v => Rd X h v d) := fun s ii Q E h => by
  refine Subscript_ (ev_seq2 hR hI h1 h2 (upRd _) ii fun v u s' r p q => ?_)
  obtain ⟨a, vs, n, rfl, ha, ho, hl⟩ := p.list_inv
  obtain ⟨t, rfl⟩ := q.int_inv
  have hL : s'.heap.IsList a vs := ⟨_, ho, rfl, n, rfl⟩
  obtain ⟨v, hv⟩ : ∃ v, vs.toList[i.toNat]? = some v := ⟨_, List.getElem?_eq_getElem (by rw [hl.length]; exact (List.getElem?_eq_some_iff.mp hd).1)⟩
  refine subscriptTail_builtin hL.typeIs slot_list_getitem.lookup (wpAny_getItem_list hL h0 hf (x := v) (by simpa using hv) (h _ _ r (hl.at _ _ _ hv hd))) (hs _ _) (fun r => ht _ _)

/-- an item at the place -1 -/
theorem ev_itemLast {l e : Expr} {xs : List PyData} {d : PyData} {pos : Pos} (hR : RelOk R) (hI : UpC I) (h1 : Ev prog w A R env I l (fun h v => Rd X h v (.list xs))) (h2 : Ev prog w A R env I e (fun h v => Rd X h v (.int (-1)))) (hd : xs.getLast? = some d)
    (hs : ∀ o iv, subscripted e false o iv = operate [o, iv] (getItem o iv) := by intro _ _; with_unfolding_all rfl) (ht : ∀ o r, letTemporaryGo l o r = pure () := by intro _ _; with_unfolding_all rfl) :
    Ev prog w A R env I (.Subscript l e pos) (fun h v => Rd X h v d) := fun s ii Q E h => by
  refine Subscript_ (ev_seq2 hR hI h1 h2 (upRd _) ii fun v u s' r p q => ?_)
  obtain ⟨a, vs, n, rfl, ha, ho, hl⟩ := p.list_inv
  obtain ⟨t, rfl⟩ := q.int_inv
  have hL : s'.heap.IsList a vs := ⟨_, ho, rfl, n, rfl⟩
  have hlen : vs.size = xs.length := by rw [← hl.length]; simp
  have hpos : 0 < xs.length := by
    cases xs with
    | nil => cases hd
    | cons _ _ => simp
  have hd' : xs[xs.length - 1]? = some d := by rw [← List.getLast?_eq_getElem?]; exact hd
  obtain ⟨v, hv⟩ : ∃ v, vs.toList[xs.length - 1]? = some v := ⟨_, List.getElem?_eq_getElem (by rw [hl.length]; omega)⟩
  refine subscriptTail_builtin hL.typeIs slot_list_getitem.lookup (wpAny_getItem_list_neg hL (by decide) (by rw [hlen]; omega) (by decide) (x := v) ?_ (h _ _ r (hl.at _ _ _ hv hd'))) (hs _ _) (fun r => ht _ _)
  rw [hlen]
  have : ((-1 : Int) + (xs.length : Int)).toNat = xs.length - 1 := by omega
  rw [this]
  simpa using hv

theorem ev_negOne {k : Nat} {p pos : Pos} (hR : RelOk R) : Ev prog w A R env I (.UnaryOp .USub (.Constant (.int 1) k p) pos) (fun h v => Rd X h v (.int (-1))) := fun s ii Q E h => by
  refine UnaryOp_ (wpAny_Constant_int ?_)
  exact PyProof.Rows.neg_int (h _ _ (hR.keeps s s.heap _ fun _ _ e => e) (.int _ _))

/-- the part of a list from a place on -/
theorem ev_from {l lo : Expr} {xs : List PyData} {a : Nat} {p pos : Pos} (hR : RelOk R) (hI : UpC I) (hX : ∀ h, I h → Taken X h) (h1 : Ev prog w A R env I l (fun h v => Rd X h v (.list xs))) (h2 : Ev prog w A R env I lo (fun h v => Rd X h v (.int (a : Int)))) (hsz : xs.length ≤ sizeLine)
    (ht : ∀ o r, letTemporaryGo l o r = pure () := by intro _ _; rfl) :
    Ev prog w A R env I (.Subscript l (.Slice (some lo) none none p) pos) (fun h v => Rd X h v (.list (xs.drop a))) := fun s ii Q E h => by
  refine wpAny_Subscript_list_slice ?_ ht
  refine h1 s ii _ _ fun v s₁ r₁ p1 => ?_
  rw [evalPart_some]
  refine h2 s₁ (hI _ _ (hR.up r₁) ii) _ _ fun u s₂ r₂ p2 => ?_
  rw [evalPart_none]
  refine wpAny_pure ?_
  have p1 := p1.up (hR.up r₂)
  obtain ⟨b, vs, n, rfl, hb, ho, hl⟩ := p1.list_inv
  obtain ⟨t, rfl⟩ := p2.int_inv
  have hlen : vs.size = xs.length := by rw [← hl.length]; simp
  refine ⟨b, vs, some (a : Int), none, rfl, ⟨_, ho, rfl, n, rfl⟩, by rw [hlen]; exact hsz, .int _ _, .none, ?_⟩
  rw [slicePick_from']
  have k : Up s₂.heap ((s₂.heap.push { cls := .type "slice", data := .fields #[.int (a : Int) t, .none, .none] }).push (listObj (vs.toList.drop a).toArray 0)) := fun _ _ e => Heap.get?_push_of_some _ (Heap.get?_push_of_some _ e)
  have hI2 := hI _ _ (hR.up (hR.trans r₁ r₂)) ii
  refine h _ { s₂ with heap := (s₂.heap.push { cls := .type "slice", data := .fields #[.int (a : Int) t, .none, .none] }).push (listObj (vs.toList.drop a).toArray 0) } (hR.trans (hR.trans r₁ r₂) (hR.keeps s₂ _ _ k)) (Rd.mkList (n := 0) (vs := (vs.toList.drop a).toArray) (fun x => ?_) ?_ ?_)
  · have := (hX _ hI2) _ x
    obtain ⟨o, ho'⟩ := Option.isSome_iff_exists.mp this
    exact absurd (Heap.lt_size ho') (Nat.not_lt.mpr (Nat.le_succ _))
  · have e : s₂.heap.objs.size + 1 = (s₂.heap.push { cls := .type "slice", data := .fields #[.int (a : Int) t, .none, .none] }).objs.size := by rw [Heap.size_push]
    rw [e]; exact Heap.get?_push_size _ rfl
  · refine RdL.of _ _ (by simp [hl.length, hlen]) fun j v' d' e1 e2 => ?_
    have e1' : vs.toList[a + j]? = some v' := by simpa using e1
    have e2' : xs[a + j]? = some d' := by simpa using e2
    exact (hl.at _ _ _ e1' e2').up k
/-- the first so many of a list -/
theorem ev_upto {l hi : Expr} {xs : List PyData} {a : Nat} {p pos : Pos} (hR : RelOk R) (hI : UpC I) (hX : ∀ h, I h → Taken X h) (h1 : Ev prog w A R env I l (fun h v => Rd X h v (.list xs))) (h2 : Ev prog w A R env I hi (fun h v => Rd X h v (.int (a : Int)))) (hsz : xs.length ≤ sizeLine)
    (ht : ∀ o r, letTemporaryGo l o r = pure () := by intro _ _; rfl) :
    Ev prog w A R env I (.Subscript l (.Slice none (some hi) none p) pos) (fun h v => Rd X h v (.list (xs.take a))) := fun s ii Q E h => by
  refine wpAny_Subscript_list_slice ?_ ht
  refine h1 s ii _ _ fun v s₁ r₁ p1 => ?_
  rw [evalPart_none]
  refine wpAny_pure ?_
  rw [evalPart_some]
  refine h2 s₁ (hI _ _ (hR.up r₁) ii) _ _ fun u s₂ r₂ p2 => ?_
  have p1 := p1.up (hR.up r₂)
  obtain ⟨b, vs, n, rfl, hb, ho, hl⟩ := p1.list_inv
  obtain ⟨t, rfl⟩ := p2.int_inv
  have hlen : vs.size = xs.length := by rw [← hl.length]; simp
  refine ⟨b, vs, none, some (a : Int), rfl, ⟨_, ho, rfl, n, rfl⟩, by rw [hlen]; exact hsz, .none, .int _ _, ?_⟩
  rw [slicePick_upto']
  have k : Up s₂.heap ((s₂.heap.push { cls := .type "slice", data := .fields #[.none, .int (a : Int) t, .none] }).push (listObj (vs.toList.take a).toArray 0)) := fun _ _ e => Heap.get?_push_of_some _ (Heap.get?_push_of_some _ e)
  have hI2 := hI _ _ (hR.up (hR.trans r₁ r₂)) ii
  refine h _ { s₂ with heap := (s₂.heap.push { cls := .type "slice", data := .fields #[.none, .int (a : Int) t, .none] }).push (listObj (vs.toList.take a).toArray 0) } (hR.trans (hR.trans r₁ r₂) (hR.keeps s₂ _ _ k)) (Rd.mkList (n := 0) (vs := (vs.toList.take a).toArray) (fun x => ?_) ?_ ?_)
  · have := (hX _ hI2) _ x
    obtain ⟨o, ho'⟩ := Option.isSome_iff_exists.mp this
    exact absurd (Heap.lt_size ho') (Nat.not_lt.mpr (Nat.le_succ _))
  · have e : s₂.heap.objs.size + 1 = (s₂.heap.push { cls := .type "slice", data := .fields #[.none, .int (a : Int) t, .none] }).objs.size := by rw [Heap.size_push]
    rw [e]; exact Heap.get?_push_size _ rfl
  · refine RdL.of _ _ (by simp [hl.length, hlen]) fun j v' d' e1 e2 => ?_
    have e1 : (vs.toList.take a)[j]? = some v' := by simpa using e1
    rw [List.getElem?_take] at e1 e2
    split at e1
    · rename_i hj
      rw [if_pos hj] at e2
      exact (hl.at _ _ _ e1 e2).up k
    · cases e1

/-- a text's part -/
def slc (x : Str) (a b : Nat) : Str := ⟨((x.cps.toList.drop a).take (b - a)).toArray⟩
theorem pick_run (l : Array Nat) (a : Nat) : ∀ n, ((List.range n).map (fun k => a + k)).filterMap (fun i => l[i]?) = (l.toList.drop a).take n
  | 0 => by simp
  | n + 1 => by
    rw [List.range_succ, List.map_append, List.filterMap_append, pick_run l a n, List.take_succ]
    congr 1
    simp only [List.map_cons, List.map_nil, List.filterMap_cons, List.filterMap_nil, List.getElem?_drop, Array.getElem?_toList]
    cases l[a + n]? <;> rfl
theorem slice_open (a len : Nat) : Builtin.Str.strSliceIndices (some (a : Int)) none 1 len = Builtin.Str.strSliceIndices (some (a : Int)) (some (len : Int)) 1 len := by
  unfold Builtin.Str.strSliceIndices
  have h1 : ¬ ((len : Int) < 0) := by omega
  simp [h1]
theorem slice_post {x : Str} {t : Tok} {a b : Nat} {l u : Option (Int × Tok)} {Q : Value → Shared → Prop} {s : Shared} (hab : a ≤ b) (hb : b ≤ x.length) (hi : Builtin.Str.strSliceIndices (l.map (·.1)) (u.map (·.1)) 1 x.length = Builtin.Str.strSliceIndices (some (a : Int)) (some (b : Int)) 1 x.length) (hsz : x.length ≤ sizeLine)
    (h : ∀ t' tk, Q (.str (slc x a b) t') { s with toks := tk }) : (sliceMade x t l u none).post Q s := by
  have hp : slicePicked x l u none = (List.range (b - a)).map (fun k => a + k) := by
    unfold slicePicked
    rw [show ((none : Option (Int × Tok)).map (·.1)).getD 1 = 1 from rfl, hi, StrLaws.strSliceIndices_plain hab hb]
  have hx : (⟨((slicePicked x l u none).filterMap (x.cps[·]?)).toArray⟩ : Str) = slc x a b := by
    rw [hp, pick_run]; rfl
  unfold sliceMade
  split
  · rename_i hfull
    have hlen : (slicePicked x l u none).length = x.length := by
      have := (Bool.and_eq_true_iff.mp hfull).2
      simpa using this
    have : slc x a b = x := by
      rw [hp] at hlen
      have hba : b - a = x.length := by simpa using hlen
      have ha0 : a = 0 := by omega
      subst ha0
      unfold slc
      have : x.cps.toList.length ≤ b - 0 := by rw [Nat.sub_zero] at hba ⊢; rw [hba]; simp [Str.length]
      simp only [List.drop_zero, List.take_of_length_le this]
    show Q (.str x t) s
    rw [← this]
    exact h t s.toks
  · rw [hx]
    refine ⟨?_, h _ _⟩
    have : (slc x a b).length ≤ x.length := by
      simp [slc, Str.length]; omega
    omega
theorem ev_slice {v lo hi : Expr} {x : Str} {a b : Nat} {p pos : Pos} (hR : RelOk R) (hI : UpC I) (h1 : Ev prog w A R env I v (fun h v => Rd X h v (.str x))) (h2 : Ev prog w A R env I lo (fun h v => Rd X h v (.int (a : Int)))) (h3 : Ev prog w A R env I hi (fun h v => Rd X h v (.int (b : Int))))
    (hab : a ≤ b) (hb : b ≤ x.length) (hsz : x.length ≤ sizeLine) (ht : ∀ o r, letTemporaryGo v o r = pure () := by intro _ _; rfl) :
    Ev prog w A R env I (.Subscript v (.Slice (some lo) (some hi) none p) pos) (fun h v => Rd X h v (.str (slc x a b))) := fun s ii Q E h => by
  refine wpAny_Subscript_str_slice ?_ ht
  refine h1 s ii _ _ fun v s₁ r₁ p1 => ?_
  rw [evalPart_some, evalPart_some]
  refine h2 s₁ (hI _ _ (hR.up r₁) ii) _ _ fun u s₂ r₂ p2 => h3 s₂ (hI _ _ (hR.up (hR.trans r₁ r₂)) ii) _ _ fun u' s₃ r₃ p3 => ?_
  obtain ⟨t, rfl⟩ := p1.str_inv
  obtain ⟨t1, rfl⟩ := p2.int_inv
  obtain ⟨t2, rfl⟩ := p3.int_inv
  refine ⟨x, t, some ((a : Int), t1), some ((b : Int), t2), rfl, rfl, rfl, slice_post hab hb rfl hsz fun t' tk => ?_⟩
  exact h _ _ (hR.trans (hR.trans (hR.trans r₁ r₂) r₃) (hR.keeps s₃ _ _ fun _ _ e => Heap.get?_push_of_some _ e)) (.str _ _)
theorem ev_sliceFrom {v lo : Expr} {x : Str} {a : Nat} {p pos : Pos} (hR : RelOk R) (hI : UpC I) (h1 : Ev prog w A R env I v (fun h v => Rd X h v (.str x))) (h2 : Ev prog w A R env I lo (fun h v => Rd X h v (.int (a : Int))))
    (hab : a ≤ x.length) (hsz : x.length ≤ sizeLine) (ht : ∀ o r, letTemporaryGo v o r = pure () := by intro _ _; rfl) :
    Ev prog w A R env I (.Subscript v (.Slice (some lo) none none p) pos) (fun h v => Rd X h v (.str (slc x a x.length))) := fun s ii Q E h => by
  refine wpAny_Subscript_str_slice ?_ ht
  refine h1 s ii _ _ fun v s₁ r₁ p1 => ?_
  rw [evalPart_some, evalPart_none]
  refine h2 s₁ (hI _ _ (hR.up r₁) ii) _ _ fun u s₂ r₂ p2 => wpAny_pure ?_
  obtain ⟨t, rfl⟩ := p1.str_inv
  obtain ⟨t1, rfl⟩ := p2.int_inv
  refine ⟨x, t, some ((a : Int), t1), none, rfl, rfl, rfl, slice_post hab (Nat.le_refl _) (slice_open a x.length) hsz fun t' tk => ?_⟩
  exact h _ _ (hR.trans (hR.trans r₁ r₂) (hR.keeps s₂ _ _ fun _ _ e => Heap.get?_push_of_some _ e)) (.str _ _)

theorem cal_len_str {x : Str} (hR : RelOk R) (hsz : x.length ≤ sizeLine) : Cal prog w A R I (.builtin "len") [fun h v => Rd X h v (.str x)] (fun h v => Rd X h v (.int (x.length : Int))) := fun s vs ii hv Q E h => by
  cases hv with
  | cons p q =>
    cases q
    obtain ⟨t, rfl⟩ := p.str_inv
    refine PyProof.Rows.len_str (by have : (sizeLine : Nat) = 2 ^ 24 := rfl; omega) (h _ _ (hR.keeps s s.heap _ fun _ _ e => e) (.int _ _))
theorem cal_len_list {xs : List PyData} (hR : RelOk R) (hsz : xs.length ≤ sizeLine) : Cal prog w A R I (.builtin "len") [fun h v => Rd X h v (.list xs)] (fun h v => Rd X h v (.int (xs.length : Int))) := fun s vs ii hv Q E h => by
  cases hv with
  | cons p q =>
    cases q
    obtain ⟨b, vs, n, rfl, hb, ho, hl⟩ := p.list_inv
    have hlen : vs.size = xs.length := by rw [← hl.length]; simp
    refine call_len_list ⟨_, ho, rfl, n, rfl⟩ (by rw [hlen]; have : (sizeLine : Nat) = 2 ^ 24 := rfl; omega) (h _ _ (hR.keeps s s.heap _ fun _ _ e => e) (by rw [hlen]; exact .int _ _))
end
end Mine
end

/-! part M6 -/
section
open PySem PySem.W PySem.Spec PySem.Calls PyProof.Rows
set_option Elab.async false
set_option linter.unusedVariables false
namespace Mine

theorem Names.off {X : Addr → Prop} {h h' : Heap} (x : ∃ mg mb, Names h mg mb) (g : ¬ X mainGlobals ∧ ¬ X builtinsNs) (hk : ∀ b o, ¬ X b → h.get? b = some o → h'.get? b = some o) : ∃ mg mb, Names h' mg mb := by
  obtain ⟨mg, mb, n⟩ := x
  refine ⟨mg, mb, n.at fun b o hb q => hk b o ?_ q⟩
  rcases hb with rfl | rfl
  · exact g.1
  · exact g.2

/-- how a frame's addresses lie -/
structure WF (X : Addr → Prop) (env : Env) (h : Heap) : Prop where
  kind : env.scope.kind = .function
  globals : env.globals = mainGlobals
  builtins : env.builtins = builtinsNs
  loc : ∃ m, h.Ns env.locals m
  xl : X env.locals
  cell : ∀ n c, env.cells.lookup n = some c → (∃ o, h.IsCell c o) ∧ X c ∧ c ≠ env.locals
  apart : ∀ n c n' c', env.cells.lookup n = some c → env.cells.lookup n' = some c' → n ≠ n' → c ≠ c'
  xg : ¬ X mainGlobals ∧ ¬ X builtinsNs
  nm : ∃ mg mb, Names h mg mb
theorem WF.up {X env h h'} (f : WF X env h) (k : Up h h') : WF X env h' :=
  { f with loc := let ⟨m, n⟩ := f.loc; ⟨m, n.keeps k⟩, cell := fun n c e => let ⟨⟨o, i⟩, r⟩ := f.cell n c e; ⟨⟨o, i.keeps k⟩, r⟩, nm := let ⟨mg, mb, n⟩ := f.nm; ⟨mg, mb, n.up k⟩ }

/-- the frame's own objects: its names and its cells -/
def Fb (env : Env) (b : Addr) : Prop := b = env.locals ∨ ∃ n, env.cells.lookup n = some b
theorem Fb.x {X env h b} (f : Fb env b) (w : WF X env h) : X b := by
  rcases f with rfl | ⟨n, e⟩
  · exact w.xl
  · exact (w.cell n b e).2.1

inductive VS where
  | dat (d : PyData)
  | val (v : Value)
def VS.Ok (X : Addr → Prop) (h : Heap) : VS → Value → Prop
  | .dat d, v => Rd X h v d
  | .val u, v => v = u
theorem VS.Ok.to {X : Addr → Prop} {h h' : Heap} {z : VS} {v : Value} (x : z.Ok X h v) (hk : ∀ b o, ¬ X b → h.get? b = some o → h'.get? b = some o) : z.Ok X h' v := by
  cases z with
  | dat d => exact Rd.to x hk fun _ _ _ q => q
  | val u => exact x
/-- what the names are bound to -/
def St (X : Addr → Prop) (env : Env) (h : Heap) (ρ : List (Str × VS)) : Prop := ∀ y z, ρ.lookup y = some z → ∃ v, Sees env h y v ∧ z.Ok X h v
theorem St.up {X env h h' ρ} (s : St X env h ρ) (k : Up h h') : St X env h' ρ := fun y z e => let ⟨v, a, b⟩ := s y z e; ⟨v, a.up k, b.to fun b o _ => k b o⟩

/-- a change to other addresses of X than the frame's own -/
theorem sees_other {X env h h' y v} (w : WF X env h) (s : Sees env h y v) (hk : ∀ b o, Fb env b ∨ ¬ X b → h.get? b = some o → h'.get? b = some o) : Sees env h' y v := by
  rcases s with ⟨a, m, n, e⟩ | ⟨a, c, e, i⟩ | ⟨a, mg, n, e⟩
  · exact .inl ⟨a, m, n.at' fun o q => hk _ o (.inl (.inl rfl)) q, e⟩
  · refine .inr (.inl ⟨a, c, e, ?_⟩)
    obtain ⟨o, ho, hd⟩ := i
    exact ⟨o, hk c o (.inl (.inr ⟨y, e⟩)) ho, hd⟩
  · have g : ¬ X env.globals := w.globals ▸ w.xg.1
    have b : ¬ X env.builtins := w.builtins ▸ w.xg.2
    refine .inr (.inr ⟨a, mg, n.at' fun o q => hk _ o (.inr g) q, ?_⟩)
    rcases e with e | ⟨e, mb, nb, eb⟩
    · exact .inl e
    · exact .inr ⟨e, mb, nb.at' fun o q => hk _ o (.inr b) q, eb⟩
theorem St.other {X env h h' ρ} (w : WF X env h) (s : St X env h ρ) (hk : ∀ b o, Fb env b ∨ ¬ X b → h.get? b = some o → h'.get? b = some o) : St X env h' ρ := fun y z e =>
  let ⟨v, a, b⟩ := s y z e; ⟨v, sees_other w a hk, b.to fun b o q => hk b o (.inr q)⟩
theorem WF.other {X env h h'} (w : WF X env h) (hk : ∀ b o, Fb env b ∨ ¬ X b → h.get? b = some o → h'.get? b = some o) : WF X env h' :=
  { w with loc := let ⟨m, n⟩ := w.loc; ⟨m, n.at' fun o q => hk _ o (.inl (.inl rfl)) q⟩, cell := fun n c e => let ⟨⟨o, p, i⟩, r⟩ := w.cell n c e; ⟨⟨o, p, hk c p (.inl (.inr ⟨n, e⟩)) i.1, i.2⟩, r⟩, nm := Names.off w.nm w.xg fun b o hb q => hk b o (.inr hb) q }

section
variable {M : Model} {A : Around} {env : Env} {X : Addr → Prop} {E : Value → Shared → Prop} {s : Shared}

theorem ns_cell_ne {h : Heap} {L c : Addr} {m o} (n : h.Ns L m) (i : h.IsCell c o) : c ≠ L := by
  rintro rfl
  obtain ⟨o1, _, _, h1, h2, _⟩ := n
  obtain ⟨o2, h3, h4⟩ := i
  rw [h1] at h3; cases h3
  rw [h2] at h4; cases h4

/-- a name is bound anew -/
theorem store_st {y : Str} {z : VS} {v : Value} {ρ : List (Str × VS)} {Q : Unit → Shared → Prop} (w : WF X env s.heap) (t : St X env s.heap ρ) (hy : env.kindOf y = some .local ∨ (env.kindOf y = some .cell ∧ (env.cells.lookup y).isSome = true)) (hz : z.Ok X s.heap v)
    (h : ∀ h' tk, WF X env h' → St X env h' ((y, z) :: ρ) → (∀ b o, ¬ Fb env b → s.heap.get? b = some o → h'.get? b = some o) → (∀ b, (s.heap.get? b).isSome = true → (h'.get? b).isSome = true) → Q () { s with heap := h', toks := tk }) : wpAny M A (storeName env y v) Q E s := by
  have lk : ∀ y' z', ((y, z) :: ρ).lookup y' = some z' → (y' = y ∧ z' = z) ∨ (y' ≠ y ∧ ρ.lookup y' = some z') := fun y' z' e => by
    rw [List.lookup_cons] at e
    by_cases hb : y' = y
    · subst hb; simp at e; exact .inl ⟨rfl, e.symm⟩
    · have : (y' == y) = false := beq_eq_false_iff_ne.mpr hb
      rw [this] at e; exact .inr ⟨hb, e⟩
  obtain ⟨m, n⟩ := w.loc
  rcases hy with hl | ⟨hc, hs⟩
  · refine wpAny_storeName_local hl n (fun h' hn' hsb => ?_) (by rw [w.kind]; rfl)
    have oth : ∀ b o, b ≠ env.locals → s.heap.get? b = some o → h'.get? b = some o := fun b o hb q => hsb.extBut b o hb q
    have hX : ∀ b o, ¬ X b → s.heap.get? b = some o → h'.get? b = some o := fun b o hb q => oth b o (fun e => hb (e ▸ w.xl)) q
    refine h h' _ { w with loc := ⟨_, hn'⟩, cell := fun n' c e => ?_, nm := Names.off w.nm w.xg hX } (fun y' z' e => ?_) (fun b o hb q => oth b o (fun e => hb (.inl e)) q) (fun b q => ?_)
    · obtain ⟨⟨o, p, i⟩, r⟩ := w.cell n' c e
      exact ⟨⟨o, p, oth c p r.2 i.1, i.2⟩, r⟩
    · rcases lk y' z' e with ⟨rfl, rfl⟩ | ⟨hne, e'⟩
      · exact ⟨v, .inl ⟨hl, _, hn', by rw [if_pos rfl]⟩, hz.to hX⟩
      · obtain ⟨v', a, b⟩ := t y' z' e'
        refine ⟨v', ?_, b.to hX⟩
        rcases a with ⟨a, m', n', e2⟩ | ⟨a, c, e2, i⟩ | ⟨a, mg, n', e2⟩
        · refine .inl ⟨a, _, hn', ?_⟩
          rw [if_neg hne, Heap.Ns.agree n n' y']; exact e2
        · obtain ⟨o, ho, hd⟩ := i
          exact .inr (.inl ⟨a, c, e2, o, oth c o ((w.cell y' c e2).2.2) ho, hd⟩)
        · have g : ¬ X env.globals := w.globals ▸ w.xg.1
          have b' : ¬ X env.builtins := w.builtins ▸ w.xg.2
          refine .inr (.inr ⟨a, mg, n'.at' fun o q => hX _ o g q, ?_⟩)
          rcases e2 with e2 | ⟨e2, mb, nb, eb⟩
          · exact .inl e2
          · exact .inr ⟨e2, mb, nb.at' fun o q => hX _ o b' q, eb⟩
    · by_cases hb : b = env.locals
      · subst hb
        obtain ⟨o, _, _, ho, _⟩ := hn'
        show (h'.get? env.locals).isSome = true
        rw [ho]; rfl
      · obtain ⟨o, ho⟩ := Option.isSome_iff_exists.mp q
        rw [oth b o hb ho]; rfl
  · obtain ⟨c, ec⟩ := Option.isSome_iff_exists.mp hs
    obtain ⟨⟨v₀, i₀⟩, xc, nc⟩ := w.cell y c ec
    refine wpAny_storeName_cell w.kind hc ec i₀ fun h' hi' hsb => ?_
    have oth : ∀ b o, b ≠ c → s.heap.get? b = some o → h'.get? b = some o := fun b o hb q => hsb.extBut b o hb q
    have hX : ∀ b o, ¬ X b → s.heap.get? b = some o → h'.get? b = some o := fun b o hb q => oth b o (fun e => hb (e ▸ xc)) q
    refine h h' s.toks { w with loc := ⟨m, n.at' fun o q => oth _ o (Ne.symm nc) q⟩, cell := fun n' c' e => ?_, nm := Names.off w.nm w.xg hX } (fun y' z' e => ?_) (fun b o hb q => oth b o (fun e => hb (.inr ⟨y, e ▸ ec⟩)) q) (fun b q => ?_)
    · obtain ⟨⟨o, p, i⟩, r⟩ := w.cell n' c' e
      by_cases hcc : c' = c
      · subst hcc; exact ⟨⟨_, hi'⟩, r⟩
      · exact ⟨⟨o, p, oth c' p hcc i.1, i.2⟩, r⟩
    · rcases lk y' z' e with ⟨rfl, rfl⟩ | ⟨hne, e'⟩
      · exact ⟨v, .inr (.inl ⟨.inl hc, c, ec, hi'⟩), hz.to hX⟩
      · obtain ⟨v', a, b⟩ := t y' z' e'
        refine ⟨v', ?_, b.to hX⟩
        rcases a with ⟨a, m', n', e2⟩ | ⟨a, c', e2, i⟩ | ⟨a, mg, n', e2⟩
        · exact .inl ⟨a, m', n'.at' fun o q => oth _ o (Ne.symm nc) q, e2⟩
        · obtain ⟨o, ho, hd⟩ := i
          exact .inr (.inl ⟨a, c', e2, o, oth c' o (w.apart _ _ _ _ e2 ec hne) ho, hd⟩)
        · have g : ¬ X env.globals := w.globals ▸ w.xg.1
          have b' : ¬ X env.builtins := w.builtins ▸ w.xg.2
          refine .inr (.inr ⟨a, mg, n'.at' fun o q => hX _ o g q, ?_⟩)
          rcases e2 with e2 | ⟨e2, mb, nb, eb⟩
          · exact .inl e2
          · exact .inr ⟨e2, mb, nb.at' fun o q => hX _ o b' q, eb⟩
    · by_cases hb : b = c
      · subst hb
        obtain ⟨o, ho, _⟩ := hi'
        rw [ho]; rfl
      · obtain ⟨o, ho⟩ := Option.isSome_iff_exists.mp q
        rw [oth b o hb ho]; rfl
end
end Mine
end

/-! part M7 -/
section
open PySem PySem.W PySem.Spec PySem.Calls PyProof.Rows
set_option Elab.async false
set_option linter.unusedVariables false
namespace Mine

structure Cx (hb : Heap) (X : Addr → Prop) (env : Env) (ρ : List (Str × VS)) (h : Heap) : Prop where
  wf : WF X env h
  st : St X env h ρ
  tk : Taken X h
  up : Up hb h
  fresh : ∀ b o, hb.get? b = some o → ¬ X b
theorem cx_up {hb X env ρ} : UpC (Cx hb X env ρ) := fun h h' k c => ⟨c.wf.up k, c.st.up k, c.tk.up k, c.up.tr k, c.fresh⟩
theorem Cx.taken {hb X env ρ} : ∀ h, Cx hb X env ρ h → Taken X h := fun _ c => c.tk

/-- what goes along with R from statement to statement -/
structure RF (R F : Shared → Shared → Prop) : Prop where
  ok : RelOk R
  of : ∀ {s s'}, R s s' → F s s'
  refl : ∀ s, F s s
  trans : ∀ {a b c}, F a b → F b c → F a c
  heap : ∀ (s : Shared) h tk, F s { s with heap := h, toks := tk }
theorem rfK : RF Keeps SameRest := ⟨keepsOk, fun ⟨h, t, e, _⟩ => ⟨h, t, e⟩, SameRest.refl, fun a b => a.trans b, fun _ h t => ⟨h, t, rfl⟩⟩
structure Fm (s s' : Shared) : Prop where
  os : s'.os = s.os
  bare : AllBare s.gens → AllBare s'.gens
theorem rfM : RF Mv Fm := ⟨mvOk, fun m => ⟨m.os, m.bare⟩, fun _ => ⟨rfl, id⟩, fun a b => ⟨b.os.trans a.os, fun g => b.bare (a.bare g)⟩, fun _ _ _ => ⟨rfl, id⟩⟩

/-- only the frame's own objects have turned -/
def Only (env : Env) (h h' : Heap) : Prop := ∀ b o, ¬ Fb env b → h.get? b = some o → h'.get? b = some o
theorem Only.tr {env h h' h''} (x : Only env h h') (y : Only env h' h'') : Only env h h'' := fun b o n e => y b o n (x b o n e)
theorem Only.of_up {env h h'} (x : Up h h') : Only env h h' := fun b o _ e => x b o e

section
variable {prog : Program} {w : World} {A : Around} {env : Env} {R F : Shared → Shared → Prop} {hb : Heap} {X : Addr → Prop} {ρ : List (Str × VS)} {s : Shared} {E : Value → Shared → Prop}

theorem ev_var {I : Heap → Prop} {y : Str} {z : VS} {pos : Pos} (hR : RelOk R) (hi : ∀ h, I h → Cx hb X env ρ h) (hk : env.scope.kind = .function) (e : ρ.lookup y = some z) (hd : (y == ("__debug__" : Str)) = false := by decide) : Ev prog w A R env I (.Name y pos) (fun h v => z.Ok X h v) :=
  ev_name hR hk (fun h c => (hi h c).st y z e) hd

theorem upOk (z : VS) : UpV (fun h v => z.Ok X h v) := fun _ _ _ k r => r.to fun b o _ => k b o

theorem cx_store {M : Model} {y : Str} {z : VS} {v : Value} {Q : Unit → Shared → Prop} (c : Cx hb X env ρ s.heap) (hy : env.kindOf y = some .local ∨ (env.kindOf y = some .cell ∧ (env.cells.lookup y).isSome = true)) (hz : z.Ok X s.heap v)
    (h : ∀ h' tk, Cx hb X env ((y, z) :: ρ) h' → Only env s.heap h' → Q () { s with heap := h', toks := tk }) : wpAny M A (storeName env y v) Q E s :=
  store_st c.wf c.st hy hz fun h' tk w' s' o t => h h' tk ⟨w', s', fun a x => t a (c.tk a x), fun b o' e => o b o' (fun f => c.fresh b o' e (f.x c.wf)) (c.up b o' e), c.fresh⟩ o

theorem ex_assign {y : Str} {e : Expr} {z : VS} {p pos : Pos} {Q : Flow → Shared → Prop} (rf : RF R F) (c : Cx hb X env ρ s.heap) (hy : env.kindOf y = some .local ∨ (env.kindOf y = some .cell ∧ (env.cells.lookup y).isSome = true))
    (he : Ev prog w A R env (Cx hb X env ρ) e (fun h v => z.Ok X h v)) (h : ∀ s', Cx hb X env ((y, z) :: ρ) s'.heap → Only env s.heap s'.heap → F s s' → Q .next s')
    (hs : swapsWith e (some (.Name y p)) pos.line env = pure false := by rfl) : wpAny (model prog w) A (exec (.Assign [.Name y p] e pos) env) Q E s := by
  refine wpAny_Assign_Name (he s c _ _ fun v s₁ r₁ hz => ?_) hs
  exact cx_store (cx_up _ _ (rf.ok.up r₁) c) hy hz fun h' tk c' o => h _ c' ((Only.of_up (rf.ok.up r₁)).tr o) (rf.trans (rf.of r₁) (rf.heap _ _ _))

/-- x += e, of ints -/
theorem ex_aug {y : Str} {e : Expr} {i j : Int} {p pos : Pos} {Q : Flow → Shared → Prop} (rf : RF R F) (c : Cx hb X env ρ s.heap) (hy : env.kindOf y = some .local ∨ (env.kindOf y = some .cell ∧ (env.cells.lookup y).isSome = true))
    (hi : ρ.lookup y = some (.dat (.int i))) (he : Ev prog w A R env (Cx hb X env ρ) e (fun h v => Rd X h v (.int j))) (h : ∀ s', Cx hb X env ((y, .dat (.int (i + j))) :: ρ) s'.heap → Only env s.heap s'.heap → F s s' → Q .next s') :
    wpAny (model prog w) A (exec (.AugAssign (.Name y p) .Add e pos) env) Q E s := by
  refine wpAny_AugAssign_Name ?_
  obtain ⟨v, hv, hz⟩ := c.st y _ hi
  obtain ⟨t, rfl⟩ := Rd.int_inv hz
  refine loadSees c.wf.kind hv (he s c _ _ fun u s₁ r₁ hu => ?_)
  obtain ⟨t', rfl⟩ := hu.int_inv
  refine PyProof.Rows.iadd_int ?_
  refine cx_store (s := { s₁ with toks := s₁.toks + 1 }) (z := .dat (.int (i + j))) (show Cx hb X env ρ s₁.heap from cx_up _ _ (rf.ok.up r₁) c) hy (.int _ _) fun h' tk c' o => h _ c' ((Only.of_up (rf.ok.up r₁)).tr o) (rf.trans (rf.of r₁) (rf.heap s₁ _ _))

theorem ex_if {I : Heap → Prop} {test : Expr} {body orelse : List Stmt} {b : Bool} {pos : Pos} {Q : Flow → Shared → Prop} (i : I s.heap) (ht : Tst prog w A R env I test b)
    (h : ∀ s', R s s' → wpAny (model prog w) A (execs (if b then body else orelse) env) Q E s') : wpAny (model prog w) A (exec (.If test body orelse pos) env) Q E s := by
  refine wpAny_If (ht s i _ _ fun s' r => ?_)
  have := h s' r
  cases b <;> exact this

theorem cx_other {h h' : Heap} (c : Cx hb X env ρ h) (hk : ∀ b o, Fb env b ∨ ¬ X b → h.get? b = some o → h'.get? b = some o) (ht : ∀ b, X b → (h'.get? b).isSome = true) : Cx hb X env ρ h' :=
  ⟨c.wf.other hk, c.st.other c.wf hk, ht, fun b o e => hk b o (.inr (c.fresh b o e)) (c.up b o e), c.fresh⟩

/-- r.append(e) upon a list of the frame's own -/
theorem ex_append {l : Str} {e : Expr} {r : Addr} {vs : Array Value} {P : Heap → Value → Prop} {p apos pos pos2 : Pos} {pl : Sem Bool} {Q : Flow → Shared → Prop} (rf : RF R F) (c : Cx hb X env ρ s.heap) (hl : ρ.lookup l = some (.val (.ref r))) (hr : X r ∧ ¬ Fb env r) (hp : s.heap.PlainList r vs) (hsz : vs.size ≤ sizeLine)
    (he : Ev prog w A R env (Cx hb X env ρ) e P) (h : ∀ v s₁ s', R s s₁ → P s₁.heap v → s'.heap.PlainList r (vs.push v) → Heap.SameBut r s₁.heap s'.heap → Cx hb X env ρ s'.heap → F s s' → Q .next s')
    (hm : eval (.Call (.Attribute (.Name l p) "append" apos) [e] [] pos) env = (do
      let ov ← eval (.Name l p) env
      standAt apos.atName
      let (f, first) ← holding [ov] (getMethod ov "append" pl)
      callWith pos f first (backTo pos (starEach [e] env)) []) := by rfl)
    (hse : starEach [e] env = (false, eval e env) :: starEach [] env := by rfl) (hd : (l == ("__debug__" : Str)) = false := by decide)
    (hi : interactive env = false := by rfl) (hs : swapsWith (.Call (.Attribute (.Name l p) "append" apos) [e] [] pos) none pos2.line env = pure false := by rfl) :
    wpAny (model prog w) A (exec (.Expr (.Call (.Attribute (.Name l p) "append" apos) [e] [] pos) pos2) env) Q E s := by
  refine wpAny_Expr ?_ hi hs
  obtain ⟨v, hv, hz⟩ := c.st l _ hl
  change v = .ref r at hz
  subst hz
  obtain ⟨n, ho⟩ := id hp
  refine MethodCall_ (wpAny_Name (loadSees c.wf.kind hv (Calls.getMethod_list_append ho rfl rfl (callWith_method1 (spliced_more (he s c _ _ fun u s₁ r₁ pu => spliced_none ?_) hse) hse))) hd) hm
  have hp1 : s₁.heap.PlainList r vs := hp.at fun o q => rf.ok.up r₁ r o q
  refine wpAny_list_append_plain hp1 (fun h' hp' hsb => ?_) hsz
  have k : ∀ b o, b ≠ r → s₁.heap.get? b = some o → h'.get? b = some o := fun b o hb q => hsb.extBut b o hb q
  refine h u s₁ { s₁ with heap := h' } r₁ pu hp' hsb (cx_other (cx_up _ _ (rf.ok.up r₁) c) (fun b o hb q => k b o (fun e => ?_) q) fun b xb => ?_) (rf.trans (rf.of r₁) (rf.heap s₁ _ _))
  · subst e
    rcases hb with hb | hb
    · exact hr.2 hb
    · exact hb hr.1
  · by_cases hb : b = r
    · subst hb
      obtain ⟨n', ho'⟩ := hp'
      rw [ho']; rfl
    · obtain ⟨o, ho'⟩ := Option.isSome_iff_exists.mp (((c.tk).up (rf.ok.up r₁)) b xb)
      rw [k b o hb ho']; rfl

theorem cx_grow {h h' : Heap} {r : Addr} (c : Cx hb X env ρ h) (hr : h.get? r = none) (k : Up h h') (hn : (h'.get? r).isSome = true) (hm : r ≠ mainGlobals ∧ r ≠ builtinsNs) : Cx hb (fun b => X b ∨ b = r) env ρ h' := by
  obtain ⟨w, t, tk, up, fr⟩ := c
  have w' := w.up k
  refine ⟨{ w' with xl := .inl w'.xl, cell := fun n c e => let ⟨a, b, d⟩ := w'.cell n c e; ⟨a, .inl b, d⟩, xg := ⟨fun z => z.elim w'.xg.1 (fun e => hm.1 e.symm), fun z => z.elim w'.xg.2 (fun e => hm.2 e.symm)⟩ }, fun y z e => ?_, fun a x => ?_, up.tr k, fun b o e x => ?_⟩
  · obtain ⟨v, a, b⟩ := t y z e
    refine ⟨v, a.up k, ?_⟩
    cases z with
    | dat d => exact Rd.to b (fun b' o _ q => k b' o q) fun b' o q x => x.elim id fun e => by rw [e, hr] at q; cases q
    | val u => exact b
  · rcases x with x | rfl
    · exact (tk.up k) a x
    · exact hn
  · rcases x with x | rfl
    · exact fr b o e x
    · rw [up b o e] at hr; cases hr

/-- r = [..]: a list of the frame's own -/
theorem ex_newlist {y : Str} {es : List Expr} {ds : List PyData} {p pos lpos : Pos} {Q : Flow → Shared → Prop} (rf : RF R F) (c : Cx hb X env ρ s.heap) (hy : env.kindOf y = some .local ∨ (env.kindOf y = some .cell ∧ (env.cells.lookup y).isSome = true))
    (he : Evs prog w A R env (Cx hb X env ρ) es (ds.map fun d h v => Rd X h v d)) (hsz : ds.length ≤ sizeLine)
    (h : ∀ r vs s', s.heap.get? r = none → ¬ Fb env r → s'.heap.PlainList r vs → RdL (fun b => X b ∨ b = r) s'.heap vs.toList ds → Cx hb (fun b => X b ∨ b = r) env ((y, .val (.ref r)) :: ρ) s'.heap → Only env s.heap s'.heap → F s s' → Q .next s')
    (hs : swapsWith (.List es lpos) (some (.Name y p)) pos.line env = pure false := by rfl) : wpAny (model prog w) A (exec (.Assign [.Name y p] (.List es lpos) pos) env) Q E s := by
  refine wpAny_Assign_Name (List_ (evs_spliced rf.ok cx_up he s c _ _ fun vs s₁ r₁ q => ?_)) hs
  have q := q.rdl
  have k : Up s₁.heap (s₁.heap.push (listObj vs.toArray 0)) := fun _ _ e => Heap.get?_push_of_some _ e
  have c₁ := cx_up _ _ (rf.ok.up r₁) c
  have hg : s₁.heap.get? s₁.heap.objs.size = none := get_size _
  have hn : (s₁.heap.push (listObj vs.toArray 0)).get? s₁.heap.objs.size = some (listObj vs.toArray 0) := Heap.get?_push_size _ rfl
  have hm : s₁.heap.objs.size ≠ mainGlobals ∧ s₁.heap.objs.size ≠ builtinsNs := by
    obtain ⟨mg, mb, n⟩ := c₁.wf.nm
    exact ⟨Nat.ne_of_gt n.g.lt, Nat.ne_of_gt n.b.lt⟩
  have c₂ := cx_grow (h' := s₁.heap.push (listObj vs.toArray 0)) c₁ hg k (by rw [hn]; rfl) hm
  have hsr : s.heap.get? s₁.heap.objs.size = none := by
    cases e : s.heap.get? s₁.heap.objs.size with
    | none => rfl
    | some o => rw [rf.ok.up r₁ _ _ e] at hg; cases hg
  have hfb : ¬ Fb env s₁.heap.objs.size := fun f => c₁.tk.new (f.x c₁.wf)
  refine wpAny_newObj_type ?_ (by
    show vs.toArray.size ≤ sizeLine
    rw [List.size_toArray, q.length]; exact hsz)
  refine cx_store (s := { s₁ with heap := s₁.heap.push (listObj vs.toArray 0) }) c₂ hy (z := .val (.ref s₁.heap.objs.size)) rfl fun h' tk c' o => ?_
  have oo : Only env s₁.heap h' := (Only.of_up k).tr o
  refine h s₁.heap.objs.size vs.toArray _ hsr hfb ⟨0, o _ _ hfb hn⟩ ?_ c' ((Only.of_up (rf.ok.up r₁)).tr oo) (rf.trans (rf.of r₁) (rf.heap s₁ _ _))
  refine q.to (fun b o' hb e => oo b o' (fun f => hb (f.x c₁.wf)) e) fun b o' e x => x.elim id fun e2 => ?_
  rw [e2, hg] at e; cases e
end
end Mine
end

/-! part S1 -/
section
open PySem PySem.W PySem.Spec PySem.Calls PyProof.Rows
set_option Elab.async false
set_option linter.unusedVariables false
namespace Mine

/-- texts glued -/
def cat : List Str → Str
  | [] => ⟨#[]⟩
  | x :: r => ⟨x.cps ++ (cat r).cps⟩
theorem glued_nil : ∀ l : List Str, Builtin.Str.glued (Str.ofString "") l = cat l := by
  have h0 : (Str.ofString "").cps = #[] := by decide +kernel
  have h1 : ∀ (l : List Str) (acc : Array Nat), l.foldl (fun acc p => acc ++ (Str.ofString "").cps ++ p.cps) acc = acc ++ (cat l).cps := by
    intro l
    induction l with
    | nil => intro acc; simp [cat]
    | cons x r ih => intro acc; rw [List.foldl_cons, ih, h0]; simp [cat, Array.append_assoc]
  intro l
  cases l with
  | nil =>
    show (⟨_⟩ : Str) = cat []
    simp [cat, Str.empty]
  | cons x r =>
    show (⟨_⟩ : Str) = cat (x :: r)
    simp only [List.drop_one, List.tail_cons, List.headD_cons]
    rw [h1]; rfl
theorem cat_cps (l : List Str) : (cat l).cps.toList = (l.map fun x => x.cps.toList).flatten := by
  induction l with
  | nil => rfl
  | cons x r ih => simp [cat, ih]

abbrev SS := Nat × Option Nat × List Str
def sstep (x : Str) (z : SS) (pu : Nat × Str) : SS :=
  if pu.2 = ⟨#[34]⟩ then match z.2.1 with
    | none => (z.1, some pu.1, z.2.2)
    | some q => (pu.1 + 1, none, if z.1 ≠ q then z.2.2 ++ [slc x z.1 q] else z.2.2)
  else z
def sfold (x : Str) (us : List (Nat × Str)) : SS := us.foldl (sstep x) (0, none, [])
def sout (x : Str) (z : SS) : List Str := if z.1 < x.length then z.2.2 ++ [slc x z.1 x.length] else z.2.2
def strip (x : Str) : Str := if 34 ∈ x.cps.toList then cat (sout x (sfold x (unitsOf x))) else x

/-- the places of the units rise, and lie within -/
theorem units_ge : ∀ (l : List Nat) (b : Bool) (k : Nat), ∀ pu ∈ unitsB b k l, (if b then k - 1 else k) ≤ pu.1 ∧ pu.1 < (if b then max k 1 else k) + l.length
  | [], false, k, pu, h => by simp [unitsB] at h
  | [], true, k, pu, h => by simp [unitsB] at h; subst h; simp; omega
  | c :: r, false, k, pu, h => by
    unfold unitsB at h
    split at h
    · have := units_ge r true (k + 1) pu h
      simp at this ⊢; omega
    · rcases List.mem_cons.mp h with rfl | h
      · simp
      · have := units_ge r false (k + 1) pu h
        simp at this ⊢; omega
  | c :: r, true, k, pu, h => by
    unfold unitsB at h
    rcases List.mem_cons.mp h with rfl | h
    · simp; omega
    · have := units_ge r false (k + 1) pu h
      simp at this ⊢; omega
theorem units_rise : ∀ (l : List Nat) (b : Bool) (k : Nat), (unitsB b k l).Pairwise fun p q => p.1 < q.1
  | [], false, k => by simp [unitsB]
  | [], true, k => by simp [unitsB]
  | c :: r, false, k => by
    unfold unitsB
    split
    · exact units_rise r true (k + 1)
    · refine List.Pairwise.cons (fun q hq => ?_) (units_rise r false (k + 1))
      have := units_ge r false (k + 1) q hq
      simp at this ⊢; omega
  | c :: r, true, k => by
    unfold unitsB
    refine List.Pairwise.cons (fun q hq => ?_) (units_rise r false (k + 1))
    have := units_ge r false (k + 1) q hq
    simp at this ⊢; omega

structure SInv (n : Nat) (z : SS) (rest : List (Nat × Str)) : Prop where
  rise : rest.Pairwise fun p q => p.1 < q.1
  low : ∀ pu ∈ rest, z.1 ≤ pu.1 ∧ pu.1 < n
  st : z.1 ≤ n
  op : ∀ q, z.2.1 = some q → z.1 ≤ q ∧ q < n
theorem SInv.start (x : Str) : SInv x.length (0, none, []) (unitsOf x) := by
  refine ⟨units_rise _ _ _, fun pu h => ?_, Nat.zero_le _, fun q e => by cases e⟩
  have := units_ge _ _ _ pu h
  simp [Str.length] at this ⊢; omega
theorem SInv.step {n : Nat} {x : Str} {z : SS} {pu : Nat × Str} {rest : List (Nat × Str)} (h : SInv n z (pu :: rest)) : SInv n (sstep x z pu) rest := by
  obtain ⟨r, l, s, o⟩ := h
  have hp := l pu (.head _)
  have r2 := (List.pairwise_cons.mp r)
  unfold sstep
  split
  · split
    · refine ⟨r2.2, fun q hq => l q (.tail _ hq), s, fun q e => ?_⟩
      cases e; exact hp
    · refine ⟨r2.2, fun q hq => ⟨r2.1 q hq, (l q (.tail _ hq)).2⟩, hp.2, fun q e => by cases e⟩
  · exact ⟨r2.2, fun q hq => l q (.tail _ hq), s, o⟩
theorem sfold_inv (x : Str) : ∀ (us done : List (Nat × Str)) (z : SS), SInv x.length z us → ∀ i, SInv x.length ((us.take i).foldl (sstep x) z) (us.drop i)
  | [], _, z, h, i => by simpa using h
  | u :: us, d, z, h, 0 => by simpa using h
  | u :: us, d, z, h, i + 1 => by
    simp only [List.take_succ_cons, List.foldl_cons, List.drop_succ_cons]
    exact sfold_inv x us d _ h.step i
theorem sfold_at (x : Str) (i : Nat) : SInv x.length (sfold x ((unitsOf x).take i)) ((unitsOf x).drop i) := sfold_inv x _ [] _ (SInv.start x) i
theorem sfold_len (x : Str) : ∀ (us : List (Nat × Str)) (z : SS), (us.foldl (sstep x) z).2.2.length ≤ z.2.2.length + us.length
  | [], z => by simp
  | u :: us, z => by
    rw [List.foldl_cons]
    have := sfold_len x us (sstep x z u)
    have h2 : (sstep x z u).2.2.length ≤ z.2.2.length + 1 := by
      unfold sstep
      split
      · split
        · simp
        · simp only
          split <;> simp
      · simp
    simp only [List.length_cons]; omega
theorem units_len : ∀ (l : List Nat) (b : Bool) (k : Nat), (unitsB b k l).length ≤ l.length + (if b then 1 else 0)
  | [], false, k => by simp [unitsB]
  | [], true, k => by simp [unitsB]
  | c :: r, false, k => by
    unfold unitsB
    split
    · have := units_len r true (k + 1); simp at this ⊢; omega
    · have := units_len r false (k + 1); simp at this ⊢; omega
  | c :: r, true, k => by
    unfold unitsB
    have := units_len r false (k + 1); simp at this ⊢; omega
theorem sfold_step {x : Str} {i : Nat} {u : Nat × Str} {us : List (Nat × Str)} (h : us[i]? = some u) : sfold x (us.take (i + 1)) = sstep x (sfold x (us.take i)) u := by
  unfold sfold
  rw [List.take_succ, h]
  simp
theorem slc_len (x : Str) (a b : Nat) : (slc x a b).length ≤ x.length := by
  simp [slc, Str.length]; omega
theorem sfold_all (x : Str) : ∀ (us : List (Nat × Str)) (z : SS), (∀ y ∈ z.2.2, y.length ≤ x.length) → ∀ y ∈ (us.foldl (sstep x) z).2.2, y.length ≤ x.length
  | [], z, h => h
  | u :: us, z, h => by
    rw [List.foldl_cons]
    refine sfold_all x us _ fun y hy => ?_
    unfold sstep at hy
    split at hy
    · split at hy
      · exact h y hy
      · simp only at hy
        split at hy
        · rcases List.mem_append.mp hy with hy | hy
          · exact h y hy
          · rw [List.mem_singleton.mp hy]; exact slc_len _ _ _
        · exact h y hy
    · exact h y hy
theorem sum_le {l : List Str} {n : Nat} (h : ∀ y ∈ l, y.length ≤ n) : (l.map Str.length).sum ≤ l.length * n := by
  induction l with
  | nil => simp
  | cons x r ih =>
    have h1 := h x (.head _)
    have h2 := ih fun y hy => h y (.tail _ hy)
    simp only [List.map_cons, List.sum_cons, List.length_cons, Nat.add_mul, Nat.one_mul]
    omega
end Mine
end

/-! part S2 -/
section
open PySem PySem.W PySem.Spec PySem.Calls PyProof.Rows
set_option Elab.async false
set_option linter.unusedVariables false
set_option maxRecDepth 100000
namespace Mine
section
variable {prog : Program} {w : World} {A : Around} {env : Env} {R F : Shared → Shared → Prop} {I : Heap → Prop} {X : Addr → Prop}

theorem RdL.strs {h : Heap} : ∀ {vs : List Value} {l : List Str}, RdL X h vs (l.map .str) → ∃ q : List (Str × Tok), vs = strValues q ∧ q.map (·.1) = l
  | [], [], _ => ⟨[], rfl, rfl⟩
  | _, [], r => by cases r; exact ⟨[], rfl, rfl⟩
  | _, x :: l, r => by
    cases r with
    | cons a r =>
      obtain ⟨t, rfl⟩ := a.str_inv
      obtain ⟨q, rfl, rfl⟩ := r.strs
      exact ⟨(x, t) :: q, rfl, rfl⟩
theorem foldl_len (l : List Str) : ∀ n : Nat, l.foldl (fun a (x : Str) => a + x.length + (Str.ofString "").length) n = n + (l.map Str.length).sum := by
  have h0 : (Str.ofString "").length = 0 := by decide +kernel
  induction l with
  | nil => intro n; simp
  | cons x r ih => intro n; rw [List.foldl_cons, ih, h0]; simp; omega

theorem cat_one (x : Str) : cat [x] = x := by simp [cat]

theorem ev_join {e : Expr} {l : List Str} {k : Nat} {p apos pos : Pos} {pl : Sem Bool} (hR : RelOk R) (hI : UpC I) (he : Ev prog w A R env I e (fun h v => Rd X h v (.list (l.map .str)))) (hsz : (l.map Str.length).sum ≤ sizeLine)
    (hm : eval (.Call (.Attribute (.Constant (.str "") k p) "join" apos) [e] [] pos) env = (do
      let ov ← eval (.Constant (.str "") k p) env
      standAt apos.atName
      let (f, first) ← holding [ov] (getMethod ov "join" pl)
      callWith pos f first (backTo pos (starEach [e] env)) []) := by rfl)
    (hse : starEach [e] env = (false, eval e env) :: starEach [] env := by rfl) :
    Ev prog w A R env I (.Call (.Attribute (.Constant (.str "") k p) "join" apos) [e] [] pos) (fun h v => Rd X h v (.str (cat l))) := fun s ii Q E h => by
  refine MethodCall_ (Calls.Constant_str ?_) hm
  refine getMethod_builtin (typeIs_str _ _ _) PySem.F.plainAttrs_str PySem.F.slot_str_join PySem.F.type_str_join (fun _ e => nomatch e) ?_
  refine callWith_method1 (spliced_more (he { s with toks := s.toks + 1 } ii _ _ fun u s₁ r₁ pu => spliced_none ?_) hse) hse
  obtain ⟨a, vs, n, rfl, ha, ho, hl⟩ := pu.list_inv
  obtain ⟨q, hq, hql⟩ := hl.strs
  have hvs : vs = (strValues q).toArray := by rw [← hq]
  have r0 : R s s₁ := hR.trans (hR.keeps s s.heap _ fun _ _ e => e) r₁
  refine call_meets PySem.F.slot_str_join (typeIs_str _ _ _) PySem.F.entry_str_join (PySem.F.args_str_join_2 _ _) (meets_str_join_list _ _ _ q ?_) ⟨⟨_, ho, rfl, n, by rw [hvs]⟩, ?_⟩
  · have : ((q.map (·.1)).toArray.foldl (fun a (x : Str) => a + x.length + (Str.ofString "").length) 0) = (l.map Str.length).sum := by
      rw [hql]; simpa using foldl_len l 0
    show Builtin.Str.tooLong _ = false
    rw [this]; simp [Builtin.Str.tooLong]; exact hsz
  · match q, hql with
    | [pq], hql =>
      subst hql
      exact h _ _ r0 (by rw [show cat ([pq].map (·.1)) = pq.1 from cat_one _]; exact .str _ _)
    | [], hql =>
      subst hql
      refine ⟨?_, h _ _ (hR.trans r0 (hR.keeps s₁ s₁.heap _ fun _ _ e => e)) ?_⟩
      · decide +kernel
      · rw [show Builtin.Str.glued (Str.ofString "") (([] : List (Str × Tok)).map (·.1)) = cat [] from glued_nil _]; exact .str _ _
    | p1 :: p2 :: q', hql =>
      subst hql
      refine ⟨?_, h _ _ (hR.trans r0 (hR.keeps s₁ s₁.heap _ fun _ _ e => e)) ?_⟩
      · rw [glued_nil]
        refine Nat.le_trans (Nat.le_of_eq ?_) hsz
        show (cat _).cps.size = _
        rw [← Array.length_toList, cat_cps, List.length_flatten]
        congr 1
        rw [List.map_map]
        exact List.map_congr_left fun y _ => by simp [Str.length]
      · rw [glued_nil]; exact .str _ _
end
end Mine
end

/-! part S3 -/
section
open PySem PySem.W PySem.Spec PySem.Calls PyProof.Rows
set_option Elab.async false
set_option linter.unusedVariables false
set_option maxRecDepth 100000
namespace Mine

/-- what the text's calls find at any time: its defs, the built-in names -/
structure Gd (h : Heap) (mg mb : Str → Option Value) (fa : Nat → Addr) (fc : Nat → Value) : Prop where
  nm : Names h mg mb
  nl : h.NoLimit
  fn : ∀ i ∈ [1, 3, 4, 6, 7, 8, 9], FnAt h (fa i) (fc i) (dOf i) ∧ mg (dOf i).name = some (.ref (fa i))
  bi : ∀ p ∈ ([("range", .type "range"), ("sum", .builtin "sum"), ("sorted", .builtin "sorted"), ("list", .type "list"), ("enumerate", .type "enumerate"), ("len", .builtin "len"), ("chr", .builtin "chr"), ("IndexError", .type "IndexError")] : List (Str × Value)), mg p.1 = none ∧ mb p.1 = some p.2
theorem Gd.up {h h' mg mb fa fc} (g : Gd h mg mb fa fc) (k : Up h h') : Gd h' mg mb fa fc := ⟨g.nm.up k, g.nl.keeps k, fun i hi => ⟨(g.fn i hi).1.up k, (g.fn i hi).2⟩, g.bi⟩
theorem Gd.seesB {h mg mb fa fc} (g : Gd h mg mb fa fc) {env : Env} {y : Str} {v : Value} (hk : env.kindOf y = some .globalImplicit) (hg : env.globals = mainGlobals) (hb : env.builtins = builtinsNs)
    (hm : (y, v) ∈ ([("range", .type "range"), ("sum", .builtin "sum"), ("sorted", .builtin "sorted"), ("list", .type "list"), ("enumerate", .type "enumerate"), ("len", .builtin "len"), ("chr", .builtin "chr"), ("IndexError", .type "IndexError")] : List (Str × Value))) : Sees env h y v :=
  g.nm.sees hk hg hb (.inr (g.bi _ hm))
theorem Gd.seesF {h mg mb fa fc} (g : Gd h mg mb fa fc) {env : Env} {y : Str} (i : Nat) (hi : i ∈ [1, 3, 4, 6, 7, 8, 9]) (hy : (dOf i).name = y) (hk : env.kindOf y = some .globalImplicit) (hg : env.globals = mainGlobals) (hb : env.builtins = builtinsNs) : Sees env h y (.ref (fa i)) :=
  g.nm.sees hk hg hb (.inl (hy ▸ (g.fn i hi).2))
theorem Gd.keepsF {prog : Program} {w : World} {h mg mb fa fc} (g : Gd h mg mb fa fc) (i : Nat) (hi : i ∈ [1, 3, 4, 6, 7, 8, 9]) : KeepsF prog w (.ref (fa i)) h :=
  let ⟨o, _, _, ho, hd, _⟩ := (g.fn i hi).1; keepsF_def ho hd

/-- there is room for calls -/
structure Room (A : Around) (d u : Nat) : Prop where
  handled : A.handled = none
  depth : A.depth + d < recursionLimit
  units : A.units + u < cLine
theorem Room.deeper {A : Around} {d u : Nat} {env : Env} (r : Room A (d + 1) (u + 3)) : Room (A.deeper env) d u := ⟨r.handled, by rw [depth_deeper]; have := r.depth; omega, by rw [units_deeper]; have := r.units; omega⟩

section
variable {prog : Program} {w : World} {A : Around}

theorem cx_entry {hb h₁ : Heap} {f : Addr} {cd : Value} {d : DefRec} {m : Str → Option Value} {ρ : List (Str × VS)} {mg mb} (Fr' : Fr hb hb.objs.size h₁ m) (N : Names hb mg mb) (hk : d.scope.kind = .function)
    (ha : ∀ y z, ρ.lookup y = some z → ∃ v X₀, d.scope.names.lookup y = some .local ∧ m y = some v ∧ z.Ok X₀ hb v) : Cx hb (fun b => b = hb.objs.size) (envOf d.name d.scope hb.objs.size f cd) ρ h₁ := by
  obtain ⟨ns, keep, _⟩ := Fr'
  have hL : hb.get? hb.objs.size = none := get_size hb
  refine ⟨⟨hk, rfl, rfl, ⟨_, ns⟩, rfl, fun n c e => (by cases e), fun n c n' c' e => (by cases e), ⟨Nat.ne_of_lt N.g.lt, Nat.ne_of_lt N.b.lt⟩, ⟨mg, mb, N.up keep⟩⟩, fun y z e => ?_, fun b x => ?_, keep, fun b o e x => by rw [x, hL] at e; cases e⟩
  · obtain ⟨v, X₀, h1, h2, h3⟩ := ha y z e
    refine ⟨v, .inl ⟨h1, m, ns, h2⟩, ?_⟩
    cases z with
    | dat dd => exact Rd.to h3 (fun b o _ q => keep b o q) fun b o q x => by rw [x, hL] at q; cases q
    | val u => exact h3
  · subst x
    obtain ⟨o, _, _, ho, _⟩ := ns
    rw [ho]; rfl

theorem fb_plain {name : Str} {scope : PySem.Scope} {L f : Addr} {cd : Value} {b : Addr} : Fb (envOf name scope L f cd) b ↔ b = L := ⟨fun x => x.elim id fun ⟨n, e⟩ => (by cases e), .inl⟩

/-- a loop's target of two names, from a tuple of two -/
theorem assign_pair {env : Env} {hb : Heap} {X : Addr → Prop} {ρ : List (Str × VS)} {s : Shared} {E : Value → Shared → Prop} {y1 y2 : Str} {p1 p2 pos : Pos} {k : Nat} {T : Addr} {v1 v2 : Value} {z1 z2 : VS} {n : Nat} {Q : Unit → Shared → Prop} (hA : A.handled = none) (c : Cx hb X env ρ s.heap)
    (hT : s.heap.get? T = some (tupObj #[v1, v2] n)) (h1 : env.kindOf y1 = some .local) (h2 : env.kindOf y2 = some .local) (o1 : z1.Ok X s.heap v1) (o2 : z2.Ok X s.heap v2)
    (h : ∀ h' tk, Cx hb X env ((y2, z2) :: (y1, z1) :: ρ) h' → Only env s.heap h' → Q () { s with heap := h', toks := tk })
    (hae : (assignEach [.Name y1 p1, .Name y2 p2] env) = [(false, assign (.Name y1 p1) env), (false, assign (.Name y2 p2) env)] := by rfl) :
    wpAny (model prog w) A (assign (.Tuple [.Name y1 p1, .Name y2 p2] k pos) env (.ref T)) Q E s := by
  refine wpAny_assign_Tuple (items := #[v1, v2]) hA ⟨_, hT, rfl, n, rfl⟩ (by rw [hae]; rfl) (by rw [hae]; rfl) fun h₃ hx₃ => ?_
  have up₃ : Up s.heap h₃ := fun b o q => hx₃ b o (Nat.ne_of_lt (Heap.lt_size q)) q
  rw [hae]
  show wpAny _ _ (do holding [v2] (assign (.Name y1 p1) env v1); do holding [] (assign (.Name y2 p2) env v2); pure ()) _ _ _
  refine wpAny_bind (wpAny_holding (wpAny_assign_Name (cx_store (s := { s with heap := h₃ }) (cx_up _ _ up₃ c) (.inl h1) (o1.to fun b o _ q => up₃ b o q) fun h₄ tk₄ c₄ on₄ => ?_)))
  refine wpAny_bind (wpAny_holding (wpAny_assign_Name (cx_store (s := { s with heap := h₄, toks := tk₄ }) c₄ (.inl h2) (o2.to fun b o hb q => on₄ b o (fun f => hb (f.x c.wf)) (up₃ b o q)) fun h₅ tk₅ c₅ on₅ => wpAny_pure ?_)))
  exact h h₅ tk₅ c₅ (((Only.of_up up₃).tr on₄).tr on₅)

/-- a generator is no iterator whose tuple is taken over -/
theorem letGo_gen {elts : List Expr} {k : Nat} {pos : Pos} {a T : Addr} {g : Nat} {s : Shared} {E : Value → Shared → Prop} {Q : Unit → Shared → Prop} (hg : s.heap.IsGen a g) (h : Q () s) : wpAny (model prog w) A (letOwnedTupleGo (.Tuple elts k pos) (.ref a) (.ref T)) Q E s := by
  obtain ⟨o, nm, qn, ho, hc, hd, _⟩ := hg
  unfold letOwnedTupleGo
  refine wpAny_bind (wpAny_load ho ?_)
  rw [hc, hd]
  show wpAny _ A (if (["enumerate", "zip", "dict_itemiterator", "dict_reverseitemiterator", "odict_iterator", "itertools.zip_longest", "itertools.pairwise"].contains "generator" && _) = true then _ else _) Q E s
  rw [if_neg (by simp)]
  exact wpAny_pure h
end
end Mine
end

/-! part S4 -/
section
open PySem PySem.W PySem.Spec PySem.Calls PyProof.Rows
set_option Elab.async false
set_option linter.unusedVariables false
set_option maxRecDepth 100000
namespace Mine
section
variable {prog : Program} {w : World} {A : Around} {hb : Heap} {X : Addr → Prop} {env : Env} {ρ ρ' : List (Str × VS)}

theorem lookup_mem {α : Type} {l : List (Str × α)} {y : Str} {z : α} (h : l.lookup y = some z) : (y, z) ∈ l := by
  induction l with
  | nil => cases h
  | cons p r ih =>
    obtain ⟨k, v⟩ := p
    rw [List.lookup_cons] at h
    by_cases hb : y = k
    · subst hb; simp at h; subst h; exact .head _
    · have : (y == k) = false := beq_eq_false_iff_ne.mpr hb
      rw [this] at h; exact .tail _ (ih h)
theorem Cx.sub {h : Heap} (c : Cx hb X env ρ h) (hs : ∀ p ∈ ρ', ρ.lookup p.1 = some p.2) : Cx hb X env ρ' h :=
  ⟨c.wf, fun y z e => c.st y z (hs _ (lookup_mem e)), c.tk, c.up, c.fresh⟩

def VS.scal : VS → Bool
  | .dat d => isSc d
  | .val _ => true
theorem Cx.scal {h h' : Heap} (c : Cx hb X env ρ h) (hs : ∀ p ∈ ρ, p.2.scal = true) (hk : ∀ b o, Fb env b ∨ b = mainGlobals ∨ b = builtinsNs → h.get? b = some o → h'.get? b = some o) (up : Up hb h') (tk : Taken X h') : Cx hb X env ρ h' := by
  obtain ⟨wf, st, _, _, fr⟩ := c
  refine ⟨{ wf with loc := let ⟨m, n⟩ := wf.loc; ⟨m, n.at' fun o q => hk _ o (.inl (.inl rfl)) q⟩, cell := fun n c e => let ⟨⟨o, p, i⟩, r⟩ := wf.cell n c e; ⟨⟨o, p, hk c p (.inl (.inr ⟨n, e⟩)) i.1, i.2⟩, r⟩, nm := let ⟨mg, mb, n⟩ := wf.nm; ⟨mg, mb, n.at fun b o hb q => hk b o (.inr hb) q⟩ }, fun y z e => ?_, tk, up, fr⟩
  obtain ⟨v, a, b⟩ := st y z e
  refine ⟨v, ?_, ?_⟩
  · rcases a with ⟨a, m, n, e⟩ | ⟨a, c, e, i⟩ | ⟨a, mg, n, e⟩
    · exact .inl ⟨a, m, n.at' fun o q => hk _ o (.inl (.inl rfl)) q, e⟩
    · obtain ⟨o, ho, hd⟩ := i
      exact .inr (.inl ⟨a, c, e, o, hk c o (.inl (.inr ⟨y, e⟩)) ho, hd⟩)
    · refine .inr (.inr ⟨a, mg, n.at' fun o q => hk _ o (.inr (.inl wf.globals)) q, ?_⟩)
      rcases e with e | ⟨e, mb, nb, eb⟩
      · exact .inl e
      · exact .inr ⟨e, mb, nb.at' fun o q => hk _ o (.inr (.inr wf.builtins)) q, eb⟩
  · have := hs _ (lookup_mem e)
    cases z with
    | dat d => exact (Rd.sc b this).rd
    | val u => exact b

theorem Fm.of_rest {s s' : Shared} (x : SameRest s s') : Fm s s' := by
  obtain ⟨_, _, rfl⟩ := x; exact ⟨rfl, id⟩
theorem Fm.of_keeps {s s' : Shared} (x : Keeps s s') : Fm s s' := by
  obtain ⟨_, _, rfl, _⟩ := x; exact ⟨rfl, id⟩
theorem quo_is : Str.ofString "\"" = (⟨#[34]⟩ : Str) := by decide +kernel

def opd : Option Nat → PyData
  | none => .none
  | some q => .int (q : Int)
abbrev sEnv (L f : Addr) (cd : Value) : Env := envOf (dOf 4).name (dOf 4).scope L f cd
def sρ (x : Str) (z : SS) (r : Addr) : List (Str × VS) := [("start", .dat (.int (z.1 : Int))), ("open_pos", .dat (opd z.2.1)), ("result", .val (.ref r)), ("addr", .dat (.str x))]

theorem strip_call {x : Str} {t : Tok} {mg mb fa fc} {s : Shared} {Q E : Value → Shared → Prop} (rm : Room A 4 100) (gd : Gd s.heap mg mb fa fc) (ha : x.cps.all (· < 128) = true) (hlen : x.length ≤ 1000) (h : ∀ t' s', Mv s s' → Q (.str (strip x) t') s') :
    wpAny (model prog w) A (call (.ref (fa 4)) [.str x t]) Q E s := by
  obtain ⟨⟨o, pm, doc, ho, hd, hcd⟩, _⟩ := gd.fn 4 (by decide)
  refine wpAny_call (call_plain_ret (by have := rm.depth; omega) ho hd gd.nl hcd rfl (locs rfl) (fun h₁ F₁ => ?_) rfl rfl rfl (by decide))
  have c0 : Cx s.heap (fun b => b = s.heap.objs.size) (sEnv s.heap.objs.size (fa 4) (fc 4)) [("addr", .dat (.str x))] h₁ := cx_entry F₁ gd.nm rfl fun y z e => by
    have := lookup_mem e
    simp only [List.mem_singleton, Prod.mk.injEq] at this
    obtain ⟨rfl, rfl⟩ := this
    exact ⟨.str x t, fun _ => False, rfl, rfl, .str _ _⟩
  have hsz : x.length ≤ sizeLine := Nat.le_trans hlen (by decide)
  have fin : ∀ (y : Str) (t' : Tok) (s' : Shared), Up s.heap s'.heap → Fm s s' → y = strip x → Q (.str y t') s' := fun y t' s' up fm e => e ▸ h t' s' ⟨up, fm.os, fm.bare⟩
  generalize hL : s.heap.objs.size = L at c0
  generalize hs₁ : ({ s with heap := h₁, toks := _ } : Shared) = s₁
  have f1 : Fm s s₁ := by subst hs₁; exact ⟨rfl, id⟩
  have e1 : s₁.heap = h₁ := by subst hs₁; rfl
  rw [← e1] at c0
  have rm' : Room (A.deeper (sEnv L (fa 4) (fc 4))) 3 97 := Room.deeper rm
  show wpAny _ (A.deeper (sEnv L (fa 4) (fc 4))) (execs (_ :: _) (sEnv L (fa 4) (fc 4))) _ _ s₁
  refine wpAny_execs_cons (ex_if (R := Keeps) (I := Cx s.heap (fun b => b = L) (sEnv L (fa 4) (fc 4)) [("addr", .dat (.str x))]) (b := !decide (34 ∈ x.cps.toList)) c0 (tst_cmp (X := fun b => b = L) keepsOk cx_up (quo_is ▸ ev_str (X := fun b => b = L) keepsOk) (ev_var keepsOk (fun _ c => c) rfl rfl) (upRd _) (op_notInS keepsOk)) fun s₂ r₂ => ?_)
  have c2 := cx_up _ _ (keepsOk.up r₂) c0
  have f2 : Fm s s₂ := rfM.trans f1 (.of_keeps r₂)
  by_cases hq : 34 ∈ x.cps.toList
  · rw [show (!decide (34 ∈ x.cps.toList)) = false by simp [hq]]
    show wpAny _ _ (execs [] _) _ _ _
    refine wpAny_execs_nil ?_
    show wpAny _ _ (execs (_ :: _) _) _ _ s₂
    refine wpAny_execs_cons (ex_assign (z := .dat (.int 0)) rfK c2 (.inl rfl) (ev_int keepsOk) fun s₃ c3 o3 f3 => ?_)
    show wpAny _ _ (execs (_ :: _) _) _ _ s₃
    refine wpAny_execs_cons (ex_assign (z := .dat .none) rfK c3 (.inl rfl) (ev_none keepsOk) fun s₄ c4 o4 f4 => ?_)
    show wpAny _ _ (execs (_ :: _) _) _ _ s₄
    refine wpAny_execs_cons (ex_newlist (ds := []) rfK c4 (.inl rfl) .nil (Nat.zero_le _) fun r vs0 s₅ hr hfb hpl hrd c5 o5 f5 => ?_)
    show wpAny _ _ (execs (_ :: _) _) _ _ s₅
    generalize hX' : (fun b => b = L ∨ b = r) = X' at c5 hrd
    have hXL : X' L := by rw [← hX']; exact .inl rfl
    have hXr : X' r := by rw [← hX']; exact .inr rfl
    have hXe : ∀ b, X' b → b = L ∨ b = r := fun b z => by rw [← hX'] at z; exact z
    have hrL : r ≠ L := fun e => hfb (.inl e)
    have f5' : Fm s s₅ := rfM.trans f2 (rfM.trans (.of_rest f3) (rfM.trans (.of_rest f4) (.of_rest f5)))
    refine wpAny_execs_cons (wpAny_For ?_)
    refine Call_Name rfl (wpAny_Name (loadSees rfl ((gd.up c5.up).seesF 3 (by decide) rfl rfl rfl rfl) ?_) (by decide))
    refine callWith_ev (R := Keeps) keepsOk cx_up (fun h c => (gd.up c.up).keepsF 3 (by decide)) (.cons (ev_var (z := .dat (.str x)) keepsOk (fun _ c => c) (by rfl) (by rfl) (by decide)) (upOk _) rfl .nil) c5 (fun vs s₆ r₆ c6 hvs => ?_)
    obtain ⟨t', rfl⟩ : ∃ t', vs = [.str x t'] := by
      cases hvs with
      | cons p q =>
        cases q
        obtain ⟨t', rfl⟩ := Rd.str_inv p
        exact ⟨t', rfl⟩
    have g6 := gd.up c6.up
    refine gen_call (L := s₆.heap.objs.size) (cd := fc 3) (A.deeper (sEnv L (fa 4) (fc 4))).in1 ha rm'.handled hsz (by have := rm'.depth; omega) g6.nl (g6.fn 3 (by decide)).1 g6.nm (g6.bi ("enumerate", .type "enumerate") (by simp)) (fun a' s₇ _ up7 ha' G7 os7 bare7 => ?_) rfl
    generalize hLg : s₆.heap.objs.size = Lg at G7
    generalize hgg : s₆.gens.size = gg at G7
    have c7 := cx_up _ _ up7 c6
    have hp7 : s₇.heap.PlainList r vs0 := hpl.at fun o q => up7 _ _ (keepsOk.up r₆ _ _ q)
    have hLLg : L < Lg := by
      rw [← hLg]
      obtain ⟨m, n⟩ := c6.wf.loc
      exact n.lt
    have hrLg : r < Lg := by
      rw [← hLg]
      obtain ⟨n, q⟩ := hpl
      exact Heap.lt_size (keepsOk.up r₆ _ _ q)
    have hgl : mainGlobals < Lg ∧ builtinsNs < Lg := by rw [← hLg]; exact ⟨g6.nm.g.lt, g6.nm.b.lt⟩
    have hbl : ∀ b o, s.heap.get? b = some o → b < Lg := fun b o q => Nat.lt_trans (Nat.lt_of_lt_of_eq (Heap.lt_size q) hL) hLLg
    have f7 : Fm s s₇ := rfM.trans f5' (rfM.trans (.of_keeps r₆) ⟨os7, bare7⟩)
    have hv0 : vs0 = #[] := by
      obtain ⟨v0⟩ := vs0
      cases hrd; rfl
    subst hv0
    refine wpAny_pyIter_gen G7.gen ?_
    generalize hus : unitsOf x = us at G7
    have husl : us.length ≤ x.length := by
      have := units_len x.cps.toList false 0
      rw [← hus]; simpa [unitsOf, Str.length] using this
    -- what holds at each turn's start
    let Inv : Nat → Shared → Prop := fun n s' => ∃ (i : Nat) (vs : Array Value), n = us.length - i ∧ GSt prog w (A.deeper (sEnv L (fa 4) (fc 4))).in1 mg mb a' gg Lg us i s' ∧ Cx s.heap X' (sEnv L (fa 4) (fc 4)) (sρ x (sfold x (us.take i)) r) s'.heap ∧
      s'.heap.PlainList r vs ∧ RdL X' s'.heap vs.toList ((sfold x (us.take i)).2.2.map .str) ∧ Fm s s'
    -- how the context stands behind the generator's step
    have step : ∀ (i : Nat) (vs : Array Value) (s' s₈ : Shared), Cx s.heap X' (sEnv L (fa 4) (fc 4)) (sρ x (sfold x (us.take i)) r) s'.heap → s'.heap.PlainList r vs → RdL X' s'.heap vs.toList ((sfold x (us.take i)).2.2.map .str) → Fm s s' → GMv Lg s' s₈ →
        Cx s.heap X' (sEnv L (fa 4) (fc 4)) (sρ x (sfold x (us.take i)) r) s₈.heap ∧ s₈.heap.PlainList r vs ∧ RdL X' s₈.heap vs.toList ((sfold x (us.take i)).2.2.map .str) ∧ Fm s s₈ := by
      intro i vs s' s₈ c hp hr fm gm
      have kl : ∀ b o, b < Lg → s'.heap.get? b = some o → s₈.heap.get? b = some o := fun b o l q => gm.heap.keep b o q (.inl l)
      refine ⟨c.scal ?_ (fun b o z q => kl b o ?_ q) (fun b o q => kl b o (hbl b o q) (c.up b o q)) fun b z => ?_, hp.at fun o q => kl _ o hrLg q, ?_, rfM.trans fm ⟨gm.os, gm.bare⟩⟩
      · intro p hp
        simp only [sρ, List.mem_cons, List.not_mem_nil, or_false] at hp
        rcases hp with rfl | rfl | rfl | rfl
        · rfl
        · cases (sfold x (us.take i)).2.1 <;> rfl
        · rfl
        · rfl
      · rcases z with z | rfl | rfl
        · rw [fb_plain.mp z]; exact hLLg
        · exact hgl.1
        · exact hgl.2
      · obtain ⟨o, ho⟩ := Option.isSome_iff_exists.mp (c.tk b z)
        rw [kl b o (by rcases hXe b z with rfl | rfl <;> assumption) ho]; rfl
      · refine RdL.of _ _ (by simpa using hr.length) fun j v d h1 h2 => ?_
        have q := hr.at j v d h1 h2
        rw [List.getElem?_map] at h2
        cases h3 : (sfold x (us.take i)).2.2[j]? with
        | none => rw [h3] at h2; cases h2
        | some y => rw [h3] at h2; cases h2; obtain ⟨t9, rfl⟩ := q.str_inv; exact .str _ _
    have hst0 : sfold x (us.take 0) = (0, none, []) := rfl
    refine codeAny_forLoop_any Inv (fun n s' hInv => ?_) us.length ⟨0, #[], by simp, G7, c7.sub ?_, hp7, .nil, f7⟩
    · obtain ⟨i, vs, rfl, G, c, hp, hr, fm⟩ := hInv
      refine gen_next rm'.handled (gd.up c.up).nl (by have := rm'.depth; omega) G (gd.up c.up).nm (fun hi u T t1 t2 n s₈ hu hT _ gm G8 => ?_) (fun hi s₈ gm => ?_)
      · obtain ⟨c8, hp8, hr8, fm8⟩ := step i vs s' s₈ c hp hr fm gm
        have hinv := sfold_at x i
        rw [hus] at hinv
        have hfs : sfold x (us.take (i + 1)) = sstep x (sfold x (us.take i)) u := sfold_step hu
        generalize hz : sfold x (us.take i) = z at c8 hr8 hinv hfs
        have huin : u ∈ us.drop i := by
          have : (us.drop i)[0]? = some u := by rw [List.getElem?_drop]; simpa using hu
          exact List.mem_of_getElem? this
        refine letGo_gen G8.gen ?_
        refine assign_pair (z1 := .dat (.int (u.1 : Int))) (z2 := .dat (.str u.2)) rm'.handled c8 hT rfl rfl (.int _ _) (.str _ _) fun h₉ tk₉ c9 on9 => ?_
        generalize hs9 : ({ s₈ with heap := h₉, toks := tk₉ } : Shared) = s₉
        have e9 : s₉.heap = h₉ := by rw [← hs9]
        have sr9 : SameRest s₈ s₉ := by rw [← hs9]; exact ⟨_, _, rfl⟩
        rw [← e9] at c9 on9
        have k9 : ∀ b o, b ≠ L → b ≠ r → s₈.heap.get? b = some o → s₉.heap.get? b = some o := fun b o h1 _ q => on9 b o (fun f => h1 (fb_plain.mp f)) q
        have done : ∀ (s' : Shared) (ρ' : List (Str × VS)) (vs' : Array Value), Cx s.heap X' (sEnv L (fa 4) (fc 4)) ρ' s'.heap → (∀ p ∈ sρ x (sstep x z u) r, ρ'.lookup p.1 = some p.2) → s'.heap.PlainList r vs' → RdL X' s'.heap vs'.toList ((sstep x z u).2.2.map .str) → SameRest s₈ s' →
            (∀ b o, b ≠ L → b ≠ r → s₈.heap.get? b = some o → s'.heap.get? b = some o) → ∃ m, m < us.length - i ∧ Inv m s' := by
          intro s' ρ' vs' c' hsub hp' hr' sr' k'
          have ne1 : ∀ b, Lg ≤ b → b ≠ L ∧ b ≠ r := fun b l => ⟨Nat.ne_of_gt (Nat.lt_of_lt_of_le hLLg l), Nat.ne_of_gt (Nat.lt_of_lt_of_le hrLg l)⟩
          refine ⟨us.length - (i + 1), by omega, i + 1, vs', rfl, G8.frame ?_ (fun o q => k' a' o (ne1 a' (Nat.le_of_lt G8.la)).1 (ne1 a' (Nat.le_of_lt G8.la)).2 q) (fun b o q l _ => k' b o (ne1 b l).1 (ne1 b l).2 q), ?_, hp', ?_, rfM.trans fm8 (.of_rest sr')⟩
          · obtain ⟨_, _, rfl⟩ := sr'; rfl
          · rw [hfs]; exact c'.sub hsub
          · rw [hfs]; exact hr'
        have hp9 : s₉.heap.PlainList r vs := hp8.at fun o q => on9 r o (fun f => hrL (fb_plain.mp f)) q
        have hr9 : RdL X' s₉.heap vs.toList (z.2.2.map .str) := hr8.to (fun b o hb q => on9 b o (fun f => hb (fb_plain.mp f ▸ hXL)) q) fun _ _ _ q => q
        show wpAny _ _ (execs (_ :: _) _) _ _ s₉
        refine wpAny_execs_cons (ex_if (R := Keeps) (I := Cx s.heap X' (sEnv L (fa 4) (fc 4)) (("ch", .dat (.str u.2)) :: ("pos", .dat (.int (u.1 : Int))) :: sρ x z r)) (b := u.2 == (⟨#[34]⟩ : Str)) c9 (tst_cmp (X := X') keepsOk cx_up (ev_var (z := .dat (.str u.2)) keepsOk (fun _ c => c) (by rfl) (by rfl) (by decide)) (quo_is ▸ ev_str (X := X') keepsOk) (upOk _) (op_eqs keepsOk)) fun s₁₀ r₁₀ => ?_)
        have c10 := cx_up _ _ (keepsOk.up r₁₀) c9
        have sr10 : SameRest s₈ s₁₀ := sr9.trans (rfK.of r₁₀)
        have k10 : ∀ b o, b ≠ L → b ≠ r → s₈.heap.get? b = some o → s₁₀.heap.get? b = some o := fun b o h1 h2 q => keepsOk.up r₁₀ b o (k9 b o h1 h2 q)
        have hp10 := hp9.at fun o q => keepsOk.up r₁₀ r o q
        have hr10 := hr9.up (keepsOk.up r₁₀)
        by_cases hu34 : u.2 = (⟨#[34]⟩ : Str)
        · rw [show (u.2 == (⟨#[34]⟩ : Str)) = true by simp [hu34]]
          show wpAny _ _ (execs (_ :: _) _) _ _ s₁₀
          refine wpAny_execs_cons (ex_if (R := Keeps) (I := Cx s.heap X' (sEnv L (fa 4) (fc 4)) (("ch", .dat (.str u.2)) :: ("pos", .dat (.int (u.1 : Int))) :: sρ x z r)) (b := z.2.1.isNone) c10 (tst_cmp (X := X') keepsOk cx_up (ev_var (z := .dat (opd z.2.1)) keepsOk (fun _ c => c) (by rfl) (by rfl) (by decide)) (ev_none (X := X') keepsOk) (upOk _) (op_isNone keepsOk fun h v hv => ?isn)) fun s₁₁ r₁₁ => ?_)
          case isn =>
            change Rd X' h v (opd z.2.1) at hv
            cases hz1 : z.2.1 with
            | none => rw [hz1] at hv; cases hv; rfl
            | some q => rw [hz1] at hv; obtain ⟨t9, rfl⟩ := hv.int_inv; rfl
          have c11 := cx_up _ _ (keepsOk.up r₁₁) c10
          have sr11 : SameRest s₈ s₁₁ := sr10.trans (rfK.of r₁₁)
          have k11 : ∀ b o, b ≠ L → b ≠ r → s₈.heap.get? b = some o → s₁₁.heap.get? b = some o := fun b o h1 h2 q => keepsOk.up r₁₁ b o (k10 b o h1 h2 q)
          have hp11 := hp10.at fun o q => keepsOk.up r₁₁ r o q
          have hr11 := hr10.up (keepsOk.up r₁₁)
          cases hz1 : z.2.1 with
          | none =>
            have hss : sstep x z u = (z.1, some u.1, z.2.2) := by simp [sstep, hu34, hz1]
            show wpAny _ _ (execs (_ :: _) _) _ _ s₁₁
            refine wpAny_execs_cons (ex_assign (z := .dat (.int (u.1 : Int))) rfK c11 (.inl rfl) (ev_var (z := .dat (.int (u.1 : Int))) keepsOk (fun _ c => c) (by rfl) (by rfl) (by decide)) fun s₁₂ c12 o12 f12 => ?_)
            refine wpAny_execs_nil (wpAny_execs_nil (wpAny_execs_nil ?_))
            refine done s₁₂ _ vs c12 ?_ (hp11.at fun o q => o12 r o (fun f => hrL (fb_plain.mp f)) q) ?_ (sr11.trans f12) (fun b o h1 h2 q => o12 b o (fun f => h1 (fb_plain.mp f)) (k11 b o h1 h2 q))
            · rw [hss]
              intro p hp
              simp only [sρ, opd, List.mem_cons, List.not_mem_nil, or_false] at hp
              rcases hp with rfl | rfl | rfl | rfl <;> rfl
            · rw [hss]
              exact hr11.to (fun b o hb q => o12 b o (fun f => hb (fb_plain.mp f ▸ hXL)) q) fun _ _ _ q => q
          | some q =>
            have hq2 := hinv.op q hz1
            have hss : sstep x z u = (u.1 + 1, none, if z.1 ≠ q then z.2.2 ++ [slc x z.1 q] else z.2.2) := by simp [sstep, hu34, hz1]
            have c11' : Cx s.heap X' (sEnv L (fa 4) (fc 4)) [("ch", .dat (.str u.2)), ("pos", .dat (.int (u.1 : Int))), ("start", .dat (.int (z.1 : Int))), ("open_pos", .dat (.int (q : Int))), ("result", .val (.ref r)), ("addr", .dat (.str x))] s₁₁.heap := c11.sub (by
              intro p hp
              simp only [List.mem_cons, List.not_mem_nil, or_false] at hp
              rcases hp with rfl | rfl | rfl | rfl | rfl | rfl <;> first | rfl | (simp only [sρ, opd, hz1]; rfl))
            show wpAny _ _ (execs (_ :: _) _) _ _ s₁₁
            generalize hρ : ([("ch", .dat (.str u.2)), ("pos", .dat (.int (u.1 : Int))), ("start", .dat (.int (z.1 : Int))), ("open_pos", .dat (.int (q : Int))), ("result", .val (.ref r)), ("addr", .dat (.str x))] : List (Str × VS)) = ρq at c11'
            have l1 : ρq.lookup ("start" : Str) = some (VS.dat (.int (z.1 : Int))) := by rw [← hρ]; rfl
            have l2 : ρq.lookup ("open_pos" : Str) = some (VS.dat (.int (q : Int))) := by rw [← hρ]; rfl
            have l3 : ρq.lookup ("result" : Str) = some (VS.val (.ref r)) := by rw [← hρ]; rfl
            have l4 : ρq.lookup ("addr" : Str) = some (VS.dat (.str x)) := by rw [← hρ]; rfl
            have l5 : ρq.lookup ("pos" : Str) = some (VS.dat (.int (u.1 : Int))) := by rw [← hρ]; rfl
            refine wpAny_execs_cons (wpAny_mono (Q := fun f s' => f = .next ∧ ∃ vs', Cx s.heap X' (sEnv L (fa 4) (fc 4)) ρq s'.heap ∧ s'.heap.PlainList r vs' ∧ RdL X' s'.heap vs'.toList ((sstep x z u).2.2.map .str) ∧ SameRest s₈ s' ∧ (∀ b o, b ≠ L → b ≠ r → s₈.heap.get? b = some o → s'.heap.get? b = some o)) (E := fun _ _ => False) ?mid (fun f s' hm => ?_) (fun _ _ hf => hf.elim))
            case mid =>
              refine ex_if (R := Keeps) (I := Cx s.heap X' (sEnv L (fa 4) (fc 4)) ρq) (b := (z.1 : Int) != (q : Int)) c11' (tst_cmp (X := X') keepsOk cx_up (ev_var (z := .dat (.int (z.1 : Int))) keepsOk (fun _ c => c) (by rfl) l1 (by decide)) (ev_var (z := .dat (.int (q : Int))) keepsOk (fun _ c => c) (by rfl) l2 (by decide)) (upOk _) (op_nei keepsOk)) fun s₁₂ r₁₂ => ?_
              have c12 := cx_up _ _ (keepsOk.up r₁₂) c11'
              have sr12 : SameRest s₈ s₁₂ := sr11.trans (rfK.of r₁₂)
              have k12 : ∀ b o, b ≠ L → b ≠ r → s₈.heap.get? b = some o → s₁₂.heap.get? b = some o := fun b o h1 h2 q => keepsOk.up r₁₂ b o (k11 b o h1 h2 q)
              have hp12 := hp11.at fun o q => keepsOk.up r₁₂ r o q
              have hr12 := hr11.up (keepsOk.up r₁₂)
              by_cases hzq : z.1 = q
              · rw [show ((z.1 : Int) != (q : Int)) = false by simp [hzq]]
                exact wpAny_execs_nil ⟨rfl, vs, c12, hp12, by rw [hss]; simpa [hzq] using hr12, sr12, k12⟩
              · rw [show ((z.1 : Int) != (q : Int)) = true by simp; omega]
                show wpAny _ _ (execs (_ :: _) _) _ _ s₁₂
                have hvl : vs.size ≤ sizeLine := by
                  have e1 := hr12.length
                  have e2 := sfold_len x (us.take i) (0, none, [])
                  have e3 : (us.take i).length ≤ us.length := by simp; omega
                  change (sfold x (us.take i)).2.2.length ≤ _ at e2
                  rw [hz] at e2
                  simp at e1 e2
                  rw [sizeLine_eq]; omega
                refine wpAny_execs_cons (ex_append rfK c12 l3 ⟨hXr, hfb⟩ hp12 hvl (ev_slice (X := X') (a := z.1) (b := q) (x := x) keepsOk cx_up (ev_var (z := .dat (.str x)) keepsOk (fun _ c => c) (by rfl) l4 (by decide)) (ev_var (z := .dat (.int (z.1 : Int))) keepsOk (fun _ c => c) (by rfl) l1 (by decide)) (ev_var (z := .dat (.int (q : Int))) keepsOk (fun _ c => c) (by rfl) l2 (by decide)) hq2.1 (Nat.le_of_lt hq2.2) hsz) fun v sa sb ra pv hpb hsb cb fb => ?_)
                refine wpAny_execs_nil ⟨rfl, vs.push v, cb, hpb, ?_, sr12.trans fb, fun b o h1 h2 q => hsb.extBut b o h2 (keepsOk.up ra b o (k12 b o h1 h2 q))⟩
                rw [hss]
                simp only [ne_eq, hzq, not_false_eq_true, if_true, List.map_append, List.map_cons, List.map_nil, Array.toList_push]
                obtain ⟨t9, rfl⟩ := pv.str_inv
                refine RdL.append ?_ (.cons (.str _ _) .nil)
                exact (hr12.up (keepsOk.up ra)).to (fun b o hb q => hsb.extBut b o (fun e => hb (e ▸ hXr)) q) fun _ _ _ q => q
            obtain ⟨rfl, vs', c13, hp13, hr13, sr13, k13⟩ := hm
            show wpAny _ _ (execs (_ :: _) _) _ _ s'
            refine wpAny_execs_cons (ex_assign (z := .dat (.int ((u.1 : Int) + 1))) rfK c13 (.inl rfl) (ev_bin keepsOk cx_up (ev_var (z := .dat (.int (u.1 : Int))) keepsOk (fun _ c => c) (by rfl) l5 (by decide)) (ev_int (X := X') keepsOk) (upOk _) (op_addi keepsOk)) fun s₁₄ c14 o14 f14 => ?_)
            show wpAny _ _ (execs (_ :: _) _) _ _ s₁₄
            refine wpAny_execs_cons (ex_assign (z := .dat .none) rfK c14 (.inl rfl) (ev_none keepsOk) fun s₁₅ c15 o15 f15 => ?_)
            refine wpAny_execs_nil (wpAny_execs_nil (wpAny_execs_nil ?_))
            have o145 := o14.tr o15
            refine done s₁₅ _ vs' c15 ?_ (hp13.at fun o q => o145 r o (fun f => hrL (fb_plain.mp f)) q) (hr13.to (fun b o hb q => o145 b o (fun f => hb (fb_plain.mp f ▸ hXL)) q) fun _ _ _ q => q) ((sr13.trans f14).trans f15) (fun b o h1 h2 q => o145 b o (fun f => h1 (fb_plain.mp f)) (k13 b o h1 h2 q))
            rw [hss, ← hρ]
            intro p hp
            simp only [sρ, opd, List.mem_cons, List.not_mem_nil, or_false] at hp
            rcases hp with rfl | rfl | rfl | rfl <;> rfl
        · rw [show (u.2 == (⟨#[34]⟩ : Str)) = false by simp [hu34]]
          have hss : sstep x z u = z := by simp [sstep, hu34]
          refine wpAny_execs_nil (wpAny_execs_nil ?_)
          refine done s₁₀ _ vs c10 ?_ hp10 (by rw [hss]; exact hr10) sr10 k10
          rw [hss]
          intro p hp
          simp only [sρ, List.mem_cons, List.not_mem_nil, or_false] at hp
          rcases hp with rfl | rfl | rfl | rfl <;> rfl
      · obtain ⟨c8, hp8, hr8, fm8⟩ := step i vs s' s₈ c hp hr fm gm
        have hinv := sfold_at x i
        rw [hus] at hinv
        have htk : us.take i = us := by rw [hi]; exact List.take_length
        have hln := sfold_len x us (0, none, [])
        have hal := sfold_all x us (0, none, []) (by simp)
        rw [htk] at c8 hr8 hinv
        have hzz : strip x = cat (sout x (sfold x us)) := by simp only [strip, hq, if_true, hus]
        change (sfold x us).2.2.length ≤ _ at hln
        change ∀ y ∈ (sfold x us).2.2, _ at hal
        generalize hz : sfold x us = z at c8 hr8 hinv hln hal hzz
        refine wpAny_execs_nil ?_
        show wpAny _ _ (execs (_ :: _) _) _ _ s₈
        have l1 : (sρ x z r).lookup ("start" : Str) = some (VS.dat (.int (z.1 : Int))) := rfl
        have l3 : (sρ x z r).lookup ("result" : Str) = some (VS.val (.ref r)) := rfl
        have l4 : (sρ x z r).lookup ("addr" : Str) = some (VS.dat (.str x)) := rfl
        have evlen : ∀ p1 p2 pp : Pos, Ev prog w (A.deeper (sEnv L (fa 4) (fc 4))) Keeps (sEnv L (fa 4) (fc 4)) (Cx s.heap X' (sEnv L (fa 4) (fc 4)) (sρ x z r)) (.Call (.Name "len" p1) [.Name "addr" p2] [] pp) (fun h v => Rd X' h v (.int (x.length : Int))) := fun p1 p2 pp =>
          ev_call keepsOk cx_up rfl (fun h c => (gd.up c.up).seesB rfl rfl rfl (by simp)) (fun _ _ => keepsF_builtin) (.cons (ev_var (z := .dat (.str x)) keepsOk (fun _ c => c) (by rfl) l4 (by decide)) (upOk _) rfl .nil) (cal_len_str keepsOk (Nat.le_trans hlen (by decide))) (by rfl) (by rfl) (by decide)
        refine wpAny_execs_cons (wpAny_mono (Q := fun f s' => f = .next ∧ ∃ vs', Cx s.heap X' (sEnv L (fa 4) (fc 4)) (sρ x z r) s'.heap ∧ s'.heap.PlainList r vs' ∧ RdL X' s'.heap vs'.toList ((sout x z).map .str) ∧ SameRest s₈ s') (E := fun _ _ => False) ?mid (fun f s' hm => ?_) (fun _ _ hf => hf.elim))
        case mid =>
          refine ex_if (R := Keeps) (I := Cx s.heap X' (sEnv L (fa 4) (fc 4)) (sρ x z r)) (b := decide ((z.1 : Int) < (x.length : Int))) c8 (tst_cmp (X := X') keepsOk cx_up (ev_var (z := .dat (.int (z.1 : Int))) keepsOk (fun _ c => c) (by rfl) l1 (by decide)) (evlen _ _ _) (upOk _) (op_lti keepsOk)) fun s₁₂ r₁₂ => ?_
          have c12 := cx_up _ _ (keepsOk.up r₁₂) c8
          have hp12 := hp8.at fun o q => keepsOk.up r₁₂ r o q
          have hr12 := hr8.up (keepsOk.up r₁₂)
          by_cases hlt : z.1 < x.length
          · rw [show decide ((z.1 : Int) < (x.length : Int)) = true by simp; omega]
            show wpAny _ _ (execs (_ :: _) _) _ _ s₁₂
            have hvl : vs.size ≤ sizeLine := by
              have e1 := hr12.length
              simp at e1 hln
              rw [sizeLine_eq]; omega
            refine wpAny_execs_cons (ex_append rfK c12 l3 ⟨hXr, hfb⟩ hp12 hvl (ev_sliceFrom (X := X') (a := z.1) (x := x) keepsOk cx_up (ev_var (z := .dat (.str x)) keepsOk (fun _ c => c) (by rfl) l4 (by decide)) (ev_var (z := .dat (.int (z.1 : Int))) keepsOk (fun _ c => c) (by rfl) l1 (by decide)) hinv.st hsz) fun v sa sb ra pv hpb hsb cb fb => ?_)
            refine wpAny_execs_nil ⟨rfl, vs.push v, cb, hpb, ?_, (rfK.of r₁₂).trans fb⟩
            rw [show sout x z = z.2.2 ++ [slc x z.1 x.length] by simp [sout, hlt]]
            simp only [List.map_append, List.map_cons, List.map_nil, Array.toList_push]
            obtain ⟨t9, rfl⟩ := pv.str_inv
            refine RdL.append ?_ (.cons (.str _ _) .nil)
            exact (hr12.up (keepsOk.up ra)).to (fun b o hb q => hsb.extBut b o (fun e => hb (e ▸ hXr)) q) fun _ _ _ q => q
          · rw [show decide ((z.1 : Int) < (x.length : Int)) = false by simp; omega]
            exact wpAny_execs_nil ⟨rfl, vs, c12, hp12, by rw [show sout x z = z.2.2 by simp [sout, hlt]]; exact hr12, rfK.of r₁₂⟩
        obtain ⟨rfl, vs', c13, hp13, hr13, sr13⟩ := hm
        show wpAny _ _ (execs (_ :: _) _) _ _ s'
        have hrd0 : Rd (fun b => b = L) s'.heap (.ref r) (.list ((sout x z).map .str)) := by
          obtain ⟨n, ho⟩ := hp13
          exact Rd.mkList hrL ho (hr13.to (fun _ _ _ q => q) fun b _ _ q => by rw [q]; exact hXL)
        have hsum : ((sout x z).map Str.length).sum ≤ sizeLine := by
          have h1 : ∀ y ∈ sout x z, y.length ≤ 1000 := fun y hy => by
            unfold sout at hy
            split at hy
            · rcases List.mem_append.mp hy with hy | hy
              · exact Nat.le_trans (hal y hy) hlen
              · rw [List.mem_singleton.mp hy]; exact Nat.le_trans (slc_len _ _ _) hlen
            · exact Nat.le_trans (hal y hy) hlen
          have h2 : (sout x z).length ≤ 1001 := by
            unfold sout
            simp at hln
            split
            · simp; omega
            · omega
          have h3 := sum_le h1
          have h4 := Nat.mul_le_mul_right 1000 h2
          rw [sizeLine_eq]; omega
        refine wpAny_execs_cons (wpAny_Return_some (ev_join (X := fun b => b = L) (I := fun h => Cx s.heap X' (sEnv L (fa 4) (fc 4)) (sρ x z r) h ∧ Up s'.heap h) (l := sout x z) keepsOk (fun h h' k i => ⟨cx_up _ _ k i.1, i.2.tr k⟩) (ev_name keepsOk (by rfl) (fun h i => ?nm) (by decide)) hsum (by rfl) (by rfl) s' ⟨c13, Up.rfl'⟩ _ _ fun v s₁₄ r₁₄ hv => ?_))
        case nm =>
          obtain ⟨v, hv, hz'⟩ := i.1.st "result" _ l3
          change v = _ at hz'
          subst hz'
          exact ⟨_, hv, hrd0.up i.2⟩
        obtain ⟨t', rfl⟩ := hv.str_inv
        exact fin _ t' s₁₄ (c13.up.tr (keepsOk.up r₁₄)) (rfM.trans fm8 (rfM.trans (.of_rest sr13) (.of_keeps r₁₄))) hzz.symm
    · intro p hp
      simp only [sρ, hst0, opd, List.mem_cons, List.not_mem_nil, or_false] at hp
      rcases hp with rfl | rfl | rfl | rfl <;> rfl
  · rw [show (!decide (34 ∈ x.cps.toList)) = true by simp [hq]]
    show wpAny _ _ (execs (_ :: _) _) _ _ _
    refine wpAny_execs_cons (wpAny_Return_some (ev_var (z := .dat (.str x)) keepsOk (fun _ c => c) (by rfl) (by rfl) (by decide) s₂ c2 _ _ fun v s₃ r₃ hv => ?_))
    obtain ⟨t', rfl⟩ := Rd.str_inv hv
    exact fin x t' s₃ (c2.up.tr (keepsOk.up r₃)) (rfM.trans f2 (.of_keeps r₃)) (by simp [strip, hq])
end
end Mine
end

/-! part L1 -/
section
open PySem PySem.W PySem.Spec PySem.Calls PyProof.Rows
set_option Elab.async false
set_option linter.unusedVariables false
set_option maxRecDepth 100000
namespace Mine

/-- an item told: a pair of its own -/
def It (X : Addr → Prop) (L : Addr) (h : Heap) (v : Value) (u : Nat × Str) : Prop := ∃ T t1 t2 n, v = .ref T ∧ ¬ X T ∧ T ≠ L ∧ h.get? T = some (tupObj #[.int (u.1 : Int) t1, .str u.2 t2] n)
theorem It.mv {X L h h' v u} (x : It X L h v u) (hk : ∀ T o, T ≠ L → o.cls = .type "tuple" → h.get? T = some o → h'.get? T = some o) : It X L h' v u :=
  let ⟨T, t1, t2, n, e, a, b, c⟩ := x; ⟨T, t1, t2, n, e, a, b, hk T _ b rfl c⟩
def uData (u : Nat × Str) : PyData := .tuple [.int (u.1 : Int), .str u.2]

/-- what stands of a list being filled -/
structure LB (X : Addr → Prop) (L S : Addr) (us : List (Nat × Str)) (s₀ : Shared) (i : Nat) (acc : Array Value) (s : Shared) : Prop where
  base : Up s₀.heap s.heap
  fm : Fm s₀ s
  n : acc.size = i
  it : ∀ (j : Nat) v u, acc[j]? = some v → us[j]? = some u → It X L s.heap v u
  S : ∃ c, s.heap.get? S = some { cls := .type "list", dict := none, data := .seq acc c, slots := #[] }

section
variable {prog : Program} {w : World} {A : Around} {X : Addr → Prop} {L S a : Addr} {us : List (Nat × Str)} {s₀ s : Shared} {g i : Nat} {acc : Array Value} {mg mb : Str → Option Value} {R : Result → Shared → Prop}

theorem LB.mv {s' : Shared} (x : LB X L S us s₀ i acc s) (hL : L = s₀.heap.objs.size) (hS : L < S) (m : GMv L s s') : LB X L S us s₀ i acc s' := by
  obtain ⟨b, f, n, it, c, hc⟩ := x
  refine ⟨fun b' o q => m.heap.keep b' o (b b' o q) (.inl (hL ▸ Heap.lt_size q)), rfM.trans f ⟨m.os, m.bare⟩, n, fun j v u h1 h2 => (it j v u h1 h2).mv fun T o hT hc q => m.heap.keep T o q (.inr fun z => ?_), c, m.heap.keep S _ hc (.inr fun z => ?_)⟩
  · rcases z with z | z | z
    · exact hT z
    · rw [hc] at z; exact absurd z (by decide)
    · rw [hc] at z; exact absurd z (by decide)
  · rcases z with z | z | z
    · exact Nat.ne_of_gt hS z
    · simp at z
    · simp at z

theorem upd_other {h : Heap} {S : Addr} {f : Obj → Obj} {b : Addr} (hb : b ≠ S) : (h.update S f).get? b = h.get? b := Heap.get?_update_other _ _ (Ne.symm hb)

/-- the list at S is written anew -/
theorem LB.set {h' : Heap} {tk : Tok} {acc' : Array Value} (x : LB X L S us s₀ i acc s) (hL : L = s₀.heap.objs.size) (hS : L < S) (ho : ∀ b, b ≠ S → h'.get? b = s.heap.get? b) {c : Nat} (hc : h'.get? S = some { cls := .type "list", dict := none, data := .seq acc' c, slots := #[] }) {i' : Nat} (hn : acc'.size = i')
    (hit : ∀ (j : Nat) v u, acc'[j]? = some v → us[j]? = some u → It X L s.heap v u) : LB X L S us s₀ i' acc' { s with heap := h', toks := tk } := by
  refine ⟨fun b o q => (ho b (Nat.ne_of_lt (Nat.lt_trans (hL ▸ Heap.lt_size q) hS))).trans (x.base b o q), rfM.trans x.fm (rfM.heap _ _ _), hn, fun j v u h1 h2 => ?_, c, hc⟩
  obtain ⟨T, t1, t2, n, e, a, b, q⟩ := hit j v u h1 h2
  refine ⟨T, t1, t2, n, e, a, b, (ho T ?_).trans q⟩
  rintro rfl
  obtain ⟨c', hc'⟩ := x.S
  rw [hc'] at q; simp at q

theorem GSt.write (G : GSt prog w A mg mb a g L us i s) (hS : L < S) (hl : ∃ o, s.heap.get? S = some o ∧ o.cls = .type "list") {h' : Heap} {tk : Tok} (ho : ∀ b, b ≠ S → h'.get? b = s.heap.get? b) : GSt prog w A mg mb a g L us i { s with heap := h', toks := tk } := by
  obtain ⟨oS, hS1, hS2⟩ := hl
  refine G.frame rfl (fun o q => (ho a ?_).trans q) fun b o q l z => (ho b ?_).trans q
  · rintro rfl
    obtain ⟨oa, _, _, h1, h2, _⟩ := G.gen
    rw [hS1] at h1; cases h1
    rw [hS2] at h2; exact absurd h2 (by decide)
  · rintro rfl
    rw [hS1] at q; cases q
    rcases z with z | z | z
    · exact Nat.ne_of_gt hS z
    · rw [hS2] at z; exact absurd z (by decide)
    · rw [hS2] at z; exact absurd z (by decide)

theorem fill_loop (hn : us.length ≤ sizeLine) (hL : L = s₀.heap.objs.size) (hS : L < S) (hA : A.handled = none) (hr : A.depth < recursionLimit) (nm : Names s₀.heap mg mb) (nl : s₀.heap.NoLimit) (tk : Taken X s₀.heap) (res : Value) :
    ∀ (k i : Nat) (s : Shared) (acc : Array Value), us.length - i = k → LB X L S us s₀ i acc s → GSt prog w A.in1.in1 mg mb a g L us i s →
    (∀ s' acc', LB X L S us s₀ us.length acc' s' → R (.ok (.ret res)) s') → codeAny (model prog w) A (.builtin "list.extend.loop" ⟨[.ref S, .ref a, res], []⟩) R s := by
  intro k
  induction k with
  | zero =>
    intro i s acc hk B G hR
    have hi : i = us.length := by have := G.le; omega
    subst hi
    refine codeAny_builtin F.entry_extend_loop ?_
    rw [Around.under_plainId F.plain_extend_loop _]
    show wpAny _ A.in1 (pyNext (.ref a) >>= _) _ _ s
    refine wpAny_bind (gen_next (A := A.in1) hA (nl.keeps B.base) hr G (nm.up B.base) (fun h => absurd h (Nat.lt_irrefl _)) fun _ s' m => ?_)
    exact wpAny_pure (hR s' acc (B.mv hL hS m))
  | succ k ih =>
    intro i s acc hk B G hR
    refine codeAny_builtin F.entry_extend_loop ?_
    rw [Around.under_plainId F.plain_extend_loop _]
    show wpAny _ A.in1 (pyNext (.ref a) >>= _) _ _ s
    refine wpAny_bind (gen_next (A := A.in1) hA (nl.keeps B.base) hr G (nm.up B.base) (fun hi u T t1 t2 n s' hu hT hTn m G' => ?_) fun h => absurd h (by omega))
    have B' := B.mv hL hS m
    obtain ⟨c, hc⟩ := B'.S
    show wpAny _ A.in1 (updateSeq S (·.push (.ref T)) >>= _) _ _ _
    refine wpAny_bind ?_
    have ho : ∀ b, b ≠ S → (s'.heap.update S (Obj.mapSeq (·.push (.ref T)))).get? b = s'.heap.get? b := fun b hb => upd_other hb
    refine wpAny_updateSeq hc rfl (wpAny_pure ⟨plainId_quiet F.plain_extend_loop _, ih (i + 1) _ (acc.push (.ref T)) (by omega) (B'.set (tk := s'.toks) hL hS ho (Heap.get?_update_self _ hc rfl) (by rw [Array.size_push, B.n]) fun j v u' h1 h2 => ?_) (G'.write (tk := s'.toks) hS ⟨_, hc, rfl⟩ ho) hR⟩)
      (by rw [B.n]; omega) (by show (acc.push _).size ≤ sizeLine + 1; rw [Array.size_push, B.n]; omega)
    rw [Array.getElem?_push] at h1
    split at h1
    · rename_i hj
      subst hj
      cases h1
      rw [B.n] at h2
      rw [hu] at h2; cases h2
      refine ⟨T, t1, t2, n, rfl, fun x => ?_, hTn.1, hT⟩
      obtain ⟨o, ho'⟩ := Option.isSome_iff_exists.mp (tk T x)
      exact hTn.2 T o (B.base T o ho') (.inl (hL ▸ Heap.lt_size ho')) rfl
    · exact B'.it j v u' h1 h2

/-- an empty list is touched: it stays as it is -/
theorem touched {M : Model} {E : Value → Shared → Prop} {S : Addr} {c : Nat} {Q : Unit → Shared → Prop} (hc : s.heap.get? S = some (listObj #[] c)) (h : ∀ h' c', h'.get? S = some (listObj #[] c') → (∀ b, b ≠ S → h'.get? b = s.heap.get? b) → Q () { s with heap := h' }) : wpAny M A (Builtin.List.listTouch (.ref S)) Q E s := by
  have one := Heap.get?_update_self (Obj.mapSeq (·.push Value.none)) hc rfl
  show wpAny M A (updateSeq S (·.push .none) >>= fun _ => updateSeq S (·.pop)) Q E s
  exact wpAny_bind (wpAny_updateSeq hc rfl (wpAny_updateSeq (hz := by seq_fits) one rfl (h _ _ (Heap.get?_update_self (Obj.mapSeq (·.pop)) one rfl) fun b hb => (upd_other hb).trans (upd_other hb))))

theorem fill_extend (hn : us.length ≤ sizeLine) (hL : L = s₀.heap.objs.size) (hS : L < S) (hA : A.handled = none) (hr : A.depth < recursionLimit) (nm : Names s₀.heap mg mb) (nl : s₀.heap.NoLimit) (tk : Taken X s₀.heap) (res : Value)
    (B : LB X L S us s₀ 0 #[] s) (G : GSt prog w A.in1.in1 mg mb a g L us 0 s) (hR : ∀ s' acc', LB X L S us s₀ us.length acc' s' → R (.ok (.ret res)) s') :
    wpAny (model prog w) A.in1 (Builtin.List.listExtendWith (.ref S) (.ref a) res)
      (fun fin s' => match fin with | .done f => R (.ok f) s' | .again c' => c'.quiet = true ∧ codeAny (model prog w) A c' R s') (fun e s' => R (.error e) s') s := by
  obtain ⟨c₀, hc⟩ := B.S
  have ty : s.TypeIs (.ref a) "generator" := G.gen.typeIs
  have apart : S ≠ a := by
    rintro rfl
    obtain ⟨oa, _, _, h1, h2, _⟩ := G.gen
    rw [hc] at h1; cases h1
    simp at h2
  have plain : (Builtin.List.listSameRef (.ref S) (.ref a) || Value.type "generator" == .type "list" || Value.type "generator" == .type "tuple") = false := by
    rw [show Builtin.List.listSameRef (.ref S) (.ref a) = false by simp [Builtin.List.listSameRef, apart]]; decide
  unfold Builtin.List.listExtendWith
  refine wpAny_bind (wpAny_typeOf ty ?_)
  simp only [plain, Bool.false_eq_true, if_false]
  refine wpAny_bind (wpAny_pyIter_gen G.gen (wpAny_bind (wpAny_holding ?_)))
  unfold Builtin.List.listLengthHint
  refine wpAny_bind (wpAny_specialOf ty F.gen_no_len (wpAny_bind (wpAny_specialOf ty F.gen_no_hint (wpAny_pure ?_))))
  refine wpAny_bind (wpAny_rule (wpAny_bind (touched hc fun h' c' hS' oth => ?_)))
  exact wpAny_pure ⟨plainId_quiet F.plain_extend_loop _, fill_loop (g := g) hn hL hS hA hr nm nl tk res us.length 0 _ #[] rfl (B.set (tk := s.toks) hL hS oth hS' rfl B.it) (G.write (tk := s.toks) hS ⟨_, hc, rfl⟩ oth) hR⟩

/-- an empty list is emptied: it stays as it is -/
theorem emptied {M : Model} {α : Type} {E : Value → Shared → Prop} {S : Addr} {c : Nat} {k : Sem α} {Q : α → Shared → Prop} (hc : s.heap.get? S = some (listObj #[] c)) (h : ∀ h' c', h'.get? S = some (listObj #[] c') → (∀ b, b ≠ S → h'.get? b = s.heap.get? b) → wpAny M A k Q E { s with heap := h' }) :
    wpAny M A (Builtin.List.listItems (.ref S) >>= fun old => Builtin.List.listUpdate (.ref S) (fun _ => #[]) >>= fun _ => letGo old.toList.reverse >>= fun _ => k) Q E s := by
  refine wpAny_bind ?_
  unfold Builtin.List.listItems
  refine wpAny_bind (wpAny_seqItems hc rfl (wpAny_pure (wpAny_bind ?_)))
  exact wpAny_updateSeq hc rfl (wpAny_bind (wpAny_letGo (h _ _ (Heap.get?_update_self (Obj.mapSeq fun _ => (#[] : Array Value)) hc rfl) fun b hb => upd_other hb)))

theorem fill_call {E : Value → Shared → Prop} {Q : Value → Shared → Prop} (hn : us.length ≤ sizeLine) (hL : L = s₀.heap.objs.size) (hA : A.handled = none) (hr : A.depth < recursionLimit) (nm : Names s₀.heap mg mb) (nl : s₀.heap.NoLimit) (tk : Taken X s₀.heap)
    (up : Up s₀.heap s.heap) (fm : Fm s₀ s) (G : GSt prog w A.in1.in1.in1 mg mb a g L us 0 s) (hQ : ∀ v s', Mv s₀ s' → Rd X s'.heap v (.list (us.map uData)) → Q v s') : wpAny (model prog w) A (call (.type "list") [.ref a]) Q E s := by
  have above : L < s.heap.objs.size := by
    obtain ⟨o, _, _, h1, _⟩ := G.gen
    exact Nat.lt_trans G.la (Heap.lt_size h1)
  have kp : Up s.heap (s.heap.push (listObj #[] 0)) := fun _ _ q => Heap.get?_push_of_some _ q
  have at_S : (s.heap.push (listObj #[] 0)).get? s.heap.objs.size = some (listObj #[] 0) := Heap.get?_push_size _ rfl
  have B0 : LB X L s.heap.objs.size us s₀ 0 #[] { s with heap := s.heap.push (listObj #[] 0) } := ⟨up.tr kp, rfM.trans fm (rfM.heap _ _ _), rfl, fun j v u h => by simp at h, 0, at_S⟩
  have G0 : GSt prog w A.in1.in1.in1 mg mb a g L us 0 { s with heap := s.heap.push (listObj #[] 0) } := G.frame rfl (fun o q => kp _ _ q) fun b o q _ _ => kp b o q
  refine callType_codes (Q₁ := fun v s' => v = .ref s.heap.objs.size ∧ s' = { s with heap := s.heap.push (listObj #[] 0) }) F.called_list (F.typeCall_list_1 _) F.entry_list_init (code_list_new _ ⟨rfl, rfl⟩) ?_
  rintro v s₁ ⟨rfl, rfl⟩
  refine ⟨⟨_, at_S, rfl⟩, F.args_list_init_2 _ _, ?_⟩
  generalize s.heap.objs.size = S at at_S above B0
  generalize ({ s with heap := s.heap.push (listObj #[] 0) } : Shared) = s₁ at B0 G0
  obtain ⟨c, hc⟩ := B0.S
  refine emptied hc fun h' c' hS' oth => ?_
  refine fill_extend (A := A.in1) (g := g) hn hL above hA hr nm nl tk .none (B0.set (tk := s₁.toks) hL above oth hS' rfl fun j v u h => by simp at h) (G0.write (tk := s₁.toks) above ⟨_, hc, rfl⟩ oth) fun s' acc B => ?_
  refine ⟨rfl, hQ _ s' ⟨B.base, B.fm.os, B.fm.bare⟩ ?_⟩
  obtain ⟨c', hc'⟩ := B.S
  refine Rd.mkList (fun x => ?_) hc' (RdL.of _ _ (by simp [B.n]) fun j v d h1 h2 => ?_)
  · obtain ⟨o, ho⟩ := Option.isSome_iff_exists.mp (tk _ x)
    exact absurd (Heap.lt_size ho) (Nat.not_lt.mpr (hL ▸ Nat.le_of_lt above))
  · rw [List.getElem?_map] at h2
    cases hu : us[j]? with
    | none => rw [hu] at h2; cases h2
    | some u =>
      rw [hu] at h2; cases h2
      obtain ⟨T, t1, t2, n, rfl, hx, _, hT⟩ := B.it j v u (by simpa using h1) hu
      exact Rd.mkTuple hx hT (.cons (.int _ _) (.cons (.str _ _) .nil))
end
end Mine
end

/-! part E1 -/
section
open PySem PySem.W PySem.Spec PySem.Calls PyProof.Rows
set_option Elab.async false
set_option linter.unusedVariables false
set_option maxRecDepth 100000
namespace Mine

/-- the same but for the slots of the frames at F -/
structure Kp (F : List Addr) (h h' : Heap) : Prop where
  off : ∀ b o, b ∉ F → h.get? b = some o → h'.get? b = some o
  on : ∀ b o, b ∈ F → h.get? b = some o → ∃ sl, h'.get? b = some { o with slots := sl }
theorem Kp.of_up {F h h'} (k : Up h h') : Kp F h h' := ⟨fun b o _ q => k b o q, fun b o _ q => ⟨o.slots, k b o q⟩⟩
theorem Kp.refl (F h) : Kp F h h := .of_up Up.rfl'
theorem Kp.trans {F h h' h''} (x : Kp F h h') (y : Kp F h' h'') : Kp F h h'' :=
  ⟨fun b o n q => y.off b o n (x.off b o n q), fun b o n q => let ⟨_, q1⟩ := x.on b o n q; let ⟨sl, q2⟩ := y.on b _ n q1; ⟨sl, q2⟩⟩
theorem Kp.of_slots {F h h'} (x : Heap.SlotsOnly F h h') : Kp F h h' := ⟨fun b o n q => (x.2.1 b n).trans q, fun b o _ q => x.2.2 b o q⟩
theorem Kp.data {F h h'} (k : Kp F h h') {b o} (q : h.get? b = some o) : ∃ sl, h'.get? b = some { o with slots := sl } := by
  by_cases n : b ∈ F
  · exact k.on b o n q
  · exact ⟨o.slots, k.off b o n q⟩
theorem Kp.mono {F F' h h'} (k : Kp F h h') (hs : ∀ b ∈ F, b ∈ F') : Kp F' h h' := ⟨fun b o n q => k.off b o (fun m => n (hs b m)) q, fun b o _ q => k.data q⟩
theorem Kp.ns {F h h' a m} (k : Kp F h h') (n : h.Ns a m) : h'.Ns a m := by
  obtain ⟨o, es, ep, ho, hd, r⟩ := n
  obtain ⟨sl, hs⟩ := k.data ho
  exact ⟨_, es, ep, hs, hd, r⟩

/-- the frames of a stack -/
def frs (l : List Env) : List Addr := l.filterMap (·.frame)
structure FrOk (h : Heap) (l : List Env) : Prop where
  ok : ∀ env ∈ l, env.scope.kind = .function ∧ env.frame = some env.locals ∧ ∃ m, h.Ns env.locals m
theorem FrOk.kp {F h h' l} (x : FrOk h l) (k : Kp F h h') : FrOk h' l := ⟨fun e he => let ⟨a, b, m, n⟩ := x.ok e he; ⟨a, b, m, k.ns n⟩⟩
theorem FrOk.mem {h l b} (x : FrOk h l) (hb : b ∈ frs l) : ∃ m, h.Ns b m := by
  obtain ⟨env, he, e⟩ := List.mem_filterMap.mp hb
  obtain ⟨_, f, m, n⟩ := x.ok env he
  rw [f] at e; cases e
  exact ⟨m, n⟩
theorem ns_data {h : Heap} {a m o} (n : h.Ns a m) (ho : h.get? a = some o) : ∀ vs, o.data ≠ .fields vs := by
  obtain ⟨o', es, ep, h1, h2, _⟩ := n
  rw [ho] at h1; cases h1
  intro vs e
  rw [h2] at e; cases e
theorem FrOk.ff {h : Heap} : ∀ {l}, FrOk h l → h.FunFrames {} l
  | [], _ => trivial
  | env :: l, x => by
    obtain ⟨a, b, m, n⟩ := x.ok env (.head _)
    obtain ⟨o, es, ep, h1, h2, _⟩ := id n
    exact ⟨by rw [a]; decide, ⟨_, o, b, by simp [Heap.get?], h1, fun vs e => by rw [h2] at e; cases e⟩, FrOk.ff ⟨fun e he => x.ok e (.tail _ he)⟩⟩

/-- an exception that was raised behind h; t: its entry's flight, if it has one; c: what it came from -/
structure Xs (h h' : Heap) (e : Addr) (t : Option Value) (c : Value) : Prop where
  new : h.get? e = none
  there : ∃ oe vs, h'.get? e = some oe ∧ oe.cls = .type "IndexError" ∧ oe.data = .fields vs ∧ vs[2]? = some c ∧ (match t with
    | none => vs[1]? = some .none
    | some fl => ∃ T oT ts, vs[1]? = some (.ref T) ∧ T ≠ e ∧ h.get? T = none ∧ h'.get? T = some oT ∧ oT.data = .fields ts ∧ ts[3]? = some fl)
theorem Xs.base {h₀ h h' e t c} (x : Xs h h' e t c) (k : Up h₀ h) : Xs h₀ h' e t c := by
  have f : ∀ a, h.get? a = none → h₀.get? a = none := fun a q => by
    cases z : h₀.get? a with
    | none => rfl
    | some o => rw [k a o z] at q; cases q
  obtain ⟨n, oe, vs, a, b, d, g, r⟩ := x
  refine ⟨f _ n, oe, vs, a, b, d, g, ?_⟩
  cases t with
  | none => exact r
  | some fl =>
    obtain ⟨T, oT, ts, r1, r2, r3, r4⟩ := r
    exact ⟨T, oT, ts, r1, r2, f _ r3, r4⟩
theorem Xs.kp {F h h₁ h₂ e t c} (x : Xs h h₁ e t c) (k : Kp F h₁ h₂) : Xs h h₂ e t c := by
  obtain ⟨n, oe, vs, a, b, d, g, r⟩ := x
  obtain ⟨sl, a'⟩ := k.data a
  refine ⟨n, _, vs, a', b, d, g, ?_⟩
  cases t with
  | none => exact r
  | some fl =>
    obtain ⟨T, oT, ts, r1, r2, r3, r4, r5, r6⟩ := r
    obtain ⟨sl', r4'⟩ := k.data r4
    exact ⟨T, _, ts, r1, r2, r3, r4', r5, r6⟩

section
variable {prog : Program} {w : World} {A : Around} {E : Value → Shared → Prop} {s : Shared} {env : Env} {outer : List Env} {h : Heap} {e : Addr} {c : Value}

/-- something new is laid, and a field of e set -/
theorem laid_set {h : Heap} {e : Addr} {oe oT : Obj} {vs : Array Value} (he : h.get? e = some oe) (hd : oe.data = .fields vs) (hz : oT.isFreed = false) (i : Nat) (v : Value) :
    (∃ oe', ((h.push oT).update e (Obj.mapFields (·.setIfInBounds i v))).get? e = some oe' ∧ oe'.cls = oe.cls ∧ oe'.data = .fields (vs.setIfInBounds i v)) ∧
      ((h.push oT).update e (Obj.mapFields (·.setIfInBounds i v))).get? h.objs.size = some oT ∧
      ∀ b o, b ≠ e → h.get? b = some o → ((h.push oT).update e (Obj.mapFields (·.setIfInBounds i v))).get? b = some o := by
  have hd' : (Obj.mapFields (·.setIfInBounds i v) oe).data = .fields (vs.setIfInBounds i v) := Obj.data_mapFields hd _
  have ne : e ≠ h.objs.size := Nat.ne_of_lt (Heap.lt_size he)
  refine ⟨⟨_, Heap.get?_update_self _ (Heap.get?_push_of_some oT he) (Obj.isFreed_of_fields hd'), ?_, hd'⟩, ?_, fun b o nb q => ?_⟩
  · obtain ⟨c', d, dt, sl⟩ := oe; cases dt <;> rfl
  · rw [Heap.get?_update_other _ _ ne]; exact Heap.get?_push_size h hz
  · rw [Heap.get?_update_other _ _ (Ne.symm nb)]; exact Heap.get?_push_of_some oT q
/-- an entry is laid for an exception that has none yet -/
theorem note_new {M : Model} {Q : Unit → Shared → Prop} (hfr : A.frames = some (env :: outer)) (fo : FrOk s.heap (env :: outer)) (k : Kp (frs (env :: outer)) h s.heap) (x : Xs h s.heap e none c)
    (hQ : ∀ h', Kp (frs (env :: outer)) h h' → Xs h h' e (some (rawInt env.locals)) c → FrOk h' (env :: outer) → Q () { s with heap := h' }) : wpAny M A (noteFrame (.ref e) env) Q E s := by
  obtain ⟨n, oe, vs, he, hc, hd, h2, h1⟩ := x
  replace h1 : vs[1]? = some .none := h1
  obtain ⟨hk, hf, m, hns⟩ := fo.ok env (.head _)
  have hsz : 1 < vs.size := (Array.getElem?_eq_some_iff.mp h1).1
  have hene : e ∉ frs (env :: outer) := fun hm => by
    obtain ⟨m', n'⟩ := fo.mem hm
    exact ns_data n' he _ hd
  unfold noteFrame
  simp only [hf]
  refine wpAny_bind (wpAny_field he hd h1 ?_)
  rw [if_neg (by decide)]
  refine wpAny_bind (wpAny_frameOf_fun hfr fo.ff hf fun h₁ sl₁ => wpAny_bind (wpAny_entryPlaceOf fun pl hpl => ?_))
  have sl₁ : Heap.SlotsOnly (frs (env :: outer)) s.heap h₁ := sl₁
  have e₁ : h₁.get? e = some oe := (sl₁.2.1 e hene).trans he
  have kk := k.trans (Kp.of_slots sl₁)
  unfold EntryCells.newEntry newFields
  refine wpAny_bind (wpAny_newObj_type ?_ (hpl.sizeOk5 _ _ _ _ _))
  generalize hoT : ({ cls := .type "traceback", data := _ } : Obj) = oT
  have hz : oT.isFreed = false := by rw [← hoT]; rfl
  have hT : ∃ ts, oT.data = .fields ts ∧ ts[3]? = some (rawInt env.locals) := by rw [← hoT]; exact ⟨_, rfl, by simp⟩
  clear hoT
  refine wpAny_setField (Heap.get?_push_of_some oT e₁) hd hsz ?_
  show Q () { s with heap := (h₁.push oT).update e (Obj.mapFields (·.setIfInBounds 1 (.ref h₁.objs.size))) }
  obtain ⟨⟨oe', e₂, c₂, d₂⟩, t₂, keep⟩ := laid_set e₁ hd hz 1 (.ref h₁.objs.size)
  generalize (h₁.push oT).update e (Obj.mapFields (·.setIfInBounds 1 (.ref h₁.objs.size))) = h₂ at e₂ t₂ keep ⊢
  have old : ∀ b o, h.get? b = some o → b ≠ e := fun b o q z => by rw [z, n] at q; cases q
  have hTe : h₁.objs.size ≠ e := Nat.ne_of_gt (Heap.lt_size e₁)
  have hT0 : h.get? h₁.objs.size = none := by
    cases z : h.get? h₁.objs.size with
    | none => rfl
    | some o =>
      obtain ⟨sl, q⟩ := kk.data z
      exact absurd (Heap.lt_size q) (Nat.lt_irrefl _)
  obtain ⟨ts, td, t3⟩ := hT
  refine hQ _ ⟨fun b o nb q => keep b o (old b o q) (kk.off b o nb q), fun b o nb q => ?_⟩ ⟨n, _, _, e₂, c₂.trans hc, d₂, by rw [Array.getElem?_setIfInBounds_ne (by decide)]; exact h2, h₁.objs.size, _, _, by simp [hsz], hTe, hT0, t₂, td, t3⟩ ⟨fun env' he' => ?_⟩
  · obtain ⟨sl, q'⟩ := kk.on b o nb q
    exact ⟨sl, keep b _ (old b o q) q'⟩
  · obtain ⟨a', b', m', n'⟩ := fo.ok env' he'
    refine ⟨a', b', m', ?_⟩
    obtain ⟨o, es, ep, ho, hdd, r⟩ := n'
    obtain ⟨sl, q⟩ := sl₁.2.2 _ o ho
    refine ⟨({ o with slots := sl } : Obj), es, ep, keep _ _ (fun z => ?_) q, hdd, r⟩
    rw [z, he] at ho; cases ho
    rw [hd] at hdd; cases hdd

theorem note_again {M : Model} {Q : Unit → Shared → Prop} (hf : env.frame = some env.locals) (x : Xs h s.heap e (some (rawInt env.locals)) c) (hQ : Q () s) : wpAny M A (noteFrame (.ref e) env) Q E s := by
  obtain ⟨n, oe, vs, he, hc, hd, h2, T, oT, ts, h1, hTe, hT0, hT, hTd, h3⟩ := x
  exact wpAny_noteFrame_inFlight hf he hd h1 hT hTd h3 hQ

/-- the entry's flight is set -/
theorem flight {M : Model} {Q : Unit → Shared → Prop} {fl : Value} {f : Option Addr} (fo : FrOk s.heap (env :: outer)) (k : Kp (frs (env :: outer)) h s.heap) (x : Xs h s.heap e (some fl) c)
    (hQ : ∀ h', Kp (frs (env :: outer)) h h' → Xs h h' e (some (f.elim .none fun f => rawInt f)) c → FrOk h' (env :: outer) → Q () { s with heap := h' }) : wpAny M A (setFlight (.ref e) f) Q E s := by
  obtain ⟨n, oe, vs, he, hc, hd, h2, T, oT, ts, h1, hTe, hT0, hT, hTd, h3⟩ := x
  have hsz : 3 < ts.size := (Array.getElem?_eq_some_iff.mp h3).1
  unfold setFlight
  refine wpAny_bind (wpAny_field he hd h1 ?_)
  rw [if_pos (show (Value.ref T != Value.none) = true from by simp)]
  refine wpAny_setField hT hTd hsz (hQ _ ?_ ?_ ?_)
  · have ne : ∀ b o, h.get? b = some o → b ≠ T := fun b o q z => by rw [z, hT0] at q; cases q
    refine ⟨fun b o nb q => ?_, fun b o nb q => ?_⟩
    · exact (Heap.get?_update_other _ _ (Ne.symm (ne b o q))).trans (k.off b o nb q)
    · obtain ⟨sl, q'⟩ := k.on b o nb q
      exact ⟨sl, (Heap.get?_update_other _ _ (Ne.symm (ne b o q))).trans q'⟩
  · refine ⟨n, oe, vs, (Heap.get?_update_other _ _ hTe).trans he, hc, hd, h2, T, _, _, h1, hTe, hT0, Heap.get?_update_self _ hT (Obj.isFreed_of_fields (Obj.data_mapFields hTd _)), Obj.data_mapFields hTd _, by simp [hsz]⟩
  · refine ⟨fun env' he' => ?_⟩
    obtain ⟨a', b', m', n'⟩ := fo.ok env' he'
    refine ⟨a', b', m', n'.at' fun o q => (Heap.get?_update_other _ _ fun z => ?_).trans q⟩
    rw [← z] at n'
    exact ns_data n' hT _ hTd

theorem entry_unchain : entryFor table "proto.unchain" = some Builtin.«proto.unchain» := entryFor_of_tree (by kernel_rfl)
theorem plain_unchain : plainId "proto.unchain" = true := by decide +kernel

/-- what may be in hand when something is raised -/
def HOk (A : Around) (h : Heap) : Prop := A.handled = none ∨ ∃ a o vs, A.handled = some (.ref a) ∧ h.get? a = some o ∧ o.data = .fields vs ∧ vs[2]? = some .none

theorem raise_new {α : Type} {msg : String} {Q : α → Shared → Prop} (hk : HOk A s.heap) (hQ : ∀ h' tk e c, Up s.heap h' → (A.handled = none → c = .none) → Xs s.heap h' e none c → E (.ref e) { s with heap := h', toks := tk }) :
    wpAny (model prog w) A (raiseErrorWords "IndexError" msg : Sem α) Q E s := by
  have first : ∀ args, firstArgMember (.type "IndexError") args = pure Value.none := fun args => by simp only [firstArgMember, plainExc_IndexError.first]; rfl
  unfold raiseErrorWords newExc newTuple
  refine wpAny_bind (wpAny_mkText (wpAny_bind (wpAny_bind (wpAny_newObj_type ?_))))
  rw [first, plainExc_IndexError.own]
  refine wpAny_bind (wpAny_pure (wpAny_newObj_type ?_))
  generalize hT : ({ cls := .type "tuple", data := .seq _ } : Obj) = oT
  generalize ho : ({ cls := .type "IndexError", data := .fields _ } : Obj) = oe
  have hd : oe.data = .fields (#[.ref s.heap.objs.size, .none, .none, .none, .bool false, .none] ++ #[]) := by rw [← ho]
  have hc : oe.cls = .type "IndexError" := by rw [← ho]
  have hfz : oe.isFreed = false := by rw [← ho]; rfl
  have hTz : oT.isFreed = false := by rw [← hT]; rfl
  have up : Up s.heap ((s.heap.push oT).push oe) := fun b o hb => Heap.get?_push_of_some _ (Heap.get?_push_of_some _ hb)
  have hen : s.heap.get? (s.heap.push oT).objs.size = none := Heap.get?_none_of_le (by simp)
  have hee : ((s.heap.push oT).push oe).get? (s.heap.push oT).objs.size = some oe := Heap.get?_push_size _ hfz
  unfold raiseNew
  refine wpAny_bind (wpAny_handled ?_)
  rcases hk with hh | ⟨a, o, vs, hh, ha, hda, h2⟩
  · rw [hh]
    first
      | refine wpAny_throw ?_
      | refine wpAny_bind (wpAny_pure (wpAny_throw ?_))
    exact hQ _ _ _ .none up (fun _ => rfl) ⟨hen, oe, _, hee, hc, hd, rfl, rfl⟩
  · rw [hh]
    have hae : a ≠ (s.heap.push oT).objs.size := fun z => by rw [z, hen] at ha; cases ha
    show wpAny _ A (if (Value.ref a != Value.ref (s.heap.push oT).objs.size) = true then _ else _) _ _ _
    rw [if_pos (bne_iff_ne.mpr fun z => hae (Value.ref.inj z))]
    refine wpAny_bind (wpAny_holding (wpAny_runValue (codeAny_builtin entry_unchain ?_)))
    rw [Around.under_plainId plain_unchain _]
    show wpAny _ A.in1 (field (.ref a) 2 >>= _) _ _ _
    refine wpAny_bind (wpAny_field (up _ _ ha) hda h2 ?_)
    rw [if_pos (by decide)]
    refine wpAny_pure ?_
    show wpAny _ A (setField (.ref _) 2 (.ref a) >>= _) _ _ _
    refine wpAny_bind (wpAny_setField hee hd (by simp) ?_)
    refine wpAny_throw ?_
    refine hQ _ _ _ (.ref a) (fun b o' q => ?_) (fun z => by rw [z] at hh; cases hh) ⟨hen, _, _, Heap.get?_update_self _ hee (Obj.isFreed_of_fields (Obj.data_mapFields hd _)), ?_, Obj.data_mapFields hd _, ?_, ?_⟩
    · refine (Heap.get?_update_other _ _ fun z => ?_).trans (up b o' q)
      rw [← z, hen] at q; cases q
    · rw [← ho]; rfl
    · simp
    · show (_ : Array Value)[1]? = _
      simp
end
end Mine
end

/-! part E2 -/
section
open PySem PySem.W PySem.Spec PySem.Calls PyProof.Rows
set_option Elab.async false
set_option linter.unusedVariables false
set_option maxRecDepth 100000
namespace Mine
section
variable {prog : Program} {w : World} {A : Around} {E : Value → Shared → Prop} {s s₀ : Shared} {env : Env} {outer : List Env} {hb : Heap} {X : Addr → Prop} {ρ : List (Str × VS)}

theorem sees_kp {F : List Addr} {h h' : Heap} {y : Str} {v : Value} (x : Sees env h y v) (k : Kp F h h') (hc : ∀ b ∈ F, ∀ n, env.cells.lookup n ≠ some b) : Sees env h' y v := by
  rcases x with ⟨a, m, n, e⟩ | ⟨a, c, e, i⟩ | ⟨a, mg, n, e⟩
  · exact .inl ⟨a, m, k.ns n, e⟩
  · obtain ⟨p, i1, i2⟩ := i
    exact .inr (.inl ⟨a, c, e, p, k.off c p (fun m => hc c m _ e) i1, i2⟩)
  · refine .inr (.inr ⟨a, mg, k.ns n, ?_⟩)
    rcases e with e | ⟨e, mb, nb, eb⟩
    · exact .inl e
    · exact .inr ⟨e, mb, k.ns nb, eb⟩
theorem cx_kp {F : List Addr} {h h' : Heap} (c : Cx hb X env ρ h) (k : Kp F h h') (hF : ∀ b ∈ F, X b) (hc : ∀ b ∈ F, ∀ n, env.cells.lookup n ≠ some b) : Cx hb X env ρ h' := by
  obtain ⟨wf, st, tk, up, fr⟩ := c
  have off : ∀ b o, ¬ X b → h.get? b = some o → h'.get? b = some o := fun b o n q => k.off b o (fun m => n (hF b m)) q
  have cl : ∀ n c o, env.cells.lookup n = some c → h.IsCell c o → h'.IsCell c o := fun n c o e i => let ⟨p, i1, i2⟩ := i; ⟨p, k.off c p (fun m => hc c m n e) i1, i2⟩
  refine ⟨{ wf with loc := let ⟨m, n⟩ := wf.loc; ⟨m, k.ns n⟩, cell := fun n c e => let ⟨⟨o, i⟩, r⟩ := wf.cell n c e; ⟨⟨o, cl n c o e i⟩, r⟩, nm := let ⟨mg, mb, n⟩ := wf.nm; ⟨mg, mb, k.ns n.g, k.ns n.b⟩ }, fun y z e => ?_, fun a x => ?_, fun b o q => off b o (fr b o q) (up b o q), fr⟩
  · obtain ⟨v, a, b⟩ := st y z e
    exact ⟨v, sees_kp a k hc, b.to off⟩
  · obtain ⟨o, ho⟩ := Option.isSome_iff_exists.mp (tk a x)
    obtain ⟨sl, q⟩ := k.data ho
    rw [q]; rfl
/-- a new address is made the frame's own -/
theorem cx_growK {F : List Addr} {h h' : Heap} {r : Addr} (c : Cx hb X env ρ h) (k : Kp F h h') (hF : ∀ b ∈ F, X b) (hc : ∀ b ∈ F, ∀ n, env.cells.lookup n ≠ some b) (hr : h.get? r = none) (hn : (h'.get? r).isSome = true) : Cx hb (fun b => X b ∨ b = r) env ρ h' := by
  have c' := cx_kp c k hF hc
  have hm : r ≠ mainGlobals ∧ r ≠ builtinsNs := by
    obtain ⟨mg, mb, n⟩ := c.wf.nm
    obtain ⟨o1, _, _, h1, _⟩ := n.g
    obtain ⟨o2, _, _, h2, _⟩ := n.b
    exact ⟨fun e => (by rw [e, h1] at hr; cases hr), fun e => (by rw [e, h2] at hr; cases hr)⟩
  have w' := c'.wf
  refine ⟨{ w' with xl := .inl w'.xl, cell := fun n c e => let ⟨a, b, d⟩ := w'.cell n c e; ⟨a, .inl b, d⟩, xg := ⟨fun z => z.elim w'.xg.1 (fun e => hm.1 e.symm), fun z => z.elim w'.xg.2 (fun e => hm.2 e.symm)⟩ }, fun y z e => ?_, fun a x => ?_, c'.up, fun b o e x => ?_⟩
  · obtain ⟨v, a, b⟩ := c.st y z e
    refine ⟨v, sees_kp a k hc, ?_⟩
    cases z with
    | dat d => exact Rd.to b (fun b' o n q => k.off b' o (fun m => n (hF b' m)) q) fun b' o q x => x.elim id fun e => by rw [e, hr] at q; cases q
    | val u => exact b
  · rcases x with x | rfl
    · exact c'.tk a x
    · exact hn
  · rcases x with x | rfl
    · exact c.fresh b o e x
    · rw [c.up b o e] at hr; cases hr

/-- an exception on its way, of the state that P tells -/
def EE (env : Env) (outer : List Env) (s₀ : Shared) (C : Value → Prop) (P : Heap → Prop) (e : Value) (s' : Shared) : Prop :=
  ∃ h a t c, P h ∧ e = .ref a ∧ (t = none ∨ t = some (rawInt env.locals)) ∧ C c ∧ Kp (frs (env :: outer)) h s'.heap ∧ Xs h s'.heap a t c ∧ FrOk s'.heap (env :: outer) ∧ SameRest s₀ s'

theorem EE.noted {M : Model} {C : Value → Prop} {P : Heap → Prop} {a : Addr} {Q : Unit → Shared → Prop} (hfr : A.frames = some (env :: outer)) {e : Value} {s' : Shared} (x : EE env outer s₀ C P e s')
    (hQ : ∀ h h' a c, e = .ref a → P h → C c → Kp (frs (env :: outer)) h h' → Xs h h' a (some (rawInt env.locals)) c → FrOk h' (env :: outer) → SameRest s₀ { s' with heap := h' } → Q () { s' with heap := h' }) :
    wpAny M A (noteFrame e env) Q E s' := by
  obtain ⟨h, a, t, c, hP, rfl, ht, hC, k, xs, fo, sr⟩ := x
  rcases ht with rfl | rfl
  · refine note_new hfr fo k xs fun h' k' x' fo' => hQ h h' a c rfl hP hC k' x' fo' ?_
    exact sr.trans ⟨h', s'.toks, rfl⟩
  · exact note_again (fo.ok env (.head _)).2.1 xs (hQ h s'.heap a c rfl hP hC k xs fo sr)

theorem EE.passes {M : Model} {A' : Around} {C : Value → Prop} {P : Heap → Prop} (hfr : A'.frames = some (env :: outer)) {e : Value} {s' : Shared} (x : EE env outer s₀ C P e s') : notedBy M A' env (cameBackBy M A env (EE env outer s₀ C P)) e s' := by
  refine EE.noted (a := 0) hfr x fun h h' a c ea hP hC k xs fo sr => ?_
  subst ea
  obtain ⟨n, oe, vs, he, hc, hd, h2, T, oT, ts, h1, r⟩ := id xs
  unfold cameBackBy
  refine wpAny_bind (wpAny_field he hd h1 ?_)
  show wpAny M A (setFlight (Value.ref a) env.frame) _ _ _
  rw [(fo.ok env (.head _)).2.1]
  exact flight (h := h) fo k xs fun h'' k' x' fo' => ⟨h, a, _, c, hP, rfl, .inr rfl, hC, k', x', fo', sr.trans ⟨h'', s'.toks, rfl⟩⟩

theorem EE.mono {C C' : Value → Prop} {P P' : Heap → Prop} {e : Value} {s' s₁ : Shared} (x : EE env outer s₀ C P e s') (hC : ∀ c, C c → C' c) (hP : ∀ h, P h → P' h) (hs : SameRest s₁ s₀) : EE env outer s₁ C' P' e s' := by
  obtain ⟨h, a, t, c, a1, a2, a3, a4, a5, a6, a7, a8⟩ := x
  exact ⟨h, a, t, c, hP _ a1, a2, a3, hC _ a4, a5, a6, a7, hs.trans a8⟩

theorem item_out {l : Addr} {items : Array Value} {j : Nat} {t : Tok} {Q : Value → Shared → Prop} (hA : HOk A s.heap) (hl : s.heap.IsList l items) (hout : items.size ≤ j) (hhi : j < 2 ^ 62)
    (hE : ∀ h' tk e c, Up s.heap h' → (A.handled = none → c = .none) → Xs s.heap h' e none c → E (.ref e) { s with heap := h', toks := tk }) :
    wpAny (model prog w) A (getItem (.ref l) (.int (j : Int) t)) Q E s := by
  have fits := fitsIndex_both (k := (j : Int)) (by omega) (by omega)
  clear hhi
  obtain ⟨k, at_k⟩ : ∃ k : Int, (j : Int) = k := ⟨_, rfl⟩
  rw [at_k] at fits ⊢
  have none_at : items[j]? = none := Array.getElem?_eq_none hout
  have ty := hl.typeIs
  obtain ⟨o, ho, _, ne, hd⟩ := hl
  have past : ∀ {α : Type} {k : Option (Nat × Value) → Sem α} {Q' : α → Shared → Prop} {E' : Value → Shared → Prop}, wpAny (model prog w) A.in1 (k none) Q' E' s → wpAny (model prog w) A.in1 ((seqItemAt l j >>= fun r => pure (r.map (j, ·))) >>= k) Q' E' s := fun h =>
    wpAny_bind (wpAny_bind (wpAny_seqItemAt ho hd (wpAny_pure (by rw [none_at]; exact h))))
  unfold getItem
  refine wpAny_holding (wpAny_bind (wpAny_sequenceKey ty (by decide) ?_))
  refine wpAny_bind (wpAny_callSpecial?_slot ty slot_list_getitem (wpAny_call_entry slot_list_getitem ty entry_list_getitem ?_ (args_list_getitem _ _)))
  refine wpAny_bind (m := Builtin.List.listSubscript? _) (wpAny_listSubscript_int fits ?_)
  subst at_k
  exact past (wpAny_bind (wpAny_rule (wpAny_bind (raise_new (A := A.in1) hA hE))))

/-- where the run of x from the place i on ends -/
def runTo (xs : List Int) (i : Nat) (x : Int) : Nat := i + ((xs.drop i).takeWhile (· == x)).length
theorem runTo_le {xs : List Int} {i : Nat} {x : Int} (h : i ≤ xs.length) : runTo xs i x ≤ xs.length := by
  have := (List.takeWhile_sublist (p := fun y => y == x) (l := xs.drop i)).length_le
  simp at this
  unfold runTo; omega
theorem runTo_end {xs : List Int} {x : Int} : runTo xs xs.length x = xs.length := by simp [runTo]
theorem runTo_eq {xs : List Int} {i : Nat} {x : Int} (h : xs[i]? = some x) : runTo xs i x = runTo xs (i + 1) x := by
  have hi : i < xs.length := (List.getElem?_eq_some_iff.mp h).1
  have hx : xs[i] = x := (List.getElem?_eq_some_iff.mp h).2
  unfold runTo
  rw [List.drop_eq_getElem_cons hi, hx]
  simp [List.takeWhile_cons]; omega
theorem runTo_ne {xs : List Int} {i : Nat} {x y : Int} (h : xs[i]? = some y) (hn : y ≠ x) : runTo xs i x = i := by
  have hi : i < xs.length := (List.getElem?_eq_some_iff.mp h).1
  have hx : xs[i] = y := (List.getElem?_eq_some_iff.mp h).2
  unfold runTo
  rw [List.drop_eq_getElem_cons hi, hx]
  simp [List.takeWhile_cons, hn]

theorem run_loop {l k v : Str} {pl pk pv ps pc pw pk2 po pp : Pos} {ko : Nat} {xs : List Int} {x : Int} (hsz : xs.length < 2 ^ 60) (hfr : A.frames = some (env :: outer)) (hF : ∀ b ∈ frs (env :: outer), X b) (hkl : k ≠ l) (hkv : k ≠ v) (hkk : env.kindOf k = some .local)
    (dl : (l == ("__debug__" : Str)) = false) (dk : (k == ("__debug__" : Str)) = false) (dv : (v == ("__debug__" : Str)) = false) :
    ∀ (n i : Nat) (s : Shared), xs.length - i = n → i ≤ xs.length → Cx hb X env ρ s.heap → ρ.lookup l = some (.dat (.list (xs.map .int))) → ρ.lookup k = some (.dat (.int (i : Int))) → ρ.lookup v = some (.dat (.int x)) →
    (∀ h', Only env s.heap h' → (∃ m, h'.Ns env.locals m) → HOk A h' ∧ FrOk h' (env :: outer)) → ∀ {Q : Flow → Shared → Prop},
    (∀ s', runTo xs i x < xs.length → Cx hb X env ((k, .dat (.int (runTo xs i x : Int))) :: ρ) s'.heap → Only env s.heap s'.heap → SameRest s s' → Q .next s') →
    (∀ e s', runTo xs i x = xs.length → EE env outer s (fun c => A.handled = none → c = .none) (fun h => Cx hb X env ((k, .dat (.int (xs.length : Int))) :: ρ) h ∧ Only env s.heap h) e s' → E e s') →
    wpAny (model prog w) A (exec (.While (.Compare (.Subscript (.Name l pl) (.Name k pk) ps) [.Eq] [.Name v pv] pc) [.AugAssign (.Name k pk2) .Add (.Constant (.int 1) ko po) pp] [] pw) env) Q E s := by
  intro n i s hn hi c hl hk hv hok Q hQ hE
  refine wpAny_While ?_
  -- what holds at each turn's start
  let J : Nat → Shared → Prop := fun m s' => ∃ i', m = xs.length - i' ∧ i' ≤ xs.length ∧ runTo xs i x = runTo xs i' x ∧ Cx hb X env ((k, .dat (.int (i' : Int))) :: ρ) s'.heap ∧ Only env s.heap s'.heap ∧ SameRest s s'
  have c0 : Cx hb X env ((k, .dat (.int (i : Int))) :: ρ) s.heap := ⟨c.wf, fun y z e => by
    rw [List.lookup_cons] at e
    by_cases hy : y = k
    · subst hy; simp at e; subst e; exact c.st _ _ hk
    · have : (y == k) = false := beq_eq_false_iff_ne.mpr hy
      rw [this] at e; exact c.st y z e, c.tk, c.up, c.fresh⟩
  refine codeAny_whileLoop J ?_ (xs.length - i) ⟨i, rfl, hi, rfl, c0, fun _ _ _ q => q, SameRest.refl s⟩
  rintro m s' ⟨i', rfl, hi', hr, c', on, sr⟩
  have hl' : ((k, VS.dat (.int (i' : Int))) :: ρ).lookup l = some (.dat (.list (xs.map .int))) := by
    rw [List.lookup_cons, beq_eq_false_iff_ne.mpr (Ne.symm hkl)]; exact hl
  have hv' : ((k, VS.dat (.int (i' : Int))) :: ρ).lookup v = some (.dat (.int x)) := by
    rw [List.lookup_cons, beq_eq_false_iff_ne.mpr (Ne.symm hkv)]; exact hv
  have hk' : ((k, VS.dat (.int (i' : Int))) :: ρ).lookup k = some (.dat (.int (i' : Int))) := by simp
  have hkf := c.wf.kind
  by_cases hlt : i' < xs.length
  · -- within: the test is reckoned
    obtain ⟨y, hy⟩ : ∃ y, xs[i']? = some y := ⟨_, List.getElem?_eq_getElem hlt⟩
    have hd : (xs.map PyData.int)[((i' : Int)).toNat]? = some (.int y) := by rw [List.getElem?_map, Int.toNat_natCast, hy]; rfl
    refine tst_cmp (X := X) (I := Cx hb X env ((k, .dat (.int (i' : Int))) :: ρ)) (b := y == x) keepsOk cx_up (ev_item (X := X) (i := (i' : Int)) (xs := xs.map .int) (d := .int y) keepsOk cx_up (ev_var (z := .dat (.list (xs.map .int))) keepsOk (fun _ c => c) hkf hl' dl) (ev_var (z := .dat (.int (i' : Int))) keepsOk (fun _ c => c) hkf hk' dk) (by omega) (by omega) hd) (ev_var (z := .dat (.int x)) keepsOk (fun _ c => c) hkf hv' dv) (upRd _) (op_eqi keepsOk) (by with_unfolding_all rfl) s' c' _ _ fun s₂ r₂ => ?_
    have c2 := cx_up _ _ (keepsOk.up r₂) c'
    have on2 : Only env s.heap s₂.heap := on.tr (Only.of_up (keepsOk.up r₂))
    have sr2 : SameRest s s₂ := sr.trans (rfK.of r₂)
    by_cases hyx : y = x
    · subst hyx
      rw [show (y == y) = true by simp]
      simp only [if_true]
      refine wpAny_execs_cons (ex_aug rfK c2 (.inl hkk) hk' (ev_int (X := X) keepsOk) fun s₃ c3 o3 f3 => wpAny_execs_nil ?_)
      refine ⟨xs.length - (i' + 1), by omega, i' + 1, rfl, hlt, by rw [hr]; exact runTo_eq hy, ?_, on2.tr o3, sr2.trans f3⟩
      refine ⟨c3.wf, fun y' z e => c3.st y' z ?_, c3.tk, c3.up, c3.fresh⟩
      rw [List.lookup_cons] at e ⊢
      by_cases hyk : y' = k
      · subst hyk; simp at e ⊢; rw [← e]
      · have q : (y' == k) = false := beq_eq_false_iff_ne.mpr hyk
        rw [q] at e ⊢
        show ((k, _) :: ρ).lookup y' = _
        rw [List.lookup_cons, q]; exact e
    · rw [show (y == x) = false by simp [hyx]]
      simp only [Bool.false_eq_true, if_false]
      refine wpAny_execs_nil ?_
      have he : runTo xs i x = i' := by rw [hr]; exact runTo_ne hy hyx
      exact hQ s₂ (by rw [he]; exact hlt) (by rw [he]; exact c2) on2 sr2
  · -- at the end: it raises
    have hie : i' = xs.length := by omega
    subst hie
    have he : runTo xs i x = xs.length := by rw [hr]; exact runTo_end
    obtain ⟨hk1, fo1⟩ := hok s'.heap on c'.wf.loc
    refine wpAny_isTrue_Compare1 ?_ (by with_unfolding_all rfl)
    refine Subscript_ ?_
    refine ev_seq2 (P₁ := fun h v => Rd X h v (.list (xs.map .int))) (P₂ := fun h v => Rd X h v (.int (xs.length : Int))) keepsOk cx_up (ev_var (z := .dat (.list (xs.map .int))) keepsOk (fun _ c => c) hkf hl' dl) (ev_var (z := .dat (.int (xs.length : Int))) keepsOk (fun _ c => c) hkf hk' dk) (upRd _) c' fun lv kv s₂ r₂ p q => ?_
    have c2 := cx_up _ _ (keepsOk.up r₂) c'
    have on2 : Only env s.heap s₂.heap := on.tr (Only.of_up (keepsOk.up r₂))
    have sr2 : SameRest s s₂ := sr.trans (rfK.of r₂)
    obtain ⟨b, vs, nn, rfl, hb', ho, hll⟩ := p.list_inv
    obtain ⟨t, rfl⟩ := q.int_inv
    have hlen : vs.size = xs.length := by
      have := hll.length; simpa using this
    have hL : s₂.heap.IsList b vs := ⟨_, ho, rfl, nn, rfl⟩
    obtain ⟨hk2, fo2⟩ := hok s₂.heap on2 c2.wf.loc
    refine subscriptTail_builtin hL.typeIs slot_list_getitem.lookup (item_out hk2 hL (by rw [hlen]; exact Nat.le_refl _) (by omega) fun h' tk e c up hc xs' => ?_) (by with_unfolding_all rfl) (fun r => by with_unfolding_all rfl)
    have ee : EE env outer s (fun c => A.handled = none → c = .none) (fun h => Cx hb X env ((k, .dat (.int (xs.length : Int))) :: ρ) h ∧ Only env s.heap h) (.ref e) { s₂ with heap := h', toks := tk } :=
      ⟨s₂.heap, e, none, c, ⟨c2, on2⟩, rfl, .inl rfl, hc, Kp.of_up up, xs', fo2.kp (Kp.of_up (F := []) up), sr2.trans ⟨h', tk, rfl⟩⟩
    have z := EE.passes (M := model prog w) (A := A) hfr ee
    refine wpAny_mono z (fun _ s₃ z₃ => ?_) fun e' s₃ z₃ => ?_
    · exact wpAny_mono z₃ (fun _ s₄ z₄ => hE _ s₄ he z₄) fun e' s₄ z₄ => hE _ s₄ he z₄
    · exact wpAny_mono z₃ (fun _ s₄ z₄ => hE _ s₄ he z₄) fun e' s₄ z₄ => hE _ s₄ he z₄
end
end Mine
end

/-! part E3 -/
section
open PySem PySem.W PySem.Spec PySem.Calls PyProof.Rows
set_option Elab.async false
set_option linter.unusedVariables false
set_option maxRecDepth 100000
namespace Mine

/-- what the two lists have that the other has not -/
inductive Sld : List Int → List Int → List Int → List Int → Prop
  | nilL {ys} : Sld [] ys [] ys
  | nilR {xs} : Sld xs [] xs []
  | lt {x y xs ys M U} : x < y → Sld (xs.dropWhile (· == x)) (y :: ys) M U → Sld (x :: xs) (y :: ys) (x :: M) U
  | gt {x y xs ys M U} : y < x → Sld (x :: xs) (ys.dropWhile (· == y)) M U → Sld (x :: xs) (y :: ys) M (y :: U)
  | eq {x xs ys M U} : Sld (xs.dropWhile (· == x)) (ys.dropWhile (· == x)) M U → Sld (x :: xs) (x :: ys) M U
theorem Sld.nil_l {ys M U} (h : Sld [] ys M U) : M = [] ∧ U = ys := by cases h <;> exact ⟨rfl, rfl⟩
theorem Sld.nil_r {xs M U} (h : Sld xs [] M U) : M = xs ∧ U = [] := by cases h <;> exact ⟨rfl, rfl⟩
theorem Sld.len {xs ys M U} (h : Sld xs ys M U) : M.length ≤ xs.length ∧ U.length ≤ ys.length := by
  induction h with
  | nilL => simp
  | nilR => simp
  | @lt x y xs ys M U _ _ ih =>
    have := (List.dropWhile_sublist (p := fun z => z == x) (l := xs)).length_le
    simp at ih ⊢; omega
  | @gt x y xs ys M U _ _ ih =>
    have := (List.dropWhile_sublist (p := fun z => z == y) (l := ys)).length_le
    simp at ih ⊢; omega
  | @eq x xs ys M U _ ih =>
    have h1 := (List.dropWhile_sublist (p := fun z => z == x) (l := xs)).length_le
    have h2 := (List.dropWhile_sublist (p := fun z => z == x) (l := ys)).length_le
    simp at ih ⊢; omega
theorem drop_run (xs : List Int) (i : Nat) (x : Int) : (xs.drop i).dropWhile (· == x) = xs.drop (runTo xs i x) := by
  unfold runTo
  rw [← List.drop_drop]
  have : ∀ l : List Int, l.dropWhile (· == x) = l.drop (l.takeWhile (· == x)).length := by
    intro l
    induction l with
    | nil => rfl
    | cons a r ih =>
      by_cases h : (a == x) = true
      · rw [List.dropWhile_cons, List.takeWhile_cons, if_pos h, if_pos h, ih]; rfl
      · rw [List.dropWhile_cons, List.takeWhile_cons, if_neg h, if_neg h]; rfl
  exact this _

/-- a list of ints that the frame owns -/
def LI (h : Heap) (r : Addr) (ms : List Int) : Prop := ∃ vs : Array Value, h.PlainList r vs ∧ IntsAre vs.toList ms
theorem LI.at {h h' r ms} (x : LI h r ms) (k : ∀ o, h.get? r = some o → h'.get? r = some o) : LI h' r ms := let ⟨vs, p, i⟩ := x; ⟨vs, p.at k, i⟩
theorem ints_len : ∀ {vs : List Value} {ms : List Int}, IntsAre vs ms → vs.length = ms.length
  | _, _, .nil => rfl
  | _, _, .cons _ _ r => by simp [ints_len r]
theorem ints_app : ∀ {vs us : List Value} {ms ns : List Int}, IntsAre vs ms → IntsAre us ns → IntsAre (vs ++ us) (ms ++ ns)
  | _, _, _, _, .nil, y => y
  | _, _, _, _, .cons i t r, y => .cons i t (ints_app r y)
theorem LI.len {h r ms} (x : LI h r ms) : ∃ vs : Array Value, h.PlainList r vs ∧ IntsAre vs.toList ms ∧ vs.size = ms.length := let ⟨vs, p, i⟩ := x; ⟨vs, p, i, by have := ints_len i; simpa using this⟩

abbrev lEnv (L f : Addr) (cd : Value) : Env := envOf (dOf 1).name (dOf 1).scope L f cd
def lρ (xs ys : List Int) (r1 r2 : Addr) (i j : Nat) : List (Str × VS) :=
  [("i", .dat (.int (i : Int))), ("j", .dat (.int (j : Int))), ("missing", .val (.ref r1)), ("unexpected", .val (.ref r2)), ("expected", .dat (.list (xs.map .int))), ("actual", .dat (.list (ys.map .int)))]

/-- how the objects lie: its own, the stack's -/
structure Own3 (X : Addr → Prop) (h₀ : Heap) (outer : List Env) (L r1 r2 : Addr) : Prop where
  x : X L ∧ X r1 ∧ X r2
  n0 : h₀.get? L = none ∧ h₀.get? r1 = none ∧ h₀.get? r2 = none
  ne : r1 ≠ L ∧ r2 ≠ L ∧ r1 ≠ r2
  fo : FrOk h₀ outer
  fx : ∀ b ∈ frs outer, X b
theorem Own3.out {X h₀ outer L r1 r2} (o : Own3 X h₀ outer L r1 r2) {b} (hb : b ∈ frs outer) : b ≠ L ∧ b ≠ r1 ∧ b ≠ r2 := by
  obtain ⟨m, n⟩ := o.fo.mem hb
  obtain ⟨ob, _, _, h1, _⟩ := n
  refine ⟨?_, ?_, ?_⟩ <;> rintro rfl
  · rw [o.n0.1] at h1; cases h1
  · rw [o.n0.2.1] at h1; cases h1
  · rw [o.n0.2.2] at h1; cases h1
theorem Own3.old {X h₀ outer L r1 r2} (o : Own3 X h₀ outer L r1 r2) {b ob} (hb : h₀.get? b = some ob) : b ≠ L ∧ b ≠ r1 ∧ b ≠ r2 := by
  refine ⟨?_, ?_, ?_⟩ <;> rintro rfl
  · rw [o.n0.1] at hb; cases hb
  · rw [o.n0.2.1] at hb; cases hb
  · rw [o.n0.2.2] at hb; cases hb
theorem Own3.grow {X h₀ outer L r1 r2 a} (o : Own3 X h₀ outer L r1 r2) : Own3 (fun b => X b ∨ b = a) h₀ outer L r1 r2 := ⟨⟨.inl o.x.1, .inl o.x.2.1, .inl o.x.2.2⟩, o.n0, o.ne, o.fo, fun b hb => .inl (o.fx b hb)⟩

/-- what stands at any time within the loop -/
structure SH (hb : Heap) (X : Addr → Prop) (env : Env) (outer : List Env) (h₀ : Heap) (r1 r2 : Addr) (ρ : List (Str × VS)) (mM mU : List Int) (h : Heap) : Prop where
  cx : Cx hb X env ρ h
  l1 : LI h r1 mM
  l2 : LI h r2 mU
  kp : Kp (frs outer) h₀ h
  fo : FrOk h outer
section
variable {hb h₀ h h' : Heap} {X : Addr → Prop} {outer : List Env} {L r1 r2 f : Addr} {cd : Value} {ρ ρ' : List (Str × VS)} {mM mU : List Int}
theorem SH.full (x : SH hb X (lEnv L f cd) outer h₀ r1 r2 ρ mM mU h) : FrOk h (lEnv L f cd :: outer) := ⟨fun e he => by
  rcases List.mem_cons.mp he with rfl | he
  · exact ⟨rfl, rfl, x.cx.wf.loc⟩
  · exact x.fo.ok e he⟩
/-- names are bound -/
theorem SH.only (x : SH hb X (lEnv L f cd) outer h₀ r1 r2 ρ mM mU h) (o : Own3 X h₀ outer L r1 r2) (c : Cx hb X (lEnv L f cd) ρ' h') (on : Only (lEnv L f cd) h h') : SH hb X (lEnv L f cd) outer h₀ r1 r2 ρ' mM mU h' := by
  have k : ∀ b ob, b ≠ L → h.get? b = some ob → h'.get? b = some ob := fun b ob hn q => on b ob (fun z => hn (fb_plain.mp z)) q
  refine ⟨c, x.l1.at fun ob q => k _ _ o.ne.1 q, x.l2.at fun ob q => k _ _ o.ne.2.1 q, ⟨fun b ob n q => k b ob (o.old q).1 (x.kp.off b ob n q), fun b ob n q => let ⟨sl, q'⟩ := x.kp.on b ob n q; ⟨sl, k b _ (o.old q).1 q'⟩⟩, ⟨fun e he => ?_⟩⟩
  obtain ⟨a, b, m, n⟩ := x.fo.ok e he
  refine ⟨a, b, m, n.at' fun ob q => k _ ob (o.out (List.mem_filterMap.mpr ⟨e, he, b⟩)).1 q⟩
theorem SH.up (x : SH hb X (lEnv L f cd) outer h₀ r1 r2 ρ mM mU h) (o : Own3 X h₀ outer L r1 r2) (k : Up h h') : SH hb X (lEnv L f cd) outer h₀ r1 r2 ρ mM mU h' := x.only o (cx_up _ _ k x.cx) (Only.of_up k)
theorem SH.sub (x : SH hb X (lEnv L f cd) outer h₀ r1 r2 ρ mM mU h) (hs : ∀ p ∈ ρ', ρ.lookup p.1 = some p.2) : SH hb X (lEnv L f cd) outer h₀ r1 r2 ρ' mM mU h := { x with cx := x.cx.sub hs }
/-- one of its lists is written -/
theorem SH.write1 (x : SH hb X (lEnv L f cd) outer h₀ r1 r2 ρ mM mU h) (o : Own3 X h₀ outer L r1 r2) (c : Cx hb X (lEnv L f cd) ρ' h') (k : ∀ b ob, b ≠ r1 → h.get? b = some ob → h'.get? b = some ob) {ms : List Int} (l : LI h' r1 ms) : SH hb X (lEnv L f cd) outer h₀ r1 r2 ρ' ms mU h' := by
  refine ⟨c, l, x.l2.at fun ob q => k _ _ (Ne.symm o.ne.2.2) q, ⟨fun b ob n q => k b ob (o.old q).2.1 (x.kp.off b ob n q), fun b ob n q => let ⟨sl, q'⟩ := x.kp.on b ob n q; ⟨sl, k b _ (o.old q).2.1 q'⟩⟩, ⟨fun e he => ?_⟩⟩
  obtain ⟨a, b, m, n⟩ := x.fo.ok e he
  refine ⟨a, b, m, n.at' fun ob q => k _ ob (o.out (List.mem_filterMap.mpr ⟨e, he, b⟩)).2.1 q⟩
theorem SH.write2 (x : SH hb X (lEnv L f cd) outer h₀ r1 r2 ρ mM mU h) (o : Own3 X h₀ outer L r1 r2) (c : Cx hb X (lEnv L f cd) ρ' h') (k : ∀ b ob, b ≠ r2 → h.get? b = some ob → h'.get? b = some ob) {ms : List Int} (l : LI h' r2 ms) : SH hb X (lEnv L f cd) outer h₀ r1 r2 ρ' mM ms h' := by
  refine ⟨c, x.l1.at fun ob q => k _ _ o.ne.2.2 q, l, ⟨fun b ob n q => k b ob (o.old q).2.2 (x.kp.off b ob n q), fun b ob n q => let ⟨sl, q'⟩ := x.kp.on b ob n q; ⟨sl, k b _ (o.old q).2.2 q'⟩⟩, ⟨fun e he => ?_⟩⟩
  obtain ⟨a, b, m, n⟩ := x.fo.ok e he
  refine ⟨a, b, m, n.at' fun ob q => k _ ob (o.out (List.mem_filterMap.mpr ⟨e, he, b⟩)).2.2 q⟩
theorem frs_cons : frs (lEnv L f cd :: outer) = L :: frs outer := rfl
/-- the frames' slots turn -/
theorem SH.kpF (x : SH hb X (lEnv L f cd) outer h₀ r1 r2 ρ mM mU h) (o : Own3 X h₀ outer L r1 r2) (k : Kp (frs (lEnv L f cd :: outer)) h h') : SH hb X (lEnv L f cd) outer h₀ r1 r2 ρ mM mU h' := by
  have nf : ∀ b, b ≠ L → b ∉ frs outer → b ∉ frs (lEnv L f cd :: outer) := fun b h1 h2 z => by
    rw [frs_cons] at z
    rcases List.mem_cons.mp z with z | z
    · exact h1 z
    · exact h2 z
  have r1n : r1 ∉ frs (lEnv L f cd :: outer) := nf _ o.ne.1 fun z => (o.out z).2.1 rfl
  have r2n : r2 ∉ frs (lEnv L f cd :: outer) := nf _ o.ne.2.1 fun z => (o.out z).2.2 rfl
  refine ⟨cx_kp x.cx k (fun b hb => ?_) fun b hb n e => (by cases e), x.l1.at fun ob q => k.off _ _ r1n q, x.l2.at fun ob q => k.off _ _ r2n q, ⟨fun b ob n q => k.off b ob (nf b (o.old q).1 n) (x.kp.off b ob n q), fun b ob n q => let ⟨sl, q'⟩ := x.kp.on b ob n q; let ⟨sl', q2⟩ := k.data q'; ⟨sl', q2⟩⟩, x.fo.kp k⟩
  rw [frs_cons] at hb
  rcases List.mem_cons.mp hb with rfl | z
  · exact o.x.1
  · exact o.fx b z
/-- a new object is made its own -/
theorem SH.grow (x : SH hb X (lEnv L f cd) outer h₀ r1 r2 ρ mM mU h) (o : Own3 X h₀ outer L r1 r2) (k : Kp (frs (lEnv L f cd :: outer)) h h') {a : Addr} (ha : h.get? a = none) (hn : (h'.get? a).isSome = true) : SH hb (fun b => X b ∨ b = a) (lEnv L f cd) outer h₀ r1 r2 ρ mM mU h' := by
  have y := x.kpF o k
  refine ⟨cx_growK x.cx k (fun b hb => ?_) (fun b hb n e => by cases e) ha hn, y.l1, y.l2, y.kp, y.fo⟩
  rw [frs_cons] at hb
  rcases List.mem_cons.mp hb with rfl | z
  · exact o.x.1
  · exact o.fx b z
/-- another object of its own turns -/
theorem SH.own (x : SH hb X (lEnv L f cd) outer h₀ r1 r2 ρ mM mU h) (o : Own3 X h₀ outer L r1 r2) {a : Addr} (xa : X a) (n0 : h₀.get? a = none) (na : a ≠ L ∧ a ≠ r1 ∧ a ≠ r2) (nf : a ∉ frs outer) (k : ∀ b ob, b ≠ a → h.get? b = some ob → h'.get? b = some ob) (hn : (h'.get? a).isSome = true) : SH hb X (lEnv L f cd) outer h₀ r1 r2 ρ mM mU h' := by
  have old : ∀ b ob, h₀.get? b = some ob → b ≠ a := fun b ob q e => by rw [e, n0] at q; cases q
  refine ⟨cx_other x.cx (fun b ob hb q => k b ob ?_ q) (fun b xb => ?_), x.l1.at fun ob q => k _ _ (Ne.symm na.2.1) q, x.l2.at fun ob q => k _ _ (Ne.symm na.2.2) q, ⟨fun b ob n q => k b ob (old b ob q) (x.kp.off b ob n q), fun b ob n q => let ⟨sl, q'⟩ := x.kp.on b ob n q; ⟨sl, k b _ (old b ob q) q'⟩⟩, ⟨fun e he => ?_⟩⟩
  · rintro rfl
    rcases hb with z | z
    · exact na.1 (fb_plain.mp z)
    · exact z xa
  · by_cases e : b = a
    · rw [e]; exact hn
    · obtain ⟨ob, q⟩ := Option.isSome_iff_exists.mp (x.cx.tk b xb)
      rw [k b ob e q]; rfl
  · obtain ⟨p, q, m, n⟩ := x.fo.ok e he
    refine ⟨p, q, m, n.at' fun ob z => k _ ob (fun e' => nf ?_) z⟩
    rw [← e']; exact List.mem_filterMap.mpr ⟨e, he, q⟩
end
end Mine
end

/-! part E4 -/
section
open PySem PySem.W PySem.Spec PySem.Calls PyProof.Rows
set_option Elab.async false
set_option linter.unusedVariables false
set_option maxRecDepth 100000
namespace Mine
section
variable {prog : Program} {w : World} {A : Around} {env : Env} {R F : Shared → Shared → Prop} {hb : Heap} {X : Addr → Prop} {ρ : List (Str × VS)} {s : Shared} {E : Value → Shared → Prop}

/-- r.extend(e) upon a list of the frame's own -/
theorem ex_extend {l : Str} {e : Expr} {r : Addr} {vs : Array Value} {ds : List PyData} {p apos pos pos2 : Pos} {pl : Sem Bool} {Q : Flow → Shared → Prop} (rf : RF R F) (c : Cx hb X env ρ s.heap) (hl : ρ.lookup l = some (.val (.ref r))) (hr : X r ∧ ¬ Fb env r) (hp : s.heap.PlainList r vs) (hsz : vs.size + ds.length ≤ sizeLine)
    (he : Ev prog w A R env (Cx hb X env ρ) e (fun h v => Rd X h v (.list ds))) (h : ∀ us s₁ s', R s s₁ → RdL X s₁.heap us ds → s'.heap.PlainList r (vs.toList ++ us).toArray → Heap.SameBut r s₁.heap s'.heap → Cx hb X env ρ s'.heap → F s s' → Q .next s')
    (hm : eval (.Call (.Attribute (.Name l p) "extend" apos) [e] [] pos) env = (do
      let ov ← eval (.Name l p) env
      standAt apos.atName
      let (f, first) ← holding [ov] (getMethod ov "extend" pl)
      callWith pos f first (backTo pos (starEach [e] env)) []) := by rfl)
    (hse : starEach [e] env = (false, eval e env) :: starEach [] env := by rfl) (hd : (l == ("__debug__" : Str)) = false := by decide)
    (hi : interactive env = false := by rfl) (hs : swapsWith (.Call (.Attribute (.Name l p) "extend" apos) [e] [] pos) none pos2.line env = pure false := by rfl) :
    wpAny (model prog w) A (exec (.Expr (.Call (.Attribute (.Name l p) "extend" apos) [e] [] pos) pos2) env) Q E s := by
  refine wpAny_Expr ?_ hi hs
  obtain ⟨v, hv, hz⟩ := c.st l _ hl
  change v = .ref r at hz
  subst hz
  obtain ⟨n, ho⟩ := id hp
  refine MethodCall_ (wpAny_Name (loadSees c.wf.kind hv (getMethod_builtin (s := s) ⟨_, ho, rfl⟩ PySem.F.plainAttrs_list PySem.F.slot_list_extend PySem.F.type_list_extend (fun a e => by cases e; exact ⟨_, ho, rfl⟩) (callWith_method1 (spliced_more (he s c _ _ fun u s₁ r₁ pu => spliced_none ?_) hse) hse))) hd) hm
  obtain ⟨b, us, n2, rfl, hb', ho2, hl2⟩ := pu.list_inv
  have hp1 : s₁.heap.PlainList r vs := hp.at fun o q => rf.ok.up r₁ r o q
  obtain ⟨n1, ho1⟩ := id hp1
  have hlen : us.size = ds.length := by rw [← hl2.length]; simp
  have hz : vs.size + us.size ≤ sizeLine := by rw [hlen]; exact hsz
  have hf : (Obj.mapSeq (fun x => x ++ us) (listObj vs n1)).isFreed = false := by rw [mapSeq_app]; rfl
  have k : ∀ b o, b ≠ r → s₁.heap.get? b = some o → (s₁.heap.update r (Obj.mapSeq fun x => x ++ us)).get? b = some o := fun b o hb q => (Heap.get?_update_other _ _ (Ne.symm hb)).trans q
  have hr2 : (s₁.heap.update r (Obj.mapSeq fun x => x ++ us)).get? r = some (Obj.mapSeq (fun x => x ++ us) (listObj vs n1)) := Heap.get?_update_self _ ho1 hf
  refine call_meets PySem.F.slot_list_extend ⟨_, ho1, rfl⟩ PySem.F.entry_list_extend (PySem.F.args_list_extend_2 _ _) (AutoSeq1.list_extend_list_list_0 r vs n1 b us n2 (extend_door hz) (Nat.le_trans (Nat.le_add_right _ _) hz)) ⟨ho1, ho2, ?_⟩
  refine h us.toList s₁ { s₁ with heap := s₁.heap.update r (Obj.mapSeq fun x => x ++ us) } r₁ hl2 ?_ (Heap.SameBut.update ..) (cx_other (cx_up _ _ (rf.ok.up r₁) c) (fun b o hb q => k b o (fun e => ?_) q) fun b xb => ?_) (rf.trans (rf.of r₁) (rf.heap s₁ _ _))
  · rw [mapSeq_app] at hr2
    have : (vs.toList ++ us.toList).toArray = vs ++ us := by simp
    rw [this]
    exact ⟨_, hr2⟩
  · subst e
    rcases hb with hb | hb
    · exact hr.2 hb
    · exact hb hr.1
  · by_cases hb : b = r
    · subst hb
      rw [hr2]; rfl
    · obtain ⟨o, ho'⟩ := Option.isSome_iff_exists.mp (((c.tk).up (rf.ok.up r₁)) b xb)
      rw [k b o hb ho']; rfl

/-- an item asked for behind the end -/
theorem sub_out {l k : Str} {pl pk ps : Pos} {xs : List Int} {C : Value → Prop} {outer : List Env} (hsz : xs.length < 2 ^ 60) (c : Cx hb X env ρ s.heap) (hl : ρ.lookup l = some (.dat (.list (xs.map .int)))) (hk : ρ.lookup k = some (.dat (.int (xs.length : Int))))
    (hok : ∀ h', Up s.heap h' → (∃ m, h'.Ns env.locals m) → HOk A h' ∧ FrOk h' (env :: outer)) (hC : ∀ c, (A.handled = none → c = .none) → C c) {Q : Value → Shared → Prop}
    (hE : ∀ e s', EE env outer s C (fun h => Up s.heap h) e s' → E e s')
    (dl : (l == ("__debug__" : Str)) = false := by decide) (dk : (k == ("__debug__" : Str)) = false := by decide) :
    wpAny (model prog w) A (eval (.Subscript (.Name l pl) (.Name k pk) ps) env) Q E s := by
  refine Subscript_ ?_
  refine ev_seq2 (P₁ := fun h v => Rd X h v (.list (xs.map .int))) (P₂ := fun h v => Rd X h v (.int (xs.length : Int))) keepsOk cx_up (ev_var (z := .dat (.list (xs.map .int))) keepsOk (fun _ c => c) c.wf.kind hl dl) (ev_var (z := .dat (.int (xs.length : Int))) keepsOk (fun _ c => c) c.wf.kind hk dk) (upRd _) c fun lv kv s₂ r₂ p q => ?_
  have c2 := cx_up _ _ (keepsOk.up r₂) c
  obtain ⟨b, vs, nn, rfl, hb', ho, hll⟩ := p.list_inv
  obtain ⟨t, rfl⟩ := q.int_inv
  have hlen : vs.size = xs.length := by
    have := hll.length; simpa using this
  have hL : s₂.heap.IsList b vs := ⟨_, ho, rfl, nn, rfl⟩
  obtain ⟨hk2, fo2⟩ := hok s₂.heap (keepsOk.up r₂) c2.wf.loc
  refine subscriptTail_builtin hL.typeIs slot_list_getitem.lookup (item_out hk2 hL (by rw [hlen]; exact Nat.le_refl _) (by omega) fun h' tk e c up hc xs' => ?_) (by with_unfolding_all rfl) (fun r => by with_unfolding_all rfl)
  exact hE _ _ ⟨s₂.heap, e, none, c, keepsOk.up r₂, rfl, .inl rfl, hC c hc, Kp.of_up up, xs', fo2.kp (Kp.of_up (F := []) up), (rfK.of r₂).trans ⟨h', tk, rfl⟩⟩
end

section
variable {prog : Program} {w : World} {A : Around} {E : Value → Shared → Prop} {s s' : Shared} {hb h₀ : Heap} {X : Addr → Prop} {outer : List Env} {L r1 r2 f : Addr} {cd : Value} {ρ : List (Str × VS)} {mM mU M U xs ys : List Int} {i j : Nat}

/-- what the end of the loop leaves -/
def FinS (hb : Heap) (s : Shared) (L f : Addr) (cd : Value) (outer : List Env) (r1 r2 : Addr) (M U : List Int) (s' : Shared) : Prop :=
  ∃ X ρ, Own3 X s.heap outer L r1 r2 ∧ SH hb X (lEnv L f cd) outer s.heap r1 r2 ρ M U s'.heap ∧ ρ.lookup ("missing" : Str) = some (.val (.ref r1)) ∧ ρ.lookup ("unexpected" : Str) = some (.val (.ref r2)) ∧ SameRest s s'

/-- where an exception finds the loop -/
def OutP (hb : Heap) (X : Addr → Prop) (h₀ : Heap) (L f : Addr) (cd : Value) (outer : List Env) (r1 r2 : Addr) (xs ys M U : List Int) (h : Heap) : Prop :=
  ∃ ρ i j mM mU, SH hb X (lEnv L f cd) outer h₀ r1 r2 ρ mM mU h ∧ (∀ p ∈ lρ xs ys r1 r2 i j, ρ.lookup p.1 = some p.2) ∧ i ≤ xs.length ∧ j ≤ ys.length ∧ mM ++ xs.drop i = M ∧ mU ++ ys.drop j = U

theorem ints_map {h : Heap} {us : List Value} {ns : List Int} (x : RdL X h us (ns.map .int)) : IntsAre us ns := x.ints

def sldTry : List Stmt × List ExceptHandler := match (dOf 1).body with
  | [_, _, _, .While _ [.Try body hs _ _ _] _ _, _] => (body, hs)
  | _ => ([], [])
def sldSuite : List Stmt := match sldTry.2 with
  | [.ExceptHandler _ _ suite _] => suite
  | _ => []
theorem suite_run {Q : Flow → Shared → Prop} (hsz : M.length + xs.length ≤ 1000000 ∧ U.length + ys.length ≤ 1000000) (o : Own3 X s.heap outer L r1 r2) (x : OutP hb X s.heap L f cd outer r1 r2 xs ys M U s'.heap) (sr : SameRest s s')
    (hQ : ∀ s'', FinS hb s L f cd outer r1 r2 M U s'' → Q .brk s'') :
    wpAny (model prog w) A (execs sldSuite (lEnv L f cd)) Q E s' := by
  obtain ⟨ρ, i, j, mM, mU, sh, hρ, hi, hj, hM, hU⟩ := x
  have sh := sh.sub hρ
  have nf1 : ¬ Fb (lEnv L f cd) r1 := fun z => o.ne.1 (fb_plain.mp z)
  have nf2 : ¬ Fb (lEnv L f cd) r2 := fun z => o.ne.2.1 (fb_plain.mp z)
  obtain ⟨v1, pl1, i1, z1⟩ := sh.l1.len
  have l1 : mM.length + (xs.drop i).length = M.length := by rw [← hM]; simp
  have l2 : mU.length + (ys.drop j).length = U.length := by rw [← hU]; simp
  have szx : xs.length ≤ sizeLine := by rw [sizeLine_eq]; omega
  have szy : ys.length ≤ sizeLine := by rw [sizeLine_eq]; omega
  show wpAny _ _ (execs (_ :: _) _) _ _ s'
  refine wpAny_execs_cons (ex_extend (ds := (xs.drop i).map .int) rfK sh.cx (r := r1) rfl ⟨o.x.2.1, nf1⟩ pl1 (by rw [z1, sizeLine_eq, List.length_map]; omega) ?e1 fun us s₁ s₂ k₁ ru pl2 sb c2 fm => ?_)
  case e1 =>
    rw [List.map_drop]
    exact ev_from (X := X) (a := i) keepsOk cx_up Cx.taken (ev_var (z := .dat (.list (xs.map .int))) keepsOk (fun _ c => c) (by rfl) (by rfl) (by decide)) (ev_var (z := .dat (.int (i : Int))) keepsOk (fun _ c => c) (by rfl) (by rfl) (by decide)) (by rw [List.length_map]; exact szx)
  have sh1 := sh.up o (keepsOk.up k₁)
  have sh2 : SH hb X (lEnv L f cd) outer s.heap r1 r2 (lρ xs ys r1 r2 i j) M mU s₂.heap := sh1.write1 o c2 (fun b ob hn q => sb.extBut b ob hn q) ⟨_, pl2, by
    rw [← hM]; exact ints_app i1 ru.ints⟩
  obtain ⟨v2, pl3, i2, z2⟩ := sh2.l2.len
  show wpAny _ _ (execs (_ :: _) _) _ _ s₂
  refine wpAny_execs_cons (ex_extend (ds := (ys.drop j).map .int) rfK sh2.cx (r := r2) rfl ⟨o.x.2.2, nf2⟩ pl3 (by rw [z2, sizeLine_eq, List.length_map]; omega) ?e2 fun us s₃ s₄ k₃ ru pl4 sb c4 fm4 => ?_)
  case e2 =>
    rw [List.map_drop]
    exact ev_from (X := X) (a := j) keepsOk cx_up Cx.taken (ev_var (z := .dat (.list (ys.map .int))) keepsOk (fun _ c => c) (by rfl) (by rfl) (by decide)) (ev_var (z := .dat (.int (j : Int))) keepsOk (fun _ c => c) (by rfl) (by rfl) (by decide)) (by rw [List.length_map]; exact szy)
  have sh3 := sh2.up o (keepsOk.up k₃)
  have sh4 : SH hb X (lEnv L f cd) outer s.heap r1 r2 (lρ xs ys r1 r2 i j) M U s₄.heap := sh3.write2 o c4 (fun b ob hn q => sb.extBut b ob hn q) ⟨_, pl4, by
    rw [← hU]; exact ints_app i2 ru.ints⟩
  show wpAny _ _ (execs (_ :: _) _) _ _ s₄
  exact wpAny_execs_cons (wpAny_Break (hQ s₄ ⟨X, _, o, sh4, rfl, rfl, (sr.trans fm).trans fm4⟩))
end
end Mine
end

/-! part E5 -/
section
open PySem PySem.W PySem.Spec PySem.Calls PyProof.Rows
set_option Elab.async false
set_option linter.unusedVariables false
set_option maxRecDepth 100000
namespace Mine
section
variable {prog : Program} {w : World} {A : Around} {E : Value → Shared → Prop} {s s' : Shared} {hb h₀ h h' : Heap} {X : Addr → Prop} {outer : List Env} {L r1 r2 f a T : Addr} {cd fl : Value} {ρ : List (Str × VS)} {mM mU M U xs ys : List Int} {i j : Nat} {mg mb : Str → Option Value} {fa : Nat → Addr} {fc : Nat → Value}

theorem OutP.kpF (x : OutP hb X h₀ L f cd outer r1 r2 xs ys M U h) (o : Own3 X h₀ outer L r1 r2) (k : Kp (frs (lEnv L f cd :: outer)) h h') : OutP hb X h₀ L f cd outer r1 r2 xs ys M U h' :=
  let ⟨ρ, i, j, mM, mU, sh, r⟩ := x; ⟨ρ, i, j, mM, mU, sh.kpF o k, r⟩
theorem OutP.upb (x : OutP hb X h₀ L f cd outer r1 r2 xs ys M U h) : Up hb h := let ⟨_, _, _, _, _, sh, _⟩ := x; sh.cx.up

/-- the clause is taken up -/
theorem clause_run {Q : Flow → Shared → Prop} (gd : Gd hb mg mb fa fc) (hu : Up hb s'.heap) (ht : s'.TypeIs (.ref a) "IndexError")
    (k : wpAny (model prog w) (A.mark (some (.ref a))) (setFlight (.ref a) none) (fun _ s₂ => wpAny (model prog w) (A.mark (some (.ref a))) (execs sldSuite (lEnv L f cd)) Q (notedBy (model prog w) (A.mark (some (.ref a))) (lEnv L f cd) (cameBackBy (model prog w) A (lEnv L f cd) E)) s₂) (notedBy (model prog w) (A.mark (some (.ref a))) (lEnv L f cd) (cameBackBy (model prog w) A (lEnv L f cd) E)) s') :
    wpAny (model prog w) A (handleBy (.ref a) (lEnv L f cd) sldTry.2) Q E s' := by
  show wpAny _ A (handleBy (.ref a) (lEnv L f cd) (.ExceptHandler (some (.Name _ _)) none (_ :: _) _ :: [])) _ _ _
  refine wpAny_handleBy_builtin (X := "IndexError") (T := "IndexError") (b := true) PySem.F.isExc_IndexError PySem.F.notTuple_IndexError PySem.F.self_IndexError ?_
  refine wpAny_Name (loadSees rfl ((gd.up hu).seesB (v := .type "IndexError") rfl rfl rfl (by simp)) ⟨rfl, ht, ?_⟩) (by decide)
  rw [if_pos rfl]
  exact k

abbrev Catch (prog : Program) (w : World) (A : Around) (L f : Addr) (cd : Value) (Q : Flow → Shared → Prop) (E : Value → Shared → Prop) (e : Value) (s' : Shared) : Prop :=
  wpAny (model prog w) A (noteFrame e (lEnv L f cd)) (fun _ s₂ => wpAny (model prog w) A (setFlight e none) (fun _ s₃ => wpAny (model prog w) A (handleBy e (lEnv L f cd) sldTry.2) Q E s₃) E s₂) E s'

theorem out_EE {C : Value → Prop} {Q : Flow → Shared → Prop} {e : Value} (hsz : M.length + xs.length ≤ 1000000 ∧ U.length + ys.length ≤ 1000000) (o : Own3 X s.heap outer L r1 r2) (hfr : A.frames = some (lEnv L f cd :: outer)) (gd : Gd hb mg mb fa fc)
    (ee : EE (lEnv L f cd) outer s C (OutP hb X s.heap L f cd outer r1 r2 xs ys M U) e s') (hQ : ∀ s'', FinS hb s L f cd outer r1 r2 M U s'' → Q .brk s'') : Catch prog w A L f cd Q E e s' := by
  refine EE.noted (a := (0 : Addr)) hfr ee fun h h' a c ea hP hC k xs' fo sr => ?_
  subst ea
  refine flight (f := none) fo k xs' fun h2 k2 xs2 fo2 => ?_
  obtain ⟨n, oe, vs, he, hc, r⟩ := id xs2
  have hP2 := hP.kpF o k2
  refine clause_run gd hP2.upb ⟨oe, he, hc⟩ ?_
  refine flight (f := none) fo2 k2 xs2 fun h3 k3 xs3 fo3 => ?_
  exact suite_run hsz o (hP.kpF o k3) (sr.trans ⟨h3, s'.toks, rfl⟩) hQ

/-- an exception in hand, the frame's own by now -/
structure XA (X : Addr → Prop) (h₀ : Heap) (outer : List Env) (L r1 r2 : Addr) (h : Heap) (a T : Addr) (fl : Value) : Prop where
  e : ∃ oe vs, h.get? a = some oe ∧ oe.cls = .type "IndexError" ∧ oe.data = .fields vs ∧ vs[1]? = some (.ref T)
  t : ∃ oT ts, h.get? T = some oT ∧ oT.data = .fields ts ∧ ts[3]? = some fl
  ne : T ≠ a
  xT : X T
  own : T ≠ L ∧ T ≠ r1 ∧ T ≠ r2
  nf : T ∉ frs outer
  n0 : h₀.get? T = none
theorem XA.flight {M : Model} {Q : Unit → Shared → Prop} {fr : Option Addr} (x : XA X h₀ outer L r1 r2 s.heap a T fl) (o : Own3 X h₀ outer L r1 r2) {P : List Int → List Int → List Int → List Int → Prop}
    (hQ : ∀ h', XA X h₀ outer L r1 r2 h' a T (fr.elim .none fun g => rawInt g) → (∀ ρ mM mU, SH hb X (lEnv L f cd) outer h₀ r1 r2 ρ mM mU s.heap → SH hb X (lEnv L f cd) outer h₀ r1 r2 ρ mM mU h') → Q () { s with heap := h' }) : wpAny M A (setFlight (.ref a) fr) Q E s := by
  obtain ⟨⟨oe, vs, he, hc, hd, h1⟩, ⟨oT, ts, hT, hTd, h3⟩, ne, xT, own, nf, n0⟩ := x
  have hsz : 3 < ts.size := (Array.getElem?_eq_some_iff.mp h3).1
  unfold setFlight
  refine wpAny_bind (wpAny_field he hd h1 ?_)
  rw [if_pos (show (Value.ref T != Value.none) = true from by simp)]
  have hT2 := Heap.get?_update_self (Obj.mapFields (·.setIfInBounds 3 (fr.elim Value.none fun f => rawInt f))) hT (Obj.isFreed_of_fields (Obj.data_mapFields hTd _))
  refine wpAny_setField hT hTd hsz (hQ _ ⟨⟨oe, vs, (Heap.get?_update_other _ _ ne).trans he, hc, hd, h1⟩, ⟨_, _, hT2, Obj.data_mapFields hTd _, by simp [hsz]⟩, ne, xT, own, nf, n0⟩ fun ρ mM mU sh => ?_)
  exact sh.own o xT n0 own nf (fun b ob hn q => (Heap.get?_update_other _ _ (Ne.symm hn)).trans q) (by rw [hT2]; rfl)

theorem OutP.mapSH {h h' : Heap} (x : OutP hb X h₀ L f cd outer r1 r2 xs ys M U h) (k : ∀ ρ mM mU, SH hb X (lEnv L f cd) outer h₀ r1 r2 ρ mM mU h → SH hb X (lEnv L f cd) outer h₀ r1 r2 ρ mM mU h') : OutP hb X h₀ L f cd outer r1 r2 xs ys M U h' :=
  let ⟨ρ, i, j, mM, mU, sh, r⟩ := x; ⟨ρ, i, j, mM, mU, k _ _ _ sh, r⟩

theorem out_XA {Q : Flow → Shared → Prop} (hsz : M.length + xs.length ≤ 1000000 ∧ U.length + ys.length ≤ 1000000) (o : Own3 X s.heap outer L r1 r2) (gd : Gd hb mg mb fa fc) (sr : SameRest s s')
    (x : XA X s.heap outer L r1 r2 s'.heap a T (rawInt L)) (hP : OutP hb X s.heap L f cd outer r1 r2 xs ys M U s'.heap) (hQ : ∀ s'', FinS hb s L f cd outer r1 r2 M U s'' → Q .brk s'') : Catch prog w A L f cd Q E (.ref a) s' := by
  obtain ⟨⟨oe, vs, he, hc, hd, h1⟩, ⟨oT, ts, hT, hTd, h3⟩, ne, _⟩ := id x
  refine wpAny_noteFrame_inFlight rfl he hd h1 hT hTd h3 ?_
  refine x.flight (hb := hb) (f := f) (cd := cd) (fr := none) (P := fun _ _ _ _ => True) o fun h2 x2 k2 => ?_
  have hP2 := hP.mapSH k2
  obtain ⟨oe2, vs2, he2, hc2, _⟩ := x2.e
  refine clause_run gd hP2.upb ⟨oe2, he2, hc2⟩ ?_
  refine x2.flight (s := { s' with heap := h2 }) (hb := hb) (f := f) (cd := cd) (fr := none) (P := fun _ _ _ _ => True) o fun h3 x3 k3 => ?_
  exact suite_run hsz o (hP2.mapSH k3) (sr.trans ⟨h3, s'.toks, rfl⟩) hQ

/-- an exception is made the frame's own -/
theorem XA.of {c : Value} (o : Own3 X h₀ outer L r1 r2) (sh : SH hb X (lEnv L f cd) outer h₀ r1 r2 ρ mM mU h) (k : Kp (frs (lEnv L f cd :: outer)) h h') (x : Xs h h' a (some fl) c) :
    ∃ T, Own3 (fun b => (X b ∨ b = a) ∨ b = T) h₀ outer L r1 r2 ∧ SH hb (fun b => (X b ∨ b = a) ∨ b = T) (lEnv L f cd) outer h₀ r1 r2 ρ mM mU h' ∧ XA (fun b => (X b ∨ b = a) ∨ b = T) h₀ outer L r1 r2 h' a T fl := by
  obtain ⟨n, oe, vs, he, hc, hd, h2, T, oT, ts, h1, hTe, hT0, hT, hTd, h3⟩ := x
  have fresh : ∀ b, h.get? b = none → (b ≠ L ∧ b ≠ r1 ∧ b ≠ r2) ∧ b ∉ frs outer ∧ h₀.get? b = none := fun b q => by
    refine ⟨⟨?_, ?_, ?_⟩, fun z => ?_, ?_⟩
    · rintro rfl; have := sh.cx.tk _ o.x.1; rw [q] at this; cases this
    · rintro rfl; have := sh.cx.tk _ o.x.2.1; rw [q] at this; cases this
    · rintro rfl; have := sh.cx.tk _ o.x.2.2; rw [q] at this; cases this
    · have := sh.cx.tk _ (o.fx b z); rw [q] at this; cases this
    · cases z : h₀.get? b with
      | none => rfl
      | some ob => obtain ⟨sl, q'⟩ := sh.kp.data z; rw [q] at q'; cases q'
  have g1 := SH.grow (h' := h') sh o k (a := a) n (by rw [he]; rfl)
  refine ⟨T, o.grow.grow, ⟨?_, g1.l1, g1.l2, g1.kp, g1.fo⟩, ⟨⟨oe, vs, he, hc, hd, h1⟩, ⟨oT, ts, hT, hTd, h3⟩, hTe, .inr rfl, (fresh T hT0).1, (fresh T hT0).2.1, (fresh T hT0).2.2⟩⟩
  have g2 := SH.grow (h' := h') sh o k (a := T) hT0 (by rw [hT]; rfl)
  obtain ⟨w1, s1, t1, u1, f1⟩ := g1.cx
  obtain ⟨w2, s2, t2, u2, f2⟩ := g2.cx
  refine ⟨{ w1 with xl := .inl w1.xl, cell := fun n c e => (by cases e), xg := ⟨fun z => z.elim w1.xg.1 (fun e => w2.xg.1 (.inr e)), fun z => z.elim w1.xg.2 (fun e => w2.xg.2 (.inr e))⟩ }, fun y z e => ?_, fun b x => x.elim (t1 b) (fun e => t2 b (.inr e)), u1, fun b ob q x => x.elim (f1 b ob q) (fun e => f2 b ob q (.inr e))⟩
  obtain ⟨v, p, q⟩ := sh.cx.st y z e
  refine ⟨v, sees_kp p k (fun b hb n e => by cases e), ?_⟩
  have hF : ∀ b ∈ frs (lEnv L f cd :: outer), X b := fun b hb => by
    rw [frs_cons] at hb
    rcases List.mem_cons.mp hb with rfl | z
    · exact o.x.1
    · exact o.fx b z
  cases z with
  | dat d => exact Rd.to q (fun b' ob nx q => k.off b' ob (fun m => nx (hF b' m)) q) fun b' ob q x => x.elim (fun x => x.elim id fun e => by rw [e, n] at q; cases q) fun e => by rw [e, hT0] at q; cases q
  | val u => exact q
end
end Mine
end

/-! part E6 -/
section
open PySem PySem.W PySem.Spec PySem.Calls PyProof.Rows
set_option Elab.async false
set_option linter.unusedVariables false
set_option maxRecDepth 100000
namespace Mine

def sldFinal : List Stmt := match sldTry.1 with
  | [_, _, .If _ _ [.If _ _ [_, .Try _ _ _ fin _] _] _] => fin
  | _ => []
section
variable {prog : Program} {w : World} {A A' : Around} {E : Value → Shared → Prop} {s s' : Shared} {hb h₀ h h' : Heap} {X : Addr → Prop} {outer : List Env} {L r1 r2 f a T : Addr} {cd fl : Value} {ρ : List (Str × VS)} {mM mU M U xs ys : List Int} {i j : Nat} {mg mb : Str → Option Value} {fa : Nat → Addr} {fc : Nat → Value}

theorem EE.passes' {env : Env} {M : Model} {C : Value → Prop} {P : Heap → Prop} (hfr : A'.frames = some (env :: outer)) {e : Value} {s' : Shared} (x : EE env outer s C P e s') (hE : ∀ e s', EE env outer s C P e s' → E e s') : notedBy M A' env (cameBackBy M A env E) e s' := by
  have z := EE.passes (M := M) (A := A) hfr x
  refine wpAny_mono z (fun _ s₃ z₃ => ?_) fun e' s₃ z₃ => ?_
  · exact wpAny_mono z₃ (fun _ s₄ z₄ => hE _ s₄ z₄) fun e' s₄ z₄ => hE _ s₄ z₄
  · exact wpAny_mono z₃ (fun _ s₄ z₄ => hE _ s₄ z₄) fun e' s₄ z₄ => hE _ s₄ z₄
theorem EE.map {env : Env} {C C' : Value → Prop} {P P' : Heap → Prop} {e : Value} {s₁ s₀ s' : Shared} (x : EE env outer s₀ C P e s') (hs : SameRest s₁ s₀) (hP : ∀ h, P h → P' h) (hC : ∀ c, C c → C' c) : EE env outer s₁ C' P' e s' := x.mono hC hP hs

theorem final_run {y : Int} {Q : Flow → Shared → Prop} (hsz : ys.length < 2 ^ 60) (o : Own3 X s.heap outer L r1 r2) (hfr : A.frames = some (lEnv L f cd :: outer)) (sh : SH hb X (lEnv L f cd) outer s.heap r1 r2 ρ mM mU s'.heap)
    (lj : ρ.lookup ("j" : Str) = some (.dat (.int (j : Int)))) (la : ρ.lookup ("a" : Str) = some (.dat (.int y))) (ll : ρ.lookup ("actual" : Str) = some (.dat (.list (ys.map .int)))) (hok : ∀ h', Only (lEnv L f cd) s'.heap h' → HOk A h') (hj : j < ys.length)
    (hQ : ∀ s2, runTo ys (j + 1) y < ys.length → SH hb X (lEnv L f cd) outer s.heap r1 r2 (("j", .dat (.int (runTo ys (j + 1) y : Int))) :: ("j", .dat (.int ((j + 1 : Nat) : Int))) :: ρ) mM mU s2.heap → Only (lEnv L f cd) s'.heap s2.heap → SameRest s' s2 → Q .next s2)
    (hE : ∀ e s2, runTo ys (j + 1) y = ys.length → EE (lEnv L f cd) outer s' (fun c => A.handled = none → c = .none) (fun h => SH hb X (lEnv L f cd) outer s.heap r1 r2 (("j", .dat (.int (ys.length : Int))) :: ("j", .dat (.int ((j + 1 : Nat) : Int))) :: ρ) mM mU h) e s2 → E e s2) :
    wpAny (model prog w) A (execs sldFinal (lEnv L f cd)) Q E s' := by
  show wpAny _ _ (execs (_ :: _) _) _ _ s'
  refine wpAny_execs_cons (ex_aug rfK sh.cx (.inl rfl) lj (ev_int (X := X) keepsOk) fun s₁ c1 o1 f1 => ?_)
  have c1 : Cx hb X (lEnv L f cd) (("j", .dat (.int ((j + 1 : Nat) : Int))) :: ρ) s₁.heap := c1
  have sh1 := sh.only o c1 o1
  show wpAny _ _ (execs (_ :: _) _) _ _ s₁
  have hF : ∀ b ∈ frs (lEnv L f cd :: outer), X b := fun b hb => by
    rw [frs_cons] at hb
    rcases List.mem_cons.mp hb with rfl | z
    · exact o.x.1
    · exact o.fx b z
  refine wpAny_execs_cons (run_loop (xs := ys) (x := y) (outer := outer) (X := X) hsz hfr hF (by decide) (by decide) rfl (by decide) (by decide) (by decide) (ys.length - (j + 1)) (j + 1) s₁ rfl hj sh1.cx ?l1 rfl ?l3 (fun h' on m => ⟨hok h' (o1.tr on), ?fo⟩) (fun s2 hlt c2 o2 f2 => wpAny_execs_nil ?n) (fun e s2 heq ee => ?x))
  case l1 => exact ll
  case l3 => exact la
  case fo =>
    refine ⟨fun e he => ?_⟩
    rcases List.mem_cons.mp he with rfl | he
    · exact ⟨rfl, rfl, m⟩
    · obtain ⟨p, q, m', n⟩ := sh1.fo.ok e he
      exact ⟨p, q, m', n.at' fun ob z => on _ ob (fun z' => (o.out (List.mem_filterMap.mpr ⟨e, he, q⟩)).1 (fb_plain.mp z')) z⟩
  case n => exact hQ s2 hlt (sh1.only o c2 o2) (o1.tr o2) (f1.trans f2)
  case x =>
    refine hE e s2 heq (ee.map f1 (fun h ⟨c, on⟩ => sh1.only o c on) fun c hc => hc)

theorem XA.only {h h' : Heap} (x : XA X h₀ outer L r1 r2 h a T fl) (o : Own3 X h₀ outer L r1 r2) (aL : a ≠ L) (on : Only (lEnv L f cd) h h') : XA X h₀ outer L r1 r2 h' a T fl := by
  obtain ⟨⟨oe, vs, he, r⟩, ⟨oT, ts, hT, r2⟩, ne, xT, own, nf, n0⟩ := x
  exact ⟨⟨oe, vs, on _ _ (fun z => aL (fb_plain.mp z)) he, r⟩, ⟨oT, ts, on _ _ (fun z => own.1 (fb_plain.mp z)) hT, r2⟩, ne, xT, own, nf, n0⟩

theorem Sld.inv {x y : Int} {xs ys M U : List Int} (h : Sld (x :: xs) (y :: ys) M U) :
    (x < y ∧ ∃ M', M = x :: M' ∧ Sld (xs.dropWhile (· == x)) (y :: ys) M' U) ∨ (y < x ∧ ∃ U', U = y :: U' ∧ Sld (x :: xs) (ys.dropWhile (· == y)) M U') ∨ (x = y ∧ Sld (xs.dropWhile (· == x)) (ys.dropWhile (· == x)) M U) := by
  cases h with
  | lt a b => exact .inl ⟨a, _, rfl, b⟩
  | gt a b => exact .inr (.inl ⟨a, _, rfl, b⟩)
  | eq b => exact .inr (.inr ⟨rfl, b⟩)

/-- what stands at the loop's head -/
def Inv (hb : Heap) (X : Addr → Prop) (s : Shared) (L f : Addr) (cd : Value) (outer : List Env) (r1 r2 : Addr) (xs ys M U : List Int) (i j : Nat) (mM mU : List Int) (s' : Shared) : Prop :=
  SH hb X (lEnv L f cd) outer s.heap r1 r2 (lρ xs ys r1 r2 i j) mM mU s'.heap ∧ i ≤ xs.length ∧ j ≤ ys.length ∧ SameRest s s' ∧ ∃ M' U', Sld (xs.drop i) (ys.drop j) M' U' ∧ mM ++ M' = M ∧ mU ++ U' = U

theorem op_gti {R : Shared → Shared → Prop} {I : Heap → Prop} {x y : Int} (hR : RelOk R) : Op2 prog w A R I (compareOp .Gt) (fun h v => Rd X h v (.int x)) (fun h v => Rd X h v (.int y)) (fun h v => Rd X h v (.bool (decide (y < x)))) := fun s v u i p q Q E h => by
  obtain ⟨t, rfl⟩ := p.int_inv
  obtain ⟨t', rfl⟩ := q.int_inv
  exact PyProof.Rows.gt_int (h _ _ (hR.refl s) (.bool _))

theorem lρ_sub {ρ : List (Str × VS)} (h1 : ρ.lookup ("i" : Str) = some (.dat (.int (i : Int)))) (h2 : ρ.lookup ("j" : Str) = some (.dat (.int (j : Int)))) (h3 : ρ.lookup ("missing" : Str) = some (.val (.ref r1))) (h4 : ρ.lookup ("unexpected" : Str) = some (.val (.ref r2)))
    (h5 : ρ.lookup ("expected" : Str) = some (.dat (.list (xs.map .int)))) (h6 : ρ.lookup ("actual" : Str) = some (.dat (.list (ys.map .int)))) : ∀ p ∈ lρ xs ys r1 r2 i j, ρ.lookup p.1 = some p.2 := by
  intro p hp
  simp only [lρ, List.mem_cons, List.not_mem_nil, or_false] at hp
  rcases hp with rfl | rfl | rfl | rfl | rfl | rfl <;> assumption

theorem try_run {Q : Flow → Shared → Prop} {pos : Pos} (hx : xs.length ≤ 1000 ∧ ys.length ≤ 1000) (hsz : M.length + xs.length ≤ 1000000 ∧ U.length + ys.length ≤ 1000000) (o : Own3 X s.heap outer L r1 r2) (hA : A.handled = none) (hfr : A.frames = some (lEnv L f cd :: outer)) (gd : Gd hb mg mb fa fc)
    (I : Inv hb X s L f cd outer r1 r2 xs ys M U i j mM mU s')
    (hn : ∀ i2 j2 mM2 mU2 s2, Inv hb X s L f cd outer r1 r2 xs ys M U i2 j2 mM2 mU2 s2 → i + j < i2 + j2 → Q .next s2) (hbk : ∀ s2, FinS hb s L f cd outer r1 r2 M U s2 → Q .brk s2) :
    wpAny (model prog w) A (exec (.Try sldTry.1 sldTry.2 [] [] pos) (lEnv L f cd)) Q E s' := by
  obtain ⟨sh, hi, hj, sr, M', U', hS, hM, hU⟩ := I
  refine wpAny_Try_except ?_
  have nf1 : ¬ Fb (lEnv L f cd) r1 := fun z => o.ne.1 (fb_plain.mp z)
  have nf2 : ¬ Fb (lEnv L f cd) r2 := fun z => o.ne.2.1 (fb_plain.mp z)
  have szx : xs.length < 2 ^ 60 := by omega
  have szy : ys.length < 2 ^ 60 := by omega
  have hF : ∀ b ∈ frs (lEnv L f cd :: outer), X b := fun b hb => by
    rw [frs_cons] at hb
    rcases List.mem_cons.mp hb with rfl | z
    · exact o.x.1
    · exact o.fx b z
  have catch_ : ∀ {X : Addr → Prop} {C : Value → Prop}, Own3 X s.heap outer L r1 r2 → ∀ e s₁, EE (lEnv L f cd) outer s C (OutP hb X s.heap L f cd outer r1 r2 xs ys M U) e s₁ → Catch prog w A L f cd Q E e s₁ := fun o e s₁ ee => out_EE hsz o hfr gd ee hbk
  -- what the run loops ask for
  have okk : ∀ {ρ : List (Str × VS)} {mM mU : List Int} {s₁ : Shared}, SH hb X (lEnv L f cd) outer s.heap r1 r2 ρ mM mU s₁.heap → ∀ h', Only (lEnv L f cd) s₁.heap h' → (∃ m, h'.Ns (lEnv L f cd).locals m) → HOk A h' ∧ FrOk h' (lEnv L f cd :: outer) := fun sh1 h' on m => ⟨.inl hA, ⟨fun e he => by
    rcases List.mem_cons.mp he with rfl | he
    · exact ⟨rfl, rfl, m⟩
    · obtain ⟨p, q, m', n⟩ := sh1.fo.ok e he
      exact ⟨p, q, m', n.at' fun ob z => on _ ob (fun z' => (o.out (List.mem_filterMap.mpr ⟨e, he, q⟩)).1 (fb_plain.mp z')) z⟩⟩⟩
  show wpAny _ _ (execs (_ :: _) _) _ _ s'
  by_cases hi' : i < xs.length
  case neg =>
    have hie : i = xs.length := by omega
    subst hie
    rw [List.drop_length] at hS
    obtain ⟨rfl, rfl⟩ := hS.nil_l
    refine wpAny_execs_cons (wpAny_Assign_Name (sub_out (xs := xs) (l := "expected") (k := "i") (outer := outer) (X := X) szx sh.cx rfl rfl (fun h' k m => okk sh h' (Only.of_up k) m) (fun c hc => hc) fun e s₁ ee => ?_))
    exact catch_ o e s₁ (ee.map sr (fun h k => ⟨_, xs.length, j, mM, mU, sh.up o k, lρ_sub rfl rfl rfl rfl rfl rfl, Nat.le_refl _, hj, by rw [List.drop_length]; exact hM, hU⟩) fun c hc => hc)
  obtain ⟨x, hxi⟩ : ∃ x, xs[i]? = some x := ⟨_, List.getElem?_eq_getElem hi'⟩
  have hdx : xs.drop i = x :: xs.drop (i + 1) := by
    rw [List.drop_eq_getElem_cons hi', (List.getElem?_eq_some_iff.mp hxi).2]
  refine wpAny_execs_cons (ex_assign (z := .dat (.int x)) rfK sh.cx (.inl rfl) (ev_item (X := X) (i := (i : Int)) (xs := xs.map .int) keepsOk cx_up (ev_var (z := .dat (.list (xs.map .int))) keepsOk (fun _ c => c) (by rfl) (by rfl) (by decide)) (ev_var (z := .dat (.int (i : Int))) keepsOk (fun _ c => c) (by rfl) (by rfl) (by decide)) (by omega) (by omega) (by rw [List.getElem?_map, Int.toNat_natCast, hxi]; rfl)) fun s₁ c1 o1 f1 => ?_)
  have sh1 := sh.only o c1 o1
  show wpAny _ _ (execs (_ :: _) _) _ _ s₁
  by_cases hj' : j < ys.length
  case neg =>
    have hje : j = ys.length := by omega
    subst hje
    rw [List.drop_length] at hS
    obtain ⟨rfl, rfl⟩ := hS.nil_r
    refine wpAny_execs_cons (wpAny_Assign_Name (sub_out (xs := ys) (l := "actual") (k := "j") (outer := outer) (X := X) szy sh1.cx rfl rfl (fun h' k m => okk sh1 h' (Only.of_up k) m) (fun c hc => hc) fun e s₂ ee => ?_))
    exact catch_ o e s₂ (ee.map (sr.trans f1) (fun h k => ⟨_, i, ys.length, mM, mU, sh1.up o k, lρ_sub rfl rfl rfl rfl rfl rfl, hi, Nat.le_refl _, hM, by rw [List.drop_length]; exact hU⟩) fun c hc => hc)
  obtain ⟨y, hyj⟩ : ∃ y, ys[j]? = some y := ⟨_, List.getElem?_eq_getElem hj'⟩
  have hdy : ys.drop j = y :: ys.drop (j + 1) := by
    rw [List.drop_eq_getElem_cons hj', (List.getElem?_eq_some_iff.mp hyj).2]
  rw [hdx, hdy] at hS
  refine wpAny_execs_cons (ex_assign (z := .dat (.int y)) rfK sh1.cx (.inl rfl) (ev_item (X := X) (i := (j : Int)) (xs := ys.map .int) keepsOk cx_up (ev_var (z := .dat (.list (ys.map .int))) keepsOk (fun _ c => c) (by rfl) (by rfl) (by decide)) (ev_var (z := .dat (.int (j : Int))) keepsOk (fun _ c => c) (by rfl) (by rfl) (by decide)) (by omega) (by omega) (by rw [List.getElem?_map, Int.toNat_natCast, hyj]; rfl)) fun s₂ c2 o2 f2 => ?_)
  have sh2 := sh1.only o c2 o2
  have sr2 : SameRest s s₂ := (sr.trans f1).trans f2
  show wpAny _ _ (execs (_ :: _) _) _ _ s₂
  refine wpAny_execs_cons (ex_if (R := Keeps) (b := decide (x < y)) sh2.cx (tst_cmp (X := X) keepsOk cx_up (ev_var (z := .dat (.int x)) keepsOk (fun _ c => c) (by rfl) (by rfl) (by decide)) (ev_var (z := .dat (.int y)) keepsOk (fun _ c => c) (by rfl) (by rfl) (by decide)) (upOk _) (op_lti keepsOk)) fun s₃ r₃ => ?_)
  have sh3 := sh2.up o (keepsOk.up r₃)
  have sr3 : SameRest s s₃ := sr2.trans (rfK.of r₃)
  rcases hS.inv with ⟨hlt, M'', rfl, hS'⟩ | ⟨hgt, U'', rfl, hS'⟩ | ⟨rfl, hS'⟩
  · -- the first list's item is the lesser
    rw [show decide (x < y) = true by simp [hlt]]
    show wpAny _ _ (execs (_ :: _) _) _ _ s₃
    rw [drop_run] at hS'
    have ml : mM.length ≤ 1000000 := by rw [← hM] at hsz; simp at hsz; omega
    obtain ⟨v1, pl1, i1, z1⟩ := sh3.l1.len
    refine wpAny_execs_cons (ex_append (P := fun h v => Rd X h v (.int x)) rfK sh3.cx (r := r1) rfl ⟨o.x.2.1, nf1⟩ pl1 (by rw [z1, sizeLine_eq]; omega) (ev_var (z := .dat (.int x)) keepsOk (fun _ c => c) (by rfl) (by rfl) (by decide)) fun v s₄ s₅ k₄ pv pl2 sb c5 f5 => ?_)
    obtain ⟨t, rfl⟩ := pv.int_inv
    have sh5 := (sh3.up o (keepsOk.up k₄)).write1 o c5 (fun b ob hn q => sb.extBut b ob hn q) (ms := mM ++ [x]) ⟨_, pl2, by rw [Array.toList_push]; exact ints_app i1 (.cons _ _ .nil)⟩
    show wpAny _ _ (execs (_ :: _) _) _ _ s₅
    refine wpAny_execs_cons (ex_aug rfK sh5.cx (.inl rfl) (i := (i : Int)) rfl (ev_int (X := X) keepsOk) fun s₆ c6 o6 f6 => ?_)
    have c6 : Cx hb X (lEnv L f cd) (("i", .dat (.int ((i + 1 : Nat) : Int))) :: _) s₆.heap := c6
    have sh6 := sh5.only o c6 o6
    have sr6 : SameRest s s₆ := (sr3.trans f5).trans f6
    show wpAny _ _ (execs (_ :: _) _) _ _ s₆
    refine wpAny_execs_cons (run_loop (xs := xs) (x := x) (outer := outer) (X := X) szx hfr hF (by decide) (by decide) rfl (by decide) (by decide) (by decide) (xs.length - (i + 1)) (i + 1) s₆ rfl hi' sh6.cx rfl rfl rfl (okk sh6) (fun s₇ hl c7 o7 f7 => ?_) fun e s₇ he ee => ?_)
    · refine wpAny_execs_nil (wpAny_execs_nil (wpAny_execs_nil ?_))
      refine hn (runTo xs (i + 1) x) j (mM ++ [x]) mU s₇ ⟨(sh6.only o c7 o7).sub (lρ_sub rfl rfl rfl rfl rfl rfl), Nat.le_of_lt hl, hj, sr6.trans f7, M'', U', by rw [hdy]; exact hS', by rw [← hM]; simp, hU⟩ ?_
      have : i + 1 ≤ runTo xs (i + 1) x := Nat.le_add_right _ _
      omega
    · rw [he, List.drop_length] at hS'
      obtain ⟨rfl, rfl⟩ := hS'.nil_l
      exact catch_ o e s₇ (ee.map sr6 (fun h ⟨c, on⟩ => ⟨_, xs.length, j, mM ++ [x], mU, sh6.only o c on, lρ_sub rfl rfl rfl rfl rfl rfl, Nat.le_refl _, hj, by rw [List.drop_length, ← hM]; simp, by rw [hdy]; exact hU⟩) fun c hc => hc)
  · -- the second list's item is the lesser
    rw [show decide (x < y) = false by simp; omega]
    show wpAny _ _ (execs (_ :: _) _) _ _ s₃
    rw [drop_run] at hS'
    refine wpAny_execs_cons (ex_if (R := Keeps) (b := decide (y < x)) sh3.cx (tst_cmp (X := X) keepsOk cx_up (ev_var (z := .dat (.int x)) keepsOk (fun _ c => c) (by rfl) (by rfl) (by decide)) (ev_var (z := .dat (.int y)) keepsOk (fun _ c => c) (by rfl) (by rfl) (by decide)) (upOk _) (op_gti keepsOk)) fun s₃' r₃' => ?_)
    have sh3' := sh3.up o (keepsOk.up r₃')
    have sr3' : SameRest s s₃' := sr3.trans (rfK.of r₃')
    rw [show decide (y < x) = true by simp [hgt]]
    show wpAny _ _ (execs (_ :: _) _) _ _ s₃'
    have ml : mU.length ≤ 1000000 := by rw [← hU] at hsz; simp at hsz; omega
    obtain ⟨v1, pl1, i1, z1⟩ := sh3'.l2.len
    refine wpAny_execs_cons (ex_append (P := fun h v => Rd X h v (.int y)) rfK sh3'.cx (r := r2) rfl ⟨o.x.2.2, nf2⟩ pl1 (by rw [z1, sizeLine_eq]; omega) (ev_var (z := .dat (.int y)) keepsOk (fun _ c => c) (by rfl) (by rfl) (by decide)) fun v s₄ s₅ k₄ pv pl2 sb c5 f5 => ?_)
    obtain ⟨t, rfl⟩ := pv.int_inv
    have sh5 := (sh3'.up o (keepsOk.up k₄)).write2 o c5 (fun b ob hn q => sb.extBut b ob hn q) (ms := mU ++ [y]) ⟨_, pl2, by rw [Array.toList_push]; exact ints_app i1 (.cons _ _ .nil)⟩
    show wpAny _ _ (execs (_ :: _) _) _ _ s₅
    refine wpAny_execs_cons (ex_aug rfK sh5.cx (.inl rfl) (i := (j : Int)) rfl (ev_int (X := X) keepsOk) fun s₆ c6 o6 f6 => ?_)
    have c6 : Cx hb X (lEnv L f cd) (("j", .dat (.int ((j + 1 : Nat) : Int))) :: _) s₆.heap := c6
    have sh6 := sh5.only o c6 o6
    have sr6 : SameRest s s₆ := (sr3'.trans f5).trans f6
    show wpAny _ _ (execs (_ :: _) _) _ _ s₆
    refine wpAny_execs_cons (run_loop (xs := ys) (x := y) (outer := outer) (X := X) szy hfr hF (by decide) (by decide) rfl (by decide) (by decide) (by decide) (ys.length - (j + 1)) (j + 1) s₆ rfl hj' sh6.cx rfl rfl rfl (okk sh6) (fun s₇ hl c7 o7 f7 => ?_) fun e s₇ he ee => ?_)
    · refine wpAny_execs_nil (wpAny_execs_nil (wpAny_execs_nil (wpAny_execs_nil ?_)))
      refine hn i (runTo ys (j + 1) y) mM (mU ++ [y]) s₇ ⟨(sh6.only o c7 o7).sub (lρ_sub rfl rfl rfl rfl rfl rfl), hi, Nat.le_of_lt hl, sr6.trans f7, M', U'', by rw [hdx]; exact hS', hM, by rw [← hU]; simp⟩ ?_
      have : j + 1 ≤ runTo ys (j + 1) y := Nat.le_add_right _ _
      omega
    · rw [he, List.drop_length] at hS'
      obtain ⟨rfl, rfl⟩ := hS'.nil_r
      exact catch_ o e s₇ (ee.map sr6 (fun h ⟨c, on⟩ => ⟨_, i, ys.length, mM, mU ++ [y], sh6.only o c on, lρ_sub rfl rfl rfl rfl rfl rfl, hi, Nat.le_refl _, by rw [hdx]; exact hM, by rw [List.drop_length, ← hU]; simp⟩) fun c hc => hc)
  · -- the same item: both runs are passed over
    rw [show decide (x < x) = false by simp]
    show wpAny _ _ (execs (_ :: _) _) _ _ s₃
    rw [drop_run, drop_run] at hS'
    refine wpAny_execs_cons (ex_if (R := Keeps) (b := decide (x < x)) sh3.cx (tst_cmp (X := X) keepsOk cx_up (ev_var (z := .dat (.int x)) keepsOk (fun _ c => c) (by rfl) (by rfl) (by decide)) (ev_var (z := .dat (.int x)) keepsOk (fun _ c => c) (by rfl) (by rfl) (by decide)) (upOk _) (op_gti keepsOk)) fun s₃' r₃' => ?_)
    have sh3' := sh3.up o (keepsOk.up r₃')
    have sr3' : SameRest s s₃' := sr3.trans (rfK.of r₃')
    rw [show decide (x < x) = false by simp]
    show wpAny _ _ (execs (_ :: _) _) _ _ s₃'
    refine wpAny_execs_cons (ex_aug rfK sh3'.cx (.inl rfl) (i := (i : Int)) rfl (ev_int (X := X) keepsOk) fun s₄ c4 o4 f4 => ?_)
    have c4 : Cx hb X (lEnv L f cd) (("i", .dat (.int ((i + 1 : Nat) : Int))) :: _) s₄.heap := c4
    have sh4 := sh3'.only o c4 o4
    have sr4 : SameRest s s₄ := sr3'.trans f4
    show wpAny _ _ (execs (_ :: _) _) _ _ s₄
    refine wpAny_execs_cons ?_
    show wpAny _ _ (exec (.Try (_ :: _) [] [] (_ :: _) _) _) _ _ s₄
    refine wpAny_Try_finally ?_
    refine wpAny_execs_cons (run_loop (xs := xs) (x := x) (outer := outer) (X := X) szx hfr hF (by decide) (by decide) rfl (by decide) (by decide) (by decide) (xs.length - (i + 1)) (i + 1) s₄ rfl hi' sh4.cx rfl rfl rfl (okk sh4) (fun s₅ hl c5 o5 f5 => ?_) fun e s₅ he ee => ?_)
    · refine wpAny_execs_nil (wpAny_execs_nil ?_)
      have sh5 := sh4.only o c5 o5
      have sr5 : SameRest s s₅ := sr4.trans f5
      refine final_run (j := j) (y := x) (ys := ys) szy o hfr sh5 rfl rfl rfl (fun _ _ => .inl hA) hj' (fun s₆ hl2 sh6 o6 f6 => ?_) fun e s₆ he2 ee => ?_
      · refine wpAny_execs_nil (wpAny_execs_nil (wpAny_execs_nil (wpAny_execs_nil ?_)))
        refine hn (runTo xs (i + 1) x) (runTo ys (j + 1) x) mM mU s₆ ⟨sh6.sub (lρ_sub rfl rfl rfl rfl rfl rfl), Nat.le_of_lt hl, Nat.le_of_lt hl2, sr5.trans f6, M', U', hS', hM, hU⟩ ?_
        have : i + 1 ≤ runTo xs (i + 1) x := Nat.le_add_right _ _
        have : j + 1 ≤ runTo ys (j + 1) x := Nat.le_add_right _ _
        omega
      · rw [he2, List.drop_length] at hS'
        obtain ⟨rfl, rfl⟩ := hS'.nil_r
        refine EE.passes' (s := s) (C := fun _ => True) (P := OutP hb X s.heap L f cd outer r1 r2 xs ys _ _) hfr (ee.map sr5 (fun h sh => ⟨_, runTo xs (i + 1) x, ys.length, mM, mU, sh, lρ_sub rfl rfl rfl rfl rfl rfl, Nat.le_of_lt hl, Nat.le_refl _, hM, by rw [List.drop_length]; exact hU⟩) fun c hc => trivial) (catch_ o)
    · -- the first run ends the list
      rw [he, List.drop_length] at hS'
      obtain ⟨rfl, rfl⟩ := hS'.nil_l
      refine EE.noted (a := (0 : Addr)) hfr ee fun h h' a c ea hP hC k xs' fo sr5 => ?_
      subst ea
      obtain rfl := hC hA
      refine ⟨ref_ne_byPass a, note_again (s := { s₅ with heap := h' }) rfl xs' ?_⟩
      refine flight (f := none) (s := { s₅ with heap := h' }) fo k xs' fun h3 k3 xs3 fo3 => ?_
      have shh := sh4.only o hP.1 hP.2
      obtain ⟨T, o', sh', xa⟩ := XA.of o shh k3 xs3
      obtain ⟨n3, oe3, vs3, he3, hc3, hd3, h23, _⟩ := id xs3
      have aL : a ≠ L := fun z => by
        obtain ⟨m, nn⟩ := sh'.cx.wf.loc
        have nn : h3.Ns L m := nn
        rw [z] at he3
        exact ns_data nn he3 _ hd3
      refine final_run (A := A.mark (some (.ref a))) (s := s) (s' := { s₅ with heap := h3 }) (j := j) (y := x) (ys := ys) szy o' hfr sh' rfl rfl rfl (fun h9 on9 => .inr ⟨a, oe3, vs3, rfl, on9 _ _ (fun z => aL (fb_plain.mp z)) he3, hd3, h23⟩) hj' (fun s₆ hl2 sh6 o6 f6 => ?_) fun e s₆ he2 ee2 => ?_
      · have xa6 := xa.only o' aL o6
        have sr6 : SameRest s s₆ := (sr4.trans sr5).trans (SameRest.trans ⟨h3, s₅.toks, rfl⟩ f6)
        show wpAny _ A (PySem.passOn "try.finally" (.ref a) (lEnv L f cd)) _ _ s₆
        obtain ⟨oe6, vs6, he6, hc6, hd6, h16⟩ := xa6.e
        unfold PySem.passOn
        refine wpAny_bind (wpAny_field he6 hd6 h16 ?_)
        show wpAny _ A (setFlight (.ref a) (some L) >>= _) _ _ s₆
        refine wpAny_bind ?_
        refine xa6.flight (hb := hb) (f := f) (cd := cd) (fr := some L) (P := fun _ _ _ _ => True) o' fun h7 x7 k7 => wpAny_throw ?_
        refine out_XA (a := a) (T := T) (X := fun b => (X b ∨ b = a) ∨ b = T) (s := s) (s' := { s₆ with heap := h7 }) hsz o' gd (sr6.trans ⟨h7, s₆.toks, rfl⟩) x7 ?_ hbk
        exact ⟨_, xs.length, runTo ys (j + 1) x, mM, mU, k7 _ _ _ sh6, lρ_sub rfl rfl rfl rfl rfl rfl, Nat.le_refl _, Nat.le_of_lt hl2, by rw [List.drop_length]; exact hM, hU⟩
      · have sr6 : SameRest s { s₅ with heap := h3 } := (sr4.trans sr5).trans ⟨h3, s₅.toks, rfl⟩
        rw [he2, List.drop_length] at hU
        refine EE.passes' (A' := A.mark (some (.ref a))) (s := s) (C := fun _ => True) (P := OutP hb (fun b => (X b ∨ b = a) ∨ b = T) s.heap L f cd outer r1 r2 xs ys _ _) hfr (ee2.map sr6 (fun h sh => ⟨_, xs.length, ys.length, mM, mU, sh, lρ_sub rfl rfl rfl rfl rfl rfl, Nat.le_refl _, Nat.le_refl _, by rw [List.drop_length]; exact hM, by rw [List.drop_length]; exact hU⟩) fun c hc => trivial) (catch_ o')
end
end Mine
end

/-! part E7 -/
section
open PySem PySem.W PySem.Spec PySem.Calls PyProof.Rows
set_option Elab.async false
set_option linter.unusedVariables false
set_option maxRecDepth 100000
namespace Mine
section
variable {prog : Program} {w : World} {A : Around}

theorem cx_entry2 {hb h₀ h₁ : Heap} {X : Addr → Prop} {f : Addr} {cd : Value} {d : DefRec} {m : Str → Option Value} {ρ : List (Str × VS)} {mg mb} (Fr' : Fr h₀ h₀.objs.size h₁ m) (N : Names hb mg mb) (up : Up hb h₀) (tk : Taken X h₀) (fresh : ∀ b o, hb.get? b = some o → ¬ X b) (hk : d.scope.kind = .function)
    (ha : ∀ y z, ρ.lookup y = some z → ∃ v, d.scope.names.lookup y = some .local ∧ m y = some v ∧ z.Ok X h₀ v) : Cx hb (fun b => X b ∨ b = h₀.objs.size) (envOf d.name d.scope h₀.objs.size f cd) ρ h₁ := by
  obtain ⟨ns, keep, _⟩ := Fr'
  have hL : h₀.get? h₀.objs.size = none := get_size h₀
  have hbL : ∀ b o, hb.get? b = some o → b ≠ h₀.objs.size := fun b o q e => by
    have := up b o q
    rw [e, hL] at this; cases this
  have ng : ∀ a, (∃ m, hb.Ns a m) → ¬ (X a ∨ a = h₀.objs.size) := fun a ⟨m, n⟩ z => by
    obtain ⟨o, _, _, h1, _⟩ := n
    exact z.elim (fresh a o h1) (hbL a o h1)
  refine ⟨⟨hk, rfl, rfl, ⟨_, ns⟩, .inr rfl, fun n c e => (by cases e), fun n c n' c' e => (by cases e), ⟨ng _ ⟨_, N.g⟩, ng _ ⟨_, N.b⟩⟩, ⟨mg, mb, (N.up up).up keep⟩⟩, fun y z e => ?_, fun b x => ?_, up.tr keep, fun b o e x => x.elim (fresh b o e) (hbL b o e)⟩
  · obtain ⟨v, h1, h2, h3⟩ := ha y z e
    refine ⟨v, .inl ⟨h1, m, ns, h2⟩, ?_⟩
    cases z with
    | dat dd => exact Rd.to h3 (fun b o _ q => keep b o q) fun b o q x => x.elim id fun x => by rw [x, hL] at q; cases q
    | val u => exact h3
  · rcases x with x | rfl
    · obtain ⟨o, ho⟩ := Option.isSome_iff_exists.mp (tk b x)
      rw [keep b o ho]; rfl
    · obtain ⟨o, _, _, ho, _⟩ := ns
      rw [ho]; rfl

theorem sld_call {hb : Heap} {X : Addr → Prop} {outer : List Env} {xs ys M U : List Int} {va vb : Value} {mg mb fa fc} {s : Shared} {Q E : Value → Shared → Prop} (rm : Room A 2 10) (hfr : A.frames = some outer) (fo : FrOk s.heap outer) (gd : Gd hb mg mb fa fc) (up : Up hb s.heap)
    (tk : Taken X s.heap) (fresh : ∀ b o, hb.get? b = some o → ¬ X b) (hX : ∀ b ∈ frs outer, X b) (ra : Rd X s.heap va (.list (xs.map .int))) (rb : Rd X s.heap vb (.list (ys.map .int))) (hS : Sld xs ys M U) (hx : xs.length ≤ 1000 ∧ ys.length ≤ 1000)
    (hQ : ∀ v s', Kp (frs outer) s.heap s'.heap → SameRest s s' → Rd X s'.heap v (.tuple [.list (M.map .int), .list (U.map .int)]) → Q v s') :
    wpAny (model prog w) A (call (.ref (fa 1)) [va, vb]) Q E s := by
  obtain ⟨⟨o, pm, doc, ho, hd, hcd⟩, _⟩ := (gd.up up).fn 1 (by decide)
  refine wpAny_call (call_plain_ret (by have := rm.depth; omega) ho hd (gd.up up).nl hcd rfl (locs rfl) (fun h₁ F₁ => ?_) rfl rfl rfl (by decide))
  have c0 : Cx hb (fun b => X b ∨ b = s.heap.objs.size) (lEnv s.heap.objs.size (fa 1) (fc 1)) [("expected", .dat (.list (xs.map .int))), ("actual", .dat (.list (ys.map .int)))] h₁ := cx_entry2 F₁ gd.nm up tk fresh rfl fun y z e => by
    have := lookup_mem e
    simp only [List.mem_cons, List.not_mem_nil, or_false, Prod.mk.injEq] at this
    rcases this with ⟨rfl, rfl⟩ | ⟨rfl, rfl⟩
    · exact ⟨va, rfl, rfl, ra⟩
    · exact ⟨vb, rfl, rfl, rb⟩
  have k0 : Up s.heap h₁ := F₁.keep
  have hLn : s.heap.get? s.heap.objs.size = none := get_size _
  generalize hL : s.heap.objs.size = L at c0 hLn
  generalize hs₁ : ({ s with heap := h₁, toks := _ } : Shared) = s₁
  have sr1 : SameRest s s₁ := by subst hs₁; exact ⟨_, _, rfl⟩
  have e1 : s₁.heap = h₁ := by subst hs₁; rfl
  rw [← e1] at c0 k0
  have hA : (A.deeper (lEnv L (fa 1) (fc 1))).handled = none := rm.handled
  have hfr' : (A.deeper (lEnv L (fa 1) (fc 1))).frames = some (lEnv L (fa 1) (fc 1) :: outer) := Around.frames_deeper hfr
  have onk : ∀ {h h' : Heap}, Up s.heap h → Only (lEnv L (fa 1) (fc 1)) h h' → Up s.heap h' := fun k on b o q => on b o (fun z => by rw [fb_plain.mp z] at q; rw [hLn] at q; cases q) (k b o q)
  show wpAny _ (A.deeper (lEnv L (fa 1) (fc 1))) (execs (_ :: _) (lEnv L (fa 1) (fc 1))) _ _ s₁
  refine wpAny_execs_cons (wpAny_Assign_two (wpAny_Constant_int ?_))
  refine wpAny_assign_Name (cx_store (s := { s₁ with toks := s₁.toks + 1 }) (z := .dat (.int 0)) c0 (.inl rfl) (.int _ _) fun h₂ tk₂ c2 o2 => ?_)
  refine wpAny_assign_Name (cx_store (s := { s₁ with heap := h₂, toks := tk₂ }) (z := .dat (.int 0)) c2 (.inl rfl) (.int _ _) fun h₃ tk₃ c3 o3 => ?_)
  have k3 : Up s.heap h₃ := onk (onk k0 o2) o3
  generalize hs₃ : ({ s₁ with heap := h₃, toks := tk₃ } : Shared) = s₃
  have sr3 : SameRest s s₃ := by subst hs₃; exact sr1.trans ⟨_, _, rfl⟩
  have e3 : s₃.heap = h₃ := by subst hs₃; rfl
  rw [← e3] at c3 k3
  show wpAny _ _ (execs (_ :: _) _) _ _ s₃
  refine wpAny_execs_cons (ex_newlist (ds := []) rfK c3 (.inl rfl) .nil (Nat.zero_le _) fun r1 v1 s₄ hr1 hf1 pl1 rd1 c4 o4 f4 => ?_)
  have k4 := onk k3 o4
  show wpAny _ _ (execs (_ :: _) _) _ _ s₄
  refine wpAny_execs_cons (ex_newlist (ds := []) rfK c4 (.inl rfl) .nil (Nat.zero_le _) fun r2 v2 s₅ hr2 hf2 pl2 rd2 c5 o5 f5 => ?_)
  have k5 := onk k4 o5
  have sr5 : SameRest s s₅ := (sr3.trans f4).trans f5
  have i1 : IntsAre v1.toList [] := by cases v1 with | mk l => cases rd1; exact .nil
  have i2 : IntsAre v2.toList [] := by cases v2 with | mk l => cases rd2; exact .nil
  have fr1 : s.heap.get? r1 = none := by
    cases z : s.heap.get? r1 with
    | none => rfl
    | some o => rw [k3 _ _ z] at hr1; cases hr1
  have fr2 : s.heap.get? r2 = none := by
    cases z : s.heap.get? r2 with
    | none => rfl
    | some o => rw [k4 _ _ z] at hr2; cases hr2
  have nr1 : r1 ≠ L := fun e => hf1 (.inl e)
  have nr2 : r2 ≠ L := fun e => hf2 (.inl e)
  have n12 : r1 ≠ r2 := fun e => by
    obtain ⟨n, q⟩ := pl1
    rw [e, hr2] at q; cases q
  have o : Own3 (fun b => ((X b ∨ b = L) ∨ b = r1) ∨ b = r2) s.heap outer L r1 r2 := ⟨⟨.inl (.inl (.inr rfl)), .inl (.inr rfl), .inr rfl⟩, ⟨hLn, fr1, fr2⟩, ⟨nr1, nr2, n12⟩, fo, fun b hb => .inl (.inl (.inl (hX b hb)))⟩
  have fo5 : FrOk s₅.heap outer := fo.kp (Kp.of_up (F := []) k5)
  have sh5 : SH hb (fun b => ((X b ∨ b = L) ∨ b = r1) ∨ b = r2) (lEnv L (fa 1) (fc 1)) outer s.heap r1 r2 (lρ xs ys r1 r2 0 0) [] [] s₅.heap :=
    ⟨c5.sub (lρ_sub rfl rfl rfl rfl rfl rfl), ⟨v1, pl1.at fun ob q => o5 r1 ob hf1 q, i1⟩, ⟨v2, pl2, i2⟩, Kp.of_up k5, fo5⟩
  generalize hXX : (fun b => ((X b ∨ b = L) ∨ b = r1) ∨ b = r2) = X' at o sh5
  have hlen := hS.len
  show wpAny _ _ (execs (_ :: _) _) _ _ s₅
  refine wpAny_execs_cons (wpAny_mono (Q := fun fl s' => fl = .next ∧ FinS hb s L (fa 1) (fc 1) outer r1 r2 M U s') (E := fun _ _ => False) ?mid (fun fl s' hm => ?_) (fun _ _ hf => hf.elim))
  case mid =>
    refine wpAny_While ?_
    refine codeAny_whileLoop (fun n s' => ∃ i j mM mU, n = (xs.length - i) + (ys.length - j) ∧ Inv hb X' s L (fa 1) (fc 1) outer r1 r2 xs ys M U i j mM mU s') ?_ _ ⟨0, 0, [], [], rfl, sh5, Nat.zero_le _, Nat.zero_le _, sr5, M, U, hS, rfl, rfl⟩
    rintro n s' ⟨i, j, mM, mU, rfl, I⟩
    refine isTrue_plain ?_
    show wpAny _ _ (pure (Value.bool true) : Sem Value) _ _ _
    refine wpAny_pure (wpAny_truthy_bool ?_)
    rw [if_pos rfl]
    show wpAny _ _ (execs [.Try sldTry.1 sldTry.2 [] [] _] _) _ _ s'
    refine wpAny_execs_cons (try_run hx (by omega) o hA hfr' gd I (fun i2 j2 mM2 mU2 s2 I2 hlt => wpAny_execs_nil ?_) fun s2 fin => ⟨rfl, fin⟩)
    obtain ⟨_, a1, a2, _⟩ := id I
    obtain ⟨_, b1, b2, _⟩ := id I2
    exact ⟨_, by omega, i2, j2, mM2, mU2, rfl, I2⟩
  obtain ⟨rfl, X2, ρ2, o2', sh, lm, lu, sr⟩ := hm
  show wpAny _ _ (execs (_ :: _) _) _ _ s'
  obtain ⟨w1, q1, j1, z1⟩ := sh.l1.len
  obtain ⟨w2, q2, j2, z2⟩ := sh.l2.len
  have g1 : Rd X s'.heap (.ref r1) (.list (M.map .int)) := by
    obtain ⟨n, q⟩ := q1
    exact Rd.mkList (fun x => by have := tk _ x; rw [fr1] at this; cases this) q (RdL.ofInts j1)
  have g2 : Rd X s'.heap (.ref r2) (.list (U.map .int)) := by
    obtain ⟨n, q⟩ := q2
    exact Rd.mkList (fun x => by have := tk _ x; rw [fr2] at this; cases this) q (RdL.ofInts j2)
  have tkX : Taken X s'.heap := fun b x => by
    obtain ⟨ob, q⟩ := Option.isSome_iff_exists.mp (tk b x)
    obtain ⟨sl, q'⟩ := sh.kp.data q
    rw [q']; rfl
  refine wpAny_execs_cons (wpAny_Return_some (ev_tuple (X := X) (I := fun h => Cx hb X2 (lEnv L (fa 1) (fc 1)) ρ2 h ∧ Up s'.heap h) (ds := [.list (M.map .int), .list (U.map .int)]) keepsOk (fun h h' k i => ⟨cx_up _ _ k i.1, i.2.tr k⟩) (fun h i => tkX.up i.2)
    (.cons (ev_name keepsOk (by rfl) (fun h i => ?n1) (by decide)) (upRd _) (by rfl) (.cons (ev_name keepsOk (by rfl) (fun h i => ?n2) (by decide)) (upRd _) (by rfl) .nil)) (show (2 : Nat) ≤ sizeLine by decide) s' ⟨sh.cx, Up.rfl'⟩ _ _ fun v s'' r hv => ?_))
  case n1 =>
    obtain ⟨v, hv, hz'⟩ := i.1.st "missing" _ lm
    change v = _ at hz'
    subst hz'
    exact ⟨_, hv, g1.up i.2⟩
  case n2 =>
    obtain ⟨v, hv, hz'⟩ := i.1.st "unexpected" _ lu
    change v = _ at hz'
    subst hz'
    exact ⟨_, hv, g2.up i.2⟩
  exact hQ v s'' (sh.kp.trans (Kp.of_up (keepsOk.up r))) (sr.trans (rfK.of r)) hv
end
end Mine
end

/-! part N1 -/
section
open PySem PySem.W PySem.Spec PySem.Calls PyProof.Rows
set_option Elab.async false
set_option linter.unusedVariables false
set_option maxRecDepth 100000
namespace Mine
section
variable {prog : Program} {w : World} {A : Around} {env : Env} {R F : Shared → Shared → Prop} {I : Heap → Prop} {hb : Heap} {X : Addr → Prop} {ρ : List (Str × VS)}

/-- the sum of a list of ints -/
def isum (ns : List Int) : Int := preSum (fun i => ns.getD i 0) ns.length
theorem ints_at : ∀ {vs : List Value} {ns : List Int}, IntsAre vs ns → ∀ (i : Nat) v, vs[i]? = some v → ∃ t, v = .int (ns.getD i 0) t
  | _, _, .nil, i, v, h => by simp at h
  | _, _, .cons n t r, 0, v, h => by simp at h; subst h; exact ⟨t, by simp⟩
  | _, _, .cons n t r, i + 1, v, h => by
    obtain ⟨t', e⟩ := ints_at r i v (by simpa using h)
    exact ⟨t', by simpa using e⟩
theorem cal_sum {ns : List Int} (hR : RelOk R) (hA : A.handled = none) : Cal prog w A R I (.builtin "sum") [fun h v => Rd X h v (.list (ns.map .int))] (fun h v => Rd X h v (.int (isum ns))) := fun s vs ii hv Q E h => by
  cases hv with
  | cons p q =>
    cases q
    obtain ⟨a, vs, n, rfl, ha, ho, hl⟩ := p.list_inv
    have hL : s.heap.IsList a vs := ⟨_, ho, rfl, n, rfl⟩
    have k : Up s.heap (s.heap.push { cls := .type "list_iterator", data := .fields #[.ref a, .int 0 0] }) := fun _ _ e => Heap.get?_push_of_some _ e
    have hne : a ≠ s.heap.objs.size := fun e => by rw [e, get_size] at ho; cases ho
    have hlen : vs.size = ns.length := by have := hl.length; simpa using this
    refine call_sum_walkG (wpAny_pyIter_list hL ?_)
    refine ⟨s.heap.objs.size, [s.heap.objs.size, a], [s.heap.objs.size], vs.size, _, _, fun i => ns.getD i 0, rfl, Walks.list (A := A.in1) hA s.heap.objs.size a hne vs, ⟨⟨_, Heap.get?_push_size _ rfl, rfl, rfl⟩, ⟨_, k _ _ ho, rfl, n, rfl⟩⟩, ?_, ?_, ?_⟩
    · intro b hb
      rw [Heap.size_push]
      simp only [List.mem_cons, List.not_mem_nil, or_false] at hb
      rcases hb with rfl | rfl
      · exact Nat.lt_succ_self _
      · exact Nat.lt_succ_of_lt (Heap.lt_size ho)
    · intro i v hv
      exact ints_at hl.ints i v (by simpa using hv)
    · intro h' tk t' hk
      refine h _ { s with heap := h', toks := tk } (hR.keeps s h' tk fun b o q => hk b o (fun z => ?_) (k b o q)) ?_
      · rw [List.mem_singleton.mp z, get_size] at q; cases q
      · rw [hlen]; exact .int _ _

theorem op_mulList {ns : List Int} {k : Nat} (hR : RelOk R) (hX : ∀ h, I h → Taken X h) (hk : k ≤ 100) (hn : ns.length ≤ 1000) :
    Op2 prog w A R I (binaryOp .Mult) (fun h v => Rd X h v (.list (ns.map .int))) (fun h v => Rd X h v (.int (k : Int))) (fun h v => Rd X h v (.list ((List.replicate k ns).flatten.map .int))) := fun s v u i p q Q E h => by
  obtain ⟨a, vs, n, rfl, ha, ho, hl⟩ := p.list_inv
  obtain ⟨t, rfl⟩ := q.int_inv
  have hlen : vs.size = ns.length := by have := hl.length; simpa using this
  have hsz : vs.size * (k : Int).toNat ≤ 2 ^ 24 := by
    rw [Int.toNat_natCast, hlen]
    have : ns.length * k ≤ 1000 * 100 := Nat.mul_le_mul hn hk
    omega
  obtain ⟨x, hx⟩ : ∃ x : Int, x = (k : Int) := ⟨_, rfl⟩
  have hx0 : x.toNat = k := by omega
  have hxl : -(2 ^ 63 : Int) ≤ x := by omega
  have hxh : x < 2 ^ 63 := by omega
  have hxn : ¬ x < 0 := by omega
  rw [← hx] at hsz ⊢
  clear hx
  refine wpAny_binaryOp_repeat_ref (T := "list") (U := "int") (by decide) ⟨_, ho, rfl⟩ (fun s' => typeIs_int s' _ _) noFill_list_mul F.fills_int_mul F.slot_int_rmul repeat_list F.slot_int_index.lookup
    (call_meets F.slot_int_rmul (typeIs_int s _ _) F.entry_int_rmul (F.args_int_rmul_2 _ _) (int___rmul___int_list _ _ a vs n)
      ⟨ho, rfl, ⟨_, ho, rfl⟩, call_meets F.slot_list_mul ⟨_, ho, rfl⟩ F.entry_list_mul (F.args_list_mul_2 _ _)
        (AutoListH.list___mul___list_int_3 a vs n _ _ (by simp [Builtin.List.listFitsIndex]; omega) (by omega) (by simp [Builtin.List.listTooLong, sizeLine]; simpa using hsz))
        ⟨ho, ?_⟩⟩)
  refine h _ { s with heap := s.heap.push _ } (hR.keeps s _ _ fun _ _ e => Heap.get?_push_of_some _ e) (Rd.mkList (n := 0) (hX _ i).new (Heap.get?_push_size _ rfl) ?_)
  have hi := hl.ints
  have e : (List.foldl (fun x1 x2 => x1 ++ x2) #[] (List.replicate (if vs.isEmpty = true then 0 else x.toNat) vs)).toList = (List.replicate k vs.toList).flatten := by
    have f : ∀ (m : Nat) (acc : Array Value), (List.foldl (fun x1 x2 => x1 ++ x2) acc (List.replicate m vs)).toList = acc.toList ++ (List.replicate m vs.toList).flatten := by
      intro m
      induction m with
      | zero => intro acc; simp
      | succ m ih => intro acc; rw [List.replicate_succ, List.foldl_cons, ih]; simp [List.replicate_succ]
    rw [f]
    by_cases hv : vs.isEmpty = true
    · rw [if_pos hv]
      have : vs.toList = [] := by simpa using hv
      rw [this]; simp
    · rw [if_neg hv, hx0]; simp
  rw [e]
  refine RdL.ofInts ?_
  have g : ∀ m : Nat, IntsAre (List.replicate m vs.toList).flatten (List.replicate m ns).flatten := by
    intro m
    induction m with
    | zero => exact .nil
    | succ m ih => rw [List.replicate_succ, List.replicate_succ, List.flatten_cons, List.flatten_cons]; exact ints_app hi ih
  exact g k

theorem cal_sorted {ns r : List Int} (hR : RelOk R) (hX : ∀ h, I h → Taken X h) (hp : r.Perm ns) (hs : r.Pairwise (· ≤ ·)) (h64 : ns.length < 64) : Cal prog w A R I (.builtin "sorted") [fun h v => Rd X h v (.list (ns.map .int))] (fun h v => Rd X h v (.list (r.map .int))) := fun s vs ii hv Q E h => by
  cases hv with
  | cons p q =>
    cases q
    obtain ⟨a, vs, n, rfl, ha, ho, hl⟩ := p.list_inv
    have hL : s.heap.IsList a vs.toList.toArray := ⟨_, ho, rfl, n, by simp⟩
    have hlen : vs.toList.length = ns.length := by have := hl.length; simpa using this
    refine sorted_ints hL hl.ints (by rw [hlen]; exact h64) fun out ns' hi hp' hs' => ?_
    have e : ns' = r := List.Perm.eq_of_pairwise (le := (· ≤ ·)) (fun a b _ _ h1 h2 => Int.le_antisymm h1 h2) hs' hs (hp'.trans hp.symm)
    subst e
    obtain ⟨e, he⟩ := sortedAll_at s.heap vs.toList out
    have k : Up s.heap (sortedAll s.heap vs.toList out) := fun b o q => sortedAll_old q
    refine h _ { s with heap := sortedAll s.heap vs.toList out } (hR.keeps s _ _ k) (Rd.mkList (fun x => ?_) he (RdL.ofInts hi))
    obtain ⟨o, q⟩ := Option.isSome_iff_exists.mp (hX _ ii _ x)
    exact absurd (Heap.lt_size q) (Nat.not_lt.mpr (Nat.le_succ _))

theorem cal_list {ds : List PyData} (hR : RelOk R) (hX : ∀ h, I h → Taken X h) (hsz : ds.length ≤ sizeLine) : Cal prog w A R I (.type "list") [fun h v => Rd X h v (.list ds)] (fun h v => Rd X h v (.list ds)) := fun s vs ii hv Q E h => by
  cases hv with
  | cons p q =>
    cases q
    obtain ⟨a, vs, n, rfl, ha, ho, hl⟩ := p.list_inv
    refine call_list_seq a (T := "list") (.inl rfl) ho rfl rfl (fun h' c' k hn => ?_) (by have := hl.length; simp at this; omega)
    exact h _ { s with heap := h' } (hR.keeps s _ _ k) (Rd.mkList (hX _ ii).new hn (hl.up k))

theorem cal_chr {n : Nat} (hR : RelOk R) (hn : n ≤ 1114111) : Cal prog w A R I (.builtin "chr") [fun h v => Rd X h v (.int (n : Int))] (fun h v => Rd X h v (.str ⟨#[n]⟩)) := fun s vs ii hv Q E h => by
  cases hv with
  | cons p q =>
    cases q
    obtain ⟨t, rfl⟩ := p.int_inv
    exact chr_of_range (by omega) (by omega) (h _ _ (hR.keeps s s.heap _ fun _ _ e => e) (.str _ _))

/-- l[p::k] of ints -/
theorem ev_step {l lo st : Expr} {ns : List Int} {a k : Int} {p pos : Pos} (hR : RelOk R) (hI : UpC I) (hX : ∀ h, I h → Taken X h) (h1 : Ev prog w A R env I l (fun h v => Rd X h v (.list (ns.map .int)))) (h2 : Ev prog w A R env I lo (fun h v => Rd X h v (.int a))) (h3 : Ev prog w A R env I st (fun h v => Rd X h v (.int k)))
    (hk : k ≠ 0) (hsz : ns.length ≤ sizeLine) (ht : ∀ o r, letTemporaryGo l o r = pure () := by intro _ _; rfl) :
    Ev prog w A R env I (.Subscript l (.Slice (some lo) none (some st) p) pos) (fun h v => Rd X h v (.list ((pickNums ns (some a) none (some k)).map .int))) := fun s ii Q E h => by
  refine Subscript_ (h1 s ii _ _ fun v s₁ r₁ p1 => wpAny_Slice ?_)
  rw [evalPart_some, evalPart_none, evalPart_some]
  refine h2 s₁ (hI _ _ (hR.up r₁) ii) _ _ fun u s₂ r₂ p2 => wpAny_pure (h3 s₂ (hI _ _ (hR.up (hR.trans r₁ r₂)) ii) _ _ fun u' s₃ r₃ p3 => ?_)
  have r0 := hR.trans (hR.trans r₁ r₂) r₃
  have p1 := p1.up (hR.up (hR.trans r₂ r₃))
  obtain ⟨b, vs, n, rfl, hb, ho, hl⟩ := p1.list_inv
  obtain ⟨t, rfl⟩ := p2.int_inv
  obtain ⟨t', rfl⟩ := p3.int_inv
  have hlen : vs.size = ns.length := by have := hl.length; simpa using this
  have hL : s₃.heap.IsList b vs := ⟨_, ho, rfl, n, rfl⟩
  refine subscriptTail_ops (ops := [.ref b, .ref s₃.heap.objs.size]) (Heap.IsList.typeIs (s := { s₃ with heap := s₃.heap.push { cls := .type "slice", data := .fields #[.int a t, .none, .int k t'] } }) (hL.push _)) list_getitem_lookup
    (wpAny_getItem_list_slice (hL.push _) (Heap.IsSliceOf.new ..) (.int a t) .none (.int k t') (by simpa using hk) ?_ (by rw [hlen]; exact hsz)) (by with_unfolding_all rfl) (fun r => ht _ _)
  have k2 : Up s₃.heap ((s₃.heap.push { cls := .type "slice", data := .fields #[.int a t, .none, .int k t'] }).push { cls := .type "list", data := .seq (slicePick vs (some a) none (some k)) }) := fun _ _ e => Heap.get?_push_of_some _ (Heap.get?_push_of_some _ e)
  have hI3 := hI _ _ (hR.up r0) ii
  refine h _ { s₃ with heap := (s₃.heap.push { cls := .type "slice", data := .fields #[.int a t, .none, .int k t'] }).push { cls := .type "list", data := .seq (slicePick vs (some a) none (some k)) } } (hR.trans r0 (hR.keeps s₃ _ _ k2)) (Rd.mkList (n := 0) (fun x => ?_) (Heap.get?_push_size _ rfl) (RdL.ofInts ?_))
  · obtain ⟨o, ho'⟩ := Option.isSome_iff_exists.mp (hX _ hI3 _ x)
    exact absurd (Heap.lt_size ho') (Nat.not_lt.mpr (by rw [Heap.size_push]; exact Nat.le_succ _))
  · have := IntsAre.pick (vs := vs.toList) hl.ints (some a) none (some k)
    simpa using this

theorem ev_ifexp {test body orelse : Expr} {pos : Pos} {b : Bool} {P : Heap → Value → Prop} (hR : RelOk R) (hI : UpC I) (ht : Tst prog w A R env I test b) (h1 : b = true → Ev prog w A R env I body P) (h2 : b = false → Ev prog w A R env I orelse P) : Ev prog w A R env I (.IfExp test body orelse pos) P := fun s ii Q E h => by
  refine IfExp_ (ht s ii _ _ fun s' r => ?_)
  have ii' := hI _ _ (hR.up r) ii
  cases b with
  | true => exact h1 rfl s' ii' Q E fun v s'' r' p => h v s'' (hR.trans r r') p
  | false => exact h2 rfl s' ii' Q E fun v s'' r' p => h v s'' (hR.trans r r') p

/-- a sign of a text -/
theorem ev_sign {v e : Expr} {x : Str} {i c : Nat} {pos : Pos} (hR : RelOk R) (hI : UpC I) (h1 : Ev prog w A R env I v (fun h v => Rd X h v (.str x))) (h2 : Ev prog w A R env I e (fun h v => Rd X h v (.int (i : Int)))) (hf : i < 2 ^ 60) (hc : x.cps[i]? = some c)
    (hs : ∀ o iv, subscripted e false o iv = operate [o, iv] (getItem o iv) := by intro _ _; with_unfolding_all rfl) (ht : ∀ o r, letTemporaryGo v o r = pure () := by intro _ _; with_unfolding_all rfl) :
    Ev prog w A R env I (.Subscript v e pos) (fun h v => Rd X h v (.str ⟨#[c]⟩)) := fun s ii Q E h => by
  refine Subscript_ (ev_seq2 hR hI h1 h2 (upRd _) ii fun u iv s' r p q => ?_)
  obtain ⟨t, rfl⟩ := p.str_inv
  obtain ⟨t', rfl⟩ := q.int_inv
  refine subscriptTail_builtin (typeIs_str s' x t) PySem.F.slot_str_getitem.lookup ?_ (hs _ _) (fun r => ht _ _)
  refine getItem_gives (typeIs_str s' x t) (by decide) PySem.F.slot_str_getitem PySem.F.entry_str_getitem (PySem.F.args_str_getitem_2 _ _) (gives_str_getitem x (i : Int) t t' c (by simp; omega) ?_) ⟨(show 1 ≤ sizeLine by decide), h _ _ (hR.trans r (hR.keeps s' s'.heap _ fun _ _ e => e)) (.str _ _)⟩
  have hi : i < x.length := (Array.getElem?_eq_some_iff.mp hc).1
  have : seqIndex? (i : Int) x.length = some i := by
    unfold seqIndex?
    have h0 : ¬ ((i : Int) < 0) := by omega
    simp [h0, hi]
  rw [this]; exact hc
end
end Mine
end

/-! part N2 -/
section
open PySem PySem.W PySem.Spec PySem.Calls PyProof.Rows
set_option Elab.async false
set_option linter.unusedVariables false
set_option maxRecDepth 100000
namespace Mine
section
variable {prog : Program} {w : World} {A : Around} {env : Env} {R F : Shared → Shared → Prop} {hb : Heap} {X : Addr → Prop} {ρ : List (Str × VS)} {s : Shared} {E : Value → Shared → Prop}

/-- the heap with a name bound anew -/
theorem cx_stored {h h' : Heap} {y : Str} {z : VS} {v : Value} {m : Str → Option Value} (c : Cx hb X env ρ h) (hy : env.kindOf y = some .local) (n : h.Ns env.locals m) (hn' : h'.Ns env.locals (fun q => if q = y then some v else m q)) (oth : ∀ b o, b ≠ env.locals → h.get? b = some o → h'.get? b = some o) (hz : z.Ok X h v) : Cx hb X env ((y, z) :: ρ) h' := by
  obtain ⟨w, t, tk, up, fr⟩ := c
  have hX : ∀ b o, ¬ X b → h.get? b = some o → h'.get? b = some o := fun b o hb q => oth b o (fun e => hb (e ▸ w.xl)) q
  refine ⟨{ w with loc := ⟨_, hn'⟩, cell := fun n' c e => ?_, nm := Names.off w.nm w.xg hX }, fun y' z' e => ?_, fun b x => ?_, fun b o q => hX b o (fr b o q) (up b o q), fr⟩
  · obtain ⟨⟨o, p, i⟩, r⟩ := w.cell n' c e
    exact ⟨⟨o, p, oth c p r.2 i.1, i.2⟩, r⟩
  · rw [List.lookup_cons] at e
    by_cases hyy : y' = y
    · subst hyy; simp at e; subst e
      exact ⟨v, .inl ⟨hy, _, hn', by rw [if_pos rfl]⟩, hz.to hX⟩
    · have : (y' == y) = false := beq_eq_false_iff_ne.mpr hyy
      rw [this] at e
      obtain ⟨v', a, b⟩ := t y' z' e
      refine ⟨v', ?_, b.to hX⟩
      rcases a with ⟨a, m', n', e2⟩ | ⟨a, c, e2, i⟩ | ⟨a, mg, n', e2⟩
      · refine .inl ⟨a, _, hn', ?_⟩
        rw [if_neg hyy, Heap.Ns.agree n n' y']; exact e2
      · obtain ⟨o, ho, hd⟩ := i
        exact .inr (.inl ⟨a, c, e2, o, oth c o ((w.cell y' c e2).2.2) ho, hd⟩)
      · have g : ¬ X env.globals := w.globals ▸ w.xg.1
        have b' : ¬ X env.builtins := w.builtins ▸ w.xg.2
        refine .inr (.inr ⟨a, mg, n'.at' fun o q => hX _ o g q, ?_⟩)
        rcases e2 with e2 | ⟨e2, mb, nb, eb⟩
        · exact .inl e2
        · exact .inr ⟨e2, mb, nb.at' fun o q => hX _ o b' q, eb⟩
  · by_cases hbl : b = env.locals
    · subst hbl
      obtain ⟨o, _, _, ho, _⟩ := hn'
      rw [ho]; rfl
    · obtain ⟨o, ho⟩ := Option.isSome_iff_exists.mp (tk b x)
      rw [oth b o hbl ho]; rfl

/-- y = [.. for x in ..], y local -/
theorem ex_assignComp {elt iter : Expr} {x y : Str} {px py : Pos} {ifs : List Expr} {scope : Scope} {cl : List (Str × Addr)} {pos spos : Pos} {ds : List PyData} {p : PyData → Bool} {g : PyData → PyData} {Q : Flow → Shared → Prop} (rf : RF R F) (c : Cx hb X env ρ s.heap) (hy : env.kindOf y = some .local)
    (hsrc : Src prog w A R env (Cx hb X env ρ) iter ds) (hlen : ds.length ≤ sizeLine) (hok : CompOk prog w A env (Cx hb X env ρ) scope cl x ifs elt ds p g)
    (h : ∀ s', Cx hb X env ((y, .dat (.list ((ds.filter p).map g))) :: ρ) s'.heap → Only env s.heap s'.heap → F s s' → Q .next s')
    (hsw : swapsWith (.ListComp elt [⟨.Name x px, iter, ifs, 0⟩] scope pos) (some (.Name y py)) spos.line env = pure true)
    (hclos : closureFor scope env = pure cl) (hcell : ∀ y ∈ scope.names, y.2 ≠ .cell) (hkind : scope.kind = .function)
    (hnames : ∀ y ∈ scope.names, y.2 = .local → scope.names.lookup y.1 = some .local) (hx : scope.names.lookup x = some .local)
    (hs : ∀ x, foldedSetIterable iter env x = pure x := by intro _; rfl) :
    wpAny (model prog w) A (exec (.Assign [.Name y py] (.ListComp elt [⟨.Name x px, iter, ifs, 0⟩] scope pos) spos) env) Q E s := by
  refine wpAny_Assign_ListComp_free (fun v => p (toD v)) (fun v y => Sc y (g (toD v))) hsw hclos hcell hkind hnames hx hy (by rw [c.wf.kind]; rfl) (hsrc s c _ _ ?_) hs
  intro It fp wr P St s₁ h₂ tk₂ r₁ k₂ W hst hfp hwr hP
  have stay : ∀ s₃ : Shared, (∀ b o, b ∉ wr → h₂.get? b = some o → s₃.heap.get? b = some o) → Up s₁.heap s₃.heap := fun s₃ hk b o e => hk b o (fun hb => by rw [hwr b hb] at e; cases e) (k₂ b o e)
  have c1 := cx_up _ _ (rf.ok.up r₁) c
  have c2 := cx_up _ _ k₂ c1
  obtain ⟨m, hm⟩ := c2.wf.loc
  obtain ⟨m1, hm1⟩ := c1.wf.loc
  have hLw : env.locals ∉ wr := fun hw => by
    obtain ⟨o, _, _, ho, _⟩ := hm1
    rw [hwr _ hw] at ho; cases ho
  refine ⟨It, fp, wr, ds.length, P, St, m, rfl, W, hlen, hst, hfp, hLw, hm, ⟨?_, ?_⟩, ?_⟩
  · intro C j v s₃ m₃ E' _ hv hn hm' hk _
    obtain ⟨d, hd, sc⟩ := hP j v hv
    have := hok.test C v d sc (List.mem_of_getElem? hd)
    rw [show p (toD v) = p d by rw [sc.toD]]
    exact ifs_run this ⟨cx_up _ _ ((rf.ok.up r₁).tr (stay s₃ hk)) c, sees_comp hx hn hm'⟩
  · intro C j v s₃ m₃ E' _ hv hp hn hm' hk _
    obtain ⟨d, hd, sc⟩ := hP j v hv
    rw [sc.toD] at hp
    refine hok.elt C v d sc (List.mem_of_getElem? hd) hp s₃ ⟨cx_up _ _ ((rf.ok.up r₁).tr (stay s₃ hk)) c, sees_comp hx hn hm'⟩ _ _ fun y s₄ k₄ sc' => ⟨?_, k₄⟩
    rw [sc.toD]; exact sc'
  · intro D h' tk ys vs hD hL hpl hlen' hPv hF hn' hk
    have hvs : vs.map toD = ds := by
      refine List.ext_getElem? fun j => ?_
      rw [List.getElem?_map]
      cases hj : vs[j]? with
      | none =>
        have : ds[j]? = none := by
          rw [List.getElem?_eq_none_iff] at hj ⊢; omega
        rw [this]; rfl
      | some v =>
        obtain ⟨d, hd, sc⟩ := hP j v (hPv j v hj)
        rw [hd, Option.map_some, sc.toD]
    have oth : ∀ b o, b ≠ env.locals → s₁.heap.get? b = some o → h'.get? b = some o := fun b o hb e => hk b o hb (fun hb => by rw [hwr b hb] at e; cases e) (k₂ b o e)
    obtain ⟨n, ho⟩ := hpl
    have hD1 : s₁.heap.get? D = none := by
      cases e : s₁.heap.get? D with
      | none => rfl
      | some o => rw [k₂ _ _ e] at hD; cases hD
    have hf : (vs.filter fun v => p (toD v)).map toD = ds.filter p := by
      rw [← hvs, List.filter_map]; rfl
    have rd : Rd X h' (.ref D) (.list ((ds.filter p).map g)) := by
      refine Rd.mkList (c1.tk.fresh hD1) ho ?_
      rw [← hf]
      exact paired_rdl (fun _ _ z => z) hF
    have hme : ∀ q, m q = m1 q := fun q => Heap.Ns.agree hm (hm1.keeps k₂) q
    have hn1 : h'.Ns env.locals (fun q => if q = y then some (.ref D) else m1 q) := by
      have : (fun z => if z = y then some (Value.ref D) else m z) = (fun q => if q = y then some (.ref D) else m1 q) := funext fun q => by rw [hme q]
      rw [← this]; exact hn'
    have c' : Cx hb X env ((y, .dat (.list ((ds.filter p).map g))) :: ρ) h' := by
      have base := cx_stored (z := .val (.ref D)) c1 hy hm1 hn1 oth rfl
      refine ⟨base.wf, fun y' z' e => ?_, base.tk, base.up, base.fresh⟩
      rw [List.lookup_cons] at e
      by_cases hyy : y' = y
      · subst hyy; simp at e; subst e
        exact ⟨.ref D, .inl ⟨hy, _, hn1, by rw [if_pos rfl]⟩, rd⟩
      · have : (y' == y) = false := beq_eq_false_iff_ne.mpr hyy
        rw [this] at e
        exact base.st y' z' (by rw [List.lookup_cons, this]; exact e)
    exact h ⟨h', s₁.gens, s₁.drawn, tk, s₁.os⟩ c' (fun b o hb q => oth b o (fun e => hb (.inl e)) (rf.ok.up r₁ b o q)) (rf.trans (rf.of r₁) (rf.heap s₁ h' tk))

/-- a name of the frame, within a comprehension's own -/
theorem ev_free {env' : Env} {I : Heap → Prop} {y : Str} {z : VS} {pos : Pos} {c : Addr} (hR : RelOk R) (hi : ∀ h, I h → Cx hb X env ρ h) (hk : env'.scope.kind = .function) (e : ρ.lookup y = some z) (hc : env.kindOf y = some .cell) (hl : env.cells.lookup y = some c) (hf : env'.kindOf y = some .cell) (hl' : env'.cells.lookup y = some c)
    (hd : (y == ("__debug__" : Str)) = false := by decide) : Ev prog w A R env' I (.Name y pos) (fun h v => z.Ok X h v) :=
  ev_name hR hk (fun h i => by
    obtain ⟨v, a, b⟩ := (hi h i).st y z e
    refine ⟨v, ?_, b⟩
    rcases a with ⟨a, _⟩ | ⟨_, c', e2, ic⟩ | ⟨a, _⟩
    · rw [hc] at a; cases a
    · rw [hl] at e2; cases e2
      exact .inr (.inl ⟨.inl hf, c, hl', ic⟩)
    · rw [hc] at a; cases a) hd
/-- the loop's own name, within a comprehension -/
theorem ev_it {env' : Env} {I : Heap → Prop} {x : Str} {v : Value} {d : PyData} {pos : Pos} (hR : RelOk R) (hk : env'.scope.kind = .function) (sc : Sc v d) (hi : ∀ h, I h → Sees env' h x v) (hd : (x == ("__debug__" : Str)) = false := by decide) : Ev prog w A R env' I (.Name x pos) (fun h v => Rd X h v d) :=
  ev_name hR hk (fun h i => ⟨v, hi h i, sc.rd⟩) hd

theorem cell_apart : ∀ {cs : List (Str × Addr)}, cs.Pairwise (fun x y => x.2 ≠ y.2) → ∀ {n c n' c'}, (n, c) ∈ cs → (n', c') ∈ cs → n ≠ n' → c ≠ c'
  | [], _, _, _, _, _, h, _, _ => nomatch h
  | a :: cs, hp, n, c, n', c', h, h', hn => by
    obtain ⟨p1, p2⟩ := List.pairwise_cons.mp hp
    rcases List.mem_cons.mp h with e | h
    · rcases List.mem_cons.mp h' with e' | h'
      · rw [← e'] at e
        exact absurd (Prod.mk.inj e).1 hn
      · have := p1 _ h'
        rw [← e] at this; exact this
    · rcases List.mem_cons.mp h' with e' | h'
      · have := p1 _ h
        rw [← e'] at this; exact Ne.symm this
      · exact cell_apart p2 h h' hn

/-- a frame with cells, at its start -/
theorem cx_entryC {hb h₀ h₁ : Heap} {X : Addr → Prop} {f : Addr} {cd : Value} {d : DefRec} {m cm : Str → Option Value} {ρ : List (Str × VS)} {mg mb} (Fr' : Fr h₀ h₀.objs.size h₁ m) (C : Cl h₀.objs.size (cellsFrom (h₀.objs.size + 1) d.scope.names []) h₁ cm) (N : Names hb mg mb) (up : Up hb h₀) (tk : Taken X h₀) (fresh : ∀ b o, hb.get? b = some o → ¬ X b) (hk : d.scope.kind = .function)
    (ha : ∀ y z, ρ.lookup y = some z → ∃ v, ((d.scope.names.lookup y = some .local ∧ m y = some v) ∨ (d.scope.names.lookup y = some .cell ∧ (∃ c, (cellsFrom (h₀.objs.size + 1) d.scope.names []).lookup y = some c) ∧ cm y = some v)) ∧ z.Ok X h₀ v) :
    Cx hb (fun b => X b ∨ Fb (envOfC d.name d.scope h₀.objs.size f cd) b) (envOfC d.name d.scope h₀.objs.size f cd) ρ h₁ := by
  obtain ⟨ns, keep, _⟩ := Fr'
  have hL : h₀.get? h₀.objs.size = none := get_size h₀
  have hfb : ∀ b, Fb (envOfC d.name d.scope h₀.objs.size f cd) b → h₀.objs.size ≤ b := fun b x => by
    rcases x with rfl | ⟨n, e⟩
    · exact Nat.le_refl _
    · exact Nat.le_of_lt (C.above n b (lookup_mem e))
  have old : ∀ b o, h₀.get? b = some o → ¬ Fb (envOfC d.name d.scope h₀.objs.size f cd) b := fun b o q x => absurd (Heap.lt_size q) (Nat.not_lt.mpr (hfb b x))
  have ng : ∀ a, (∃ m, hb.Ns a m) → ¬ (X a ∨ Fb (envOfC d.name d.scope h₀.objs.size f cd) a) := fun a ⟨m, n⟩ z => by
    obtain ⟨o, _, _, h1, _⟩ := n
    exact z.elim (fresh a o h1) (old a o (up a o h1))
  refine ⟨⟨hk, rfl, rfl, ⟨_, ns⟩, .inr (.inl rfl), fun n c e => ⟨⟨_, C.cell n c e⟩, .inr (.inr ⟨n, e⟩), Nat.ne_of_gt (C.above n c (lookup_mem e))⟩, fun n c n' c' e e' hn => cell_apart C.apart (lookup_mem e) (lookup_mem e') hn, ⟨ng _ ⟨_, N.g⟩, ng _ ⟨_, N.b⟩⟩, ⟨mg, mb, (N.up up).up keep⟩⟩, fun y z e => ?_, fun b x => ?_, up.tr keep, fun b o e x => x.elim (fresh b o e) (old b o (up b o e))⟩
  · obtain ⟨v, h1, h3⟩ := ha y z e
    refine ⟨v, ?_, ?_⟩
    · rcases h1 with ⟨h1, h2⟩ | ⟨h1, ⟨c, hc⟩, h2⟩
      · exact .inl ⟨h1, m, ns, h2⟩
      · exact .inr (.inl ⟨.inl h1, c, hc, by have := C.cell y c hc; rw [h2] at this; exact this⟩)
    · cases z with
      | dat dd => exact Rd.to h3 (fun b o _ q => keep b o q) fun b o q x => x.elim id fun x => absurd x (old b o q)
      | val u => exact h3
  · rcases x with x | rfl | ⟨n, e⟩
    · obtain ⟨o, ho⟩ := Option.isSome_iff_exists.mp (tk b x)
      rw [keep b o ho]; rfl
    · obtain ⟨o, _, _, ho, _⟩ := ns
      show (h₁.get? h₀.objs.size).isSome = true
      rw [ho]; rfl
    · obtain ⟨o, ho, _⟩ := C.cell n b e
      rw [ho]; rfl
end
end Mine
end

/-! part C1 -/
section
open PySem PySem.W PySem.Spec PySem.Calls PyProof.Rows
set_option Elab.async false
set_option linter.unusedVariables false
set_option maxRecDepth 100000
namespace Mine
section
variable {prog : Program} {w : World} {A : Around} {env : Env} {R F : Shared → Shared → Prop} {hb : Heap} {X : Addr → Prop} {ρ : List (Str × VS)}

def starts : List Int := [3, 4, 13, 1, 0, 22, 0]
def cellAt (ns : List Int) (p : Nat) : Int := (starts.getD p 0 + isum (pickNums ns (some (p : Int)) none (some 8))).fmod 96
def cellsOf (ns : List Int) : List Int := (List.range 7).map (cellAt ns)
abbrev cEnv (i : Nat) (L f : Addr) (cd : Value) : Env := envOfC (dOf i).name (dOf i).scope L f cd

theorem upto_mem {n : Nat} {d : PyData} (h : d ∈ upto n) : ∃ p : Nat, p < n ∧ d = .int (p : Int) := by
  obtain ⟨i, hi, rfl⟩ := List.mem_map.mp h
  exact ⟨i, List.mem_range.mp hi, rfl⟩

theorem ev_comp' {I : Heap → Prop} {elt iter : Expr} {x : Str} {px : Pos} {ifs : List Expr} {scope : Scope} {cl : List (Str × Addr)} {pos : Pos} {ds ds' : List PyData} {p : PyData → Bool} {g : PyData → PyData} (he : (ds.filter p).map g = ds') (hR : RelOk R) (hI : UpC I) (hX : ∀ h, I h → Taken X h)
    (hsrc : Src prog w A R env I iter ds) (hlen : ds.length ≤ sizeLine) (hok : CompOk prog w A env I scope cl x ifs elt ds p g)
    (hclos : closureFor scope env = pure cl) (hcell : ∀ y ∈ scope.names, y.2 ≠ .cell) (hkind : scope.kind = .function)
    (hnames : ∀ y ∈ scope.names, y.2 = .local → scope.names.lookup y.1 = some .local) (hx : scope.names.lookup x = some .local)
    (hs : ∀ x, foldedSetIterable iter env x = pure x) :
    Ev prog w A R env I (.ListComp elt [⟨.Name x px, iter, ifs, 0⟩] scope pos) (fun h v => Rd X h v (.list ds')) := he ▸ ev_comp hR hI hX hsrc hlen hok hclos hcell hkind hnames hx hs
theorem ciUp {env' : Env} {x : Str} {v : Value} : UpC (fun h => Cx hb X env ρ h ∧ Sees env' h x v) := fun h h' k i => ⟨cx_up _ _ k i.1, i.2.up k⟩
theorem ev_sc {I : Heap → Prop} {e : Expr} {d : PyData} (he : Ev prog w A R env I e (fun h v => Rd X h v d)) (hs : isSc d = true) : Ev prog w A R env I e (fun _ v => Sc v d) := fun s i Q E h => he s i Q E fun v s' r p => h v s' r (p.sc hs)

theorem cells_call {ns : List Int} {va : Value} {mg mb fa fc} {s : Shared} {Q E : Value → Shared → Prop} (rm : Room A 2 10) (gd : Gd hb mg mb fa fc) (up : Up hb s.heap)
    (tk : Taken X s.heap) (fresh : ∀ b o, hb.get? b = some o → ¬ X b) (ra : Rd X s.heap va (.list (ns.map .int))) (hn : ns.length ≤ 1000)
    (hQ : ∀ v s', Up s.heap s'.heap → SameRest s s' → Rd X s'.heap v (.list ((cellsOf ns).map .int)) → Q v s') :
    wpAny (model prog w) A (call (.ref (fa 6)) [va]) Q E s := by
  obtain ⟨⟨o, pm, doc, ho, hd, hcd⟩, _⟩ := (gd.up up).fn 6 (by decide)
  refine wpAny_call (call_cells_ret (by have := rm.depth; omega) ho hd (gd.up up).nl hcd rfl (fun x hx => ?_) (fun h₁ tk₁ F₁ C₁ => ?_) rfl rfl rfl)
  · rw [List.mem_singleton.mp hx]; exact .inr ⟨rfl, rfl⟩
  have c0 : Cx hb (fun b => X b ∨ Fb (cEnv 6 s.heap.objs.size (fa 6) (fc 6)) b) (cEnv 6 s.heap.objs.size (fa 6) (fc 6)) [("script", .dat (.list (ns.map .int)))] h₁ := cx_entryC F₁ C₁ gd.nm up tk fresh rfl fun y z e => by
    have := lookup_mem e
    simp only [List.mem_singleton, Prod.mk.injEq] at this
    obtain ⟨rfl, rfl⟩ := this
    exact ⟨va, .inr ⟨rfl, ⟨_, rfl⟩, rfl⟩, ra⟩
  have k0 : Up s.heap h₁ := F₁.keep
  have hfo : ∀ b o, s.heap.get? b = some o → ¬ Fb (cEnv 6 s.heap.objs.size (fa 6) (fc 6)) b := fun b o q x => by
    rcases x with rfl | ⟨n, e⟩
    · exact absurd (Heap.lt_size q) (Nat.lt_irrefl _)
    · exact absurd (Heap.lt_size q) (Nat.not_lt.mpr (Nat.le_of_lt (C₁.above n b (lookup_mem e))))
  generalize s.heap.objs.size = L at c0 hfo
  generalize hX : (fun b => X b ∨ Fb (cEnv 6 L (fa 6) (fc 6)) b) = X' at c0
  generalize hs₁ : ({ s with heap := h₁, toks := tk₁ } : Shared) = s₁
  have sr1 : SameRest s s₁ := by subst hs₁; exact ⟨_, _, rfl⟩
  have e1 : s₁.heap = h₁ := by subst hs₁; rfl
  rw [← e1] at c0 k0
  have rm' : (A.deeper (cEnv 6 L (fa 6) (fc 6))).handled = none := rm.handled
  have hu : (A.deeper (cEnv 6 L (fa 6) (fc 6))).units + 7 < cLine := by rw [units_deeper]; have := rm.units; omega
  show wpAny _ (A.deeper (cEnv 6 L (fa 6) (fc 6))) (execs (_ :: _) (cEnv 6 L (fa 6) (fc 6))) _ _ s₁
  refine wpAny_execs_cons (ex_assign (z := .dat (.list (starts.map .int))) rfK c0 (.inr ⟨rfl, rfl⟩) (ev_list (X := X') keepsOk cx_up Cx.taken (.cons (ev_int (X := X') keepsOk) (upRd _) rfl (.cons (ev_int (X := X') keepsOk) (upRd _) rfl (.cons (ev_int (X := X') keepsOk) (upRd _) rfl (.cons (ev_int (X := X') keepsOk) (upRd _) rfl (.cons (ev_int (X := X') keepsOk) (upRd _) rfl (.cons (ev_int (X := X') keepsOk) (upRd _) rfl (.cons (ev_int (X := X') keepsOk) (upRd _) rfl .nil))))))) (show (7 : Nat) ≤ sizeLine by decide)) fun s₂ c2 o2 f2 => ?_)
  have k2 : Up s.heap s₂.heap := fun b o q => o2 b o (hfo b o q) (k0 b o q)
  show wpAny _ _ (execs (_ :: _) _) _ _ s₂
  refine wpAny_execs_cons (wpAny_Return_some ?_)
  refine ev_comp (X := X') (I := Cx hb X' (cEnv 6 L (fa 6) (fc 6)) [("starts", .dat (.list (starts.map .int))), ("script", .dat (.list (ns.map .int)))]) (ds := upto 7) (p := fun _ => true) (g := fun d => match d with | .int i => .int (cellAt ns i.toNat) | d => d) keepsOk cx_up Cx.taken
    (src_range (X := X') keepsOk cx_up rm' rfl (fun h c => (gd.up c.up).seesB rfl rfl rfl (by simp)) (ev_int (X := X') keepsOk) (by decide)) (show (7 : Nat) ≤ sizeLine by decide) ⟨fun C v d sc hd => ?tst, fun C v d sc hd _ => ?elt⟩ (by rfl) (by decide) (by rfl) (by decide) (by rfl) (by intro _; rfl) s₂ c2 _ _ fun v s₃ r₃ hv => ?_
  case tst => rfl
  case elt =>
    obtain ⟨p, hp, rfl⟩ := upto_mem hd
    have hst : (starts.map PyData.int)[((p : Int)).toNat]? = some (.int (starts.getD p 0)) := by
      rw [Int.toNat_natCast, List.getElem?_map]
      have hl : starts[p]? = some (starts.getD p 0) := by
        rw [List.getD_eq_getElem?_getD, List.getElem?_eq_getElem (show p < starts.length from hp)]; rfl
      rw [hl]; rfl
    refine ev_sc (X := X') (d := .int (cellAt ns p)) (ev_bin keepsOk ciUp (ev_bin keepsOk ciUp (ev_item (X := X') (i := (p : Int)) keepsOk ciUp (ev_free (z := .dat (.list (starts.map .int))) keepsOk (fun h i => i.1) (by rfl) (by rfl) (by rfl) (by rfl) (by rfl) (by rfl)) (ev_it keepsOk (by rfl) sc (fun h i => i.2)) (by omega) (by omega) hst) ?sum (upRd _) (op_addi keepsOk)) (ev_int (X := X') keepsOk) (upRd _) (op_modi keepsOk (by decide))) rfl
    refine ev_call keepsOk ciUp (by rfl) (fun h c => (gd.up c.1.up).seesB (v := .builtin "sum") (by rfl) (by rfl) (by rfl) (by simp)) (fun _ _ => keepsF_builtin) (.cons (ev_step (X := X') keepsOk ciUp (fun h i => i.1.tk) (ev_free (z := .dat (.list (ns.map .int))) keepsOk (fun h i => i.1) (by rfl) (by rfl) (by rfl) (by rfl) (by rfl) (by rfl)) (ev_it keepsOk (by rfl) sc (fun h i => i.2)) (ev_int (X := X') keepsOk) (by decide) (by rw [sizeLine_eq]; omega)) (upRd _) (by rfl) .nil) (cal_sum keepsOk rm') (by rfl) (by rfl) (by decide)
  rw [PySem.W.filter_all] at hv
  refine hQ v s₃ (k2.tr (keepsOk.up r₃)) ((sr1.trans f2).trans (rfK.of r₃)) ?_
  have e : (upto 7).map (fun d => match d with | .int i => PyData.int (cellAt ns i.toNat) | d => d) = (cellsOf ns).map .int := by simp [upto, cellsOf]
  rw [e] at hv
  exact hv.weak fun b x => by rw [← hX]; exact .inl x
end
end Mine
end

/-! part C2 -/
section
open PySem PySem.W PySem.Spec PySem.Calls PyProof.Rows
set_option Elab.async false
set_option linter.unusedVariables false
set_option maxRecDepth 100000
namespace Mine
section
variable {prog : Program} {w : World} {A : Around} {env : Env} {R F : Shared → Shared → Prop} {hb : Heap} {X : Addr → Prop} {ρ : List (Str × VS)}

def tails : List Str := [("" : Str), ("\\\"\\z" : Str), ("\\\\" : Str), ("\\\\\\\"" : Str)]
def sizesOf (cs : List Int) : List Int := cs.map (fun c => (c.fdiv 2).fmod 4) ++ (cs.take 5).map (fun c => (c.fdiv 8).fmod 4)
def pieceOf (ks : List Nat) (p : Nat) : Str := (⟨#[97 + p]⟩ : Str) ++ tails.getD (ks.getD p 0) ""
def piecesOf (ks : List Nat) : List Str := (List.range 12).map (pieceOf ks)
theorem tails_len : ∀ k, k < 4 → (tails.getD k "").length ≤ 4 := by decide +kernel
theorem ints_sc {cs : List Int} : ∀ d ∈ cs.map PyData.int, isSc d = true := fun d h => by
  obtain ⟨c, _, rfl⟩ := List.mem_map.mp h; rfl

theorem pieces_call {cs : List Int} {ks : List Nat} {va : Value} {mg mb fa fc} {s : Shared} {Q E : Value → Shared → Prop} (rm : Room A 2 10) (gd : Gd hb mg mb fa fc) (up : Up hb s.heap)
    (tk : Taken X s.heap) (fresh : ∀ b o, hb.get? b = some o → ¬ X b) (ra : Rd X s.heap va (.list (cs.map .int))) (hn : cs.length = 7) (hc : ∀ c ∈ cs, 0 ≤ c ∧ c < 96) (hk : sizesOf cs = ks.map (fun k : Nat => (k : Int))) (hk4 : ∀ k ∈ ks, k < 4)
    (hQ : ∀ v s', Up s.heap s'.heap → SameRest s s' → Rd X s'.heap v (.list ((piecesOf ks).map .str)) → Q v s') :
    wpAny (model prog w) A (call (.ref (fa 7)) [va]) Q E s := by
  obtain ⟨⟨o, pm, doc, ho, hd, hcd⟩, _⟩ := (gd.up up).fn 7 (by decide)
  refine wpAny_call (call_cells_ret (by have := rm.depth; omega) ho hd (gd.up up).nl hcd rfl (fun x hx => ?_) (fun h₁ tk₁ F₁ C₁ => ?_) rfl rfl rfl)
  · rw [List.mem_singleton.mp hx]; exact .inl rfl
  have c0 : Cx hb (fun b => X b ∨ Fb (cEnv 7 s.heap.objs.size (fa 7) (fc 7)) b) (cEnv 7 s.heap.objs.size (fa 7) (fc 7)) [("cells", .dat (.list (cs.map .int)))] h₁ := cx_entryC F₁ C₁ gd.nm up tk fresh rfl fun y z e => by
    have := lookup_mem e
    simp only [List.mem_singleton, Prod.mk.injEq] at this
    obtain ⟨rfl, rfl⟩ := this
    exact ⟨va, .inl ⟨rfl, rfl⟩, ra⟩
  have k0 : Up s.heap h₁ := F₁.keep
  have hfo : ∀ b o, s.heap.get? b = some o → ¬ Fb (cEnv 7 s.heap.objs.size (fa 7) (fc 7)) b := fun b o q x => by
    rcases x with rfl | ⟨n, e⟩
    · exact absurd (Heap.lt_size q) (Nat.lt_irrefl _)
    · exact absurd (Heap.lt_size q) (Nat.not_lt.mpr (Nat.le_of_lt (C₁.above n b (lookup_mem e))))
  generalize s.heap.objs.size = L at c0 hfo
  generalize hX : (fun b => X b ∨ Fb (cEnv 7 L (fa 7) (fc 7)) b) = X' at c0
  generalize hs₁ : ({ s with heap := h₁, toks := tk₁ } : Shared) = s₁
  have sr1 : SameRest s s₁ := by subst hs₁; exact ⟨_, _, rfl⟩
  have e1 : s₁.heap = h₁ := by subst hs₁; rfl
  rw [← e1] at c0 k0
  have rm' : (A.deeper (cEnv 7 L (fa 7) (fc 7))).handled = none := rm.handled
  have szl : (7 : Nat) ≤ sizeLine := by decide
  show wpAny _ (A.deeper (cEnv 7 L (fa 7) (fc 7))) (execs (_ :: _) (cEnv 7 L (fa 7) (fc 7))) _ _ s₁
  refine wpAny_execs_cons (ex_assign (z := .dat (.list (tails.map .str))) rfK c0 (.inr ⟨rfl, rfl⟩) (ev_list (X := X') keepsOk cx_up Cx.taken (.cons (ev_str (X := X') keepsOk) (upRd _) rfl (.cons (ev_str (X := X') keepsOk) (upRd _) rfl (.cons (ev_str (X := X') keepsOk) (upRd _) rfl (.cons (ev_str (X := X') keepsOk) (upRd _) rfl .nil)))) (show (4 : Nat) ≤ sizeLine by decide)) fun s₂ c2 o2 f2 => ?_)
  have k2 : Up s.heap s₂.heap := fun b o q => o2 b o (hfo b o q) (k0 b o q)
  show wpAny _ _ (execs (_ :: _) _) _ _ s₂
  generalize hρ : (("tails", VS.dat (.list (tails.map .str))) :: [("cells", VS.dat (.list (cs.map .int)))] : List (Str × VS)) = ρ₂ at c2
  have lc : ρ₂.lookup ("cells" : Str) = some (.dat (.list (cs.map .int))) := by rw [← hρ]; rfl
  have hdiv : ∀ (k : Nat), k = 2 ∨ k = 8 → ∀ C v d, Sc v d → d ∈ cs.map PyData.int → ∀ {scope : Scope} {cl : List (Str × Addr)} {p1 p2 p3 p4 p5 : Pos} {k1 k2 : Nat}, (compEnvC scope cl C (cEnv 7 L (fa 7) (fc 7))).scope.kind = .function →
      Ev prog w (A.deeper (cEnv 7 L (fa 7) (fc 7))) Keeps (compEnvC scope cl C (cEnv 7 L (fa 7) (fc 7))) (fun h => Cx hb X' (cEnv 7 L (fa 7) (fc 7)) ρ₂ h ∧ Sees (compEnvC scope cl C (cEnv 7 L (fa 7) (fc 7))) h "cell" v)
        (.BinOp (.BinOp (.Name "cell" p1) .FloorDiv (.Constant (.int (k : Int)) k1 p2) p3) .Mod (.Constant (.int 4) k2 p4) p5) (fun _ y => Sc y (match d with | .int i => .int ((i.fdiv k).fmod 4) | d => d)) := by
    intro k hk28 C v d sc hd scope cl p1 p2 p3 p4 p5 k1 k2 hkind
    obtain ⟨c, hc', rfl⟩ := List.mem_map.mp hd
    refine ev_sc (X := X') (d := .int ((c.fdiv (k : Int)).fmod 4)) (ev_bin keepsOk ciUp (ev_bin keepsOk ciUp (ev_it keepsOk hkind sc (fun h i => i.2) (by decide)) (ev_int (X := X') keepsOk) (upRd _) (op_divi keepsOk (by omega) (PyProof.noPylong_small (by omega)))) (ev_int (X := X') keepsOk) (upRd _) (op_modi keepsOk (by decide))) rfl
  have esz : ks.map (fun k : Nat => PyData.int (k : Int)) = (cs.map (fun c => (c.fdiv 2).fmod 4)).map PyData.int ++ ((cs.take 5).map (fun c => (c.fdiv 8).fmod 4)).map PyData.int := by
    rw [← List.map_append]
    show _ = (sizesOf cs).map PyData.int
    rw [hk, List.map_map]; rfl
  have hkl : ks.length = 12 := by
    have := congrArg List.length hk
    simp [sizesOf, hn] at this; omega
  refine wpAny_execs_cons (ex_assign (z := .dat (.list (ks.map (fun k : Nat => PyData.int (k : Int))))) rfK c2 (.inr ⟨by rfl, by rfl⟩) ?sizes fun s₃ c3 o3 f3 => ?_)
  case sizes =>
    show Ev _ _ _ _ _ _ _ (fun h v => Rd X' h v (.list _))
    rw [esz]
    refine ev_bin keepsOk cx_up (ev_comp' (X := X') (I := Cx hb X' (cEnv 7 L (fa 7) (fc 7)) ρ₂) (ds := cs.map .int) (p := fun _ => true) (g := fun d => match d with | .int i => .int ((i.fdiv (2 : Nat)).fmod 4) | d => d) ?q1 keepsOk cx_up Cx.taken (src_list (X := X') keepsOk rm' (ev_var (z := .dat (.list (cs.map .int))) keepsOk (fun _ c => c) (by rfl) lc (by decide)) ints_sc) (by rw [List.length_map, hn]; exact szl) ⟨fun C v d sc hd => ?t1, fun C v d sc hd _ => ?e1⟩ (by rfl) (by decide) (by rfl) (by decide) (by rfl) (by intro _; rfl))
      (ev_comp' (X := X') (I := Cx hb X' (cEnv 7 L (fa 7) (fc 7)) ρ₂) (ds := (cs.map PyData.int).take 5) (p := fun _ => true) (g := fun d => match d with | .int i => .int ((i.fdiv (8 : Nat)).fmod 4) | d => d) ?q2 keepsOk cx_up Cx.taken (src_list (X := X') keepsOk rm' (ev_upto (X := X') (a := 5) keepsOk cx_up Cx.taken (ev_var (z := .dat (.list (cs.map .int))) keepsOk (fun _ c => c) (by rfl) lc (by decide)) (ev_int (X := X') keepsOk) (by rw [List.length_map, hn]; exact szl)) (fun d h => ints_sc d (List.mem_of_mem_take h))) (by rw [List.length_take, List.length_map, hn]; exact (show (5 : Nat) ≤ sizeLine by decide)) ⟨fun C v d sc hd => ?t2, fun C v d sc hd _ => ?e2⟩ (by rfl) (by decide) (by rfl) (by decide) (by rfl) (by intro _; rfl))
      (upRd _) (op_addl keepsOk Cx.taken ?sz)
    case q1 => rw [PySem.W.filter_all, List.map_map, List.map_map]; rfl
    case q2 => rw [PySem.W.filter_all, ← List.map_take, List.map_map, List.map_map]; rfl
    case t1 => rfl
    case t2 => rfl
    case e1 => exact hdiv 2 (.inl rfl) C v d sc hd (by rfl)
    case e2 => exact hdiv 8 (.inr rfl) C v d sc (List.mem_of_mem_take hd) (by rfl)
    case sz =>
      have : (cs.map (fun c => (c.fdiv 2).fmod 4)).length + ((cs.take 5).map (fun c => (c.fdiv 8).fmod 4)).length ≤ 12 := by simp [hn]
      simp only [List.length_map] at this ⊢
      rw [sizeLine_eq]; omega
  have k3 : Up s.heap s₃.heap := fun b o q => o3 b o (hfo b o q) (k2 b o q)
  show wpAny _ _ (execs (_ :: _) _) _ _ s₃
  refine wpAny_execs_cons (wpAny_Return_some ?_)
  generalize hρ3 : (("sizes", VS.dat (.list (ks.map (fun k : Nat => PyData.int (k : Int))))) :: ρ₂ : List (Str × VS)) = ρ₃ at c3
  have l1 : ρ₃.lookup ("sizes" : Str) = some (.dat (.list (ks.map (fun k : Nat => PyData.int (k : Int))))) := by rw [← hρ3]; rfl
  have l2 : ρ₃.lookup ("tails" : Str) = some (.dat (.list (tails.map .str))) := by rw [← hρ3, ← hρ]; rfl
  refine ev_comp' (X := X') (I := Cx hb X' (cEnv 7 L (fa 7) (fc 7)) ρ₃) (ds := upto 12) (ds' := (piecesOf ks).map .str) (p := fun _ => true) (g := fun d => match d with | .int i => .str (pieceOf ks i.toNat) | d => d) ?q keepsOk cx_up Cx.taken
    (src_range (X := X') keepsOk cx_up rm' (by rfl) (fun h c => (gd.up c.up).seesB (by rfl) (by rfl) (by rfl) (by simp)) (ev_int (X := X') keepsOk) (by decide) (by rfl)) (show (12 : Nat) ≤ sizeLine by decide) ⟨fun C v d sc hd => ?tst, fun C v d sc hd _ => ?elt⟩ (by rfl) (by decide) (by rfl) (by decide) (by rfl) (by intro _; rfl) s₃ c3 _ _ fun v s₄ r₄ hv => ?_
  case q => rw [PySem.W.filter_all]; simp [upto, piecesOf]
  case tst => rfl
  case elt =>
    obtain ⟨p, hp, rfl⟩ := upto_mem hd
    have hkp : ks[p]? = some (ks.getD p 0) := by
      rw [List.getD_eq_getElem?_getD, List.getElem?_eq_getElem (show p < ks.length by omega)]; rfl
    have hk4' : ks.getD p 0 < 4 := hk4 _ (List.mem_of_getElem? hkp)
    have d1 : (ks.map (fun k : Nat => PyData.int (k : Int)))[((p : Int)).toNat]? = some (.int ((ks.getD p 0 : Nat) : Int)) := by
      rw [Int.toNat_natCast, List.getElem?_map, hkp]; rfl
    have d2 : (tails.map PyData.str)[((ks.getD p 0 : Nat) : Int).toNat]? = some (.str (tails.getD (ks.getD p 0) "")) := by
      have : tails[ks.getD p 0]? = some (tails.getD (ks.getD p 0) "") := by
        rw [List.getD_eq_getElem?_getD (l := tails), List.getElem?_eq_getElem (show ks.getD p 0 < tails.length from hk4')]; rfl
      rw [Int.toNat_natCast, List.getElem?_map, this]; rfl
    refine ev_sc (X := X') (d := .str (pieceOf ks p)) (ev_bin keepsOk ciUp ?chr (ev_item (X := X') (i := ((ks.getD p 0 : Nat) : Int)) keepsOk ciUp (ev_free (z := .dat (.list (tails.map .str))) keepsOk (fun h i => i.1) (by rfl) l2 (by rfl) (by rfl) (by rfl) (by rfl)) (ev_item (X := X') (i := (p : Int)) keepsOk ciUp (ev_free (z := .dat (.list (ks.map (fun k : Nat => PyData.int (k : Int))))) keepsOk (fun h i => i.1) (by rfl) l1 (by rfl) (by rfl) (by rfl) (by rfl)) (ev_it keepsOk (by rfl) sc (fun h i => i.2)) (by omega) (by omega) d1) (by omega) (by omega) d2) (upRd _) (op_adds keepsOk ?sz)) rfl
    case chr =>
      refine ev_call keepsOk ciUp (by rfl) (fun h c => (gd.up c.1.up).seesB (v := .builtin "chr") (by rfl) (by rfl) (by rfl) (by simp)) (fun _ _ => keepsF_builtin) (.cons (P := fun h v => Rd X' h v (.int ((97 + p : Nat) : Int))) ?arg (upRd _) (by rfl) .nil) (cal_chr keepsOk (by omega)) (by rfl) (by rfl) (by decide)
      have e : ((97 + p : Nat) : Int) = 97 + (p : Int) := by omega
      rw [e]
      exact ev_bin keepsOk ciUp (ev_int (X := X') keepsOk) (ev_it keepsOk (by rfl) sc (fun h i => i.2)) (upRd _) (op_addi keepsOk)
    case sz =>
      have := tails_len _ hk4'
      show 1 + _ ≤ _
      rw [sizeLine_eq]; omega
  refine hQ v s₄ (k3.tr (keepsOk.up r₄)) (((sr1.trans f2).trans f3).trans (rfK.of r₄)) (hv.weak fun b x => by rw [← hX]; exact .inl x)
end
end Mine
end

/-! part C3 -/
section
open PySem PySem.W PySem.Spec PySem.Calls PyProof.Rows
set_option Elab.async false
set_option linter.unusedVariables false
set_option maxRecDepth 100000
namespace Mine
section
variable {prog : Program} {w : World} {A : Around} {env : Env} {R F : Shared → Shared → Prop} {hb : Heap} {X : Addr → Prop} {ρ : List (Str × VS)}

theorem lay_ints : ∀ l : List Int, PyData.canLayAll0 (l.map PyData.int) = true
  | [] => rfl
  | a :: l => by
    show (PyData.canLay0 (.int a) && PyData.canLayAll0 (l.map .int)) = true
    rw [lay_ints l]; rfl
theorem depth_ints : ∀ l : List Int, PyData.depthAll (l.map PyData.int) ≤ 1
  | [] => by simp [PyData.depthAll]
  | a :: l => by
    have := depth_ints l
    show PyData.depthAll (PyData.int a :: l.map .int) ≤ 1
    simp only [PyData.depthAll, PyData.depth]
    omega
theorem sh_ints (l : List Int) : SeqAt.shaped (.list (l.map .int)) = true := by
  have := depth_ints l
  simp only [SeqAt.shaped, PyData.canLay0, lay_ints, PyData.depth, Bool.true_and]
  exact decide_eq_true (by omega)
theorem sh_pair (l m : List Int) : SeqAt.shaped (.tuple [.list (l.map .int), .list (m.map .int)]) = true := by
  have h1 := depth_ints l
  have h2 := depth_ints m
  simp only [SeqAt.shaped, PyData.canLay0, PyData.canLayAll0, lay_ints, PyData.depth, PyData.depthAll, Bool.true_and, Bool.and_true]
  exact decide_eq_true (by omega)

/-- a test that sorted_list_difference answers as it should -/
theorem tst_sld {e1 e2 e3 : Expr} {xs ys M U : List Int} {outer : List Env} {mg mb fa fc} {s : Shared} {p1 p2 p3 : Pos} {Q : Bool → Shared → Prop} {E : Value → Shared → Prop} (rm : Room A 2 80) (hfr : A.frames = some (env :: outer)) (fo : FrOk s.heap (env :: outer)) (gd : Gd hb mg mb fa fc)
    (hX : ∀ b ∈ frs (env :: outer), X b) (hcl : ∀ b ∈ frs (env :: outer), ∀ n, env.cells.lookup n ≠ some b) (c : Cx hb X env ρ s.heap) (hk : env.kindOf "sorted_list_difference" = some .globalImplicit)
    (he1 : Ev prog w A Keeps env (Cx hb X env ρ) e1 (fun h v => Rd X h v (.list (xs.map .int)))) (he2 : Ev prog w A Keeps env (Cx hb X env ρ) e2 (fun h v => Rd X h v (.list (ys.map .int)))) (he3 : Ev prog w A Keeps env (Cx hb X env ρ) e3 (fun h v => Rd X h v (.tuple [.list (M.map .int), .list (U.map .int)])))
    (hS : Sld xs ys M U) (hx : xs.length ≤ 1000 ∧ ys.length ≤ 1000)
    (hQ : ∀ s', Cx hb X env ρ s'.heap → Kp (frs (env :: outer)) s.heap s'.heap → SameRest s s' → Q false s')
    (hs1 : starEach [e1, e2] env = (false, eval e1 env) :: starEach [e2] env := by rfl) (hs2 : starEach [e2] env = (false, eval e2 env) :: starEach [] env := by rfl) (hm : behindInMarks .NotEq e3 = false := by with_unfolding_all rfl) :
    wpAny (model prog w) A (isTrue (.Compare (.Call (.Name "sorted_list_difference" p1) [e1, e2] [] p2) [.NotEq] [e3] p3) env (eval (.Compare (.Call (.Name "sorted_list_difference" p1) [e1, e2] [] p2) [.NotEq] [e3] p3) env)) Q E s := by
  refine wpAny_isTrue_Compare1 ?_ hm
  refine Call_Name rfl (wpAny_Name (loadSees c.wf.kind ((gd.up c.up).seesF 1 (by decide) rfl hk c.wf.globals c.wf.builtins) ?_) (by decide))
  refine callWith_ev (R := Keeps) keepsOk cx_up (fun h c => (gd.up c.up).keepsF 1 (by decide)) (.cons he1 (upRd _) hs1 (.cons he2 (upRd _) hs2 .nil)) c (fun vs s₁ r₁ c₁ hvs => ?_) hs1 (by rw [hs2]; rfl)
  cases hvs with
  | cons ra q =>
    cases q with
    | cons rb q =>
      cases q
      refine sld_call ⟨rm.handled, rm.depth, by have := rm.units; omega⟩ hfr (fo.kp (Kp.of_up (F := []) (keepsOk.up r₁))) gd c₁.up c₁.tk c₁.fresh hX ra rb hS hx fun v s₂ k₂ sr₂ rv => ?_
      have c₂ := cx_kp c₁ k₂ hX hcl
      refine he3 s₂ c₂ _ _ fun u s₃ r₃ ru => ?_
      refine op_ne (R := Keeps) (I := Cx hb X env ρ) (X := X) (b := false) keepsOk (by have := rm.units; omega) (sh_pair _ _) (sh_pair _ _) (by rw [SeqAt.eqv_refl _ (SeqAt.canLay_of_shaped (sh_pair _ _))]; rfl) s₃ v u (cx_up _ _ (keepsOk.up r₃) c₂) (rv.up (keepsOk.up r₃)) ru _ _ fun x s₄ r₄ hx => ?_
      cases hx
      refine wpAny_truthy_bool (hQ s₄ (cx_up _ _ (keepsOk.up (keepsOk.trans r₃ r₄)) c₂) (((Kp.of_up (keepsOk.up r₁)).trans k₂).trans (Kp.of_up (keepsOk.up (keepsOk.trans r₃ r₄)))) (((rfK.of r₁).trans sr₂).trans (rfK.of (keepsOk.trans r₃ r₄))))
end
end Mine
end

/-! part C4 -/
section
open PySem PySem.W PySem.Spec PySem.Calls PyProof.Rows
set_option Elab.async false
set_option linter.unusedVariables false
set_option maxRecDepth 100000
namespace Mine
def minus (l m : List Int) : List Int := l.filter fun i => !m.contains i
def up1 (l : List Int) : List Int := l.map (· + 1)
/-- what a turn's lists are -/
structure TurnOk (l r : List Int) : Prop where
  len : l.length ≤ 12
  s1 : Sld l (up1 l) (minus l (up1 l)) (minus (up1 l) l)
  s2 : Sld (up1 l) l (minus (up1 l) l) (minus l (up1 l))
  s3 : ∃ t1 t2, t1.Perm (List.replicate 3 l).flatten ∧ t1.Pairwise (· ≤ ·) ∧ t2.Perm (List.replicate 5 (up1 l)).flatten ∧ t2.Pairwise (· ≤ ·) ∧ Sld (t1 ++ [99]) (t2 ++ [99]) (minus l (up1 l)) (minus (up1 l) l)
  r : r.Perm (minus l (up1 l) ++ minus (up1 l) l) ∧ r.Pairwise (· ≤ ·)

theorem rep_len {α : Type} (k : Nat) (m : List α) : (List.replicate k m).flatten.length = k * m.length := by simp
theorem any_int (i : Int) : ∀ m : List Int, ((m.map PyData.int).any fun y => PyData.eqv y (.int i)) = m.contains i
  | [] => rfl
  | a :: m => by
    rw [List.map_cons, List.any_cons, any_int i m, List.contains_cons]
    have : PyData.eqv (.int a) (.int i) = (i == a) := by
      by_cases h : a = i
      · subst h; simp [PyData.eqv]
      · have h' : i ≠ a := fun e => h e.symm
        show (a == i) = (i == a)
        rw [beq_eq_false_iff_ne.mpr h, beq_eq_false_iff_ne.mpr h']
    rw [this]
section
variable {prog : Program} {w : World} {A : Around} {env : Env} {R F : Shared → Shared → Prop} {hb h₀ h h' : Heap} {X : Addr → Prop} {ρ : List (Str × VS)} {outer : List Env}

theorem tst_or2 {I : Heap → Prop} {e1 e2 : Expr} {b1 b2 : Bool} {pos : Pos} (hR : RelOk R) (hI : UpC I) (h1 : Tst prog w A R env I e1 b1) (h2 : Tst prog w A R env I e2 b2) : Tst prog w A R env I (.BoolOp .Or [e1, e2] pos) (b1 || b2) := fun s i Q E h => by
  refine isTrue_or (h1 s i _ _ fun s₁ r₁ => ?_)
  cases b1 with
  | true => exact h s₁ r₁
  | false =>
    refine isTrue_or (h2 s₁ (hI _ _ (hR.up r₁) i) _ _ fun s₂ r₂ => ?_)
    cases b2 with
    | true => exact h s₂ (hR.trans r₁ r₂)
    | false => exact isTrue_or_nil (h s₂ (hR.trans r₁ r₂))

/-- lies off a frame -/
def Off (env : Env) (h₀ : Heap) : Prop := ∀ b o, h₀.get? b = some o → ¬ Fb env b
theorem kpS (hf : Off env h₀) (k : Kp (frs outer) h₀ h) (on : Only env h h') : Kp (frs outer) h₀ h' := ⟨fun b o n q => on b o (hf b o q) (k.off b o n q), fun b o n q => let ⟨sl, q'⟩ := k.on b o n q; ⟨sl, on b _ (hf b o q) q'⟩⟩
theorem frs_cons' (he : env.frame = some env.locals) : frs (env :: outer) = env.locals :: frs outer := by simp [frs, he]
theorem kpK (hf : Off env h₀) (he : env.frame = some env.locals) (k : Kp (frs outer) h₀ h) (kk : Kp (frs (env :: outer)) h h') : Kp (frs outer) h₀ h' := ⟨fun b o n q => kk.off b o (fun z => by
    rw [frs_cons' he] at z
    rcases List.mem_cons.mp z with z | z
    · exact hf b o q (.inl z)
    · exact n z) (k.off b o n q), fun b o n q => let ⟨sl, q'⟩ := k.on b o n q; let ⟨sl', q2⟩ := kk.data q'; ⟨sl', q2⟩⟩
theorem frOkC (he : env.frame = some env.locals) (fo : FrOk h₀ outer) (k : Kp (frs outer) h₀ h) (c : Cx hb X env ρ h) : FrOk h (env :: outer) := ⟨fun e hm => by
  rcases List.mem_cons.mp hm with rfl | hm
  · exact ⟨c.wf.kind, he, c.wf.loc⟩
  · exact (fo.kp k).ok e hm⟩

theorem comp_in {I : Heap → Prop} {scope : Scope} {cl : List (Str × Addr)} {C c : Addr} {v : Value} {i : Int} {m : List Int} {y : Str} {p1 p2 p3 : Pos} (hu : A.units + 64 < cLine) (hkind : (compEnvC scope cl C env).scope.kind = .function) (sc : Sc v (.int i)) (e : ρ.lookup y = some (.dat (.list (m.map .int)))) (hc : env.kindOf y = some .cell) (hl : env.cells.lookup y = some c) (hf : (compEnvC scope cl C env).kindOf y = some .cell) (hl' : cl.lookup y = some c) (hd : (y == ("__debug__" : Str)) = false) :
    IfsOk prog w A (compEnvC scope cl C env) (fun h => Cx hb X env ρ h ∧ Sees (compEnvC scope cl C env) h "place" v) [.Compare (.Name "place" p1) [.NotIn] [.Name y p2] p3] (!m.contains i) := by
  refine tst_cmp (X := X) keepsOk ciUp (ev_it (X := X) keepsOk hkind sc (fun h i => i.2) (by decide)) (ev_free (z := .dat (.list (m.map .int))) keepsOk (fun h i => i.1) hkind e hc hl hf hl' hd) (upRd _) (op_notIn keepsOk hu rfl (lay_ints _) (by simp [PyData.depth]) (by rw [any_int])) (by with_unfolding_all rfl)
theorem comp_in' {I : Heap → Prop} {scope : Scope} {cl : List (Str × Addr)} {C c : Addr} {v : Value} {i : Int} {m : List Int} {y : Str} {p1 p2 p3 : Pos} (hu : A.units + 64 < cLine) (hkind : (compEnvC scope cl C env).scope.kind = .function) (sc : Sc v (.int i)) (e : ρ.lookup y = some (.dat (.list (m.map .int)))) (hc : env.kindOf y = some .cell) (hl : env.cells.lookup y = some c) (hf : (compEnvC scope cl C env).kindOf y = some .cell) (hl' : cl.lookup y = some c) (hd : (y == ("__debug__" : Str)) = false) :
    IfsOk prog w A (compEnvC scope cl C env) (fun h => Cx hb X env ρ h ∧ Sees (compEnvC scope cl C env) h "place" v) [.Compare (.Name "place" p1) [.In] [.Name y p2] p3] (m.contains i) := by
  refine tst_cmp (X := X) keepsOk ciUp (ev_it (X := X) keepsOk hkind sc (fun h i => i.2) (by decide)) (ev_free (z := .dat (.list (m.map .int))) keepsOk (fun h i => i.1) hkind e hc hl hf hl' hd) (upRd _) (op_in keepsOk hu rfl (lay_ints _) (by simp [PyData.depth]) (any_int _ _)) (by with_unfolding_all rfl)

theorem map_g {l : List Int} {p : Int → Bool} {f : Int → Int} : ((l.map PyData.int).filter (fun d => match d with | .int i => p i | _ => false)).map (fun d => match d with | .int i => PyData.int (f i) | d => d) = ((l.filter p).map f).map .int := by
  induction l with
  | nil => rfl
  | cons a l ih =>
    simp only [List.map_cons, List.filter_cons]
    by_cases h : p a = true
    · rw [if_pos h, if_pos h]
      simp only [List.map_cons, ih]
    · rw [if_neg h, if_neg h]
      exact ih
theorem map_t {l : List Int} {f : Int → Int} : ((l.map PyData.int).filter (fun _ => true)).map (fun d => match d with | .int i => PyData.int (f i) | d => d) = (l.map f).map .int := by
  rw [PySem.W.filter_all, List.map_map, List.map_map]; rfl

theorem turn_call {l r : List Int} {va : Value} {mg mb fa fc} {s : Shared} {Q E : Value → Shared → Prop} (rm : Room A 4 100) (hfr : A.frames = some outer) (fo : FrOk s.heap outer) (gd : Gd hb mg mb fa fc) (up : Up hb s.heap)
    (tk : Taken X s.heap) (fresh : ∀ b o, hb.get? b = some o → ¬ X b) (hXF : ∀ b ∈ frs outer, X b) (ra : Rd X s.heap va (.list (l.map .int))) (ok : TurnOk l r)
    (hQ : ∀ v s', Kp (frs outer) s.heap s'.heap → SameRest s s' → Rd X s'.heap v (.list (r.map .int)) → Q v s') :
    wpAny (model prog w) A (call (.ref (fa 8)) [va]) Q E s := by
  obtain ⟨⟨o, pm, doc, ho, hd, hcd⟩, _⟩ := (gd.up up).fn 8 (by decide)
  refine wpAny_call (call_cells_ret (by have := rm.depth; omega) ho hd (gd.up up).nl hcd rfl (fun x hx => ?_) (fun h₁ tk₁ F₁ C₁ => ?_) rfl rfl rfl)
  · rw [List.mem_singleton.mp hx]; exact .inr ⟨rfl, rfl⟩
  have c0 : Cx hb (fun b => X b ∨ Fb (cEnv 8 s.heap.objs.size (fa 8) (fc 8)) b) (cEnv 8 s.heap.objs.size (fa 8) (fc 8)) [("places", .dat (.list (l.map .int)))] h₁ := cx_entryC F₁ C₁ gd.nm up tk fresh rfl fun y z e => by
    have := lookup_mem e
    simp only [List.mem_singleton, Prod.mk.injEq] at this
    obtain ⟨rfl, rfl⟩ := this
    exact ⟨va, .inr ⟨rfl, ⟨_, rfl⟩, rfl⟩, ra⟩
  have k0 : Up s.heap h₁ := F₁.keep
  have hfo : Off (cEnv 8 s.heap.objs.size (fa 8) (fc 8)) s.heap := fun b o q x => by
    rcases x with rfl | ⟨n, e⟩
    · exact absurd (Heap.lt_size q) (Nat.lt_irrefl _)
    · exact absurd (Heap.lt_size q) (Nat.not_lt.mpr (Nat.le_of_lt (C₁.above n b (lookup_mem e))))
  generalize s.heap.objs.size = L at c0 hfo
  generalize hX : (fun b => X b ∨ Fb (cEnv 8 L (fa 8) (fc 8)) b) = X' at c0
  have hXX : ∀ b, X b → X' b := fun b x => by rw [← hX]; exact .inl x
  generalize hs₁ : ({ s with heap := h₁, toks := tk₁ } : Shared) = s₁
  have sr1 : SameRest s s₁ := by subst hs₁; exact ⟨_, _, rfl⟩
  have e1 : s₁.heap = h₁ := by subst hs₁; rfl
  rw [← e1] at c0 k0
  have rm2 : Room (A.deeper (cEnv 8 L (fa 8) (fc 8))) 3 97 := Room.deeper rm
  have rm' : (A.deeper (cEnv 8 L (fa 8) (fc 8))).handled = none := rm.handled
  have rmt : Room (A.deeper (cEnv 8 L (fa 8) (fc 8))) 2 80 := ⟨rm', by have := rm2.depth; omega, by have := rm2.units; omega⟩
  have hu : (A.deeper (cEnv 8 L (fa 8) (fc 8))).units + 64 < cLine := by have := rm2.units; omega
  have hfr' : (A.deeper (cEnv 8 L (fa 8) (fc 8))).frames = some (cEnv 8 L (fa 8) (fc 8) :: outer) := Around.frames_deeper hfr
  have hef : (cEnv 8 L (fa 8) (fc 8)).frame = some (cEnv 8 L (fa 8) (fc 8)).locals := rfl
  have hXe : ∀ b ∈ frs (cEnv 8 L (fa 8) (fc 8) :: outer), X' b := fun b hb => by
    rw [frs_cons' hef] at hb
    rcases List.mem_cons.mp hb with rfl | z
    · rw [← hX]; exact .inr (.inl rfl)
    · exact hXX b (hXF b z)
  have hcl : ∀ {ρ : List (Str × VS)} {h : Heap}, Cx hb X' (cEnv 8 L (fa 8) (fc 8)) ρ h → ∀ b ∈ frs (cEnv 8 L (fa 8) (fc 8) :: outer), ∀ n, (cEnv 8 L (fa 8) (fc 8)).cells.lookup n ≠ some b := fun c b hb n e => by
    rw [frs_cons' hef] at hb
    rcases List.mem_cons.mp hb with rfl | z
    · exact (c.wf.cell n _ e).2.2 rfl
    · obtain ⟨m, nn⟩ := fo.mem z
      obtain ⟨ob, _, _, q, _⟩ := nn
      exact hfo b ob q (.inr ⟨n, e⟩)
  have hlen := ok.len
  have szl : ∀ {m : List Int}, m.length ≤ 1000 → (m.map PyData.int).length ≤ sizeLine := fun hm => by rw [List.length_map, sizeLine_eq]; omega
  have ml : ∀ a b : List Int, (minus a b).length ≤ a.length := fun a b => List.length_filter_le _ _
  have ul : (up1 l).length = l.length := List.length_map ..
  have ml1 := ml l (up1 l)
  have ml2 := ml (up1 l) l
  show wpAny _ (A.deeper (cEnv 8 L (fa 8) (fc 8))) (execs (_ :: _) (cEnv 8 L (fa 8) (fc 8))) _ _ s₁
  refine wpAny_execs_cons (ex_assign (z := .dat (.list ((up1 l).map .int))) rfK c0 (.inr ⟨by rfl, by rfl⟩) (ev_comp' (X := X') (I := Cx hb X' (cEnv 8 L (fa 8) (fc 8)) [("places", .dat (.list (l.map .int)))]) (ds := l.map .int) (p := fun _ => true) (g := fun d => match d with | .int i => .int (i + 1) | d => d) map_t keepsOk cx_up Cx.taken (src_list (X := X') keepsOk rm' (ev_var (z := .dat (.list (l.map .int))) keepsOk (fun _ c => c) (by rfl) (by rfl) (by decide)) ints_sc) (szl (by omega)) ⟨fun C v d sc hd => ?t1, fun C v d sc hd _ => ?e1⟩ (by rfl) (by decide) (by rfl) (by decide) (by rfl) (by intro _; rfl)) fun s₂ c2 o2 f2 => ?_)
  case t1 => rfl
  case e1 =>
    obtain ⟨i, _, rfl⟩ := List.mem_map.mp hd
    exact ev_sc (X := X') (d := .int (i + 1)) (ev_bin keepsOk ciUp (ev_it keepsOk (by rfl) sc (fun h i => i.2)) (ev_int (X := X') keepsOk) (upRd _) (op_addi keepsOk)) rfl
  have k2 : Kp (frs outer) s.heap s₂.heap := kpS hfo (Kp.of_up k0) o2
  have sr2 := sr1.trans f2
  show wpAny _ _ (execs (_ :: _) _) _ _ s₂
  refine wpAny_execs_cons (ex_assignComp (X := X') (ds := l.map .int) (p := fun d => match d with | .int i => !(up1 l).contains i | _ => false) (g := fun d => match d with | .int i => .int i | d => d) rfK c2 (by rfl) (src_list (X := X') keepsOk rm' (ev_var (z := .dat (.list (l.map .int))) keepsOk (fun _ c => c) (by rfl) (by rfl) (by decide)) ints_sc) (szl (by omega)) ⟨fun C v d sc hd => ?t2, fun C v d sc hd _ => ?e2⟩ (fun s₃ c3 o3 f3 => ?_) (by rfl) (by rfl) (by decide) (by rfl) (by decide) (by rfl) (by intro _; rfl))
  case t2 =>
    obtain ⟨i, _, rfl⟩ := List.mem_map.mp hd
    exact comp_in (I := fun _ => True) hu (by rfl) sc (by rfl) (by rfl) (by rfl) (by rfl) (by rfl) (by decide)
  case e2 =>
    obtain ⟨i, _, rfl⟩ := List.mem_map.mp hd
    exact ev_sc (X := X') (d := .int i) (ev_it keepsOk (by rfl) sc (fun h i => i.2)) rfl
  rw [map_g, List.map_id'] at c3
  change Cx hb X' _ (("alone", .dat (.list ((minus l (up1 l)).map .int))) :: _) _ at c3
  have k3 := kpS hfo k2 o3
  have sr3 := sr2.trans f3
  show wpAny _ _ (execs (_ :: _) _) _ _ s₃
  refine wpAny_execs_cons (ex_assignComp (X := X') (ds := (up1 l).map .int) (p := fun d => match d with | .int i => !l.contains i | _ => false) (g := fun d => match d with | .int i => .int i | d => d) rfK c3 (by rfl) (src_list (X := X') keepsOk rm' (ev_var (z := .dat (.list ((up1 l).map .int))) keepsOk (fun _ c => c) (by rfl) (by rfl) (by decide)) ints_sc) (szl (by omega)) ⟨fun C v d sc hd => ?t3, fun C v d sc hd _ => ?e3⟩ (fun s₄ c4 o4 f4 => ?_) (by rfl) (by rfl) (by decide) (by rfl) (by decide) (by rfl) (by intro _; rfl))
  case t3 =>
    obtain ⟨i, _, rfl⟩ := List.mem_map.mp hd
    exact comp_in (I := fun _ => True) hu (by rfl) sc (by rfl) (by rfl) (by rfl) (by rfl) (by rfl) (by decide)
  case e3 =>
    obtain ⟨i, _, rfl⟩ := List.mem_map.mp hd
    exact ev_sc (X := X') (d := .int i) (ev_it keepsOk (by rfl) sc (fun h i => i.2)) rfl
  rw [map_g, List.map_id'] at c4
  change Cx hb X' _ (("come", .dat (.list ((minus (up1 l) l).map .int))) :: _) _ at c4
  have k4 := kpS hfo k3 o4
  have sr4 := sr3.trans f4
  have gds : ∀ {ρ : List (Str × VS)} (h : Heap), Cx hb X' (cEnv 8 L (fa 8) (fc 8)) ρ h → Sees (cEnv 8 L (fa 8) (fc 8)) h "list" (.type "list") := fun h c => (gd.up c.up).seesB rfl rfl rfl (by simp)
  have gdo : ∀ {ρ : List (Str × VS)} (h : Heap), Cx hb X' (cEnv 8 L (fa 8) (fc 8)) ρ h → Sees (cEnv 8 L (fa 8) (fc 8)) h "sorted" (.builtin "sorted") := fun h c => (gd.up c.up).seesB rfl rfl rfl (by simp)
  show wpAny _ _ (execs (_ :: _) _) _ _ s₄
  refine wpAny_execs_cons (ex_assign (z := .dat (.list (l.map .int))) rfK c4 (.inl rfl) (ev_call keepsOk cx_up (by rfl) gds (fun _ _ => keepsF_type) (.cons (ev_var (z := .dat (.list (l.map .int))) keepsOk (fun _ c => c) (by rfl) (by rfl) (by decide)) (upOk _) (by rfl) .nil) (cal_list keepsOk Cx.taken (szl (by omega))) (by rfl) (by rfl) (by decide)) fun s₅ c5 o5 f5 => ?_)
  have k5 := kpS hfo k4 o5
  have sr5 := sr4.trans f5
  show wpAny _ _ (execs (_ :: _) _) _ _ s₅
  refine wpAny_execs_cons (ex_assign (z := .dat (.list ((up1 l).map .int))) rfK c5 (.inl rfl) (ev_call keepsOk cx_up (by rfl) gds (fun _ _ => keepsF_type) (.cons (ev_var (z := .dat (.list ((up1 l).map .int))) keepsOk (fun _ c => c) (by rfl) (by rfl) (by decide)) (upOk _) (by rfl) .nil) (cal_list keepsOk Cx.taken (szl (by omega))) (by rfl) (by rfl) (by decide)) fun s₆ c6 o6 f6 => ?_)
  have k6 := kpS hfo k5 o6
  have sr6 := sr5.trans f6
  generalize hρ : (("two", VS.dat (.list ((up1 l).map .int))) :: _ : List (Str × VS)) = ρ at c6
  have l1 : ρ.lookup ("one" : Str) = some (.dat (.list (l.map .int))) := by rw [← hρ]; rfl
  have l2 : ρ.lookup ("two" : Str) = some (.dat (.list ((up1 l).map .int))) := by rw [← hρ]; rfl
  have l3 : ρ.lookup ("places" : Str) = some (.dat (.list (l.map .int))) := by rw [← hρ]; rfl
  have l4 : ρ.lookup ("moved" : Str) = some (.dat (.list ((up1 l).map .int))) := by rw [← hρ]; rfl
  have l5 : ρ.lookup ("alone" : Str) = some (.dat (.list ((minus l (up1 l)).map .int))) := by rw [← hρ]; rfl
  have l6 : ρ.lookup ("come" : Str) = some (.dat (.list ((minus (up1 l) l).map .int))) := by rw [← hρ]; rfl
  have ev : ∀ (y : Str) (m : List Int) (p : Pos), ρ.lookup y = some (.dat (.list (m.map .int))) → (y == ("__debug__" : Str)) = false → Ev prog w (A.deeper (cEnv 8 L (fa 8) (fc 8))) Keeps (cEnv 8 L (fa 8) (fc 8)) (Cx hb X' (cEnv 8 L (fa 8) (fc 8)) ρ) (.Name y p) (fun h v => Rd X' h v (.list (m.map .int))) := fun y m p hl hd => ev_var (z := .dat (.list (m.map .int))) keepsOk (fun _ c => c) rfl hl hd
  have evp : ∀ (y1 y2 : Str) (m1 m2 : List Int) (k : Nat) (p1 p2 p3 : Pos), ρ.lookup y1 = some (.dat (.list (m1.map .int))) → ρ.lookup y2 = some (.dat (.list (m2.map .int))) → (y1 == ("__debug__" : Str)) = false → (y2 == ("__debug__" : Str)) = false → Ev prog w (A.deeper (cEnv 8 L (fa 8) (fc 8))) Keeps (cEnv 8 L (fa 8) (fc 8)) (Cx hb X' (cEnv 8 L (fa 8) (fc 8)) ρ) (.Tuple [.Name y1 p1, .Name y2 p2] k p3) (fun h v => Rd X' h v (.tuple [.list (m1.map .int), .list (m2.map .int)])) := fun y1 y2 m1 m2 k p1 p2 p3 h1 h2 d1 d2 =>
    ev_tuple (ds := [.list (m1.map .int), .list (m2.map .int)]) keepsOk cx_up Cx.taken (.cons (ev y1 m1 p1 h1 d1) (upRd _) rfl (.cons (ev y2 m2 p2 h2 d2) (upRd _) rfl .nil)) (show (2 : Nat) ≤ sizeLine by decide)
  show wpAny _ _ (execs (_ :: _) _) _ _ s₆
  refine wpAny_execs_cons (wpAny_If (tst_sld rmt hfr' (frOkC hef fo k6 c6) gd hXe (hcl c6) c6 rfl (ev "one" l _ l1 (by decide)) (ev "two" (up1 l) _ l2 (by decide)) (evp "alone" "come" _ _ _ _ _ _ l5 l6 (by decide) (by decide)) ok.s1 (by omega) (fun s₇ c7 kk7 srr7 => ?_) (by rfl) (by rfl) (by with_unfolding_all rfl)))
  rw [if_neg (by decide)]
  refine wpAny_execs_nil ?_
  have k7 := kpK hfo hef k6 kk7
  have sr7 := sr6.trans srr7
  show wpAny _ _ (execs (_ :: _) _) _ _ s₇
  refine wpAny_execs_cons (wpAny_If (tst_sld rmt hfr' (frOkC hef fo k7 c7) gd hXe (hcl c7) c7 rfl (ev "two" (up1 l) _ l2 (by decide)) (ev "one" l _ l1 (by decide)) (evp "come" "alone" _ _ _ _ _ _ l6 l5 (by decide) (by decide)) ok.s2 (by omega) (fun s₈ c8 kk8 srr8 => ?_) (by rfl) (by rfl) (by with_unfolding_all rfl)))
  rw [if_neg (by decide)]
  refine wpAny_execs_nil ?_
  have k8 := kpK hfo hef k7 kk8
  have sr8 := sr7.trans srr8
  show wpAny _ _ (execs (_ :: _) _) _ _ s₈
  have tne : ∀ (y1 y2 : Str) (m : List Int) (p1 p2 p3 : Pos), ρ.lookup y1 = some (.dat (.list (m.map .int))) → ρ.lookup y2 = some (.dat (.list (m.map .int))) → (y1 == ("__debug__" : Str)) = false → (y2 == ("__debug__" : Str)) = false → Tst prog w (A.deeper (cEnv 8 L (fa 8) (fc 8))) Keeps (cEnv 8 L (fa 8) (fc 8)) (Cx hb X' (cEnv 8 L (fa 8) (fc 8)) ρ) (.Compare (.Name y1 p1) [.NotEq] [.Name y2 p2] p3) false := fun y1 y2 m p1 p2 p3 h1 h2 d1 d2 =>
    tst_cmp (X := X') keepsOk cx_up (ev y1 m p1 h1 d1) (ev y2 m p2 h2 d2) (upRd _) (op_ne keepsOk hu (sh_ints _) (sh_ints _) (by rw [SeqAt.eqv_refl _ (SeqAt.canLay_of_shaped (sh_ints _))]; rfl))
  refine wpAny_execs_cons (ex_if (R := Keeps) (b := false || false) c8 (tst_or2 keepsOk cx_up (tne "one" "places" l _ _ _ l1 l3 (by decide) (by decide)) (tne "two" "moved" (up1 l) _ _ _ l2 l4 (by decide) (by decide))) fun s₉ r₉ => ?_)
  show wpAny _ _ (execs [] _) _ _ s₉
  refine wpAny_execs_nil ?_
  have c9 := cx_up _ _ (keepsOk.up r₉) c8
  have k9 : Kp (frs outer) s.heap s₉.heap := k8.trans (Kp.of_up (keepsOk.up r₉))
  have sr9 := sr8.trans (rfK.of r₉)
  obtain ⟨t1, t2, p1, w1, p2, w2, s3⟩ := ok.s3
  have e1l : t1.length = 3 * l.length := by rw [p1.length_eq, rep_len]
  have e2l : t2.length = 5 * l.length := by rw [p2.length_eq, rep_len, ul]
  have evs : ∀ (y : Str) (m t : List Int) (k k2 k3 : Nat) (p1 p2 p3 p4 p5 p6 p7 p8 p9 : Pos), ρ.lookup y = some (.dat (.list (m.map .int))) → (y == ("__debug__" : Str)) = false → k ≤ 5 → m.length ≤ 12 → t.Perm (List.replicate k m).flatten → t.Pairwise (· ≤ ·) → Ev prog w (A.deeper (cEnv 8 L (fa 8) (fc 8))) Keeps (cEnv 8 L (fa 8) (fc 8)) (Cx hb X' (cEnv 8 L (fa 8) (fc 8)) ρ)
      (.BinOp (.Call (.Name "sorted" p1) [.BinOp (.Name y p2) .Mult (.Constant (.int (k : Int)) k2 p3) p4] [] p5) .Add (.List [.Constant (.int 99) k3 p6] p7) p8) (fun h v => Rd X' h v (.list ((t ++ [99]).map .int))) := by
    intro y m t k k2 k3 p1 p2 p3 p4 p5 p6 p7 p8 p9 hl hd hk hm hp hs
    have hml : (List.replicate k m).flatten.length = k * m.length := by simp
    have hkm : k * m.length ≤ 5 * 12 := Nat.mul_le_mul hk hm
    have htl : t.length = k * m.length := by rw [hp.length_eq, hml]
    have e : (t ++ [99]).map PyData.int = t.map PyData.int ++ [.int 99] := by simp
    rw [e]
    refine ev_bin keepsOk cx_up (ev_call keepsOk cx_up (by rfl) gdo (fun _ _ => keepsF_builtin) (.cons (ev_bin keepsOk cx_up (ev y m p2 hl hd) (ev_int (X := X') keepsOk) (upRd _) (op_mulList keepsOk Cx.taken (by omega) (by omega))) (upRd _) (by rfl) .nil) (cal_sorted keepsOk Cx.taken hp hs (by rw [hml]; omega)) (by rfl) (by rfl) (by decide)) (ev_list (X := X') (ds := [.int 99]) keepsOk cx_up Cx.taken (.cons (ev_int (X := X') keepsOk) (upRd _) (by rfl) .nil) (show (1 : Nat) ≤ sizeLine by decide)) (upRd _) (op_addl keepsOk Cx.taken ?_)
    rw [List.length_map, htl, sizeLine_eq]
    simp only [List.length_cons, List.length_nil]
    omega
  show wpAny _ _ (execs (_ :: _) _) _ _ s₉
  refine wpAny_execs_cons (wpAny_If (tst_sld (xs := t1 ++ [99]) (ys := t2 ++ [99]) rmt hfr' (frOkC hef fo k9 c9) gd hXe (hcl c9) c9 rfl (evs "one" l t1 3 _ _ _ _ _ _ _ _ _ _ default l1 (by decide) (by omega) hlen p1 w1) (evs "two" (up1 l) t2 5 _ _ _ _ _ _ _ _ _ _ default l2 (by decide) (by omega) (by omega) p2 w2) (evp "alone" "come" _ _ _ _ _ _ l5 l6 (by decide) (by decide)) s3 (by simp only [List.length_append, List.length_cons, List.length_nil]; omega) (fun s₁₀ c10 kk10 srr10 => ?_) (by rfl) (by rfl) (by with_unfolding_all rfl)))
  rw [if_neg (by decide)]
  refine wpAny_execs_nil ?_
  have k10 := kpK hfo hef k9 kk10
  have sr10 := sr9.trans srr10
  show wpAny _ _ (execs (_ :: _) _) _ _ s₁₀
  refine wpAny_execs_cons (wpAny_Return_some ?_)
  have hac : (minus l (up1 l) ++ minus (up1 l) l).map PyData.int = (minus l (up1 l)).map PyData.int ++ (minus (up1 l) l).map PyData.int := List.map_append
  refine ev_call (P := fun h v => Rd X' h v (.list (r.map .int))) keepsOk cx_up (by rfl) gdo (fun _ _ => keepsF_builtin) (.cons (P := fun h v => Rd X' h v (.list ((minus l (up1 l) ++ minus (up1 l) l).map .int))) ?arg (upRd _) (by rfl) .nil) (cal_sorted keepsOk Cx.taken ok.r.1 ok.r.2 (by rw [List.length_append]; omega)) (by rfl) (by rfl) (by decide) s₁₀ c10 _ _ fun v s₁₁ r₁₁ hv => ?_
  case arg =>
    rw [hac]
    exact ev_bin keepsOk cx_up (ev "alone" _ _ l5 (by decide)) (ev "come" _ _ l6 (by decide)) (upRd _) (op_addl keepsOk Cx.taken (by rw [List.length_map, List.length_map, sizeLine_eq]; omega))
  exact hQ v s₁₁ (k10.trans (Kp.of_up (keepsOk.up r₁₁))) (sr10.trans (rfK.of r₁₁)) (hv.weak hXX)
end
end Mine
end

/-! part N3 -/
section
open PySem PySem.W PySem.Spec PySem.Calls PyProof.Rows
set_option Elab.async false
set_option linter.unusedVariables false
set_option maxRecDepth 100000
namespace Mine
section
variable {prog : Program} {w : World} {A : Around} {env : Env} {R F : Shared → Shared → Prop} {I : Heap → Prop} {hb : Heap} {X : Addr → Prop} {ρ : List (Str × VS)}

/-- something that a loop goes through, nothing of it the frame's own -/
def SrcX (prog : Program) (w : World) (A : Around) (R : Shared → Shared → Prop) (env : Env) (I : Heap → Prop) (X : Addr → Prop) (iter : Expr) (ds : List PyData) : Prop :=
  ∀ (s : Shared), I s.heap → ∀ (Q E : Value → Shared → Prop),
    (∀ It fp wr P St s₁ h₂ tk₂, R s s₁ → Up s₁.heap h₂ → Walks prog w A It fp wr ds.length P St → St 0 h₂ → (∀ i h, St i h → ∀ b ∈ wr, (h.get? b).isSome = true) → (∀ b ∈ fp, ¬ X b) → (∀ b ∈ wr, s₁.heap.get? b = none) → (∀ i v, P i v → ∃ d, ds[i]? = some d ∧ Sc v d) →
      Q (.ref It) { s₁ with heap := h₂, toks := tk₂ }) → wpAny (model prog w) A (eval iter env) (fun xv s₁ => wpAny (model prog w) A (pyIter xv) Q E s₁) E s

theorem srcX_list {iter : Expr} {ds : List PyData} (hR : RelOk R) (hI : UpC I) (hX : ∀ h, I h → Taken X h) (hA : A.handled = none) (h : Ev prog w A R env I iter (fun h v => Rd X h v (.list ds))) (hs : ∀ d ∈ ds, isSc d = true) : SrcX prog w A R env I X iter ds := fun s i Q E q => by
  refine h s i _ _ fun v s₁ r₁ p => ?_
  obtain ⟨a, vs, n, rfl, ha, ho, hl⟩ := p.list_inv
  have hL : s₁.heap.IsList a vs := ⟨_, ho, rfl, n, rfl⟩
  have k : Up s₁.heap (s₁.heap.push { cls := .type "list_iterator", data := .fields #[.ref a, .int 0 0] }) := fun _ _ e => Heap.get?_push_of_some _ e
  have hne : a ≠ s₁.heap.objs.size := fun e => by rw [e, get_size] at ho; cases ho
  have hlen : vs.size = ds.length := by rw [← hl.length]; simp
  refine wpAny_pyIter_list hL ?_
  refine q s₁.heap.objs.size [s₁.heap.objs.size, a] [s₁.heap.objs.size] _ _ s₁ (s₁.heap.push { cls := .type "list_iterator", data := .fields #[.ref a, .int 0 0] }) s₁.toks r₁ k (hlen ▸ Walks.list hA s₁.heap.objs.size a hne vs) ⟨⟨_, Heap.get?_push_size _ rfl, rfl, rfl⟩, ⟨_, k _ _ ho, rfl, n, rfl⟩⟩ ?_ ?_ ?_ ?_
  · rintro j g ⟨⟨o, h1, _⟩, _⟩ b hb
    rw [List.mem_singleton.mp hb, h1]; rfl
  · intro b hb
    simp only [List.mem_cons, List.not_mem_nil, or_false] at hb
    rcases hb with rfl | rfl
    · exact (hX _ (hI _ _ (hR.up r₁) i)).new
    · exact ha
  · intro b hb; rw [List.mem_singleton.mp hb]; exact get_size _
  · intro j v hj
    have hj' : vs.toList[j]? = some v := by simpa using hj
    have : j < ds.length := by
      rw [← hl.length]; exact (List.getElem?_eq_some_iff.mp hj').1
    obtain ⟨d, hd⟩ : ∃ d, ds[j]? = some d := ⟨_, List.getElem?_eq_getElem this⟩
    exact ⟨d, hd, (hl.at j v d hj' hd).sc (hs d (List.mem_of_getElem? hd))⟩

theorem srcX_range {e : Expr} {p pos : Pos} {n : Nat} (hR : RelOk R) (hI : UpC I) (hX : ∀ h, I h → Taken X h) (hA : A.handled = none) (hk : env.scope.kind = .function) (hn : ∀ h, I h → Sees env h "range" (.type "range"))
    (he : Ev prog w A R env I e (fun h v => Rd X h v (.int (n : Int)))) (hsz : n < 2 ^ 62)
    (hse : backTo pos (starEach [e] env) = [(false, eval e env)] := by rfl) : SrcX prog w A R env I X (.Call (.Name "range" p) [e] [] pos) (upto n) := fun s i Q E q => by
  refine Call_Name hse (wpAny_Name (loadSees hk (hn _ i) ?_) (by decide))
  refine PySem.callWith_type rfl (Calls.evalArgs_plain (Calls.spliced_cons (he s i _ _ fun nv s₁ r₁ pv => Calls.spliced_nil ?_)))
  obtain ⟨t, rfl⟩ := pv.int_inv
  refine call_range_1 ?_
  refine wpAny_pyIter_range (IsRange.new ..) (small_one (by decide) (by decide) (by omega) (by omega)) ?_
  have hz : Builtin.Range.rangeSize 0 (n : Int) 1 = (n : Int) := by rw [rangeSize_one]; split <;> omega
  rw [hz]
  refine q _ _ _ _ _ s₁ _ _ r₁ (fun b o e => Heap.get?_push_of_some _ (Heap.get?_push_of_some _ e)) (by rw [upto_len]; exact walks_lt (Walks.range hA _ 0 1 n)) ?_ ?_ ?_ ?_ ?_
  · show IsRangeIter _ _ _ _ _
    have e1 : (0 + ((0 : Nat) : Int) * 1) = 0 := by simp
    have e2 : ((n : Int) - ((0 : Nat) : Int)) = n := by simp
    rw [e1, e2]
    exact Heap.get?_push_size _ rfl
  · intro j g hst b hb
    rw [List.mem_singleton.mp hb]
    have hst : g.get? _ = some _ := hst
    rw [hst]; rfl
  · intro b hb x
    rw [List.mem_singleton.mp hb] at x
    obtain ⟨o, ho⟩ := Option.isSome_iff_exists.mp (hX _ (hI _ _ (hR.up r₁) i) _ x)
    exact absurd (Heap.lt_size ho) (by simp [Heap.size_push])
  · intro b hb
    rw [List.mem_singleton.mp hb]
    cases hg : s₁.heap.get? (s₁.heap.objs.size + 1) with
    | none => simpa [Heap.size_push] using hg
    | some o => exact absurd (Heap.lt_size hg) (Nat.not_lt.mpr (Nat.le_succ _))
  · rintro j v ⟨⟨t', rfl⟩, hj⟩
    exact ⟨_, upto_at hj, by rw [Int.mul_one, Int.zero_add]; exact .int _ _⟩

/-- for y in ..: body -/
theorem ex_for {iter : Expr} {y : Str} {py pos : Pos} {body : List Stmt} {ds : List PyData} {s : Shared} {Q : Flow → Shared → Prop} {E : Value → Shared → Prop} (ρf : Nat → List (Str × VS)) (Z : (Addr → Prop) → Nat → Shared → Prop) (rf : RF R F)
    (src : SrcX prog w A R env (Cx hb X env ρ) X iter ds) (c : Cx hb X env ρ s.heap) (hy : env.kindOf y = some .local)
    (start : ∀ X' s₂, (∀ b, X b → X' b) → (∀ b, X' b → X b ∨ s.heap.get? b = none) → Up s.heap s₂.heap → F s s₂ → Cx hb X' env ρ s₂.heap → Cx hb X' env (ρf 0) s₂.heap ∧ Z X' 0 s₂)
    (stab : ∀ X' i (s' : Shared) h' tk, Z X' i s' → (∀ b, X b → X' b) → (∀ b o, ¬ Fb env b → (X b ∨ ¬ X' b) → s'.heap.get? b = some o → h'.get? b = some o) → Z X' i { s' with heap := h', toks := tk })
    (turn : ∀ X' i d (s₁ : Shared) E', (∀ b, X b → X' b) → i < ds.length → ds[i]? = some d → Cx hb X' env ((y, .dat d) :: ρf i) s₁.heap → Z X' i s₁ → wpAny (model prog w) A (execs body env) (fun f s₂ => f = .next ∧ Cx hb X' env (ρf (i + 1)) s₂.heap ∧ Z X' (i + 1) s₂ ∧ ∀ b o, ¬ X b → s₁.heap.get? b = some o → s₂.heap.get? b = some o) E' s₁)
    (fin : ∀ X' s', (∀ b, X b → X' b) → Cx hb X env (ρf ds.length) s'.heap → Z X' ds.length s' → Q .next s')
    (hs : ∀ x, foldedSetIterable iter env x = pure x := by intro _; rfl) :
    wpAny (model prog w) A (exec (.For (.Name y py) iter body [] pos) env) Q E s := by
  refine wpAny_For (src s c _ _ fun It fp wr P St s₁ h₂ tk₂ r₁ k₂ W hst hsome hfp hwr hP => ?_) hs
  have c1 := cx_up _ _ (rf.ok.up r₁) c
  have nw : ∀ b, X b → b ∉ wr := fun b x hb => by
    have := c1.tk b x
    rw [hwr b hb] at this; cases this
  have kk : ∀ (X' : Addr → Prop), X' = (fun b => X b ∨ b ∈ wr) → ∀ b, (X b ∨ ¬ X' b) → b ∉ wr := fun X' e b x => by
    rcases x with x | x
    · exact nw b x
    · intro hb; exact x (by rw [e]; exact .inr hb)
  have c2 : Cx hb (fun b => X b ∨ b ∈ wr) env ρ h₂ := by
    have w' := c1.wf.up k₂
    have ng : ∀ a m, s₁.heap.Ns a m → a ∉ wr := fun a m n hb => by
      obtain ⟨o, _, _, h1, _⟩ := n
      rw [hwr a hb] at h1; cases h1
    obtain ⟨mg, mb, nn⟩ := c1.wf.nm
    refine ⟨{ w' with xl := .inl w'.xl, cell := fun n c e => let ⟨a, b, d⟩ := w'.cell n c e; ⟨a, .inl b, d⟩, xg := ⟨fun z => z.elim w'.xg.1 (ng _ _ nn.g), fun z => z.elim w'.xg.2 (ng _ _ nn.b)⟩ }, fun y z e => ?_, fun a x => ?_, c1.up.tr k₂, fun b o e x => ?_⟩
    · obtain ⟨v, a, b⟩ := c1.st y z e
      refine ⟨v, a.up k₂, ?_⟩
      cases z with
      | dat d => exact Rd.to b (fun b' o _ q => k₂ b' o q) fun b' o q x => x.elim id fun e => by rw [hwr b' e] at q; cases q
      | val u => exact b
    · rcases x with x | x
      · exact (c1.tk.up k₂) a x
      · exact hsome 0 h₂ hst a x
    · rcases x with x | x
      · exact c.fresh b o e x
      · have := c1.up b o e
        rw [hwr b x] at this; cases this
  generalize hX' : (fun b => X b ∨ b ∈ wr) = X' at c2
  have hXX : ∀ b, X b → X' b := fun b x => by rw [← hX']; exact .inl x
  have hXw : ∀ b, X' b → X b ∨ b ∈ wr := fun b x => by rw [← hX'] at x; exact x
  obtain ⟨c3, z3⟩ := start X' { s₁ with heap := h₂, toks := tk₂ } hXX (fun b x => (hXw b x).imp id fun hb => by
    cases q : s.heap.get? b with
    | none => rfl
    | some o => have := rf.ok.up r₁ b o q; rw [hwr b hb] at this; cases this) ((rf.ok.up r₁).tr k₂) (rf.trans (rf.of r₁) (rf.heap s₁ h₂ tk₂)) c2
  refine codeAny_forLoop_any (fun n s' => ∃ i, n = ds.length - i ∧ i ≤ ds.length ∧ Cx hb X' env (ρf i) s'.heap ∧ Z X' i s' ∧ St i s'.heap) (fun n s' hI => ?_) ds.length ⟨0, rfl, Nat.zero_le _, c3, z3, hst⟩
  obtain ⟨i, rfl, hi, ci, zi, si⟩ := hI
  by_cases hlt : i < ds.length
  · refine W.item i s' _ _ hlt si fun v h' tk p st' hk => ?_
    obtain ⟨d, hd, sc⟩ := hP i v p
    have ex : ∀ b o, (X b ∨ ¬ X' b) → s'.heap.get? b = some o → h'.get? b = some o := fun b o x q => hk b o (kk X' hX'.symm b x) q
    have ci' : Cx hb X' env (ρf i) h' := cx_other ci (fun b o x q => ex b o (x.imp (fun f => f.x c.wf) id) q) fun b x => by
      rcases hXw b x with x | x
      · obtain ⟨o, q⟩ := Option.isSome_iff_exists.mp (ci.tk b (hXX b x))
        rw [ex b o (.inl x) q]; rfl
      · exact hsome _ h' st' b x
    show wpAny _ A (pure () : Sem Unit) _ _ _
    refine wpAny_pure ?_
    refine wpAny_assign_Name (cx_store (s := { s' with heap := h', toks := tk }) (z := .dat d) ci' (.inl hy) sc.rd fun h'' tk'' c4 on => ?_)
    have z4 := stab X' i s' h'' tk'' zi hXX fun b o nf x q => on b o nf (ex b o x q)
    refine wpAny_mono (turn X' i d { s' with heap := h'', toks := tk'' } (fun _ _ => False) hXX hlt hd c4 z4) (fun f s₂ hm => ?_) (fun _ _ z => z.elim)
    obtain ⟨rfl, c5, z5, k5⟩ := hm
    refine ⟨ds.length - (i + 1), by omega, i + 1, rfl, hlt, c5, z5, W.frame (i + 1) h' s₂.heap st' fun b hb o q => ?_⟩
    exact k5 b o (hfp b hb) (on b o (fun f => hfp b hb (f.x c.wf)) q)
  · have hie : i = ds.length := by omega
    subst hie
    refine W.done s' _ _ si fun h' tk hk => ?_
    have ex : ∀ b o, (X b ∨ ¬ X' b) → s'.heap.get? b = some o → h'.get? b = some o := fun b o x q => hk b o (kk X' hX'.symm b x) q
    refine wpAny_execs_nil ?_
    refine fin X' { s' with heap := h', toks := tk } hXX ?_ (stab X' _ s' h' tk zi hXX fun b o _ x q => ex b o x q)
    obtain ⟨w', t', tk', u', f'⟩ := ci
    refine ⟨{ c.wf with loc := let ⟨m, n⟩ := w'.loc; ⟨m, n.at' fun o q => ex _ o (.inl c.wf.xl) q⟩, cell := fun n c' e => let ⟨⟨o, p, i1⟩, _⟩ := w'.cell n c' e; ⟨⟨o, p, ex c' p (.inl (c.wf.cell n c' e).2.1) i1.1, i1.2⟩, (c.wf.cell n c' e).2⟩, nm := Names.off w'.nm w'.xg fun b o hb q => ex b o (.inr hb) q }, fun y z e => ?_, fun b x => ?_, fun b o q => ex b o (.inr (f' b o q)) (u' b o q), c.fresh⟩
    · obtain ⟨v, a, b⟩ := t' y z e
      refine ⟨v, sees_other w' a fun b o x q => ex b o (x.imp (fun f => f.x c.wf) id) q, ?_⟩
      cases z with
      | dat d => exact Rd.to b (fun b o x q => ex b o (.inr x) q) fun b _ _ x => hXX b x
      | val u => exact b
    · obtain ⟨o, q⟩ := Option.isSome_iff_exists.mp (tk' b (hXX b x))
      rw [ex b o (.inl x) q]; rfl
end
end Mine
end

/-! part N4 -/
section
open PySem PySem.W PySem.Spec PySem.Calls PyProof.Rows
set_option Elab.async false
set_option linter.unusedVariables false
set_option maxRecDepth 100000
namespace Mine
section
variable {prog : Program} {w : World} {A : Around} {env : Env} {R F : Shared → Shared → Prop} {I : Heap → Prop} {hb : Heap} {X : Addr → Prop} {ρ : List (Str × VS)}

def odds (q : Nat) : List PyData := (List.range q).map fun j => PyData.int ((1 + 2 * j : Nat) : Int)
theorem odds_len (q : Nat) : (odds q).length = q := by simp [odds]
theorem odds_at {q j : Nat} (h : j < q) : (odds q)[j]? = some (.int ((1 + 2 * j : Nat) : Int)) := by simp [odds, h]
theorem size_odd (q : Nat) : Builtin.Range.rangeSize 1 ((2 * q + 1 : Nat) : Int) 2 = (q : Int) := by
  unfold Builtin.Range.rangeSize
  rw [if_pos (by decide)]
  split <;> omega
theorem small_odd {q : Nat} (h : q < 1000000) : Builtin.Range.small 1 ((2 * q + 1 : Nat) : Int) 2 = true := by
  unfold Builtin.Range.small
  rw [size_odd]
  obtain ⟨N, hN⟩ : ∃ N : Int, N = ((2 * q + 1 : Nat) : Int) := ⟨_, rfl⟩
  have h1 : 0 ≤ N := by omega
  have h2 : N < 2000003 := by omega
  obtain ⟨q', hq'⟩ : ∃ q' : Int, q' = (q : Int) := ⟨_, rfl⟩
  have h3 : 0 ≤ q' := by omega
  have h4 : q' < 1000000 := by omega
  rw [← hN, ← hq']
  clear hN hq' h
  simp only [Builtin.Range.rangeFitsLong, Bool.and_eq_true, Bool.or_eq_true, decide_eq_true_eq, beq_iff_eq, show (2 : Int) > 0 by decide, if_true]
  omega
theorem srcX_odds {e1 e2 e3 : Expr} {p pos : Pos} {q : Nat} (hR : RelOk R) (hI : UpC I) (hX : ∀ h, I h → Taken X h) (hA : A.handled = none) (hk : env.scope.kind = .function) (hn : ∀ h, I h → Sees env h "range" (.type "range"))
    (he : Evs prog w A R env I [e1, e2, e3] [fun h v => Rd X h v (.int 1), fun h v => Rd X h v (.int ((2 * q + 1 : Nat) : Int)), fun h v => Rd X h v (.int 2)]) (hq : q < 1000000)
    (hse : starEach [e1, e2, e3] env = (false, eval e1 env) :: starEach [e2, e3] env := by rfl) (hp : (backTo pos (starEach [e2, e3] env)).any (·.1) = false := by rfl) : SrcX prog w A R env I X (.Call (.Name "range" p) [e1, e2, e3] [] pos) (odds q) := fun s i Q E k => by
  refine Call_Name rfl (wpAny_Name (loadSees hk (hn _ i) ?_) (by decide))
  refine callWith_ev hR hI (fun _ _ => keepsF_type) he i (fun vs s₁ r₁ i' hv => ?_) hse hp
  cases hv with
  | cons p1 hv =>
    cases hv with
    | cons p2 hv =>
      cases hv with
      | cons p3 hv =>
        cases hv
        obtain ⟨t1, rfl⟩ := p1.int_inv
        obtain ⟨t2, rfl⟩ := p2.int_inv
        obtain ⟨t3, rfl⟩ := p3.int_inv
        refine call_range_3 (by decide) ?_ (.inl (PyProof.noPylong_small (by decide)))
        refine wpAny_pyIter_range (IsRange.new ..) (small_odd hq) ?_
        rw [size_odd]
        refine k _ _ _ _ _ s₁ _ _ r₁ (fun b o e => Heap.get?_push_of_some _ (Heap.get?_push_of_some _ e)) (by rw [odds_len]; exact walks_lt (Walks.range hA _ 1 2 q)) ?_ ?_ ?_ ?_ ?_
        · show IsRangeIter _ _ _ _ _
          have e1 : (1 + ((0 : Nat) : Int) * 2) = 1 := by simp
          have e2 : ((q : Int) - ((0 : Nat) : Int)) = q := by simp
          rw [e1, e2]
          exact Heap.get?_push_size _ rfl
        · intro j g hst b hb
          rw [List.mem_singleton.mp hb]
          have hst : g.get? _ = some _ := hst
          rw [hst]; rfl
        · intro b hb x
          rw [List.mem_singleton.mp hb] at x
          obtain ⟨o, ho⟩ := Option.isSome_iff_exists.mp (hX _ (hI _ _ (hR.up r₁) i) _ x)
          exact absurd (Heap.lt_size ho) (by simp [Heap.size_push])
        · intro b hb
          rw [List.mem_singleton.mp hb]
          cases hg : s₁.heap.get? (s₁.heap.objs.size + 1) with
          | none => simpa [Heap.size_push] using hg
          | some o => exact absurd (Heap.lt_size hg) (Nat.not_lt.mpr (Nat.le_succ _))
        · rintro j v ⟨⟨t', rfl⟩, hj⟩
          refine ⟨_, odds_at hj, ?_⟩
          have : (1 + (j : Int) * 2) = ((1 + 2 * j : Nat) : Int) := by omega
          rw [this]; exact .int _ _

/-- the units of pieces laid end to end -/
def uItems (spot : Nat) (x : Str) : List (Nat × Str) := (spot, ⟨#[x.cps.getD 0 0]⟩) :: (List.range (x.length / 2)).map fun j => (spot + (1 + 2 * j) + 1, slc x (1 + 2 * j) (1 + 2 * j + 2))
def lawU : Nat → List Str → List (Nat × Str)
  | _, [] => []
  | k, x :: r => uItems k x ++ lawU (k + x.length) r
def tot (ps : List Str) : Nat := (ps.map Str.length).sum
theorem lawU_app : ∀ (ps qs : List Str) (k : Nat), lawU k (ps ++ qs) = lawU k ps ++ lawU (k + tot ps) qs
  | [], qs, k => by simp [lawU, tot]
  | x :: ps, qs, k => by
    have := lawU_app ps qs (k + x.length)
    simp only [List.cons_append, lawU, this, List.append_assoc, tot, List.map_cons, List.sum_cons, Nat.add_assoc]
theorem tot_take {ps : List Str} {i : Nat} {x : Str} (h : ps[i]? = some x) : tot (ps.take (i + 1)) = tot (ps.take i) + x.length := by
  rw [List.take_succ, h]; simp [tot]
theorem lawU_take {ps : List Str} {i : Nat} {x : Str} (h : ps[i]? = some x) : lawU 0 (ps.take (i + 1)) = lawU 0 (ps.take i) ++ uItems (tot (ps.take i)) x := by
  rw [List.take_succ, h, lawU_app]; simp [lawU]
end
end Mine
end

/-! part C5 -/
section
open PySem PySem.W PySem.Spec PySem.Calls PyProof.Rows
set_option Elab.async false
set_option linter.unusedVariables false
set_option maxRecDepth 100000
namespace Mine
section
variable {prog : Program} {w : World} {A : Around} {env : Env} {R F : Shared → Shared → Prop} {I : Heap → Prop} {hb : Heap} {X : Addr → Prop} {ρ : List (Str × VS)}

theorem uItems_len {k : Nat} {x : Str} (h : 1 ≤ x.length) : (uItems k x).length ≤ x.length := by
  simp only [uItems, List.length_cons, List.length_map, List.length_range]; omega
theorem lawU_len : ∀ (ps : List Str) (k : Nat), (∀ x ∈ ps, 1 ≤ x.length) → (lawU k ps).length ≤ tot ps
  | [], _, _ => by simp [lawU]
  | x :: ps, k, h => by
    have h1 := uItems_len (k := k) (h x (.head _))
    have h2 := lawU_len ps (k + x.length) fun y hy => h y (.tail _ hy)
    simp only [lawU, List.length_append, tot, List.map_cons, List.sum_cons] at *
    omega
theorem tot_mono (ps : List Str) (i : Nat) : tot (ps.take i) ≤ tot ps := by
  have : tot ps = tot (ps.take i) + tot (ps.drop i) := by
    show (ps.map Str.length).sum = ((ps.take i).map Str.length).sum + ((ps.drop i).map Str.length).sum
    rw [← List.sum_append, ← List.map_append, List.take_append_drop]
  omega
theorem uItems_take {k q : Nat} {x : Str} {j : Nat} (hx : x.length = 2 * q + 1) (hj : j < q) : (uItems k x).take (1 + (j + 1)) = (uItems k x).take (1 + j) ++ [(k + (1 + 2 * j) + 1, slc x (1 + 2 * j) (1 + 2 * j + 2))] := by
  have h2 : x.length / 2 = q := by omega
  have : (uItems k x)[1 + j]? = some (k + (1 + 2 * j) + 1, slc x (1 + 2 * j) (1 + 2 * j + 2)) := by
    rw [uItems, h2, Nat.add_comm 1 j]
    simp [hj]
  rw [show 1 + (j + 1) = (1 + j) + 1 by omega, List.take_succ, this]; rfl
theorem uItems_all {k q : Nat} {x : Str} (hx : x.length = 2 * q + 1) : (uItems k x).take (1 + q) = uItems k x := by
  refine List.take_of_length_le ?_
  simp only [uItems, List.length_cons, List.length_map, List.length_range]; omega

abbrev uEnv (L f : Addr) (cd : Value) : Env := envOf (dOf 9).name (dOf 9).scope L f cd
theorem units_call {ps : List Str} {va : Value} {mg mb fa fc} {s : Shared} {Q E : Value → Shared → Prop} (rm : Room A 2 10) (gd : Gd hb mg mb fa fc) (up : Up hb s.heap)
    (tk : Taken X s.heap) (fresh : ∀ b o, hb.get? b = some o → ¬ X b) (ra : Rd X s.heap va (.list (ps.map .str))) (hn : ps.length ≤ 100) (hodd : ∀ x ∈ ps, ∃ q, x.length = 2 * q + 1) (ht : tot ps ≤ 1000)
    (hQ : ∀ v s', Up s.heap s'.heap → SameRest s s' → Rd X s'.heap v (.list ((lawU 0 ps).map uData)) → Q v s') :
    wpAny (model prog w) A (call (.ref (fa 9)) [va]) Q E s := by
  obtain ⟨⟨o, pm, doc, ho, hd, hcd⟩, _⟩ := (gd.up up).fn 9 (by decide)
  refine wpAny_call (call_plain_ret (by have := rm.depth; omega) ho hd (gd.up up).nl hcd rfl (locs rfl) (fun h₁ F₁ => ?_) rfl rfl rfl (by decide))
  have c0 : Cx hb (fun b => X b ∨ b = s.heap.objs.size) (envOf (dOf 9).name (dOf 9).scope s.heap.objs.size (fa 9) (fc 9)) [("pieces", .dat (.list (ps.map .str)))] h₁ := cx_entry2 F₁ gd.nm up tk fresh rfl fun y z e => by
    have := lookup_mem e
    simp only [List.mem_singleton, Prod.mk.injEq] at this
    obtain ⟨rfl, rfl⟩ := this
    exact ⟨va, rfl, rfl, ra⟩
  have k0 : Up s.heap h₁ := F₁.keep
  have hLn : s.heap.get? s.heap.objs.size = none := get_size _
  generalize s.heap.objs.size = L at c0 hLn
  change Cx hb _ (uEnv L (fa 9) (fc 9)) _ _ at c0
  generalize hs₁ : ({ s with heap := h₁, toks := _ } : Shared) = s₁
  have sr1 : SameRest s s₁ := by subst hs₁; exact ⟨_, _, rfl⟩
  have e1 : s₁.heap = h₁ := by subst hs₁; rfl
  rw [← e1] at c0 k0
  have hfb : ∀ b, Fb (uEnv L (fa 9) (fc 9)) b ↔ b = L := fun b => fb_plain
  have hfo : ∀ b o, s.heap.get? b = some o → ¬ Fb (uEnv L (fa 9) (fc 9)) b := fun b o q x => by
    rw [(hfb b).mp x, hLn] at q; cases q
  have onk : ∀ {h h' : Heap}, Up s.heap h → Only (uEnv L (fa 9) (fc 9)) h h' → Up s.heap h' := fun k on b o q => on b o (hfo b o q) (k b o q)
  have rm' : (A.deeper (uEnv L (fa 9) (fc 9))).handled = none := rm.handled
  show wpAny _ (A.deeper (uEnv L (fa 9) (fc 9))) (execs (_ :: _) (uEnv L (fa 9) (fc 9))) _ _ s₁
  refine wpAny_execs_cons (ex_newlist (ds := []) rfK c0 (.inl rfl) .nil (Nat.zero_le _) fun r v1 s₂ hr hf pl rd c2 o2 f2 => ?_)
  show wpAny _ _ (execs (_ :: _) _) _ _ s₂
  refine wpAny_execs_cons (ex_assign (z := .dat (.int ((0 : Nat) : Int))) rfK c2 (.inl rfl) (ev_int keepsOk) fun s₃ c3 o3 f3 => ?_)
  have u2 := onk k0 o2
  have u3 := onk u2 o3
  have sr3 := (sr1.trans f2).trans f3
  have hv1 : v1 = #[] := by cases v1 with | mk l => cases rd; rfl
  subst hv1
  have pl3 : s₃.heap.PlainList r #[] := pl.at fun o q => o3 r o hf q
  generalize hX0 : (fun b => (X b ∨ b = L) ∨ b = r) = X0 at c2 c3 rd
  have hX0r : X0 r := by rw [← hX0]; exact .inr rfl
  have hXX0 : ∀ b, X b → X0 b := fun b x => by rw [← hX0]; exact .inl (.inl x)
  have hpos : ∀ x ∈ ps, 1 ≤ x.length := fun x hx => let ⟨q, e⟩ := hodd x hx; by omega
  have hrs : s.heap.get? r = none := by
    cases z : s.heap.get? r with
    | none => rfl
    | some o => have := k0 r o z; rw [hr] at this; cases this
  show wpAny _ _ (execs (_ :: _) _) _ _ s₃
  let ρf : Nat → List (Str × VS) := fun i => [("spot", .dat (.int (tot (ps.take i) : Int))), ("units", .val (.ref r)), ("pieces", .dat (.list (ps.map .str)))]
  let Z : (Addr → Prop) → Nat → Shared → Prop := fun X' i s' => (∃ vs, s'.heap.PlainList r vs ∧ RdL X' s'.heap vs.toList ((lawU 0 (ps.take i)).map uData)) ∧ SameRest s s' ∧ Up s.heap s'.heap ∧ ∀ b, X' b → X0 b ∨ s₃.heap.get? b = none
  have oldX : ∀ {X' : Addr → Prop}, (∀ b, X' b → X0 b ∨ s₃.heap.get? b = none) → ∀ b o, s.heap.get? b = some o → (X0 b ∨ ¬ X' b) := fun h b o q => by
    rcases Classical.em (_ : Prop) with x | x
    · rcases h b x with x | x
      · exact .inl x
      · rw [u3 b o q] at x; cases x
    · exact .inr x
  have fbX : ∀ b, Fb (uEnv L (fa 9) (fc 9)) b → X0 b := fun b f => by rw [← hX0, (hfb b).mp f]; exact .inl (.inr rfl)
  refine wpAny_execs_cons (ex_for (X := X0) ρf Z rfK (srcX_list (X := X0) keepsOk cx_up Cx.taken rm' (ev_var (z := .dat (.list (ps.map .str))) keepsOk (fun _ c => c) (by rfl) (by rfl) (by decide)) (fun d h => by obtain ⟨x, _, rfl⟩ := List.mem_map.mp h; rfl)) c3 rfl (fun X' s₄ hXX hnew k f c => ⟨c.sub ?_, ⟨#[], pl3.at fun o q => k r o q, .nil⟩, sr3.trans f, u3.tr k, hnew⟩) ?stab ?turn ?fin (by intro _; rfl))
  · intro p hp
    simp only [ρf, List.take_zero, List.mem_cons, List.not_mem_nil, or_false] at hp
    rcases hp with rfl | rfl | rfl <;> rfl
  case stab =>
    rintro X' i s' h' tk ⟨⟨vs, p, q⟩, sr, up', hn'⟩ hXX hk
    refine ⟨⟨vs, p.at fun o z => hk r o hf (.inl hX0r) z, q.to (fun b o nx z => hk b o (fun f => nx (hXX b (fbX b f))) (.inr nx) z) fun _ _ _ x => x⟩, sr.trans ⟨h', tk, rfl⟩, fun b o z => hk b o (hfo b o z) (oldX hn' b o z) (up' b o z), hn'⟩
  case fin =>
    rintro X' s' hXX c4 ⟨⟨vs, p, q⟩, sr4, u4, _⟩
    rw [List.length_map, List.take_length] at q
    show wpAny _ _ (execs (_ :: _) _) _ _ s'
    have hrX : ¬ X r := fun x => by have := tk r x; rw [hrs] at this; cases this
    have rr : Rd X s'.heap (.ref r) (.list ((lawU 0 ps).map uData)) := by
      obtain ⟨n, z⟩ := p
      exact Rd.mkList hrX z (q.to (fun _ _ _ z => z) fun b _ _ x => hXX b (hXX0 b x))
    refine wpAny_execs_cons (wpAny_Return_some (ev_name (I := fun h => Cx hb X0 (uEnv L (fa 9) (fc 9)) (ρf (ps.map PyData.str).length) h ∧ Up s'.heap h) (P := fun h v => Rd X h v (.list ((lawU 0 ps).map uData))) keepsOk (by rfl) (fun h i => ?nm) (by decide) s' ⟨c4, Up.rfl'⟩ _ _ fun v s₅ r₅ hv => ?_))
    case nm =>
      obtain ⟨v, hv, hz'⟩ := i.1.st "units" (.val (.ref r)) (by rfl)
      change v = _ at hz'
      subst hz'
      exact ⟨_, hv, rr.up i.2⟩
    exact hQ v s₅ (u4.tr (keepsOk.up r₅)) (sr4.trans (rfK.of r₅)) hv
  case turn =>
    rintro X' i d s₄ E' hXX hi hd c4 ⟨⟨vs, p4, q4⟩, sr4, u4, hn4⟩
    rw [List.length_map] at hi
    obtain ⟨x, hx⟩ : ∃ x, ps[i]? = some x := ⟨_, List.getElem?_eq_getElem hi⟩
    rw [List.getElem?_map, hx] at hd
    cases hd
    obtain ⟨q, hq⟩ := hodd x (List.mem_of_getElem? hx)
    have hxl : x.length ≤ 1000 := by
      have h1 := tot_take hx
      have h2 := tot_mono ps (i + 1)
      omega
    have hxp : 0 < x.length := by omega
    have hlen1 : (lawU 0 (ps.take i)).length ≤ 1000 := Nat.le_trans (lawU_len _ _ fun y hy => hpos y (List.mem_of_mem_take hy)) (Nat.le_trans (tot_mono ps i) ht)
    have htt : tot (ps.take i) ≤ 1000 := Nat.le_trans (tot_mono ps i) ht
    have szx : x.length ≤ sizeLine := by rw [sizeLine_eq]; omega
    have v4 : vs.size ≤ sizeLine := by
      have := q4.length
      simp at this
      rw [sizeLine_eq]; omega
    have hXr : X' r := hXX r hX0r
    have c0x : x.cps[0]? = some (x.cps.getD 0 0) := by
      have : 0 < x.cps.size := hxp
      rw [Array.getD_eq_getD_getElem?, Array.getElem?_eq_getElem this]; rfl
    let ρ2 : List (Str × VS) := [("spot", .dat (.int (tot (ps.take i) : Int))), ("units", .val (.ref r)), ("pieces", .dat (.list (ps.map .str))), ("piece", .dat (.str x))]
    have c4 : Cx hb X' (uEnv L (fa 9) (fc 9)) ρ2 s₄.heap := c4.sub (by
      intro p hp
      simp only [ρ2, List.mem_cons, List.not_mem_nil, or_false] at hp
      rcases hp with rfl | rfl | rfl | rfl <;> rfl)
    show wpAny _ _ (execs (_ :: _) _) _ _ s₄
    refine wpAny_execs_cons (ex_append rfK c4 (l := "units") (r := r) (by rfl) ⟨hXr, hf⟩ p4 v4 (ev_tuple (X := X') (ds := [.int (tot (ps.take i) : Int), .str ⟨#[x.cps.getD 0 0]⟩]) keepsOk cx_up Cx.taken (.cons (ev_var (z := .dat (.int (tot (ps.take i) : Int))) keepsOk (fun _ c => c) (by rfl) (by rfl) (by decide)) (upRd _) (by rfl) (.cons (ev_sign (X := X') (i := 0) (x := x) keepsOk cx_up (ev_var (z := .dat (.str x)) keepsOk (fun _ c => c) (by rfl) (by rfl) (by decide)) (ev_int (X := X') keepsOk) (by omega) c0x) (upRd _) (by rfl) .nil)) (show (2 : Nat) ≤ sizeLine by decide)) fun v s₅ s₆ k5 pv p6 sb c6 f6 => ?_)
    have q6 : RdL X' s₆.heap (vs.push v).toList ((lawU 0 (ps.take i) ++ (uItems (tot (ps.take i)) x).take (1 + 0)).map uData) := by
      have e : (uItems (tot (ps.take i)) x).take (1 + 0) = [(tot (ps.take i), ⟨#[x.cps.getD 0 0]⟩)] := rfl
      rw [e, List.map_append, Array.toList_push]
      have kx : ∀ b o, ¬ X' b → s₅.heap.get? b = some o → s₆.heap.get? b = some o := fun b o nx z => sb.extBut b o (fun e => nx (e ▸ hXr)) z
      exact ((q4.up (keepsOk.up k5)).to kx fun _ _ _ x => x).append (.cons (pv.to kx fun _ _ _ x => x) .nil)
    have ex6 : ∀ b o, b ≠ r → s₄.heap.get? b = some o → s₆.heap.get? b = some o := fun b o hb z => sb.extBut b o hb (keepsOk.up k5 b o z)
    have u6 : Up s.heap s₆.heap := fun b o z => ex6 b o (fun e => by rw [e, hrs] at z; cases z) (u4 b o z)
    have nX6 : ∀ b o, ¬ X0 b → s₄.heap.get? b = some o → s₆.heap.get? b = some o := fun b o nx z => ex6 b o (fun e => nx (e ▸ hX0r)) z
    let Z2 : (Addr → Prop) → Nat → Shared → Prop := fun X2 j s' => (∃ vs, s'.heap.PlainList r vs ∧ RdL X2 s'.heap vs.toList ((lawU 0 (ps.take i) ++ (uItems (tot (ps.take i)) x).take (1 + j)).map uData)) ∧ SameRest s s' ∧ Up s.heap s'.heap ∧ (∀ b o, ¬ X0 b → s₄.heap.get? b = some o → s'.heap.get? b = some o) ∧ ∀ b, X2 b → X' b ∨ s₆.heap.get? b = none
    have old2 : ∀ {X2 : Addr → Prop}, (∀ b, X2 b → X' b ∨ s₆.heap.get? b = none) → ∀ b o, s₆.heap.get? b = some o → (X' b ∨ ¬ X2 b) := fun h b o z => by
      rcases Classical.em (_ : Prop) with y | y
      · rcases h b y with y | y
        · exact .inl y
        · rw [z] at y; cases y
      · exact .inr y
    show wpAny _ _ (execs (_ :: _) _) _ _ s₆
    refine wpAny_execs_cons (ex_for (X := X') (fun _ => ρ2) Z2 rfK (srcX_odds (X := X') (q := q) keepsOk cx_up Cx.taken rm' (by rfl) (fun h c => (gd.up c.up).seesB rfl rfl rfl (by simp)) (.cons (ev_int (X := X') keepsOk) (upRd _) (by rfl) (.cons ?len (upRd _) (by rfl) (.cons (ev_int (X := X') keepsOk) (upRd _) (by rfl) .nil))) (by omega) (by rfl) (by rfl)) c6 rfl (fun X2 s₇ hXX2 hnew k f c => ⟨c, ⟨vs.push v, p6.at fun o z => k r o z, ?q0⟩, sr4.trans (f6.trans f), u6.tr k, fun b o nx z => k b o (nX6 b o nx z), hnew⟩) ?stab2 ?turn2 ?fin2 (by intro _; rfl))
    case len =>
      rw [← hq]
      exact ev_call keepsOk cx_up (by rfl) (fun h c => (gd.up c.up).seesB (v := .builtin "len") rfl rfl rfl (by simp)) (fun _ _ => keepsF_builtin) (.cons (ev_var (z := .dat (.str x)) keepsOk (fun _ c => c) (by rfl) (by rfl) (by decide)) (upOk _) (by rfl) .nil) (cal_len_str keepsOk szx) (by rfl) (by rfl) (by decide)
    case q0 =>
      exact q6.to (fun b o _ z => k b o z) fun b o z x2 => (hnew b x2).elim id fun e => (by rw [z] at e; cases e)
    case stab2 =>
      rintro X2 j s' h' tk ⟨⟨vs, p, q⟩, sr, up', nx', hn'⟩ hXX2 hk
      have fbX2 : ∀ b, Fb (uEnv L (fa 9) (fc 9)) b → X0 b := fbX
      refine ⟨⟨vs, p.at fun o z => hk r o hf (.inl hXr) z, q.to (fun b o nx z => hk b o (fun f => nx (hXX2 b (hXX b (fbX b f)))) (.inr nx) z) fun _ _ _ x => x⟩, sr.trans ⟨h', tk, rfl⟩, fun b o z => hk b o (hfo b o z) (old2 hn' b o (u6 b o z)) (up' b o z), fun b o nx z => hk b o (fun f => nx (fbX b f)) (old2 hn' b o (nX6 b o nx z)) (nx' b o nx z), hn'⟩
    case turn2 =>
      rintro X2 j d s₈ E2 hXX2 hj hd c8 ⟨⟨vs8, p8, q8⟩, sr8, u8, nx8, hn8⟩
      rw [odds_len] at hj
      rw [odds_at hj] at hd
      cases hd
      have v8 : vs8.size ≤ sizeLine := by
        have h1 := q8.length
        have h2 := uItems_len (k := tot (ps.take i)) (x := x) (by omega)
        simp at h1
        rw [sizeLine_eq]; omega
      have hX2r : X2 r := hXX2 r hXr
      show wpAny _ _ (execs (_ :: _) _) _ _ s₈
      refine wpAny_execs_cons (ex_append rfK c8 (l := "units") (r := r) (by rfl) ⟨hX2r, hf⟩ p8 v8 (ev_tuple (X := X2) (ds := [.int ((tot (ps.take i) + (1 + 2 * j) + 1 : Nat) : Int), .str (slc x (1 + 2 * j) (1 + 2 * j + 2))]) keepsOk cx_up Cx.taken (.cons ?a1 (upRd _) (by rfl) (.cons ?a2 (upRd _) (by rfl) .nil)) (show (2 : Nat) ≤ sizeLine by decide)) fun v s₉ s₁₀ k9 pv p10 sb c10 f10 => ?_)
      case a1 =>
        exact ev_bin (P := fun h v => Rd X2 h v (.int ((tot (ps.take i) + (1 + 2 * j) + 1 : Nat) : Int))) keepsOk cx_up (ev_bin keepsOk cx_up (ev_var (z := .dat (.int (tot (ps.take i) : Int))) keepsOk (fun _ c => c) (by rfl) (by rfl) (by decide)) (ev_var (z := .dat (.int ((1 + 2 * j : Nat) : Int))) keepsOk (fun _ c => c) (by rfl) (by rfl) (by decide)) (upOk _) (op_addi keepsOk)) (ev_int (X := X2) keepsOk) (upRd _) (op_addi keepsOk)
      case a2 =>
        exact ev_slice (X := X2) (a := 1 + 2 * j) (b := 1 + 2 * j + 2) (x := x) keepsOk cx_up (ev_var (z := .dat (.str x)) keepsOk (fun _ c => c) (by rfl) (by rfl) (by decide)) (ev_var (z := .dat (.int ((1 + 2 * j : Nat) : Int))) keepsOk (fun _ c => c) (by rfl) (by rfl) (by decide)) (ev_bin (P := fun h v => Rd X2 h v (.int ((1 + 2 * j + 2 : Nat) : Int))) keepsOk cx_up (ev_var (z := .dat (.int ((1 + 2 * j : Nat) : Int))) keepsOk (fun _ c => c) (by rfl) (by rfl) (by decide)) (ev_int (X := X2) keepsOk) (upOk _) (op_addi keepsOk)) (by omega) (by omega) szx
      have ex10 : ∀ b o, b ≠ r → s₈.heap.get? b = some o → s₁₀.heap.get? b = some o := fun b o hb z => sb.extBut b o hb (keepsOk.up k9 b o z)
      refine wpAny_execs_nil ⟨rfl, c10.sub (by
        intro p hp
        simp only [ρ2, List.mem_cons, List.not_mem_nil, or_false] at hp
        rcases hp with rfl | rfl | rfl | rfl <;> rfl), ⟨⟨vs8.push v, p10, ?_⟩, sr8.trans f10, fun b o z => ex10 b o (fun e => by rw [e, hrs] at z; cases z) (u8 b o z), fun b o nx z => ex10 b o (fun e => nx (e ▸ hX0r)) (nx8 b o nx z), hn8⟩, fun b o nx z => ex10 b o (fun e => nx (e ▸ hXr)) z⟩
      rw [uItems_take hq hj, ← List.append_assoc, List.map_append, Array.toList_push]
      have kx : ∀ b o, ¬ X2 b → s₉.heap.get? b = some o → s₁₀.heap.get? b = some o := fun b o nx z => sb.extBut b o (fun e => nx (e ▸ hX2r)) z
      exact ((q8.up (keepsOk.up k9)).to kx fun _ _ _ x => x).append (.cons (pv.to kx fun _ _ _ x => x) .nil)
    case fin2 =>
      rintro X2 s₉ hXX2 c9 ⟨⟨vs9, p9, q9⟩, sr9, u9, nx9, hn9⟩
      rw [odds_len, uItems_all hq, ← lawU_take hx] at q9
      show wpAny _ _ (execs (_ :: _) _) _ _ s₉
      refine wpAny_execs_cons (ex_aug rfK c9 (.inl rfl) (i := (tot (ps.take i) : Int)) (j := (x.length : Int)) (by rfl) (ev_call keepsOk cx_up (by rfl) (fun h c => (gd.up c.up).seesB (v := .builtin "len") rfl rfl rfl (by simp)) (fun _ _ => keepsF_builtin) (.cons (ev_var (z := .dat (.str x)) keepsOk (fun _ c => c) (by rfl) (by rfl) (by decide)) (upOk _) (by rfl) .nil) (cal_len_str keepsOk szx) (by rfl) (by rfl) (by decide)) fun s₁₀ c10 o10 f10 => ?_)
      have ex10 : ∀ b o, ¬ Fb (uEnv L (fa 9) (fc 9)) b → s₉.heap.get? b = some o → s₁₀.heap.get? b = some o := o10
      refine wpAny_execs_nil ⟨rfl, c10.sub ?_, ⟨⟨vs9, p9.at fun o z => ex10 r o hf z, ?_⟩, sr9.trans f10, onk u9 o10, hn4⟩, fun b o nx z => ex10 b o (fun f => nx (fbX b f)) (nx9 b o nx z)⟩
      · intro p hp
        simp only [ρf, tot_take hx, List.mem_cons, List.not_mem_nil, or_false] at hp
        rcases hp with rfl | rfl | rfl <;> rfl
      · exact q9.to (fun b o nx z => ex10 b o (fun f => nx (hXX2 b (hXX b (fbX b f)))) z) fun b _ _ x => hXX2 b x
end
end Mine
end

/-! part W1 -/
section
open PySem PySem.W PySem.Spec PySem.Calls PyProof.Rows
set_option Elab.async false
set_option linter.unusedVariables false
set_option maxRecDepth 100000
namespace Mine
section
variable {prog : Program} {w : World} {A : Around} {env : Env} {R F : Shared → Shared → Prop} {I : Heap → Prop} {hb : Heap} {X : Addr → Prop} {ρ : List (Str × VS)} {mg mb : Str → Option Value} {fa : Nat → Addr} {fc : Nat → Value}

theorem op_nes {x y : Str} (hR : RelOk R) : Op2 prog w A R I (compareOp .NotEq) (fun h v => Rd X h v (.str x)) (fun h v => Rd X h v (.str y)) (fun h v => Rd X h v (.bool (x != y))) := fun s v u i p q Q E h => by
  obtain ⟨t, rfl⟩ := p.str_inv
  obtain ⟨t', rfl⟩ := q.str_inv
  exact PyProof.Rows.ne_str (h _ _ (hR.refl s) (.bool _))

theorem cal_strip {x : Str} (rm : Room A 4 100) (gd : Gd hb mg mb fa fc) (ha : x.cps.all (· < 128) = true) (hl : x.length ≤ 1000) : Cal prog w A Mv (Cx hb X env ρ) (.ref (fa 4)) [fun h v => Rd X h v (.str x)] (fun h v => Rd X h v (.str (strip x))) := fun s vs ii hv Q E h => by
  cases hv with
  | cons p q =>
    cases q
    obtain ⟨t, rfl⟩ := p.str_inv
    exact strip_call rm (gd.up ii.up) ha hl fun t' s' m => h _ _ m (.str _ _)
theorem ev_strip {x : Str} {e : Expr} {p pos : Pos} (rm : Room A 4 100) (gd : Gd hb mg mb fa fc) (hk : env.scope.kind = .function) (hg : env.kindOf "_strip_quoted_realnames" = some .globalImplicit) (hgl : env.globals = mainGlobals) (hbl : env.builtins = builtinsNs) (ha : x.cps.all (· < 128) = true) (hl : x.length ≤ 1000)
    (he : Ev prog w A Mv env (Cx hb X env ρ) e (fun h v => Rd X h v (.str x))) (hs : starEach [e] env = (false, eval e env) :: starEach [] env := by rfl) :
    Ev prog w A Mv env (Cx hb X env ρ) (.Call (.Name "_strip_quoted_realnames" p) [e] [] pos) (fun h v => Rd X h v (.str (strip x))) :=
  ev_call mvOk cx_up hk (fun h c => (gd.up c.up).seesF 4 (by decide) rfl hg hgl hbl) (fun h c => (gd.up c.up).keepsF 4 (by decide)) (.cons he (upRd _) hs .nil) (cal_strip rm gd ha hl) hs rfl (by decide)

theorem ev_units {x : Str} {e : Expr} {p p2 pos pos2 : Pos} (rm : Room A 4 100) (gd : Gd hb mg mb fa fc) (hk : env.scope.kind = .function) (hg : env.kindOf "_iter_escaped_chars" = some .globalImplicit) (hg2 : env.kindOf "list" = some .globalImplicit) (hgl : env.globals = mainGlobals) (hbl : env.builtins = builtinsNs) (ha : x.cps.all (· < 128) = true) (hl : x.length ≤ 1000)
    (he : Ev prog w A Mv env (Cx hb X env ρ) e (fun h v => Rd X h v (.str x))) (hs : starEach [e] env = (false, eval e env) :: starEach [] env := by rfl)
    (hs2 : backTo pos (starEach [.Call (.Name "_iter_escaped_chars" p2) [e] [] pos2] env) = [(false, eval (.Call (.Name "_iter_escaped_chars" p2) [e] [] pos2) env)] := by rfl) :
    Ev prog w A Mv env (Cx hb X env ρ) (.Call (.Name "list" p) [.Call (.Name "_iter_escaped_chars" p2) [e] [] pos2] [] pos) (fun h v => Rd X h v (.list ((unitsOf x).map uData))) := fun s c Q E h => by
  refine Call_Name hs2 (wpAny_Name (loadSees hk ((gd.up c.up).seesB (v := .type "list") hg2 hgl hbl (by simp)) ?_) (by decide))
  refine PySem.callWith_type rfl (Calls.evalArgs_plain (Calls.spliced_cons ?_))
  refine Call_Name rfl (wpAny_Name (loadSees hk ((gd.up c.up).seesF 3 (by decide) rfl hg hgl hbl) ?_) (by decide))
  refine callWith_ev (R := Mv) mvOk cx_up (fun h c => (gd.up c.up).keepsF 3 (by decide)) (.cons he (upRd _) hs .nil) c (fun vs s₁ r₁ c₁ hvs => ?_) hs rfl
  obtain ⟨t', rfl⟩ : ∃ t', vs = [.str x t'] := by
    cases hvs with
    | cons p q =>
      cases q
      obtain ⟨t', rfl⟩ := Rd.str_inv p
      exact ⟨t', rfl⟩
  have g1 := gd.up c₁.up
  have hsz : x.length ≤ sizeLine := by rw [sizeLine_eq]; omega
  have hdp : A.depth < recursionLimit := by have := rm.depth; omega
  have hun : (unitsOf x).length ≤ sizeLine := by
    have := units_len x.cps.toList false 0
    have h2 : (unitsOf x).length ≤ x.length := by simpa [unitsOf, Str.length] using this
    omega
  refine gen_call (L := s₁.heap.objs.size) (cd := fc 3) A.in1.in1.in1 ha rm.handled hsz hdp g1.nl (g1.fn 3 (by decide)).1 g1.nm (g1.bi ("enumerate", .type "enumerate") (by simp)) (fun a' s₂ _ up2 ha' G2 os2 bare2 => ?_) rfl
  refine Calls.spliced_nil ?_
  refine fill_call (X := X) (A := A) (s₀ := s₁) hun rfl rm.handled hdp g1.nm g1.nl c₁.tk up2 ⟨os2, bare2⟩ G2 fun v s₃ m hv => ?_
  exact h v s₃ (mvOk.trans r₁ m) hv
end
end Mine
end

/-! part W2 -/
section
open PySem PySem.W PySem.Spec PySem.Calls PyProof.Rows
set_option Elab.async false
set_option linter.unusedVariables false
set_option maxRecDepth 100000
namespace Mine
abbrev quo : Str := ⟨#[34]⟩
abbrev bsl : Str := ⟨#[92]⟩
abbrev bsl2 : Str := ⟨#[92, 92]⟩
theorem bsl2_is : Str.ofString "\\\\" = bsl2 := by decide +kernel
def emp : Str := Str.ofString ""
def spc : Str := Str.ofString " "
def bareOf (x : Str) : List Str := (x.cps.toList.filter (· != 34)).map fun c => ⟨#[c]⟩
def keptN (m : List Int) : List Nat := (List.range 12).filter fun p => !m.contains (p : Int)
def keptL (m : List Int) (P : List Str) : List Str := (keptN m).map fun p => P.getD p emp
/-- what the law's end asks of the last text -/
structure EndOk (P : List Str) (m : List Int) (lf : Str) : Prop where
  pl : P.length = 12
  odd : ∀ x ∈ P, ∃ q, x.length = 2 * q + 1 ∧ q ≤ 3
  asc : lf.cps.all (· < 128) = true
  len : lf.length ≤ 300
  s1 : strip lf = lf
  s2 : strip (cat (bareOf lf)) = cat (bareOf lf)
  s3 : ∀ rest ∈ [emp, spc, quo ++ lf ++ bsl], strip (quo ++ lf ++ quo ++ rest) = rest
  u1 : unitsOf (lf ++ bsl2) = lawU 0 (keptL m P) ++ [(lf.length + 1, bsl2)]
  u2 : unitsOf (lf ++ bsl) = lawU 0 (keptL m P) ++ [(lf.length, bsl)]

theorem sign_eq (c d : Nat) : ((⟨#[c]⟩ : Str) == ⟨#[d]⟩) = (c == d) := by
  by_cases h : c = d
  · subst h; simp
  · have : (⟨#[c]⟩ : Str) ≠ ⟨#[d]⟩ := fun e => h (by simpa using e)
    rw [beq_eq_false_iff_ne.mpr this, beq_eq_false_iff_ne.mpr h]
theorem bare_comp (x : Str) : ((signs x).filter (fun d => match d with | .str y => y != quo | _ => false)).map (fun d => d) = (bareOf x).map .str := by
  rw [List.map_id']
  unfold signs bareOf
  generalize x.cps.toList = l
  induction l with
  | nil => rfl
  | cons c l ih =>
    rw [List.map_cons, List.filter_cons, List.filter_cons]
    have : ((⟨#[c]⟩ : Str) != quo) = (c != 34) := by rw [bne, bne, sign_eq]
    simp only [this]
    by_cases h : (c != 34) = true
    · rw [if_pos h, if_pos h, ih]; rfl
    · rw [if_neg h, if_neg h, ih]
theorem bare_sum (x : Str) : ((bareOf x).map Str.length).sum ≤ x.length := by
  unfold bareOf
  have : ∀ l : List Nat, ((l.map fun c => (⟨#[c]⟩ : Str)).map Str.length).sum = l.length := by
    intro l
    induction l with
    | nil => rfl
    | cons a l ih => rw [List.map_cons, List.map_cons, List.sum_cons, ih]; simp [Str.length]; omega
  rw [this]
  exact List.length_filter_le _ _
theorem asc_app {x y : Str} (hx : x.cps.all (· < 128) = true) (hy : y.cps.all (· < 128) = true) : (x ++ y).cps.all (· < 128) = true := by
  show (x.cps ++ y.cps).all (· < 128) = true
  rw [Array.all_append, hx, hy]; rfl
theorem len_app (x y : Str) : (x ++ y).length = x.length + y.length := by
  show (x.cps ++ y.cps).size = _
  rw [Array.size_append]; rfl
theorem asc_cat : ∀ {l : List Str}, (∀ x ∈ l, x.cps.all (· < 128) = true) → (cat l).cps.all (· < 128) = true
  | [], _ => by simp [cat]
  | x :: r, h => by
    show (x.cps ++ (cat r).cps).all (· < 128) = true
    rw [Array.all_append, h x (.head _), asc_cat fun y hy => h y (.tail _ hy)]; rfl
theorem len_cat : ∀ (l : List Str), (cat l).length = tot l
  | [] => rfl
  | x :: r => by
    show (x.cps ++ (cat r).cps).size = _
    rw [Array.size_append]
    have := len_cat r
    simp only [tot, List.map_cons, List.sum_cons] at this ⊢
    show x.length + (cat r).length = _
    omega
theorem bare_asc {x : Str} (h : x.cps.all (· < 128) = true) : (cat (bareOf x)).cps.all (· < 128) = true := asc_cat fun y hy => by
  obtain ⟨c, hc, rfl⟩ := List.mem_map.mp hy
  have := (Array.all_eq_true'.mp h) c (by simpa using (List.mem_filter.mp hc).1)
  simpa using this
theorem units_lay : ∀ (l : List Nat) (b : Bool) (k : Nat), (∀ c ∈ l, c < 128) → PyData.canLayAll0 ((unitsB b k l).map uData) = true ∧ PyData.depthAll ((unitsB b k l).map uData) ≤ 3
  | [], false, k, h => by simp [unitsB, PyData.canLayAll0, PyData.depthAll]
  | [], true, k, h => by
    simp [unitsB, uData, PyData.canLayAll0, PyData.canLay0, PyData.depthAll, PyData.depth, PyData.strOk]
  | c :: r, false, k, h => by
    unfold unitsB
    have hc := h c (.head _)
    split
    · exact units_lay r true (k + 1) fun y hy => h y (.tail _ hy)
    · obtain ⟨h1, h2⟩ := units_lay r false (k + 1) fun y hy => h y (.tail _ hy)
      refine ⟨?_, ?_⟩
      · show (PyData.canLay0 (uData _) && PyData.canLayAll0 _) = true
        rw [h1]
        simp [uData, PyData.canLay0, PyData.canLayAll0, PyData.strOk]; omega
      · show PyData.depthAll (uData _ :: _) ≤ 3
        simp only [PyData.depthAll, uData, PyData.depth]; omega
  | c :: r, true, k, h => by
    unfold unitsB
    have hc := h c (.head _)
    obtain ⟨h1, h2⟩ := units_lay r false (k + 1) fun y hy => h y (.tail _ hy)
    refine ⟨?_, ?_⟩
    · show (PyData.canLay0 (uData _) && PyData.canLayAll0 _) = true
      rw [h1]
      simp [uData, PyData.canLay0, PyData.canLayAll0, PyData.strOk]; omega
    · show PyData.depthAll (uData _ :: _) ≤ 3
      simp only [PyData.depthAll, uData, PyData.depth]; omega
theorem units_shaped {x : Str} (h : x.cps.all (· < 128) = true) : SeqAt.shaped (.list ((unitsOf x).map uData)) = true := by
  obtain ⟨h1, h2⟩ := units_lay x.cps.toList false 0 fun c hc => by
    have := (Array.all_eq_true'.mp h) c (by simpa using hc)
    simpa using this
  show (PyData.canLay0 (.list ((unitsB false 0 x.cps.toList).map uData)) && decide (PyData.depth (.list ((unitsB false 0 x.cps.toList).map uData)) ≤ 64)) = true
  simp only [PyData.canLay0, h1, PyData.depth, Bool.true_and]
  exact decide_eq_true (by omega)
end Mine
end

/-! part W3 -/
section
open PySem PySem.W PySem.Spec PySem.Calls PyProof.Rows
set_option Elab.async false
set_option linter.unusedVariables false
set_option maxRecDepth 100000
set_option maxHeartbeats 4000000
namespace Mine
def lawBody (k : Nat) : List Stmt := (dOf 10).body.drop k
section
variable {prog : Program} {w : World} {A : Around} {hb : Heap} {X : Addr → Prop} {ρ : List (Str × VS)} {mg mb : Str → Option Value} {fa : Nat → Addr} {fc : Nat → Value} {L f : Addr} {cd : Value} {s : Shared} {E : Value → Shared → Prop}

theorem quoE {env : Env} {R : Shared → Shared → Prop} {I : Heap → Prop} {k : Nat} {p : Pos} (hR : RelOk R) : Ev prog w A R env I (.Constant (.str "\"") k p) (fun h v => Rd X h v (.str quo)) := quo_is ▸ ev_str (X := X) hR
theorem bslE {env : Env} {R : Shared → Shared → Prop} {I : Heap → Prop} {k : Nat} {p : Pos} (hR : RelOk R) : Ev prog w A R env I (.Constant (.str "\\") k p) (fun h v => Rd X h v (.str bsl)) := bs_is ▸ ev_str (X := X) hR
theorem bsl2E {env : Env} {R : Shared → Shared → Prop} {I : Heap → Prop} {k : Nat} {p : Pos} (hR : RelOk R) : Ev prog w A R env I (.Constant (.str "\\\\") k p) (fun h v => Rd X h v (.str bsl2)) := bsl2_is ▸ ev_str (X := X) hR

theorem quo_asc : quo.cps.all (· < 128) = true := by decide +kernel
theorem bsl_asc : bsl.cps.all (· < 128) = true := by decide +kernel
theorem bsl2_asc : bsl2.cps.all (· < 128) = true := by decide +kernel
theorem ne_self {x : Str} : (x != x) = false := by simp
theorem tst_false {env : Env} {I : Heap → Prop} {e : Expr} {b : Bool} (h : Tst prog w A Mv env I e b) (hb : b = false) : Tst prog w A Mv env I e false := hb ▸ h

theorem cal_units {env : Env} {ps : List Str} (rm : Room A 2 10) (gd : Gd hb mg mb fa fc) (hn : ps.length ≤ 100) (hodd : ∀ x ∈ ps, ∃ q, x.length = 2 * q + 1) (ht : tot ps ≤ 1000) : Cal prog w A Mv (Cx hb X env ρ) (.ref (fa 9)) [fun h v => Rd X h v (.list (ps.map .str))] (fun h v => Rd X h v (.list ((lawU 0 ps).map uData))) := fun s vs ii hv Q E h => by
  cases hv with
  | cons p q =>
    cases q
    refine units_call rm gd ii.up ii.tk ii.fresh p hn hodd ht fun v s' u sr hv => h v s' ⟨u, ?_, fun g => ?_⟩ hv
    · exact (Fm.of_rest sr).os
    · exact (Fm.of_rest sr).bare g
theorem upto_comp (n : Nat) (q : Int → Bool) (F : Nat → Str) : ((upto n).filter (fun d => match d with | .int i => q i | _ => false)).map (fun d => match d with | .int i => PyData.str (F i.toNat) | d => d) = (((List.range n).filter fun p : Nat => q (p : Int)).map F).map .str := by
  unfold upto
  generalize List.range n = l
  induction l with
  | nil => rfl
  | cons a l ih =>
    simp only [List.map_cons, List.filter_cons]
    by_cases h : q (a : Int) = true
    · rw [if_pos h, if_pos h]
      simp only [List.map_cons, ih]; rfl
    · rw [if_neg h, if_neg h]; exact ih
theorem Cx.tail {env : Env} {y : Str} {z : VS} {h : Heap} (c : Cx hb X env ((y, z) :: ρ) h) (hn : ρ.lookup y = none) : Cx hb X env ρ h := ⟨c.wf, fun y' z' e => c.st y' z' (by
  rw [List.lookup_cons]
  by_cases h : y' = y
  · subst h; rw [hn] at e; cases e
  · rw [beq_eq_false_iff_ne.mpr h]; exact e), c.tk, c.up, c.fresh⟩
theorem lawE {P : List Str} {m : List Int} {lf : Str} {Q : Flow → Shared → Prop} (ok : EndOk P m lf) (rm : Room A 4 100) (gd : Gd hb mg mb fa fc) (c : Cx hb X (cEnv 10 L f cd) ρ s.heap)
    (l1 : ρ.lookup ("left" : Str) = some (.dat (.str lf))) (l2 : ρ.lookup ("marks" : Str) = some (.dat (.list (m.map .int)))) (l3 : ρ.lookup ("pieces" : Str) = some (.dat (.list (P.map .str))))
    (hQ : ∀ s', Up hb s'.heap → Fm s s' → Q (.ret (.bool true)) s') : wpAny (model prog w) A (execs (lawBody 13) (cEnv 10 L f cd)) Q E s := by
  have hA := rm.handled
  have hu : A.units + 64 < cLine := by have := rm.units; omega
  have hlen := ok.len
  have szl : lf.length ≤ sizeLine := by rw [sizeLine_eq]; omega
  have fbX : ∀ b, Fb (cEnv 10 L f cd) b → X b := fun b x => x.x c.wf
  show wpAny _ A (execs (_ :: _) (cEnv 10 L f cd)) _ _ s
  refine wpAny_execs_cons (ex_assign (z := .dat (.str (cat (bareOf lf)))) rfM c (.inl rfl) (ev_join (X := X) (l := bareOf lf) mvOk cx_up (ev_comp' (X := X) (ds := signs lf) (p := fun d => match d with | .str y => y != quo | _ => false) (g := fun d => d) (bare_comp lf) mvOk cx_up Cx.taken (src_str (X := X) mvOk hA (ev_var (z := .dat (.str lf)) mvOk (fun _ c => c) (by rfl) l1 (by decide)) ok.asc) (by rw [signs_len]; exact szl) ⟨fun C v d sc hd => ?t1, fun C v d sc hd _ => ?e1⟩ (by rfl) (by decide) (by rfl) (by decide) (by rfl) (by intro _; rfl)) (Nat.le_trans (bare_sum lf) szl) (by rfl) (by rfl)) fun s₁ c1 o1 f1 => ?_)
  case t1 =>
    obtain ⟨x, _, rfl⟩ := List.mem_map.mp hd
    exact tst_cmp (X := X) keepsOk ciUp (ev_it (X := X) keepsOk (by rfl) sc (fun h i => i.2)) (quoE keepsOk) (upRd _) (op_nes keepsOk)
  case e1 =>
    obtain ⟨x, _, rfl⟩ := List.mem_map.mp hd
    exact ev_sc (X := X) (ev_it keepsOk (by rfl) sc (fun h i => i.2)) rfl
  have l1' : ((("bare" : Str), VS.dat (.str (cat (bareOf lf)))) :: ρ).lookup ("left" : Str) = some (.dat (.str lf)) := by rw [List.lookup_cons]; exact l1
  have l0' : ((("bare" : Str), VS.dat (.str (cat (bareOf lf)))) :: ρ).lookup ("bare" : Str) = some (.dat (.str (cat (bareOf lf)))) := by rw [List.lookup_cons]; rfl
  have l2' : ((("bare" : Str), VS.dat (.str (cat (bareOf lf)))) :: ρ).lookup ("marks" : Str) = some (.dat (.list (m.map .int))) := by rw [List.lookup_cons]; exact l2
  have l3' : ((("bare" : Str), VS.dat (.str (cat (bareOf lf)))) :: ρ).lookup ("pieces" : Str) = some (.dat (.list (P.map .str))) := by rw [List.lookup_cons]; exact l3
  have c1 := c1.sub (ρ' := [("left", .dat (.str lf)), ("bare", .dat (.str (cat (bareOf lf)))), ("marks", .dat (.list (m.map .int))), ("pieces", .dat (.list (P.map .str)))]) (by
    intro p hp
    simp only [List.mem_cons, List.not_mem_nil, or_false] at hp
    rcases hp with rfl | rfl | rfl | rfl <;> assumption)
  clear l1' l0' l2' l3'
  have l1' : ([("left", .dat (.str lf)), ("bare", .dat (.str (cat (bareOf lf)))), ("marks", .dat (.list (m.map .int))), ("pieces", .dat (.list (P.map .str)))] : List (Str × VS)).lookup ("left" : Str) = some (.dat (.str lf)) := rfl
  have l0' : ([("left", .dat (.str lf)), ("bare", .dat (.str (cat (bareOf lf)))), ("marks", .dat (.list (m.map .int))), ("pieces", .dat (.list (P.map .str)))] : List (Str × VS)).lookup ("bare" : Str) = some (.dat (.str (cat (bareOf lf)))) := rfl
  have l2' : ([("left", .dat (.str lf)), ("bare", .dat (.str (cat (bareOf lf)))), ("marks", .dat (.list (m.map .int))), ("pieces", .dat (.list (P.map .str)))] : List (Str × VS)).lookup ("marks" : Str) = some (.dat (.list (m.map .int))) := rfl
  have l3' : ([("left", .dat (.str lf)), ("bare", .dat (.str (cat (bareOf lf)))), ("marks", .dat (.list (m.map .int))), ("pieces", .dat (.list (P.map .str)))] : List (Str × VS)).lookup ("pieces" : Str) = some (.dat (.list (P.map .str))) := rfl
  have nr : ([("left", .dat (.str lf)), ("bare", .dat (.str (cat (bareOf lf)))), ("marks", .dat (.list (m.map .int))), ("pieces", .dat (.list (P.map .str)))] : List (Str × VS)).lookup ("rest" : Str) = none := rfl
  generalize ([("left", .dat (.str lf)), ("bare", .dat (.str (cat (bareOf lf)))), ("marks", .dat (.list (m.map .int))), ("pieces", .dat (.list (P.map .str)))] : List (Str × VS)) = ρ1 at c1 l1' l0' l2' l3' nr
  have evs : ∀ (y : Str) (x : Str) (p : Pos), ρ1.lookup y = some (.dat (.str x)) → (y == ("__debug__" : Str)) = false → Ev prog w A Mv (cEnv 10 L f cd) (Cx hb X (cEnv 10 L f cd) ρ1) (.Name y p) (fun h v => Rd X h v (.str x)) := fun y x p h d => ev_var (z := .dat (.str x)) mvOk (fun _ c => c) rfl h d
  have bl : (cat (bareOf lf)).length ≤ 1000 := by rw [len_cat]; exact Nat.le_trans (bare_sum lf) (by omega)
  show wpAny _ _ (execs (_ :: _) _) _ _ s₁
  refine wpAny_execs_cons (ex_if (R := Mv) (b := false || false) c1 (tst_or2 mvOk cx_up (tst_false (tst_cmp (X := X) mvOk cx_up (ev_strip rm gd (by rfl) (by rfl) (by rfl) (by rfl) ok.asc (by omega) (evs "left" lf _ l1' (by decide)) (by rfl)) (evs "left" lf _ l1' (by decide)) (upRd _) (op_nes mvOk)) (by rw [ok.s1]; exact ne_self)) (tst_false (tst_cmp (X := X) mvOk cx_up (ev_strip rm gd (by rfl) (by rfl) (by rfl) (by rfl) (bare_asc ok.asc) bl (evs "bare" (cat (bareOf lf)) _ l0' (by decide)) (by rfl)) (evs "bare" (cat (bareOf lf)) _ l0' (by decide)) (upRd _) (op_nes mvOk)) (by rw [ok.s2]; exact ne_self))) fun s₂ r₂ => ?_)
  show wpAny _ _ (execs [] _) _ _ s₂
  refine wpAny_execs_nil ?_
  have c2 := cx_up _ _ (mvOk.up r₂) c1
  have f2 : Fm s s₂ := rfM.trans f1 (rfM.of r₂)
  show wpAny _ _ (execs (_ :: _) _) _ _ s₂
  have rests : ∀ d ∈ ([emp, spc, quo ++ lf ++ bsl].map PyData.str), isSc d = true := fun d h => by
    obtain ⟨x, _, rfl⟩ := List.mem_map.mp h; rfl
  refine wpAny_execs_cons (ex_for (X := X) (F := Fm) (fun _ => ρ1) (fun X' i s' => Fm s s' ∧ Up hb s'.heap ∧ ∀ b o, hb.get? b = some o → ¬ X' b) rfM (srcX_list (X := X) (ds := [emp, spc, quo ++ lf ++ bsl].map .str) mvOk cx_up Cx.taken hA (ev_list (X := X) mvOk cx_up Cx.taken (.cons (ev_str (X := X) mvOk) (upRd _) (by rfl) (.cons (ev_str (X := X) mvOk) (upRd _) (by rfl) (.cons ?third (upRd _) (by rfl) .nil))) (show (3 : Nat) ≤ sizeLine by decide)) rests) c2 (by rfl) (fun X' s₃ hXX hnew k fm c => ⟨c, rfM.trans f2 fm, c.up, c.fresh⟩) ?stab ?turn ?fin (by intro _; rfl))
  case third =>
    exact ev_bin mvOk cx_up (ev_bin mvOk cx_up (quoE mvOk) (evs "left" lf _ l1' (by decide)) (upRd _) (op_adds mvOk (by show 1 + _ ≤ _; rw [sizeLine_eq]; omega))) (bslE mvOk) (upRd _) (op_adds mvOk (by rw [len_app]; show 1 + _ + 1 ≤ _; rw [sizeLine_eq]; omega))
  case stab =>
    rintro X' i s' h' tk ⟨fm, u, fr⟩ hXX hk
    exact ⟨rfM.trans fm (rfM.heap _ _ _), fun b o q => hk b o (fun x => fr b o q (hXX b (fbX b x))) (.inr (fr b o q)) (u b o q), fr⟩
  case turn =>
    rintro X' i d s₃ E' hXX hi hd c3 ⟨fm, u, fr⟩
    obtain ⟨x, hx, rfl⟩ := List.mem_map.mp (List.mem_of_getElem? hd)
    have hax : x.cps.all (· < 128) = true ∧ x.length ≤ 302 := by
      simp only [List.mem_cons, List.not_mem_nil, or_false] at hx
      rcases hx with rfl | rfl | rfl
      · exact ⟨by decide +kernel, by decide +kernel⟩
      · exact ⟨by decide +kernel, by decide +kernel⟩
      · exact ⟨asc_app (asc_app quo_asc ok.asc) bsl_asc, by rw [len_app, len_app]; show 1 + _ + 1 ≤ _; omega⟩
    have evx : ∀ (p : Pos), Ev prog w A Mv (cEnv 10 L f cd) (Cx hb X' (cEnv 10 L f cd) ((("rest" : Str), VS.dat (.str x)) :: ρ1)) (.Name "rest" p) (fun h v => Rd X' h v (.str x)) := fun p => ev_var (z := .dat (.str x)) mvOk (fun _ c => c) rfl rfl (by decide)
    have evl : ∀ (p : Pos), Ev prog w A Mv (cEnv 10 L f cd) (Cx hb X' (cEnv 10 L f cd) ((("rest" : Str), VS.dat (.str x)) :: ρ1)) (.Name "left" p) (fun h v => Rd X' h v (.str lf)) := fun p => ev_var (z := .dat (.str lf)) mvOk (fun _ c => c) rfl (by rw [List.lookup_cons]; exact l1') (by decide)
    have h1 : quo.length = 1 := rfl
    show wpAny _ _ (execs (_ :: _) _) _ _ s₃
    refine wpAny_execs_cons (ex_if (R := Mv) (b := false) c3 (tst_false (tst_cmp (X := X') mvOk cx_up (ev_strip (x := quo ++ lf ++ quo ++ x) rm gd (by rfl) (by rfl) (by rfl) (by rfl) (asc_app (asc_app (asc_app quo_asc ok.asc) quo_asc) hax.1) (by rw [len_app, len_app, len_app]; omega) (ev_bin mvOk cx_up (ev_bin mvOk cx_up (ev_bin mvOk cx_up (quoE mvOk) (evl _) (upRd _) (op_adds mvOk (by rw [sizeLine_eq]; omega))) (quoE mvOk) (upRd _) (op_adds mvOk (by rw [len_app, sizeLine_eq]; omega))) (evx _) (upRd _) (op_adds mvOk (by rw [len_app, len_app, sizeLine_eq]; omega))) (by rfl)) (evx _) (upRd _) (op_nes mvOk)) (by rw [ok.s3 x hx]; exact ne_self)) fun s₄ r₄ => ?_)
    show wpAny _ _ (execs [] _) _ _ s₄
    have c4 := cx_up _ _ (mvOk.up r₄) c3
    refine wpAny_execs_nil (wpAny_execs_nil ⟨rfl, c4.tail nr, ⟨rfM.trans fm (rfM.of r₄), u.tr (mvOk.up r₄), fr⟩, fun b o _ q => mvOk.up r₄ b o q⟩)
  case fin =>
    rintro X' s₃ hXX c3 ⟨f3, u3, _⟩
    have hkl : (keptN m).length ≤ 12 := by
      have := List.length_filter_le (fun p : Nat => !m.contains (p : Int)) (List.range 12)
      exact Nat.le_trans this (by simp)
    have hkm : ∀ x ∈ keptL m P, ∃ q, x.length = 2 * q + 1 ∧ q ≤ 3 := fun x hx => by
      obtain ⟨p, hp, rfl⟩ := List.mem_map.mp hx
      have hp12 := List.mem_range.mp (List.mem_filter.mp hp).1
      have : P[p]? = some (P.getD p emp) := by
        rw [List.getD_eq_getElem?_getD, List.getElem?_eq_getElem (by rw [ok.pl]; exact hp12)]; rfl
      exact ok.odd _ (List.mem_of_getElem? this)
    have htot : tot (keptL m P) ≤ 1000 := by
      have h1 : ∀ y ∈ keptL m P, y.length ≤ 7 := fun y hy => by
        obtain ⟨q, e, h⟩ := hkm y hy; omega
      have h2 := sum_le h1
      have h3 : (keptL m P).length ≤ 12 := by unfold keptL; rw [List.length_map]; exact hkl
      have h4 := Nat.mul_le_mul_right 7 h3
      unfold tot
      omega
    have hk12 : ∀ p ∈ List.range 12, P[p]? = some (P.getD p emp) := fun p hp => by
      rw [List.getD_eq_getElem?_getD, List.getElem?_eq_getElem (by rw [ok.pl]; exact List.mem_range.mp hp)]; rfl
    show wpAny _ _ (execs (_ :: _) _) _ _ s₃
    refine wpAny_execs_cons (ex_assign (z := .dat (.list ((lawU 0 (keptL m P)).map uData))) rfM c3 (.inl rfl) (ev_call mvOk cx_up (by rfl) (fun h c => (gd.up c.up).seesF 9 (by decide) rfl (by rfl) (by rfl) (by rfl)) (fun h c => (gd.up c.up).keepsF 9 (by decide)) (.cons (P := fun h v => Rd X h v (.list ((keptL m P).map .str))) ?comp (upRd _) (by rfl) .nil) (cal_units ⟨hA, by have := rm.depth; omega, by omega⟩ gd (by unfold keptL; rw [List.length_map]; omega) (fun x hx => let ⟨q, e, _⟩ := hkm x hx; ⟨q, e⟩) htot) (by rfl) (by rfl) (by decide)) fun s₄ c4 o4 f4 => ?_)
    case comp =>
      refine ev_comp' (X := X) (ds := upto 12) (p := fun d => match d with | .int i => !m.contains i | _ => false) (g := fun d => match d with | .int i => .str (P.getD i.toNat emp) | d => d) (upto_comp 12 (fun i => !m.contains i) (fun p => P.getD p emp)) mvOk cx_up Cx.taken
        (src_range (X := X) mvOk cx_up hA (by rfl) (fun h c => (gd.up c.up).seesB (by rfl) (by rfl) (by rfl) (by simp)) (ev_int (X := X) mvOk) (by decide) (by rfl)) (show (12 : Nat) ≤ sizeLine by decide) ⟨fun C v d sc hd => ?t1, fun C v d sc hd _ => ?e1⟩ (by rfl) (by decide) (by rfl) (by decide) (by rfl) (by intro _; rfl)
      case t1 =>
        obtain ⟨p, hp, rfl⟩ := upto_mem hd
        exact comp_in (I := fun _ => True) hu (by rfl) sc l2' (by rfl) (by rfl) (by rfl) (by rfl) (by decide)
      case e1 =>
        obtain ⟨p, hp, rfl⟩ := upto_mem hd
        exact ev_sc (X := X) (d := .str (P.getD p emp)) (ev_item (X := X) (i := (p : Int)) (xs := P.map .str) keepsOk ciUp (ev_free (z := .dat (.list (P.map .str))) keepsOk (fun h i => i.1) (by rfl) l3' (by rfl) (by rfl) (by rfl) (by rfl)) (ev_it keepsOk (by rfl) sc (fun h i => i.2)) (by omega) (by omega) (by rw [Int.toNat_natCast, List.getElem?_map, hk12 p (List.mem_range.mpr hp)]; rfl)) rfl
    have f4' : Fm s s₄ := rfM.trans f3 f4
    have nl : ((("units" : Str), VS.dat (.list ((lawU 0 (keptL m P)).map uData))) :: ρ1).lookup ("left" : Str) = some (.dat (.str lf)) := by rw [List.lookup_cons]; exact l1'
    have nu : ((("units" : Str), VS.dat (.list ((lawU 0 (keptL m P)).map uData))) :: ρ1).lookup ("units" : Str) = some (.dat (.list ((lawU 0 (keptL m P)).map uData))) := by rw [List.lookup_cons]; rfl
    generalize ((("units" : Str), VS.dat (.list ((lawU 0 (keptL m P)).map uData))) :: ρ1) = ρ2 at c4 nl nu
    have evl : ∀ (p : Pos), Ev prog w A Mv (cEnv 10 L f cd) (Cx hb X (cEnv 10 L f cd) ρ2) (.Name "left" p) (fun h v => Rd X h v (.str lf)) := fun p => ev_var (z := .dat (.str lf)) mvOk (fun _ c => c) rfl nl (by decide)
    have evu : ∀ (p : Pos), Ev prog w A Mv (cEnv 10 L f cd) (Cx hb X (cEnv 10 L f cd) ρ2) (.Name "units" p) (fun h v => Rd X h v (.list ((lawU 0 (keptL m P)).map uData))) := fun p => ev_var (z := .dat (.list ((lawU 0 (keptL m P)).map uData))) mvOk (fun _ c => c) rfl nu (by decide)
    have evn : ∀ (p1 p2 p3 : Pos), Ev prog w A Mv (cEnv 10 L f cd) (Cx hb X (cEnv 10 L f cd) ρ2) (.Call (.Name "len" p1) [.Name "left" p2] [] p3) (fun h v => Rd X h v (.int (lf.length : Int))) := fun p1 p2 p3 =>
      ev_call mvOk cx_up rfl (fun h c => (gd.up c.up).seesB (v := .builtin "len") rfl rfl rfl (by simp)) (fun _ _ => keepsF_builtin) (.cons (evl p2) (upRd _) rfl .nil) (cal_len_str mvOk szl) (by rfl) (by rfl) (by decide)
    have ul : ((lawU 0 (keptL m P)).map uData).length ≤ 1000 := by
      rw [List.length_map]
      exact Nat.le_trans (lawU_len _ _ fun y hy => by obtain ⟨q, e, _⟩ := hkm y hy; omega) htot
    have as1 := asc_app ok.asc bsl2_asc
    have as2 := asc_app ok.asc bsl_asc
    have ln1 : (lf ++ bsl2).length ≤ 1000 := by rw [len_app]; show _ + 2 ≤ _; omega
    have ln2 : (lf ++ bsl).length ≤ 1000 := by rw [len_app]; show _ + 1 ≤ _; omega
    have sh1 := units_shaped as1
    have sh2 := units_shaped as2
    have d1 : (unitsOf (lf ++ bsl2)).map uData = (lawU 0 (keptL m P)).map uData ++ [.tuple [.int ((lf.length + 1 : Nat) : Int), .str bsl2]] := by rw [ok.u1, List.map_append]; rfl
    have d2 : (unitsOf (lf ++ bsl)).map uData = (lawU 0 (keptL m P)).map uData ++ [.tuple [.int ((lf.length : Nat) : Int), .str bsl]] := by rw [ok.u2, List.map_append]; rfl
    show wpAny _ _ (execs (_ :: _) _) _ _ s₄
    refine wpAny_execs_cons (ex_if (R := Mv) (b := false) c4 (tst_cmp (X := X) mvOk cx_up (ev_units rm gd (by rfl) (by rfl) (by rfl) (by rfl) (by rfl) as1 ln1 (ev_bin mvOk cx_up (evl _) (bsl2E mvOk) (upRd _) (op_adds mvOk (by rw [← len_app, sizeLine_eq]; omega))) (by rfl) (by rfl)) (ev_bin mvOk cx_up (evu _) (ev_list (X := X) (ds := [.tuple [.int ((lf.length + 1 : Nat) : Int), .str bsl2]]) mvOk cx_up Cx.taken (.cons (ev_tuple (X := X) (ds := [.int ((lf.length + 1 : Nat) : Int), .str bsl2]) mvOk cx_up Cx.taken (.cons ?n1 (upRd _) (by rfl) (.cons (bsl2E mvOk) (upRd _) (by rfl) .nil)) (show (2 : Nat) ≤ sizeLine by decide)) (upRd _) (by rfl) .nil) (show (1 : Nat) ≤ sizeLine by decide)) (upRd _) (op_addl mvOk Cx.taken (by rw [sizeLine_eq]; simp only [List.length_cons, List.length_nil]; omega))) (upRd _) (op_ne mvOk hu sh1 (by rw [← d1]; exact sh1) (by rw [← d1, SeqAt.eqv_refl _ (SeqAt.canLay_of_shaped sh1)]; rfl)) (by with_unfolding_all rfl)) fun s₅ r₅ => ?_)
    case n1 => exact ev_bin (P := fun h v => Rd X h v (.int ((lf.length + 1 : Nat) : Int))) mvOk cx_up (evn _ _ _) (ev_int (X := X) mvOk) (upRd _) (op_addi mvOk)
    show wpAny _ _ (execs [] _) _ _ s₅
    refine wpAny_execs_nil ?_
    have c5 := cx_up _ _ (mvOk.up r₅) c4
    show wpAny _ _ (execs (_ :: _) _) _ _ s₅
    refine wpAny_execs_cons (wpAny_Return_some (ev_cmp (P := fun h v => Rd X h v (.bool true)) mvOk cx_up (ev_units rm gd (by rfl) (by rfl) (by rfl) (by rfl) (by rfl) as2 ln2 (ev_bin mvOk cx_up (evl _) (bslE mvOk) (upRd _) (op_adds mvOk (by rw [← len_app, sizeLine_eq]; omega))) (by rfl) (by rfl)) (ev_bin mvOk cx_up (evu _) (ev_list (X := X) (ds := [.tuple [.int ((lf.length : Nat) : Int), .str bsl]]) mvOk cx_up Cx.taken (.cons (ev_tuple (X := X) (ds := [.int ((lf.length : Nat) : Int), .str bsl]) mvOk cx_up Cx.taken (.cons (evn _ _ _) (upRd _) (by rfl) (.cons (bslE mvOk) (upRd _) (by rfl) .nil)) (show (2 : Nat) ≤ sizeLine by decide)) (upRd _) (by rfl) .nil) (show (1 : Nat) ≤ sizeLine by decide)) (upRd _) (op_addl mvOk Cx.taken (by rw [sizeLine_eq]; simp only [List.length_cons, List.length_nil]; omega))) (upRd _) (op_eq mvOk hu sh2 (by rw [← d2]; exact sh2) (by rw [← d2]; exact SeqAt.eqv_refl _ (SeqAt.canLay_of_shaped sh2))) (by with_unfolding_all rfl) s₅ c5 _ _ fun v s₆ r₆ hv => ?_))
    cases hv
    exact hQ s₆ ((cx_up _ _ (mvOk.up r₆) c5).up) (rfM.trans f4' (rfM.trans (rfM.of r₅) (rfM.of r₆)))
end
end Mine
end

/-! part W4 -/
section
open PySem PySem.W PySem.Spec PySem.Calls PyProof.Rows
set_option Elab.async false
set_option linter.unusedVariables false
set_option maxRecDepth 100000
set_option maxHeartbeats 4000000
namespace Mine
def txtL (m : List Int) (P : List Str) : List Str := (List.range 12).map fun p : Nat => (if m.contains (p : Int) then quo else emp) ++ P.getD p emp
def txt (m : List Int) (P : List Str) : Str := cat (txtL m P)
def hidN (x : Str) : List Nat := (List.range 12).filter fun p => !decide (97 + p ∈ x.cps.toList)
def lastOf (m : List Int) : Nat := (((0 : Int) :: m).getLast (by simp)).toNat
structure PieceOk (P : List Str) : Prop where
  pl : P.length = 12
  asc : ∀ x ∈ P, x.cps.all (· < 128) = true
  len : ∀ x ∈ P, x.length ≤ 7
structure TextOk (P : List Str) (m h : List Int) : Prop where
  mb : ∀ p ∈ m, 0 ≤ p ∧ p < 12
  hb : ∀ p ∈ h, 0 ≤ p ∧ p < 12
  ml : m.length ≤ 12
  hl : h.length ≤ 12
  e1 : (hidN (strip (txt m P))).map (fun p : Nat => (p : Int)) = h
  e2 : strip (txt m P) = cat (keptL h P)
  e3 : strip (quo ++ txt m P) = cat (h.map fun p => P.getD p.toNat emp) ++ quo ++ cat (P.drop (lastOf m))
section
variable {prog : Program} {w : World} {A : Around} {env : Env} {R F : Shared → Shared → Prop} {I : Heap → Prop} {hb : Heap} {X : Addr → Prop} {ρ : List (Str × VS)} {mg mb : Str → Option Value} {fa : Nat → Addr} {fc : Nat → Value} {L f : Addr} {cd : Value} {s : Shared} {E : Value → Shared → Prop}

theorem op_subi {a b : Int} (hR : RelOk R) : Op2 prog w A R I (binaryOp .Sub) (fun h v => Rd X h v (.int a)) (fun h v => Rd X h v (.int b)) (fun h v => Rd X h v (.int (a - b))) := fun s v u i p q Q E h => by
  obtain ⟨t, rfl⟩ := p.int_inv
  obtain ⟨t', rfl⟩ := q.int_inv
  exact PyProof.Rows.sub_int (h _ _ (hR.keeps s s.heap _ fun _ _ e => e) (.int _ _))

/-- an item of a list that no name holds -/
theorem ev_itemT {l e : Expr} {xs : List PyData} {i : Int} {d : PyData} {pos : Pos} (hR : RelOk R) (hI : UpC I) (h1 : Ev prog w A R env I l (fun h v => Rd X h v (.list xs))) (h2 : Ev prog w A R env I e (fun h v => Rd X h v (.int i))) (h0 : 0 ≤ i) (hf : i < 2 ^ 63) (hd : xs[i.toNat]? = some d)
    (hs : ∀ o iv, subscripted e false o iv = operate [o, iv] (getItem o iv) := by intro _ _; with_unfolding_all rfl) :
    Ev prog w A R env I (.Subscript l e pos) (fun h v => Rd X h v d) := fun s ii Q E h => by
  refine Subscript_ (ev_seq2 hR hI h1 h2 (upRd _) ii fun v u s' r p q => ?_)
  obtain ⟨a, vs, n, rfl, ha, ho, hl⟩ := p.list_inv
  obtain ⟨t, rfl⟩ := q.int_inv
  have hL : s'.heap.IsList a vs := ⟨_, ho, rfl, n, rfl⟩
  obtain ⟨v, hv⟩ : ∃ v, vs.toList[i.toNat]? = some v := ⟨_, List.getElem?_eq_getElem (by rw [hl.length]; exact (List.getElem?_eq_some_iff.mp hd).1)⟩
  exact kba_turn (value' := .Name "" default) (fun r => rfl) (subscriptTail_builtin hL.typeIs slot_list_getitem.lookup (wpAny_getItem_list hL h0 hf (x := v) (by simpa using hv) (h _ _ r (hl.at _ _ _ hv hd))) (hs _ _) (fun r => rfl))
theorem ev_lastT {l e : Expr} {xs : List PyData} {d : PyData} {pos : Pos} (hR : RelOk R) (hI : UpC I) (h1 : Ev prog w A R env I l (fun h v => Rd X h v (.list xs))) (h2 : Ev prog w A R env I e (fun h v => Rd X h v (.int (-1)))) (hd : xs.getLast? = some d)
    (hs : ∀ o iv, subscripted e false o iv = operate [o, iv] (getItem o iv) := by intro _ _; with_unfolding_all rfl) :
    Ev prog w A R env I (.Subscript l e pos) (fun h v => Rd X h v d) := fun s ii Q E h => by
  refine Subscript_ (ev_seq2 hR hI h1 h2 (upRd _) ii fun v u s' r p q => ?_)
  obtain ⟨a, vs, n, rfl, ha, ho, hl⟩ := p.list_inv
  obtain ⟨t, rfl⟩ := q.int_inv
  have hL : s'.heap.IsList a vs := ⟨_, ho, rfl, n, rfl⟩
  have hlen : vs.size = xs.length := by rw [← hl.length]; simp
  have hpos : 0 < xs.length := by
    cases xs with
    | nil => cases hd
    | cons _ _ => simp
  have hd' : xs[xs.length - 1]? = some d := by rw [← List.getLast?_eq_getElem?]; exact hd
  obtain ⟨v, hv⟩ : ∃ v, vs.toList[xs.length - 1]? = some v := ⟨_, List.getElem?_eq_getElem (by rw [hl.length]; omega)⟩
  refine kba_turn (value' := .Name "" default) (fun r => rfl) (subscriptTail_builtin hL.typeIs slot_list_getitem.lookup (wpAny_getItem_list_neg hL (by decide) (by rw [hlen]; omega) (by decide) (x := v) ?_ (h _ _ r (hl.at _ _ _ hv hd'))) (hs _ _) (fun r => rfl))
  rw [hlen]
  have : ((-1 : Int) + (xs.length : Int)).toNat = xs.length - 1 := by omega
  rw [this]
  simpa using hv
theorem P_at {P : List Str} (hP : PieceOk P) {p : Nat} (hp : p < 12) : P[p]? = some (P.getD p emp) := by
  rw [List.getD_eq_getElem?_getD, List.getElem?_eq_getElem (by rw [hP.pl]; exact hp)]; rfl
theorem P_mem {P : List Str} (hP : PieceOk P) {p : Nat} (hp : p < 12) : P.getD p emp ∈ P := List.mem_of_getElem? (P_at hP hp)
theorem emp_len : emp.length = 0 := by decide +kernel
theorem emp_asc : emp.cps.all (· < 128) = true := by decide +kernel
theorem txt_facts {P : List Str} {m : List Int} (hP : PieceOk P) : (∀ x ∈ txtL m P, x.cps.all (· < 128) = true ∧ x.length ≤ 8) ∧ (txtL m P).length = 12 := by
  refine ⟨fun x hx => ?_, by simp [txtL]⟩
  obtain ⟨p, hp, rfl⟩ := List.mem_map.mp hx
  have hp := List.mem_range.mp hp
  have h1 := hP.asc _ (P_mem hP hp)
  have h2 := hP.len _ (P_mem hP hp)
  have hq : quo.length = 1 := rfl
  have he := emp_len
  constructor
  · refine asc_app ?_ h1
    split
    · exact quo_asc
    · exact emp_asc
  · rw [len_app]
    split <;> omega
theorem txt_asc {P : List Str} {m : List Int} (hP : PieceOk P) : (txt m P).cps.all (· < 128) = true := asc_cat fun x hx => ((txt_facts hP).1 x hx).1
theorem txt_sum {P : List Str} {m : List Int} (hP : PieceOk P) : ((txtL m P).map Str.length).sum ≤ 96 := by
  have h1 := sum_le fun y hy => ((txt_facts (m := m) hP).1 y hy).2
  rw [(txt_facts hP).2] at h1
  exact h1
theorem txt_len {P : List Str} {m : List Int} (hP : PieceOk P) : (txt m P).length ≤ 96 := by unfold txt; rw [len_cat]; exact txt_sum hP
theorem sub_sum {P : List Str} (hP : PieceOk P) {l : List Str} (hl : ∀ x ∈ l, x ∈ P) (hn : l.length ≤ 12) : (l.map Str.length).sum ≤ 84 := by
  have h1 := sum_le fun y hy => hP.len y (hl y hy)
  have h2 := Nat.mul_le_mul_right 7 hn
  omega
theorem keptL_mem {P : List Str} (hP : PieceOk P) {m : List Int} : (∀ x ∈ keptL m P, x ∈ P) ∧ (keptL m P).length ≤ 12 := by
  constructor
  · intro x hx
    obtain ⟨p, hp, rfl⟩ := List.mem_map.mp hx
    exact P_mem hP (List.mem_range.mp (List.mem_filter.mp hp).1)
  · unfold keptL keptN
    rw [List.length_map]
    exact Nat.le_trans (List.length_filter_le _ _) (by simp)
theorem upto_txt (n : Nat) (F : Nat → Str) : ((upto n).filter (fun _ => true)).map (fun d => match d with | .int i => PyData.str (F i.toNat) | d => d) = ((List.range n).map F).map .str := by
  rw [PySem.W.filter_all]; simp [upto]
theorem upto_hid (n : Nat) (q : Nat → Bool) : ((upto n).filter (fun d => match d with | .int i => q i.toNat | _ => false)).map (fun d => d) = (((List.range n).filter q).map fun p : Nat => (p : Int)).map .int := by
  unfold upto
  rw [List.map_id']
  generalize List.range n = l
  induction l with
  | nil => rfl
  | cons a l ih =>
    simp only [List.map_cons, List.filter_cons]
    by_cases h : q a = true
    · have h' : q ((a : Int)).toNat = true := h
      rw [if_pos h, if_pos h']
      simp only [List.map_cons, ih]
    · have h' : ¬ q ((a : Int)).toNat = true := h
      rw [if_neg h, if_neg h']; exact ih
end
end Mine
end

/-! part W5 -/
section
open PySem PySem.W PySem.Spec PySem.Calls PyProof.Rows
set_option Elab.async false
set_option linter.unusedVariables false
set_option maxRecDepth 100000
set_option maxHeartbeats 4000000
namespace Mine
def turnBody : List Stmt := match (dOf 10).body.drop 12 with
  | .For _ _ body _ _ :: _ => body
  | _ => []
section
variable {prog : Program} {w : World} {A : Around} {hb : Heap} {X : Addr → Prop} {ρ : List (Str × VS)} {mg mb : Str → Option Value} {fa : Nat → Addr} {fc : Nat → Value} {L f : Addr} {cd : Value} {s : Shared} {E : Value → Shared → Prop}

theorem lastOf_bound {m : List Int} (hm : ∀ p ∈ m, 0 ≤ p ∧ p < 12) : ((0 : Int) :: m).getLast? = some ((lastOf m : Nat) : Int) := by
  have h1 : (((0 : Int) :: m).getLast (by simp)) ∈ ((0 : Int) :: m) := List.getLast_mem _
  have h2 : 0 ≤ (((0 : Int) :: m).getLast (by simp)) := by
    rcases List.mem_cons.mp h1 with e | e
    · rw [e]; exact Int.le_refl 0
    · exact (hm _ e).1
  rw [List.getLast?_eq_some_getLast (by simp)]
  unfold lastOf
  congr 1
  omega

theorem turnD {P : List Str} {m h : List Int} {i st : Nat} {rs : List PyData} {lf0 : Str} (hP : PieceOk P) (ok : TextOk P m h) (rm : Room A 4 100) (gd : Gd hb mg mb fa fc) (hi : i < st) (hst : st ≤ 4) (hr : rs[st - 1 - i]? = some (.list (h.map .int)))
    (c : Cx hb X (cEnv 10 L f cd) [("turn", .dat (.int (i : Int))), ("left", .dat (.str lf0)), ("marks", .dat (.list (m.map .int))), ("pieces", .dat (.list (P.map .str))), ("step", .dat (.int (st : Int))), ("rows", .dat (.list rs))] s.heap) :
    wpAny (model prog w) A (execs turnBody (cEnv 10 L f cd)) (fun fl s' => fl = .next ∧ Cx hb X (cEnv 10 L f cd) [("left", .dat (.str (cat (keptL h P)))), ("marks", .dat (.list (h.map .int))), ("pieces", .dat (.list (P.map .str))), ("step", .dat (.int (st : Int))), ("rows", .dat (.list rs))] s'.heap ∧ Only (cEnv 10 L f cd) s.heap s'.heap ∧ Fm s s') E s := by
  have hA := rm.handled
  have hu : A.units + 64 < cLine := by have := rm.units; omega
  have tsz : ((txtL m P).map Str.length).sum ≤ sizeLine := Nat.le_trans (txt_sum hP) (by decide)
  have ksz : ((keptL h P).map Str.length).sum ≤ 84 := sub_sum hP (keptL_mem hP).1 (keptL_mem hP).2
  have kl : (cat (keptL h P)).length ≤ 84 := by rw [len_cat]; exact ksz
  have szl : ∀ {l : List Int}, l.length ≤ 12 → (l.map PyData.int).length ≤ sizeLine := fun hm => by rw [List.length_map, sizeLine_eq]; omega
  have s12 : (12 : Nat) ≤ sizeLine := by decide
  show wpAny _ A (execs (_ :: _) (cEnv 10 L f cd)) _ _ s
  -- text
  refine wpAny_execs_cons (ex_assign (z := .dat (.str (txt m P))) rfM c (.inl rfl) (ev_join (X := X) (l := txtL m P) mvOk cx_up (ev_comp' (X := X) (ds := upto 12) (p := fun _ => true) (g := fun d => match d with | .int i => .str ((if m.contains ((i.toNat : Nat) : Int) then quo else emp) ++ P.getD i.toNat emp) | d => d) (upto_txt 12 fun p => (if m.contains (p : Int) then quo else emp) ++ P.getD p emp) mvOk cx_up Cx.taken
    (src_range (X := X) mvOk cx_up hA (by rfl) (fun h c => (gd.up c.up).seesB (by rfl) (by rfl) (by rfl) (by simp)) (ev_int (X := X) mvOk) (by decide) (by rfl)) s12 ⟨fun C v d sc hd => ?t1, fun C v d sc hd _ => ?e1⟩ (by rfl) (by decide) (by rfl) (by decide) (by rfl) (by intro _; rfl)) tsz (by rfl) (by rfl)) fun s₁ c1 o1 f1 => ?_)
  case t1 => rfl
  case e1 =>
    obtain ⟨p, hp, rfl⟩ := upto_mem hd
    have h7 := hP.len _ (P_mem hP hp)
    refine ev_sc (X := X) (d := .str ((if m.contains (p : Int) then quo else emp) ++ P.getD p emp)) (ev_bin keepsOk ciUp (ev_ifexp (b := m.contains (p : Int)) keepsOk ciUp (tst_cmp (X := X) keepsOk ciUp (ev_it (X := X) keepsOk (by rfl) sc (fun h i => i.2)) (ev_free (z := .dat (.list (m.map .int))) keepsOk (fun h i => i.1) (by rfl) (by rfl) (by rfl) (by rfl) (by rfl) (by rfl)) (upRd _) (op_in keepsOk hu rfl (lay_ints _) (by simp [PyData.depth]) (any_int _ _)) (by with_unfolding_all rfl)) (fun hb' => ?b1) (fun hb' => ?b2)) (ev_item (X := X) (i := (p : Int)) (xs := P.map .str) keepsOk ciUp (ev_free (z := .dat (.list (P.map .str))) keepsOk (fun h i => i.1) (by rfl) (by rfl) (by rfl) (by rfl) (by rfl) (by rfl)) (ev_it keepsOk (by rfl) sc (fun h i => i.2)) (by omega) (by omega) (by rw [Int.toNat_natCast, List.getElem?_map, P_at hP hp]; rfl)) (upRd _) (op_adds keepsOk ?sz)) rfl
    case b1 => rw [if_pos hb']; exact quoE keepsOk
    case b2 => rw [if_neg (by rw [hb']; decide)]; exact ev_str keepsOk
    case sz =>
      have hq : quo.length = 1 := rfl
      have he := emp_len
      rw [sizeLine_eq]
      split <;> omega
  show wpAny _ _ (execs (_ :: _) _) _ _ s₁
  -- left
  refine wpAny_execs_cons (ex_assign (z := .dat (.str (cat (keptL h P)))) rfM c1 (.inr ⟨by rfl, by rfl⟩) ?str fun s₂ c2 o2 f2 => ?_)
  case str =>
    show Ev _ _ _ _ _ _ _ (fun h' v => Rd X h' v (.str _))
    rw [← ok.e2]
    exact ev_strip rm gd (by rfl) (by rfl) (by rfl) (by rfl) (txt_asc hP) (Nat.le_trans (txt_len hP) (by omega)) (ev_var (z := .dat (.str (txt m P))) mvOk (fun _ c => c) (by rfl) (by rfl) (by decide)) (by rfl)
  show wpAny _ _ (execs (_ :: _) _) _ _ s₂
  -- hidden
  have eh : ((upto 12).filter (fun d => match d with | .int i => !decide (97 + i.toNat ∈ (cat (keptL h P)).cps.toList) | _ => false)).map (fun d => d) = h.map .int := by
    refine Eq.trans (upto_hid 12 (fun p => !decide (97 + p ∈ (cat (keptL h P)).cps.toList))) ?_
    rw [← ok.e2]
    have := ok.e1
    unfold hidN at this
    rw [this]
  refine wpAny_execs_cons (ex_assign (z := .dat (.list (h.map .int))) rfM c2 (.inr ⟨by rfl, by rfl⟩) (ev_comp' (X := X) (ds := upto 12) (p := fun d => match d with | .int i => !decide (97 + i.toNat ∈ (cat (keptL h P)).cps.toList) | _ => false) (g := fun d => d) eh mvOk cx_up Cx.taken
    (src_range (X := X) mvOk cx_up hA (by rfl) (fun h c => (gd.up c.up).seesB (by rfl) (by rfl) (by rfl) (by simp)) (ev_int (X := X) mvOk) (by decide) (by rfl)) s12 ⟨fun C v d sc hd => ?t2, fun C v d sc hd _ => ?e2⟩ (by rfl) (by decide) (by rfl) (by decide) (by rfl) (by intro _; rfl)) fun s₃ c3 o3 f3 => ?_)
  case t2 =>
    obtain ⟨p, hp, rfl⟩ := upto_mem hd
    refine tst_cmp (X := X) keepsOk ciUp (ev_call (P := fun h v => Rd X h v (.str ⟨#[97 + p]⟩)) keepsOk ciUp (by rfl) (fun h c => (gd.up c.1.up).seesB (v := .builtin "chr") (by rfl) (by rfl) (by rfl) (by simp)) (fun _ _ => keepsF_builtin) (.cons (P := fun h v => Rd X h v (.int ((97 + p : Nat) : Int))) ?arg (upRd _) (by rfl) .nil) (cal_chr keepsOk (by omega)) (by rfl) (by rfl) (by decide)) (ev_free (z := .dat (.str (cat (keptL h P)))) keepsOk (fun h i => i.1) (by rfl) (by rfl) (by rfl) (by rfl) (by rfl) (by rfl)) (upRd _) (op_notInS keepsOk) (by with_unfolding_all rfl)
    have e : ((97 + p : Nat) : Int) = 97 + (p : Int) := by omega
    rw [e]
    exact ev_bin keepsOk ciUp (ev_int (X := X) keepsOk) (ev_it keepsOk (by rfl) sc (fun h i => i.2)) (upRd _) (op_addi keepsOk)
  case e2 =>
    obtain ⟨p, hp, rfl⟩ := upto_mem hd
    exact ev_sc (X := X) (d := .int (p : Int)) (ev_it keepsOk (by rfl) sc (fun h i => i.2)) rfl
  show wpAny _ _ (execs (_ :: _) _) _ _ s₃
  -- if hidden != rows[..]
  generalize hρ : ((("hidden" : Str), VS.dat (.list (h.map .int))) :: _ : List (Str × VS)) = ρ at c3
  have lh : ρ.lookup ("hidden" : Str) = some (.dat (.list (h.map .int))) := by rw [← hρ]; rfl
  have lr : ρ.lookup ("rows" : Str) = some (.dat (.list rs)) := by rw [← hρ]; rfl
  have lt : ρ.lookup ("turn" : Str) = some (.dat (.int (i : Int))) := by rw [← hρ]; rfl
  have ls : ρ.lookup ("step" : Str) = some (.dat (.int (st : Int))) := by rw [← hρ]; rfl
  have ll : ρ.lookup ("left" : Str) = some (.dat (.str (cat (keptL h P)))) := by rw [← hρ]; rfl
  have lm : ρ.lookup ("marks" : Str) = some (.dat (.list (m.map .int))) := by rw [← hρ]; rfl
  have lp : ρ.lookup ("pieces" : Str) = some (.dat (.list (P.map .str))) := by rw [← hρ]; rfl
  have lx : ρ.lookup ("text" : Str) = some (.dat (.str (txt m P))) := by rw [← hρ]; rfl
  clear hρ
  have evd : ∀ {ρ : List (Str × VS)} (y : Str) (d : PyData) (p : Pos), ρ.lookup y = some (.dat d) → (y == ("__debug__" : Str)) = false → Ev prog w A Mv (cEnv 10 L f cd) (Cx hb X (cEnv 10 L f cd) ρ) (.Name y p) (fun h v => Rd X h v d) := fun y d p hl hd => ev_var (z := .dat d) mvOk (fun _ c => c) rfl hl hd
  refine wpAny_execs_cons (ex_if (R := Mv) (b := false) c3 (tst_cmp (X := X) mvOk cx_up (evd "hidden" _ _ lh (by decide)) (ev_item (X := X) (i := (((st - 1 - i : Nat)) : Int)) (xs := rs) mvOk cx_up (evd "rows" _ _ lr (by decide)) ?idx (by omega) (by omega) hr) (upRd _) (op_ne mvOk hu (sh_ints _) (sh_ints _) (by rw [SeqAt.eqv_refl _ (SeqAt.canLay_of_shaped (sh_ints _))]; rfl)) (by with_unfolding_all rfl)) fun s₄ r₄ => ?_)
  case idx =>
    have e : (((st - 1 - i : Nat)) : Int) = (st : Int) - 1 - (i : Int) := by omega
    rw [e]
    exact ev_bin mvOk cx_up (ev_bin mvOk cx_up (evd "step" _ _ ls (by decide)) (ev_int (X := X) mvOk) (upRd _) (op_subi mvOk)) (evd "turn" _ _ lt (by decide)) (upRd _) (op_subi mvOk)
  show wpAny _ _ (execs [] _) _ _ s₄
  refine wpAny_execs_nil ?_
  have c4 := cx_up _ _ (mvOk.up r₄) c3
  show wpAny _ _ (execs (_ :: _) _) _ _ s₄
  -- if left != ''.join(..)
  refine wpAny_execs_cons (ex_if (R := Mv) (b := false) c4 (tst_false (tst_cmp (X := X) mvOk cx_up (evd "left" _ _ ll (by decide)) (ev_join (X := X) (l := keptL h P) mvOk cx_up (ev_comp' (X := X) (ds := upto 12) (p := fun d => match d with | .int i => !h.contains i | _ => false) (g := fun d => match d with | .int i => .str (P.getD i.toNat emp) | d => d) (upto_comp 12 (fun i => !h.contains i) (fun p => P.getD p emp)) mvOk cx_up Cx.taken
        (src_range (X := X) mvOk cx_up hA (by rfl) (fun h c => (gd.up c.up).seesB (by rfl) (by rfl) (by rfl) (by simp)) (ev_int (X := X) mvOk) (by decide) (by rfl)) s12 ⟨fun C v d sc hd => ?t3, fun C v d sc hd _ => ?e3⟩ (by rfl) (by decide) (by rfl) (by decide) (by rfl) (by intro _; rfl)) (by rw [sizeLine_eq]; omega) (by rfl) (by rfl)) (upRd _) (op_nes mvOk) (by with_unfolding_all rfl)) ne_self) fun s₅ r₅ => ?_)
  case t3 =>
    obtain ⟨p, hp, rfl⟩ := upto_mem hd
    exact comp_in (I := fun _ => True) hu (by rfl) sc lh (by rfl) (by rfl) (by rfl) (by rfl) (by decide)
  case e3 =>
    obtain ⟨p, hp, rfl⟩ := upto_mem hd
    exact ev_sc (X := X) (d := .str (P.getD p emp)) (ev_item (X := X) (i := (p : Int)) (xs := P.map .str) keepsOk ciUp (ev_free (z := .dat (.list (P.map .str))) keepsOk (fun h i => i.1) (by rfl) lp (by rfl) (by rfl) (by rfl) (by rfl)) (ev_it keepsOk (by rfl) sc (fun h i => i.2)) (by omega) (by omega) (by rw [Int.toNat_natCast, List.getElem?_map, P_at hP hp]; rfl)) rfl
  show wpAny _ _ (execs [] _) _ _ s₅
  refine wpAny_execs_nil ?_
  have c5 := cx_up _ _ (mvOk.up r₅) c4
  show wpAny _ _ (execs (_ :: _) _) _ _ s₅
  -- last
  have elast : ([PyData.int 0] ++ m.map PyData.int).getLast? = some (.int ((lastOf m : Nat) : Int)) := by
    have := lastOf_bound ok.mb
    have e : ([PyData.int 0] ++ m.map PyData.int) = (((0 : Int) :: m).map PyData.int) := rfl
    rw [e, List.getLast?_map, this]; rfl
  refine wpAny_execs_cons (ex_assign (z := .dat (.int ((lastOf m : Nat) : Int))) rfM c5 (.inl rfl) (ev_lastT (X := X) (xs := [PyData.int 0] ++ m.map .int) mvOk cx_up (ev_bin mvOk cx_up (ev_list (X := X) (ds := [.int 0]) mvOk cx_up Cx.taken (.cons (ev_int (X := X) mvOk) (upRd _) (by rfl) .nil) (show (1 : Nat) ≤ sizeLine by decide)) (evd "marks" _ _ lm (by decide)) (upRd _) (op_addl mvOk Cx.taken (by have := ok.ml; rw [List.length_map, sizeLine_eq]; simp only [List.length_cons, List.length_nil]; omega))) (ev_negOne mvOk) elast) fun s₆ c6 o6 f6 => ?_)
  show wpAny _ _ (execs (_ :: _) _) _ _ s₆
  -- inner
  have hmem : ∀ x ∈ (h.map fun p => P.getD p.toNat emp), x ∈ P := fun x hx => by
    obtain ⟨p, hp, rfl⟩ := List.mem_map.mp hx
    obtain ⟨a, b⟩ := ok.hb p hp
    exact P_mem hP (by omega)
  have isz := sub_sum hP hmem (by rw [List.length_map]; exact ok.hl)
  have dsz := sub_sum hP (l := P.drop (lastOf m)) (fun x hx => List.mem_of_mem_drop hx) (by rw [List.length_drop, hP.pl]; omega)
  have ehc : ((h.map PyData.int).filter (fun _ => true)).map (fun d => match d with | .int i => PyData.str (P.getD i.toNat emp) | d => d) = (h.map fun p => P.getD p.toNat emp).map .str := by
    rw [PySem.W.filter_all, List.map_map, List.map_map]; rfl
  have tl6 : ∀ {y : Str} {z : VS}, ρ.lookup y = some z → y ≠ ("last" : Str) → ((("last" : Str), VS.dat (.int ((lastOf m : Nat) : Int))) :: ρ).lookup y = some z := fun h hn => by rw [List.lookup_cons, beq_eq_false_iff_ne.mpr hn]; exact h
  refine wpAny_execs_cons (ex_assign (z := .dat (.str (cat (h.map fun p => P.getD p.toNat emp) ++ quo ++ cat (P.drop (lastOf m))))) rfM c6 (.inl rfl) (ev_bin mvOk cx_up (ev_bin mvOk cx_up (ev_join (X := X) (l := h.map fun p => P.getD p.toNat emp) mvOk cx_up (ev_comp' (X := X) (ds := h.map .int) (p := fun _ => true) (g := fun d => match d with | .int i => .str (P.getD i.toNat emp) | d => d) ehc mvOk cx_up Cx.taken
      (src_list (X := X) mvOk hA (evd "hidden" _ _ (tl6 lh (by decide)) (by decide)) ints_sc) (szl ok.hl) ⟨fun C v d sc hd => ?t4, fun C v d sc hd _ => ?e4⟩ (by rfl) (by decide) (by rfl) (by decide) (by rfl) (by intro _; rfl)) (by rw [sizeLine_eq]; omega) (by rfl) (by rfl)) (quoE mvOk) (upRd _) (op_adds mvOk (by rw [len_cat]; show tot _ + 1 ≤ _; unfold tot; rw [sizeLine_eq]; omega))) (ev_join (X := X) (l := P.drop (lastOf m)) mvOk cx_up ?drop (by rw [sizeLine_eq]; omega) (by rfl) (by rfl)) (upRd _) (op_adds mvOk (by rw [len_app, len_cat, len_cat]; show tot _ + 1 + tot _ ≤ _; unfold tot; rw [sizeLine_eq]; omega))) fun s₇ c7 o7 f7 => ?_)
  case t4 => rfl
  case e4 =>
    obtain ⟨p, hp, rfl⟩ := List.mem_map.mp hd
    obtain ⟨hp0, hp1⟩ := ok.hb p hp
    exact ev_sc (X := X) (d := .str (P.getD p.toNat emp)) (ev_item (X := X) (i := p) (xs := P.map .str) keepsOk ciUp (ev_free (z := .dat (.list (P.map .str))) keepsOk (fun h i => i.1) (by rfl) (tl6 lp (by decide)) (by rfl) (by rfl) (by rfl) (by rfl)) (ev_it keepsOk (by rfl) sc (fun h i => i.2)) hp0 (by omega) (by rw [List.getElem?_map, P_at hP (show p.toNat < 12 by omega)]; rfl)) rfl
  case drop =>
    rw [List.map_drop]
    exact ev_from (X := X) (a := lastOf m) mvOk cx_up Cx.taken (evd "pieces" _ _ (tl6 lp (by decide)) (by decide)) (evd "last" _ _ (by rw [List.lookup_cons]; rfl) (by decide)) (by rw [List.length_map, hP.pl]; exact s12)
  show wpAny _ _ (execs (_ :: _) _) _ _ s₇
  have tl7 : ∀ {y : Str} {z : VS}, ρ.lookup y = some z → y ≠ ("last" : Str) → y ≠ ("inner" : Str) → ((("inner" : Str), VS.dat (.str (cat (h.map fun p => P.getD p.toNat emp) ++ quo ++ cat (P.drop (lastOf m))))) :: (("last" : Str), VS.dat (.int ((lastOf m : Nat) : Int))) :: ρ).lookup y = some z := fun h hn hn2 => by rw [List.lookup_cons, beq_eq_false_iff_ne.mpr hn2]; exact tl6 h hn
  -- if strip('"' + text) != inner
  have tlen := txt_len (m := m) hP
  have q1 : quo.length = 1 := rfl
  refine wpAny_execs_cons (ex_if (R := Mv) (b := false) c7 (tst_false (tst_cmp (X := X) mvOk cx_up (ev_strip rm gd (by rfl) (by rfl) (by rfl) (by rfl) (asc_app quo_asc (txt_asc hP)) (by rw [len_app]; omega) (ev_bin mvOk cx_up (quoE mvOk) (evd "text" _ _ (tl7 lx (by decide) (by decide)) (by decide)) (upRd _) (op_adds mvOk (by rw [sizeLine_eq]; omega))) (by rfl)) (evd "inner" _ _ (by rw [List.lookup_cons]; rfl) (by decide)) (upRd _) (op_nes mvOk) (by with_unfolding_all rfl)) (by rw [ok.e3]; exact ne_self)) fun s₈ r₈ => ?_)
  show wpAny _ _ (execs [] _) _ _ s₈
  refine wpAny_execs_nil ?_
  have c8 := cx_up _ _ (mvOk.up r₈) c7
  show wpAny _ _ (execs (_ :: _) _) _ _ s₈
  -- marks = hidden
  refine wpAny_execs_cons (ex_assign (z := .dat (.list (h.map .int))) rfM c8 (.inr ⟨by rfl, by rfl⟩) (evd "hidden" _ _ (tl7 lh (by decide) (by decide)) (by decide)) fun s₉ c9 o9 f9 => ?_)
  refine wpAny_execs_nil ⟨rfl, c9.sub ?_, ?_, ?_⟩
  · intro p hp
    have tl9 : ∀ {y : Str} {z : VS}, ρ.lookup y = some z → y ≠ ("last" : Str) → y ≠ ("inner" : Str) → y ≠ ("marks" : Str) → ((("marks" : Str), VS.dat (.list (h.map .int))) :: (("inner" : Str), VS.dat (.str (cat (h.map fun p => P.getD p.toNat emp) ++ quo ++ cat (P.drop (lastOf m))))) :: (("last" : Str), VS.dat (.int ((lastOf m : Nat) : Int))) :: ρ).lookup y = some z := fun h hn hn2 hn3 => by rw [List.lookup_cons, beq_eq_false_iff_ne.mpr hn3]; exact tl7 h hn hn2
    simp only [List.mem_cons, List.not_mem_nil, or_false] at hp
    rcases hp with rfl | rfl | rfl | rfl | rfl
    · exact tl9 (y := ("left" : Str)) ll (by decide) (by decide) (by decide)
    · rw [List.lookup_cons]; rfl
    · exact tl9 (y := ("pieces" : Str)) lp (by decide) (by decide) (by decide)
    · exact tl9 (y := ("step" : Str)) ls (by decide) (by decide) (by decide)
    · exact tl9 (y := ("rows" : Str)) lr (by decide) (by decide) (by decide)
  · exact ((((((o1.tr o2).tr o3).tr (Only.of_up (mvOk.up r₄))).tr (Only.of_up (mvOk.up r₅))).tr (o6.tr o7)).tr (Only.of_up (mvOk.up r₈))).tr o9
  · exact rfM.trans f1 (rfM.trans f2 (rfM.trans f3 (rfM.trans (rfM.of r₄) (rfM.trans (rfM.of r₅) (rfM.trans f6 (rfM.trans f7 (rfM.trans (rfM.of r₈) f9)))))))
end
end Mine
end

/-! part W6 -/
section
open PySem PySem.W PySem.Spec PySem.Calls PyProof.Rows
set_option Elab.async false
set_option linter.unusedVariables false
set_option maxRecDepth 100000
set_option maxHeartbeats 4000000
namespace Mine
def rowsD (rowsF : Nat → List Int) (st : Nat) : List PyData := (List.range (st + 1)).map fun i => .list ((rowsF i).map .int)
theorem rowsD_at {rowsF : Nat → List Int} {st i : Nat} (h : i ≤ st) : (rowsD rowsF st)[i]? = some (.list ((rowsF i).map .int)) := by
  have : i < st + 1 := by omega
  simp [rowsD, this]
def lfN (rowsF : Nat → List Int) (P : List Str) (st i : Nat) : Str := if i = 0 then emp else cat (keptL (rowsF (st - i)) P)
section
variable {prog : Program} {w : World} {A : Around} {hb : Heap} {X : Addr → Prop} {ρ : List (Str × VS)} {mg mb : Str → Option Value} {fa : Nat → Addr} {fc : Nat → Value} {L f : Addr} {cd : Value} {s : Shared} {E : Value → Shared → Prop}

theorem lawD {P : List Str} {rowsF : Nat → List Int} {st : Nat} {Q : Flow → Shared → Prop} (hP : PieceOk P) (tok : ∀ i < st, TextOk P (rowsF (st - i)) (rowsF (st - 1 - i))) (ok : EndOk P (rowsF 0) (cat (keptL (rowsF 0) P))) (h0 : 0 < st) (hst : st ≤ 4) (rm : Room A 4 100) (gd : Gd hb mg mb fa fc) (c : Cx hb X (cEnv 10 L f cd) ρ s.heap)
    (l2 : ρ.lookup ("marks" : Str) = some (.dat (.list ((rowsF st).map .int)))) (l3 : ρ.lookup ("pieces" : Str) = some (.dat (.list (P.map .str)))) (l4 : ρ.lookup ("step" : Str) = some (.dat (.int (st : Int)))) (l5 : ρ.lookup ("rows" : Str) = some (.dat (.list (rowsD rowsF st))))
    (hQ : ∀ s', Up hb s'.heap → Fm s s' → Q (.ret (.bool true)) s') : wpAny (model prog w) A (execs (lawBody 11) (cEnv 10 L f cd)) Q E s := by
  have hA := rm.handled
  show wpAny _ A (execs (_ :: _) (cEnv 10 L f cd)) _ _ s
  refine wpAny_execs_cons (ex_assign (z := .dat (.str emp)) rfM c (.inr ⟨by rfl, by rfl⟩) (ev_str (X := X) mvOk) fun s₁ c1 o1 f1 => ?_)
  let ρf : Nat → List (Str × VS) := fun i => [("left", .dat (.str (lfN rowsF P st i))), ("marks", .dat (.list ((rowsF (st - i)).map .int))), ("pieces", .dat (.list (P.map .str))), ("step", .dat (.int (st : Int))), ("rows", .dat (.list (rowsD rowsF st)))]
  have tl : ∀ {y : Str} {z : VS}, ρ.lookup y = some z → y ≠ ("left" : Str) → ((("left" : Str), VS.dat (.str emp)) :: ρ).lookup y = some z := fun h hn => by rw [List.lookup_cons, beq_eq_false_iff_ne.mpr hn]; exact h
  have c1 : Cx hb X (cEnv 10 L f cd) (ρf 0) s₁.heap := c1.sub (by
    intro p hp
    simp only [ρf, List.mem_cons, List.not_mem_nil, or_false] at hp
    rcases hp with rfl | rfl | rfl | rfl | rfl
    · rw [List.lookup_cons]; rfl
    · exact tl (y := ("marks" : Str)) l2 (by decide)
    · exact tl (y := ("pieces" : Str)) l3 (by decide)
    · exact tl (y := ("step" : Str)) l4 (by decide)
    · exact tl (y := ("rows" : Str)) l5 (by decide))
  show wpAny _ _ (execs (_ :: _) _) _ _ s₁
  have fbX : ∀ b, Fb (cEnv 10 L f cd) b → X b := fun b x => x.x c.wf
  refine wpAny_execs_cons (ex_for (X := X) (F := Fm) ρf (fun X' i s' => Fm s s') rfM (srcX_range (X := X) (n := st) mvOk cx_up Cx.taken hA (by rfl) (fun h c => (gd.up c.up).seesB (by rfl) (by rfl) (by rfl) (by simp)) (ev_var (z := .dat (.int (st : Int))) mvOk (fun _ c => c) (by rfl) (by rfl) (by decide)) (by omega) (by rfl)) c1 (by rfl) (fun X' s₂ hXX hnew k fm c => ⟨c, rfM.trans f1 fm⟩) (fun X' i s' h' tk fm _ _ => rfM.trans fm (rfM.heap _ _ _)) ?turn ?fin (by intro _; rfl))
  case turn =>
    intro X' i d s₂ E' hXX hi hd c2 fm
    rw [upto_len] at hi
    rw [upto_at hi] at hd
    cases hd
    have e1 : st - (i + 1) = st - 1 - i := by omega
    refine wpAny_mono (turnD (P := P) (m := rowsF (st - i)) (h := rowsF (st - 1 - i)) (i := i) (st := st) (rs := rowsD rowsF st) hP (tok i hi) rm gd hi hst (rowsD_at (by omega)) c2) (fun fl s₃ hm => ?_) (fun _ _ z => z)
    obtain ⟨rfl, c3, o3, f3⟩ := hm
    refine ⟨rfl, ?_, rfM.trans fm f3, fun b o nx q => o3 b o (fun x => nx (fbX b x)) q⟩
    have e2 : ρf (i + 1) = ([("left", .dat (.str (cat (keptL (rowsF (st - 1 - i)) P)))), ("marks", .dat (.list ((rowsF (st - 1 - i)).map .int))), ("pieces", .dat (.list (P.map .str))), ("step", .dat (.int (st : Int))), ("rows", .dat (.list (rowsD rowsF st)))] : List (Str × VS)) := by
      simp only [ρf, lfN, if_neg (Nat.succ_ne_zero i), e1]
    rw [e2]; exact c3
  case fin =>
    intro X' s₂ hXX c2 fm
    rw [upto_len] at c2
    have e0 : st - st = 0 := by omega
    refine lawE (P := P) (m := rowsF 0) (lf := cat (keptL (rowsF 0) P)) ok rm gd c2 ?_ ?_ (by rfl) fun s' u fm' => hQ s' u (rfM.trans fm fm')
    · show some (VS.dat (.str (lfN rowsF P st st))) = _
      unfold lfN
      rw [if_neg (by omega), e0]
    · show some (VS.dat (.list ((rowsF (st - st)).map .int))) = _
      rw [e0]
end
end Mine
end

/-! part W7 -/
section
open PySem PySem.W PySem.Spec PySem.Calls PyProof.Rows
set_option Elab.async false
set_option linter.unusedVariables false
set_option maxRecDepth 100000
set_option maxHeartbeats 4000000
namespace Mine
def both (m l : List Int) : List Int := m.filter fun i => l.contains i
structure FirstOk (l m : List Int) (st : Nat) : Prop where
  s1 : Sld l (l.map (· + (st : Int))) (both m l) (minus m l)
  ll : l.length ≤ 12
  ml : m.length ≤ 12
  tl : ∃ t : List Int, t.Perm (m ++ m) ∧ t.Pairwise (· ≤ ·)
section
variable {prog : Program} {w : World} {A : Around} {hb : Heap} {X : Addr → Prop} {ρ : List (Str × VS)} {mg mb : Str → Option Value} {fa : Nat → Addr} {fc : Nat → Value} {L f : Addr} {cd : Value} {s : Shared} {E : Value → Shared → Prop}

theorem lawC {P : List Str} {rowsF : Nat → List Int} {st : Nat} {Q : Flow → Shared → Prop} (hP : PieceOk P) (tok : ∀ i < st, TextOk P (rowsF (st - i)) (rowsF (st - 1 - i))) (ok : EndOk P (rowsF 0) (cat (keptL (rowsF 0) P))) (fok : FirstOk (rowsF 0) (rowsF st) st) (h0 : 0 < st) (hst : st ≤ 4) (rm : Room A 4 100) (hfr : A.frames = some [cEnv 10 L f cd]) (gd : Gd hb mg mb fa fc) (c : Cx hb X (cEnv 10 L f cd) ρ s.heap)
    (l3 : ρ.lookup ("pieces" : Str) = some (.dat (.list (P.map .str)))) (l4 : ρ.lookup ("step" : Str) = some (.dat (.int (st : Int)))) (l5 : ρ.lookup ("rows" : Str) = some (.dat (.list (rowsD rowsF st))))
    (hQ : ∀ s', Up hb s'.heap → Fm s s' → Q (.ret (.bool true)) s') : wpAny (model prog w) A (execs (lawBody 5) (cEnv 10 L f cd)) Q E s := by
  have hA := rm.handled
  have hu : A.units + 64 < cLine := by have := rm.units; omega
  have rmt : Room A 2 80 := ⟨hA, by have := rm.depth; omega, by have := rm.units; omega⟩
  have hef : (cEnv 10 L f cd).frame = some (cEnv 10 L f cd).locals := rfl
  have szl : ∀ {l : List Int}, l.length ≤ 1000 → (l.map PyData.int).length ≤ sizeLine := fun hm => by rw [List.length_map, sizeLine_eq]; omega
  obtain ⟨tl, tp, tsd⟩ := fok.tl
  have fll := fok.ll
  have fml := fok.ml
  have tll : tl.length ≤ 24 := by rw [tp.length_eq, List.length_append]; omega
  have hX1 : ∀ b ∈ frs [cEnv 10 L f cd], X b := fun b hb => by
    rw [frs_cons' hef] at hb
    rcases List.mem_cons.mp hb with rfl | z
    · exact c.wf.xl
    · cases z
  have hcl : ∀ {ρ : List (Str × VS)} {h : Heap}, Cx hb X (cEnv 10 L f cd) ρ h → ∀ b ∈ frs [cEnv 10 L f cd], ∀ n, (cEnv 10 L f cd).cells.lookup n ≠ some b := fun c b hb n e => by
    rw [frs_cons' hef] at hb
    rcases List.mem_cons.mp hb with rfl | z
    · exact (c.wf.cell n _ e).2.2 rfl
    · cases z
  have fo : ∀ {ρ : List (Str × VS)} {h : Heap}, Cx hb X (cEnv 10 L f cd) ρ h → FrOk h [cEnv 10 L f cd] := fun c => ⟨fun e he => by
    rw [List.mem_singleton.mp he]
    exact ⟨rfl, hef, c.wf.loc⟩⟩
  have c := c.sub (ρ' := [("pieces", .dat (.list (P.map .str))), ("step", .dat (.int (st : Int))), ("rows", .dat (.list (rowsD rowsF st)))]) (by
    intro p hp
    simp only [List.mem_cons, List.not_mem_nil, or_false] at hp
    rcases hp with rfl | rfl | rfl <;> assumption)
  have evd : ∀ {ρ : List (Str × VS)} (y : Str) (d : PyData) (p : Pos), ρ.lookup y = some (.dat d) → (y == ("__debug__" : Str)) = false → Ev prog w A Keeps (cEnv 10 L f cd) (Cx hb X (cEnv 10 L f cd) ρ) (.Name y p) (fun h v => Rd X h v d) := fun y d p hl hd => ev_var (z := .dat d) keepsOk (fun _ c => c) rfl hl hd
  show wpAny _ A (execs (_ :: _) (cEnv 10 L f cd)) _ _ s
  refine wpAny_execs_cons (ex_assign (z := .dat (.list ((rowsF 0).map .int))) rfK c (.inr ⟨by rfl, by rfl⟩) (ev_item (X := X) (i := 0) (xs := rowsD rowsF st) keepsOk cx_up (evd "rows" _ _ (by rfl) (by decide)) (ev_int (X := X) keepsOk) (by omega) (by omega) (rowsD_at (Nat.zero_le _))) fun s₁ c1 o1 f1 => ?_)
  show wpAny _ _ (execs (_ :: _) _) _ _ s₁
  refine wpAny_execs_cons (ex_assign (z := .dat (.list ((rowsF st).map .int))) rfK c1 (.inr ⟨by rfl, by rfl⟩) (ev_item (X := X) (i := (st : Int)) (xs := rowsD rowsF st) keepsOk cx_up (evd "rows" _ _ (by rfl) (by decide)) (evd "step" _ _ (by rfl) (by decide)) (by omega) (by omega) (by rw [Int.toNat_natCast]; exact rowsD_at (Nat.le_refl _))) fun s₂ c2 o2 f2 => ?_)
  show wpAny _ _ (execs (_ :: _) _) _ _ s₂
  refine wpAny_execs_cons (ex_assign (z := .dat (.tuple [.list ((both (rowsF st) (rowsF 0)).map .int), .list ((minus (rowsF st) (rowsF 0)).map .int)])) rfK c2 (.inl rfl) (ev_tuple (X := X) (ds := [.list ((both (rowsF st) (rowsF 0)).map .int), .list ((minus (rowsF st) (rowsF 0)).map .int)]) keepsOk cx_up Cx.taken (.cons
      (ev_comp' (X := X) (ds := (rowsF st).map .int) (p := fun d => match d with | .int i => (rowsF 0).contains i | _ => false) (g := fun d => match d with | .int i => .int i | d => d) (Eq.trans map_g (by rw [List.map_id']; rfl)) keepsOk cx_up Cx.taken (src_list (X := X) keepsOk hA (evd "marks" _ _ (by rfl) (by decide)) ints_sc) (szl (by omega)) ⟨fun C v d sc hd => ?t1, fun C v d sc hd _ => ?e1⟩ (by rfl) (by decide) (by rfl) (by decide) (by rfl) (by intro _; rfl)) (upRd _) (by rfl) (.cons
      (ev_comp' (X := X) (ds := (rowsF st).map .int) (p := fun d => match d with | .int i => !(rowsF 0).contains i | _ => false) (g := fun d => match d with | .int i => .int i | d => d) (Eq.trans map_g (by rw [List.map_id']; rfl)) keepsOk cx_up Cx.taken (src_list (X := X) keepsOk hA (evd "marks" _ _ (by rfl) (by decide)) ints_sc) (szl (by omega)) ⟨fun C v d sc hd => ?t2, fun C v d sc hd _ => ?e2⟩ (by rfl) (by decide) (by rfl) (by decide) (by rfl) (by intro _; rfl)) (upRd _) (by rfl) .nil)) (show (2 : Nat) ≤ sizeLine by decide)) fun s₃ c3 o3 f3 => ?_)
  case t1 =>
    obtain ⟨i, _, rfl⟩ := List.mem_map.mp hd
    exact comp_in' (I := fun _ => True) hu (by rfl) sc (by rfl) (by rfl) (by rfl) (by rfl) (by rfl) (by decide)
  case t2 =>
    obtain ⟨i, _, rfl⟩ := List.mem_map.mp hd
    exact comp_in (I := fun _ => True) hu (by rfl) sc (by rfl) (by rfl) (by rfl) (by rfl) (by rfl) (by decide)
  case e1 =>
    obtain ⟨i, _, rfl⟩ := List.mem_map.mp hd
    exact ev_sc (X := X) (d := .int i) (ev_it keepsOk (by rfl) sc (fun h i => i.2)) rfl
  case e2 =>
    obtain ⟨i, _, rfl⟩ := List.mem_map.mp hd
    exact ev_sc (X := X) (d := .int i) (ev_it keepsOk (by rfl) sc (fun h i => i.2)) rfl
  show wpAny _ _ (execs (_ :: _) _) _ _ s₃
  generalize hρ : ((("due" : Str), VS.dat (.tuple [.list ((both (rowsF st) (rowsF 0)).map .int), .list ((minus (rowsF st) (rowsF 0)).map .int)])) :: _ : List (Str × VS)) = ρ at c3
  have lf : ρ.lookup ("first" : Str) = some (.dat (.list ((rowsF 0).map .int))) := by rw [← hρ]; rfl
  have lm : ρ.lookup ("marks" : Str) = some (.dat (.list ((rowsF st).map .int))) := by rw [← hρ]; rfl
  have ld : ρ.lookup ("due" : Str) = some (.dat (.tuple [.list ((both (rowsF st) (rowsF 0)).map .int), .list ((minus (rowsF st) (rowsF 0)).map .int)])) := by rw [← hρ]; rfl
  have lp : ρ.lookup ("pieces" : Str) = some (.dat (.list (P.map .str))) := by rw [← hρ]; rfl
  have ls : ρ.lookup ("step" : Str) = some (.dat (.int (st : Int))) := by rw [← hρ]; rfl
  have lr : ρ.lookup ("rows" : Str) = some (.dat (.list (rowsD rowsF st))) := by rw [← hρ]; rfl
  clear hρ
  have esh : ((rowsF 0).map PyData.int |>.filter (fun _ => true)).map (fun d => match d with | .int i => PyData.int (i + (st : Int)) | d => d) = ((rowsF 0).map (· + (st : Int))).map .int := map_t
  refine wpAny_execs_cons (wpAny_If (tst_sld (xs := rowsF 0) (ys := (rowsF 0).map (· + (st : Int))) rmt hfr (fo c3) gd hX1 (hcl c3) c3 rfl (evd "first" _ _ lf (by decide)) (ev_comp' (X := X) (ds := (rowsF 0).map .int) (p := fun _ => true) (g := fun d => match d with | .int i => .int (i + (st : Int)) | d => d) esh keepsOk cx_up Cx.taken (src_list (X := X) keepsOk hA (evd "first" _ _ lf (by decide)) ints_sc) (szl (by omega)) ⟨fun C v d sc hd => ?t3, fun C v d sc hd _ => ?e3⟩ (by rfl) (by decide) (by rfl) (by decide) (by rfl) (by intro _; rfl)) (evd "due" _ _ ld (by decide)) fok.s1 (by rw [List.length_map]; omega) (fun s₄ c4 k4 sr4 => ?_) (by rfl) (by rfl) (by with_unfolding_all rfl)))
  case t3 => rfl
  case e3 =>
    obtain ⟨i, _, rfl⟩ := List.mem_map.mp hd
    exact ev_sc (X := X) (d := .int (i + (st : Int))) (ev_bin keepsOk ciUp (ev_it keepsOk (by rfl) sc (fun h i => i.2)) (ev_free (z := .dat (.int (st : Int))) keepsOk (fun h i => i.1) (by rfl) ls (by rfl) (by rfl) (by rfl) (by rfl)) (upRd _) (op_addi keepsOk)) rfl
  rw [if_neg (by decide)]
  refine wpAny_execs_nil ?_
  show wpAny _ _ (execs (_ :: _) _) _ _ s₄
  have et : (tl ++ [99, 99]).map PyData.int = tl.map PyData.int ++ [.int 99, .int 99] := by simp
  have emm : (rowsF st ++ rowsF st).map PyData.int = (rowsF st).map PyData.int ++ (rowsF st).map PyData.int := List.map_append
  refine wpAny_execs_cons (ex_assign (z := .dat (.list ((tl ++ [99, 99]).map .int))) rfK c4 (.inl rfl) ?tail fun s₅ c5 o5 f5 => ?_)
  case tail =>
    show Ev _ _ _ _ _ _ _ (fun h v => Rd X h v (.list _))
    rw [et]
    refine ev_bin keepsOk cx_up (ev_call (P := fun h v => Rd X h v (.list (tl.map .int))) keepsOk cx_up (by rfl) (fun h c => (gd.up c.up).seesB (v := .builtin "sorted") (by rfl) (by rfl) (by rfl) (by simp)) (fun _ _ => keepsF_builtin) (.cons (P := fun h v => Rd X h v (.list ((rowsF st ++ rowsF st).map .int))) ?mm (upRd _) (by rfl) .nil) (cal_sorted keepsOk Cx.taken tp tsd (by rw [List.length_append]; omega)) (by rfl) (by rfl) (by decide)) (ev_list (X := X) (ds := [.int 99, .int 99]) keepsOk cx_up Cx.taken (.cons (ev_int (X := X) keepsOk) (upRd _) (by rfl) (.cons (ev_int (X := X) keepsOk) (upRd _) (by rfl) .nil)) (show (2 : Nat) ≤ sizeLine by decide)) (upRd _) (op_addl keepsOk Cx.taken (by rw [List.length_map, sizeLine_eq]; simp only [List.length_cons, List.length_nil]; omega))
    rw [emm]
    exact ev_bin keepsOk cx_up (evd "marks" _ _ lm (by decide)) (evd "marks" _ _ lm (by decide)) (upRd _) (op_addl keepsOk Cx.taken (by rw [List.length_map, sizeLine_eq]; omega))
  show wpAny _ _ (execs (_ :: _) _) _ _ s₅
  have tk : ∀ {y : Str} {z : VS}, ρ.lookup y = some z → y ≠ ("tail" : Str) → ((("tail" : Str), VS.dat (.list ((tl ++ [99, 99]).map .int))) :: ρ).lookup y = some z := fun h hn => by rw [List.lookup_cons, beq_eq_false_iff_ne.mpr hn]; exact h
  have lt : ((("tail" : Str), VS.dat (.list ((tl ++ [99, 99]).map .int))) :: ρ).lookup ("tail" : Str) = some (.dat (.list ((tl ++ [99, 99]).map .int))) := by rw [List.lookup_cons]; rfl
  have ln : (tl ++ [99, 99]).length ≤ 1000 := by simp only [List.length_append, List.length_cons, List.length_nil]; omega
  have evn : ∀ (p : Pos), Ev prog w A Keeps (cEnv 10 L f cd) (Cx hb X (cEnv 10 L f cd) ((("tail" : Str), VS.dat (.list ((tl ++ [99, 99]).map .int))) :: ρ)) (.List [] p) (fun h v => Rd X h v (.list (([] : List Int).map .int))) := fun p => ev_list (X := X) (ds := []) keepsOk cx_up Cx.taken .nil (Nat.zero_le _)
  refine wpAny_execs_cons (wpAny_If (isTrue_or (tst_sld (xs := []) (ys := tl ++ [99, 99]) rmt hfr (fo c5) gd hX1 (hcl c5) c5 rfl (evn _) (evd "tail" _ _ lt (by decide)) (ev_tuple (X := X) (ds := [.list (([] : List Int).map .int), .list ((tl ++ [99, 99]).map .int)]) keepsOk cx_up Cx.taken (.cons (evn _) (upRd _) (by rfl) (.cons (evd "tail" _ _ lt (by decide)) (upRd _) (by rfl) .nil)) (show (2 : Nat) ≤ sizeLine by decide)) .nilL ⟨Nat.zero_le _, ln⟩ (fun s₆ c6 k6 sr6 => ?_) (by rfl) (by rfl) (by with_unfolding_all rfl))))
  rw [if_neg (by decide)]
  refine isTrue_or (tst_sld (xs := tl ++ [99, 99]) (ys := []) rmt hfr (fo c6) gd hX1 (hcl c6) c6 rfl (evd "tail" _ _ lt (by decide)) (evn _) (ev_tuple (X := X) (ds := [.list ((tl ++ [99, 99]).map .int), .list (([] : List Int).map .int)]) keepsOk cx_up Cx.taken (.cons (evd "tail" _ _ lt (by decide)) (upRd _) (by rfl) (.cons (evn _) (upRd _) (by rfl) .nil)) (show (2 : Nat) ≤ sizeLine by decide)) .nilR ⟨ln, Nat.zero_le _⟩ (fun s₇ c7 k7 sr7 => ?_) (by rfl) (by rfl) (by with_unfolding_all rfl))
  rw [if_neg (by decide)]
  refine isTrue_or_nil ?_
  rw [if_neg (by decide)]
  refine wpAny_execs_nil ?_
  refine lawD hP tok ok h0 hst rm gd c7 (tk (y := ("marks" : Str)) lm (by decide)) (tk (y := ("pieces" : Str)) lp (by decide)) (tk (y := ("step" : Str)) ls (by decide)) (tk (y := ("rows" : Str)) lr (by decide)) fun s₈ u8 f8 => hQ s₈ u8 ?_
  exact rfM.trans (rfM.trans (rfM.trans (rfM.trans (rfM.trans (rfM.trans (rfM.trans (.of_rest f1) (.of_rest f2)) (.of_rest f3)) (.of_rest sr4)) (.of_rest f5)) (.of_rest sr6)) (.of_rest sr7)) f8
end
end Mine
end

/-! part W8 -/
section
open PySem PySem.W PySem.Spec PySem.Calls PyProof.Rows
set_option Elab.async false
set_option linter.unusedVariables false
set_option maxRecDepth 100000
set_option maxHeartbeats 4000000
namespace Mine
section
variable {prog : Program} {w : World} {A : Around} {env : Env} {R F : Shared → Shared → Prop} {I : Heap → Prop} {hb : Heap} {X : Addr → Prop} {ρ : List (Str × VS)} {mg mb : Str → Option Value} {fa : Nat → Addr} {fc : Nat → Value} {L f : Addr} {cd : Value} {s : Shared} {E : Value → Shared → Prop}

theorem keeps_of {s s' : Shared} (u : Up s.heap s'.heap) (sr : SameRest s s') : Keeps s s' := by
  obtain ⟨h, t, rfl⟩ := sr
  exact ⟨h, t, rfl, u⟩
theorem cal_cells {ns : List Int} (rm : Room A 2 10) (gd : Gd hb mg mb fa fc) (hn : ns.length ≤ 1000) : Cal prog w A Keeps (Cx hb X env ρ) (.ref (fa 6)) [fun h v => Rd X h v (.list (ns.map .int))] (fun h v => Rd X h v (.list ((cellsOf ns).map .int))) := fun s vs ii hv Q E h => by
  cases hv with
  | cons p q =>
    cases q
    exact cells_call rm gd ii.up ii.tk ii.fresh p hn fun v s' u sr hv => h v s' (keeps_of u sr) hv
theorem cal_pieces {cs : List Int} {ks : List Nat} (rm : Room A 2 10) (gd : Gd hb mg mb fa fc) (hn : cs.length = 7) (hc : ∀ c ∈ cs, 0 ≤ c ∧ c < 96) (hk : sizesOf cs = ks.map (fun k : Nat => (k : Int))) (hk4 : ∀ k ∈ ks, k < 4) : Cal prog w A Keeps (Cx hb X env ρ) (.ref (fa 7)) [fun h v => Rd X h v (.list (cs.map .int))] (fun h v => Rd X h v (.list ((piecesOf ks).map .str))) := fun s vs ii hv Q E h => by
  cases hv with
  | cons p q =>
    cases q
    exact pieces_call rm gd ii.up ii.tk ii.fresh p hn hc hk hk4 fun v s' u sr hv => h v s' (keeps_of u sr) hv

/-- an item of a list that the frame owns -/
theorem ev_itemOwn {l e : Expr} {r : Addr} {ds : List PyData} {i : Int} {d : PyData} {pos : Pos} (hR : RelOk R) (hI : UpC I) (h1 : Ev prog w A R env I l (fun h v => v = .ref r)) (hl : ∀ h, I h → ∃ vs : Array Value, h.PlainList r vs ∧ RdL X h vs.toList ds) (h2 : Ev prog w A R env I e (fun h v => Rd X h v (.int i))) (h0 : 0 ≤ i) (hf : i < 2 ^ 63) (hd : ds[i.toNat]? = some d)
    (hs : ∀ o iv, subscripted e false o iv = operate [o, iv] (getItem o iv) := by intro _ _; with_unfolding_all rfl) :
    Ev prog w A R env I (.Subscript l e pos) (fun h v => Rd X h v d) := fun s ii Q E h => by
  refine Subscript_ (ev_seq2 (P₁ := fun h v => v = .ref r) hR hI h1 h2 (fun _ _ _ _ e => e) ii fun v u s' r' p q => ?_)
  subst p
  obtain ⟨t, rfl⟩ := q.int_inv
  obtain ⟨vs, ⟨n, ho⟩, hl⟩ := hl s'.heap (hI _ _ (hR.up r') ii)
  have hL : s'.heap.IsList r vs := ⟨_, ho, rfl, n, rfl⟩
  obtain ⟨v, hv⟩ : ∃ v, vs.toList[i.toNat]? = some v := ⟨_, List.getElem?_eq_getElem (by rw [hl.length]; exact (List.getElem?_eq_some_iff.mp hd).1)⟩
  exact kba_turn (value' := .Name "" default) (fun r => rfl) (subscriptTail_builtin hL.typeIs slot_list_getitem.lookup (wpAny_getItem_list hL h0 hf (x := v) (by simpa using hv) (h _ _ r' (hl.at _ _ _ hv hd))) (hs _ _) (fun r => rfl))

/-- an own list is given up: from now on it is read -/
theorem cx_release {h : Heap} {r : Addr} {y : Str} {ds : List PyData} {ρ' : List (Str × VS)} (c : Cx hb (fun b => X b ∨ b = r) env ρ h) (hX : ∀ b, Fb env b → X b) (hr : ¬ X r) (hy : ρ.lookup y = some (.val (.ref r))) (p : ∃ vs : Array Value, h.PlainList r vs ∧ RdL (fun b => X b ∨ b = r) h vs.toList ds)
    (hs : ∀ q ∈ ρ', (q.1 = y ∧ q.2 = .dat (.list ds)) ∨ ρ.lookup q.1 = some q.2) : Cx hb X env ρ' h := by
  obtain ⟨w, t, tk, u, fr⟩ := c
  refine ⟨{ w with xl := hX _ (.inl rfl), cell := fun n c e => ⟨(w.cell n c e).1, hX _ (.inr ⟨n, e⟩), (w.cell n c e).2.2⟩, xg := ⟨fun z => w.xg.1 (.inl z), fun z => w.xg.2 (.inl z)⟩ }, fun y' z' e => ?_, fun b x => tk b (.inl x), u, fun b o q x => fr b o q (.inl x)⟩
  rcases hs _ (lookup_mem e) with ⟨e1, e2⟩ | e1
  · obtain ⟨v, a, b⟩ := t y _ hy
    change y' = y at e1
    change z' = _ at e2
    subst e1; subst e2
    change v = _ at b
    subst b
    obtain ⟨vs, ⟨n, ho⟩, rl⟩ := p
    exact ⟨_, a, Rd.mkList hr ho (rl.to (fun _ _ _ q => q) fun b _ _ x => .inl x)⟩
  · obtain ⟨v, a, b⟩ := t y' z' e1
    refine ⟨v, a, ?_⟩
    cases z' with
    | dat d => exact Rd.weak b fun b x => .inl x
    | val u => exact b
end
end Mine
end

/-! part W9 -/
section
open PySem PySem.W PySem.Spec PySem.Calls PyProof.Rows
set_option Elab.async false
set_option linter.unusedVariables false
set_option maxRecDepth 100000
set_option maxHeartbeats 4000000
namespace Mine
def rowBody : List Stmt := match (dOf 10).body.drop 4 with
  | .For _ _ body _ _ :: _ => body
  | _ => []
section
variable {prog : Program} {w : World} {A : Around} {hb : Heap} {X : Addr → Prop} {ρ : List (Str × VS)} {mg mb : Str → Option Value} {fa : Nat → Addr} {fc : Nat → Value} {L f : Addr} {cd : Value} {s : Shared} {E : Value → Shared → Prop}

/-- one turn of the law's first loop -/
theorem turnB {rowsF : Nat → List Int} {i : Nat} {r : Addr} {vs : Array Value} {cs : List Int} {P : List Str} {st : Nat} (hi : i ≤ 4) (hrx : X r ∧ ¬ Fb (cEnv 10 L f cd) r) (tok : TurnOk (rowsF i) (rowsF (i + 1))) (rm : Room A 5 200) (hfr : A.frames = some [cEnv 10 L f cd]) (gd : Gd hb mg mb fa fc)
    (hp : s.heap.PlainList r vs) (hl : RdL X s.heap vs.toList (rowsD rowsF i))
    (c : Cx hb X (cEnv 10 L f cd) [("turn", .dat (.int (i : Int))), ("rows", .val (.ref r)), ("pieces", .dat (.list (P.map .str))), ("step", .dat (.int (st : Int)))] s.heap) :
    wpAny (model prog w) A (execs rowBody (cEnv 10 L f cd)) (fun fl s' => fl = .next ∧ Cx hb X (cEnv 10 L f cd) [("rows", .val (.ref r)), ("pieces", .dat (.list (P.map .str))), ("step", .dat (.int (st : Int)))] s'.heap ∧ (∃ vs' : Array Value, s'.heap.PlainList r vs' ∧ RdL X s'.heap vs'.toList (rowsD rowsF (i + 1))) ∧ (∀ b o, b ≠ r → ¬ Fb (cEnv 10 L f cd) b → s.heap.get? b = some o → s'.heap.get? b = some o) ∧ SameRest s s') E s := by
  have hA := rm.handled
  have rm4 : Room A 4 100 := ⟨hA, by have := rm.depth; omega, by have := rm.units; omega⟩
  have hef : (cEnv 10 L f cd).frame = some (cEnv 10 L f cd).locals := rfl
  have hX1 : ∀ b ∈ frs [cEnv 10 L f cd], X b := fun b hb => by
    rw [frs_cons' hef] at hb
    rcases List.mem_cons.mp hb with rfl | z
    · exact c.wf.xl
    · cases z
  have hrF : r ∉ frs [cEnv 10 L f cd] := fun z => by
    rw [frs_cons' hef] at z
    rcases List.mem_cons.mp z with z | z
    · exact hrx.2 (.inl z)
    · cases z
  have fbX : ∀ b, Fb (cEnv 10 L f cd) b → X b := fun b x => x.x c.wf
  show wpAny _ A (execs (_ :: _) (cEnv 10 L f cd)) _ _ s
  refine wpAny_execs_cons (wpAny_Assign_Name ?_)
  refine Call_Name rfl (wpAny_Name (loadSees rfl ((gd.up c.up).seesF 8 (by decide) rfl rfl rfl rfl) ?_) (by decide))
  have ii : Cx hb X (cEnv 10 L f cd) [("turn", .dat (.int (i : Int))), ("rows", .val (.ref r)), ("pieces", .dat (.list (P.map .str))), ("step", .dat (.int (st : Int)))] s.heap ∧ Up s.heap s.heap := ⟨c, Up.rfl'⟩
  refine callWith_ev (R := Keeps) (I := fun h => Cx hb X (cEnv 10 L f cd) [("turn", .dat (.int (i : Int))), ("rows", .val (.ref r)), ("pieces", .dat (.list (P.map .str))), ("step", .dat (.int (st : Int)))] h ∧ Up s.heap h) keepsOk (fun h h' k i => ⟨cx_up _ _ k i.1, i.2.tr k⟩) (fun h c => (gd.up c.1.up).keepsF 8 (by decide)) (.cons (P := fun h v => Rd X h v (.list ((rowsF i).map .int))) ?arg (upRd _) (by rfl) .nil) ii (fun us s₁ r₁ c₁ hvs => ?_) (by rfl) (by rfl)
  case arg =>
    exact ev_itemOwn (X := X) (r := r) (ds := rowsD rowsF i) (i := (i : Int)) keepsOk (fun h h' k i => ⟨cx_up _ _ k i.1, i.2.tr k⟩) (ev_var (z := .val (.ref r)) keepsOk (fun _ c => c.1) (by rfl) (by rfl) (by decide)) (fun h c => ⟨vs, hp.at fun o q => c.2 _ _ q, hl.up c.2⟩) (ev_var (z := .dat (.int (i : Int))) keepsOk (fun _ c => c.1) (by rfl) (by rfl) (by decide)) (by omega) (by omega) (by rw [Int.toNat_natCast]; exact rowsD_at (Nat.le_refl _))
  cases hvs with
  | cons pa q =>
    cases q
    have fo : FrOk s₁.heap [cEnv 10 L f cd] := ⟨fun e he => by
      rw [List.mem_singleton.mp he]
      exact ⟨rfl, hef, c₁.1.wf.loc⟩⟩
    refine turn_call rm4 hfr fo gd c₁.1.up c₁.1.tk c₁.1.fresh hX1 pa tok fun told s₂ k₂ sr₂ rt => ?_
    have c₂ := cx_kp c₁.1 k₂ hX1 fun b hb n e => by
      rw [frs_cons' hef] at hb
      rcases List.mem_cons.mp hb with rfl | z
      · exact (c₁.1.wf.cell n _ e).2.2 rfl
      · cases z
    have nF : ∀ b, ¬ Fb (cEnv 10 L f cd) b → b ∉ frs [cEnv 10 L f cd] := fun b nf z => by
      rw [frs_cons' hef] at z
      rcases List.mem_cons.mp z with z | z
      · exact nf (.inl z)
      · cases z
    have ex2 : ∀ b o, ¬ Fb (cEnv 10 L f cd) b → s.heap.get? b = some o → s₂.heap.get? b = some o := fun b o nx q => k₂.off b o (nF b nx) (keepsOk.up r₁ b o q)
    have hp2 : s₂.heap.PlainList r vs := hp.at fun o q => k₂.off r o hrF (keepsOk.up r₁ r o q)
    have hl2 := hl.to (fun b o nx q => ex2 b o (fun x => nx (fbX b x)) q) fun _ _ _ x => x
    refine cx_store (z := .dat (.list ((rowsF (i + 1)).map .int))) c₂ (.inl rfl) rt fun h₃ tk₃ c₃ o₃ => ?_
    have ex3 : ∀ b o, ¬ Fb (cEnv 10 L f cd) b → s.heap.get? b = some o → h₃.get? b = some o := fun b o nx q => o₃ b o nx (ex2 b o nx q)
    have hp3 : h₃.PlainList r vs := hp2.at fun o q => o₃ r o hrx.2 q
    have hl3 := hl.to (fun b o nx q => ex3 b o (fun x => nx (fbX b x)) q) fun _ _ _ x => x
    show wpAny _ _ (execs (_ :: _) _) _ _ _
    generalize hs3 : ({ s₂ with heap := h₃, toks := tk₃ } : Shared) = s₃
    have e3 : s₃.heap = h₃ := by subst hs3; rfl
    have sr3 : SameRest s s₃ := by
      subst hs3
      exact ((rfK.of r₁).trans sr₂).trans ⟨h₃, tk₃, rfl⟩
    rw [← e3] at c₃ ex3 hp3 hl3
    refine wpAny_execs_cons (ex_if (R := Keeps) (b := false) c₃ (tst_cmp (X := X) keepsOk cx_up (ev_var (z := .dat (.list ((rowsF (i + 1)).map .int))) keepsOk (fun _ c => c) (by rfl) (by rfl) (by decide)) (ev_none (X := X) keepsOk) (upOk _) (op_isNone keepsOk fun h v hv => ?isn) (by with_unfolding_all rfl)) fun s₄ r₄ => ?_)
    case isn =>
      change Rd X h v (.list _) at hv
      obtain ⟨a, _, _, rfl, _⟩ := hv.list_inv
      rfl
    show wpAny _ _ (execs [] _) _ _ s₄
    refine wpAny_execs_nil ?_
    have c4 := cx_up _ _ (keepsOk.up r₄) c₃
    have hp4 := hp3.at fun o q => keepsOk.up r₄ r o q
    have hl4 := hl3.up (keepsOk.up r₄)
    have vz : vs.size ≤ sizeLine := by
      have := hl.length
      simp [rowsD] at this
      rw [sizeLine_eq]; omega
    show wpAny _ _ (execs (_ :: _) _) _ _ s₄
    refine wpAny_execs_cons (ex_append (P := fun h v => Rd X h v (.list ((rowsF (i + 1)).map .int))) rfK c4 (l := "rows") (r := r) (by rfl) hrx hp4 vz (ev_var (z := .dat (.list ((rowsF (i + 1)).map .int))) keepsOk (fun _ c => c) (by rfl) (by rfl) (by decide)) fun v s₅ s₆ k5 pv p6 sb c6 f6 => ?_)
    have ex6 : ∀ b o, b ≠ r → s₄.heap.get? b = some o → s₆.heap.get? b = some o := fun b o hb z => sb.extBut b o hb (keepsOk.up k5 b o z)
    have nx6 : ∀ b o, ¬ X b → s₅.heap.get? b = some o → s₆.heap.get? b = some o := fun b o nx z => sb.extBut b o (fun e => nx (e ▸ hrx.1)) z
    refine wpAny_execs_nil ⟨rfl, c6.sub (by
      intro p hp
      simp only [List.mem_cons, List.not_mem_nil, or_false] at hp
      rcases hp with rfl | rfl | rfl <;> rfl), ⟨vs.push v, p6, ?_⟩, fun b o nr nx q => ex6 b o nr (keepsOk.up r₄ b o (ex3 b o nx q)), (sr3.trans (rfK.of r₄)).trans f6⟩
    have er : rowsD rowsF (i + 1) = rowsD rowsF i ++ [.list ((rowsF (i + 1)).map .int)] := by
      unfold rowsD
      rw [List.range_succ, List.map_append]; rfl
    rw [er, Array.toList_push]
    exact ((hl4.up (keepsOk.up k5)).to nx6 fun _ _ _ x => x).append (.cons (pv.to nx6 fun _ _ _ x => x) .nil)
end
end Mine
end

/-! part W10 -/
section
open PySem PySem.W PySem.Spec PySem.Calls PyProof.Rows
set_option Elab.async false
set_option linter.unusedVariables false
set_option maxRecDepth 100000
set_option maxHeartbeats 4000000
namespace Mine
def stOf (ns : List Int) : Nat := [2, 4, 1].getD ((isum ns).fmod 3).toNat 1
def row0 (cs : List Int) : List Int := ((List.range 7).filter fun p => (cs.getD p 0).fmod 2 == 1).map fun p : Nat => (p : Int)
theorem cellsOf_len (ns : List Int) : (cellsOf ns).length = 7 := by simp [cellsOf]
theorem cellsOf_mem (ns : List Int) : ∀ c ∈ cellsOf ns, 0 ≤ c ∧ c < 96 := fun c hc => by
  obtain ⟨p, _, rfl⟩ := List.mem_map.mp hc
  exact ⟨Int.fmod_nonneg_of_pos _ (by decide), Int.fmod_lt_of_pos _ (by decide)⟩
section
variable {prog : Program} {w : World} {A : Around} {hb : Heap} {X : Addr → Prop} {ρ : List (Str × VS)} {mg mb : Str → Option Value} {fa : Nat → Addr} {fc : Nat → Value} {L f : Addr} {cd : Value} {s : Shared} {E : Value → Shared → Prop}

theorem lawA {ns : List Int} {ks : List Nat} {rowsF : Nat → List Int} {Q : Flow → Shared → Prop} (hn : ns.length ≤ 1000) (hk : sizesOf (cellsOf ns) = ks.map (fun k : Nat => (k : Int))) (hk4 : ∀ k ∈ ks, k < 4) (hr0 : row0 (cellsOf ns) = rowsF 0) (hturn : ∀ i < stOf ns, TurnOk (rowsF i) (rowsF (i + 1)))
    (hP : PieceOk (piecesOf ks)) (tok : ∀ i < stOf ns, TextOk (piecesOf ks) (rowsF (stOf ns - i)) (rowsF (stOf ns - 1 - i))) (ok : EndOk (piecesOf ks) (rowsF 0) (cat (keptL (rowsF 0) (piecesOf ks)))) (fok : FirstOk (rowsF 0) (rowsF (stOf ns)) (stOf ns)) (h0 : 0 < stOf ns) (hst : stOf ns ≤ 4)
    (rm : Room A 5 200) (hfr : A.frames = some [cEnv 10 L f cd]) (gd : Gd hb mg mb fa fc) (c : Cx hb X (cEnv 10 L f cd) [("script", .dat (.list (ns.map .int)))] s.heap)
    (hQ : ∀ s', Up hb s'.heap → Fm s s' → Q (.ret (.bool true)) s') : wpAny (model prog w) A (execs (dOf 10).body (cEnv 10 L f cd)) Q E s := by
  have hA := rm.handled
  have hu : A.units + 64 < cLine := by have := rm.units; omega
  have rm4 : Room A 4 100 := ⟨hA, by have := rm.depth; omega, by have := rm.units; omega⟩
  have rm2 : Room A 2 10 := ⟨hA, by have := rm.depth; omega, by have := rm.units; omega⟩
  have fbX : ∀ b, Fb (cEnv 10 L f cd) b → X b := fun b x => x.x c.wf
  have cl7 := cellsOf_len ns
  have evd : ∀ {ρ : List (Str × VS)} (y : Str) (d : PyData) (p : Pos), ρ.lookup y = some (.dat d) → (y == ("__debug__" : Str)) = false → Ev prog w A Keeps (cEnv 10 L f cd) (Cx hb X (cEnv 10 L f cd) ρ) (.Name y p) (fun h v => Rd X h v d) := fun y d p hl hd => ev_var (z := .dat d) keepsOk (fun _ c => c) rfl hl hd
  show wpAny _ A (execs (_ :: _) (cEnv 10 L f cd)) _ _ s
  refine wpAny_execs_cons (ex_assign (z := .dat (.list ((cellsOf ns).map .int))) rfK c (.inr ⟨by rfl, by rfl⟩) (ev_call keepsOk cx_up (by rfl) (fun h c => (gd.up c.up).seesF 6 (by decide) rfl (by rfl) (by rfl) (by rfl)) (fun h c => (gd.up c.up).keepsF 6 (by decide)) (.cons (evd "script" _ _ (by rfl) (by decide)) (upRd _) (by rfl) .nil) (cal_cells rm2 gd hn) (by rfl) (by rfl) (by decide)) fun s₁ c1 o1 f1 => ?_)
  show wpAny _ _ (execs (_ :: _) _) _ _ s₁
  refine wpAny_execs_cons (ex_assign (z := .dat (.list ((piecesOf ks).map .str))) rfK c1 (.inr ⟨by rfl, by rfl⟩) (ev_call keepsOk cx_up (by rfl) (fun h c => (gd.up c.up).seesF 7 (by decide) rfl (by rfl) (by rfl) (by rfl)) (fun h c => (gd.up c.up).keepsF 7 (by decide)) (.cons (evd "cells" _ _ (by rfl) (by decide)) (upRd _) (by rfl) .nil) (cal_pieces rm2 gd cl7 (cellsOf_mem ns) hk hk4) (by rfl) (by rfl) (by decide)) fun s₂ c2 o2 f2 => ?_)
  show wpAny _ _ (execs (_ :: _) _) _ _ s₂
  have hm3 : 0 ≤ (isum ns).fmod 3 ∧ (isum ns).fmod 3 < 3 := ⟨Int.fmod_nonneg_of_pos _ (by decide), Int.fmod_lt_of_pos _ (by decide)⟩
  have hidx : ([.int 2, .int 4, .int 1] : List PyData)[((isum ns).fmod 3).toNat]? = some (.int (stOf ns : Int)) := by
    unfold stOf
    have : ((isum ns).fmod 3).toNat < 3 := by omega
    generalize ((isum ns).fmod 3).toNat = q at this
    match q, this with
    | 0, _ => rfl
    | 1, _ => rfl
    | 2, _ => rfl
  refine wpAny_execs_cons (ex_assign (z := .dat (.int (stOf ns : Int))) rfK c2 (.inr ⟨by rfl, by rfl⟩) (ev_itemT (X := X) (i := (isum ns).fmod 3) (xs := [.int 2, .int 4, .int 1]) keepsOk cx_up (ev_list (X := X) keepsOk cx_up Cx.taken (.cons (ev_int (X := X) keepsOk) (upRd _) (by rfl) (.cons (ev_int (X := X) keepsOk) (upRd _) (by rfl) (.cons (ev_int (X := X) keepsOk) (upRd _) (by rfl) .nil))) (show (3 : Nat) ≤ sizeLine by decide)) (ev_bin keepsOk cx_up (ev_call keepsOk cx_up (by rfl) (fun h c => (gd.up c.up).seesB (v := .builtin "sum") (by rfl) (by rfl) (by rfl) (by simp)) (fun _ _ => keepsF_builtin) (.cons (evd "script" _ _ (by rfl) (by decide)) (upRd _) (by rfl) .nil) (cal_sum keepsOk hA) (by rfl) (by rfl) (by decide)) (ev_int (X := X) keepsOk) (upRd _) (op_modi keepsOk (by decide))) hm3.1 (by omega) hidx) fun s₃ c3 o3 f3 => ?_)
  show wpAny _ _ (execs (_ :: _) _) _ _ s₃
  have erow : ((upto 7).filter (fun d => match d with | .int i => (((cellsOf ns).getD i.toNat 0).fmod 2 == 1) | _ => false)).map (fun d => d) = (rowsF 0).map .int := by
    refine Eq.trans (upto_hid 7 (fun p => ((cellsOf ns).getD p 0).fmod 2 == 1)) ?_
    rw [← hr0]; rfl
  refine wpAny_execs_cons (ex_newlist (ds := [.list ((rowsF 0).map .int)]) rfK c3 (.inl rfl) (.cons (ev_comp' (X := X) (ds := upto 7) (p := fun d => match d with | .int i => (((cellsOf ns).getD i.toNat 0).fmod 2 == 1) | _ => false) (g := fun d => d) erow keepsOk cx_up Cx.taken
    (src_range (X := X) keepsOk cx_up hA (by rfl) (fun h c => (gd.up c.up).seesB (by rfl) (by rfl) (by rfl) (by simp)) (ev_int (X := X) keepsOk) (by decide) (by rfl)) (show (7 : Nat) ≤ sizeLine by decide) ⟨fun C v d sc hd => ?t1, fun C v d sc hd _ => ?e1⟩ (by rfl) (by decide) (by rfl) (by decide) (by rfl) (by intro _; rfl)) (upRd _) (by rfl) .nil) (show (1 : Nat) ≤ sizeLine by decide) fun r v1 s₄ hr hf pl rd c4 o4 f4 => ?_)
  case t1 =>
    obtain ⟨p, hp, rfl⟩ := upto_mem hd
    have hc : (cellsOf ns)[p]? = some ((cellsOf ns).getD p 0) := by
      rw [List.getD_eq_getElem?_getD, List.getElem?_eq_getElem (by rw [cl7]; exact hp)]; rfl
    exact tst_cmp (X := X) keepsOk ciUp (ev_bin keepsOk ciUp (ev_item (X := X) (i := (p : Int)) (xs := (cellsOf ns).map .int) keepsOk ciUp (ev_free (z := .dat (.list ((cellsOf ns).map .int))) keepsOk (fun h i => i.1) (by rfl) (by rfl) (by rfl) (by rfl) (by rfl) (by rfl)) (ev_it keepsOk (by rfl) sc (fun h i => i.2)) (by omega) (by omega) (by rw [Int.toNat_natCast, List.getElem?_map, hc]; rfl)) (ev_int (X := X) keepsOk) (upRd _) (op_modi keepsOk (by decide))) (ev_int (X := X) keepsOk) (upRd _) (op_eqi keepsOk) (by with_unfolding_all rfl)
  case e1 =>
    obtain ⟨p, hp, rfl⟩ := upto_mem hd
    exact ev_sc (X := X) (d := .int (p : Int)) (ev_it keepsOk (by rfl) sc (fun h i => i.2)) rfl
  have hnX : ¬ X r := fun x => by have := c3.tk r x; rw [hr] at this; cases this
  have f4' : Fm s s₄ := rfM.trans (rfM.trans (rfM.trans (.of_rest f1) (.of_rest f2)) (.of_rest f3)) (.of_rest f4)
  let ρf : Nat → List (Str × VS) := fun _ => [("rows", .val (.ref r)), ("pieces", .dat (.list ((piecesOf ks).map .str))), ("step", .dat (.int (stOf ns : Int)))]
  have c4' : Cx hb (fun b => X b ∨ b = r) (cEnv 10 L f cd) (ρf 0) s₄.heap := c4.sub (by
    intro p hp
    simp only [ρf, List.mem_cons, List.not_mem_nil, or_false] at hp
    rcases hp with rfl | rfl | rfl <;> rfl)
  have rd0 : RdL (fun b => X b ∨ b = r) s₄.heap v1.toList (rowsD rowsF 0) := rd
  show wpAny _ _ (execs (_ :: _) _) _ _ s₄
  refine wpAny_execs_cons (ex_for (X := fun b => X b ∨ b = r) (F := Fm) ρf (fun X' i s' => (∃ vs : Array Value, s'.heap.PlainList r vs ∧ RdL X' s'.heap vs.toList (rowsD rowsF i)) ∧ Fm s s') rfM (srcX_range (X := fun b => X b ∨ b = r) (n := stOf ns) mvOk cx_up Cx.taken hA (by rfl) (fun h c => (gd.up c.up).seesB (by rfl) (by rfl) (by rfl) (by simp)) (ev_var (z := .dat (.int (stOf ns : Int))) mvOk (fun _ c => c) (by rfl) (by rfl) (by decide)) (by omega) (by rfl)) c4' (by rfl) (fun X' s₅ hXX hnew k fm c => ⟨c, ⟨v1, pl.at fun o q => k r o q, rd0.to (fun b o _ q => k b o q) fun b o q x => (hnew b x).elim id fun e => (by rw [q] at e; cases e)⟩, rfM.trans f4' fm⟩) ?stab ?turn ?fin (by intro _; rfl))
  case stab =>
    rintro X' i s' h' tk ⟨⟨vs, p, q⟩, fm⟩ hXX hk
    exact ⟨⟨vs, p.at fun o z => hk r o hf (.inl (.inr rfl)) z, q.to (fun b o nx z => hk b o (fun x => nx (hXX b (.inl (fbX b x)))) (.inr nx) z) fun _ _ _ x => x⟩, rfM.trans fm (rfM.heap _ _ _)⟩
  case turn =>
    rintro X' i d s₅ E' hXX hi hd c5 ⟨⟨vs, p5, q5⟩, fm⟩
    rw [upto_len] at hi
    rw [upto_at hi] at hd
    cases hd
    refine wpAny_mono (turnB (rowsF := rowsF) (i := i) (r := r) (vs := vs) (cs := []) (P := piecesOf ks) (st := stOf ns) (by omega) ⟨hXX r (.inr rfl), hf⟩ (hturn i hi) rm hfr gd p5 q5 c5) (fun fl s₆ hm => ?_) (fun _ _ z => z)
    obtain ⟨rfl, c6, ⟨vs', p6, q6⟩, ex, sr6⟩ := hm
    exact ⟨rfl, c6, ⟨⟨vs', p6, q6⟩, rfM.trans fm (.of_rest sr6)⟩, fun b o nx q => ex b o (fun e => nx (.inr e)) (fun x => nx (.inl (fbX b x))) q⟩
  case fin =>
    rintro X' s₅ hXX c5 ⟨⟨vs, p5, q5⟩, fm⟩
    rw [upto_len] at q5
    have hyr : (ρf (upto (stOf ns)).length).lookup ("rows" : Str) = some (.val (.ref r)) := by rfl
    have c6 : Cx hb X (cEnv 10 L f cd) [("rows", .dat (.list (rowsD rowsF (stOf ns)))), ("pieces", .dat (.list ((piecesOf ks).map .str))), ("step", .dat (.int (stOf ns : Int)))] s₅.heap := cx_release (y := "rows") c5 fbX hnX hyr ⟨vs, p5, q5.to (fun _ _ _ z => z) fun b _ _ x => hXX b x⟩ (by
      intro q hq
      simp only [List.mem_cons, List.not_mem_nil, or_false] at hq
      rcases hq with rfl | rfl | rfl
      · exact .inl ⟨rfl, rfl⟩
      · exact .inr rfl
      · exact .inr rfl)
    show wpAny _ _ (execs (lawBody 5) _) _ _ s₅
    exact lawC hP tok ok fok h0 hst rm4 hfr gd c6 (by rfl) (by rfl) (by rfl) fun s₆ u6 f6 => hQ s₆ u6 (rfM.trans fm f6)
end
end Mine
end

/-! part P1 -/
section
open PySem PySem.W PySem.Spec PySem.Calls PyProof.Rows
set_option Elab.async false
set_option linter.unusedVariables false
namespace Mine

/-- a stretch without a mark: signs, and signs behind a backslash -/
inductive Quiet : List Nat → Prop
  | nil : Quiet []
  | one {c r} : c ≠ 92 → c ≠ 34 → Quiet r → Quiet (c :: r)
  | two {c r} : Quiet r → Quiet (92 :: c :: r)
theorem Quiet.app {q r : List Nat} (h : Quiet q) (h2 : Quiet r) : Quiet (q ++ r) := by
  induction h with
  | nil => exact h2
  | one a b _ ih => exact .one a b ih
  | two _ ih => exact .two ih

/-- marks and quiet stretches -/
abbrev Item := Option (List Nat)
def fl : List Item → List Nat
  | [] => []
  | none :: r => 34 :: fl r
  | some q :: r => q ++ fl r
theorem fl_app : ∀ a b : List Item, fl (a ++ b) = fl a ++ fl b
  | [], b => rfl
  | none :: r, b => by simp [fl, fl_app r b]
  | some q :: r, b => by simp [fl, fl_app r b]
abbrev GS := Bool × List Nat × List Nat
def gst : GS → Item → GS
  | (false, K, _), none => (true, K, [])
  | (true, K, _), none => (false, K, [])
  | (false, K, H), some q => (false, K ++ q, H)
  | (true, K, H), some q => (true, K, H ++ q)
def gout : GS → List Nat
  | (false, K, _) => K
  | (true, K, H) => K ++ 34 :: H

/-- how a place of the fold matches the machine -/
structure SG (x : Str) (k : Nat) (z : SS) (g : GS) : Prop where
  le : z.1 ≤ k
  off : g.1 = false → z.2.1 = none ∧ (cat z.2.2).cps.toList ++ ((x.cps.toList.drop z.1).take (k - z.1)) = g.2.1
  on : g.1 = true → ∃ q, z.2.1 = some q ∧ z.1 ≤ q ∧ q < k ∧ (cat z.2.2).cps.toList ++ ((x.cps.toList.drop z.1).take (q - z.1)) = g.2.1 ∧ (x.cps.toList.drop q).take (k - q) = 34 :: g.2.2

theorem take_more {l : List Nat} {a k n : Nat} (h : a ≤ k) : (l.drop a).take (k + n - a) = (l.drop a).take (k - a) ++ (l.drop k).take n := by
  have e : k + n - a = (k - a) + n := by omega
  rw [e, List.take_add, List.drop_drop]
  have e2 : a + (k - a) = k := by omega
  rw [e2]

theorem sstep_no {x : Str} {z : SS} {pu : Nat × Str} (h : pu.2 ≠ ⟨#[34]⟩) : sstep x z pu = z := by
  unfold sstep; rw [if_neg h]

theorem quiet_units {q : List Nat} (h : Quiet q) : ∀ (k : Nat) (r : List Nat), ∃ U, unitsB false k (q ++ r) = U ++ unitsB false (k + q.length) r ∧ ∀ u ∈ U, u.2 ≠ (⟨#[34]⟩ : Str) := by
  induction h with
  | nil => intro k r; exact ⟨[], by simp, by simp⟩
  | @one c r' h1 h2 _ ih =>
    intro k r
    obtain ⟨U, e, hU⟩ := ih (k + 1) r
    refine ⟨(k, ⟨#[c]⟩) :: U, ?_, ?_⟩
    · simp only [List.cons_append, unitsB, if_neg h1, e, List.length_cons]
      rw [show k + 1 + r'.length = k + (r'.length + 1) by omega]
    · intro u hu
      rcases List.mem_cons.mp hu with rfl | hu
      · intro e; apply h2; simpa using e
      · exact hU u hu
  | @two c r' _ ih =>
    intro k r
    obtain ⟨U, e, hU⟩ := ih (k + 2) r
    refine ⟨(k + 1, ⟨#[92, c]⟩) :: U, ?_, ?_⟩
    · simp only [List.cons_append, unitsB, if_true, e, List.length_cons]
      rw [show k + 2 + r'.length = k + (r'.length + 1 + 1) by omega]
    · intro u hu
      rcases List.mem_cons.mp hu with rfl | hu
      · intro e; simp at e
      · exact hU u hu
theorem fold_no {x : Str} : ∀ {U : List (Nat × Str)} {z : SS}, (∀ u ∈ U, u.2 ≠ (⟨#[34]⟩ : Str)) → U.foldl (sstep x) z = z
  | [], z, _ => rfl
  | u :: U, z, h => by
    rw [List.foldl_cons, sstep_no (h u (.head _)), fold_no fun u hu => h u (.tail _ hu)]

theorem SG.quiet {x : Str} {k : Nat} {z : SS} {g : GS} (h : SG x k z g) {q : List Nat} (e : (x.cps.toList.drop k).take q.length = q) : SG x (k + q.length) z (gst g (some q)) := by
  obtain ⟨b, K, H⟩ := g
  cases b with
  | false =>
    obtain ⟨h1, h2⟩ := h.off rfl
    refine ⟨Nat.le_trans h.le (Nat.le_add_right ..), fun _ => ⟨h1, ?_⟩, fun e => by cases e⟩
    rw [take_more h.le, e, ← List.append_assoc, h2]; rfl
  | true =>
    obtain ⟨q', h1, h2, h3, h4, h5⟩ := h.on rfl
    refine ⟨Nat.le_trans h.le (Nat.le_add_right ..), fun e => (by cases e), fun _ => ⟨q', h1, h2, by omega, h4, ?_⟩⟩
    rw [take_more (Nat.le_of_lt h3), e, h5]; rfl
theorem cat_snoc (l : List Str) (y : Str) : (cat (l ++ [y])).cps.toList = (cat l).cps.toList ++ y.cps.toList := by
  rw [cat_cps, cat_cps]; simp
theorem SG.quote {x : Str} {k : Nat} {z : SS} {g : GS} (h : SG x k z g) (e : (x.cps.toList.drop k).take 1 = [34]) : SG x (k + 1) (sstep x z (k, ⟨#[34]⟩)) (gst g none) := by
  obtain ⟨b, K, H⟩ := g
  obtain ⟨st, op, R⟩ := z
  have hle : st ≤ k := h.le
  cases b with
  | false =>
    obtain ⟨h1, h2⟩ := h.off rfl
    have h1 : op = none := h1
    subst h1
    refine ⟨Nat.le_succ_of_le hle, fun e => (by cases e), fun _ => ⟨k, rfl, hle, Nat.lt_succ_self _, h2, ?_⟩⟩
    rw [show k + 1 - k = 1 by omega, e]; rfl
  | true =>
    obtain ⟨q', h1, h2, h3, h4, h5⟩ := h.on rfl
    have h1 : op = some q' := h1
    subst h1
    refine ⟨Nat.le_refl _, fun _ => ⟨rfl, ?_⟩, fun e => by cases e⟩
    show (cat (if st ≠ q' then R ++ [slc x st q'] else R)).cps.toList ++ (x.cps.toList.drop (k + 1)).take (k + 1 - (k + 1)) = K
    rw [Nat.sub_self, List.take_zero, List.append_nil]
    have h4 : (cat R).cps.toList ++ ((x.cps.toList.drop st).take (q' - st)) = K := h4
    split
    · rw [cat_snoc, ← h4]; rfl
    · rename_i hn
      have hn : st = q' := Classical.not_not.mp hn
      subst hn
      rw [Nat.sub_self, List.take_zero, List.append_nil] at h4
      exact h4
theorem drop_fl {l a b : List Nat} {k : Nat} (h : l.drop k = a ++ b) : (l.drop k).take a.length = a ∧ l.drop (k + a.length) = b := by
  refine ⟨by rw [h]; simp, ?_⟩
  rw [← List.drop_drop, h]; simp

theorem SG.run {x : Str} {tl : List Nat} (ht : tl = [] ∨ tl = [92]) : ∀ (its : List Item) (k : Nat) (z : SS) (g : GS), (∀ q, some q ∈ its → Quiet q) → x.cps.toList.drop k = fl its ++ tl → SG x k z g →
    ∃ n, SG x n ((unitsB false k (fl its ++ tl)).foldl (sstep x) z) (its.foldl gst g) ∧ x.cps.toList.drop n = tl
  | [], k, z, g, _, e, h => by
    refine ⟨k, ?_, e⟩
    rcases ht with rfl | rfl
    · exact h
    · have : unitsB false k (fl [] ++ [92]) = [(k, ⟨#[92]⟩)] := by simp [fl, unitsB]
      rw [this, List.foldl_cons, sstep_no (by simp)]; exact h
  | none :: r, k, z, g, hq, e, h => by
    have e' : x.cps.toList.drop k = [34] ++ (fl r ++ tl) := e
    obtain ⟨e1, e2⟩ := drop_fl e'
    have hu : unitsB false k (fl (none :: r) ++ tl) = (k, ⟨#[34]⟩) :: unitsB false (k + 1) (fl r ++ tl) := by simp [fl, unitsB]
    rw [hu, List.foldl_cons, List.foldl_cons]
    exact SG.run ht r (k + 1) _ _ (fun q m => hq q (.tail _ m)) e2 (h.quote e1)
  | some q :: r, k, z, g, hq, e, h => by
    have e' : x.cps.toList.drop k = q ++ (fl r ++ tl) := by rw [e]; simp [fl]
    obtain ⟨e1, e2⟩ := drop_fl e'
    obtain ⟨U, hu, hU⟩ := quiet_units (hq q (.head _)) k (fl r ++ tl)
    have hu' : unitsB false k (fl (some q :: r) ++ tl) = U ++ unitsB false (k + q.length) (fl r ++ tl) := by rw [← hu]; simp [fl]
    rw [hu', List.foldl_append, fold_no hU, List.foldl_cons]
    exact SG.run ht r _ _ _ (fun q m => hq q (.tail _ m)) e2 (h.quiet e1)

theorem gst_quiet : ∀ (its : List Item) (K H : List Nat), none ∉ its → its.foldl gst (false, K, H) = (false, K ++ fl its, H)
  | [], K, H, _ => by simp [fl]
  | none :: r, K, H, h => absurd (List.mem_cons_self ..) h
  | some q :: r, K, H, h => by
    rw [List.foldl_cons, show gst (false, K, H) (some q) = (false, K ++ q, H) from rfl, gst_quiet r _ _ fun m => h (.tail _ m)]
    simp [fl, List.append_assoc]
theorem mem_fl : ∀ (its : List Item), none ∈ its → 34 ∈ fl its
  | none :: r, _ => by simp [fl]
  | some q :: r, h => by
    have : none ∈ r := by simpa using h
    simp [fl, mem_fl r this]

/-- what is left of a text that is laid out in items -/
theorem strip_items {x : Str} {its : List Item} {tl : List Nat} (ht : tl = [] ∨ tl = [92]) (hq : ∀ q, some q ∈ its → Quiet q) (e : x.cps.toList = fl its ++ tl) : (strip x).cps.toList = gout (its.foldl gst (false, [], [])) ++ tl := by
  unfold strip
  split
  · obtain ⟨n, hs, hn⟩ := SG.run ht its 0 (0, none, []) (false, [], []) hq (by simpa using e) ⟨Nat.le_refl _, fun _ => ⟨rfl, by simp [cat]⟩, fun e => by cases e⟩
    unfold sfold unitsOf
    rw [e]
    obtain ⟨z, hz⟩ : ∃ z, z = List.foldl (sstep x) ((0, none, []) : SS) (unitsB false 0 (fl its ++ tl)) := ⟨_, rfl⟩
    obtain ⟨g, hg⟩ : ∃ g, g = its.foldl gst (false, [], []) := ⟨_, rfl⟩
    rw [← hz, ← hg] at hs ⊢
    have hout : (cat (sout x z)).cps.toList = (cat z.2.2).cps.toList ++ x.cps.toList.drop z.1 := by
      unfold sout
      split
      · rw [cat_snoc]; congr 1
        show (x.cps.toList.drop z.1).take (x.length - z.1) = _
        apply List.take_of_length_le
        simp [Str.length]
      · rename_i hn
        rw [List.drop_eq_nil_of_le (by simpa [Str.length] using hn), List.append_nil]
    have cut : ∀ a, a ≤ n → x.cps.toList.drop a = (x.cps.toList.drop a).take (n - a) ++ tl := fun a ha => by
      conv => lhs; rw [← List.take_append_drop (n - a) (x.cps.toList.drop a)]
      rw [List.drop_drop, show a + (n - a) = n by omega, hn]
    rw [hout]
    obtain ⟨b, K, H⟩ := g
    cases b with
    | false =>
      obtain ⟨_, h2⟩ := hs.off rfl
      rw [cut _ hs.le, ← List.append_assoc, h2]; rfl
    | true =>
      obtain ⟨q, h1, h2, h3, h4, h5⟩ := hs.on rfl
      have c1 : x.cps.toList.drop z.1 = (x.cps.toList.drop z.1).take (q - z.1) ++ x.cps.toList.drop q := by
        conv => lhs; rw [← List.take_append_drop (q - z.1) (x.cps.toList.drop z.1)]
        rw [List.drop_drop, show z.1 + (q - z.1) = q by omega]
      rw [c1, cut q (Nat.le_of_lt h3), h5, ← List.append_assoc, h4]
      show _ = (K ++ 34 :: H) ++ tl
      simp
  · rename_i hn
    rw [e] at hn ⊢
    rw [gst_quiet _ _ _ fun m => hn (List.mem_append_left _ (mem_fl _ m))]
    simp [gout]
end Mine
end

/-! part P2 -/
section
open PySem PySem.W PySem.Spec PySem.Calls PyProof.Rows
set_option Elab.async false
set_option linter.unusedVariables false
namespace Mine

theorem rise_nodup {l : List Int} (h : l.Pairwise (· < ·)) : l.Nodup := h.imp fun hab e => by omega
theorem rise_ext {l m : List Int} (h : l.Pairwise (· < ·)) (h2 : m.Pairwise (· < ·)) (e : ∀ z, z ∈ l ↔ z ∈ m) : l = m :=
  List.Perm.eq_of_pairwise (le := (· < ·)) (fun a b _ _ x y => absurd (Int.lt_trans x y) (Int.lt_irrefl _)) h h2 ((List.perm_ext_iff_of_nodup (rise_nodup h) (rise_nodup h2)).mpr e)
theorem dw_ne {x : Int} : ∀ {l : List Int}, (∀ z ∈ l, z ≠ x) → l.dropWhile (· == x) = l
  | [], _ => rfl
  | a :: l, h => by
    have : (a == x) = false := beq_eq_false_iff_ne.mpr (h a (.head _))
    rw [List.dropWhile_cons, this]; rfl
theorem dw_rep {x : Int} {r : List Int} (h : ∀ z ∈ r, z ≠ x) : ∀ k, (List.replicate k x ++ r).dropWhile (· == x) = r
  | 0 => by simpa using dw_ne h
  | k + 1 => by
    rw [List.replicate_succ, List.cons_append, List.dropWhile_cons]
    simp only [beq_self_eq_true, if_true]
    exact dw_rep h k
/-- every item told k + 1 times -/
def sp (k : Nat) (l : List Int) : List Int := l.flatMap fun x => List.replicate (k + 1) x
theorem sp_cons (k : Nat) (x : Int) (l : List Int) : sp k (x :: l) = x :: (List.replicate k x ++ sp k l) := by
  simp [sp, List.replicate_succ]
theorem sp_mem {k : Nat} {l : List Int} {z : Int} : z ∈ sp k l ↔ z ∈ l := by
  simp [sp]
theorem minus_nil (m : List Int) : minus [] m = [] := rfl
theorem minus_by_nil (m : List Int) : minus m [] = m := by simp [minus]
theorem minus_skip {x : Int} {l m : List Int} (h : ∀ z ∈ l, z ≠ x) : minus l (x :: m) = minus l m := by
  unfold minus
  refine List.filter_congr fun z hz => ?_
  rw [List.contains_cons, beq_eq_false_iff_ne.mpr (h z hz), Bool.false_or]
theorem minus_keep {x : Int} {l m : List Int} (h : x ∉ m) : minus (x :: l) m = x :: minus l m := by
  unfold minus
  rw [List.filter_cons]
  simp [h]
theorem minus_drop {x : Int} {l m : List Int} (h : x ∈ m) : minus (x :: l) m = minus l m := by
  unfold minus
  rw [List.filter_cons]
  simp [h]
theorem rise_ne {x : Int} {l : List Int} (h : (x :: l).Pairwise (· < ·)) : ∀ z ∈ l, z ≠ x := fun z hz e => by
  have := (List.pairwise_cons.mp h).1 z hz
  omega
theorem rise_lt {x y : Int} {l : List Int} (h : (y :: l).Pairwise (· < ·)) (hx : x < y) : ∀ z ∈ y :: l, z ≠ x := fun z hz e => by
  rcases List.mem_cons.mp hz with rfl | hz
  · omega
  · have := (List.pairwise_cons.mp h).1 z hz
    omega

/-- the difference of two rising lists -/
theorem sld_rise : ∀ (n : Nat) (l m : List Int), l.length + m.length ≤ n → l.Pairwise (· < ·) → m.Pairwise (· < ·) → Sld l m (minus l m) (minus m l)
  | _, [], m, _, _, _ => by rw [minus_nil, minus_by_nil]; exact .nilL
  | _, x :: l, [], _, _, _ => by rw [minus_nil, minus_by_nil]; exact .nilR
  | 0, x :: l, y :: m, h, _, _ => by simp at h
  | n + 1, x :: l, y :: m, h, h1, h2 => by
    have h1' := (List.pairwise_cons.mp h1).2
    have h2' := (List.pairwise_cons.mp h2).2
    simp only [List.length_cons] at h
    rcases Int.lt_trichotomy x y with c | c | c
    · rw [minus_keep fun e => rise_lt h2 c x e rfl, minus_skip (rise_lt h2 c)]
      refine .lt c ?_
      rw [dw_ne (rise_ne h1)]
      exact sld_rise n l (y :: m) (by simp only [List.length_cons]; omega) h1' h2
    · subst c
      rw [minus_drop (List.mem_cons_self ..), minus_drop (List.mem_cons_self ..), minus_skip (rise_ne h1), minus_skip (rise_ne h2)]
      refine .eq ?_
      rw [dw_ne (rise_ne h1), dw_ne (rise_ne h2)]
      exact sld_rise n l m (by omega) h1' h2'
    · rw [minus_keep fun e => rise_lt h1 c y e rfl, minus_skip (rise_lt h1 c)]
      refine .gt c ?_
      rw [dw_ne (rise_ne h2)]
      exact sld_rise n (x :: l) m (by simp only [List.length_cons]; omega) h1 h2'

theorem dw_sp {k : Nat} {x : Int} {l : List Int} (h : (x :: l).Pairwise (· < ·)) (hx : x < 99) : (List.replicate k x ++ sp k l ++ [99]).dropWhile (· == x) = sp k l ++ [99] := by
  rw [List.append_assoc]
  refine dw_rep (fun z hz => ?_) k
  rcases List.mem_append.mp hz with hz | hz
  · exact rise_ne h z (sp_mem.mp hz)
  · rw [List.mem_singleton.mp hz]; omega
/-- the same with each item told more than once, and a like last number behind both -/
theorem sld_sp (a b : Nat) : ∀ (n : Nat) (l m : List Int), l.length + m.length ≤ n → l.Pairwise (· < ·) → m.Pairwise (· < ·) → (∀ z ∈ l, z < 99) → (∀ z ∈ m, z < 99) → Sld (sp a l ++ [99]) (sp b m ++ [99]) (minus l m) (minus m l)
  | _, [], [], _, _, _, _, _ => .eq .nilL
  | 0, x :: l, m, h, _, _, _, _ => by simp at h
  | 0, [], y :: m, h, _, _, _, _ => by simp at h
  | n + 1, x :: l, [], h, h1, h2, l1, l2 => by
    have h1' := (List.pairwise_cons.mp h1).2
    have c := l1 x (.head _)
    rw [minus_keep (by simp), minus_nil, sp_cons]
    refine Sld.lt (xs := List.replicate a x ++ sp a l ++ [99]) (y := 99) (ys := []) c ?_
    rw [dw_sp h1 c]
    have := sld_sp a b n l [] (by simp only [List.length_cons] at h ⊢; omega) h1' h2 (fun z hz => l1 z (.tail _ hz)) l2
    rwa [minus_nil] at this
  | n + 1, [], y :: m, h, h1, h2, l1, l2 => by
    have h2' := (List.pairwise_cons.mp h2).2
    have c := l2 y (.head _)
    rw [minus_keep (l := m) (by simp), minus_nil, sp_cons]
    refine Sld.gt (ys := List.replicate b y ++ sp b m ++ [99]) (x := 99) (xs := []) c ?_
    rw [dw_sp h2 c]
    have := sld_sp a b n [] m (by simp only [List.length_cons] at h ⊢; omega) h1 h2' l1 (fun z hz => l2 z (.tail _ hz))
    rwa [minus_nil] at this
  | n + 1, x :: l, y :: m, h, h1, h2, l1, l2 => by
    have h1' := (List.pairwise_cons.mp h1).2
    have h2' := (List.pairwise_cons.mp h2).2
    simp only [List.length_cons] at h
    have l1' : ∀ z ∈ l, z < 99 := fun z hz => l1 z (.tail _ hz)
    have l2' : ∀ z ∈ m, z < 99 := fun z hz => l2 z (.tail _ hz)
    rw [sp_cons, sp_cons]
    rcases Int.lt_trichotomy x y with c | c | c
    · rw [minus_keep fun e => rise_lt h2 c x e rfl, minus_skip (rise_lt h2 c)]
      refine Sld.lt (xs := List.replicate a x ++ sp a l ++ [99]) (ys := List.replicate b y ++ sp b m ++ [99]) c ?_
      rw [dw_sp h1 (l1 x (.head _))]
      have := sld_sp a b n l (y :: m) (by simp only [List.length_cons]; omega) h1' h2 l1' l2
      rwa [sp_cons] at this
    · subst c
      rw [minus_drop (List.mem_cons_self ..), minus_drop (List.mem_cons_self ..), minus_skip (rise_ne h1), minus_skip (rise_ne h2)]
      refine Sld.eq (xs := List.replicate a x ++ sp a l ++ [99]) (ys := List.replicate b x ++ sp b m ++ [99]) ?_
      rw [dw_sp h1 (l1 x (.head _)), dw_sp h2 (l2 x (.head _))]
      exact sld_sp a b n l m (by omega) h1' h2' l1' l2'
    · rw [minus_keep fun e => rise_lt h1 c y e rfl, minus_skip (rise_lt h1 c)]
      refine Sld.gt (xs := List.replicate a x ++ sp a l ++ [99]) (ys := List.replicate b y ++ sp b m ++ [99]) c ?_
      rw [dw_sp h2 (l2 y (.head _))]
      have := sld_sp a b n (x :: l) m (by simp only [List.length_cons]; omega) h1 h2' l1 l2'
      rwa [sp_cons] at this

theorem flat_cons (x : Int) (l : List Int) : ∀ n, (List.replicate n (x :: l)).flatten.Perm (List.replicate n x ++ (List.replicate n l).flatten)
  | 0 => by simp
  | n + 1 => by
    rw [List.replicate_succ, List.flatten_cons, List.replicate_succ, List.replicate_succ, List.flatten_cons, List.cons_append, List.cons_append]
    refine .cons _ (((flat_cons x l n).append_left l).trans ?_)
    rw [← List.append_assoc, ← List.append_assoc]
    exact List.perm_append_comm.append_right _
theorem sp_perm (k : Nat) : ∀ l : List Int, (sp k l).Perm (List.replicate (k + 1) l).flatten
  | [] => by simp [sp]
  | x :: l => by
    rw [sp_cons]
    refine .trans ?_ (flat_cons x l (k + 1)).symm
    rw [List.replicate_succ, List.cons_append]
    exact .cons _ ((sp_perm k l).append_left _)
theorem sp_rise (k : Nat) : ∀ {l : List Int}, l.Pairwise (· < ·) → (sp k l).Pairwise (· ≤ ·)
  | [], _ => by simp [sp]
  | x :: l, h => by
    obtain ⟨h1, h2⟩ := List.pairwise_cons.mp h
    have e : sp k (x :: l) = List.replicate (k + 1) x ++ sp k l := by simp [sp]
    rw [e, List.pairwise_append]
    refine ⟨List.pairwise_replicate.mpr (.inr (Int.le_refl _)), sp_rise k h2, fun a ha b hb => ?_⟩
    rw [List.eq_of_mem_replicate ha]
    exact Int.le_of_lt (h1 b (sp_mem.mp hb))

/-! rows as sets of places -/
def rowOf (f : Nat → Bool) : List Int := ((List.range 12).filter f).map fun p : Nat => (p : Int)
def dl (k : Nat) (f : Nat → Bool) (n : Nat) : Bool := Bool.xor (f n) (decide (k ≤ n) && f (n - k))
def Bd (k : Nat) (f : Nat → Bool) : Prop := ∀ n, f n = true → n + k < 12
theorem rowOf_rise (f : Nat → Bool) : (rowOf f).Pairwise (· < ·) := by
  unfold rowOf
  rw [List.pairwise_map]
  exact (List.pairwise_lt_range.filter f).imp fun h => Int.ofNat_lt.mpr h
theorem rowOf_mem {f : Nat → Bool} {z : Int} : z ∈ rowOf f ↔ ∃ n : Nat, n < 12 ∧ f n = true ∧ (n : Int) = z := by
  simp [rowOf, and_assoc]
theorem rowOf_len (f : Nat → Bool) : (rowOf f).length ≤ 12 := by
  unfold rowOf
  rw [List.length_map]
  exact Nat.le_trans (List.length_filter_le ..) (by simp)
theorem rowOf_nat {f : Nat → Bool} {k n : Nat} (b : Bd k f) : (n : Int) ∈ rowOf f ↔ f n = true := by
  rw [rowOf_mem]
  refine ⟨fun ⟨m, _, h, e⟩ => ?_, fun h => ⟨n, by have := b n h; omega, h, rfl⟩⟩
  have : m = n := Int.ofNat_inj.mp e
  exact this ▸ h
theorem Bd.dl {k : Nat} {f : Nat → Bool} (b : Bd k f) : Bd 0 (dl k f) := fun n h => by
  unfold Mine.dl at h
  by_cases c : f n = true
  · have := b n c; omega
  · rw [Bool.eq_false_iff.mpr c, Bool.false_xor, Bool.and_eq_true] at h
    have := b _ h.2
    have := of_decide_eq_true h.1
    omega
theorem moved_mem {f : Nat → Bool} {k n : Nat} (b : Bd k f) : (n : Int) ∈ (rowOf f).map (· + (k : Int)) ↔ (decide (k ≤ n) && f (n - k)) = true := by
  rw [List.mem_map, Bool.and_eq_true, decide_eq_true_iff]
  constructor
  · rintro ⟨z, hz, e⟩
    obtain ⟨m, _, h, rfl⟩ := rowOf_mem.mp hz
    have : n = m + k := by omega
    subst this
    exact ⟨Nat.le_add_left .., by rw [Nat.add_sub_cancel]; exact h⟩
  · rintro ⟨h1, h2⟩
    exact ⟨((n - k : Nat) : Int), (rowOf_nat b).mpr h2, by omega⟩
theorem moved_rise (f : Nat → Bool) (k : Int) : ((rowOf f).map (· + k)).Pairwise (· < ·) := by
  rw [List.pairwise_map]
  exact (rowOf_rise f).imp fun h => by omega
theorem rowOf_pos {f : Nat → Bool} : ∀ z ∈ rowOf f, 0 ≤ z := fun z hz => by
  obtain ⟨n, _, _, rfl⟩ := rowOf_mem.mp hz
  exact Int.natCast_nonneg _
theorem moved_pos {f : Nat → Bool} {k : Nat} : ∀ z ∈ (rowOf f).map (· + (k : Int)), 0 ≤ z := fun z hz => by
  obtain ⟨y, hy, rfl⟩ := List.mem_map.mp hz
  have := rowOf_pos y hy
  omega
theorem ext_nat {l m : List Int} (h : ∀ z ∈ l, 0 ≤ z) (h2 : ∀ z ∈ m, 0 ≤ z) (e : ∀ n : Nat, (n : Int) ∈ l ↔ (n : Int) ∈ m) : ∀ z, z ∈ l ↔ z ∈ m := fun z => by
  by_cases c : 0 ≤ z
  · obtain ⟨n, rfl⟩ := Int.eq_ofNat_of_zero_le c
    exact e n
  · exact ⟨fun x => absurd (h z x) c, fun x => absurd (h2 z x) c⟩
theorem minus_mem {l m : List Int} {z : Int} : z ∈ minus l m ↔ z ∈ l ∧ z ∉ m := by simp [minus]
theorem both_mem {l m : List Int} {z : Int} : z ∈ both m l ↔ z ∈ m ∧ z ∈ l := by simp [both]
theorem minus_rise {l m : List Int} (h : l.Pairwise (· < ·)) : (minus l m).Pairwise (· < ·) := h.filter _
theorem both_rise {l m : List Int} (h : m.Pairwise (· < ·)) : (both m l).Pairwise (· < ·) := h.filter _
theorem rowOf_lt {f : Nat → Bool} {z : Int} (h : z ∈ rowOf f) : z < 12 := by
  obtain ⟨n, hn, _, rfl⟩ := rowOf_mem.mp h
  omega

theorem up1_is (l : List Int) : up1 l = l.map (· + ((1 : Nat) : Int)) := rfl
theorem turnOk_of {f : Nat → Bool} (b : Bd 1 f) : TurnOk (rowOf f) (rowOf (dl 1 f)) where
  len := rowOf_len f
  s1 := sld_rise _ _ _ (Nat.le_refl _) (rowOf_rise f) (moved_rise f 1)
  s2 := sld_rise _ _ _ (Nat.le_refl _) (moved_rise f 1) (rowOf_rise f)
  s3 := ⟨sp 2 (rowOf f), sp 4 (up1 (rowOf f)), sp_perm 2 _, sp_rise 2 (rowOf_rise f), sp_perm 4 _, sp_rise 4 (moved_rise f 1),
    sld_sp 2 4 _ _ _ (Nat.le_refl _) (rowOf_rise f) (moved_rise f 1) (fun z hz => by have := rowOf_lt hz; omega) (fun z hz => by
      obtain ⟨y, hy, rfl⟩ := List.mem_map.mp hz
      have := rowOf_lt hy; omega)⟩
  r := by
    refine ⟨?_, (rowOf_rise _).imp Int.le_of_lt⟩
    refine (List.perm_ext_iff_of_nodup (rise_nodup (rowOf_rise _)) ?_).mpr (ext_nat rowOf_pos ?_ fun n => ?_)
    · refine List.nodup_append.mpr ⟨rise_nodup (minus_rise (rowOf_rise f)), rise_nodup (minus_rise (moved_rise f 1)), fun a ha c hc e => ?_⟩
      subst e
      exact (minus_mem.mp ha).2 (minus_mem.mp hc).1
    · intro z hz
      rcases List.mem_append.mp hz with hz | hz
      · exact rowOf_pos z (minus_mem.mp hz).1
      · exact moved_pos (k := 1) z (minus_mem.mp hz).1
    · rw [List.mem_append, minus_mem, minus_mem, up1_is, rowOf_nat b.dl, rowOf_nat b, moved_mem b]
      unfold dl
      cases f n <;> cases (decide (1 ≤ n) && f (n - 1)) <;> simp
theorem firstOk_of {f : Nat → Bool} {k : Nat} (b : Bd k f) : FirstOk (rowOf f) (rowOf (dl k f)) k where
  s1 := by
    have e1 : both (rowOf (dl k f)) (rowOf f) = minus (rowOf f) ((rowOf f).map (· + (k : Int))) := by
      refine rise_ext (both_rise (rowOf_rise _)) (minus_rise (rowOf_rise _)) (ext_nat (fun z h => rowOf_pos z (both_mem.mp h).1) (fun z h => rowOf_pos z (minus_mem.mp h).1) fun n => ?_)
      rw [both_mem, minus_mem, rowOf_nat b.dl, rowOf_nat b, moved_mem b]
      unfold dl
      cases f n <;> cases (decide (k ≤ n) && f (n - k)) <;> simp
    have e2 : minus (rowOf (dl k f)) (rowOf f) = minus ((rowOf f).map (· + (k : Int))) (rowOf f) := by
      refine rise_ext (minus_rise (rowOf_rise _)) (minus_rise (moved_rise _ _)) (ext_nat (fun z h => rowOf_pos z (minus_mem.mp h).1) (fun z h => moved_pos z (minus_mem.mp h).1) fun n => ?_)
      rw [minus_mem, minus_mem, rowOf_nat b.dl, rowOf_nat b, moved_mem b]
      unfold dl
      cases f n <;> cases (decide (k ≤ n) && f (n - k)) <;> simp
    rw [e1, e2]
    exact sld_rise _ _ _ (Nat.le_refl _) (rowOf_rise f) (moved_rise f _)
  ll := rowOf_len f
  ml := rowOf_len _
  tl := ⟨sp 1 (rowOf (dl k f)), by have := sp_perm 1 (rowOf (dl k f)); simpa [List.replicate_succ] using this, sp_rise 1 (rowOf_rise _)⟩

/-- the turns' rows -/
def rowB (f : Nat → Bool) : Nat → Nat → Bool
  | 0 => f
  | i + 1 => dl 1 (rowB f i)
theorem dl_dl (k : Nat) (f : Nat → Bool) : dl k (dl k f) = dl (k + k) f := by
  funext n
  unfold dl
  by_cases h : k ≤ n
  · by_cases h2 : k ≤ n - k
    · have h3 : k + k ≤ n := by omega
      rw [decide_eq_true h, decide_eq_true h2, decide_eq_true h3, Nat.sub_sub]
      cases f n <;> cases f (n - k) <;> cases f (n - (k + k)) <;> rfl
    · have h3 : ¬ k + k ≤ n := by omega
      rw [decide_eq_true h, decide_eq_false h2, decide_eq_false h3]
      cases f n <;> cases f (n - k) <;> rfl
  · have h3 : ¬ k + k ≤ n := by omega
    rw [decide_eq_false h, decide_eq_false h3]
    cases f n <;> rfl
theorem rowB_two (f : Nat → Bool) : rowB f 2 = dl 2 f := dl_dl 1 f
theorem rowB_four (f : Nat → Bool) : rowB f 4 = dl 4 f := by
  show dl 1 (dl 1 (dl 1 (dl 1 f))) = _
  rw [dl_dl, dl_dl, dl_dl]
theorem rowB_bd {f : Nat → Bool} (h : ∀ n, f n = true → n < 7) : ∀ i n, rowB f i n = true → n < 7 + i
  | 0, n, e => h n e
  | i + 1, n, e => by
    have e : Bool.xor (rowB f i n) (decide (1 ≤ n) && rowB f i (n - 1)) = true := e
    by_cases c : rowB f i n = true
    · have := rowB_bd h i n c; omega
    · rw [Bool.eq_false_iff.mpr c, Bool.false_xor, Bool.and_eq_true] at e
      have := rowB_bd h i _ e.2
      omega
end Mine
end

/-! part P3 -/
section
open PySem PySem.W PySem.Spec PySem.Calls PyProof.Rows
set_option Elab.async false
set_option linter.unusedVariables false
namespace Mine

theorem str_ext {x y : Str} (h : x.cps.toList = y.cps.toList) : x = y := by
  obtain ⟨⟨a⟩⟩ := x
  obtain ⟨⟨b⟩⟩ := y
  have h : a = b := h
  subst h; rfl
theorem app_cps (x y : Str) : (x ++ y).cps.toList = x.cps.toList ++ y.cps.toList := by
  show (x.cps ++ y.cps).toList = _
  simp
theorem tails_at : ∀ k, k < 4 → (tails.getD k "").cps.toList = [] ∨ (tails.getD k "").cps.toList = [92, 34, 92, 122] ∨ (tails.getD k "").cps.toList = [92, 92] ∨ (tails.getD k "").cps.toList = [92, 92, 92, 34] := by decide +kernel
theorem emp_cps : emp.cps.toList = [] := by decide +kernel
theorem spc_cps : spc.cps.toList = [32] := by decide +kernel
theorem quo_cps : quo.cps.toList = [34] := by decide +kernel
theorem bsl_cps : bsl.cps.toList = [92] := by decide +kernel
theorem bsl2_cps : bsl2.cps.toList = [92, 92] := by decide +kernel

section
variable {ks : List Nat}
theorem ks_at (h : ∀ k ∈ ks, k < 4) (p : Nat) : ks.getD p 0 < 4 := by
  rw [List.getD_eq_getElem?_getD]
  cases e : ks[p]? with
  | none => decide
  | some k => exact h k (List.mem_of_getElem? e)
/-- a piece's signs -/
theorem piece_cps (h : ∀ k ∈ ks, k < 4) (p : Nat) : (pieceOf ks p).cps.toList = [97 + p] ∨ (pieceOf ks p).cps.toList = [97 + p, 92, 34, 92, 122] ∨ (pieceOf ks p).cps.toList = [97 + p, 92, 92] ∨ (pieceOf ks p).cps.toList = [97 + p, 92, 92, 92, 34] := by
  unfold pieceOf
  rw [app_cps]
  rcases tails_at _ (ks_at h p) with e | e | e | e <;> rw [e] <;> simp
theorem pieces_at {p : Nat} (hp : p < 12) : (piecesOf ks).getD p emp = pieceOf ks p := by
  simp [piecesOf, hp]
theorem piece_mem {x : Str} (h : x ∈ piecesOf ks) : ∃ p, p < 12 ∧ x = pieceOf ks p := by
  obtain ⟨p, hp, rfl⟩ := List.mem_map.mp h
  exact ⟨p, List.mem_range.mp hp, rfl⟩
theorem piece_quiet (h : ∀ k ∈ ks, k < 4) {p : Nat} (hp : p < 12) : Quiet (pieceOf ks p).cps.toList := by
  have n1 : 97 + p ≠ 92 := by omega
  have n2 : 97 + p ≠ 34 := by omega
  rcases piece_cps h p with e | e | e | e <;> rw [e] <;> refine .one n1 n2 ?_
  · exact .nil
  · exact .two (.two .nil)
  · exact .two .nil
  · exact .two (.two .nil)
theorem letter_mem (h : ∀ k ∈ ks, k < 4) {p q : Nat} (hp : p < 12) (hq : q < 12) : 97 + q ∈ (pieceOf ks p).cps.toList ↔ q = p := by
  rcases piece_cps h p with e | e | e | e <;> rw [e] <;> simp <;> omega
theorem pieceOk (h : ∀ k ∈ ks, k < 4) : PieceOk (piecesOf ks) where
  pl := by simp [piecesOf]
  asc := fun x hx => by
    obtain ⟨p, hp, rfl⟩ := piece_mem hx
    rw [← Array.all_toList]
    rcases piece_cps h p with e | e | e | e <;> rw [e] <;> simp <;> omega
  len := fun x hx => by
    obtain ⟨p, hp, rfl⟩ := piece_mem hx
    have e : (pieceOf ks p).length = (pieceOf ks p).cps.toList.length := by simp [Str.length]
    rw [e]
    rcases piece_cps h p with e | e | e | e <;> rw [e] <;> simp

/-! the readings -/
def pr (f : Nat → Bool) : Nat → Bool
  | 0 => false
  | n + 1 => f n
def itm (f : Nat → Bool) (P : List Str) (n : Nat) : List Item := (if dl 1 f n then [none] else []) ++ [some (P.getD n emp).cps.toList]
def itms (f : Nat → Bool) (P : List Str) : Nat → List Item
  | 0 => []
  | n + 1 => itms f P n ++ itm f P n
theorem dl_pr (f : Nat → Bool) (n : Nat) : dl 1 f n = Bool.xor (f n) (pr f n) := by
  unfold dl
  cases n with
  | zero => simp [pr]
  | succ n => simp [pr]
def picks (g : Nat → Bool) (P : List Str) (n : Nat) : List Nat := (cat (((List.range n).filter g).map fun p => P.getD p emp)).cps.toList
theorem picks_succ (g : Nat → Bool) (P : List Str) (n : Nat) : picks g P (n + 1) = picks g P n ++ (if g n then (P.getD n emp).cps.toList else []) := by
  unfold picks
  rw [List.range_succ, List.filter_append, List.map_append]
  cases h : g n with
  | true => simp [h, cat_snoc]
  | false => simp [h]
/-- read from the first sign on -/
theorem run_plain (f : Nat → Bool) (P : List Str) : ∀ n, ∃ H, (itms f P n).foldl gst (false, [], []) = (pr f n, picks (fun p => !f p) P n, H)
  | 0 => ⟨[], rfl⟩
  | n + 1 => by
    obtain ⟨H, ih⟩ := run_plain f P n
    unfold itms
    rw [List.foldl_append, ih, picks_succ]
    unfold itm
    rw [dl_pr]
    show ∃ H, _ = (f n, _, H)
    cases f n <;> cases pr f n <;> simp [gst]
def lst (f : Nat → Bool) : Nat → Nat
  | 0 => 0
  | n + 1 => if dl 1 f n then n else lst f n
theorem lst_le (f : Nat → Bool) : ∀ n, lst f n ≤ n
  | 0 => Nat.le_refl _
  | n + 1 => by
    unfold lst
    split
    · exact Nat.le_succ _
    · exact Nat.le_succ_of_le (lst_le f n)
def mid (P : List Str) (a n : Nat) : List Nat := (cat ((P.take n).drop a)).cps.toList
theorem mid_succ {P : List Str} {a n : Nat} (h : a ≤ n) (hn : n < P.length) : mid P a (n + 1) = mid P a n ++ (P.getD n emp).cps.toList := by
  unfold mid
  have e : P.take (n + 1) = P.take n ++ [P.getD n emp] := by
    rw [List.take_succ, List.getD_eq_getElem?_getD, List.getElem?_eq_getElem hn]; rfl
  rw [e, List.drop_append_of_le_length (by simp; omega), cat_snoc]
theorem mid_self {P : List Str} {n : Nat} : mid P n n = [] := by
  unfold mid
  rw [List.drop_eq_nil_of_le (by simp; omega)]; rfl
/-- read with one mark more ahead -/
theorem run_mark (f : Nat → Bool) (P : List Str) : ∀ n, n ≤ P.length → ∃ H, (itms f P n).foldl gst (true, [], []) = (!pr f n, picks f P n, H) ∧ (pr f n = false → H = mid P (lst f n) n)
  | 0, _ => ⟨[], rfl, fun _ => by rw [show lst f 0 = 0 from rfl, mid_self]⟩
  | n + 1, hn => by
    obtain ⟨H, ih, hH⟩ := run_mark f P n (by omega)
    unfold itms
    rw [List.foldl_append, ih, picks_succ]
    unfold itm lst
    rw [dl_pr]
    show ∃ H, _ = (!f n, _, H) ∧ (f n = false → _)
    cases h1 : f n <;> cases h2 : pr f n
    · refine ⟨H ++ (P.getD n emp).cps.toList, by simp [gst], fun _ => ?_⟩
      rw [hH h2]
      simp only [Bool.false_xor, Bool.false_eq_true, if_false]
      exact (mid_succ (lst_le f n) (by omega)).symm
    · refine ⟨(P.getD n emp).cps.toList, by simp [gst], fun _ => ?_⟩
      simp only [Bool.false_xor, if_true]
      rw [mid_succ (Nat.le_refl _) (by omega), mid_self]; rfl
    · exact ⟨[], by simp [gst], fun e => by cases e⟩
    · exact ⟨H, by simp [gst], fun e => by cases e⟩

theorem rowOf_has {f : Nat → Bool} {n : Nat} (hn : n < 12) : (rowOf f).contains (n : Int) = f n := by
  cases h : f n with
  | true => exact List.contains_iff_mem.mpr (rowOf_mem.mpr ⟨n, hn, h, rfl⟩)
  | false =>
    refine Bool.eq_false_iff.mpr fun e => ?_
    obtain ⟨m, _, h2, e⟩ := rowOf_mem.mp (List.contains_iff_mem.mp e)
    have : m = n := Int.ofNat_inj.mp e
    rw [this, h] at h2; cases h2
theorem itms_fl (f : Nat → Bool) (P : List Str) : ∀ n, n ≤ 12 → fl (itms f P n) = (cat ((List.range n).map fun p : Nat => (if (rowOf (dl 1 f)).contains (p : Int) then quo else emp) ++ P.getD p emp)).cps.toList
  | 0, _ => by simp [itms, fl, cat]
  | n + 1, h => by
    unfold itms
    rw [fl_app, itms_fl f P n (by omega), List.range_succ, List.map_append, List.map_cons, List.map_nil, cat_snoc, app_cps, rowOf_has (by omega)]
    unfold itm
    cases dl 1 f n <;> simp [fl, emp_cps, quo_cps]
theorem itms_quiet {f : Nat → Bool} {P : List Str} (hP : ∀ p, p < 12 → Quiet (P.getD p emp).cps.toList) : ∀ n, n ≤ 12 → ∀ q, some q ∈ itms f P n → Quiet q
  | 0, _, q, h => by simp [itms] at h
  | n + 1, hn, q, h => by
    unfold itms at h
    rcases List.mem_append.mp h with h | h
    · exact itms_quiet hP n (by omega) q h
    · unfold itm at h
      have : q = (P.getD n emp).cps.toList := by
        cases dl 1 f n <;> simpa using h
      rw [this]; exact hP n (by omega)
theorem kept_picks (f : Nat → Bool) (P : List Str) : (cat (keptL (rowOf f) P)).cps.toList = picks (fun p => !f p) P 12 := by
  unfold keptL keptN picks
  have e : ((List.range 12).filter fun p : Nat => !(rowOf f).contains (p : Int)) = (List.range 12).filter fun p => !f p := List.filter_congr fun p hp => by rw [rowOf_has (List.mem_range.mp hp)]
  rw [e]
theorem hid_picks (f : Nat → Bool) (P : List Str) : (cat ((rowOf f).map fun p => P.getD p.toNat emp)).cps.toList = picks f P 12 := by
  unfold rowOf picks
  rw [List.map_map]; rfl
theorem last_is (l : List Int) (a : Int) (h : (0 :: (l ++ [a])) ≠ []) : (0 :: (l ++ [a])).getLast h = a := List.getLast_concat (l := 0 :: l)
theorem lst_last (f : Nat → Bool) : ∀ n, (((0 : Int) :: ((List.range n).filter (dl 1 f)).map fun p : Nat => (p : Int)).getLast (by simp)) = (lst f n : Int)
  | 0 => rfl
  | n + 1 => by
    have ih := lst_last f n
    unfold lst
    cases h : dl 1 f n with
    | true =>
      simp only [List.range_succ, List.filter_append, h, List.filter_cons, List.filter_nil, if_true, List.map_append, List.map_cons, List.map_nil]
      exact last_is _ _ _
    | false =>
      simp only [List.range_succ, List.filter_append, h, List.filter_cons, List.filter_nil, Bool.false_eq_true, if_false, List.append_nil]
      exact ih
theorem lastOf_is (f : Nat → Bool) : lastOf (rowOf (dl 1 f)) = lst f 12 := by
  unfold lastOf
  have := lst_last f 12
  have e : ((0 : Int) :: rowOf (dl 1 f)).getLast (by simp) = (lst f 12 : Int) := this
  rw [e]; rfl

theorem textOk (h : ∀ k ∈ ks, k < 4) {f : Nat → Bool} (b : Bd 1 f) : TextOk (piecesOf ks) (rowOf (dl 1 f)) (rowOf f) := by
  have hP : ∀ p, p < 12 → Quiet ((piecesOf ks).getD p emp).cps.toList := fun p hp => by rw [pieces_at hp]; exact piece_quiet h hp
  have pl : (piecesOf ks).length = 12 := (pieceOk h).pl
  have h11 : f 11 = false := Bool.eq_false_iff.mpr fun e => by have := b 11 e; omega
  have p12 : pr f 12 = false := h11
  have ex : (txt (rowOf (dl 1 f)) (piecesOf ks)).cps.toList = fl (itms f (piecesOf ks) 12) := (itms_fl f _ 12 (Nat.le_refl _)).symm
  have e2 : strip (txt (rowOf (dl 1 f)) (piecesOf ks)) = cat (keptL (rowOf f) (piecesOf ks)) := by
    refine str_ext ?_
    obtain ⟨H, e⟩ := run_plain f (piecesOf ks) 12
    rw [strip_items (.inl rfl) (itms_quiet hP 12 (Nat.le_refl _)) (by rw [ex, List.append_nil]), e, kept_picks, List.append_nil]
    rw [p12]; rfl
  refine ⟨fun p hp => ⟨rowOf_pos p hp, rowOf_lt hp⟩, fun p hp => ⟨rowOf_pos p hp, rowOf_lt hp⟩, rowOf_len _, rowOf_len _, ?_, e2, ?_⟩
  · rw [e2]
    show (hidN (cat (keptL (rowOf f) (piecesOf ks)))).map _ = ((List.range 12).filter f).map _
    unfold hidN
    refine congrArg (List.map fun p : Nat => (p : Int)) (List.filter_congr fun p hp => ?_)
    have hp := List.mem_range.mp hp
    have : 97 + p ∈ (cat (keptL (rowOf f) (piecesOf ks))).cps.toList ↔ f p = false := by
      rw [cat_cps, List.mem_flatten]
      constructor
      · rintro ⟨l, hl, hm⟩
        obtain ⟨x, hx, rfl⟩ := List.mem_map.mp hl
        unfold keptL keptN at hx
        obtain ⟨q, hq, rfl⟩ := List.mem_map.mp hx
        obtain ⟨hq1, hq2⟩ := List.mem_filter.mp hq
        have hq1 := List.mem_range.mp hq1
        rw [pieces_at hq1, letter_mem h hq1 hp] at hm
        subst hm
        rw [rowOf_has hp] at hq2
        simpa using hq2
      · intro hf
        refine ⟨_, List.mem_map.mpr ⟨_, List.mem_map.mpr ⟨p, List.mem_filter.mpr ⟨List.mem_range.mpr hp, by rw [rowOf_has hp, hf]; rfl⟩, rfl⟩, rfl⟩, ?_⟩
        rw [pieces_at hp, letter_mem h hp hp]
    cases hf : f p with
    | true =>
      rw [decide_eq_false fun m => by rw [this.mp m] at hf; cases hf]; rfl
    | false =>
      rw [decide_eq_true (this.mpr hf)]; rfl
  · refine str_ext ?_
    obtain ⟨H, e, hH⟩ := run_mark f (piecesOf ks) 12 (by omega)
    have ex' : (quo ++ txt (rowOf (dl 1 f)) (piecesOf ks)).cps.toList = fl (none :: itms f (piecesOf ks) 12) ++ [] := by
      rw [app_cps, quo_cps, ex, List.append_nil]; rfl
    rw [strip_items (.inl rfl) (fun q hq => itms_quiet hP 12 (Nat.le_refl _) q (by simpa using hq)) ex', List.foldl_cons, show gst (false, [], []) none = (true, [], []) from rfl, e, p12, List.append_nil, hH p12]
    rw [app_cps, app_cps, hid_picks, quo_cps, lastOf_is]
    unfold mid
    rw [List.take_of_length_le (by omega)]
    simp [gout]

/-! the law's end -/
theorem fl_some : ∀ l : List Str, fl (l.map fun x => some x.cps.toList) = (cat l).cps.toList
  | [] => by simp [fl, cat]
  | x :: l => by simp [fl, fl_some l, cat]
theorem gst_open : ∀ (l : List (List Nat)) (K H : List Nat), (l.map some).foldl gst (true, K, H) = (true, K, H ++ fl (l.map some))
  | [], K, H => by simp [fl]
  | q :: l, K, H => by
    rw [List.map_cons, List.foldl_cons, show gst (true, K, H) (some q) = (true, K, H ++ q) from rfl, gst_open l]
    simp [fl, List.append_assoc]
theorem piece_units (h : ∀ k ∈ ks, k < 4) {p : Nat} (hp : p < 12) (k : Nat) (r : List Nat) : unitsB false k ((pieceOf ks p).cps.toList ++ r) = uItems k (pieceOf ks p) ++ unitsB false (k + (pieceOf ks p).length) r := by
  have n1 : 97 + p ≠ 92 := by omega
  have e : pieceOf ks p = ⟨(pieceOf ks p).cps.toList.toArray⟩ := str_ext (by simp)
  obtain ⟨l, hl⟩ : ∃ l, l = (pieceOf ks p).cps.toList := ⟨_, rfl⟩
  have hc := piece_cps h p
  rw [← hl] at e hc ⊢
  rw [e]
  rcases hc with rfl | rfl | rfl | rfl <;> simp [unitsB, uItems, Str.length, slc, n1, List.range_succ] <;> omega
theorem kept_units (h : ∀ k ∈ ks, k < 4) : ∀ (l : List Nat) (k : Nat) (r : List Nat), (∀ p ∈ l, p < 12) → unitsB false k ((cat (l.map fun p => (piecesOf ks).getD p emp)).cps.toList ++ r) = lawU k (l.map fun p => (piecesOf ks).getD p emp) ++ unitsB false (k + (cat (l.map fun p => (piecesOf ks).getD p emp)).length) r
  | [], k, r, _ => by simp [cat, lawU, Str.length]
  | p :: l, k, r, hl => by
    have hp := hl p (.head _)
    have ih := kept_units h l (k + (pieceOf ks p).length) r fun q hq => hl q (.tail _ hq)
    have e1 : (cat ((p :: l).map fun p => (piecesOf ks).getD p emp)).cps.toList = (pieceOf ks p).cps.toList ++ (cat (l.map fun p => (piecesOf ks).getD p emp)).cps.toList := by
      rw [List.map_cons, pieces_at hp]; simp [cat]
    have e2 : (cat ((p :: l).map fun p => (piecesOf ks).getD p emp)).length = (pieceOf ks p).length + (cat (l.map fun p => (piecesOf ks).getD p emp)).length := by
      have := congrArg List.length e1
      simpa [Str.length] using this
    rw [e1, e2, List.append_assoc, piece_units h hp, ih, List.map_cons, pieces_at hp]
    simp only [lawU, List.append_assoc]
    rw [Nat.add_assoc]
theorem cat_le : ∀ {l : List Str}, (∀ x ∈ l, x.length ≤ 7) → (cat l).length ≤ 7 * l.length
  | [], _ => by simp [cat, Str.length]
  | x :: l, h => by
    have h1 := h x (.head _)
    have h2 := cat_le fun y hy => h y (.tail _ hy)
    have e : (cat (x :: l)).length = x.length + (cat l).length := by simp [cat, Str.length]
    rw [e, List.length_cons]; omega
theorem endOk (h : ∀ k ∈ ks, k < 4) (f : Nat → Bool) : EndOk (piecesOf ks) (rowOf f) (cat (keptL (rowOf f) (piecesOf ks))) := by
  have hk : ∀ x ∈ keptL (rowOf f) (piecesOf ks), ∃ p, p < 12 ∧ x = pieceOf ks p := fun x hx => by
    unfold keptL keptN at hx
    obtain ⟨q, hq, rfl⟩ := List.mem_map.mp hx
    have hq := List.mem_range.mp (List.mem_filter.mp hq).1
    exact ⟨q, hq, pieces_at hq⟩
  obtain ⟨lf, hlf⟩ : ∃ lf, lf = cat (keptL (rowOf f) (piecesOf ks)) := ⟨_, rfl⟩
  obtain ⟨its, hits⟩ : ∃ its, its = (keptL (rowOf f) (piecesOf ks)).map fun x => x.cps.toList := ⟨_, rfl⟩
  have efl : fl (its.map some) = lf.cps.toList := by rw [hits, hlf, List.map_map]; exact fl_some _
  have hq : ∀ q, some q ∈ its.map some → Quiet q := fun q hq => by
    rw [hits, List.map_map] at hq
    obtain ⟨x, hx, e⟩ := List.mem_map.mp hq
    obtain ⟨p, hp, rfl⟩ := hk x hx
    cases e
    exact piece_quiet h hp
  have no : none ∉ its.map some := fun m => by
    obtain ⟨x, _, e⟩ := List.mem_map.mp m
    cases e
  rw [← hlf]
  have units : ∀ r, unitsOf ⟨lf.cps ++ r⟩ = lawU 0 (keptL (rowOf f) (piecesOf ks)) ++ unitsB false lf.length r.toList := fun r => by
    have := kept_units h (keptN (rowOf f)) 0 r.toList fun p hp => List.mem_range.mp (List.mem_filter.mp hp).1
    rw [hlf]
    unfold unitsOf
    rw [Array.toList_append]
    simpa [keptL] using this
  refine ⟨(pieceOk h).pl, ?_, ?_, ?_, ?_, ?_, ?_, ?_, ?_⟩
  · intro x hx
    obtain ⟨p, hp, rfl⟩ := piece_mem hx
    have e : (pieceOf ks p).length = (pieceOf ks p).cps.toList.length := by simp [Str.length]
    rw [e]
    rcases piece_cps h p with e | e | e | e <;> rw [e]
    · exact ⟨0, rfl, by decide⟩
    · exact ⟨2, rfl, by decide⟩
    · exact ⟨1, rfl, by decide⟩
    · exact ⟨2, rfl, by decide⟩
  · rw [← Array.all_toList, hlf, cat_cps, List.all_eq_true]
    intro c hc
    obtain ⟨l, hl, hm⟩ := List.mem_flatten.mp hc
    obtain ⟨x, hx, rfl⟩ := List.mem_map.mp hl
    obtain ⟨p, hp, rfl⟩ := hk x hx
    rw [decide_eq_true_iff]
    rcases piece_cps h p with e | e | e | e <;> rw [e] at hm <;> simp at hm <;> omega
  · have h1 := cat_le (l := keptL (rowOf f) (piecesOf ks)) fun x hx => by
      obtain ⟨p, hp, rfl⟩ := hk x hx
      exact (pieceOk h).len _ (List.mem_map.mpr ⟨p, List.mem_range.mpr hp, rfl⟩)
    have h2 : (keptL (rowOf f) (piecesOf ks)).length ≤ 12 := by
      unfold keptL keptN
      rw [List.length_map]
      exact Nat.le_trans (List.length_filter_le ..) (by simp)
    rw [hlf]; omega
  · refine str_ext ?_
    rw [strip_items (.inl rfl) hq (by rw [efl, List.append_nil]), gst_quiet _ _ _ no, efl]
    simp [gout]
  · have : ¬ 34 ∈ (cat (bareOf lf)).cps.toList := by
      rw [cat_cps]
      simp [bareOf]
      intro x c _ hc e
      subst e
      simpa using Ne.symm hc
    unfold strip
    rw [if_neg this]
  · intro rest hr
    refine str_ext ?_
    have ho : ∀ K H, (its.map some).foldl gst (true, K, H) = (true, K, H ++ lf.cps.toList) := fun K H => by rw [gst_open, efl]
    have hq1 : ∀ q, some q ∈ none :: (its.map some ++ [none]) → Quiet q := fun q m => hq q (by simpa using m)
    simp only [List.mem_cons, List.not_mem_nil, or_false] at hr
    rcases hr with rfl | rfl | rfl
    · rw [strip_items (its := none :: (its.map some ++ [none])) (.inl rfl) hq1 (by simp only [app_cps, quo_cps, emp_cps, fl, fl_app, efl]; simp), List.foldl_cons, List.foldl_append, show gst (false, [], []) none = (true, [], []) from rfl, ho, emp_cps]
      simp [gst, gout]
    · rw [strip_items (its := none :: (its.map some ++ [none, some [32]])) (.inl rfl) (fun q m => by
          simp only [List.mem_cons, List.mem_append, reduceCtorEq, false_or, List.not_mem_nil, or_false, Option.some.injEq] at m
          rcases m with m | rfl
          · exact hq q m
          · exact .one (by decide) (by decide) .nil) (by simp only [app_cps, quo_cps, spc_cps, fl, fl_app, efl]; simp), List.foldl_cons, List.foldl_append, show gst (false, [], []) none = (true, [], []) from rfl, ho, spc_cps]
      simp [gst, gout]
    · rw [strip_items (its := none :: (its.map some ++ (none :: none :: its.map some))) (tl := [92]) (.inr rfl) (fun q m => by
          simp only [List.mem_cons, List.mem_append, reduceCtorEq, false_or] at m
          rcases m with m | m
          · exact hq q m
          · exact hq q m) (by simp only [app_cps, quo_cps, bsl_cps, fl, fl_app, efl]; simp), List.foldl_cons, List.foldl_append, show gst (false, [], []) none = (true, [], []) from rfl, ho]
      simp only [List.foldl_cons, gst, ho, gout, app_cps, quo_cps, bsl_cps]
      simp
  · have := units #[92, 92]
    have e : (⟨lf.cps ++ #[92, 92]⟩ : Str) = lf ++ bsl2 := rfl
    rw [e] at this
    rw [this]; rfl
  · have := units #[92]
    have e : (⟨lf.cps ++ #[92]⟩ : Str) = lf ++ bsl := rfl
    rw [e] at this
    rw [this]; rfl
end
end Mine
end

/-! part P4 -/
section
open PySem PySem.W PySem.Spec PySem.Calls PyProof.Rows
set_option Elab.async false
set_option linter.unusedVariables false
set_option maxHeartbeats 4000000
namespace Mine

def seed (cs : List Int) (p : Nat) : Bool := decide (p < 7) && ((cs.getD p 0).fmod 2 == 1)
theorem seed_lt {cs : List Int} {n : Nat} (h : seed cs n = true) : n < 7 := of_decide_eq_true (Bool.and_eq_true _ _ ▸ h : decide (n < 7) = true ∧ _).1
theorem row0_is (cs : List Int) : row0 cs = rowOf (seed cs) := by
  unfold row0 rowOf
  refine congrArg (List.map fun p : Nat => (p : Int)) ?_
  have e : List.range 12 = List.range 7 ++ [7, 8, 9, 10, 11] := by decide
  rw [e, List.filter_append]
  have e2 : ([7, 8, 9, 10, 11] : List Nat).filter (seed cs) = [] := by
    refine List.filter_eq_nil_iff.mpr fun p hp hs => ?_
    have := seed_lt hs
    simp at hp; omega
  rw [e2, List.append_nil]
  refine List.filter_congr fun p hp => ?_
  unfold seed
  rw [decide_eq_true (List.mem_range.mp hp), Bool.true_and]
theorem size_lt {cs : List Int} : ∀ z ∈ sizesOf cs, 0 ≤ z ∧ z < 4 := fun z hz => by
  unfold sizesOf at hz
  rcases List.mem_append.mp hz with hz | hz
  · obtain ⟨c, _, rfl⟩ := List.mem_map.mp hz
    exact ⟨Int.fmod_nonneg_of_pos _ (by decide), Int.fmod_lt_of_pos _ (by decide)⟩
  · obtain ⟨c, _, rfl⟩ := List.mem_map.mp hz
    exact ⟨Int.fmod_nonneg_of_pos _ (by decide), Int.fmod_lt_of_pos _ (by decide)⟩
theorem st_cases (ns : List Int) : stOf ns = 2 ∨ stOf ns = 4 ∨ stOf ns = 1 := by
  unfold stOf
  generalize ((isum ns).fmod 3).toNat = k
  rcases k with _ | _ | _ | k <;> simp
theorem rowB_bd1 (cs : List Int) {i : Nat} (hi : i ≤ 4) : Bd 1 (rowB (seed cs) i) := fun n h => by
  have := rowB_bd (fun n => seed_lt) i n h; omega
theorem seed_bd (cs : List Int) {k : Nat} (hk : k ≤ 4) : Bd k (seed cs) := fun n h => by
  have := seed_lt h; omega
theorem first_ok (cs : List Int) {st : Nat} (h : st = 2 ∨ st = 4 ∨ st = 1) : FirstOk (rowOf (rowB (seed cs) 0)) (rowOf (rowB (seed cs) st)) st := by
  rcases h with rfl | rfl | rfl
  · rw [rowB_two]; exact firstOk_of (seed_bd cs (by decide))
  · rw [rowB_four]; exact firstOk_of (seed_bd cs (by decide))
  · exact firstOk_of (seed_bd cs (by decide))
section
variable {prog : Program} {w : World} {A : Around} {hb : Heap} {X : Addr → Prop} {mg mb : Str → Option Value} {fa : Nat → Addr} {fc : Nat → Value} {L f : Addr} {cd : Value} {s : Shared} {E : Value → Shared → Prop}
/-- the law's body gives back true -/
theorem lawZ {ns : List Int} {Q : Flow → Shared → Prop} (hn : ns.length ≤ 1000) (rm : Room A 5 200) (hfr : A.frames = some [cEnv 10 L f cd]) (gd : Gd hb mg mb fa fc)
    (c : Cx hb X (cEnv 10 L f cd) [("script", .dat (.list (ns.map .int)))] s.heap)
    (hQ : ∀ s', Up hb s'.heap → Fm s s' → Q (.ret (.bool true)) s') : wpAny (model prog w) A (execs (dOf 10).body (cEnv 10 L f cd)) Q E s := by
  have hk4 : ∀ k ∈ (sizesOf (cellsOf ns)).map Int.toNat, k < 4 := fun k hk => by
    obtain ⟨z, hz, rfl⟩ := List.mem_map.mp hk
    have := size_lt z hz; omega
  have hk : sizesOf (cellsOf ns) = ((sizesOf (cellsOf ns)).map Int.toNat).map (fun k : Nat => (k : Int)) := by
    rw [List.map_map]
    conv => lhs; rw [← List.map_id (sizesOf (cellsOf ns))]
    refine List.map_congr_left fun z hz => ?_
    have := size_lt z hz
    show z = ((z.toNat : Nat) : Int)
    omega
  have hst := st_cases ns
  have b : ∀ i, i ≤ 4 → Bd 1 (rowB (seed (cellsOf ns)) i) := fun i => rowB_bd1 _
  refine lawA (rowsF := fun i => rowOf (rowB (seed (cellsOf ns)) i)) hn hk hk4 (row0_is _) (fun i hi => turnOk_of (b i (by omega))) (pieceOk hk4) (fun i hi => ?_) (endOk hk4 _) (first_ok _ hst) (by omega) (by omega) rm hfr gd c hQ
  have e : stOf ns - i = (stOf ns - 1 - i) + 1 := by omega
  rw [e]
  exact textOk hk4 (b _ (by omega))
end
end Mine
end

/-! part H0 -/
section
open PySem PySem.W PySem.Spec PySem.Calls PyProof.Rows
set_option Elab.async false
set_option linter.unusedVariables false
set_option maxRecDepth 100000
set_option maxHeartbeats 4000000
namespace Mine
section
variable {prog : Program} {w : World} {A : Around} {s : Shared} {E : Value → Shared → Prop}
/-- the law called -/
theorem law_call {ns : List Int} {va : Value} {a : Addr} {cd : Value} {mg mb : Str → Option Value} {fa : Nat → Addr} {fc : Nat → Value} {Q : Value → Shared → Prop} (hf : FnAt s.heap a cd (dOf 10)) (gd : Gd s.heap mg mb fa fc) (ra : Rd (fun _ => False) s.heap va (.list (ns.map .int))) (hn : ns.length ≤ 1000)
    (rm : Room A 6 203) (hfr : A.frames = some [])
    (hQ : ∀ s', Up s.heap s'.heap → Fm s s' → Q (.bool true) s') : wpAny (model prog w) A (call (.ref a) [va]) Q E s := by
  obtain ⟨o, pm, doc, ho, hd, hcd⟩ := hf
  refine wpAny_call (call_cells_ret (by have := rm.depth; omega) ho hd gd.nl hcd rfl (fun x hx => ?_) (fun h₁ tk₁ F₁ C₁ => ?_) rfl rfl rfl)
  · rw [List.mem_singleton.mp hx]; exact .inl rfl
  have c0 : Cx s.heap (fun b => False ∨ Fb (cEnv 10 s.heap.objs.size a cd) b) (cEnv 10 s.heap.objs.size a cd) [("script", .dat (.list (ns.map .int)))] h₁ := cx_entryC F₁ C₁ gd.nm (fun _ _ e => e) (fun b x => x.elim) (fun _ _ _ x => x) rfl fun y z e => by
    have := lookup_mem e
    simp only [List.mem_singleton, Prod.mk.injEq] at this
    obtain ⟨rfl, rfl⟩ := this
    exact ⟨va, .inl ⟨rfl, rfl⟩, ra⟩
  generalize s.heap.objs.size = L at c0
  exact lawZ (s := { s with heap := h₁, toks := tk₁ }) hn (Room.deeper rm) (Around.frames_deeper hfr) gd c0 fun s' k f => hQ s' k ⟨f.os, f.bare⟩
end

def bNames : List Str := ["range", "sum", "sorted", "list", "enumerate", "len", "chr", "IndexError"]
/-- what the top binds, as the walk asks for it -/
theorem gd_top {p : Program} {loose : List Str} {mean : ExcName → Option Value} {mg mb : Str → Option Value} {h : Heap} (T : Top p loose mean mg mb h)
    (hr : ∀ i ∈ [1, 3, 4, 6, 7, 8, 9], dOf i ∈ recsOf p) (hf : (bNames.all fun x => !(startupNames ++ loose ++ (recsOf p).map (·.name) ++ (litsOf p).map (·.1) ++ (clssOf p loose).map (·.name)).contains x) = true) : ∃ fa fc, Gd h mg mb fa fc := by
  have ex : ∀ i, ∃ q : Addr × Value, i ∈ [1, 3, 4, 6, 7, 8, 9] → FnAt h q.1 q.2 (dOf i) ∧ mg (dOf i).name = some (.ref q.1) := fun i => by
    by_cases hi : i ∈ [1, 3, 4, 6, 7, 8, 9]
    · obtain ⟨a, o, pm, cd, doc, h1, h2, h3, h4⟩ := T.fn _ (hr i hi)
      exact ⟨(a, cd), fun _ => ⟨⟨o, pm, doc, h2, h3, h4⟩, h1⟩⟩
    · exact ⟨(0, .none), fun x => absurd x hi⟩
  refine ⟨fun i => (Classical.choose (ex i)).1, fun i => (Classical.choose (ex i)).2, ⟨T.g, T.b⟩, T.nolimit, fun i hi => Classical.choose_spec (ex i) hi, fun q hq => ?_⟩
  have free : ∀ x ∈ bNames, mg x = none := fun x hx => by
    have := List.all_eq_true.mp hf x hx
    have key : x ∉ startupNames ++ loose ++ (recsOf p).map (·.name) ++ (litsOf p).map (·.1) ++ (clssOf p loose).map (·.name) := fun m => by
      rw [List.contains_iff_mem.mpr m] at this; cases this
    simp only [List.mem_append, not_or] at key
    exact T.free x key.1.1.1.1 key.1.1.1.2 key.1.1.2 key.1.2 key.2
  simp only [List.mem_cons, List.not_mem_nil, or_false] at hq
  rcases hq with rfl | rfl | rfl | rfl | rfl | rfl | rfl | rfl
  · exact ⟨free _ (by decide), (T.builtins _ (by decide)).trans (by decide +kernel)⟩
  · exact ⟨free _ (by decide), (T.builtins _ (by decide)).trans (by decide +kernel)⟩
  · exact ⟨free _ (by decide), (T.builtins _ (by decide)).trans (by decide +kernel)⟩
  · exact ⟨free _ (by decide), (T.builtins _ (by decide)).trans (by decide +kernel)⟩
  · exact ⟨free _ (by decide), (T.builtins _ (by decide)).trans (by decide +kernel)⟩
  · exact ⟨free _ (by decide), (T.builtins _ (by decide)).trans (by decide +kernel)⟩
  · exact ⟨free _ (by decide), (T.builtins _ (by decide)).trans (by decide +kernel)⟩
  · exact ⟨free _ (by decide), (T.builtins _ (by decide)).trans (by decide +kernel)⟩
/-- a script as it was laid -/
theorem script_rd {P : Params} {h : Heap} {a : Addr} {vs : List Value} {ns : List Int} (W : Well P h (.ref a) (ofPy (.list (ns.map .int)))) (hL : h.IsList a vs.toArray) (hI : IntsAre vs ns) : Rd (fun _ => False) h (.ref a) (.list (ns.map .int)) := by
  cases W with
  | list ho _ =>
    obtain ⟨o, h1, h2, n, h3⟩ := hL
    rw [ho] at h1
    cases h1
    refine Rd.mkList id ho ?_
    simp only [Data.seq.injEq] at h3
    obtain ⟨e, _⟩ := h3
    have e' := congrArg Array.toList e
    simp only at e'
    rw [show (Array.toList _) = vs from e']
    exact RdL.ofInts hI
end Mine
end

open PySem PySem.W PySem.Spec PySem.Calls PyProof.Rows Mine
set_option linter.unusedVariables false
set_option maxRecDepth 100000 in
set_option maxHeartbeats 8000000 in
theorem PySem.Challenge.cw_tv0012_01_holds : PySem.Challenge.rw_tv0012_01.Holds := by
  w_on
  o_law
  k_head
  (case hw => w_witness2)
  k_fill
  intro w s₀ s₁ mg mb G Y fa o pm cd doc dV kV ho hdd hcd hD hmg hg args vals as hpre hlay hrd hwl hlo
  refine Ground.open G ?_
  intro T B D TE TW
  have he := Dflts.none hD rfl
  subst he
  have he := Dflts.noKw hD
  subst he
  try (refine guard_noD D (by decide +kernel) ?_; clear D)
  clear hmg
  wrow_args hpre hlay hrd hwl hlo
  rename_i hL _ hW _ hI _ hc _
  obtain ⟨fa', fc', gd⟩ := Mine.gd_top T (fun i hi => by
    simp only [List.mem_cons, List.not_mem_nil, or_false] at hi
    rcases hi with rfl | rfl | rfl | rfl | rfl | rfl | rfl
    · exact List.mem_of_getElem? (i := 0) (by rfl)
    · exact List.mem_of_getElem? (i := 1) (by rfl)
    · exact List.mem_of_getElem? (i := 2) (by rfl)
    · exact List.mem_of_getElem? (i := 3) (by rfl)
    · exact List.mem_of_getElem? (i := 4) (by rfl)
    · exact List.mem_of_getElem? (i := 5) (by rfl)
    · exact List.mem_of_getElem? (i := 6) (by rfl)) (by decide +kernel)
  refine Mine.law_call ⟨o, pm, doc, ho, fd_plain hdd, hcd⟩ gd (Mine.script_rd hW hL hI) (by omega) ⟨rfl, by decide, by decide⟩ rfl (fun s' up fm => ?_)
  refine ⟨.inl ⟨_, .bool true, [], rfl, fun _ => rfl, ?_, ?_, ?_⟩, .of_keep up, fm.os, fm.bare ?_⟩
  · exact .bool true
  · exact postW_of (by wrow_shape) (by wtm_val) (by str_meet; first | done | w_fin)
  · exact fun _ => ⟨List.nodup_nil, fun a ha => nomatch ha⟩
  · rw [hg]; exact .empty
