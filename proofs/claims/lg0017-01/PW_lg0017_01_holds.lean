import PyProof.Rows.All
import Wide.All
import OpenK.AllK
import Wide.FinOn
import Lean
import PySem.Challenge.RW_lg0017_01

set_option Elab.async false

section
open PySem PySem.W PyProof.Rows
set_option Elab.async false
namespace Mine

/-! pure data -/
inductive S where
  | none | bool (b : Bool) | int (i : Int) | str (s : Str)

inductive D where
  | sc (x : S) | ls (l : List S) | own (l : List S) | new (l : List S)

def IsS (v : Value) : S → Prop
  | .none => v = .none
  | .bool b => v = .bool b
  | .int i => ∃ t, v = .int i t
  | .str x => ∃ t, v = .str x t

theorem IsS.notRef {v : Value} {x : S} (h : IsS v x) (a : Addr) : v ≠ .ref a := by
  cases x <;> simp only [IsS] at h
  · rw [h]; intro e; cases e
  · rw [h]; intro e; cases e
  · obtain ⟨t, rfl⟩ := h; intro e; cases e
  · obtain ⟨t, rfl⟩ := h; intro e; cases e

def IsL (h : Heap) (v : Value) (l : List S) : Prop := ∃ a items, v = .ref a ∧ h.IsList a items ∧ Paired IsS items.toList l

def IsLP (h : Heap) (v : Value) (l : List S) : Prop := ∃ a items, v = .ref a ∧ h.PlainList a items ∧ Paired IsS items.toList l
theorem IsLP.isL {h : Heap} {v : Value} {l : List S} (x : IsLP h v l) : IsL h v l := let ⟨a, it, e, hl, p⟩ := x; ⟨a, it, e, hl.isList, p⟩

def IsD (h : Heap) (v : Value) : D → Prop
  | .sc x => IsS v x
  | .ls l => IsL h v l
  | .own l => IsLP h v l
  | .new l => IsLP h v l

abbrev Sub (h h' : Heap) : Prop := ∀ b o, h.get? b = some o → h'.get? b = some o

theorem isList_keeps {h h' : Heap} {a items} (x : h.IsList a items) (hk : Sub h h') : h'.IsList a items := let ⟨o, ho, r⟩ := x; ⟨o, hk _ _ ho, r⟩
theorem IsL.keeps {h h' : Heap} {v : Value} {l : List S} (x : IsL h v l) (hk : Sub h h') : IsL h' v l :=
  let ⟨a, it, e, hl, p⟩ := x; ⟨a, it, e, isList_keeps hl hk, p⟩
theorem IsLP.keeps {h h' : Heap} {v : Value} {l : List S} (x : IsLP h v l) (hk : Sub h h') : IsLP h' v l :=
  let ⟨a, it, e, hl, p⟩ := x; ⟨a, it, e, hl.at fun o => hk _ o, p⟩
theorem IsD.keeps {h h' : Heap} {v : Value} {d : D} (x : IsD h v d) (hk : Sub h h') : IsD h' v d := by
  cases d with
  | sc x => exact x
  | ls l => exact IsL.keeps x hk
  | own l => exact IsLP.keeps x hk
  | new l => exact IsLP.keeps x hk

/-! the maps of names -/
abbrev Mp := List (String × D)
def lk : Mp → String → Option D
  | [], _ => none
  | (k', d) :: m, k => if k' = k then some d else lk m k

@[simp] theorem lk_nil (k : String) : lk [] k = none := rfl
theorem lk_cons (k' k : String) (d : D) (m : Mp) : lk ((k', d) :: m) k = if k' = k then some d else lk m k := rfl
theorem lk_same (k : String) (d : D) (m : Mp) : lk ((k, d) :: m) k = some d := by simp [lk_cons]
theorem lk_other {k' k : String} (h : k' ≠ k) (d : D) (m : Mp) : lk ((k', d) :: m) k = lk m k := by simp [lk_cons, h]

theorem ofString_inj {a b : String} (h : Str.ofString a = Str.ofString b) : a = b := by
  rw [Str.ofString_eq_toList, Str.ofString_eq_toList] at h
  have h1 : (a.toList.map Char.toNat) = (b.toList.map Char.toNat) := by simpa using h
  have h2 : a.toList = b.toList := (List.map_inj_right (fun x y e => by
    have : x.val = y.val := by
      apply UInt32.toNat_inj.mp; exact e
    exact Char.ext this)).mp h1
  exact String.toList_inj.mp h2

/-! lookup of a name in a frame -/
def Has (env : Env) (h : Heap) (k : String) (v : Value) : Prop :=
  (env.kindOf (Str.ofString k) = some .local ∧ ∃ ml, h.Ns env.locals ml ∧ ml (Str.ofString k) = some v) ∨
  (env.kindOf (Str.ofString k) = some .cell ∧ ∃ c, env.cells.lookup (Str.ofString k) = some c ∧ h.IsCell c (some v))

theorem ns_unique {h : Heap} {a : Addr} {m m' : Str → Option Value} (x : h.Ns a m) (y : h.Ns a m') : m = m' := by
  obtain ⟨o, es, ep, ho, hd, _, hm⟩ := x
  obtain ⟨o', es', ep', ho', hd', _, hm'⟩ := y
  rw [ho] at ho'; cases ho'
  rw [hd] at hd'; cases hd'
  funext n; rw [← hm n, ← hm' n]

theorem cell_unique {h : Heap} {c : Addr} {v v' : Option Value} (x : h.IsCell c v) (y : h.IsCell c v') : v = v' := by
  obtain ⟨o, ho, hd⟩ := x
  obtain ⟨o', ho', hd'⟩ := y
  rw [ho] at ho'; cases ho'
  rw [hd] at hd'; cases hd'; rfl

theorem Has.unique {env : Env} {h : Heap} {k : String} {v v' : Value} (x : Has env h k v) (y : Has env h k v') : v = v' := by
  rcases x with ⟨hk, ml, hn, hv⟩ | ⟨hk, c, hc, hv⟩ <;> rcases y with ⟨hk', ml', hn', hv'⟩ | ⟨hk', c', hc', hv'⟩
  · have := ns_unique hn hn'; subst this; rw [hv] at hv'; cases hv'; rfl
  · rw [hk] at hk'; cases hk'
  · rw [hk] at hk'; cases hk'
  · rw [hc] at hc'; cases hc'; have := cell_unique hv hv'; cases this; rfl

theorem isCell_keeps {h h' : Heap} {c : Addr} {v : Option Value} (x : h.IsCell c v) (hk : Sub h h') : h'.IsCell c v := let ⟨o, ho, hd⟩ := x; ⟨o, hk _ _ ho, hd⟩
theorem Has.keeps {env : Env} {h h' : Heap} {k : String} {v : Value} (x : Has env h k v) (hk : Sub h h') : Has env h' k v := by
  rcases x with ⟨h1, ml, hn, hv⟩ | ⟨h1, c, hc, hv⟩
  · exact .inl ⟨h1, ml, hn.keeps hk, hv⟩
  · exact .inr ⟨h1, c, hc, isCell_keeps hv hk⟩

/-! the ambient facts -/
structure Amb (mg mb : Str → Option Value) (h₀ : Heap) : Prop where
  g : h₀.Ns mainGlobals mg
  b : h₀.Ns builtinsNs mb
  nolimit : h₀.NoLimit

structure Good (h₀ : Heap) (env : Env) (m : Mp) (s : Shared) : Prop where
  kind : env.scope.kind = .function
  gl : env.globals = mainGlobals
  bl : env.builtins = builtinsNs
  base : Sub h₀ s.heap
  vars : ∀ k d, lk m k = some d → ∃ v, Has env s.heap k v ∧ IsD s.heap v d

theorem Good.keeps {h₀ : Heap} {env : Env} {m : Mp} {s s' : Shared} (G : Good h₀ env m s) (hk : Sub s.heap s'.heap) : Good h₀ env m s' :=
  ⟨G.kind, G.gl, G.bl, fun b o e => hk b o (G.base b o e), fun k d e => let ⟨v, hv, hd⟩ := G.vars k d e; ⟨v, hv.keeps hk, hd.keeps hk⟩⟩

theorem kp_refl (s : Shared) : Keeps s s := ⟨s.heap, s.toks, rfl, fun _ _ e => e⟩
theorem kp_trans {a b c : Shared} (x : Keeps a b) (y : Keeps b c) : Keeps a c := by
  obtain ⟨h1, t1, rfl, k1⟩ := x
  obtain ⟨h2, t2, rfl, k2⟩ := y
  exact ⟨h2, t2, rfl, fun b o e => k2 b o (k1 b o e)⟩
theorem kp_sub {a b : Shared} (x : Keeps a b) : Sub a.heap b.heap := by
  obtain ⟨h1, t1, rfl, k1⟩ := x; exact k1
theorem kp_toks (s : Shared) (t : Nat) : Keeps s { s with toks := t } := ⟨s.heap, t, rfl, fun _ _ e => e⟩
theorem kp_push (s : Shared) (o : Obj) : Keeps s { s with heap := s.heap.push o } := ⟨_, s.toks, rfl, fun _ _ e => Heap.get?_push_of_some _ e⟩

/-! what an expression's evaluation hands on -/
def Fresh (s : Shared) (v : Value) : D → Prop
  | .new _ => ∀ a, v = .ref a → s.heap.get? a = none
  | _ => True

structure Res (s : Shared) (d : D) (v : Value) (s' : Shared) : Prop where
  keeps : Keeps s s'
  is : IsD s'.heap v d
  fresh : Fresh s v d

theorem Fresh.back {s s' : Shared} {v : Value} {d : D} (h : Fresh s' v d) (hk : Keeps s s') : Fresh s v d := by
  cases d <;> try trivial
  intro a ha
  have := h a ha
  cases e : s.heap.get? a with
  | none => rfl
  | some o => rw [kp_sub hk a o e] at this; cases this

theorem Res.after {s s₁ s' : Shared} {d : D} {v : Value} (k : Keeps s s₁) (r : Res s₁ d v s') : Res s d v s' :=
  ⟨kp_trans k r.keeps, r.is, r.fresh.back k⟩
theorem Res.sc {s s' : Shared} {x : S} {v : Value} (k : Keeps s s') (h : IsS v x) : Res s (.sc x) v s' := ⟨k, h, trivial⟩

structure Rm (n : Nat) (A : Around) : Prop where
  quiet : A.handled = none
  room : A.depth + n < recursionLimit
  units : A.units + 3 * n + 64 < cLine

theorem Rm.le {n n' : Nat} {A : Around} (r : Rm n A) (h : n' ≤ n) : Rm n' A := ⟨r.quiet, by have := r.room; omega, by have := r.units; omega⟩

/-- e evaluates to d in every frame of scope sc that bears m -/
def Ev (prog : Program) (w : World) (h₀ : Heap) (n : Nat) (sc : Scope) (m : Mp) (e : PySem.Expr) (d : D) : Prop :=
  ∀ (A : Around) (env : Env) (s : Shared), env.scope = sc → Rm n A → Good h₀ env m s →
    wpAny (model prog w) A (eval e env) (Res s d) (fun _ _ => False) s

/-- e's truth -/
def Tr (prog : Program) (w : World) (h₀ : Heap) (n : Nat) (sc : Scope) (m : Mp) (e : PySem.Expr) (b : Bool) : Prop :=
  ∀ (A : Around) (env : Env) (s : Shared), env.scope = sc → Rm n A → Good h₀ env m s →
    wpAny (model prog w) A (isTrue e env (eval e env)) (fun c s' => Keeps s s' ∧ c = b) (fun _ _ => False) s

theorem wpF {α : Type} {M : Model} {A : Around} {t : Sem α} {Q Q' : α → Shared → Prop} {E : Value → Shared → Prop} {s : Shared}
    (h : wpAny M A t Q (fun _ _ => False) s) (hq : ∀ a s', Q a s' → Q' a s') : wpAny M A t Q' E s := wpAny_mono h hq fun _ _ f => f.elim

end Mine

end

section
open PySem PySem.W PyProof.Rows
set_option Elab.async false
namespace Mine

section
variable {prog : Program} {w : World} {h₀ : Heap} {n : Nat} {sc : Scope} {m : Mp}

theorem ev_int {i : Int} {k : Nat} {pos : Pos} : Ev prog w h₀ n sc m (.Constant (.int i) k pos) (.sc (.int i)) := by
  intro A env s hs hr G
  exact wpAny_Constant_int (.sc (kp_toks _ _) ⟨_, rfl⟩)
theorem ev_str {x : Str} {k : Nat} {pos : Pos} : Ev prog w h₀ n sc m (.Constant (.str x) k pos) (.sc (.str x)) := by
  intro A env s hs hr G
  exact Calls.Constant_str (.sc (kp_toks _ _) ⟨_, rfl⟩)
theorem ev_bool {b : Bool} {k : Nat} {pos : Pos} : Ev prog w h₀ n sc m (.Constant (.bool b) k pos) (.sc (.bool b)) := by
  intro A env s hs hr G
  exact lit_bool _ fun v tk hv => .sc (kp_toks _ _) (by have := hv default; cases this; rfl)

def rd : D → D
  | .own l => .ls l
  | d => d

theorem isD_rd {h : Heap} {v : Value} {d : D} (x : IsD h v d) : IsD h v (rd d) := by cases d <;> first | exact x | exact IsLP.isL x

theorem has_load {M : Model} {A : Around} {E : Value → Shared → Prop} {s : Shared} {env : Env} {k : String} {v : Value} {Q : Value → Shared → Prop}
    (hk : env.scope.kind = .function) (hv : Has env s.heap k v) (h : Q v s) : wpAny M A (loadName env (Str.ofString k)) Q E s := by
  rcases hv with ⟨h1, ml, hn, hv⟩ | ⟨h1, c, hc, hv⟩
  · exact wpAny_loadName_local hk h1 hn hv h
  · exact wpAny_loadName_cell hk h1 hc hv h

def NotNew : D → Prop
  | .new _ => False
  | _ => True

theorem ev_name {k : String} {pos : Pos} {d : D} (h : lk m k = some d) (hn : NotNew d := by trivial) (hd : (Str.ofString k == ("__debug__" : Str)) = false := by decide) :
    Ev prog w h₀ n sc m (.Name (Str.ofString k) pos) (rd d) := by
  intro A env s hs hr G
  obtain ⟨v, hv, hdv⟩ := G.vars k d h
  exact wpAny_Name (has_load G.kind hv ⟨kp_refl _, isD_rd hdv, by cases d <;> first | trivial | exact hn.elim⟩) hd

/-- a binary operation on data -/
def Op2 (prog : Program) (w : World) (op : Operator) (d₁ d₂ d : D) : Prop :=
  ∀ (A : Around) (s : Shared) (v₁ v₂ : Value), A.handled = none → IsD s.heap v₁ d₁ → IsD s.heap v₂ d₂ → wpAny (model prog w) A (binaryOp op v₁ v₂) (Res s d) (fun _ _ => False) s
def Cm2 (prog : Program) (w : World) (op : CmpOp) (d₁ d₂ : D) (b : Bool) : Prop :=
  ∀ (A : Around) (s : Shared) (v₁ v₂ : Value), Rm 0 A → IsD s.heap v₁ d₁ → IsD s.heap v₂ d₂ →
    wpAny (model prog w) A (compareOp op v₁ v₂) (fun v s' => Keeps s s' ∧ v = .bool b) (fun _ _ => False) s

theorem ev_bin {e₁ e₂ : PySem.Expr} {op : Operator} {pos : Pos} {d₁ d₂ d : D} (h₁ : Ev prog w h₀ n sc m e₁ d₁) (h₂ : Ev prog w h₀ n sc m e₂ d₂) (h : Op2 prog w op d₁ d₂ d) :
    Ev prog w h₀ n sc m (.BinOp e₁ op e₂ pos) d := by
  intro A env s hs hr G
  refine wpAny_BinOp (wpF (h₁ A env s hs hr G) fun v₁ s₁ r₁ => ?_)
  refine wpF (h₂ A env s₁ hs hr (G.keeps (kp_sub r₁.keeps))) fun v₂ s₂ r₂ => ?_
  exact wpF (h A s₂ v₁ v₂ hr.quiet (r₁.is.keeps (kp_sub r₂.keeps)) r₂.is) fun v s₃ r₃ => r₃.after (kp_trans r₁.keeps r₂.keeps)

theorem ev_cmp {e₁ e₂ : PySem.Expr} {op : CmpOp} {pos : Pos} {d₁ d₂ : D} {b : Bool} (h₁ : Ev prog w h₀ n sc m e₁ d₁) (h₂ : Ev prog w h₀ n sc m e₂ d₂) (h : Cm2 prog w op d₁ d₂ b)
    (hm : behindInMarks op e₂ = false := by with_unfolding_all rfl) :
    Ev prog w h₀ n sc m (.Compare e₁ [op] [e₂] pos) (.sc (.bool b)) := by
  intro A env s hs hr G
  refine wpAny_Compare1 (wpF (h₁ A env s hs hr G) fun v₁ s₁ r₁ => ?_) hm
  refine wpF (h₂ A env s₁ hs hr (G.keeps (kp_sub r₁.keeps))) fun v₂ s₂ r₂ => ?_
  exact wpF (h A s₂ v₁ v₂ (hr.le (Nat.zero_le _)) (r₁.is.keeps (kp_sub r₂.keeps)) r₂.is) fun v s₃ r₃ => .sc (kp_trans (kp_trans r₁.keeps r₂.keeps) r₃.1) r₃.2

theorem tr_cmp {e₁ e₂ : PySem.Expr} {op : CmpOp} {pos : Pos} {d₁ d₂ : D} {b : Bool} (h₁ : Ev prog w h₀ n sc m e₁ d₁) (h₂ : Ev prog w h₀ n sc m e₂ d₂) (h : Cm2 prog w op d₁ d₂ b)
    (hm : behindInMarks op e₂ = false := by with_unfolding_all rfl) :
    Tr prog w h₀ n sc m (.Compare e₁ [op] [e₂] pos) b := by
  intro A env s hs hr G
  refine wpAny_isTrue_Compare1 (wpF (h₁ A env s hs hr G) fun v₁ s₁ r₁ => ?_) hm
  refine wpF (h₂ A env s₁ hs hr (G.keeps (kp_sub r₁.keeps))) fun v₂ s₂ r₂ => ?_
  refine wpF (h A s₂ v₁ v₂ (hr.le (Nat.zero_le _)) (r₁.is.keeps (kp_sub r₂.keeps)) r₂.is) fun v s₃ r₃ => ?_
  obtain ⟨k, rfl⟩ := r₃
  exact wpAny_truthy_bool ⟨kp_trans (kp_trans r₁.keeps r₂.keeps) k, rfl⟩

theorem tr_not {e : PySem.Expr} {pos : Pos} {b : Bool} (h : Tr prog w h₀ n sc m e b) : Tr prog w h₀ n sc m (.UnaryOp .Not e pos) (!b) := by
  intro A env s hs hr G
  exact isTrue_not (wpF (h A env s hs hr G) fun c s' r => ⟨r.1, by rw [r.2]⟩)

theorem tr_and_ff {e : PySem.Expr} {rest : List PySem.Expr} {pos : Pos} (h : Tr prog w h₀ n sc m e false) : Tr prog w h₀ n sc m (.BoolOp .And (e :: rest) pos) false := by
  intro A env s hs hr G
  refine isTrue_and (wpF (h A env s hs hr G) fun c s' r => ?_)
  rw [r.2]; exact ⟨r.1, rfl⟩
theorem tr_and_tt {e : PySem.Expr} {rest : List PySem.Expr} {pos : Pos} {b : Bool} (h : Tr prog w h₀ n sc m e true) (h' : Tr prog w h₀ n sc m (.BoolOp .And rest pos) b) : Tr prog w h₀ n sc m (.BoolOp .And (e :: rest) pos) b := by
  intro A env s hs hr G
  refine isTrue_and (wpF (h A env s hs hr G) fun c s' r => ?_)
  rw [r.2]; exact wpF (h' A env s' hs hr (G.keeps (kp_sub r.1))) fun c s'' r' => ⟨kp_trans r.1 r'.1, r'.2⟩
theorem tr_and_nil {pos : Pos} : Tr prog w h₀ n sc m (.BoolOp .And [] pos) true := by
  intro A env s hs hr G
  exact isTrue_and_nil ⟨kp_refl _, rfl⟩
theorem tr_or_tt {e : PySem.Expr} {rest : List PySem.Expr} {pos : Pos} (h : Tr prog w h₀ n sc m e true) : Tr prog w h₀ n sc m (.BoolOp .Or (e :: rest) pos) true := by
  intro A env s hs hr G
  refine isTrue_or (wpF (h A env s hs hr G) fun c s' r => ?_)
  rw [r.2]; exact ⟨r.1, rfl⟩
theorem tr_or_ff {e : PySem.Expr} {rest : List PySem.Expr} {pos : Pos} {b : Bool} (h : Tr prog w h₀ n sc m e false) (h' : Tr prog w h₀ n sc m (.BoolOp .Or rest pos) b) : Tr prog w h₀ n sc m (.BoolOp .Or (e :: rest) pos) b := by
  intro A env s hs hr G
  refine isTrue_or (wpF (h A env s hs hr G) fun c s' r => ?_)
  rw [r.2]; exact wpF (h' A env s' hs hr (G.keeps (kp_sub r.1))) fun c s'' r' => ⟨kp_trans r.1 r'.1, r'.2⟩
theorem tr_or_nil {pos : Pos} : Tr prog w h₀ n sc m (.BoolOp .Or [] pos) false := by
  intro A env s hs hr G
  exact isTrue_or_nil ⟨kp_refl _, rfl⟩
theorem tr_and2 {e e' : PySem.Expr} {pos : Pos} {b b' : Bool} (h : Tr prog w h₀ n sc m e b) (h' : b = true → Tr prog w h₀ n sc m e' b') : Tr prog w h₀ n sc m (.BoolOp .And [e, e'] pos) (b && b') := by
  cases b with
  | false => exact tr_and_ff h
  | true =>
    cases b' with
    | false => exact tr_and_tt h (tr_and_ff (h' rfl))
    | true => exact tr_and_tt h (tr_and_tt (h' rfl) tr_and_nil)
theorem tr_or2 {e e' : PySem.Expr} {pos : Pos} {b b' : Bool} (h : Tr prog w h₀ n sc m e b) (h' : b = false → Tr prog w h₀ n sc m e' b') : Tr prog w h₀ n sc m (.BoolOp .Or [e, e'] pos) (b || b') := by
  cases b with
  | true => exact tr_or_tt h
  | false =>
    cases b' with
    | true => exact tr_or_ff h (tr_or_tt (h' rfl))
    | false => exact tr_or_ff h (tr_or_ff (h' rfl) tr_or_nil)

/-- the truth of a value -/
def Tv (prog : Program) (w : World) (d : D) (b : Bool) : Prop :=
  ∀ (A : Around) (s : Shared) (v : Value), A.handled = none → IsD s.heap v d → wpAny (model prog w) A (truthy v) (fun c s' => Keeps s s' ∧ c = b) (fun _ _ => False) s
theorem tv_bool {b : Bool} : Tv prog w (.sc (.bool b)) b := by
  intro A s v hq h
  simp only [IsD, IsS] at h; subst h
  exact wpAny_truthy_bool ⟨kp_refl _, rfl⟩
theorem tv_str {x : Str} (hx : x.length ≤ sizeLine) : Tv prog w (.sc (.str x)) (decide (x.length ≠ 0)) := by
  intro A s v hq h
  simp only [IsD, IsS] at h
  obtain ⟨t, rfl⟩ := h
  refine P.truthy_str (by have : sizeLine = 2 ^ 24 := rfl; omega) ⟨kp_toks _ _, ?_⟩
  by_cases h0 : x.length = 0 <;> simp [h0]
theorem tr_plain {e : PySem.Expr} {d : D} {b : Bool} (h : Ev prog w h₀ n sc m e d) (ht : Tv prog w d b)
    (he : ∀ env whole, isTrue e env whole = (do let v ← whole; standAt e.pos; holding [v] (truthy v)) := by intro _ _; rfl) : Tr prog w h₀ n sc m e b := by
  intro A env s hs hr G
  refine isTrue_plain (wpF (h A env s hs hr G) fun v s₁ r₁ => ?_) (he _ _)
  exact wpF (ht A s₁ v hr.quiet r₁.is) fun c s₂ r₂ => ⟨kp_trans r₁.keeps r₂.1, r₂.2⟩

theorem ev_ite_tt {t e₁ e₂ : PySem.Expr} {pos : Pos} {d : D} (ht : Tr prog w h₀ n sc m t true) (h : Ev prog w h₀ n sc m e₁ d) : Ev prog w h₀ n sc m (.IfExp t e₁ e₂ pos) d := by
  intro A env s hs hr G
  refine wpAny_IfExp (wpF (ht A env s hs hr G) fun c s₁ r₁ => ?_)
  rw [r₁.2]; exact wpF (h A env s₁ hs hr (G.keeps (kp_sub r₁.1))) fun v s₂ r₂ => r₂.after r₁.1
theorem ev_ite_ff {t e₁ e₂ : PySem.Expr} {pos : Pos} {d : D} (ht : Tr prog w h₀ n sc m t false) (h : Ev prog w h₀ n sc m e₂ d) : Ev prog w h₀ n sc m (.IfExp t e₁ e₂ pos) d := by
  intro A env s hs hr G
  refine wpAny_IfExp (wpF (ht A env s hs hr G) fun c s₁ r₁ => ?_)
  rw [r₁.2]; exact wpF (h A env s₁ hs hr (G.keeps (kp_sub r₁.1))) fun v s₂ r₂ => r₂.after r₁.1
theorem ev_ite {t e₁ e₂ : PySem.Expr} {pos : Pos} {b : Bool} {d₁ d₂ : D} (ht : Tr prog w h₀ n sc m t b) (h₁ : b = true → Ev prog w h₀ n sc m e₁ d₁) (h₂ : b = false → Ev prog w h₀ n sc m e₂ d₂) :
    Ev prog w h₀ n sc m (.IfExp t e₁ e₂ pos) (if b then d₁ else d₂) := by
  cases b with
  | true => exact ev_ite_tt ht (h₁ rfl)
  | false => exact ev_ite_ff ht (h₂ rfl)
theorem ev_not {e : PySem.Expr} {pos : Pos} {b : Bool} {d : D} (h : Ev prog w h₀ n sc m e d) (ht : Tv prog w d b) : Ev prog w h₀ n sc m (.UnaryOp .Not e pos) (.sc (.bool (!b))) := by
  intro A env s hs hr G
  refine wpAny_UnaryOp (wpF (h A env s hs hr G) fun v s₁ r₁ => ?_)
  refine not_of ?_
  exact wpF (ht A s₁ v hr.quiet r₁.is) fun c s₂ r₂ => by rw [r₂.2]; exact .sc (kp_trans r₁.keeps r₂.1) rfl

/-! operations on ints -/
theorem op_add {a b : Int} : Op2 prog w .Add (.sc (.int a)) (.sc (.int b)) (.sc (.int (a + b))) := by
  rintro A s v₁ v₂ hq ⟨t, rfl⟩ ⟨u, rfl⟩
  exact P.add_int (.sc (kp_toks _ _) ⟨_, rfl⟩)
theorem op_sub {a b : Int} : Op2 prog w .Sub (.sc (.int a)) (.sc (.int b)) (.sc (.int (a - b))) := by
  rintro A s v₁ v₂ hq ⟨t, rfl⟩ ⟨u, rfl⟩
  exact P.sub_int (.sc (kp_toks _ _) ⟨_, rfl⟩)
theorem op_mul {a b : Int} (hm : IntMulOk a b) : Op2 prog w .Mult (.sc (.int a)) (.sc (.int b)) (.sc (.int (a * b))) := by
  rintro A s v₁ v₂ hq ⟨t, rfl⟩ ⟨u, rfl⟩
  exact P.mul_int (.sc (kp_toks _ _) ⟨_, rfl⟩) hm
theorem op_mod {a b : Int} (hb : b ≠ 0) : Op2 prog w .Mod (.sc (.int a)) (.sc (.int b)) (.sc (.int (a.fmod b))) := by
  rintro A s v₁ v₂ hq ⟨t, rfl⟩ ⟨u, rfl⟩
  exact mod_int' hb (.sc (kp_toks _ _) ⟨_, rfl⟩)
theorem op_fdiv {a b : Int} (hb : b ≠ 0) (hp : Builtin.divisionGoesByPylong a b = false) : Op2 prog w .FloorDiv (.sc (.int a)) (.sc (.int b)) (.sc (.int (a.fdiv b))) := by
  rintro A s v₁ v₂ hq ⟨t, rfl⟩ ⟨u, rfl⟩
  exact floordiv_int hb (.sc (kp_toks _ _) ⟨_, rfl⟩) (.inl hp)

theorem cm_lt {a b : Int} : Cm2 prog w .Lt (.sc (.int a)) (.sc (.int b)) (decide (a < b)) := by
  rintro A s v₁ v₂ hq ⟨t, rfl⟩ ⟨u, rfl⟩
  exact P.lt_int ⟨kp_refl _, rfl⟩
theorem cm_le {a b : Int} : Cm2 prog w .LtE (.sc (.int a)) (.sc (.int b)) (decide (a ≤ b)) := by
  rintro A s v₁ v₂ hq ⟨t, rfl⟩ ⟨u, rfl⟩
  exact P.le_int ⟨kp_refl _, rfl⟩
theorem cm_gt {a b : Int} : Cm2 prog w .Gt (.sc (.int a)) (.sc (.int b)) (decide (b < a)) := by
  rintro A s v₁ v₂ hq ⟨t, rfl⟩ ⟨u, rfl⟩
  exact P.gt_int ⟨kp_refl _, rfl⟩
theorem cm_ge {a b : Int} : Cm2 prog w .GtE (.sc (.int a)) (.sc (.int b)) (decide (b ≤ a)) := by
  rintro A s v₁ v₂ hq ⟨t, rfl⟩ ⟨u, rfl⟩
  exact P.ge_int ⟨kp_refl _, rfl⟩
theorem cm_eq {a b : Int} : Cm2 prog w .Eq (.sc (.int a)) (.sc (.int b)) (decide (a = b)) := by
  rintro A s v₁ v₂ hq ⟨t, rfl⟩ ⟨u, rfl⟩
  exact P.eq_int ⟨kp_refl _, rfl⟩
theorem cm_ne {a b : Int} : Cm2 prog w .NotEq (.sc (.int a)) (.sc (.int b)) (decide (a ≠ b)) := by
  rintro A s v₁ v₂ hq ⟨t, rfl⟩ ⟨u, rfl⟩
  refine P.ne_int ⟨kp_refl _, ?_⟩
  by_cases h : a = b <;> simp [h, bne]
theorem str_eq_iff {x y : Str} : x = y ↔ x.cps.toList = y.cps.toList := by
  obtain ⟨a⟩ := x; obtain ⟨b⟩ := y
  constructor
  · intro h; rw [h]
  · intro h; rw [show a = b from Array.toList_inj.mp h]
theorem cm_seq {x y : Str} : Cm2 prog w .Eq (.sc (.str x)) (.sc (.str y)) (decide (x = y)) := by
  rintro A s v₁ v₂ hq ⟨t, rfl⟩ ⟨u, rfl⟩
  refine P.eq_str ⟨kp_refl _, ?_⟩
  by_cases h : x = y
  · simp [h]
  · have h' : ¬ x.cps = y.cps := fun e => h (by obtain ⟨a⟩ := x; obtain ⟨b⟩ := y; cases e; rfl)
    simp [h, h']
theorem cm_sne {x y : Str} : Cm2 prog w .NotEq (.sc (.str x)) (.sc (.str y)) (decide (x ≠ y)) := by
  rintro A s v₁ v₂ hq ⟨t, rfl⟩ ⟨u, rfl⟩
  refine P.ne_str ⟨kp_refl _, ?_⟩
  by_cases h : x = y
  · simp [h, bne]
  · have h' : ¬ x.cps = y.cps := fun e => h (by obtain ⟨a⟩ := x; obtain ⟨b⟩ := y; cases e; rfl)
    simp [h, h', bne]

/-! texts -/
theorem op_cat {x y : Str} (hx : x.length + y.length ≤ sizeLine) : Op2 prog w .Add (.sc (.str x)) (.sc (.str y)) (.sc (.str (x ++ y))) := by
  rintro A s v₁ v₂ hq ⟨t, rfl⟩ ⟨u, rfl⟩
  exact SBL.add (fun t' k _ => .sc (kp_toks _ _) ⟨_, rfl⟩) hx
end
end Mine

end

section
open PySem PySem.W PyProof.Rows
set_option Elab.async false
namespace Mine

@[reducible] def ag : D → D
  | .own l => .ls l
  | .new l => .ls l
  | d => d
theorem isD_ag {h : Heap} {v : Value} {d : D} (x : IsD h v d) : IsD h v (ag d) := by cases d <;> first | exact x | exact IsLP.isL x

/-- the callee is one that the machine calls plainly -/
def Callable (h₀ : Heap) (fv : Value) : Prop :=
  (∃ id, fv = .builtin id) ∨ (∃ T, fv = .type T) ∨ (∃ a o fd, fv = .ref a ∧ h₀.get? a = some o ∧ o.data = .func fd)

structure Fn (prog : Program) (w : World) (h₀ : Heap) (n : Nat) (fv : Value) (ds : List D) (d : D) : Prop where
  ok : Callable h₀ fv
  run : ∀ (A : Around) (s : Shared) (vs : List Value), Rm n A → Sub h₀ s.heap → Paired (IsD s.heap) vs ds →
    wpAny (model prog w) A (call fv vs) (Res s d) (fun _ _ => False) s

/-- a name of the text's top or of the builtins -/
structure Gl (mg mb : Str → Option Value) (sc : Scope) (k : String) (fv : Value) : Prop where
  kind : sc.names.lookup (Str.ofString k) = some .globalImplicit
  val : mg (Str.ofString k) = some fv ∨ (mg (Str.ofString k) = none ∧ mb (Str.ofString k) = some fv)
  nodbg : (Str.ofString k == ("__debug__" : Str)) = false

section
variable {prog : Program} {w : World} {h₀ : Heap} {n : Nat} {sc : Scope} {m : Mp} {mg mb : Str → Option Value}

theorem gl_eval {A : Around} {env : Env} {s : Shared} {k : String} {pos : Pos} {fv : Value} {Q : Value → Shared → Prop} {E : Value → Shared → Prop} (am : Amb mg mb h₀) (hs : env.scope = sc) (G : Good h₀ env m s)
    (g : Gl mg mb sc k fv) (h : Q fv s) : wpAny (model prog w) A (eval (.Name (Str.ofString k) pos) env) Q E s := by
  have hk : env.kindOf (Str.ofString k) = some .globalImplicit := by unfold Env.kindOf; rw [hs]; exact g.kind
  refine Calls.Name_function_global G.kind hk ?_ g.nodbg
  have hg : s.heap.Ns env.globals mg := by rw [G.gl]; exact am.g.keeps G.base
  have hb : s.heap.Ns env.builtins mb := by rw [G.bl]; exact am.b.keeps G.base
  rcases g.val with e | ⟨e1, e2⟩
  · exact Calls.loadGlobal_global hg e h
  · exact Calls.loadGlobal_builtin hg e1 hb e2 h

def EvL (prog : Program) (w : World) (h₀ : Heap) (n : Nat) (sc : Scope) (m : Mp) : List PySem.Expr → List D → Prop
  | [], [] => True
  | e :: es, d :: ds => Ev prog w h₀ n sc m e d ∧ EvL prog w h₀ n sc m es ds
  | _, _ => False

def noStar : PySem.Expr → Bool
  | .Starred _ _ => false
  | _ => true

theorem starEach_cons {env : Env} {e : PySem.Expr} {es : List PySem.Expr} (h : noStar e = true) : starEach (e :: es) env = (false, eval e env) :: starEach es env := by
  cases e <;> first | rfl | (simp [noStar] at h)
theorem trees_eq {env : Env} (pos : Pos) : ∀ args : List PySem.Expr, (args.all noStar) = true → backTo pos (starEach args env) = args.map fun e => (false, eval e env)
  | [], _ => rfl
  | e :: es, h => by
    rw [List.all_cons, Bool.and_eq_true] at h
    have ih := trees_eq (env := env) pos es h.2
    rw [starEach_cons h.1]
    unfold backTo at ih ⊢
    rw [List.map_cons, ih]
    rfl

theorem ev_spliced {A : Around} {env : Env} {E : Value → Shared → Prop} (hs : env.scope = sc) (hr : Rm n A) : ∀ (args : List PySem.Expr) (ds : List D) (s : Shared), Good h₀ env m s → EvL prog w h₀ n sc m args ds →
    wpAny (model prog w) A (spliced (args.map fun e => (false, eval e env))) (fun vs s' => Keeps s s' ∧ Paired (IsD s'.heap) vs ds) E s
  | [], [], s, _, _ => Calls.spliced_nil ⟨kp_refl _, .nil⟩
  | e :: es, d :: ds, s, G, h => by
    refine Calls.spliced_cons (wpF (h.1 A env s hs hr G) fun v s₁ r => ?_)
    refine wpAny_mono (ev_spliced hs hr es ds s₁ (G.keeps (kp_sub r.keeps)) h.2) (fun vs s₂ r₂ => ?_) fun _ _ x => x
    exact ⟨kp_trans r.keeps r₂.1, .cons (r.is.keeps (kp_sub r₂.1)) r₂.2⟩
  | [], _ :: _, _, _, h => h.elim
  | _ :: _, [], _, _, h => h.elim

theorem ev_args {A : Around} {env : Env} {E : Value → Shared → Prop} {f : Value} {args : List PySem.Expr} {ds : List D} {s : Shared} {Q : Args → Shared → Prop} (hs : env.scope = sc) (hr : Rm n A) (G : Good h₀ env m s)
    (h : EvL prog w h₀ n sc m args ds) (hq : ∀ vs s', Keeps s s' → Paired (IsD s'.heap) vs ds → Q ⟨vs, []⟩ s') :
    wpAny (model prog w) A (evalArgs f true (args.map fun e => (false, eval e env)) []) Q E s := by
  cases args with
  | nil =>
    cases ds with
    | nil => exact PySem.evalArgs_none (hq [] s (kp_refl _) .nil)
    | cons d ds => exact h.elim
  | cons e es => exact Calls.evalArgs_plain (wpAny_mono (ev_spliced hs hr (e :: es) ds s G h) (fun vs s' r => hq vs s' r.1 r.2) fun _ _ x => x)

theorem any_plain {env : Env} (args : List PySem.Expr) : (args.map fun e => ((false, eval e env) : Bool × Sem Value)).any (·.1) = false := by
  induction args with
  | nil => rfl
  | cons e es ih => simp

theorem ev_callWith {A : Around} {env : Env} {E : Value → Shared → Prop} {fv : Value} {pos : Pos} {first : List Value} {args : List PySem.Expr} {ds : List D} {s : Shared} {Q : Value → Shared → Prop} (hs : env.scope = sc) (hr : Rm n A) (G : Good h₀ env m s)
    (ok : Callable h₀ fv) (h : EvL prog w h₀ n sc m args ds) (hq : ∀ vs s', Keeps s s' → Paired (IsD s'.heap) vs ds → wpAny (model prog w) A (call fv (first ++ vs)) Q E s') :
    wpAny (model prog w) A (callWith pos fv first (args.map fun e => (false, eval e env)) []) Q E s := by
  rcases ok with ⟨id, rfl⟩ | ⟨T, rfl⟩ | ⟨a, o, fd, rfl, ho, hd⟩
  · exact Calls.callWith_builtin (any_plain args) (ev_args hs hr G h hq)
  · exact PySem.callWith_type (any_plain args) (ev_args hs hr G h hq)
  · exact Calls.callWith_function (o := o) (fd := fd) (ev_args hs hr G h fun vs s' k p => ⟨⟨kp_sub k _ _ (G.base _ _ ho), hd⟩, hq vs s' k p⟩)

theorem ev_call {k : String} {p pos : Pos} {args : List PySem.Expr} {ds : List D} {d : D} {fv : Value} (am : Amb mg mb h₀) (g : Gl mg mb sc k fv) (f : Fn prog w h₀ n fv ds d) (h : EvL prog w h₀ n sc m args ds)
    (hst : args.all noStar = true := by rfl) : Ev prog w h₀ n sc m (.Call (.Name (Str.ofString k) p) args [] pos) d := by
  intro A env s hs hr G
  refine Call_Name (trees_eq pos args hst) (gl_eval am hs G g ?_)
  exact ev_callWith hs hr G f.ok h fun vs s' k' p' => wpF (f.run A s' vs hr (fun b o e => kp_sub k' b o (G.base b o e)) p') fun v s'' r => r.after k'

/-! methods of texts -/
def Me0 (prog : Program) (w : World) (name : Str) (d₀ d : D) : Prop :=
  ∀ (A : Around) (s : Shared) (v : Value) (pos : Pos), A.handled = none → IsD s.heap v d₀ → MethodOnS prog w A (fun _ _ => False) name v pos [] (Res s d) s
def Me1 (prog : Program) (w : World) (name : Str) (d₀ d₁ d : D) : Prop :=
  ∀ (A : Around) (s : Shared) (v : Value) (pos : Pos) (a : Sem Value), A.handled = none → IsD s.heap v d₀ → wpAny (model prog w) A a (Res s d₁) (fun _ _ => False) s →
    MethodOnS prog w A (fun _ _ => False) name v pos [(false, a)] (Res s d) s

theorem MethodOnS.mono {A : Around} {E : Value → Shared → Prop} {name : Str} {v : Value} {pos : Pos} {args : List (Bool × Sem Value)} {Q Q' : Value → Shared → Prop} {s : Shared}
    (h : MethodOnS prog w A E name v pos args Q s) (hq : ∀ v s, Q v s → Q' v s) : MethodOnS prog w A E name v pos args Q' s := by
  obtain ⟨T, id, h1, h2, h3, h4, h5, h6⟩ := h
  exact ⟨T, id, h1, h2, h3, h4, h5, wpAny_mono h6 hq fun _ _ x => x⟩

theorem ev_me0 {o : PySem.Expr} {name : Str} {apos pos : Pos} {d₀ d : D} (h : Ev prog w h₀ n sc m o d₀) (hm : Me0 prog w name d₀ d)
    (hb : ∀ env whole, attributeBase o name env whole = whole := by intro _ _; rfl) (hl : (apos.endLine == pos.line) = true := by rfl) :
    Ev prog w h₀ n sc m (.Call (.Attribute o name apos) [] [] pos) d := by
  intro A env s hs hr G
  refine Call_method0 (hb _ _) hl (wpF (h A env s hs hr G) fun v s₁ r => ?_)
  exact MethodOnS.mono (hm A s₁ v pos hr.quiet r.is) fun v s₂ r₂ => r₂.after r.keeps
theorem ev_me1 {o e : PySem.Expr} {name : Str} {apos pos : Pos} {d₀ d₁ d : D} (h : Ev prog w h₀ n sc m o d₀) (h₁ : Ev prog w h₀ n sc m e d₁) (hm : Me1 prog w name d₀ d₁ d)
    (hb : ∀ env whole, attributeBase o name env whole = whole := by intro _ _; rfl) (hl : (apos.endLine == pos.line) = true := by rfl) (hst : noStar e = true := by rfl) :
    Ev prog w h₀ n sc m (.Call (.Attribute o name apos) [e] [] pos) d := by
  intro A env s hs hr G
  refine Call_method1 (hb _ _) (starEach_cons hst) hl (wpF (h A env s hs hr G) fun v s₁ r => ?_)
  exact MethodOnS.mono (hm A s₁ v pos _ hr.quiet r.is (h₁ A env s₁ hs hr (G.keeps (kp_sub r.keeps)))) fun v s₂ r₂ => r₂.after r.keeps
end
end Mine

end

section
open PySem PySem.W PyProof.Rows
set_option Elab.async false
namespace Mine

@[reducible] def asL : D → Option (List S)
  | .ls l => some l
  | .own l => some l
  | .new l => some l
  | .sc _ => none
theorem isD_asL {h : Heap} {v : Value} {d : D} {l : List S} (e : asL d = some l) (x : IsD h v d) : IsL h v l := by
  cases d <;> simp only [asL, Option.some.injEq, reduceCtorEq] at e <;> subst e <;> first | exact x | exact IsLP.isL x

namespace Pr
variable {α β : Type} {F : α → β → Prop}
theorem len : ∀ {xs : List α} {ys : List β}, Paired F xs ys → xs.length = ys.length
  | _, _, .nil => rfl
  | _, _, .cons _ h => by simp [len h]
theorem get : ∀ {xs : List α} {ys : List β}, Paired F xs ys → ∀ (i : Nat) (y : β), ys[i]? = some y → ∃ x, xs[i]? = some x ∧ F x y
  | _, _, .nil, i, y, e => by simp at e
  | _, _, .cons h _, 0, y, e => by simp at e; subst e; exact ⟨_, rfl, h⟩
  | _, _, .cons _ h, i + 1, y, e => by simpa using get h i y (by simpa using e)
theorem append : ∀ {xs xs' : List α} {ys ys' : List β}, Paired F xs ys → Paired F xs' ys' → Paired F (xs ++ xs') (ys ++ ys')
  | _, _, _, _, .nil, h => h
  | _, _, _, _, .cons h t, h' => .cons h (append t h')
theorem take : ∀ {xs : List α} {ys : List β} (n : Nat), Paired F xs ys → Paired F (xs.take n) (ys.take n)
  | _, _, 0, _ => by simpa using Paired.nil
  | _, _, _ + 1, .nil => by simpa using Paired.nil
  | _, _, n + 1, .cons h t => by simpa using Paired.cons h (take n t)
theorem drop : ∀ {xs : List α} {ys : List β} (n : Nat), Paired F xs ys → Paired F (xs.drop n) (ys.drop n)
  | _, _, 0, h => by simpa using h
  | _, _, _ + 1, .nil => by simpa using Paired.nil
  | _, _, n + 1, .cons _ t => by simpa using drop n t
end Pr

section
variable {prog : Program} {w : World} {h₀ : Heap} {n : Nat} {sc : Scope} {m : Mp} {mg mb : Str → Option Value}

theorem new_list {s s₁ : Shared} {vs : List Value} {l : List S} (k : Keeps s s₁) (p : Paired IsS vs l) :
    Res s (.new l) (.ref s₁.heap.objs.size) { s₁ with heap := s₁.heap.push { cls := .type "list", data := .seq vs.toArray } } := by
  refine ⟨kp_trans k (kp_push _ _), ⟨_, vs.toArray, rfl, ⟨_, Heap.get?_push_size _ rfl⟩, by simpa using p⟩, ?_⟩
  intro a ha
  cases ha
  cases e : s.heap.get? s₁.heap.objs.size with
  | none => rfl
  | some o => exact absurd (Heap.lt_size (kp_sub k _ _ e)) (Nat.lt_irrefl _)

def scD : List S → List D := List.map D.sc
theorem paired_sc {h : Heap} : ∀ {vs : List Value} {l : List S}, Paired (IsD h) vs (scD l) → Paired IsS vs l
  | _, [], h => by cases h; exact .nil
  | _, x :: l, h => by cases h with | cons h t => exact .cons h (paired_sc t)

theorem ev_list {elts : List PySem.Expr} {pos : Pos} {l : List S} (h : EvL prog w h₀ n sc m elts (scD l)) (hl : l.length ≤ sizeLine) (hst : elts.all noStar = true := by rfl) :
    Ev prog w h₀ n sc m (.List elts pos) (.new l) := by
  intro A env s hs hr G
  refine wpAny_List ?_
  rw [trees_eq pos elts hst]
  refine wpAny_mono (ev_spliced hs hr elts (scD l) s G h) (fun vs s' r => ?_) fun _ _ x => x
  have p := paired_sc r.2
  exact ⟨by rw [Pr.len p]; exact hl, new_list r.1 p⟩

theorem ev_item {v i : PySem.Expr} {pos : Pos} {d : D} {l : List S} {k : Int} {x : S} (hv : Ev prog w h₀ n sc m v d) (hi : Ev prog w h₀ n sc m i (.sc (.int k))) (hd : asL d = some l)
    (h0 : 0 ≤ k) (hx : l[k.toNat]? = some x) (h63 : l.length ≤ sizeLine)
    (hsub : ∀ a u, subscripted i false (.ref a) (.int k u) = operate [.ref a, .int k u] (getItem (.ref a) (.int k u)) := by intro _ _; with_unfolding_all rfl) :
    Ev prog w h₀ n sc m (.Subscript v i pos) (.sc x) := by
  intro A env s hs hr G
  refine Subscript_ (wpF (hv A env s hs hr G) fun ov s₁ r₁ => ?_)
  refine wpF (hi A env s₁ hs hr (G.keeps (kp_sub r₁.keeps))) fun iv s₂ r₂ => ?_
  obtain ⟨a, items, rfl, hl, p⟩ := isD_asL hd (r₁.is.keeps (kp_sub r₂.keeps))
  obtain ⟨u, rfl⟩ := r₂.is
  obtain ⟨y, hy, hyx⟩ := Pr.get p _ _ hx
  have hlt : k.toNat < l.length := by
    rcases Nat.lt_or_ge k.toNat l.length with h | h
    · exact h
    · rw [List.getElem?_eq_none h] at hx; cases hx
  refine tail_any hl.typeIs slot_list_getitem.lookup (wpAny_getItem_list hl h0 (by have : sizeLine = 2 ^ 24 := rfl; omega) (by rw [← Array.getElem?_toList]; exact hy) ?_) (hsub a u)
  exact .sc (kp_trans r₁.keeps r₂.keeps) hyx

/-- a part of a slice -/
def Pt (prog : Program) (w : World) (h₀ : Heap) (n : Nat) (sc : Scope) (m : Mp) : Option PySem.Expr → Option Int → Prop
  | none, none => True
  | some e, some i => Ev prog w h₀ n sc m e (.sc (.int i))
  | _, _ => False
theorem pt_eval {A : Around} {env : Env} {s : Shared} {E : Value → Shared → Prop} {e : Option PySem.Expr} {i : Option Int} (hs : env.scope = sc) (hr : Rm n A) (G : Good h₀ env m s) (h : Pt prog w h₀ n sc m e i) :
    wpAny (model prog w) A (evalPart e env) (fun v s' => Keeps s s' ∧ IsPart v i) E s := by
  cases e with
  | none =>
    cases i with
    | none => rw [evalPart_none]; exact wpAny_pure ⟨kp_refl _, .none⟩
    | some i => exact h.elim
  | some e =>
    cases i with
    | none => exact h.elim
    | some i => rw [evalPart_some]; exact wpF (h A env s hs hr G) fun v s' r => ⟨r.keeps, by obtain ⟨t, rfl⟩ := r.is; exact .int _ _⟩

def cut {α : Type} (l : List α) (lo hi : Option Int) : List α :=
  (l.drop (lo.elim 0 (clipAt l.length))).take (hi.elim l.length (clipAt l.length) - lo.elim 0 (clipAt l.length))

theorem ev_slice {v : PySem.Expr} {le ue : Option PySem.Expr} {p pos : Pos} {d : D} {l : List S} {lo hi : Option Int} (hv : Ev prog w h₀ n sc m v d) (hlo : Pt prog w h₀ n sc m le lo) (hhi : Pt prog w h₀ n sc m ue hi)
    (hd : asL d = some l) (hsz : l.length ≤ sizeLine) :
    Ev prog w h₀ n sc m (.Subscript v (.Slice le ue none p) pos) (.new (cut l lo hi)) := by
  intro A env s hs hr G
  refine Subscript_ (wpF (hv A env s hs hr G) fun ov s₁ r₁ => ?_)
  have G₁ := G.keeps (kp_sub r₁.keeps)
  refine wpAny_Slice (wpAny_mono (pt_eval hs hr G₁ hlo) (fun vl s₂ r₂ => ?_) fun _ _ x => x)
  have G₂ := G₁.keeps (kp_sub r₂.1)
  refine wpAny_mono (pt_eval hs hr G₂ hhi) (fun vu s₃ r₃ => ?_) fun _ _ x => x
  rw [evalPart_none]; refine wpAny_pure ?_
  obtain ⟨a, items, rfl, hl, pr⟩ := isD_asL hd (r₁.is.keeps (kp_sub (kp_trans r₂.1 r₃.1)))
  have hlen : items.size = l.length := by rw [← Array.length_toList]; exact Pr.len pr
  refine tail_any (hl.push _).typeIs slot_list_getitem.lookup (wpAny_getItem_list_slice (hl.push _) (Heap.IsSliceOf.new ..) r₂.2 r₃.2 .none (by simp) ?_ (by rw [hlen]; exact hsz)) (by rfl)
  rw [slicePick_plain, hlen]
  refine new_list (s₁ := { s₃ with heap := s₃.heap.push { cls := .type "slice", data := .fields #[vl, vu, .none] } }) (kp_trans (kp_trans r₁.keeps (kp_trans r₂.1 r₃.1)) (kp_push _ _)) ?_
  exact Pr.take _ (Pr.drop _ pr)

theorem op_lcat {d₁ d₂ : D} {l₁ l₂ : List S} (h₁ : asL d₁ = some l₁) (h₂ : asL d₂ = some l₂) (hsz : l₁.length + l₂.length ≤ sizeLine) : Op2 prog w .Add d₁ d₂ (.new (l₁ ++ l₂)) := by
  intro A s v₁ v₂ hq i₁ i₂
  obtain ⟨a, items, rfl, hl, p⟩ := isD_asL h₁ i₁
  obtain ⟨b, items', rfl, hl', p'⟩ := isD_asL h₂ i₂
  obtain ⟨⟨cls, dd, data, sl⟩, ho, hc, n, hd⟩ := id hl
  obtain ⟨⟨cls2, dd2, data2, sl2⟩, ho2, hc2, n2, hd2⟩ := id hl'
  simp only at hc hd hc2 hd2
  subst hc hd hc2 hd2
  have e1 : items.size = l₁.length := by rw [← Array.length_toList]; exact Pr.len p
  have e2 : items'.size = l₂.length := by rw [← Array.length_toList]; exact Pr.len p'
  refine concat_meets ⟨_, ho, rfl⟩ ⟨_, ho2, rfl⟩ noFill_list_add seq_list_add PySem.F.slot_list_add PySem.F.entry_list_add (PySem.F.args_list_add_2 _ _) (list_addW a b items items' n n2 dd dd2 sl sl2 (by rw [e1, e2]; exact hsz)) ⟨ho, ho2, ?_⟩
  have e : items ++ items' = (items.toList ++ items'.toList).toArray := by simp
  rw [e]
  exact new_list (kp_refl _) (Pr.append p p')

theorem fn_len_list {d : D} {l : List S} (hd : asL d = some l) (hsz : l.length ≤ sizeLine) : Fn prog w h₀ n (.builtin "len") [d] (.sc (.int l.length)) := by
  refine ⟨.inl ⟨_, rfl⟩, fun A s vs hr hb p => ?_⟩
  cases p with
  | cons h t =>
    cases t
    obtain ⟨a, items, rfl, hl, p⟩ := isD_asL hd h
    have e1 : items.size = l.length := by rw [← Array.length_toList]; exact Pr.len p
    have hsl : sizeLine = 2 ^ 24 := rfl
    refine len_list hl (by omega) ?_
    rw [e1]; exact .sc (kp_toks _ _) ⟨_, rfl⟩
theorem fn_len_str {x : Str} (hsz : x.length ≤ sizeLine) : Fn prog w h₀ n (.builtin "len") [.sc (.str x)] (.sc (.int x.length)) := by
  refine ⟨.inl ⟨_, rfl⟩, fun A s vs hr hb p => ?_⟩
  cases p with
  | cons h t =>
    cases t
    obtain ⟨t, rfl⟩ := h
    have hsl : sizeLine = 2 ^ 24 := rfl
    exact PySem.P.len_str (by omega) (.sc (kp_toks _ _) ⟨_, rfl⟩)
theorem fn_max {a b : Int} : Fn prog w h₀ n (.builtin "max") [.sc (.int a), .sc (.int b)] (.sc (.int (max a b))) := by
  refine ⟨.inl ⟨_, rfl⟩, fun A s vs hr hb p => ?_⟩
  cases p with
  | cons h t => cases t with
    | cons h' t =>
      cases t
      obtain ⟨t, rfl⟩ := h
      obtain ⟨t', rfl⟩ := h'
      refine max_two_ints hr.quiet fun h' tk hk => ?_
      refine .sc ⟨h', tk, rfl, hk⟩ ?_
      by_cases hc : b > a
      · rw [if_pos hc]; exact ⟨_, by rw [Int.max_eq_right (by omega)]⟩
      · rw [if_neg hc]; exact ⟨_, by rw [Int.max_eq_left (by omega)]⟩

def ofI (l : List Int) : List S := l.map S.int
theorem paired_ofI : ∀ {vs : List Value} {l : List Int}, Paired IsS vs (ofI l) → ∃ xs : List (Int × Tok), vs = xs.map (fun p => Value.int p.1 p.2) ∧ xs.map (·.1) = l
  | _, [], h => by cases h; exact ⟨[], rfl, rfl⟩
  | _, x :: l, h => by
    cases h with
    | cons h t =>
      obtain ⟨u, rfl⟩ := h
      obtain ⟨xs, rfl, rfl⟩ := paired_ofI t
      exact ⟨(x, u) :: xs, rfl, rfl⟩
theorem fn_sum {d : D} {l : List Int} (hd : asL d = some (ofI l)) : Fn prog w h₀ n (.builtin "sum") [d] (.sc (.int l.sum)) := by
  refine ⟨.inl ⟨_, rfl⟩, fun A s vs hr hb p => ?_⟩
  cases p with
  | cons h t =>
    cases t
    obtain ⟨a, items, rfl, hl, p⟩ := isD_asL hd h
    obtain ⟨xs, e1, e2⟩ := paired_ofI p
    have e3 : items = intItems xs.toArray := by
      apply Array.toList_inj.mp; rw [e1]; simp [intItems]
    subst e3
    refine sum_intListG hr.quiet hl fun h' tk t' hk => ?_
    refine .sc ⟨h', tk, rfl, hk⟩ ⟨t', ?_⟩
    rw [preSum_eq, List.take_of_length_le (by simp)]
    simp [e2]
end
end Mine

end

section
open PySem PySem.W PyProof.Rows
set_option Elab.async false
namespace Mine

abbrev Zp := Addr → Option Obj

structure GoodW (h₀ : Heap) (ze : Zp) (env : Env) (z : Zp) (m : Mp) (s : Shared) : Prop where
  good : Good h₀ env m s
  zin : ∀ b o, z b = some o → s.heap.get? b = some o
  zb : ∀ b o, h₀.get? b = some o → z b = some o
  loc : z env.locals = none
  ns : ∃ ml, s.heap.Ns env.locals ml
  cel : ∀ k, env.kindOf k = some .cell → ∃ c vo, env.cells.lookup k = some c ∧ z c = none ∧ s.heap.IsCell c vo
  cap : ∀ k k' c, env.cells.lookup k = some c → env.cells.lookup k' = some c → k = k'
  sep : ∀ k l, lk m k = some (.own l) → ∃ a, Has env s.heap k (.ref a) ∧ z a = none ∧ ∀ k' d, k' ≠ k → lk m k' = some d → ¬ Has env s.heap k' (.ref a)
  nonew : ∀ k l, lk m k ≠ some (.new l)
  zez : ∀ b o, ze b = some o → z b = some o
  lsz : ∀ k l, lk m k = some (.ls l) → ∃ a o, Has env s.heap k (.ref a) ∧ ze a = some o

inductive Fl where
  | next | brk | cont | ret (d : D)

def FlowIs (z : Zp) (h : Heap) (f : Flow) : Fl → Prop
  | .next => f = .next
  | .brk => f = .brk
  | .cont => f = .cont
  | .ret d => ∃ v, f = .ret v ∧ IsD h v d ∧ (∀ l a, d = .new l → v = .ref a → z a = none)

def Same (s s' : Shared) : Prop := ∃ h tk, s' = { s with heap := h, toks := tk }
theorem same_refl (s : Shared) : Same s s := ⟨s.heap, s.toks, rfl⟩
theorem same_trans {a b c : Shared} (x : Same a b) (y : Same b c) : Same a c := by
  obtain ⟨h, t, rfl⟩ := x; obtain ⟨h', t', rfl⟩ := y; exact ⟨h', t', rfl⟩
theorem same_keeps {a b : Shared} (x : Keeps a b) : Same a b := by obtain ⟨h, t, rfl, _⟩ := x; exact ⟨h, t, rfl⟩

/-- statements: from m, every end is an f with a map m' such that R f m' -/
def Ex (prog : Program) (w : World) (h₀ : Heap) (n : Nat) (sc : Scope) (m : Mp) (body : List Stmt) (R : Fl → Mp → Prop) : Prop :=
  ∀ (A : Around) (env : Env) (ze z : Zp) (s : Shared), env.scope = sc → Rm n A → GoodW h₀ ze env z m s →
    wpAny (model prog w) A (execs body env) (fun f s' => ∃ r m', R r m' ∧ FlowIs z s'.heap f r ∧ Same s s' ∧ GoodW h₀ ze env z m' s') (fun _ _ => False) s
def Ex1 (prog : Program) (w : World) (h₀ : Heap) (n : Nat) (sc : Scope) (m : Mp) (st : Stmt) (R : Fl → Mp → Prop) : Prop :=
  ∀ (A : Around) (env : Env) (ze z : Zp) (s : Shared), env.scope = sc → Rm n A → GoodW h₀ ze env z m s →
    wpAny (model prog w) A (exec st env) (fun f s' => ∃ r m', R r m' ∧ FlowIs z s'.heap f r ∧ Same s s' ∧ GoodW h₀ ze env z m' s') (fun _ _ => False) s

theorem GoodW.keeps {h₀ : Heap} {env : Env} {ze z : Zp} {m : Mp} {s s' : Shared} (G : GoodW h₀ ze env z m s) (hk : Sub s.heap s'.heap) : GoodW h₀ ze env z m s' where
  good := G.good.keeps hk
  zin := fun b o e => hk _ _ (G.zin b o e)
  zb := G.zb
  loc := G.loc
  ns := let ⟨ml, h⟩ := G.ns; ⟨ml, h.keeps hk⟩
  cel := fun k e => let ⟨c, vo, h1, h2, h3⟩ := G.cel k e; ⟨c, vo, h1, h2, isCell_keeps h3 hk⟩
  cap := G.cap
  sep := fun k l e => by
    obtain ⟨a, h1, h2, h3⟩ := G.sep k l e
    refine ⟨a, h1.keeps hk, h2, fun k' d hne e' hh => ?_⟩
    obtain ⟨v, hv, _⟩ := G.good.vars k' d e'
    have : v = .ref a := (hv.keeps hk).unique hh
    subst this
    exact h3 k' d hne e' hv
  nonew := G.nonew
  zez := G.zez
  lsz := fun k l e => let ⟨a, o, h1, h2⟩ := G.lsz k l e; ⟨a, o, h1.keeps hk, h2⟩

/-- fewer names -/
theorem GoodW.fewer {h₀ : Heap} {env : Env} {ze z : Zp} {m m' : Mp} {s : Shared} (G : GoodW h₀ ze env z m s) (h : ∀ k d, lk m' k = some d → lk m k = some d) : GoodW h₀ ze env z m' s where
  good := ⟨G.good.kind, G.good.gl, G.good.bl, G.good.base, fun k d e => G.good.vars k d (h k d e)⟩
  zin := G.zin
  zb := G.zb
  loc := G.loc
  ns := G.ns
  cel := G.cel
  cap := G.cap
  sep := fun k l e => let ⟨a, h1, h2, h3⟩ := G.sep k l (h k _ e); ⟨a, h1, h2, fun k' d hne e' => h3 k' d hne (h k' d e')⟩
  nonew := fun k l e => G.nonew k l (h k _ e)
  zez := G.zez
  lsz := fun k l e => G.lsz k l (h k _ e)

theorem dict_not_list {h : Heap} {a : Addr} {ml : Str → Option Value} {items : Array Value} (x : h.Ns a ml) (y : h.IsList a items) : False := by
  obtain ⟨o, es, ep, ho, hd, _⟩ := x
  obtain ⟨o', ho', _, n, hd'⟩ := y
  rw [ho] at ho'; cases ho'; rw [hd] at hd'; cases hd'
theorem dict_not_cell {h : Heap} {a : Addr} {ml : Str → Option Value} {v : Option Value} (x : h.Ns a ml) (y : h.IsCell a v) : False := by
  obtain ⟨o, es, ep, ho, hd, _⟩ := x
  obtain ⟨o', ho', hd'⟩ := y
  rw [ho] at ho'; cases ho'; rw [hd] at hd'; cases hd'
theorem cell_not_list {h : Heap} {a : Addr} {v : Option Value} {items : Array Value} (x : h.IsCell a v) (y : h.IsList a items) : False := by
  obtain ⟨o, ho, hd⟩ := x
  obtain ⟨o', ho', _, n, hd'⟩ := y
  rw [ho] at ho'; cases ho'; rw [hd] at hd'; cases hd'

theorem isL_but {h h' : Heap} {b : Addr} {v : Value} {l : List S} (x : IsL h v l) (hs : Heap.ExtBut b h h') (hb : ∀ items, ¬ h.IsList b items) : IsL h' v l := by
  obtain ⟨a, items, rfl, hl, p⟩ := x
  exact ⟨a, items, rfl, hl.extBut hs (by rintro rfl; exact hb _ hl), p⟩
theorem isLP_but {h h' : Heap} {b : Addr} {v : Value} {l : List S} (x : IsLP h v l) (hs : Heap.ExtBut b h h') (hb : ∀ items, ¬ h.IsList b items) : IsLP h' v l := by
  obtain ⟨a, items, rfl, hl, p⟩ := x
  exact ⟨a, items, rfl, hl.extBut hs (by rintro rfl; exact hb _ hl.isList), p⟩
theorem isD_but {h h' : Heap} {b : Addr} {v : Value} {d : D} (x : IsD h v d) (hs : Heap.ExtBut b h h') (hb : ∀ items, ¬ h.IsList b items) : IsD h' v d := by
  cases d with
  | sc x => exact x
  | ls l => exact isL_but x hs hb
  | own l => exact isLP_but x hs hb
  | new l => exact isLP_but x hs hb

/-- what a variable holds behind a store -/
@[reducible] def stD : D → D
  | .new l => .own l
  | d => d
theorem isD_st {h : Heap} {v : Value} {d : D} (x : IsD h v d) : IsD h v (stD d) := by cases d <;> exact x
@[reducible] def Storable : D → Prop
  | .sc _ => True
  | .new _ => True
  | _ => False

theorem str_ne {k k' : String} (h : k' ≠ k) : Str.ofString k' ≠ Str.ofString k := fun e => h (ofString_inj e)

section
variable {prog : Program} {w : World} {h₀ : Heap} {n : Nat} {sc : Scope} {m : Mp}

/-- one variable set -/
theorem store' {A : Around} {env : Env} {ze z : Zp} {s s₁ : Shared} {k : String} {v : Value} {d : D} {E : Value → Shared → Prop} (G : GoodW h₀ ze env z m s) (r : Res s d v s₁) (hd : Storable d)
    (hk : env.kindOf (Str.ofString k) = some .local ∨ env.kindOf (Str.ofString k) = some .cell) :
    wpAny (model prog w) A (storeName env (Str.ofString k) v) (fun _ s' => Same s₁ s' ∧ GoodW h₀ ze env z ((k, stD d) :: m) s' ∧ ∃ b, Heap.SameBut b s₁.heap s'.heap ∧ ∃ o, s.heap.get? b = some o) E s₁ := by
  have G₁ := G.keeps (kp_sub r.keeps)
  obtain ⟨ml, hn⟩ := G₁.ns
  have hp : (env.scope.kind == .class || (env.scope.kind == .module && env.locals != env.globals)) = false := by rw [G.good.kind]; rfl
  -- the new list's address is not that of any variable
  have hfresh : ∀ l a, d = .new l → v = .ref a → z a = none ∧ ∀ k' d', lk m k' = some d' → ¬ Has env s₁.heap k' (.ref a) := by
    intro l a e1 e2
    subst e1
    have hno := r.fresh a e2
    refine ⟨?_, fun k' d' e' hh => ?_⟩
    · cases e : z a with
      | none => rfl
      | some o => rw [G.zin a o e] at hno; cases hno
    · obtain ⟨v', hv', hd'⟩ := G.good.vars k' d' e'
      have : v' = .ref a := (hv'.keeps (kp_sub r.keeps)).unique hh
      subst this
      have dead : ∀ l, ¬ IsL s.heap (.ref a) l := by
        rintro l ⟨a', items, ea, ⟨o, ho, _⟩, _⟩
        cases ea; rw [hno] at ho; cases ho
      cases d' with
      | sc x => exact IsS.notRef hd' a rfl
      | ls l => exact dead _ hd'
      | own l => exact dead _ (IsLP.isL hd')
      | new l => exact dead _ (IsLP.isL hd')
  have finish : ∀ (h' : Heap) (tk : Nat) (b : Addr), Heap.SameBut b s₁.heap h' → (∀ items, ¬ s₁.heap.IsList b items) → z b = none →
      (∃ ml, h'.Ns env.locals ml) → Has env h' k v → (∀ k' v', k' ≠ k → Has env s₁.heap k' v' → Has env h' k' v') →
      (∀ k', env.kindOf k' = some .cell → ∃ c vo, env.cells.lookup k' = some c ∧ z c = none ∧ h'.IsCell c vo) →
      GoodW h₀ ze env z ((k, stD d) :: m) { s₁ with heap := h', toks := tk } := by
    intro h' tk b hsb hbl hzb hns hkv hoth hcel
    have vars : ∀ k' d', lk ((k, stD d) :: m) k' = some d' → ∃ v', Has env h' k' v' ∧ IsD h' v' d' := by
      intro k' d' e
      rw [lk_cons] at e
      by_cases hkk : k = k'
      · subst hkk
        rw [if_pos rfl] at e; cases e
        exact ⟨v, hkv, isD_but (isD_st r.is) hsb.extBut hbl⟩
      · rw [if_neg hkk] at e
        obtain ⟨v', hv', hd'⟩ := G₁.good.vars k' d' e
        exact ⟨v', hoth k' v' (Ne.symm hkk) hv', isD_but hd' hsb.extBut hbl⟩
    refine ⟨⟨G.good.kind, G.good.gl, G.good.bl, fun b' o e => ?_, vars⟩, fun b' o e => ?_, G.zb, G.loc, hns, hcel, G.cap, fun k' l e => ?_, fun k' l e => ?_, G.zez, fun k' l e => ?_⟩
    · exact hsb.extBut b' o (by rintro rfl; have := G.zb b' o e; rw [hzb] at this; cases this) (G₁.good.base b' o e)
    · exact hsb.extBut b' o (by rintro rfl; rw [hzb] at e; cases e) (G₁.zin b' o e)
    · rw [lk_cons] at e
      by_cases hkk : k = k'
      · subst hkk
        rw [if_pos rfl] at e
        have hnew : d = .new l := by cases d <;> simp only [stD, Option.some.injEq, D.own.injEq, reduceCtorEq] at e <;> first | exact e.elim | exact hd.elim | (subst e; rfl)
        obtain ⟨a, items, ea, _⟩ : IsLP s₁.heap v l := by have := r.is; rw [hnew] at this; exact this
        obtain ⟨f1, f2⟩ := hfresh l a hnew ea
        refine ⟨a, by rw [← ea]; exact hkv, f1, fun k' d' hne e' hh => ?_⟩
        rw [lk_other (Ne.symm hne)] at e'
        obtain ⟨v', hv', _⟩ := G₁.good.vars k' d' e'
        have : v' = .ref a := (hoth k' v' hne hv').unique hh
        subst this
        exact f2 k' d' e' hv'
      · rw [if_neg hkk] at e
        obtain ⟨a, h1, h2, h3⟩ := G₁.sep k' l e
        refine ⟨a, hoth k' _ (Ne.symm hkk) h1, h2, fun k'' d' hne e' hh => ?_⟩
        by_cases hk2 : k = k''
        · subst hk2
          have hva : v = .ref a := hkv.unique hh
          rw [lk_same] at e'
          cases d with
          | sc x => exact IsS.notRef r.is a hva
          | new l' => exact (hfresh l' a rfl hva).2 k' _ e h1
          | ls l => exact hd.elim
          | own l => exact hd.elim
        · rw [lk_other hk2] at e'
          obtain ⟨v', hv', _⟩ := G₁.good.vars k'' d' e'
          have : v' = .ref a := (hoth k'' v' (Ne.symm hk2) hv').unique hh
          subst this
          exact h3 k'' d' hne e' hv'
    · rw [lk_cons] at e
      by_cases hkk : k = k'
      · subst hkk
        rw [if_pos rfl] at e
        cases d <;> simp [stD] at e
      · rw [if_neg hkk] at e; exact G.nonew k' l e
    · rw [lk_cons] at e
      by_cases hkk : k = k'
      · subst hkk
        rw [if_pos rfl] at e
        cases d <;> simp only [stD, Option.some.injEq, reduceCtorEq] at e
        exact hd.elim
      · rw [if_neg hkk] at e
        obtain ⟨a, o, h1, h2⟩ := G₁.lsz k' l e
        exact ⟨a, o, hoth k' _ (Ne.symm hkk) h1, h2⟩
  rcases hk with hl | hc
  · refine wpAny_storeName_local hl hn (fun h' hn' hs' => ⟨⟨h', _, rfl⟩, ?_, env.locals, hs', let ⟨_, o, _, _, ho, _⟩ := G.ns; ⟨o, ho⟩⟩) hp
    refine finish h' _ env.locals hs' (fun items x => dict_not_list hn x) G.loc ⟨_, hn'⟩ (.inl ⟨hl, _, hn', by simp⟩) (fun k' v' hne hv' => ?_) fun k' hk' => ?_
    · rcases hv' with ⟨h1, ml', hn1, hv1⟩ | ⟨h1, c, hc1, hv1⟩
      · have := ns_unique hn hn1; subst this
        exact .inl ⟨h1, _, hn', by rw [if_neg (str_ne hne)]; exact hv1⟩
      · exact .inr ⟨h1, c, hc1, hv1.sameBut hs' (by rintro rfl; exact dict_not_cell hn hv1)⟩
    · obtain ⟨c, vo, h1, h2, h3⟩ := G₁.cel k' hk'
      exact ⟨c, vo, h1, h2, h3.sameBut hs' (by rintro rfl; exact dict_not_cell hn h3)⟩
  · obtain ⟨c, vo, hc1, hc2, hc3⟩ := G₁.cel _ hc
    refine wpAny_storeName_cell G.good.kind hc hc1 hc3 fun h' hv' hs' => ⟨⟨h', s₁.toks, rfl⟩, ?_, c, hs', let ⟨c', vo', r1, _, r3⟩ := G.cel _ hc; by rw [hc1] at r1; cases r1; obtain ⟨o, ho, _⟩ := r3; exact ⟨o, ho⟩⟩
    refine finish h' s₁.toks c hs' (fun items x => cell_not_list hc3 x) hc2 ⟨ml, hn.sameBut hs' (by rintro rfl; exact dict_not_cell hn hc3)⟩ (.inr ⟨hc, c, hc1, hv'⟩) (fun k' v' hne hv1 => ?_) fun k' hk' => ?_
    · rcases hv1 with ⟨h1, ml', hn1, hv1⟩ | ⟨h1, c', hc', hv1⟩
      · exact .inl ⟨h1, ml', hn1.sameBut hs' (by rintro rfl; exact dict_not_cell hn1 hc3), hv1⟩
      · exact .inr ⟨h1, c', hc', hv1.sameBut hs' (by rintro rfl; exact str_ne hne (G.cap _ _ _ hc' hc1))⟩
    · by_cases hkk : k' = Str.ofString k
      · subst hkk; exact ⟨c, some v, hc1, hc2, hv'⟩
      · obtain ⟨c', vo', h1, h2, h3⟩ := G₁.cel k' hk'
        exact ⟨c', vo', h1, h2, h3.sameBut hs' (by rintro rfl; exact hkk (G.cap _ _ _ h1 hc1))⟩
theorem store {A : Around} {env : Env} {ze z : Zp} {s s₁ : Shared} {k : String} {v : Value} {d : D} {E : Value → Shared → Prop} (G : GoodW h₀ ze env z m s) (r : Res s d v s₁) (hd : Storable d)
    (hk : env.kindOf (Str.ofString k) = some .local ∨ env.kindOf (Str.ofString k) = some .cell) :
    wpAny (model prog w) A (storeName env (Str.ofString k) v) (fun _ s' => Same s₁ s' ∧ GoodW h₀ ze env z ((k, stD d) :: m) s') E s₁ :=
  wpAny_mono (store' G r hd hk) (fun _ _ h => ⟨h.1, h.2.1⟩) fun _ _ x => x
end
end Mine

end

section
open PySem PySem.W PyProof.Rows
set_option Elab.async false
set_option linter.unusedVariables false
namespace Mine

section
variable {prog : Program} {w : World} {h₀ : Heap} {n : Nat} {sc : Scope} {m : Mp} {R : Fl → Mp → Prop}

theorem ex_nil (h : R .next m) : Ex prog w h₀ n sc m [] R := by
  intro A env ze z s hs hr G
  exact wpAny_execs_nil ⟨.next, m, h, rfl, same_refl _, G⟩

theorem ex_cons {st : Stmt} {rest : List Stmt} {R₁ : Fl → Mp → Prop} (h₁ : Ex1 prog w h₀ n sc m st R₁) (h : ∀ m', R₁ .next m' → Ex prog w h₀ n sc m' rest R) (h' : ∀ f m', f ≠ .next → R₁ f m' → R f m') :
    Ex prog w h₀ n sc m (st :: rest) R := by
  intro A env ze z s hs hr G
  refine wpAny_execs_cons (wpF (h₁ A env ze z s hs hr G) fun f s' hx => ?_)
  obtain ⟨r, m', hR, hf, hsm, G'⟩ := hx
  cases r with
  | next =>
    cases hf
    exact wpF (h m' hR A env ze z s' hs hr G') fun f s'' ⟨r, m'', a, b, c, d⟩ => ⟨r, m'', a, b, same_trans hsm c, d⟩
  | brk => cases hf; exact ⟨.brk, m', h' _ _ (by simp) hR, rfl, hsm, G'⟩
  | cont => cases hf; exact ⟨.cont, m', h' _ _ (by simp) hR, rfl, hsm, G'⟩
  | ret d => obtain ⟨v, rfl, hv⟩ := hf; exact ⟨.ret d, m', h' _ _ (by simp) hR, ⟨v, rfl, hv⟩, hsm, G'⟩

/-- a statement that goes on: its only end is next with m₁ -/
def To (m₁ : Mp) : Fl → Mp → Prop := fun f m' => f = .next ∧ m' = m₁
theorem ex_step {st : Stmt} {rest : List Stmt} {m₁ : Mp} (h₁ : Ex1 prog w h₀ n sc m st (To m₁)) (h : Ex prog w h₀ n sc m₁ rest R) : Ex prog w h₀ n sc m (st :: rest) R :=
  ex_cons h₁ (fun m' e => by obtain ⟨_, rfl⟩ := e; exact h) fun f m' hne e => absurd e.1 hne

theorem ex_one {st : Stmt} (h : Ex1 prog w h₀ n sc m st R) : Ex prog w h₀ n sc m [st] R :=
  ex_cons h (fun m' e => ex_nil e) fun f m' _ e => e

theorem ex_mono {body : List Stmt} {R' : Fl → Mp → Prop} (h : Ex prog w h₀ n sc m body R) (hR : ∀ f m', R f m' → R' f m') : Ex prog w h₀ n sc m body R' := by
  intro A env ze z s hs hr G
  exact wpF (h A env ze z s hs hr G) fun f s' ⟨r, m', a, b⟩ => ⟨r, m', hR _ _ a, b⟩
theorem ex1_mono {st : Stmt} {R' : Fl → Mp → Prop} (h : Ex1 prog w h₀ n sc m st R) (hR : ∀ f m', R f m' → R' f m') : Ex1 prog w h₀ n sc m st R' := by
  intro A env ze z s hs hr G
  exact wpF (h A env ze z s hs hr G) fun f s' ⟨r, m', a, b⟩ => ⟨r, m', hR _ _ a, b⟩

/-- m' says no more than m -/
def Less (m' m : Mp) : Prop := ∀ k d, lk m' k = some d → lk m k = some d
theorem less_of {m' m : Mp} (h : ∀ p ∈ m', lk m p.1 = some p.2) : Less m' m := by
  intro k d e
  have : (k, d) ∈ m' := by
    clear h
    induction m' with
    | nil => cases e
    | cons p m' ih =>
      obtain ⟨k', d'⟩ := p
      rw [lk_cons] at e
      by_cases hk : k' = k
      · subst hk; rw [if_pos rfl] at e; cases e; exact List.mem_cons_self
      · rw [if_neg hk] at e; exact List.mem_cons_of_mem _ (ih e)
  exact h _ this
theorem ex_less {m' : Mp} {body : List Stmt} (hl : Less m' m) (h : Ex prog w h₀ n sc m' body R) : Ex prog w h₀ n sc m body R :=
  fun A env ze z s hs hr G => h A env ze z s hs hr (G.fewer hl)
theorem ex1_less {m' : Mp} {st : Stmt} (hl : Less m' m) (h : Ex1 prog w h₀ n sc m' st R) : Ex1 prog w h₀ n sc m st R :=
  fun A env ze z s hs hr G => h A env ze z s hs hr (G.fewer hl)

/-- the ends may be told with fewer names -/
theorem ex_end {body : List Stmt} {m₁ : Mp} (h : Ex prog w h₀ n sc m body fun f m' => f = .next ∧ Less m₁ m') : Ex prog w h₀ n sc m body (To m₁) := by
  intro A env ze z s hs hr G
  exact wpF (h A env ze z s hs hr G) fun f s' ⟨r, m', a, b, c, G'⟩ => ⟨r, m₁, ⟨a.1, rfl⟩, b, c, G'.fewer a.2⟩

def lc (sc : Scope) (k : String) : Prop := sc.names.lookup (Str.ofString k) = some .local ∨ sc.names.lookup (Str.ofString k) = some .cell
theorem lc_kind {env : Env} {k : String} (hs : env.scope = sc) (h : lc sc k) : env.kindOf (Str.ofString k) = some .local ∨ env.kindOf (Str.ofString k) = some .cell := by
  unfold Env.kindOf; rw [hs]; exact h

theorem ex_assign {k : String} {p pos : Pos} {e : PySem.Expr} {d : D} (h : Ev prog w h₀ n sc m e d) (hk : lc sc k) (hd : Storable d := by trivial)
    (hsw : ∀ env, env.scope = sc → swapsWith e (some (.Name (Str.ofString k) p)) pos.line env = pure false := by intro _ _; rfl) :
    Ex1 prog w h₀ n sc m (.Assign [.Name (Str.ofString k) p] e pos) (To ((k, stD d) :: m)) := by
  intro A env ze z s hs hr G
  refine wpAny_Assign_Name (wpF (h A env s hs hr G.good) fun v s₁ r => ?_) (hsw env hs)
  exact wpAny_mono (store G r hd (lc_kind hs hk)) (fun _ s' h' => ⟨.next, _, ⟨rfl, rfl⟩, rfl, same_trans (same_keeps r.keeps) h'.1, h'.2⟩) fun _ _ x => x

/-- an augmented operation -/
def Ip2 (prog : Program) (w : World) (op : Operator) (d₁ d₂ d : D) : Prop :=
  ∀ (A : Around) (s : Shared) (v₁ v₂ : Value), A.handled = none → IsD s.heap v₁ d₁ → IsD s.heap v₂ d₂ → wpAny (model prog w) A (inplaceOp op v₁ v₂) (Res s d) (fun _ _ => False) s
theorem ip_add {a b : Int} : Ip2 prog w .Add (.sc (.int a)) (.sc (.int b)) (.sc (.int (a + b))) := by
  rintro A s v₁ v₂ hq ⟨t, rfl⟩ ⟨u, rfl⟩
  exact P.iadd_int (.sc (kp_toks _ _) ⟨_, rfl⟩)
theorem ip_cat {x y : Str} (hx : x.length + y.length ≤ sizeLine) : Ip2 prog w .Add (.sc (.str x)) (.sc (.str y)) (.sc (.str (x ++ y))) := by
  rintro A s v₁ v₂ hq ⟨t, rfl⟩ ⟨u, rfl⟩
  exact SBL.iadd (fun t' k _ => .sc (kp_toks _ _) ⟨_, rfl⟩) hx

theorem ex_aug {k : String} {p pos : Pos} {op : Operator} {e : PySem.Expr} {d₁ d₂ d : D} (h₁ : lk m k = some d₁) (h : Ev prog w h₀ n sc m e d₂) (ho : Ip2 prog w op d₁ d₂ d) (hk : lc sc k) (hd : Storable d := by trivial) :
    Ex1 prog w h₀ n sc m (.AugAssign (.Name (Str.ofString k) p) op e pos) (To ((k, stD d) :: m)) := by
  intro A env ze z s hs hr G
  obtain ⟨v₁, hv₁, hd₁⟩ := G.good.vars k d₁ h₁
  refine wpAny_AugAssign_Name (has_load G.good.kind hv₁ ?_)
  refine wpF (h A env s hs hr G.good) fun v₂ s₁ r₁ => ?_
  refine wpF (ho A s₁ v₁ v₂ hr.quiet (hd₁.keeps (kp_sub r₁.keeps)) r₁.is) fun v s₂ r₂ => ?_
  have r := r₂.after r₁.keeps
  exact wpAny_mono (store G r hd (lc_kind hs hk)) (fun _ s' h' => ⟨.next, _, ⟨rfl, rfl⟩, rfl, same_trans (same_keeps r.keeps) h'.1, h'.2⟩) fun _ _ x => x

theorem ex_if {t : PySem.Expr} {body orelse : List Stmt} {pos : Pos} {b : Bool} (ht : Tr prog w h₀ n sc m t b) (h₁ : b = true → Ex prog w h₀ n sc m body R) (h₂ : b = false → Ex prog w h₀ n sc m orelse R) :
    Ex1 prog w h₀ n sc m (.If t body orelse pos) R := by
  intro A env ze z s hs hr G
  refine wpAny_If (wpF (ht A env s hs hr G.good) fun c s₁ r₁ => ?_)
  have G₁ := G.keeps (kp_sub r₁.1)
  obtain ⟨k, rfl⟩ := r₁
  cases c with
  | true => exact wpF (h₁ rfl A env ze z s₁ hs hr G₁) fun f s'' ⟨r, m'', a, b, c, d⟩ => ⟨r, m'', a, b, same_trans (same_keeps k) c, d⟩
  | false => exact wpF (h₂ rfl A env ze z s₁ hs hr G₁) fun f s'' ⟨r, m'', a, b, c, d⟩ => ⟨r, m'', a, b, same_trans (same_keeps k) c, d⟩
theorem ex_if_tt {t : PySem.Expr} {body orelse : List Stmt} {pos : Pos} (ht : Tr prog w h₀ n sc m t true) (h : Ex prog w h₀ n sc m body R) : Ex1 prog w h₀ n sc m (.If t body orelse pos) R :=
  ex_if ht (fun _ => h) fun e => by cases e
theorem ex_if_ff {t : PySem.Expr} {body orelse : List Stmt} {pos : Pos} (ht : Tr prog w h₀ n sc m t false) (h : Ex prog w h₀ n sc m orelse R) : Ex1 prog w h₀ n sc m (.If t body orelse pos) R :=
  ex_if ht (fun e => by cases e) fun _ => h

@[reducible] def Retable : D → Prop
  | .sc _ => True
  | .new _ => True
  | _ => False
theorem ex_return {e : PySem.Expr} {pos : Pos} {d : D} (h : Ev prog w h₀ n sc m e d) (hR : R (.ret d) m) (_hd : Retable d := by trivial) : Ex1 prog w h₀ n sc m (.Return (some e) pos) R := by
  intro A env ze z s hs hr G
  refine wpAny_Return_some (wpF (h A env s hs hr G.good) fun v s₁ r => ?_)
  refine ⟨.ret d, m, hR, ⟨v, rfl, r.is, fun l a e1 e2 => ?_⟩, same_keeps r.keeps, G.keeps (kp_sub r.keeps)⟩
  subst e1
  have hno := r.fresh a e2
  cases e : z a with
  | none => rfl
  | some o => rw [G.zin a o e] at hno; cases hno
/-- an own list handed back -/
theorem ex_return_own {k : String} {p pos : Pos} {l : List S} (h : lk m k = some (.own l)) (hR : R (.ret (.new l)) m) (hd : (Str.ofString k == ("__debug__" : Str)) = false := by decide) :
    Ex1 prog w h₀ n sc m (.Return (some (.Name (Str.ofString k) p)) pos) R := by
  intro A env ze z s hs hr G
  obtain ⟨a, hv, hz, _⟩ := G.sep k l h
  obtain ⟨v', hv', hd'⟩ := G.good.vars k _ h
  have := hv.unique hv'; subst this
  refine wpAny_Return_some (wpAny_Name (has_load G.good.kind hv ?_) hd)
  exact ⟨.ret (.new l), m, hR, ⟨_, rfl, hd', fun l' a' _ e2 => by cases e2; exact hz⟩, same_refl _, G⟩
theorem ex_continue {pos : Pos} (h : R .cont m) : Ex1 prog w h₀ n sc m (.Continue pos) R := by
  intro A env ze z s hs hr G
  exact wpAny_Continue ⟨.cont, m, h, rfl, same_refl _, G⟩

/-- a while with a measure -/
theorem ex_while {t : PySem.Expr} {body : List Stmt} {pos : Pos} (I : Nat → Mp → Prop)
    (turn : ∀ k m₁, I k m₁ → ∃ b, Tr prog w h₀ n sc m₁ t b ∧ (b = true → Ex prog w h₀ n sc m₁ body fun f m' => ((f = .next ∨ f = .cont) ∧ ∃ k', k' < k ∧ I k' m') ∨ (f = .brk ∧ R .next m') ∨ ∃ d, f = .ret d ∧ R (.ret d) m') ∧
      (b = false → R .next m₁)) (k : Nat) (h : I k m) : Ex1 prog w h₀ n sc m (.While t body [] pos) R := by
  intro A env ze z s hs hr G
  refine wpAny_While ?_
  refine codeAny_whileLoop (fun k s' => ∃ m₁, I k m₁ ∧ Same s s' ∧ GoodW h₀ ze env z m₁ s') (fun k s₁ hI => ?_) k ⟨m, h, same_refl _, G⟩
  obtain ⟨m₁, hI, hsm, G₁⟩ := hI
  obtain ⟨b, ht, h1, h2⟩ := turn k m₁ hI
  refine wpF (ht A env s₁ hs hr G₁.good) fun c s₂ r₂ => ?_
  have G₂ := G₁.keeps (kp_sub r₂.1)
  have sm₂ := same_trans hsm (same_keeps r₂.1)
  have hc := r₂.2
  cases c with
  | true =>
    simp only [if_true]
    refine wpF (h1 hc.symm A env ze z s₂ hs hr G₂) fun f s₃ hx => ?_
    obtain ⟨r, m', hR, hf, hsm', G₃⟩ := hx
    rcases hR with ⟨h1 | h1, k', hk', hI'⟩ | ⟨rfl, hR⟩ | ⟨d, rfl, hR⟩
    · subst h1; cases hf; exact ⟨k', hk', m', hI', same_trans sm₂ hsm', G₃⟩
    · subst h1; cases hf; exact ⟨k', hk', m', hI', same_trans sm₂ hsm', G₃⟩
    · cases hf; exact ⟨.next, m', hR, rfl, same_trans sm₂ hsm', G₃⟩
    · obtain ⟨v, rfl, hv⟩ := hf; exact ⟨.ret d, m', hR, ⟨v, rfl, hv⟩, same_trans sm₂ hsm', G₃⟩
  | false =>
    simp only [Bool.false_eq_true, if_false]
    exact wpAny_execs_nil ⟨.next, m₁, h2 hc.symm, rfl, sm₂, G₂⟩
end
end Mine

end

section
open PySem PySem.W PyProof.Rows
set_option Elab.async false
set_option linter.unusedVariables false
namespace Mine

section
variable {prog : Program} {w : World} {h₀ : Heap} {n : Nat} {sc : Scope} {m : Mp} {R : Fl → Mp → Prop}

theorem has_but {env : Env} {h h' : Heap} {b : Addr} {k : String} {v : Value} (x : Has env h k v) (hs : Heap.SameBut b h h') (hd : ∀ ml, ¬ h.Ns b ml) (hc : ∀ vo, ¬ h.IsCell b vo) : Has env h' k v := by
  rcases x with ⟨h1, ml, hn, hv⟩ | ⟨h1, c, hc1, hv⟩
  · exact .inl ⟨h1, ml, hn.sameBut hs (by rintro rfl; exact hd _ hn), hv⟩
  · exact .inr ⟨h1, c, hc1, hv.sameBut hs (by rintro rfl; exact hc _ hv)⟩

/-- an own list is changed in place -/
theorem grow {env : Env} {ze z : Zp} {s : Shared} {k : String} {l l' : List S} {a : Addr} {items : Array Value} {h' : Heap} {tk : Nat} (G : GoodW h₀ ze env z m s) (hk : lk m k = some (.own l)) (hv : Has env s.heap k (.ref a))
    (hl : s.heap.IsList a items) (hs : Heap.SameBut a s.heap h') (hn : IsLP h' (.ref a) l') : GoodW h₀ ze env z ((k, .own l') :: m) { s with heap := h', toks := tk } := by
  obtain ⟨a', hv', hz, hsep⟩ := G.sep k l hk
  have : (Value.ref a') = .ref a := hv'.unique hv
  cases this
  have hd : ∀ ml, ¬ s.heap.Ns a ml := fun ml x => dict_not_list x hl
  have hc : ∀ vo, ¬ s.heap.IsCell a vo := fun vo x => cell_not_list x hl
  have ho : ∀ k' v', Has env s.heap k' v' → Has env h' k' v' := fun k' v' x => has_but x hs hd hc
  have hb : ∀ k' v', Has env h' k' v' → lk m k' ≠ none → Has env s.heap k' v' := by
    intro k' v' x hne
    cases e : lk m k' with
    | none => exact absurd e hne
    | some d' =>
      obtain ⟨v'', hv'', _⟩ := G.good.vars k' d' e
      have := (ho k' v'' hv'').unique x
      subst this; exact hv''
  refine ⟨⟨G.good.kind, G.good.gl, G.good.bl, fun b o e => ?_, fun k' d e => ?_⟩, fun b o e => ?_, G.zb, G.loc, ?_, fun k' e => ?_, G.cap, fun k' l'' e => ?_, fun k' l'' e => ?_, G.zez, fun k' l'' e => ?_⟩
  · exact hs.extBut b o (by rintro rfl; have := G.zb b o e; rw [hz] at this; cases this) (G.good.base b o e)
  · rw [lk_cons] at e
    by_cases hkk : k = k'
    · subst hkk; rw [if_pos rfl] at e; cases e
      exact ⟨_, ho _ _ hv, hn⟩
    · rw [if_neg hkk] at e
      obtain ⟨v', hv1, hd1⟩ := G.good.vars k' d e
      refine ⟨v', ho _ _ hv1, ?_⟩
      have hne : v' ≠ .ref a := by rintro rfl; exact hsep k' d (Ne.symm hkk) e hv1
      cases d with
      | sc x => exact hd1
      | ls l1 => obtain ⟨a1, its, rfl, q1, q2⟩ := hd1; exact ⟨a1, its, rfl, q1.extBut hs.extBut (by rintro rfl; exact hne rfl), q2⟩
      | own l1 => obtain ⟨a1, its, rfl, q1, q2⟩ := hd1; exact ⟨a1, its, rfl, q1.extBut hs.extBut (by rintro rfl; exact hne rfl), q2⟩
      | new l1 => obtain ⟨a1, its, rfl, q1, q2⟩ := hd1; exact ⟨a1, its, rfl, q1.extBut hs.extBut (by rintro rfl; exact hne rfl), q2⟩
  · exact hs.extBut b o (by rintro rfl; rw [hz] at e; cases e) (G.zin b o e)
  · obtain ⟨ml, x⟩ := G.ns; exact ⟨ml, x.sameBut hs (by intro e; exact hd _ (e ▸ x))⟩
  · obtain ⟨c, vo, q1, q2, q3⟩ := G.cel k' e; exact ⟨c, vo, q1, q2, q3.sameBut hs (by rintro rfl; exact hc _ q3)⟩
  · rw [lk_cons] at e
    by_cases hkk : k = k'
    · subst hkk; rw [if_pos rfl] at e; cases e
      refine ⟨a, ho _ _ hv, hz, fun k'' d hne e' hh => ?_⟩
      rw [lk_other (Ne.symm hne)] at e'
      exact hsep k'' d hne e' (hb _ _ hh (by rw [e']; simp))
    · rw [if_neg hkk] at e
      obtain ⟨a2, q1, q2, q3⟩ := G.sep k' l'' e
      refine ⟨a2, ho _ _ q1, q2, fun k'' d hne e' hh => ?_⟩
      by_cases hk2 : k = k''
      · subst hk2
        exact q3 k (.own l) hne hk (hb _ _ hh (by rw [hk]; simp))
      · rw [lk_other hk2] at e'
        exact q3 k'' d hne e' (hb _ _ hh (by rw [e']; simp))
  · rw [lk_cons] at e
    by_cases hkk : k = k'
    · subst hkk; rw [if_pos rfl] at e; cases e
    · rw [if_neg hkk] at e; exact G.nonew k' l'' e
  · rw [lk_cons] at e
    by_cases hkk : k = k'
    · subst hkk; rw [if_pos rfl] at e; cases e
    · rw [if_neg hkk] at e
      obtain ⟨a2, o, q1, q2⟩ := G.lsz k' l'' e
      exact ⟨a2, o, ho _ _ q1, q2⟩

theorem plain_mapSeq {h : Heap} {a : Addr} {items : Array Value} (f : Array Value → Array Value) (x : h.PlainList a items) : (h.update a (Obj.mapSeq f)).PlainList a (f items) := by
  obtain ⟨n, e⟩ := x
  exact ⟨_, by rw [Heap.get?_update_self _ e rfl]; rfl⟩

theorem method_list {env : Env} {A : Around} {s : Shared} {o : PySem.Expr} {name : Str} {id : String} {apos pos : Pos} {e : PySem.Expr} {Q : Value → Shared → Prop} {E : Value → Shared → Prop} (slot : Slot "list" name id)
    (ty : typeOf (.builtin id) = pure (.type "method_descriptor"))
    (hb : ∀ env whole, attributeBase o name env whole = whole) (hl : (apos.endLine == pos.line) = true) (hst : noStar e = true)
    (h : wpAny (model prog w) A (eval o env) (fun ov s₁ => ∃ a items, ov = .ref a ∧ s₁.heap.PlainList a items ∧ wpAny (model prog w) A (callWith pos (.builtin id) [.ref a] [(false, eval e env)] []) Q E s₁) E s) :
    wpAny (model prog w) A (eval (.Call (.Attribute o name apos) [e] [] pos) env) Q E s := by
  refine Call_method1 (hb _ _) (starEach_cons hst) hl (wpAny_mono h (fun ov s₁ h₁ => ?_) fun _ _ x => x)
  obtain ⟨a, items, rfl, ⟨k, hp⟩, hc⟩ := h₁
  exact ⟨"list", id, F.plainAttrs_list, slot, ty, ⟨_, hp, rfl⟩, fun a' ea => by cases ea; exact ⟨_, hp, rfl⟩, hc⟩

theorem ex_append {k : String} {p apos cpos pos : Pos} {e : PySem.Expr} {l : List S} {x : S} (hk : lk m k = some (.own l)) (h : Ev prog w h₀ n sc m e (.sc x)) (hsz : l.length ≤ sizeLine)
    (hd : (Str.ofString k == ("__debug__" : Str)) = false := by decide) (hl : (apos.endLine == cpos.line) = true := by rfl) (hst : noStar e = true := by rfl) :
    Ex1 prog w h₀ n sc m (.Expr (.Call (.Attribute (.Name (Str.ofString k) p) "append" apos) [e] [] cpos) pos) (To ((k, .own (l ++ [x])) :: m)) := by
  intro A env ze z s hs hr G
  obtain ⟨a, hv, hz, _⟩ := G.sep k l hk
  obtain ⟨v', hv', hd'⟩ := G.good.vars k _ hk
  have := hv.unique hv'; subst this
  obtain ⟨a', items, ea, hp, pr⟩ := hd'
  cases ea
  have hi : interactive env = false := by unfold interactive; rw [G.good.kind]; rfl
  refine wpAny_Expr (method_list F.slot_list_append F.type_list_append (fun _ _ => rfl) hl hst (wpAny_Name (has_load G.good.kind hv ?_) hd)) hi
  refine ⟨a, items, rfl, hp, PySem.P.append_list (wpF (h A env s hs hr G.good) fun v s₁ r => ?_)⟩
  have hp₁ : s₁.heap.PlainList a items := hp.at fun o => kp_sub r.keeps a o
  have hlen : items.size = l.length := by rw [← Array.length_toList]; exact Pr.len pr
  obtain ⟨k', hk'⟩ := id hp₁
  refine ⟨items, k', by rw [hlen]; exact hsz, hk', ?_⟩
  refine ⟨.next, _, ⟨rfl, rfl⟩, rfl, same_trans (same_keeps r.keeps) ⟨_, s₁.toks, rfl⟩, ?_⟩
  refine grow (G.keeps (kp_sub r.keeps)) hk (hv.keeps (kp_sub r.keeps)) hp₁.isList (Heap.SameBut.update ..) ⟨a, items.push v, rfl, plain_mapSeq (fun xs => xs.push v) hp₁, ?_⟩
  rw [Array.toList_push]
  exact Pr.append pr (.cons r.is .nil)

theorem ex_extend {k : String} {p apos cpos pos : Pos} {e : PySem.Expr} {l l' : List S} (hk : lk m k = some (.own l)) (h : Ev prog w h₀ n sc m e (.new l')) (hsz : l.length + l'.length ≤ sizeLine)
    (hd : (Str.ofString k == ("__debug__" : Str)) = false := by decide) (hl : (apos.endLine == cpos.line) = true := by rfl) (hst : noStar e = true := by rfl) :
    Ex1 prog w h₀ n sc m (.Expr (.Call (.Attribute (.Name (Str.ofString k) p) "extend" apos) [e] [] cpos) pos) (To ((k, .own (l ++ l')) :: m)) := by
  intro A env ze z s hs hr G
  obtain ⟨a, hv, hz, _⟩ := G.sep k l hk
  obtain ⟨v', hv', hd'⟩ := G.good.vars k _ hk
  have := hv.unique hv'; subst this
  obtain ⟨a', items, ea, hp, pr⟩ := hd'
  cases ea
  have hi : interactive env = false := by unfold interactive; rw [G.good.kind]; rfl
  refine wpAny_Expr (method_list F.slot_list_extend F.type_list_extend (fun _ _ => rfl) hl hst (wpAny_Name (has_load G.good.kind hv ?_) hd)) hi
  refine ⟨a, items, rfl, hp, PySem.P.extend_list (wpF (h A env s hs hr G.good) fun v s₁ r => ?_)⟩
  have hp₁ : s₁.heap.PlainList a items := hp.at fun o => kp_sub r.keeps a o
  have hlen : items.size = l.length := by rw [← Array.length_toList]; exact Pr.len pr
  obtain ⟨b, items2, rfl, ⟨k2, hk2⟩, pr2⟩ := r.is
  have hlen2 : items2.size = l'.length := by rw [← Array.length_toList]; exact Pr.len pr2
  obtain ⟨k', hk'⟩ := id hp₁
  refine ⟨b, items, items2, k', k2, by omega, by omega, extend_door (by omega), rfl, hk', hk2, ?_⟩
  refine ⟨.next, _, ⟨rfl, rfl⟩, rfl, same_trans (same_keeps r.keeps) ⟨_, s₁.toks, rfl⟩, ?_⟩
  refine grow (G.keeps (kp_sub r.keeps)) hk (hv.keeps (kp_sub r.keeps)) hp₁.isList (Heap.SameBut.update ..) ⟨a, items ++ items2, rfl, plain_mapSeq (fun xs => xs ++ items2) hp₁, ?_⟩
  rw [Array.toList_append]
  exact Pr.append pr pr2
end
end Mine

end

section
open PySem PySem.W PyProof.Rows
set_option Elab.async false
set_option linter.unusedVariables false
namespace Mine

def zp (z : Zp) (fp : List Addr) (h : Heap) : Zp := fun b => if b ∈ fp then h.get? b else z b
theorem zp_in {z : Zp} {fp : List Addr} {h : Heap} {b : Addr} (hb : b ∈ fp) : zp z fp h b = h.get? b := if_pos hb
theorem zp_out {z : Zp} {fp : List Addr} {h : Heap} {b : Addr} (hb : b ∉ fp) : zp z fp h b = z b := if_neg hb

section
variable {prog : Program} {w : World} {h₀ : Heap} {n : Nat} {sc : Scope} {m : Mp} {R : Fl → Mp → Prop}

theorem ns_get {h : Heap} {a : Addr} {ml : Str → Option Value} (x : h.Ns a ml) : ∃ o, h.get? a = some o := let ⟨o, _, _, ho, _⟩ := x; ⟨o, ho⟩
theorem cell_get {h : Heap} {a : Addr} {v : Option Value} (x : h.IsCell a v) : ∃ o, h.get? a = some o := let ⟨o, ho, _⟩ := x; ⟨o, ho⟩

theorem own_get {env : Env} {ze z : Zp} {s : Shared} {k : String} {l : List S} {a : Addr} (G : GoodW h₀ ze env z m s) (hk : lk m k = some (.own l)) (hv : Has env s.heap k (.ref a)) : ∃ o, s.heap.get? a = some o := by
  obtain ⟨v, hv', hd⟩ := G.good.vars k _ hk
  have := hv'.unique hv; subst this
  obtain ⟨a', items, e, ⟨k', ho⟩, _⟩ := hd
  cases e; exact ⟨_, ho⟩

theorem strengthen {env : Env} {ze z : Zp} {s s₂ : Shared} {fp : List Addr} (G : GoodW h₀ ze env z m s) (k : Keeps s s₂) (hfp : ∀ b ∈ fp, (∃ o, z b = some o) ∨ s.heap.get? b = none) : GoodW h₀ ze env (zp z fp s₂.heap) m s₂ := by
  have G₂ := G.keeps (kp_sub k)
  have out : ∀ b, z b = none → (∃ o, s.heap.get? b = some o) → b ∉ fp := fun b hz ⟨o, ho⟩ hb => by
    rcases hfp b hb with ⟨o', e⟩ | e
    · rw [hz] at e; cases e
    · rw [ho] at e; cases e
  refine ⟨G₂.good, fun b o e => ?_, fun b o e => ?_, ?_, G₂.ns, fun k' e => ?_, G.cap, fun k' l e => ?_, G.nonew, fun b o e => ?_, G₂.lsz⟩
  · by_cases hb : b ∈ fp
    · rwa [zp_in hb] at e
    · rw [zp_out hb] at e; exact G₂.zin b o e
  · by_cases hb : b ∈ fp
    · rw [zp_in hb]; exact G₂.good.base b o e
    · rw [zp_out hb]; exact G.zb b o e
  · obtain ⟨ml, hn⟩ := G.ns
    rw [zp_out (out _ G.loc (ns_get hn))]; exact G.loc
  · obtain ⟨c, vo, q1, q2, q3⟩ := G.cel k' e
    exact ⟨c, vo, q1, by rw [zp_out (out _ q2 (cell_get q3))]; exact q2, isCell_keeps q3 (kp_sub k)⟩
  · obtain ⟨a, q1, q2, q3⟩ := G.sep k' l e
    obtain ⟨a', q1', _, q3'⟩ := G₂.sep k' l e
    have : (Value.ref a') = .ref a := q1'.unique (q1.keeps (kp_sub k))
    cases this
    exact ⟨a, q1', by rw [zp_out (out _ q2 (own_get G e q1))]; exact q2, q3'⟩
  · have e' := G.zez b o e
    by_cases hb : b ∈ fp
    · rw [zp_in hb]; exact G₂.zin b o e'
    · rw [zp_out hb]; exact e'

theorem change {env : Env} {ze z : Zp} {s : Shared} {fp : List Addr} {I : Addr} {h' : Heap} {tk : Nat} (G : GoodW h₀ ze env (zp z fp s.heap) m s) (hz : ∀ b o, z b = some o → s.heap.get? b = some o) (hzI : z I = none) (hI : I ∈ fp)
    (hk : ∀ b o, b ∉ [I] → s.heap.get? b = some o → h'.get? b = some o) (hnl : ∀ its, ¬ s.heap.IsList I its) (hb0 : ∀ b o, h₀.get? b = some o → z b = some o) (hez : ∀ b o, ze b = some o → z b = some o) :
    GoodW h₀ ze env (zp z fp h') m { s with heap := h', toks := tk } := by
  have hk' : ∀ b o, b ≠ I → s.heap.get? b = some o → h'.get? b = some o := fun b o hb => hk b o (by simpa using hb)
  have out : ∀ b, zp z fp s.heap b = none → (∃ o, s.heap.get? b = some o) → b ∉ fp := fun b e ⟨o, ho⟩ hb => by rw [zp_in hb, ho] at e; cases e
  obtain ⟨ml, hn⟩ := G.ns
  have hL : env.locals ∉ fp := out _ G.loc (ns_get hn)
  have hLI : env.locals ≠ I := fun e => hL (e ▸ hI)
  have hn' : h'.Ns env.locals ml := hn.at' fun o e => hk' _ o hLI e
  have ho : ∀ k' v', Has env s.heap k' v' → Has env h' k' v' := by
    rintro k' v' (⟨q1, ml', q2, q3⟩ | ⟨q1, c, q2, q3⟩)
    · exact .inl ⟨q1, ml', q2.at' fun o e => hk' _ o hLI e, q3⟩
    · obtain ⟨c', vo, r1, r2, r3⟩ := G.cel _ q1
      rw [q2] at r1; cases r1
      have hc : c ≠ I := fun e => out c r2 (cell_get r3) (e ▸ hI)
      exact .inr ⟨q1, c, q2, let ⟨o, a, b⟩ := q3; ⟨o, hk' _ o hc a, b⟩⟩
  have hb : ∀ k' v', Has env h' k' v' → lk m k' ≠ none → Has env s.heap k' v' := by
    intro k' v' x hne
    cases e : lk m k' with
    | none => exact absurd e hne
    | some d' =>
      obtain ⟨v'', hv'', _⟩ := G.good.vars k' d' e
      have := (ho k' v'' hv'').unique x
      subst this; exact hv''
  refine ⟨⟨G.good.kind, G.good.gl, G.good.bl, fun b o e => ?_, fun k' d e => ?_⟩, fun b o e => ?_, fun b o e => ?_, by rw [zp_out hL, ← zp_out (z := z) (h := s.heap) hL]; exact G.loc, ⟨ml, hn'⟩, fun k' e => ?_, G.cap, fun k' l e => ?_, G.nonew, fun b o e => ?_, fun k' l e => ?_⟩
  · exact hk' b o (by rintro rfl; have := hb0 _ _ e; rw [hzI] at this; cases this) (G.good.base b o e)
  · obtain ⟨v', q1, q2⟩ := G.good.vars k' d e
    refine ⟨v', ho _ _ q1, ?_⟩
    cases d with
    | sc x => exact q2
    | ls l1 => obtain ⟨a1, its, rfl, r1, r2⟩ := q2; exact ⟨a1, its, rfl, r1.at fun o e => hk' _ o (by rintro rfl; exact hnl _ r1) e, r2⟩
    | own l1 => obtain ⟨a1, its, rfl, r1, r2⟩ := q2; exact ⟨a1, its, rfl, r1.at fun o e => hk' _ o (by rintro rfl; exact hnl _ r1.isList) e, r2⟩
    | new l1 => obtain ⟨a1, its, rfl, r1, r2⟩ := q2; exact ⟨a1, its, rfl, r1.at fun o e => hk' _ o (by rintro rfl; exact hnl _ r1.isList) e, r2⟩
  · by_cases hbf : b ∈ fp
    · rwa [zp_in hbf] at e
    · rw [zp_out hbf] at e; exact hk' b o (by rintro rfl; exact hbf hI) (hz b o e)
  · by_cases hbf : b ∈ fp
    · rw [zp_in hbf]; exact hk' b o (by rintro rfl; have := hb0 _ _ e; rw [hzI] at this; cases this) (G.good.base b o e)
    · rw [zp_out hbf]; exact hb0 b o e
  · obtain ⟨c, vo, r1, r2, r3⟩ := G.cel k' e
    have hc : c ∉ fp := out c r2 (cell_get r3)
    refine ⟨c, vo, r1, ?_, let ⟨o, a, b⟩ := r3; ⟨o, hk' _ o (fun e => hc (e ▸ hI)) a, b⟩⟩
    rw [zp_out hc, ← zp_out (z := z) (h := s.heap) hc]; exact r2
  · obtain ⟨a, q1, q2, q3⟩ := G.sep k' l e
    have ha : a ∉ fp := out a q2 (own_get G e q1)
    refine ⟨a, ho _ _ q1, by rw [zp_out ha, ← zp_out (z := z) (h := s.heap) ha]; exact q2, fun k'' d hne e' hh => q3 k'' d hne e' (hb _ _ hh (by rw [e']; simp))⟩
  · by_cases hbf : b ∈ fp
    · rw [zp_in hbf]; exact hk' b o (by rintro rfl; have := hez _ _ e; rw [hzI] at this; cases this) (hz b o (hez b o e))
    · rw [zp_out hbf]; exact hez b o e
  · obtain ⟨a, o, q1, q2⟩ := G.lsz k' l e
    exact ⟨a, o, ho _ _ q1, q2⟩

theorem change0 {env : Env} {ze z : Zp} {s : Shared} {I : Addr} {h' : Heap} {tk : Nat} (G : GoodW h₀ ze env z m s) (hzI : z I = none) (hLI : env.locals ≠ I) (hcI : ∀ k c, env.kindOf k = some .cell → env.cells.lookup k = some c → c ≠ I)
    (hk : ∀ b o, b ∉ [I] → s.heap.get? b = some o → h'.get? b = some o) (hnl : ∀ its, ¬ s.heap.IsList I its) : GoodW h₀ ze env z m { s with heap := h', toks := tk } := by
  have hk' : ∀ b o, b ≠ I → s.heap.get? b = some o → h'.get? b = some o := fun b o hb => hk b o (by simpa using hb)
  obtain ⟨ml, hn⟩ := G.ns
  have hn' : h'.Ns env.locals ml := hn.at' fun o e => hk' _ o hLI e
  have ho : ∀ k' v', Has env s.heap k' v' → Has env h' k' v' := by
    rintro k' v' (⟨q1, ml', q2, q3⟩ | ⟨q1, c, q2, q3⟩)
    · exact .inl ⟨q1, ml', q2.at' fun o e => hk' _ o hLI e, q3⟩
    · exact .inr ⟨q1, c, q2, let ⟨o, a, b⟩ := q3; ⟨o, hk' _ o (hcI _ _ q1 q2) a, b⟩⟩
  have hb : ∀ k' v', Has env h' k' v' → lk m k' ≠ none → Has env s.heap k' v' := by
    intro k' v' x hne
    cases e : lk m k' with
    | none => exact absurd e hne
    | some d' =>
      obtain ⟨v'', hv'', _⟩ := G.good.vars k' d' e
      have := (ho k' v'' hv'').unique x
      subst this; exact hv''
  have hne : ∀ b o, z b = some o → b ≠ I := fun b o e => by rintro rfl; rw [hzI] at e; cases e
  refine ⟨⟨G.good.kind, G.good.gl, G.good.bl, fun b o e => hk' b o (hne b o (G.zb b o e)) (G.good.base b o e), fun k' d e => ?_⟩, fun b o e => hk' b o (hne b o e) (G.zin b o e), G.zb, G.loc, ⟨ml, hn'⟩, fun k' e => ?_, G.cap, fun k' l e => ?_, G.nonew, G.zez, fun k' l e => ?_⟩
  · obtain ⟨v', q1, q2⟩ := G.good.vars k' d e
    refine ⟨v', ho _ _ q1, ?_⟩
    cases d with
    | sc x => exact q2
    | ls l1 => obtain ⟨a1, its, rfl, r1, r2⟩ := q2; exact ⟨a1, its, rfl, r1.at fun o e => hk' _ o (by rintro rfl; exact hnl _ r1) e, r2⟩
    | own l1 => obtain ⟨a1, its, rfl, r1, r2⟩ := q2; exact ⟨a1, its, rfl, r1.at fun o e => hk' _ o (by rintro rfl; exact hnl _ r1.isList) e, r2⟩
    | new l1 => obtain ⟨a1, its, rfl, r1, r2⟩ := q2; exact ⟨a1, its, rfl, r1.at fun o e => hk' _ o (by rintro rfl; exact hnl _ r1.isList) e, r2⟩
  · obtain ⟨c, vo, r1, r2, r3⟩ := G.cel k' e
    exact ⟨c, vo, r1, r2, let ⟨o, a, b⟩ := r3; ⟨o, hk' _ o (hcI _ _ e r1) a, b⟩⟩
  · obtain ⟨a, q1, q2, q3⟩ := G.sep k' l e
    exact ⟨a, ho _ _ q1, q2, fun k'' d hne e' hh => q3 k'' d hne e' (hb _ _ hh (by rw [e']; simp))⟩
  · obtain ⟨a, o, q1, q2⟩ := G.lsz k' l e
    exact ⟨a, o, ho _ _ q1, q2⟩

theorem weaken {env : Env} {ze z : Zp} {s : Shared} {fp : List Addr} {h : Heap} (G : GoodW h₀ ze env (zp z fp h) m s) (hz : ∀ b o, z b = some o → s.heap.get? b = some o) (hfp : ∀ b ∈ fp, ∃ o, h.get? b = some o)
    (hb0 : ∀ b o, h₀.get? b = some o → z b = some o) (hez : ∀ b o, ze b = some o → z b = some o) : GoodW h₀ ze env z m s := by
  have out : ∀ b, zp z fp h b = none → z b = none := fun b e => by
    by_cases hb : b ∈ fp
    · obtain ⟨o, ho⟩ := hfp b hb; rw [zp_in hb, ho] at e; cases e
    · rwa [zp_out hb] at e
  exact ⟨G.good, hz, hb0, out _ G.loc, G.ns, fun k e => let ⟨c, vo, r1, r2, r3⟩ := G.cel k e; ⟨c, vo, r1, out _ r2, r3⟩, G.cap,
    fun k l e => let ⟨a, q1, q2, q3⟩ := G.sep k l e; ⟨a, q1, out _ q2, q3⟩, G.nonew, hez, G.lsz⟩

/-- a thing to loop over -/
def Src (prog : Program) (w : World) (A : Around) (z : Zp) (s : Shared) (items : List S) (it : Value) (s₂ : Shared) : Prop :=
  Keeps s s₂ ∧ ∃ I fp P St, it = .ref I ∧ Walks prog w A I fp [I] items.length P St ∧ St 0 s₂.heap ∧ (∀ b ∈ fp, (∃ o, z b = some o) ∨ s.heap.get? b = none) ∧ s.heap.get? I = none ∧ I ∈ fp ∧
    (∀ i h, St i h → (∀ b ∈ fp, ∃ o, h.get? b = some o) ∧ ∀ its, ¬ h.IsList I its) ∧ ∀ i v, i < items.length → P i v → ∃ y, items[i]? = some y ∧ IsS v y

def Iter (prog : Program) (w : World) (h₀ : Heap) (n : Nat) (sc : Scope) (m : Mp) (iter : PySem.Expr) (items : List S) : Prop :=
  ∀ (A : Around) (env : Env) (ze z : Zp) (s : Shared), env.scope = sc → Rm n A → GoodW h₀ ze env z m s →
    wpAny (model prog w) A (eval iter env) (fun xv s₁ => wpAny (model prog w) A (pyIter xv) (Src prog w A z s items) (fun _ _ => False) s₁) (fun _ _ => False) s

theorem ex_for {x : String} {px pos : Pos} {iter : PySem.Expr} {body : List Stmt} {items : List S} (Inv : Nat → Mp → Prop) (hsrc : Iter prog w h₀ n sc m iter items)
    (hx : lc sc x)
    (turn : ∀ i y mi, items[i]? = some y → Inv i mi → Ex prog w h₀ n sc ((x, .sc y) :: mi) body fun f m' => ((f = .next ∨ f = .cont) ∧ ∃ m'', Inv (i + 1) m'' ∧ Less m'' m') ∨ (f = .brk ∧ R .next m') ∨ ∃ d, f = .ret d ∧ R (.ret d) m')
    (fin : ∀ mi, Inv items.length mi → R .next mi) (h0 : Inv 0 m)
    (hs : ∀ env xv, foldedSetIterable iter env xv = pure xv := by intro _ _; rfl) : Ex1 prog w h₀ n sc m (.For (.Name (Str.ofString x) px) iter body [] pos) R := by
  intro A env ze z s hsc hr G
  refine wpAny_For (wpF (hsrc A env ze z s hsc hr G) fun xv s₁ h₁ => wpF h₁ fun it s₂ h₂ => ?_) (hs env)
  obtain ⟨k₂, I, fp, P, St, rfl, W, st0, hfp, hfI, hIfp, hst, hP⟩ := h₂
  have hzI : z I = none := by
    cases e : z I with
    | none => rfl
    | some o => rw [G.zin I o e] at hfI; cases hfI
  refine codeAny_forLoop_any (fun c s' => ∃ i mi, c = items.length - i ∧ i ≤ items.length ∧ Inv i mi ∧ St i s'.heap ∧ Same s s' ∧ (∀ b o, z b = some o → s'.heap.get? b = some o) ∧ GoodW h₀ ze env (zp z fp s'.heap) mi s')
    (fun c s' hI => ?_) items.length ⟨0, m, rfl, Nat.zero_le _, h0, st0, same_keeps k₂, fun b o e => kp_sub k₂ b o (G.zin b o e), strengthen G k₂ hfp⟩
  obtain ⟨i, mi, rfl, hi, hinv, hsti, hsm, hz, Gi⟩ := hI
  by_cases hlt : i < items.length
  · refine W.item i s' _ _ hlt hsti fun v h' tk hPv hst' hk' => ?_
    obtain ⟨y, hy, hvy⟩ := hP i v hlt hPv
    have hz' : ∀ b o, z b = some o → h'.get? b = some o := fun b o e => hk' b o (by intro hb; simp at hb; subst hb; rw [hzI] at e; cases e) (hz b o e)
    have G' : GoodW h₀ ze env (zp z fp h') mi { s' with heap := h', toks := tk } := change Gi hz hzI hIfp hk' (hst i _ hsti).2 G.zb G.zez
    refine wpAny_pure ?_
    refine wpAny_assign_Name (wpAny_mono (store G' (Res.sc (kp_refl _) hvy) trivial (lc_kind hsc hx)) (fun _ s₃ h₃ => ?_) fun _ _ f => f)
    refine wpF (turn i y mi hy hinv A env ze _ s₃ hsc hr h₃.2) fun f s₄ h₄ => ?_
    obtain ⟨r, m', hR, hf, hsm', G₄⟩ := h₄
    have fpin : ∀ b ∈ fp, ∃ o, h'.get? b = some o := (hst _ _ hst').1
    have up : ∀ b ∈ fp, ∀ o, h'.get? b = some o → s₄.heap.get? b = some o := fun b hb o e => G₄.zin b o (by rw [zp_in hb]; exact e)
    have hz₄ : ∀ b o, z b = some o → s₄.heap.get? b = some o := fun b o e => G₄.zin b o (by
      by_cases hb : b ∈ fp
      · rw [zp_in hb]; exact hz' b o e
      · rw [zp_out hb]; exact e)
    have st₄ : St (i + 1) s₄.heap := W.frame _ _ _ hst' up
    have sm₄ : Same s s₄ := same_trans hsm (same_trans ⟨h', tk, rfl⟩ (same_trans h₃.1 hsm'))
    have ez : zp z fp h' = zp z fp s₄.heap := by
      funext b
      by_cases hb : b ∈ fp
      · rw [zp_in hb, zp_in hb]; obtain ⟨o, ho⟩ := fpin b hb; rw [ho, up b hb o ho]
      · rw [zp_out hb, zp_out hb]
    have fin4 : GoodW h₀ ze env z m' s₄ := weaken G₄ hz₄ fpin G.zb G.zez
    rcases hR with ⟨h1, m'', hI', hless⟩ | ⟨rfl, hR⟩ | ⟨d, rfl, hR⟩
    · have next : ∃ c', c' < items.length - i ∧ ∃ i mi, c' = items.length - i ∧ i ≤ items.length ∧ Inv i mi ∧ St i s₄.heap ∧ Same s s₄ ∧ (∀ b o, z b = some o → s₄.heap.get? b = some o) ∧ GoodW h₀ ze env (zp z fp s₄.heap) mi s₄ :=
        ⟨items.length - (i + 1), by omega, i + 1, m'', rfl, hlt, hI', st₄, sm₄, hz₄, (ez ▸ G₄).fewer hless⟩
      rcases h1 with h1 | h1 <;> subst h1 <;> cases hf <;> exact next
    · cases hf; exact ⟨.next, m', hR, rfl, sm₄, fin4⟩
    · obtain ⟨v', rfl, hv1, hv2⟩ := hf
      refine ⟨.ret d, m', hR, ⟨v', rfl, hv1, fun l a e1 e2 => ?_⟩, sm₄, fin4⟩
      have := hv2 l a e1 e2
      by_cases hb : a ∈ fp
      · rw [zp_in hb] at this; obtain ⟨o, ho⟩ := fpin a hb; rw [ho] at this; cases this
      · rwa [zp_out hb] at this
  · have hn : i = items.length := by omega
    subst hn
    refine W.done s' _ _ hsti fun h' tk hk' => ?_
    have fpin : ∀ b ∈ fp, ∃ o, s'.heap.get? b = some o := (hst _ _ hsti).1
    have Gz : GoodW h₀ ze env z mi s' := weaken Gi hz fpin G.zb G.zez
    have out : ∀ b, zp z fp s'.heap b = none → b ∉ fp := fun b e hb => by obtain ⟨o, ho⟩ := fpin b hb; rw [zp_in hb, ho] at e; cases e
    have G' : GoodW h₀ ze env z mi { s' with heap := h', toks := tk } := change0 Gz hzI (fun e => out _ Gi.loc (e ▸ hIfp)) (fun k c q1 q2 e => by
      obtain ⟨c', vo, r1, r2, _⟩ := Gi.cel k q1
      rw [q2] at r1; cases r1; exact out _ r2 (e ▸ hIfp)) hk' (hst _ _ hsti).2
    exact wpAny_execs_nil ⟨.next, mi, fin mi hinv, rfl, same_trans hsm ⟨h', tk, rfl⟩, G'⟩
end
end Mine

end

section
open PySem PySem.W PyProof.Rows
set_option Elab.async false
set_option linter.unusedVariables false
namespace Mine

/-- an iterator at hand -/
def Wk (prog : Program) (w : World) (A : Around) (s : Shared) (extra : Addr → Prop) (items : List S) (it : Value) (s₂ : Shared) : Prop :=
  Keeps s s₂ ∧ ∃ I fp P St, it = .ref I ∧ Walks prog w A I fp [I] items.length P St ∧ St 0 s₂.heap ∧ (∀ b ∈ fp, b = I ∨ extra b) ∧ s.heap.get? I = none ∧ I ∈ fp ∧
    (∀ i h, St i h → (∀ b ∈ fp, ∃ o, h.get? b = some o) ∧ ∀ its, ¬ h.IsList I its) ∧ ∀ i v, i < items.length → P i v → ∃ y, items[i]? = some y ∧ IsS v y

theorem fresh_size {s s₁ : Shared} (k : Keeps s s₁) : s.heap.get? s₁.heap.objs.size = none := by
  cases e : s.heap.get? s₁.heap.objs.size with
  | none => rfl
  | some o => exact absurd (Heap.lt_size (kp_sub k _ _ e)) (Nat.lt_irrefl _)

section
variable {prog : Program} {w : World} {h₀ : Heap} {n : Nat} {sc : Scope} {m : Mp} {R : Fl → Mp → Prop} {mg mb : Str → Option Value}

theorem wk_list {A : Around} {s s₁ : Shared} {v : Value} {l : List S} {E : Value → Shared → Prop} (hq : A.handled = none) (k : Keeps s s₁) (h : IsL s₁.heap v l) :
    wpAny (model prog w) A (pyIter v) (Wk prog w A s (fun b => v = .ref b) l) E s₁ := by
  obtain ⟨ax, items, rfl, hl, p⟩ := h
  have hlt : ax < s₁.heap.objs.size := let ⟨o, ho, _⟩ := hl; Heap.lt_size ho
  have hne : ax ≠ s₁.heap.objs.size := Nat.ne_of_lt hlt
  refine wpAny_pyIter_list hl ?_
  have hlen : items.size = l.length := by rw [← Array.length_toList]; exact Pr.len p
  refine ⟨kp_trans k (kp_push _ _), s₁.heap.objs.size, [s₁.heap.objs.size, ax], _, _, rfl, hlen ▸ Walks.list hq s₁.heap.objs.size ax hne items, ⟨⟨_, Heap.get?_push_size _ rfl, rfl, rfl⟩, hl.push _⟩, ?_, fresh_size k, by simp, ?_, ?_⟩
  · intro b hb; simp at hb; rcases hb with rfl | rfl
    · exact .inl rfl
    · exact .inr rfl
  · rintro i h ⟨⟨o, ho, hc, hd⟩, o', ho', hc', n', hd'⟩
    refine ⟨fun b hb => ?_, ?_⟩
    · simp at hb; rcases hb with rfl | rfl
      · exact ⟨_, ho⟩
      · exact ⟨_, ho'⟩
    · rintro its ⟨o2, ho2, _, n2, hd2⟩
      rw [ho] at ho2; cases ho2; rw [hd] at hd2; cases hd2
  · intro i v _ hv
    have hv' : items.toList[i]? = some v := by rw [Array.getElem?_toList]; exact hv
    have hi : i < l.length := by
      rcases Nat.lt_or_ge i l.length with h | h
      · exact h
      · rw [List.getElem?_eq_none (by rw [Pr.len p]; exact h)] at hv'; cases hv'
    obtain ⟨x, hx, hxy⟩ := Pr.get p i _ (List.getElem?_eq_getElem hi)
    rw [hv'] at hx; cases hx
    exact ⟨_, List.getElem?_eq_getElem hi, hxy⟩

theorem wk_str {A : Around} {s s₁ : Shared} {x : Str} {t : Tok} {E : Value → Shared → Prop} (hq : A.handled = none) (k : Keeps s s₁) :
    wpAny (model prog w) A (pyIter (.str x t)) (Wk prog w A s (fun _ => False) (x.cps.toList.map fun c => S.str ⟨#[c]⟩)) E s₁ := by
  have hlen : x.cps.size = (x.cps.toList.map fun c => S.str ⟨#[c]⟩).length := by simp
  have fin : ∀ ty, Walks prog w A s₁.heap.objs.size [s₁.heap.objs.size] [s₁.heap.objs.size] x.cps.size (SignAt x) (fun i h => h.IsStrIter s₁.heap.objs.size ty x t i) →
      Wk prog w A s (fun _ => False) (x.cps.toList.map fun c => S.str ⟨#[c]⟩) (.ref s₁.heap.objs.size) { s₁ with heap := s₁.heap.push { cls := .type ty, data := .fields #[.str x t, .int 0 0] } } := by
    intro ty W
    refine ⟨kp_trans k (kp_push _ _), s₁.heap.objs.size, [s₁.heap.objs.size], _, _, rfl, hlen ▸ W, ⟨_, Heap.get?_push_size _ rfl, rfl, rfl⟩, by simp, fresh_size k, by simp, ?_, ?_⟩
    · rintro i h ⟨o, ho, hc, hd⟩
      refine ⟨fun b hb => ?_, ?_⟩
      · simp at hb; subst hb; exact ⟨_, ho⟩
      · rintro its ⟨o2, ho2, _, n2, hd2⟩
        rw [ho] at ho2; cases ho2; rw [hd] at hd2; cases hd2
    · rintro i v _ ⟨c, u, hc, rfl⟩
      refine ⟨S.str ⟨#[c]⟩, ?_, u, rfl⟩
      rw [List.getElem?_map, Array.getElem?_toList, hc]; rfl
  cases ha : x.cps.all (· < 128)
  · exact wpAny_pyIter_wide ha (fin _ (Walks.strWide hq _ x t))
  · exact wpAny_pyIter_ascii ha (fin _ (Walks.strAscii hq _ x t))

def rng (a c : Int) (n : Nat) : List S := (List.range n).map fun (i : Nat) => S.int (a + (i : Int) * c)

theorem wk_range {A : Around} {s s₁ : Shared} {r : Addr} {a b c : Int} {t u v : Tok} {k : Nat} {E : Value → Shared → Prop} (hq : A.handled = none) (kp : Keeps s s₁) (hr : IsRange s₁.heap r a b c t u v) (hs : Builtin.Range.small a b c = true)
    (hk : Builtin.Range.rangeSize a b c = k) : wpAny (model prog w) A (pyIter (.ref r)) (Wk prog w A s (fun _ => False) (rng a c k)) E s₁ := by
  refine wpAny_pyIter_range hr hs ?_
  have hlen : (rng a c k).length = k := by simp [rng]
  refine ⟨kp_trans kp (kp_push _ _), s₁.heap.objs.size, [s₁.heap.objs.size], _, _, rfl, hlen.symm ▸ Walks.range hq _ a c k, ?_, by simp, fresh_size kp, by simp, ?_, ?_⟩
  · show IsRangeIter _ _ _ _ _
    have : IsRangeIter (s₁.heap.push { cls := .type "range_iterator", data := .fields #[rawInt a, rawInt (Builtin.Range.rangeSize a b c), rawInt c] }) s₁.heap.objs.size a (Builtin.Range.rangeSize a b c) c := Heap.get?_push_size _ rfl
    have e1 : a + ((0 : Nat) : Int) * c = a := by simp
    have e2 : (((rng a c k).length : Nat) : Int) - ((0 : Nat) : Int) = Builtin.Range.rangeSize a b c := by rw [hlen, hk]; simp
    rw [e1, e2]
    exact this
  · rintro i h st
    refine ⟨fun b hb => ?_, ?_⟩
    · simp at hb; subst hb; exact ⟨_, st⟩
    · rintro its ⟨o2, ho2, _, n2, hd2⟩
      have e := st; unfold IsRangeIter at e
      rw [e] at ho2; cases ho2; cases hd2
  · rintro i v hi ⟨t, rfl⟩
    rw [hlen] at hi
    refine ⟨S.int (a + (i : Int) * c), ?_, t, rfl⟩
    simp [rng, hi]
end
end Mine

end

section
open PySem PySem.W PyProof.Rows
set_option Elab.async false
set_option linter.unusedVariables false
namespace Mine

theorem walks_bound {prog : Program} {w : World} {A : Around} {I : Addr} {fp wr : List Addr} {n : Nat} {P : Nat → Value → Prop} {St : Nat → Heap → Prop} (W : Walks prog w A I fp wr n P St) :
    Walks prog w A I fp wr n (fun i v => i < n ∧ P i v) St where
  sub := W.sub
  frame := W.frame
  item := fun i s Q E hi st hQ => W.item i s Q E hi st fun v h' tk hp st' hk => hQ v h' tk ⟨hi, hp⟩ st' hk
  done := W.done
  self := W.self

theorem IsS.fun {v : Value} {x y : S} (h : IsS v x) (h' : IsS v y) : x = y := by
  cases x <;> cases y <;> simp only [IsS] at h h'
  all_goals first
    | rfl
    | (subst h; cases h'; done)
    | (subst h; cases h'; rfl)
    | (obtain ⟨t, rfl⟩ := h; obtain ⟨t', e⟩ := h'; cases e; done)
    | (obtain ⟨t, rfl⟩ := h; obtain ⟨t', e⟩ := h'; cases e; rfl)
    | (obtain ⟨t, rfl⟩ := h; cases h'; done)
    | (obtain ⟨t, rfl⟩ := h'; cases h; done)

theorem closure_fold {env : Env} : ∀ (names : List (Str × NameKind)) (cs : List (Str × Addr)), (∀ p ∈ names, p.2 = .free → ∃ c, env.cells.lookup p.1 = some c) →
    ∃ cl : List (Str × Addr), (forIn names cs (fun (x : Str × NameKind) (r : List (Str × Addr)) => if (x.2 == NameKind.free) = true then (do let y ← cellOf env x.1; pure (ForInStep.yield ((x.1, y) :: r))) else pure (ForInStep.yield r)) : Sem (List (Str × Addr))) = pure cl ∧
      ∀ y, (∀ c, cs.lookup y = some c → env.cells.lookup y = some c) → (cl.lookup y = none → cs.lookup y = none ∧ (y, NameKind.free) ∉ names) ∧ (∀ c, cl.lookup y = some c → env.cells.lookup y = some c)
  | [], cs, _ => ⟨cs, rfl, fun y h => ⟨fun e => ⟨e, by simp⟩, h⟩⟩
  | (nm, k) :: rest, cs, h => by
    by_cases hk : k = .free
    · subst hk
      obtain ⟨c, hc⟩ := h (nm, .free) List.mem_cons_self rfl
      obtain ⟨cl, e, hcl⟩ := closure_fold rest ((nm, c) :: cs) fun p hp => h p (List.mem_cons_of_mem _ hp)
      have hcell : cellOf env nm = pure c := by unfold cellOf; rw [hc]
      refine ⟨cl, ?_, fun y hy => ?_⟩
      · rw [List.forIn_cons]
        simp only [beq_self_eq_true, if_true, hcell, pure_bind]
        exact e
      · have hy' : ∀ c', ((nm, c) :: cs).lookup y = some c' → env.cells.lookup y = some c' := by
          intro c' e'
          rw [List.lookup_cons] at e'
          cases hb : y == nm with
          | true => rw [hb] at e'; cases e'; rw [eq_of_beq hb]; exact hc
          | false => rw [hb] at e'; exact hy c' e'
        obtain ⟨q1, q2⟩ := hcl y hy'
        refine ⟨fun en => ?_, q2⟩
        obtain ⟨r1, r2⟩ := q1 en
        rw [List.lookup_cons] at r1
        cases hb : y == nm with
        | true => rw [hb] at r1; cases r1
        | false =>
          rw [hb] at r1
          refine ⟨r1, fun hm => ?_⟩
          rcases List.mem_cons.mp hm with e' | e'
          · cases e'; simp at hb
          · exact r2 e'
    · obtain ⟨cl, e, hcl⟩ := closure_fold rest cs fun p hp => h p (List.mem_cons_of_mem _ hp)
      have hb : (k == NameKind.free) = false := by simpa using hk
      refine ⟨cl, ?_, fun y hy => ?_⟩
      · rw [List.forIn_cons]
        simp only [hb, Bool.false_eq_true, if_false, pure_bind]
        exact e
      · obtain ⟨q1, q2⟩ := hcl y hy
        refine ⟨fun en => ?_, q2⟩
        obtain ⟨r1, r2⟩ := q1 en
        refine ⟨r1, fun hm => ?_⟩
        rcases List.mem_cons.mp hm with e' | e'
        · cases e'; exact hk rfl
        · exact r2 e'

theorem closure_of {env : Env} {scope : Scope} (h : ∀ p ∈ scope.names, p.2 = .free → ∃ c, env.cells.lookup p.1 = some c) :
    ∃ cl, closureFor scope env = pure cl ∧ ∀ y, (y, NameKind.free) ∈ scope.names → cl.lookup y = env.cells.lookup y := by
  obtain ⟨cl, e, hcl⟩ := closure_fold scope.names [] h
  refine ⟨cl, ?_, fun y hy => ?_⟩
  · have e' : closureFor scope env = (forIn scope.names [] (fun (x : Str × NameKind) (r : List (Str × Addr)) => if (x.2 == NameKind.free) = true then (do let y ← cellOf env x.1; pure (ForInStep.yield ((x.1, y) :: r))) else pure (ForInStep.yield r)) >>= fun cs => pure cs : Sem (List (Str × Addr))) := rfl
    rw [e', e]; rfl
  · obtain ⟨q1, q2⟩ := hcl y fun c e => by cases e
    cases e' : cl.lookup y with
    | none => exact absurd hy (q1 e').2
    | some c => exact (q2 c e').symm

def rl (scope outer : Scope) : Scope :=
  { scope with names := scope.names.map fun (n, k) => if (k == .free && outer.kind == .function && outer.names.lookup n == some .cell) then (n, .cell) else (n, k) }

/-- the names that a comprehension sees -/
def cmap (scope : Scope) (m : Mp) : Mp := m.filter fun p => scope.names.contains (Str.ofString p.1, NameKind.free)
theorem lk_filter {f : String → Bool} : ∀ (m : Mp) (k : String), lk (m.filter fun p => f p.1) k = if f k then lk m k else none
  | [], k => by simp
  | (k', d) :: m, k => by
    rw [List.filter_cons]
    by_cases hf : f k' = true
    · simp only [hf, if_true, lk_cons, lk_filter m k]
      by_cases hk : k' = k
      · subst hk; simp [hf]
      · simp [hk]
    · have hf' : f k' = false := by simpa using hf
      simp only [hf', Bool.false_eq_true, if_false, lk_filter m k, lk_cons]
      by_cases hk : k' = k
      · subst hk; simp [hf']
      · simp [hk]
theorem lk_cmap {scope : Scope} {m : Mp} {k : String} {d : D} (h : lk (cmap scope m) k = some d) : (Str.ofString k, NameKind.free) ∈ scope.names ∧ lk m k = some d := by
  unfold cmap at h
  rw [lk_filter (f := fun k => scope.names.contains (Str.ofString k, NameKind.free))] at h
  by_cases hf : scope.names.contains (Str.ofString k, NameKind.free) = true
  · rw [if_pos hf] at h; exact ⟨by simpa using hf, h⟩
  · rw [if_neg hf] at h; cases h

section
variable {prog : Program} {w : World} {h₀ : Heap} {n : Nat} {sc : Scope} {m : Mp} {R : Fl → Mp → Prop} {mg mb : Str → Option Value}

/-- an expression's iterator -/
def ItE (prog : Program) (w : World) (h₀ : Heap) (n : Nat) (sc : Scope) (m : Mp) (iter : PySem.Expr) (items : List S) : Prop :=
  ∀ (A : Around) (env : Env) (s : Shared), env.scope = sc → Rm n A → Good h₀ env m s →
    wpAny (model prog w) A (eval iter env) (fun xv s₁ => wpAny (model prog w) A (pyIter xv) (fun it s₂ => ∃ extra, Wk prog w A s extra items it s₂) (fun _ _ => False) s₁) (fun _ _ => False) s

structure CompOk (sc : Scope) (m : Mp) (scope : Scope) (x : String) : Prop where
  kind : scope.kind = .function
  nocell : ∀ y ∈ scope.names, y.2 ≠ .cell
  names : ∀ y ∈ scope.names, y.2 = .local → scope.names.lookup y.1 = some .local
  x : scope.names.lookup (Str.ofString x) = some .local
  free : ∀ y ∈ scope.names, y.2 = .free → sc.names.lookup y.1 = some .cell ∧ (rl scope sc).names.lookup y.1 = some .cell ∧ ∃ k d, y.1 = Str.ofString k ∧ lk m k = some d

theorem comp_run {A : Around} {env : Env} {s : Shared} {elt iter : PySem.Expr} {x : String} {px pos : Pos} {scope : Scope} {items : List S} {cl : List (Str × Addr)} {E : Value → Shared → Prop} {RR : Value → Addr → Result → Shared → Prop} (f : S → S)
    (hs : env.scope = sc) (hr : Rm n A) (G : Good h₀ env m s) (hit : ItE prog w h₀ n sc m iter items) (ok : CompOk sc m scope x) (hcl : ∀ y, (y, NameKind.free) ∈ scope.names → cl.lookup y = env.cells.lookup y)
    (hel : ∀ y ∈ items, Ev prog w h₀ n (rl scope sc) ((x, .sc y) :: cmap scope m) elt (.sc (f y))) (hsz : items.length ≤ sizeLine)
    (hRR : ∀ D C s', Res s (.new (items.map f)) (.ref D) s' → (∃ m', s'.heap.Ns C m') → s.heap.get? C = none → D ≠ C → RR (.ref D) C (.ok .next) s') :
    wpAny (model prog w) A (eval iter env) (fun xv s₁ => wpAny (model prog w) A (pyIter xv) (fun it s₂ => wpAny (model prog w) A (newList []) (fun acc s₃ =>
      wpAny (model prog w) A (newFunctionEnv scope env.globals cl [] env.qual none .none (some env)) (fun cenv s₄ =>
        codeAny (model prog w) A (.compStart (.ListComp elt [⟨.Name (Str.ofString x) px, iter, [], 0⟩] scope pos) 0 it acc { cenv with scope := relabel scope env }) (RR acc cenv.locals) s₄) E s₃) E s₂) E s₁) E s := by
  refine wpF (hit A env s hs hr G) fun xv s₁ h₁ => wpF h₁ fun it s₂ h₂ => ?_
  obtain ⟨extra, k₂, I, fp, P, St, rfl, W, st0, hfp, hfI, hIfp, hst, hP⟩ := h₂
  have kI : ∀ b o, s.heap.get? b = some o → b ∉ [I] := fun b o e hb => by simp at hb; subst hb; rw [hfI] at e; cases e
  have hrel : relabel scope env = rl scope sc := by subst hs; rfl
  refine comp_block_walkC (p := fun _ => true) (F := fun v y => ∃ a ∈ items, IsS v a ∧ IsS y (f a)) (walks_bound W) hsz ok.nocell ok.kind ok.x st0 (fun b hb => let ⟨o, ho⟩ := (hst 0 _ st0).1 b hb; Heap.lt_size ho) ⟨?_, ?_⟩ ?_
  · intro C i v s₃ m₃ E' _ _ _ _ _ _
    exact wpAny_tests_nil ⟨rfl, kp_refl _⟩
  · intro C i v s₃ m₃ E' hC hPv _ hn hx hk _
    obtain ⟨a, ha, hva⟩ := hP i v hPv.1 hPv.2
    have hmem : a ∈ items := List.mem_of_getElem? ha
    have sub : Sub s.heap s₃.heap := fun b o e => hk b o (kI b o e) (kp_sub k₂ b o e)
    have Gc : Good h₀ (compEnvC scope cl C env) ((x, .sc a) :: cmap scope m) s₃ := by
      refine ⟨ok.kind, G.gl, G.bl, fun b o e => sub b o (G.base b o e), fun k d e => ?_⟩
      rw [lk_cons] at e
      by_cases hkk : x = k
      · subst hkk; rw [if_pos rfl] at e; cases e
        exact ⟨v, .inl ⟨lookup_relabel_local ok.x, m₃, hn, hx⟩, hva⟩
      · rw [if_neg hkk] at e
        obtain ⟨e1, e2⟩ := lk_cmap e
        obtain ⟨v', hv', hd'⟩ := G.vars k d e2
        obtain ⟨q1, q2, _⟩ := ok.free _ e1 rfl
        refine ⟨v', ?_, hd'.keeps sub⟩
        rcases hv' with ⟨r1, _⟩ | ⟨r1, c, r2, r3⟩
        · unfold Env.kindOf at r1; rw [hs, q1] at r1; cases r1
        · refine .inr ⟨?_, c, (hcl _ e1).trans r2, isCell_keeps r3 sub⟩
          show (relabel scope env).names.lookup _ = _
          rw [hrel]; exact q2
    exact wpF (hel a hmem A (compEnvC scope cl C env) s₃ (by show relabel scope env = _; exact hrel) hr Gc) fun y s₄ r => ⟨⟨a, hmem, hva, r.is⟩, r.keeps⟩
  · intro D C h' tk m' ys vs hD hC hDC hn hl hpl hlen hPs hF hk
    have sub : Sub s.heap h' := fun b o e => hk b o (kI b o e) (kp_sub k₂ b o e)
    have none_of : ∀ b, s₂.heap.get? b = none → s.heap.get? b = none := fun b e => by
      cases e' : s.heap.get? b with
      | none => rfl
      | some o => rw [kp_sub k₂ b o e'] at e; cases e
    refine hRR D C _ ⟨?_, ⟨D, ys, rfl, hpl, ?_⟩, fun a ha => by cases ha; exact none_of _ hD⟩ ⟨m', hn⟩ (none_of _ hC) hDC
    · obtain ⟨h2, t2, rfl, _⟩ := k₂; exact ⟨h', tk, rfl, sub⟩
    · have hfilter : vs.filter (fun _ => true) = vs := List.filter_eq_self.mpr fun _ _ => rfl
      rw [hfilter] at hF
      clear hl hpl
      -- item by item
      have all : ∀ (vs : List Value) (ys : List Value) (off : Nat), Paired (fun v y => ∃ a ∈ items, IsS v a ∧ IsS y (f a)) vs ys → (∀ j v, vs[j]? = some v → ∃ a, items[off + j]? = some a ∧ IsS v a) → off + vs.length = items.length →
          Paired IsS ys ((items.drop off).map f) := by
        intro vs
        induction vs with
        | nil =>
          intro ys off hp _ hlen
          cases hp
          rw [List.drop_of_length_le (by simp at hlen; omega)]
          exact .nil
        | cons v vs ih =>
          intro ys off hp hv hlen
          cases hp with
          | cons h t =>
            obtain ⟨a, ha, hva⟩ := hv 0 v rfl
            obtain ⟨a', _, hva', hy⟩ := h
            have := hva.fun hva'; subst this
            have hlt : off < items.length := by simp at hlen; omega
            rw [List.drop_eq_getElem_cons hlt, List.map_cons]
            have e : items[off] = a := by
              have := List.getElem?_eq_getElem hlt
              simp at ha; rw [this] at ha; cases ha; rfl
            rw [e]
            refine .cons hy (ih _ (off + 1) t (fun j u hj => ?_) (by simp at hlen; omega))
            have := hv (j + 1) u (by simpa using hj)
            rw [Nat.add_assoc, Nat.add_comm 1 j]; exact this
      have := all vs ys.toList 0 hF (fun j v hj => by
        have hPj := hPs j v hj
        obtain ⟨a, q1, q2⟩ := hP j v hPj.1 hPj.2
        exact ⟨a, by simpa using q1, q2⟩) (by simpa using hlen)
      simpa using this

theorem cells_of {env : Env} {s : Shared} {scope : Scope} {x : String} (hs : env.scope = sc) (G : Good h₀ env m s) (ok : CompOk sc m scope x) : ∀ p ∈ scope.names, p.2 = .free → ∃ c, env.cells.lookup p.1 = some c := by
  intro p hp hf
  obtain ⟨q1, _, k, d, e, hk⟩ := ok.free p hp hf
  obtain ⟨v, hv, _⟩ := G.vars k d hk
  rcases hv with ⟨r1, _⟩ | ⟨r1, c, r2, _⟩
  · unfold Env.kindOf at r1; rw [hs, ← e, q1] at r1; cases r1
  · exact ⟨c, e ▸ r2⟩

theorem res_but {s s' : Shared} {l : List S} {D C : Addr} {h' : Heap} (r : Res s (.new l) (.ref D) s') (hC : s.heap.get? C = none) (hne : D ≠ C) (hs : Heap.SameBut C s'.heap h') : Res s (.new l) (.ref D) { s' with heap := h' } := by
  obtain ⟨⟨h1, t1, rfl, k1⟩, ⟨a, items, e, hp, p⟩, fr⟩ := r
  cases e
  refine ⟨⟨h', t1, rfl, fun b o e => hs.extBut b o (by rintro rfl; rw [hC] at e; cases e) (k1 b o e)⟩, ⟨D, items, rfl, hp.extBut hs.extBut hne, p⟩, fr⟩

theorem ev_comp {elt iter : PySem.Expr} {x : String} {px pos : Pos} {scope : Scope} {items : List S} (f : S → S) (hit : ItE prog w h₀ n sc m iter items) (ok : CompOk sc m scope x)
    (hel : ∀ y ∈ items, Ev prog w h₀ n (rl scope sc) ((x, .sc y) :: cmap scope m) elt (.sc (f y))) (hsz : items.length ≤ sizeLine)
    (hset : ∀ env xv, foldedSetIterable iter env xv = pure xv := by intro _ _; rfl) :
    Ev prog w h₀ n sc m (.ListComp elt [⟨.Name (Str.ofString x) px, iter, [], 0⟩] scope pos) (.new (items.map f)) := by
  intro A env s hs hr G
  obtain ⟨cl, e1, e2⟩ := closure_of (cells_of hs G ok)
  rw [eval_ListComp]
  refine wpAny_comprehension_free (use := none) rfl (hset env) e1 ok.kind ok.names ?_
  refine comp_run (RR := fun acc C => compPost (model prog w) A (fun _ _ => False) none (Res s (.new (items.map f))) acc C) f hs hr G hit ok e2 hel hsz ?_
  intro D C s' r hn hC hne
  obtain ⟨m', hn⟩ := hn
  exact ⟨m', hn, fun h' hs' => res_but r hC hne hs'⟩

theorem ex_assign_comp {k : String} {p pos' : Pos} {elt iter : PySem.Expr} {x : String} {px pos : Pos} {scope : Scope} {items : List S} (f : S → S) (hit : ItE prog w h₀ n sc m iter items) (ok : CompOk sc m scope x)
    (hel : ∀ y ∈ items, Ev prog w h₀ n (rl scope sc) ((x, .sc y) :: cmap scope m) elt (.sc (f y))) (hsz : items.length ≤ sizeLine) (hk : lc sc k)
    (hset : ∀ env xv, foldedSetIterable iter env xv = pure xv := by intro _ _; rfl) :
    Ex1 prog w h₀ n sc m (.Assign [.Name (Str.ofString k) p] (.ListComp elt [⟨.Name (Str.ofString x) px, iter, [], 0⟩] scope pos) pos') (To ((k, .own (items.map f)) :: m)) := by
  intro A env ze z s hs hr G
  have hall : ∀ env' : Env, env'.scope = sc → swapsWith (.ListComp elt [⟨.Name (Str.ofString x) px, iter, [], 0⟩] scope pos) (some (.Name (Str.ofString k) p)) pos'.line env' =
      pure (((if sc.kind.isAnnotationScope then ScopeKind.function else sc.kind) == ScopeKind.function) && (sc.names.lookup (Str.ofString k) == some NameKind.local) && (p.line == pos.line)
        && !(scope.names.any fun (n, kk) => n == Str.ofString k && (kk == .local || kk == .cell))) := by
    intro env' he; subst he; rfl
  have hd : (∀ env' : Env, env'.scope = sc → swapsWith (.ListComp elt [⟨.Name (Str.ofString x) px, iter, [], 0⟩] scope pos) (some (.Name (Str.ofString k) p)) pos'.line env' = pure true) ∨
      (∀ env' : Env, env'.scope = sc → swapsWith (.ListComp elt [⟨.Name (Str.ofString x) px, iter, [], 0⟩] scope pos) (some (.Name (Str.ofString k) p)) pos'.line env' = pure false) := by
    revert hall
    cases (((if sc.kind.isAnnotationScope then ScopeKind.function else sc.kind) == ScopeKind.function) && (sc.names.lookup (Str.ofString k) == some NameKind.local) && (p.line == pos.line)
        && !(scope.names.any fun (n, kk) => n == Str.ofString k && (kk == .local || kk == .cell)))
    · exact .inr
    · exact .inl
  rcases hd with hsw | hsw
  · obtain ⟨cl, e1, e2⟩ := closure_of (cells_of hs G.good ok)
    rw [exec_Assign_Name_used _ _ _ _ (hsw env hs)]
    refine wpAny_bind (wpAny_standAt (wpAny_bind ?_))
    show wpAny _ A (do let _ ← comprehension (.ListComp elt [⟨.Name (Str.ofString x) px, iter, [], 0⟩] scope pos) scope env _ (newList []) false (eval iter env) (some (assign (.Name (Str.ofString k) p) env))) _ _ s
    refine wpAny_bind (wpAny_mono (wpAny_comprehension_free (use := some (assign (.Name (Str.ofString k) p) env)) (Q := fun _ s' => Same s s' ∧ GoodW h₀ ze env z ((k, .own (items.map f)) :: m) s') rfl (hset env) e1 ok.kind ok.names
      (comp_run (RR := fun acc C => compPost (model prog w) A (fun _ _ => False) (some (assign (.Name (Str.ofString k) p) env)) (fun _ s' => Same s s' ∧ GoodW h₀ ze env z ((k, .own (items.map f)) :: m) s') acc C) f hs hr G.good hit ok e2 hel hsz ?_))
      (fun _ s' hq => wpAny_pure (wpAny_pure ⟨.next, _, ⟨rfl, rfl⟩, rfl, hq.1, hq.2⟩)) fun _ _ e => e)
    intro D C s' r hn hC hne
    obtain ⟨m', hn⟩ := hn
    show wpAny _ A (assign (.Name (Str.ofString k) p) env (.ref D)) _ _ _
    refine wpAny_assign_Name (wpAny_mono (store' G r trivial (lc_kind hs hk)) (fun _ s₃ h₃ => ?_) fun _ _ f => f)
    obtain ⟨sm, G₃, b, hsb, ob, hob⟩ := h₃
    have hCb : C ≠ b := by rintro rfl; rw [hC] at hob; cases hob
    have hn₃ : s₃.heap.Ns C m' := hn.sameBut hsb hCb
    have hzC : z C = none := by
      cases e : z C with
      | none => rfl
      | some o => rw [G.zin C o e] at hC; cases hC
    refine ⟨m', hn₃, fun h' hs' => ⟨same_trans (same_keeps r.keeps) (same_trans sm ⟨h', s₃.toks, rfl⟩), ?_⟩⟩
    refine change0 (tk := s₃.toks) G₃ hzC ?_ (fun kk c q1 q2 e => ?_) (fun b' o hb' e => hs'.extBut b' o (by simpa using hb') e) fun its hl => dict_not_list hn₃ hl
    · obtain ⟨ml, hnl⟩ := G.ns
      obtain ⟨o, ho⟩ := ns_get hnl
      intro e; rw [e, hC] at ho; cases ho
    · obtain ⟨c', vo, r1, _, r3⟩ := G.cel kk q1
      rw [q2] at r1; cases r1
      obtain ⟨o, ho⟩ := cell_get r3
      rw [e, hC] at ho; cases ho
  · exact ex_assign (ev_comp f hit ok hel hsz hset) hk trivial hsw A env ze z s hs hr G
end
end Mine

end

section
open PySem PySem.W PyProof.Rows
set_option Elab.async false
set_option linter.unusedVariables false
namespace Mine

theorem bindL_not {kindOf : Str → Option NameKind} : ∀ (binds : List (Str × Value)) (m : Str → Option Value) (x : Str), x ∉ binds.map (·.1) → bindL kindOf binds m x = m x
  | [], m, x, _ => rfl
  | (n, v) :: r, m, x, h => by
    rw [List.map_cons, List.mem_cons, not_or] at h
    unfold bindL
    rw [bindL_not r _ x h.2]
    split
    · exact if_neg h.1
    · rfl
theorem bindC_not {kindOf : Str → Option NameKind} : ∀ (binds : List (Str × Value)) (m : Str → Option Value) (x : Str), x ∉ binds.map (·.1) → bindC kindOf binds m x = m x
  | [], m, x, _ => rfl
  | (n, v) :: r, m, x, h => by
    rw [List.map_cons, List.mem_cons, not_or] at h
    unfold bindC
    rw [bindC_not r _ x h.2]
    split
    · rfl
    · exact if_neg h.1
theorem bindL_mem {kindOf : Str → Option NameKind} : ∀ (binds : List (Str × Value)) (m : Str → Option Value) (x : Str) (v : Value), (binds.map (·.1)).Nodup → (x, v) ∈ binds → kindOf x = some .local → bindL kindOf binds m x = some v
  | (n, u) :: r, m, x, v, hn, hm, hk => by
    rw [List.map_cons, List.nodup_cons] at hn
    unfold bindL
    rcases List.mem_cons.mp hm with e | hm
    · cases e
      rw [bindL_not r _ _ hn.1, if_pos hk]; simp
    · exact bindL_mem r _ x v hn.2 hm hk
theorem bindC_mem {kindOf : Str → Option NameKind} : ∀ (binds : List (Str × Value)) (m : Str → Option Value) (x : Str) (v : Value), (binds.map (·.1)).Nodup → (x, v) ∈ binds → kindOf x = some .cell → bindC kindOf binds m x = some v
  | (n, u) :: r, m, x, v, hn, hm, hk => by
    rw [List.map_cons, List.nodup_cons] at hn
    unfold bindC
    rcases List.mem_cons.mp hm with e | hm
    · cases e
      rw [bindC_not r _ _ hn.1, if_neg (by rw [hk]; simp)]; simp
    · exact bindC_mem r _ x v hn.2 hm hk

theorem cellsFrom_acc : ∀ (names : List (Str × NameKind)) (i : Nat) (acc : List (Str × Addr)) (x : Str), ((acc.lookup x).isSome = true ∨ (x, NameKind.cell) ∈ names) → ((cellsFrom i names acc).lookup x).isSome = true
  | [], i, acc, x, h => by rcases h with h | h
                           · exact h
                           · cases h
  | (nm, kind) :: r, i, acc, x, h => by
    unfold cellsFrom
    split
    · refine cellsFrom_acc r _ _ x ?_
      rw [List.lookup_cons]
      cases hb : x == nm with
      | true => exact .inl rfl
      | false =>
        rcases h with h | h
        · exact .inl h
        · rcases List.mem_cons.mp h with e | h
          · cases e; simp at hb
          · exact .inr h
    · rename_i hk
      refine cellsFrom_acc r _ _ x ?_
      rcases h with h | h
      · exact .inl h
      · rcases List.mem_cons.mp h with e | h
        · cases e; simp at hk
        · exact .inr h
theorem cellsFrom_some {names : List (Str × NameKind)} {i : Nat} {x : Str} (h : names.lookup x = some .cell) : ∃ c, (cellsFrom i names []).lookup x = some c :=
  Option.isSome_iff_exists.mp (cellsFrom_acc names i [] x (.inr (PySem.mem_of_lookup h)))

theorem nodup_ofString : ∀ {l : List String}, l.Nodup → (l.map Str.ofString).Nodup
  | [], _ => by simp
  | x :: l, h => by
    rw [List.nodup_cons] at h
    rw [List.map_cons, List.nodup_cons]
    refine ⟨fun hm => ?_, nodup_ofString h.2⟩
    obtain ⟨y, hy, e⟩ := List.mem_map.mp hm
    exact h.1 (ofString_inj e ▸ hy)

theorem zip_mem : ∀ {names : List String} {ds : List D} {vs : List Value} {h : Heap} {k : String} {d : D}, Paired (IsD h) vs ds → lk (names.zip ds) k = some d → names.length = ds.length →
    ∃ v, (Str.ofString k, v) ∈ (names.map Str.ofString).zip vs ∧ IsD h v d
  | [], _, _, _, _, _, _, e, _ => by cases e
  | x :: names, [], _, _, _, _, _, e, hl => by cases hl
  | x :: names, d :: ds, _, h, k, d', .cons hv t, e, hl => by
    rw [List.zip_cons_cons, lk_cons] at e
    by_cases hk : x = k
    · subst hk; rw [if_pos rfl] at e; cases e
      exact ⟨_, List.mem_cons_self, hv⟩
    · rw [if_neg hk] at e
      obtain ⟨v, hm, hd⟩ := zip_mem t e (by simpa using hl)
      exact ⟨v, List.mem_cons_of_mem _ hm, hd⟩

section
variable {prog : Program} {w : World} {h₀ : Heap} {n : Nat} {sc : Scope} {m : Mp} {R : Fl → Mp → Prop} {mg mb : Str → Option Value}

@[reducible] def Param : D → Prop
  | .sc _ => True
  | .ls _ => True
  | _ => False

theorem fn_def {name : Str} {params : Arguments} {body : List Stmt} {scope : Scope} {pm cd doc : Value} {a : Addr} {o : Obj} {names : List String} {ds : List D} {d : D}
    (am : Amb mg mb h₀) (ho : h₀.get? a = some o) (hdata : o.data = .func (Calls.docDef name params body scope pm cd doc)) (hcd : h₀.CodeRec cd name)
    (hlen : names.length = ds.length) (hnd : names.Nodup) (hpar : ∀ d ∈ ds, Param d)
    (hbind : ∀ vs : List Value, vs.length = names.length → bindArgs (Calls.docDef name params body scope pm cd doc) ⟨vs, []⟩ = pure ((names.map Str.ofString).zip vs))
    (hkind : ∀ x ∈ names, scope.names.lookup (Str.ofString x) = some .local ∨ scope.names.lookup (Str.ofString x) = some .cell)
    (hbody : Ex prog w h₀ n scope (names.zip ds) body fun f _ => f = .ret d) (hret : Retable d)
    (hco : scope.isCoroutine = false := by rfl) (hgen : scope.isGenerator = false := by rfl) (hk : scope.kind = .function := by rfl) : Fn prog w h₀ (n + 1) (.ref a) ds d := by
  refine ⟨.inr (.inr ⟨a, o, _, rfl, ho, hdata⟩), fun A s vs hr hb p => ?_⟩
  have hvl : vs.length = names.length := by rw [hlen]; exact Pr.len p
  have hbn : (((names.map Str.ofString).zip vs).map (·.1)) = names.map Str.ofString := by rw [List.map_fst_zip]; simp [hvl]
  have hbnd : (((names.map Str.ofString).zip vs).map (·.1)).Nodup := by
    rw [hbn]; exact nodup_ofString hnd
  refine wpAny_call (call_cells_ret (by have := hr.room; omega) (hb _ _ ho) hdata (am.nolimit.keeps hb) (hcd.keeps hb) (hbind vs hvl) (fun x hx => ?_) (fun h₁ tk F X => ?_) hco hgen hk)
  · have hx1 : x.1 ∈ names.map Str.ofString := by rw [← hbn]; exact List.mem_map_of_mem hx
    obtain ⟨k, hk1, e⟩ := List.mem_map.mp hx1
    rcases hkind k hk1 with h | h
    · exact .inl (e ▸ h)
    · obtain ⟨c, hc⟩ := cellsFrom_some (i := s.heap.objs.size + 1) h
      exact .inr ⟨e ▸ h, by rw [← e, hc]; rfl⟩
  · have dead : ∀ b, s.heap.objs.size ≤ b → s.heap.get? b = none := fun b hb' => by
      cases e : s.heap.get? b with
      | none => rfl
      | some o => exact absurd (Heap.lt_size e) (Nat.not_lt.mpr hb')
    have hvars : ∀ k d, lk (names.zip ds) k = some d → ∃ v, Has (envOfC name scope s.heap.objs.size a cd) h₁ k v ∧ IsD h₁ v d ∧ IsD s.heap v d := by
      intro k d e
      obtain ⟨v, hm, hd⟩ := zip_mem p e hlen
      have hk1 : k ∈ names := by
        have : Str.ofString k ∈ names.map Str.ofString := by rw [← hbn]; exact List.mem_map_of_mem hm
        obtain ⟨k', q1, q2⟩ := List.mem_map.mp this
        rw [← ofString_inj q2]; exact q1
      refine ⟨v, ?_, hd.keeps F.keep, hd⟩
      rcases hkind k hk1 with h | h
      · exact .inl ⟨h, _, F.ns, bindL_mem _ _ _ _ hbnd hm h⟩
      · obtain ⟨c, hc⟩ := cellsFrom_some (i := s.heap.objs.size + 1) h
        refine .inr ⟨h, c, hc, ?_⟩
        have := X.cell _ c hc
        rw [bindC_mem _ _ _ _ hbnd hm h] at this
        exact this
    have G : GoodW h₀ s.heap.get? (envOfC name scope s.heap.objs.size a cd) s.heap.get? (names.zip ds) { s with heap := h₁, toks := tk } := by
      refine ⟨⟨hk, rfl, rfl, fun b o e => F.keep b o (hb b o e), fun k d e => let ⟨v, q1, q2, _⟩ := hvars k d e; ⟨v, q1, q2⟩⟩, F.keep, hb, dead _ (Nat.le_refl _), ⟨_, F.ns⟩, fun k e => ?_, fun k k' c e e' => ?_, fun k l e => ?_, fun k l e => ?_, fun b o e => e, fun k l e => ?_⟩
      · obtain ⟨c, hc⟩ := cellsFrom_some (i := s.heap.objs.size + 1) e
        exact ⟨c, _, hc, dead c (Nat.le_of_lt (X.above _ c (PySem.mem_of_lookup hc))), X.cell _ c hc⟩
      · exact name_of_addr X.apart (PySem.mem_of_lookup e) (PySem.mem_of_lookup e')
      · exfalso
        have : ∀ (names : List String) (ds : List D), (∀ d ∈ ds, Param d) → lk (names.zip ds) k ≠ some (.own l) := by
          intro names
          induction names with
          | nil => intro ds _ e; cases e
          | cons x names ih =>
            intro ds hp e
            cases ds with
            | nil => cases e
            | cons d ds =>
              rw [List.zip_cons_cons, lk_cons] at e
              by_cases hx : x = k
              · rw [if_pos hx] at e; cases e; exact hp _ List.mem_cons_self
              · rw [if_neg hx] at e; exact ih ds (fun d hd => hp d (List.mem_cons_of_mem _ hd)) e
        exact this names ds hpar e
      · have : ∀ (names : List String) (ds : List D), (∀ d ∈ ds, Param d) → lk (names.zip ds) k ≠ some (.new l) := by
          intro names
          induction names with
          | nil => intro ds _ e; cases e
          | cons x names ih =>
            intro ds hp e
            cases ds with
            | nil => cases e
            | cons d ds =>
              rw [List.zip_cons_cons, lk_cons] at e
              by_cases hx : x = k
              · rw [if_pos hx] at e; cases e; exact hp _ List.mem_cons_self
              · rw [if_neg hx] at e; exact ih ds (fun d hd => hp d (List.mem_cons_of_mem _ hd)) e
        exact this names ds hpar e
      · obtain ⟨v, q1, _, a', items, rfl, ⟨o', ho', _⟩, _⟩ := hvars k _ e
        exact ⟨a', o', q1, ho'⟩
    have hA : Rm n (A.deeper (envOfC name scope s.heap.objs.size a cd)) := ⟨hr.quiet, by have := hr.room; rw [depth_deeper]; omega, by have := hr.units; rw [Around.deeper_units]; omega⟩
    refine wpF (hbody _ _ _ _ _ rfl hA G) fun f s' hx => ?_
    obtain ⟨r, m', hR, hf, ⟨h2, t2, rfl⟩, G'⟩ := hx
    subst hR
    obtain ⟨v, rfl, hv, hfr⟩ := hf
    refine ⟨⟨h2, t2, rfl, G'.zin⟩, hv, ?_⟩
    cases d with
    | new l => exact fun a ha => hfr l a rfl ha
    | sc x => trivial
    | ls l => trivial
    | own l => trivial

/-! things to loop over -/
def EvR (prog : Program) (w : World) (h₀ : Heap) (n : Nat) (sc : Scope) (m : Mp) (e : PySem.Expr) (a c : Int) (k : Nat) : Prop :=
  ∀ (A : Around) (env : Env) (s : Shared), env.scope = sc → Rm n A → Good h₀ env m s →
    wpAny (model prog w) A (eval e env) (fun v s' => Keeps s s' ∧ ∃ r b t u v', v = .ref r ∧ IsRange s'.heap r a b c t u v' ∧ Builtin.Range.small a b c = true ∧ Builtin.Range.rangeSize a b c = k) (fun _ _ => False) s

theorem ev_range1 {p pos : Pos} {e : PySem.Expr} {b : Int} (am : Amb mg mb h₀) (g : Gl mg mb sc "range" (.type "range")) (h : Ev prog w h₀ n sc m e (.sc (.int b))) (hb : -(2 ^ 62) ≤ b) (hb' : b < 2 ^ 62) (hst : [e].all noStar = true := by rfl) :
    EvR prog w h₀ n sc m (.Call (.Name (Str.ofString "range") p) [e] [] pos) 0 1 b.toNat := by
  intro A env s hs hr G
  refine Call_Name (trees_eq pos [e] hst) (gl_eval am hs G g ?_)
  refine ev_callWith (ds := [.sc (.int b)]) hs hr G (.inr (.inl ⟨_, rfl⟩)) ⟨h, trivial⟩ fun vs s' k p' => ?_
  cases p' with
  | cons hv t =>
    cases t
    obtain ⟨t, rfl⟩ := hv
    refine call_range_1 ⟨kp_trans k ⟨_, _, rfl, fun _ _ e => Heap.get?_push_of_some _ e⟩, _, b, _, _, _, rfl, IsRange.new .., small_one (by decide) (by decide) hb hb', ?_⟩
    rw [rangeSize_one]; split <;> omega
theorem ev_range2 {p pos : Pos} {e₁ e₂ : PySem.Expr} {a b : Int} (am : Amb mg mb h₀) (g : Gl mg mb sc "range" (.type "range")) (h₁ : Ev prog w h₀ n sc m e₁ (.sc (.int a))) (h₂ : Ev prog w h₀ n sc m e₂ (.sc (.int b))) (ha : -(2 ^ 62) ≤ a) (ha' : a < 2 ^ 62) (hb : -(2 ^ 62) ≤ b) (hb' : b < 2 ^ 62) (hst : [e₁, e₂].all noStar = true := by rfl) :
    EvR prog w h₀ n sc m (.Call (.Name (Str.ofString "range") p) [e₁, e₂] [] pos) a 1 (b - a).toNat := by
  intro A env s hs hr G
  refine Call_Name (trees_eq pos [e₁, e₂] hst) (gl_eval am hs G g ?_)
  refine ev_callWith (ds := [.sc (.int a), .sc (.int b)]) hs hr G (.inr (.inl ⟨_, rfl⟩)) ⟨h₁, h₂, trivial⟩ fun vs s' k p' => ?_
  cases p' with
  | cons hv t => cases t with
    | cons hv' t =>
      cases t
      obtain ⟨t, rfl⟩ := hv
      obtain ⟨t', rfl⟩ := hv'
      refine call_range_2 ⟨kp_trans k ⟨_, _, rfl, fun _ _ e => Heap.get?_push_of_some _ e⟩, _, b, _, _, _, rfl, IsRange.new .., small_one ha ha' hb hb', ?_⟩
      rw [rangeSize_one]; split <;> omega
theorem small_two {b : Nat} (hb : b ≤ sizeLine) (hsize : Builtin.Range.rangeSize 0 b 2 = (((b + 1) / 2 : Nat) : Int)) : Builtin.Range.small 0 b 2 = true := by
  have hsl : sizeLine = 16777216 := rfl
  have fl : ∀ i : Int, -16777218 ≤ i → i ≤ 16777218 → Builtin.Range.rangeFitsLong i = true := by
    intro i h1 h2
    unfold Builtin.Range.rangeFitsLong
    rw [Bool.and_eq_true, decide_eq_true_eq, decide_eq_true_eq]
    constructor <;> omega
  unfold Builtin.Range.small
  rw [hsize, if_pos (by decide), fl 0 (by omega) (by omega), fl b (by omega) (by omega), fl 2 (by omega) (by omega), fl _ (by omega) (by omega), fl _ (by omega) (by omega)]
  simp
theorem ev_range_two {p pos : Pos} {e₁ e₂ e₃ : PySem.Expr} {b : Nat} (am : Amb mg mb h₀) (g : Gl mg mb sc "range" (.type "range")) (h₁ : Ev prog w h₀ n sc m e₁ (.sc (.int 0))) (h₂ : Ev prog w h₀ n sc m e₂ (.sc (.int b))) (h₃ : Ev prog w h₀ n sc m e₃ (.sc (.int 2)))
    (hb' : b ≤ sizeLine) (hst : [e₁, e₂, e₃].all noStar = true := by rfl) :
    EvR prog w h₀ n sc m (.Call (.Name (Str.ofString "range") p) [e₁, e₂, e₃] [] pos) 0 2 ((b + 1) / 2) := by
  intro A env s hs hr G
  have hsl : sizeLine = 2 ^ 24 := rfl
  refine Call_Name (trees_eq pos [e₁, e₂, e₃] hst) (gl_eval am hs G g ?_)
  refine ev_callWith (ds := [.sc (.int 0), .sc (.int b), .sc (.int 2)]) hs hr G (.inr (.inl ⟨_, rfl⟩)) ⟨h₁, h₂, h₃, trivial⟩ fun vs s' k p' => ?_
  cases p' with
  | cons hv t => cases t with
    | cons hv' t => cases t with
      | cons hv'' t =>
        cases t
        obtain ⟨t, rfl⟩ := hv
        obtain ⟨t', rfl⟩ := hv'
        obtain ⟨t'', rfl⟩ := hv''
        have hsize : Builtin.Range.rangeSize 0 b 2 = (((b + 1) / 2 : Nat) : Int) := by
          unfold Builtin.Range.rangeSize
          simp only [show (2 : Int) > 0 by decide, if_true]
          split <;> omega
        refine call_range_3 (by decide) ⟨kp_trans k ⟨_, _, rfl, fun _ _ e => Heap.get?_push_of_some _ e⟩, _, b, _, _, _, rfl, IsRange.new .., ?_, hsize⟩ (.inl (PyProof.noPylong_small (by omega)))
        exact small_two hb' hsize

theorem ite_range {e : PySem.Expr} {a c : Int} {k : Nat} (h : EvR prog w h₀ n sc m e a c k) : ItE prog w h₀ n sc m e (rng a c k) := by
  intro A env s hs hr G
  refine wpF (h A env s hs hr G) fun v s₁ h₁ => ?_
  obtain ⟨kp, r, b, t, u, v', rfl, q1, q2, q3⟩ := h₁
  exact wpAny_mono (wk_range hr.quiet kp q1 q2 q3) (fun _ _ x => ⟨_, x⟩) fun _ _ x => x
theorem ite_list {e : PySem.Expr} {d : D} {l : List S} (h : Ev prog w h₀ n sc m e d) (hd : asL d = some l) : ItE prog w h₀ n sc m e l := by
  intro A env s hs hr G
  refine wpF (h A env s hs hr G) fun v s₁ r => ?_
  exact wpAny_mono (wk_list hr.quiet r.keeps (isD_asL hd r.is)) (fun _ _ x => ⟨_, x⟩) fun _ _ x => x

theorem src_of {A : Around} {z : Zp} {s : Shared} {extra : Addr → Prop} {items : List S} {it : Value} {s₂ : Shared} (h : Wk prog w A s extra items it s₂) (hx : ∀ b, extra b → (∃ o, z b = some o) ∨ s.heap.get? b = none) : Src prog w A z s items it s₂ := by
  obtain ⟨k, I, fp, P, St, e, W, st0, hfp, hfI, hI, hst, hP⟩ := h
  exact ⟨k, I, fp, P, St, e, W, st0, fun b hb => (hfp b hb).elim (fun e => .inr (e ▸ hfI)) (hx b), hfI, hI, hst, hP⟩

theorem it_range {e : PySem.Expr} {a c : Int} {k : Nat} (h : EvR prog w h₀ n sc m e a c k) : Iter prog w h₀ n sc m e (rng a c k) := by
  intro A env ze z s hs hr G
  refine wpF (h A env s hs hr G.good) fun v s₁ h₁ => ?_
  obtain ⟨kp, r, b, t, u, v', rfl, q1, q2, q3⟩ := h₁
  exact wpAny_mono (wk_range hr.quiet kp q1 q2 q3) (fun _ _ x => src_of x fun _ f => f.elim) fun _ _ x => x
theorem it_str {e : PySem.Expr} {x : Str} (h : Ev prog w h₀ n sc m e (.sc (.str x))) : Iter prog w h₀ n sc m e (x.cps.toList.map fun c => S.str ⟨#[c]⟩) := by
  intro A env ze z s hs hr G
  refine wpF (h A env s hs hr G.good) fun v s₁ r => ?_
  obtain ⟨t, rfl⟩ := r.is
  exact wpAny_mono (wk_str hr.quiet r.keeps) (fun _ _ x => src_of x fun _ f => f.elim) fun _ _ x => x
theorem it_new {e : PySem.Expr} {l : List S} (h : Ev prog w h₀ n sc m e (.new l)) : Iter prog w h₀ n sc m e l := by
  intro A env ze z s hs hr G
  refine wpF (h A env s hs hr G.good) fun v s₁ r => ?_
  exact wpAny_mono (wk_list hr.quiet r.keeps (IsLP.isL r.is)) (fun _ _ x => src_of x fun b e => .inr (r.fresh b e)) fun _ _ x => x
theorem it_ls {k : String} {p : Pos} {l : List S} (h : lk m k = some (.ls l)) (hd : (Str.ofString k == ("__debug__" : Str)) = false := by decide) : Iter prog w h₀ n sc m (.Name (Str.ofString k) p) l := by
  intro A env ze z s hs hr G
  obtain ⟨a, o, hv, hz⟩ := G.lsz k l h
  obtain ⟨v', hv', hd'⟩ := G.good.vars k _ h
  have := hv.unique hv'; subst this
  refine wpAny_Name (has_load G.good.kind hv ?_) hd
  exact wpAny_mono (wk_list hr.quiet (kp_refl _) hd') (fun _ _ x => src_of x fun b e => by cases e; exact .inl ⟨o, G.zez _ _ hz⟩) fun _ _ x => x
end
end Mine

end

section
open PySem PySem.W PyProof.Rows
open Builtin Builtin.Str
set_option Elab.async false
set_option linter.unusedVariables false
namespace Mine

def T (l : List Nat) : Str := ⟨l.toArray⟩
@[simp] theorem T_len (l : List Nat) : (T l).length = l.length := by simp [T, Str.length]
theorem T_cat (a b : List Nat) : T a ++ T b = T (a ++ b) := by
  show Str.mk (a.toArray ++ b.toArray) = _
  simp [T]
@[simp] theorem T_list (l : List Nat) : (T l).cps.toList = l := by simp [T]
theorem T_inj {a b : List Nat} (h : T a = T b) : a = b := by
  have := congrArg (fun x : Str => x.cps.toList) h; simpa using this
theorem of_T (x : Str) : x = T x.cps.toList := by obtain ⟨a⟩ := x; simp [T]

def expL : Nat → List Nat → List Nat
  | _, [] => []
  | col, c :: r => if c = 9 then List.replicate (8 - col % 8) 32 ++ expL (col + (8 - col % 8)) r else c :: expL (if c = 10 ∨ c = 13 then 0 else col + 1) r

theorem expL_len : ∀ (l : List Nat) (col : Nat), (expL col l).length ≤ 8 * l.length
  | [], _ => by simp [expL]
  | c :: r, col => by
    unfold expL
    have h1 := expL_len r (col + (8 - col % 8))
    split
    · simp; omega
    · have h2 := expL_len r (if c = 10 ∨ c = 13 then 0 else col + 1)
      simp only [List.length_cons]; omega
theorem expL_plain : ∀ (l : List Nat) (col : Nat), 9 ∉ l → expL col l = l
  | [], _, _ => rfl
  | c :: r, col, h => by
    rw [List.mem_cons, not_or] at h
    unfold expL
    rw [if_neg (Ne.symm h.1), expL_plain r _ h.2]

def expBody (c : Nat) (r : Array Nat × Nat) : Sem (ForInStep (Array Nat × Nat)) :=
  if c == 9 then
    if tooLong (r.1.size + (8 - r.2 % 8)) then unsupported "str.expandtabs:memory" else pure (.yield (r.1 ++ Array.replicate (8 - r.2 % 8) 32, r.2 + (8 - r.2 % 8)))
  else pure (.yield (r.1.push c, if c == 10 || c == 13 then 0 else r.2 + 1))

theorem exp_tree (x : Str) (t : Tok) : «str.expandtabs» ⟨[.str x t], []⟩ =
    (if (!x.cps.contains 9) = true then (do rule "str.expandtabs.no-tab"; ret (.str x t)) else (do
      let r ← forIn x.cps ((#[] : Array Nat), (0 : Nat)) expBody
      retStr ⟨r.1⟩)) := by
  rfl

theorem exp_loop : ∀ (l : List Nat) (out : Array Nat) (col : Nat), out.size + 8 * l.length ≤ sizeLine →
    ∃ col', (forIn l (out, col) expBody : Sem (Array Nat × Nat)) = pure ((out.toList ++ expL col l).toArray, col')
  | [], out, col, _ => ⟨col, by simp [expL]⟩
  | c :: r, out, col, h => by
    have hsl : sizeLine = 2 ^ 24 := rfl
    rw [List.forIn_cons]
    by_cases hc : c = 9
    · subst hc
      have htl : tooLong (out.size + (8 - col % 8)) = false := by
        unfold tooLong; rw [decide_eq_false_iff_not]; simp only [List.length_cons] at h; omega
      obtain ⟨col', e⟩ := exp_loop r (out ++ Array.replicate (8 - col % 8) 32) (col + (8 - col % 8)) (by simp only [List.length_cons] at h; simp; omega)
      refine ⟨col', ?_⟩
      have e1 : expBody 9 (out, col) = pure (.yield (out ++ Array.replicate (8 - col % 8) 32, col + (8 - col % 8))) := by
        unfold expBody; simp [htl]
      rw [e1, pure_bind]
      show (forIn r _ expBody : Sem (Array Nat × Nat)) = _
      rw [e]
      simp [expL]
    · obtain ⟨col', e⟩ := exp_loop r (out.push c) (if c = 10 ∨ c = 13 then 0 else col + 1) (by simp only [List.length_cons] at h; simp; omega)
      refine ⟨col', ?_⟩
      have e1 : expBody c (out, col) = pure (.yield (out.push c, if c = 10 ∨ c = 13 then 0 else col + 1)) := by
        unfold expBody; simp [hc]
      rw [e1, pure_bind]
      show (forIn r _ expBody : Sem (Array Nat × Nat)) = _
      rw [e]
      simp [expL, hc]

section
variable {prog : Program} {w : World} {h₀ : Heap} {n : Nat} {sc : Scope} {m : Mp} {R : Fl → Mp → Prop} {mg mb : Str → Option Value}

theorem gives_exp {l : List Nat} {t : Tok} (h : 8 * l.length ≤ sizeLine) : Gives («str.expandtabs» ⟨[.str (T l) t], []⟩) (if (!(T l).cps.contains 9) = true then .val (.str (T l) t) else .str (T (expL 0 l))) := by
  rw [exp_tree]
  cases hc : (!(T l).cps.contains 9)
  · simp only [Bool.false_eq_true, if_false]
    obtain ⟨col', e⟩ := exp_loop l #[] 0 (by simpa using h)
    have e2 : (forIn (T l).cps ((#[] : Array Nat), (0 : Nat)) expBody : Sem (Array Nat × Nat)) = pure ((expL 0 l).toArray, col') := by
      rw [← Array.forIn_toList]; simpa [T] using e
    rw [e2]
    exact .of_eq rfl
  · simp only [if_true]
    exact .rule (.of_eq rfl)

theorem me_expand {l : List Nat} (h : 8 * l.length ≤ sizeLine) : Me0 prog w "expandtabs" (.sc (.str (T l))) (.sc (.str (T (expL 0 l)))) := by
  intro A s v pos hq hv
  obtain ⟨t, rfl⟩ := hv
  refine MethodOnS.str0 F.slot_str_expandtabs F.type_str_expandtabs F.entry_str_expandtabs (F.args_str_expandtabs_1 _) (gives_exp h) ?_
  cases hc : (!(T l).cps.contains 9)
  · simp only [Bool.false_eq_true, if_false]
    exact ⟨by rw [T_len]; exact Nat.le_trans (expL_len l 0) h, .sc (kp_toks _ _) ⟨_, rfl⟩⟩
  · simp only [if_true]
    have : 9 ∉ l := by simpa [T] using hc
    rw [expL_plain l 0 this]
    exact .sc (kp_refl _) ⟨_, rfl⟩

def rstripL (l : List Nat) : List Nat := (l.reverse.dropWhile Unicode.isSpace).reverse
theorem me_rstrip {l : List Nat} (h : l.length ≤ sizeLine) : Me0 prog w "rstrip" (.sc (.str (T l))) (.sc (.str (Txt.rstrip (T l)))) := by
  intro A s v pos hq hv
  obtain ⟨t, rfl⟩ := hv
  exact SB.rstrip (fun t' k => .sc (kp_toks _ _) ⟨_, rfl⟩) (by rw [T_len]; exact h)

def txts (l : List Str) : List S := l.map S.str
theorem paired_txts : ∀ (l : List (Str × Tok)), Paired IsS (strValues l) (txts (l.map (·.1)))
  | [] => .nil
  | p :: l => .cons ⟨_, rfl⟩ (paired_txts l)
end
end Mine

end

section
open PySem PySem.W PyProof.Rows
open Builtin Builtin.Str
set_option Elab.async false
set_option linter.unusedVariables false
namespace Mine

/-! splitting at newlines -/
def splitL : List Nat → List (List Nat)
  | [] => [[]]
  | c :: r => if c = 10 then [] :: splitL r else match splitL r with
    | h :: t => (c :: h) :: t
    | [] => [[c]]
theorem splitL_ne (l : List Nat) : ∃ h t, splitL l = h :: t := by
  cases l with
  | nil => exact ⟨_, _, rfl⟩
  | cons c r =>
    unfold splitL
    split
    · exact ⟨_, _, rfl⟩
    · obtain ⟨h, t, e⟩ := splitL_ne r; rw [e]; exact ⟨_, _, rfl⟩

def cutsL : Nat → List Nat → List Nat
  | _, [] => []
  | k, c :: r => if c = 10 then k :: cutsL (k + 1) r else cutsL (k + 1) r

theorem cuts_parts (s : List Nat) : ∀ (l pre : List Nat) (st : Nat), s = pre ++ l → st ≤ pre.length →
    ∃ h t, splitL l = h :: t ∧ (((st :: (cutsL pre.length l).map (· + 1)).zip (cutsL pre.length l ++ [s.length])).map fun (p : Nat × Nat) => (s.drop p.1).take (p.2 - p.1)) = (pre.drop st ++ h) :: t
  | [], pre, st, hs, hst => by
    refine ⟨[], [], rfl, ?_⟩
    simp [cutsL]
    subst hs
    simp
    exact List.take_of_length_le (by simp)
  | c :: r, pre, st, hs, hst => by
    have hs' : s = (pre ++ [c]) ++ r := by rw [hs]; simp
    by_cases hc : c = 10
    · subst hc
      obtain ⟨h, t, e, ih⟩ := cuts_parts s r (pre ++ [10]) (pre.length + 1) hs' (by simp)
      refine ⟨[], h :: t, by simp [splitL, e], ?_⟩
      simp only [List.length_append, List.length_cons, List.length_nil, Nat.zero_add] at ih
      simp only [cutsL, if_true, List.map_cons, List.cons_append, List.zip_cons_cons]
      rw [ih]
      simp only [List.append_nil, List.cons.injEq]
      refine ⟨?_, ?_, trivial⟩
      · rw [hs, List.drop_append_of_le_length hst, List.take_append_of_le_length (by simp)]
        rw [List.take_of_length_le (by simp)]
      · have : List.drop (pre.length + 1) (pre ++ [10]) = [] := List.drop_of_length_le (by simp)
        rw [this]; rfl
    · obtain ⟨h, t, e, ih⟩ := cuts_parts s r (pre ++ [c]) st hs' (by simp; omega)
      refine ⟨c :: h, t, by simp [splitL, e, hc], ?_⟩
      simp only [List.length_append, List.length_cons, List.length_nil, Nat.zero_add] at ih
      simp only [cutsL, if_neg hc]
      rw [ih, List.drop_append_of_le_length hst]
      simp

theorem occ_loop (s : List Nat) (hi : Nat) (hhi : hi = s.length) : ∀ (l pre : List Nat) (found : Array Nat) (free : Nat), s = pre ++ l → found.size ≤ pre.length → free ≤ pre.length →
    (forIn (List.range' pre.length (l.length + 1)) (found, free) (StrLaws.occBody (T s) (T [10]) hi (s.length + 1))).run.fst.toList = found.toList ++ cutsL pre.length l
  | [], pre, found, free, hs, hf, hfr => by
    simp only [List.length_nil, Nat.zero_add, List.range'_one, List.forIn_cons, List.forIn_nil, cutsL, List.append_nil]
    unfold StrLaws.occBody
    rw [if_neg (by simp; intro _ _ h; exfalso; rw [hhi, hs] at h; simp at h; omega)]
    rfl
  | c :: r, pre, found, free, hs, hf, hfr => by
    have hs' : s = (pre ++ [c]) ++ r := by rw [hs]; simp
    rw [List.length_cons, List.range'_succ, List.forIn_cons]
    have hsub : subAt (T s) (T [10]) pre.length = decide (c = 10) := by
      rw [StrLaws.subAt_eq]
      simp only [T_list, T_len, List.length_cons, List.length_nil]
      rw [hs, List.drop_append_of_le_length (Nat.le_refl _), List.drop_length]
      simp
      by_cases hc : c = 10 <;> simp [hc]
    have hlen : s.length = pre.length + (r.length + 1) := by rw [hs]; simp
    have ih := fun f fr h1 h2 => occ_loop s hi hhi r (pre ++ [c]) f fr hs' h1 h2
    simp only [List.length_append, List.length_cons, List.length_nil, Nat.zero_add] at ih
    by_cases hc : c = 10
    · subst hc
      have hb : StrLaws.occBody (T s) (T [10]) hi (s.length + 1) pre.length (found, free) = pure (.yield (found.push pre.length, pre.length + 1)) := by
        unfold StrLaws.occBody
        rw [if_pos ⟨⟨⟨by show found.size < _; omega, hfr⟩, by simp; omega⟩, by rw [hsub]; simp⟩]
        simp
      rw [hb]
      show (Id.run (forIn (m := Id) (List.range' (pre.length + 1) (r.length + 1)) (found.push pre.length, pre.length + 1) (StrLaws.occBody (T s) (T [10]) hi (s.length + 1)))).fst.toList = _
      rw [ih _ _ (by simp; omega) (Nat.le_refl _)]
      simp [cutsL]
    · have hb : StrLaws.occBody (T s) (T [10]) hi (s.length + 1) pre.length (found, free) = pure (.yield (found, free)) := by
        unfold StrLaws.occBody
        rw [if_neg (by rw [hsub]; simp [hc])]
      rw [hb]
      show (Id.run (forIn (m := Id) (List.range' (pre.length + 1) (r.length + 1)) (found, free) (StrLaws.occBody (T s) (T [10]) hi (s.length + 1)))).fst.toList = _
      rw [ih _ _ (by omega) (by omega)]
      simp [cutsL, hc]

theorem occ_nl (s : List Nat) : occurrences (T s) (T [10]) 0 s.length (s.length + 1) = cutsL 0 s := by
  rw [StrLaws.occ_eq]
  have := occ_loop s s.length rfl s [] #[] 0 rfl (by simp) (by simp)
  simpa using this

theorem parts_nl (s : List Nat) : partsBetween (T s) (cutsL 0 s) 1 = (splitL s).map T := by
  obtain ⟨h, t, e, hp⟩ := cuts_parts s s [] 0 rfl (by simp)
  unfold partsBetween
  simp only [List.length_nil, List.drop_nil, List.nil_append] at hp
  rw [e, ← hp, List.map_map, T_len]
  apply List.map_congr_left
  intro p _
  show strSub (T s) p.1 p.2 = T _
  rw [of_T (strSub _ _ _), StrLaws.strSub_toList, T_list]

theorem cutsL_nil : ∀ (l : List Nat) (k : Nat), cutsL k l = [] → splitL l = [l]
  | [], _, _ => rfl
  | c :: r, k, h => by
    unfold cutsL at h
    by_cases hc : c = 10
    · rw [if_pos hc] at h; cases h
    · rw [if_neg hc] at h
      simp [splitL, hc, cutsL_nil r _ h]

theorem split_nl (s : List Nat) : Txt.split (T s) (T [10]) = (splitL s).map T := by
  unfold Txt.split
  simp only [T_len, List.length_cons, List.length_nil]
  have hk : ¬ Str.strKind (T s) < Str.strKind (T [10]) := by
    have : Str.strKind (T [10]) = 1 := by decide +kernel
    rw [this]; unfold Str.strKind; split <;> (try split) <;> omega
  rw [occ_nl]
  by_cases h1 : s.length < 0 + 1
  · have : s = [] := by cases s with | nil => rfl | cons _ _ => simp at h1
    subst this
    simp [splitL]
  · simp only [h1, hk, decide_false, Bool.or_self, Bool.false_eq_true, if_false]
    cases hc : cutsL 0 s with
    | nil => simp [cutsL_nil s 0 hc]
    | cons i r => simp only [List.isEmpty_cons, Bool.false_eq_true, if_false]; rw [← hc]; exact parts_nl s

/-! counting words -/
def runs : Bool → List Nat → Nat
  | b, [] => if b then 1 else 0
  | b, c :: r => if Unicode.isSpace c then (if b then 1 else 0) + runs false r else runs true r

theorem sw_loop (s : List Nat) : ∀ (l pre : List Nat) (ws : Array (Nat × Nat)) (st : Option Nat), s = pre ++ l → ws.size ≤ pre.length →
    (StrLaws.swEnd (T s) (forIn (List.range' pre.length l.length) ((none, ws, st) : StrLaws.SwSt) (StrLaws.swBody (T s) (s.length + 1))).run).length = ws.size + runs st.isSome l
  | [], pre, ws, st, hs, hw => by
    show (StrLaws.swEnd (T s) (none, ws, st)).length = _
    unfold StrLaws.swEnd
    cases st <;> simp [runs]
  | c :: r, pre, ws, st, hs, hw => by
    have hs' : s = (pre ++ [c]) ++ r := by rw [hs]; simp
    have hlen : s.length = pre.length + (r.length + 1) := by rw [hs]; simp
    rw [List.length_cons, List.range'_succ, List.forIn_cons]
    have hget : (T s).cps.getD pre.length 0 = c := by
      simp only [T, Array.getD_eq_getD_getElem?, List.getElem?_toArray]
      rw [hs]; simp
    have ih := fun w st h1 => sw_loop s r (pre ++ [c]) w st hs' h1
    simp only [List.length_append, List.length_cons, List.length_nil, Nat.zero_add] at ih
    have hne : (ws.size == s.length + 1) = false := by simp; omega
    cases hsp : Unicode.isSpace c with
    | true =>
      cases st with
      | some b =>
        have hb : StrLaws.swBody (T s) (s.length + 1) pre.length (none, ws, some b) = pure (.yield (none, ws.push (b, pre.length), none)) := by
          unfold StrLaws.swBody; simp only [hne, hget, hsp, Bool.false_eq_true, if_false]
        rw [hb]
        show (StrLaws.swEnd (T s) (Id.run (forIn (m := Id) (List.range' (pre.length + 1) r.length) _ (StrLaws.swBody (T s) (s.length + 1))))).length = _
        rw [ih _ _ (by simp; omega)]
        simp [runs, hsp]; omega
      | none =>
        have hb : StrLaws.swBody (T s) (s.length + 1) pre.length (none, ws, none) = pure (.yield (none, ws, none)) := by
          unfold StrLaws.swBody; simp only [hne, hget, hsp, Bool.false_eq_true, if_false]
        rw [hb]
        show (StrLaws.swEnd (T s) (Id.run (forIn (m := Id) (List.range' (pre.length + 1) r.length) _ (StrLaws.swBody (T s) (s.length + 1))))).length = _
        rw [ih _ _ (by omega)]
        simp [runs, hsp]
    | false =>
      cases st with
      | some b =>
        have hb : StrLaws.swBody (T s) (s.length + 1) pre.length (none, ws, some b) = pure (.yield (none, ws, some b)) := by
          unfold StrLaws.swBody; simp only [hne, hget, hsp, Bool.false_eq_true, if_false]
        rw [hb]
        show (StrLaws.swEnd (T s) (Id.run (forIn (m := Id) (List.range' (pre.length + 1) r.length) _ (StrLaws.swBody (T s) (s.length + 1))))).length = _
        rw [ih _ _ (by omega)]
        simp [runs, hsp]
      | none =>
        have hb : StrLaws.swBody (T s) (s.length + 1) pre.length (none, ws, none) = pure (.yield (none, ws, some pre.length)) := by
          unfold StrLaws.swBody; simp only [hne, hget, hsp, Bool.false_eq_true, if_false]
        rw [hb]
        show (StrLaws.swEnd (T s) (Id.run (forIn (m := Id) (List.range' (pre.length + 1) r.length) _ (StrLaws.swBody (T s) (s.length + 1))))).length = _
        rw [ih _ _ (by omega)]
        simp [runs, hsp]

theorem sw_count (s : List Nat) : (spaceWords (T s) (s.length + 1)).length = runs false s := by
  rw [StrLaws.sw_eq]
  have := sw_loop s s [] #[] none rfl (by simp)
  simpa using this
theorem words_count (s : List Nat) : (Txt.words (T s)).length = runs false s := by
  unfold Txt.words
  rw [T_len]
  split
  · rename_i h
    rw [← sw_count]
    have := eq_of_beq h
    rw [this]; rfl
  · rw [← sw_count]; simp [PySem.wordsOf]

/-! joining -/
def joinL (sep : List Nat) : List (List Nat) → List Nat
  | [] => []
  | [x] => x
  | x :: y :: r => x ++ sep ++ joinL sep (y :: r)
theorem join_T (sep : List Nat) : ∀ ls : List (List Nat), Txt.join (T sep) (ls.map T) = T (joinL sep ls) := by
  intro ls
  unfold Txt.join
  rw [StrLaws.glued_eq_join]
  induction ls with
  | nil => rfl
  | cons x r ih =>
    cases r with
    | nil => rfl
    | cons y r =>
      have : Str.join (T sep) ((x :: y :: r).map T) = T x ++ T sep ++ Str.join (T sep) ((y :: r).map T) := rfl
      rw [this, ih, T_cat, T_cat]; rfl
end Mine

end

section
open PySem PySem.W PyProof.Rows
open Builtin Builtin.Str
set_option Elab.async false
set_option linter.unusedVariables false
namespace Mine

def ofS (l : List (List Nat)) : List S := l.map fun x => S.str (T x)
theorem paired_ofS : ∀ (tk : Nat) (l : List (List Nat)), Paired IsS (strsFrom tk (l.map T)) (ofS l)
  | _, [] => .nil
  | tk, x :: l => .cons ⟨_, rfl⟩ (paired_ofS (tk + 1) l)

theorem splitL_len : ∀ l : List Nat, (splitL l).length ≤ l.length + 1
  | [] => by simp [splitL]
  | c :: r => by
    have ih := splitL_len r
    unfold splitL
    split
    · simp; exact ih
    · obtain ⟨h, t, e⟩ := splitL_ne r
      rw [e] at ih ⊢
      simp at ih ⊢; omega
theorem runs_len : ∀ (l : List Nat) (b : Bool), runs b l ≤ l.length + (if b then 1 else 0)
  | [], b => by cases b <;> simp [runs]
  | c :: r, b => by
    have h1 := runs_len r false
    have h2 := runs_len r true
    unfold runs
    simp only [List.length_cons, Bool.false_eq_true, if_false, if_true] at *
    split <;> cases b <;> simp <;> omega

theorem strVals_of : ∀ {vs : List Value} {ls : List (List Nat)}, Paired IsS vs (ofS ls) → ∃ l : List (Str × Tok), vs = strValues l ∧ l.map (·.1) = ls.map T
  | _, [], h => by cases h; exact ⟨[], rfl, rfl⟩
  | _, x :: ls, h => by
    cases h with
    | cons h t =>
      obtain ⟨u, rfl⟩ := h
      obtain ⟨l, rfl, e⟩ := strVals_of t
      exact ⟨(T x, u) :: l, rfl, by simp [e]⟩

section
variable {prog : Program} {w : World} {h₀ : Heap} {n : Nat} {sc : Scope} {m : Mp} {R : Fl → Mp → Prop} {mg mb : Str → Option Value}

theorem res_pushed {s s₁ : Shared} {vs : List Value} {l : List S} {tk : Nat} (k : Keeps s s₁) (p : Paired IsS vs l) :
    Res s (.new l) (.ref s₁.heap.objs.size) { s₁ with heap := s₁.heap.push { cls := .type "list", data := .seq vs.toArray }, toks := tk } := by
  have := new_list k p
  exact ⟨kp_trans k ⟨_, tk, rfl, fun _ _ e => Heap.get?_push_of_some _ e⟩, this.is, this.fresh⟩

theorem me_split {l : List Nat} (h : l.length < sizeLine) : Me1 prog w "split" (.sc (.str (T l))) (.sc (.str (T [10]))) (.new (ofS (splitL l))) := by
  intro A s v pos a hq hv ha
  obtain ⟨t, rfl⟩ := hv
  have hlen := splitL_len l
  refine ⟨"str", _, F.plainAttrs_str, F.slot_str_split, F.type_str_split, typeIs_str _ _ _, (fun _ e => nomatch e),
    method1_meets F.slot_str_split F.entry_str_split (wpAny_mono ha (fun v s₁ r => ?_) fun _ _ e => e)⟩
  obtain ⟨u, rfl⟩ := r.is
  refine ⟨typeIs_str _ _ _, F.args_str_split_2 _ _, ?_⟩
  have hsp := split_nl l
  have hy : ((T [10]).length == 0) = false := by simp
  have self : ∀ s₁, Keeps s s₁ → (splitL l).map T = [T l] → Res s (.new (ofS (splitL l))) (.ref s₁.heap.objs.size) { s₁ with heap := s₁.heap.push { cls := .type "list", data := .seq #[.str (T l) t] } } := by
    intro s₁ k e
    have e1 : splitL l = [l] := by
      cases hs : splitL l with
      | nil => rw [hs] at e; cases e
      | cons x r =>
        rw [hs] at e
        cases r with
        | nil => simp at e; rw [T_inj e]
        | cons _ _ => simp at e
    rw [e1]
    exact new_list (vs := [.str (T l) t]) k (.cons ⟨_, rfl⟩ .nil)
  unfold Txt.split at hsp
  cases h1 : (decide ((T l).length < (T [10]).length) || decide (Str.strKind (T l) < Str.strKind (T [10])))
  · rw [if_neg (by rw [h1]; simp)] at hsp
    cases hf : (occurrences (T l) (T [10]) 0 (T l).length ((T l).length + 1)).isEmpty
    · rw [if_neg (by rw [hf]; simp)] at hsp
      have hn : (partsBetween (T l) (occurrences (T l) (T [10]) 0 (T l).length ((T l).length + 1)) (T [10]).length).length ≤ sizeLine := by
        rw [hsp]; simp; omega
      refine ⟨_, meets_str_split_sep (T l) (T [10]) t u h1 hy hf (by rw [T_len]; omega) hn, ?_⟩
      show wants _ _ _ { s₁ with toks := _, heap := s₁.heap.push { cls := .type "list", data := .seq (strsFrom s₁.toks (partsBetween (T l) (occurrences (T l) (T [10]) 0 (T l).length ((T l).length + 1)) (T [10]).length)).toArray } }
      rw [hsp]
      exact res_pushed r.keeps (paired_ofS _ _)
    · rw [if_pos hf] at hsp
      exact ⟨_, meets_str_split_not_found (T l) (T [10]) t u h1 hy hf, self s₁ r.keeps hsp.symm⟩
  · rw [if_pos h1] at hsp
    exact ⟨_, meets_str_split_cannot_occur (T l) (T [10]) t u h1, self s₁ r.keeps hsp.symm⟩

/-- words: only how many matters -/
theorem me_words {l : List Nat} (h : l.length < sizeLine) : Me0 prog w "split" (.sc (.str (T l))) (.new ((Txt.words (T l)).map S.str)) := by
  intro A s v pos hq hv
  obtain ⟨t, rfl⟩ := hv
  have hn : (spaceWords (T l) ((T l).length + 1)).length ≤ sizeLine := by
    have := runs_len l false
    rw [T_len, sw_count]; simp at this; omega
  refine ⟨"str", _, F.plainAttrs_str, F.slot_str_split, F.type_str_split, typeIs_str _ _ _, (fun _ e => nomatch e),
    method0_meets F.slot_str_split F.entry_str_split (typeIs_str _ _ _) (F.args_str_split_1 _) (meets_str_split_space (T l) t (by rw [T_len]; omega) hn) ?_⟩
  cases hw : spaceWords (T l) ((T l).length + 1) == [(0, (T l).length)]
  · simp only [Bool.false_eq_true, if_false]
    have e : Txt.words (T l) = PySem.wordsOf (T l) := by unfold Txt.words; rw [if_neg (by rw [hw]; simp)]
    rw [e]
    refine res_pushed (kp_refl _) ?_
    have : ∀ (tk : Nat) (l : List Str), Paired IsS (strsFrom tk l) (l.map S.str) := by
      intro tk l
      induction l generalizing tk with
      | nil => exact .nil
      | cons x l ih => exact .cons ⟨_, rfl⟩ (ih (tk + 1))
    exact this _ _
  · simp only [if_true]
    have e : Txt.words (T l) = [T l] := by unfold Txt.words; rw [if_pos hw]
    rw [e]
    exact new_list (vs := [.str (T l) t]) (kp_refl _) (.cons ⟨_, rfl⟩ .nil)

theorem me_join {sep : List Nat} {d : D} {ls : List (List Nat)} (hd : asL d = some (ofS ls)) (hok : JoinOk (T sep) (ls.map T) = true) : Me1 prog w "join" (.sc (.str (T sep))) d (.sc (.str (T (joinL sep ls)))) := by
  intro A s v pos a hq hv ha
  obtain ⟨t, rfl⟩ := hv
  refine ⟨"str", _, F.plainAttrs_str, F.slot_str_join, F.type_str_join, typeIs_str _ _ _, (fun _ e => nomatch e),
    method1_meets F.slot_str_join F.entry_str_join (wpAny_mono ha (fun v s₁ r => ?_) fun _ _ e => e)⟩
  obtain ⟨D, items, rfl, hl, p⟩ := isD_asL hd r.is
  obtain ⟨l, e1, e2⟩ := strVals_of p
  have e3 : items = (strValues l).toArray := by rw [← e1]
  subst e3
  refine ⟨typeIs_str _ _ _, F.args_str_join_2 _ _, _, meets_str_join_list (T sep) t D l (by unfold JoinOk at hok; rw [Bool.not_eq_true'] at hok; rw [e2]; exact hok), hl, ?_⟩
  have hok' := hok
  unfold JoinOk at hok'
  rw [Bool.not_eq_true'] at hok'
  refine post_join l ⟨joinFit_length (by rw [e2]; exact hok'), fun t' k => ?_⟩
  rw [e2, join_T]
  exact .sc (kp_trans r.keeps (kp_toks _ _)) ⟨_, rfl⟩
end
end Mine

end

section
open PySem PySem.W PyProof.Rows
open Builtin Builtin.Str
set_option Elab.async false
set_option linter.unusedVariables false
namespace Mine

theorem intsAre_of : ∀ {vs : List Value} {l : List Int}, Paired IsS vs (ofI l) → IntsAre vs l
  | _, [], h => by cases h; exact .nil
  | _, x :: l, h => by
    cases h with
    | cons h t => obtain ⟨u, rfl⟩ := h; exact .cons _ _ (intsAre_of t)

theorem rstrip_T (l : List Nat) : Txt.rstrip (T l) = T (rstripL l) := by
  have key : rstripL l = l.take (l.length - (l.reverse.takeWhile Unicode.isSpace).length) := by
    unfold rstripL
    have h := List.takeWhile_append_dropWhile (p := Unicode.isSpace) (l := l.reverse)
    have h2 : l = (l.reverse.dropWhile Unicode.isSpace).reverse ++ (l.reverse.takeWhile Unicode.isSpace).reverse := by
      rw [← List.reverse_append, h, List.reverse_reverse]
    have h3 : l.length = (l.reverse.dropWhile Unicode.isSpace).length + (l.reverse.takeWhile Unicode.isSpace).length := by
      have := congrArg List.length h2; simpa using this
    conv => rhs; arg 2; rw [h2]
    rw [List.take_append_of_le_length (by simp; omega), List.take_of_length_le (by simp; omega)]
  have hsub : PySem.stripped Unicode.isSpace false true (T l) = T (rstripL l) := by
    unfold PySem.stripped
    rw [of_T (strSub _ _ _), StrLaws.strSub_toList, key]
    simp [stripLo, stripHi]
  unfold Txt.rstrip Txt.stripBy
  split
  · rename_i h
    rw [← hsub]
    unfold stripSame at h
    unfold PySem.stripped
    rw [Bool.and_eq_true] at h
    have h1 : stripLo Unicode.isSpace false (T l) = 0 := eq_of_beq h.1
    have h2 : stripHi Unicode.isSpace true (T l) (stripLo Unicode.isSpace false (T l)) = (T l).length := eq_of_beq h.2
    rw [h2, h1, of_T (strSub _ _ _), StrLaws.strSub_toList]
    simp
  · exact hsub

section
variable {prog : Program} {w : World} {h₀ : Heap} {n : Nat} {sc : Scope} {m : Mp} {R : Fl → Mp → Prop} {mg mb : Str → Option Value}

theorem me_rstripL {l : List Nat} (h : l.length ≤ sizeLine) : Me0 prog w "rstrip" (.sc (.str (T l))) (.sc (.str (T (rstripL l)))) := by
  have := me_rstrip (prog := prog) (w := w) h
  rwa [rstrip_T] at this

theorem cm_in {k : Int} {d : D} {l : List Int} (hd : asL d = some (ofI l)) : Cm2 prog w .In (.sc (.int k)) d (l.any (· == k)) := by
  intro A s v₁ v₂ hr h₁ h₂
  obtain ⟨t, rfl⟩ := h₁
  obtain ⟨a, items, rfl, hl, p⟩ := isD_asL hd h₂
  exact in_list_ints (vs := items.toList) (by simpa using hl) (intsAre_of p) ⟨kp_refl _, rfl⟩
theorem cm_lne {d₁ d₂ : D} {l₁ l₂ : List Int} (h₁ : asL d₁ = some (ofI l₁)) (h₂ : asL d₂ = some (ofI l₂)) : Cm2 prog w .NotEq d₁ d₂ (!decide (l₁ = l₂)) := by
  intro A s v₁ v₂ hr i₁ i₂
  obtain ⟨a, items, rfl, hl, p⟩ := isD_asL h₁ i₁
  obtain ⟨b, items', rfl, hl', p'⟩ := isD_asL h₂ i₂
  exact ne_intsK (vs := items.toList) (us := items'.toList) (by simpa using hl) (intsAre_of p) (by simpa using hl') (intsAre_of p') (by have := hr.units; omega) ⟨kp_refl _, rfl⟩

def repL (k : Nat) (l : List Nat) : List Nat := (List.replicate k l).flatten
theorem repL_len (k : Nat) (l : List Nat) : (repL k l).length = k * l.length := by simp [repL]
theorem foldl_rep (l : List Nat) : ∀ (k : Nat) (acc : List Nat), ((List.replicate k (T l).cps).foldl (· ++ ·) acc.toArray) = (acc ++ repL k l).toArray
  | 0, acc => by simp [repL]
  | k + 1, acc => by
    rw [List.replicate_succ, List.foldl_cons]
    have : acc.toArray ++ (T l).cps = (acc ++ l).toArray := by simp [T]
    rw [this, foldl_rep l k]
    simp [repL, List.replicate_succ]
theorem mul_T (l : List Nat) (k : Int) : Txt.mul (T l) k = T (repL k.toNat l) := by
  unfold Txt.mul
  split
  · rename_i h
    have : k.toNat = 0 := by omega
    rw [this]; rfl
  · split
    · rename_i h1 h
      rw [Bool.or_eq_true] at h
      rcases h with h | h
      · have : k = 1 := by simpa using h
        subst this; simp [repL]
      · have : l = [] := by
          have h' : (T l).length = 0 := by simpa using h
          rw [T_len] at h'; exact List.length_eq_zero_iff.mp h'
        subst this; simp [repL]
    · have := foldl_rep l k.toNat []
      simp only [List.nil_append] at this
      show Str.mk _ = Str.mk _
      rw [this]
theorem op_smul {l : List Nat} {k : Int} (h : k.toNat * l.length ≤ sizeLine) (hk : -(2 ^ 62) ≤ k ∧ k < 2 ^ 62) : Op2 prog w .Mult (.sc (.str (T l))) (.sc (.int k)) (.sc (.str (T (repL k.toNat l)))) := by
  rintro A s v₁ v₂ hq ⟨t, rfl⟩ ⟨u, rfl⟩
  have hsl : sizeLine = 2 ^ 24 := rfl
  rw [← mul_T]
  refine SB.mul ⟨?_, ?_, ?_⟩ fun t' k' => .sc (kp_toks _ _) ⟨_, rfl⟩
  · rw [Bool.or_eq_false_iff, decide_eq_false_iff_not, decide_eq_false_iff_not]; omega
  · intro h1 h2 h3
    rw [T_len] at h3
    have hk1 : 1 ≤ k.toNat := by omega
    have : l.length ≤ k.toNat * l.length := Nat.le_mul_of_pos_left _ hk1
    have h4 : (2 ^ 63 - 1) / k < l.length := h3
    have h5 : (2 ^ 63 - 1 : Int) < l.length * k + k := by
      have hk0 : 0 < k := by omega
      have := Int.lt_mul_of_ediv_lt hk0 h4
      omega
    have h6 : (l.length : Int) * k = ((k.toNat * l.length : Nat) : Int) := by
      rw [Int.natCast_mul, Int.toNat_of_nonneg (by omega), Int.mul_comm]
    rw [h6] at h5
    omega
  · intro h1 h2
    unfold tooLong
    rw [decide_eq_false_iff_not, T_len, Nat.mul_comm]; omega

theorem ev_slice_str {v le ue : PySem.Expr} {p pos : Pos} {l : List Nat} {a b : Nat} (hv : Ev prog w h₀ n sc m v (.sc (.str (T l)))) (hlo : Ev prog w h₀ n sc m le (.sc (.int a))) (hhi : Ev prog w h₀ n sc m ue (.sc (.int b)))
    (hab : a ≤ b) (hb : b ≤ l.length) (hsz : l.length ≤ sizeLine) :
    Ev prog w h₀ n sc m (.Subscript v (.Slice (some le) (some ue) none p) pos) (.sc (.str (T ((l.drop a).take (b - a))))) := by
  intro A env s hs hr G
  refine Subscript_ (wpF (hv A env s hs hr G) fun ov s₁ r₁ => ?_)
  have G₁ := G.keeps (kp_sub r₁.keeps)
  obtain ⟨t, rfl⟩ := r₁.is
  refine wpAny_Slice (wpF (hlo A env s₁ hs hr G₁) fun vl s₂ r₂ => ?_)
  have G₂ := G₁.keeps (kp_sub r₂.keeps)
  refine wpF (hhi A env s₂ hs hr G₂) fun vu s₃ r₃ => ?_
  obtain ⟨tl, rfl⟩ := r₂.is
  obtain ⟨tu, rfl⟩ := r₃.is
  rw [evalPart_none]; refine wpAny_pure ?_
  have hpick : ((strSliceIndices (some (a : Int)) (some (b : Int)) 1 (T l).length).filterMap ((T l).cps[·]?)) = (l.drop a).take (b - a) := by
    have := StrLaws.sliced_plain (T l) hab (by rw [T_len]; exact hb)
    simpa using this
  have kk : Keeps s { s₃ with heap := s₃.heap.push { cls := .type "slice", data := .fields #[.int a tl, .int b tu, .none] } } := kp_trans (kp_trans r₁.keeps (kp_trans r₂.keeps r₃.keeps)) (kp_push _ _)
  refine tail_any (typeIs_str _ _ _) F.slot_str_getitem.lookup (wpAny_getItem_str_slice (l := some ((a : Int), tl)) (u := some ((b : Int), tu)) (st := none) ⟨_, Heap.get?_push_size _ rfl, rfl, rfl⟩ rfl ?_) (by rfl)
  unfold sliceMade slicePicked
  show (if (_ : Bool) = true then _ else _ : Made).post _ _
  split
  · rename_i hc
    refine .sc kk ⟨t, ?_⟩
    have hl2 : (strSliceIndices (some (a : Int)) (some (b : Int)) 1 (T l).length).length = l.length := by
      rw [Bool.and_eq_true] at hc
      have := eq_of_beq hc.2
      simpa using this
    rw [StrLaws.strSliceIndices_plain hab (by rw [T_len]; exact hb)] at hl2
    simp at hl2
    have ha0 : a = 0 := by omega
    have hb0 : b = l.length := by omega
    subst ha0; subst hb0; simp
  · refine ⟨?_, ?_⟩
    · have e : (Str.mk ((strSliceIndices (some (a : Int)) (some (b : Int)) 1 (T l).length).filterMap ((T l).cps[·]?)).toArray) = T ((l.drop a).take (b - a)) := by rw [hpick]; rfl
      show (Str.mk ((strSliceIndices (some (a : Int)) (some (b : Int)) 1 (T l).length).filterMap ((T l).cps[·]?)).toArray).length ≤ sizeLine
      rw [e, T_len]; simp; omega
    · have e : (Str.mk ((strSliceIndices (some (a : Int)) (some (b : Int)) 1 (T l).length).filterMap ((T l).cps[·]?)).toArray) = T ((l.drop a).take (b - a)) := by rw [hpick]; rfl
      show Res s _ (.str (Str.mk ((strSliceIndices (some (a : Int)) (some (b : Int)) 1 (T l).length).filterMap ((T l).cps[·]?)).toArray) _) _
      rw [e]
      exact .sc (kp_trans kk (kp_toks _ _)) ⟨_, rfl⟩
end
end Mine

end

section
open PySem PySem.W PyProof.Rows
open Builtin Builtin.Str
set_option Elab.async false
set_option linter.unusedVariables false
namespace Mine
open PySem.Sre

theorem runFor_done : ∀ (k : Nat) (m : Sre.M), m.outcome.isSome = true → m.runFor k = m
  | 0, _, _ => rfl
  | k + 1, m, h => by unfold Sre.M.runFor; rw [if_pos h]
theorem runFor_succ (k : Nat) (m : Sre.M) : m.runFor (k + 1) = if m.outcome.isSome = true then m else m.step.runFor k := rfl
theorem runFor_add : ∀ (a b : Nat) (m : Sre.M), m.runFor (a + b) = (m.runFor a).runFor b
  | 0, b, m => by simp [Sre.M.runFor]
  | a + 1, b, m => by
    rw [Nat.add_right_comm, runFor_succ, runFor_succ]
    by_cases h : m.outcome.isSome = true
    · rw [if_pos h, if_pos h]
      exact (runFor_done b m h).symm
    · rw [if_neg h, if_neg h]; exact runFor_add a b m.step

/-- m comes to the end m' within k steps -/
def Ends (m m' : Sre.M) (k : Nat) : Prop := m.runFor k = m' ∧ m'.outcome.isSome = true
theorem Ends.more {m m' : Sre.M} {k j : Nat} (h : Ends m m' k) (hj : k ≤ j) : Ends m m' j := by
  refine ⟨?_, h.2⟩
  obtain ⟨d, rfl⟩ := Nat.exists_eq_add_of_le hj
  rw [runFor_add, h.1, runFor_done d m' h.2]
theorem Ends.step {m m' : Sre.M} {k : Nat} (h : Ends m.step m' k) (h0 : m.outcome = none) : Ends m m' (k + 1) := by
  refine ⟨?_, h.2⟩
  unfold Sre.M.runFor
  rw [if_neg (by rw [h0]; simp)]
  exact h.1
theorem Ends.now {m : Sre.M} (h : m.outcome.isSome = true) : Ends m m 0 := ⟨rfl, h⟩

section
variable {M : Model} {A : Around} {E : Value → Shared → Prop} {s : Shared}
theorem wp_drive : ∀ (turns : Nat) (m m' : Sre.M) (k : Nat) (Q : Sre.M → Shared → Prop), Ends m m' k → k ≤ 4 * turns → 0 < turns → Q m' s → wpAny M A (Re.reDrive turns m) Q E s
  | 0, _, _, _, _, _, _, h, _ => by omega
  | t + 1, m, m', k, Q, he, hk, _, hq => by
    unfold Re.reDrive
    show wpAny M A (if (m.runFor 4).outcome.isSome = true then pure (m.runFor 4) else (do rule "sre.turn"; Re.reDrive t (m.runFor 4))) Q E s
    by_cases ho : (m.runFor 4).outcome.isSome = true
    · rw [if_pos ho]
      have : m.runFor 4 = m' := by
        rcases Nat.le_total k 4 with h | h
        · exact (he.more h).1
        · obtain ⟨d, rfl⟩ := Nat.exists_eq_add_of_le h
          have := he.1
          rw [runFor_add, runFor_done d _ ho] at this
          exact this
      rw [this]; exact wpAny_pure hq
    · rw [if_neg ho]
      have hk4 : 4 < k := by
        rcases Nat.lt_or_ge 4 k with h | h
        · exact h
        · exact absurd (by rw [(he.more h).1]; exact he.2) ho
      refine wpAny_bind (wpAny_rule ?_)
      obtain ⟨d, rfl⟩ := Nat.exists_eq_add_of_le (Nat.le_of_lt hk4)
      refine wp_drive t (m.runFor 4) m' d Q ⟨by rw [← runFor_add]; exact he.1, he.2⟩ (by omega) (by omega) hq

theorem wp_rules {Q : PUnit → Shared → Prop} (m : Sre.M) : ∀ (l : List Nat), Q ⟨⟩ s → wpAny M A (forIn l (PUnit.unit) (fun i (_ : PUnit) => (if m.seen.has i = true then (do rule (Sre.names.getD i ""); pure (ForInStep.yield PUnit.unit)) else pure (ForInStep.yield PUnit.unit)) : Nat → PUnit → Sem (ForInStep PUnit))) Q E s
  | [], h => by rw [List.forIn_nil]; exact wpAny_pure h
  | i :: l, h => by
    rw [List.forIn_cons]
    refine wpAny_bind ?_
    split
    · exact wpAny_bind (wpAny_rule (wpAny_pure (wp_rules m l h)))
    · exact wpAny_pure (wp_rules m l h)

theorem wp_toEnd {m m' : Sre.M} {k : Nat} {Q : Option Sre.M → Shared → Prop} (he : Ends m m' k) (hk : k ≤ 2 ^ 60) (hm : m'.outcome = some .matched → Q (some m') s) (hf : m'.outcome = some .failed → Q none s)
    (hs : ∀ why, m'.outcome ≠ some (.stuck why)) : wpAny M A (Re.reRunToEnd m) Q E s := by
  unfold Re.reRunToEnd
  refine wpAny_bind (wp_drive _ m m' k _ he (by have : 4 * 2 ^ 64 = 2 ^ 66 := by decide
                                                omega) (by decide) ?_)
  refine wpAny_bind (wp_rules m' _ ?_)
  have h2 := he.2
  cases ho : m'.outcome with
  | none => rw [ho] at h2; cases h2
  | some o =>
    cases o with
    | matched => exact wpAny_pure (hm ho)
    | failed => exact wpAny_pure (hf ho)
    | stuck why => exact absurd ho (hs why)
end

/-! the codes -/
def codeW : Array Nat := #[14, 4, 0, 0, 4294967295, 6, 0, 24, 9, 0, 4294967295, 13, 4, 8, 12, 0, 1, 6, 5, 1]
def codeI : Array Nat := #[14, 4, 0, 0, 4294967295, 6, 0, 17, 0, 24, 11, 0, 4294967295, 13, 6, 16, 32, 16, 9, 0, 1, 17, 1, 1]
def codeS : Array Nat := #[14, 4, 0, 1, 4294967295, 17, 0, 24, 9, 1, 4294967295, 13, 4, 8, 12, 0, 1, 17, 1, 1]

/-- how many of the signs from p on are taken, at most n -/
theorem run_count {code : Array Nat} {i : Nat} {f : Nat → Bool} (text : List Nat) (hacc : ∀ c seen, ∃ seen', accepts code i c seen = .ok (f c, seen')) : ∀ (n p found : Nat) (seen : Sre.Seen), p + n ≤ text.length →
    ∃ seen', Sre.run code text.toArray i n p found seen = .ok (found + (((text.drop p).take n).takeWhile f).length, seen')
  | 0, p, found, seen, _ => ⟨seen, by simp [Sre.run]⟩
  | n + 1, p, found, seen, h => by
    obtain ⟨seen', e⟩ := hacc (text.toArray.getD p 0) seen
    have hlt : p < text.length := by omega
    have hget : text.toArray.getD p 0 = text[p] := by simp [Array.getD_eq_getD_getElem?, hlt]
    have hd : (text.drop p).take (n + 1) = text[p] :: (text.drop (p + 1)).take n := by
      rw [List.drop_eq_getElem_cons hlt, List.take_succ_cons]
    unfold Sre.run
    rw [e]
    show ∃ seen'', (if f (text.toArray.getD p 0) = true then Sre.run code text.toArray i n (p + 1) (found + 1) seen' else pure (found, seen')) = .ok _
    rw [hget, hd]
    cases hf : f text[p] with
    | true =>
      obtain ⟨seen'', e2⟩ := run_count text hacc n (p + 1) (found + 1) seen' (by omega)
      refine ⟨seen'', ?_⟩
      rw [if_pos rfl, e2, List.takeWhile_cons_of_pos hf, List.length_cons]
      congr 2; omega
    | false =>
      refine ⟨seen', ?_⟩
      rw [if_neg (by simp), List.takeWhile_cons_of_neg (by rw [hf]; simp)]
      rfl

theorem acc_spaceW (c : Nat) (seen : Sre.Seen) : ∃ seen', accepts codeW 11 c seen = .ok (Unicode.isSpace c, seen') := by
  have e : accepts codeW 11 c seen = if (Unicode.isSpace c != false) = true then .ok (true, (seen.add 8).add 67) else .ok (false, ((seen.add 8).add 67).add 0) := rfl
  cases h : Unicode.isSpace c
  · exact ⟨_, by rw [e, h]; rfl⟩
  · exact ⟨_, by rw [e, h]; rfl⟩
theorem acc_spaceS (c : Nat) (seen : Sre.Seen) : ∃ seen', accepts codeS 11 c seen = .ok (Unicode.isSpace c, seen') := by
  have e : accepts codeS 11 c seen = if (Unicode.isSpace c != false) = true then .ok (true, (seen.add 8).add 67) else .ok (false, ((seen.add 8).add 67).add 0) := rfl
  cases h : Unicode.isSpace c
  · exact ⟨_, by rw [e, h]; rfl⟩
  · exact ⟨_, by rw [e, h]; rfl⟩
def isInd (c : Nat) : Bool := c == 32 || c == 9
theorem acc_ind (c : Nat) (seen : Sre.Seen) : ∃ seen', accepts codeI 13 c seen = .ok (isInd c, seen') := by
  have e : accepts codeI 13 c seen = if (c == 32) = true then .ok (true, seen.add 16) else if (c == 9) = true then .ok (true, (seen.add 16).add 16) else .ok (false, ((seen.add 16).add 16).add 0) := rfl
  unfold isInd
  cases h : c == 32
  · cases h' : c == 9
    · exact ⟨_, by rw [e, h, h']; rfl⟩
    · exact ⟨_, by rw [e, h, h']; rfl⟩
  · exact ⟨_, by rw [e, h]; rfl⟩
end Mine

end

section
open PySem PySem.W PyProof.Rows
open Builtin Builtin.Str
set_option Elab.async false
set_option linter.unusedVariables false
namespace Mine
open PySem.Sre

abbrev st (code text : Array Nat) (lim start lastStart pc pos handed : Nat) (outm : Bool) (marks : Array (Option Nat)) (lastmark lastindex : Int) (frames : List Sre.Frame) (weight : Nat) (answer : Option Bool) (seen : Sre.Seen) (outcome : Option Sre.Outcome) : Sre.M :=
  { code, text, lim, start, lastStart, wholeText := false, mustAdvance := false, pc, pos, handed, outermost := outm, marks, lastmark, lastindex, loops := #[], inner := none, frames, weight, answer, seen, outcome }

/-! is_all_white's pattern -/
def KW : Sre.Kept := { lastmark := -1, lastindex := -1, whole := false, marks := #[] }
def FW (c : Nat) : Sre.Frame := { wait := .giveBack, pc := 7, pos := c, outermost := true, count := c, kept := KW }

theorem W_back (text : Array Nat) (lim : Nat) : ∀ (c handed : Nat) (seen : Sre.Seen), (∀ p ≤ c, (p == lim || (p + 1 == lim && text.getD p 0 == 10)) = false) →
    ∃ m', Ends (st codeW text lim 0 0 17 c handed true #[] (-1) (-1) [FW c] 1 none seen none) m' (2 * c + 3) ∧ m'.outcome = some .failed := by
  intro c
  induction c with
  | zero =>
    intro handed seen h
    have e1 : (st codeW text lim 0 0 17 0 handed true #[] (-1) (-1) [FW 0] 1 none seen none).step =
        if ((0 == lim) || (0 + 1 == lim && text.getD 0 0 == 10)) = true then st codeW text lim 0 0 19 0 handed true #[] (-1) (-1) [FW 0] 1 none ((seen.add 6).add 48) none
        else st codeW text lim 0 0 17 0 handed true #[] (-1) (-1) [FW 0] 1 (some false) ((seen.add 6).add 48) none := rfl
    rw [if_neg (by rw [h 0 (Nat.le_refl _)]; simp)] at e1
    have e2 : (st codeW text lim 0 0 17 0 handed true #[] (-1) (-1) [FW 0] 1 (some false) ((seen.add 6).add 48) none).step = st codeW text lim 0 0 7 0 handed true #[] (-1) (-1) [] 0 (some false) ((seen.add 6).add 48) none := rfl
    have e3 : (st codeW text lim 0 0 7 0 handed true #[] (-1) (-1) [] 0 (some false) ((seen.add 6).add 48) none).step = st codeW text lim 0 0 7 0 handed true #[] (-1) (-1) [] 0 (some false) ((seen.add 6).add 48) (some .failed) := rfl
    refine ⟨st codeW text lim 0 0 7 0 handed true #[] (-1) (-1) [] 0 (some false) ((seen.add 6).add 48) (some .failed), Ends.step (k := 2) ?_ rfl, rfl⟩
    rw [e1]
    refine Ends.step (k := 1) ?_ rfl
    rw [e2]
    refine Ends.step (k := 0) ?_ rfl
    rw [e3]
    exact Ends.now rfl
  | succ c ih =>
    intro handed seen h
    have e1 : (st codeW text lim 0 0 17 (c + 1) handed true #[] (-1) (-1) [FW (c + 1)] 1 none seen none).step =
        if ((c + 1 == lim) || (c + 1 + 1 == lim && text.getD (c + 1) 0 == 10)) = true then st codeW text lim 0 0 19 (c + 1) handed true #[] (-1) (-1) [FW (c + 1)] 1 none ((seen.add 6).add 48) none
        else st codeW text lim 0 0 17 (c + 1) handed true #[] (-1) (-1) [FW (c + 1)] 1 (some false) ((seen.add 6).add 48) none := rfl
    rw [if_neg (by rw [h (c + 1) (Nat.le_refl _)]; simp)] at e1
    have e2 : (st codeW text lim 0 0 17 (c + 1) handed true #[] (-1) (-1) [FW (c + 1)] 1 (some false) ((seen.add 6).add 48) none).step =
        st codeW text lim 0 0 17 c c true #[] (-1) (-1) [FW c] 1 none ((seen.add 6).add 48) none := by
      have e : (st codeW text lim 0 0 17 (c + 1) handed true #[] (-1) (-1) [FW (c + 1)] 1 (some false) ((seen.add 6).add 48) none).step =
          if ((c + 1 : Nat) : Int) - 1 < ((0 : Nat) : Int) then st codeW text lim 0 0 7 (c + 1) handed true #[] (-1) (-1) [] 0 (some false) ((seen.add 6).add 48) none
          else st codeW text lim 0 0 17 (c + 1 - 1) (c + 1 - 1) true #[] (-1) (-1) [{ wait := .giveBack, pc := 7, pos := c + 1 - 1, outermost := true, count := ((c + 1 : Nat) : Int) - 1, kept := KW }] 1 none ((seen.add 6).add 48) none := rfl
      rw [e, if_neg (by omega)]
      have hc : ((c + 1 : Nat) : Int) - 1 = (c : Int) := by omega
      rw [hc]; rfl
    obtain ⟨m', he, ho⟩ := ih c ((seen.add 6).add 48) fun p hp => h p (by omega)
    refine ⟨m', ?_, ho⟩
    have : 2 * (c + 1) + 3 = 2 * c + 3 + 1 + 1 := by omega
    rw [this]
    refine Ends.step ?_ rfl
    rw [e1]
    refine Ends.step ?_ rfl
    rw [e2]; exact he

theorem W_fails (l : List Nat) (h10 : 10 ∉ l) (hne : (l.takeWhile Unicode.isSpace).length < l.length) (hsz : l.length ≤ sizeLine) : ∃ m', Ends (Sre.forMatch codeW l.toArray 0 0 l.length false false) m' (2 * l.length + 10) ∧ m'.outcome = some .failed := by
  have hsl : sizeLine = 16777216 := rfl
  have hcount : (((l.drop 0).take l.length).takeWhile Unicode.isSpace).length = (l.takeWhile Unicode.isSpace).length := by simp
  generalize hn : (l.takeWhile Unicode.isSpace).length = n at *
  have e0 : Sre.forMatch codeW l.toArray 0 0 l.length false false = st codeW l.toArray l.length 0 0 5 0 0 true #[] (-1) (-1) [] 0 none (({} : Sre.Seen).add 14) none := rfl
  have e1 : ∀ seen, (st codeW l.toArray l.length 0 0 5 0 0 true #[] (-1) (-1) [] 0 none seen none).step = st codeW l.toArray l.length 0 0 7 0 0 true #[] (-1) (-1) [] 0 none ((seen.add 6).add 43) none := fun _ => rfl
  have e2 : ∀ seen, ∃ seen', (st codeW l.toArray l.length 0 0 7 0 0 true #[] (-1) (-1) [] 0 none seen none).step = st codeW l.toArray l.length 0 0 17 n n true #[] (-1) (-1) [FW n] 1 none seen' none := by
    intro seen
    obtain ⟨seen', hrun⟩ := run_count (code := codeW) (i := 11) l acc_spaceW l.length 0 0 ((seen.add 24).add 13) (by omega)
    rw [hcount, Nat.zero_add] at hrun
    refine ⟨seen', ?_⟩
    have e : (st codeW l.toArray l.length 0 0 7 0 0 true #[] (-1) (-1) [] 0 none seen none).step =
        if ((0 : Nat) : Int) > (l.length : Int) - ((0 : Nat) : Int) then st codeW l.toArray l.length 0 0 7 0 0 true #[] (-1) (-1) [] 0 (some false) (seen.add 24) none else
        match Sre.run codeW l.toArray 11 (min 4294967295 ((l.length : Int) - ((0 : Nat) : Int)).toNat) 0 0 ((seen.add 24).add 13) with
        | .error why => (st codeW l.toArray l.length 0 0 7 0 0 true #[] (-1) (-1) [] 0 none (seen.add 24) none).stick why
        | .ok (k, seen2) => if k < 0 then st codeW l.toArray l.length 0 0 7 0 0 true #[] (-1) (-1) [] 0 (some false) seen2 none else
          st codeW l.toArray l.length 0 0 17 (0 + k) (0 + k) true #[] (-1) (-1) [{ wait := .giveBack, pc := 7, pos := 0 + k, outermost := true, count := (k : Int), kept := KW }] 1 none seen2 none := rfl
    have hmin : min 4294967295 ((l.length : Int) - ((0 : Nat) : Int)).toNat = l.length := by omega
    rw [e, if_neg (by omega), hmin, hrun]
    simp only [Nat.not_lt_zero, if_false, Nat.zero_add]
    rfl
  obtain ⟨seen', e3⟩ := e2 (((({} : Sre.Seen).add 14).add 6).add 43)
  obtain ⟨m', he, ho⟩ := W_back l.toArray l.length n n seen' (fun p hp => by
    have hp1 : (p == l.length) = false := by simp; omega
    rw [hp1, Bool.false_or, Bool.and_eq_false_iff]
    right
    have hlt : p < l.length := by omega
    simp only [Array.getD_eq_getD_getElem?, List.getElem?_toArray, List.getElem?_eq_getElem hlt, Option.getD_some, beq_eq_false_iff_ne]
    intro e; exact h10 (e ▸ List.getElem_mem hlt))
  refine ⟨m', Ends.more (k := 2 * n + 3 + 1 + 1) ?_ (by omega), ho⟩
  rw [e0]
  refine Ends.step ?_ rfl
  rw [e1]
  refine Ends.step ?_ rfl
  rw [e3]; exact he

/-! get_indent's pattern -/
theorem I_found (l : List Nat) (hsz : l.length ≤ sizeLine) : ∃ m', Ends (Sre.forMatch codeI l.toArray 1 0 l.length false false) m' 8 ∧ m'.outcome = some .matched ∧ m'.start = 0 ∧ m'.handed = (l.takeWhile isInd).length ∧
    m'.lastmark = 1 ∧ m'.lastindex = 1 ∧ m'.marks = #[some 0, some (l.takeWhile isInd).length] := by
  have hsl : sizeLine = 16777216 := rfl
  have hcount : (((l.drop 0).take l.length).takeWhile isInd).length = (l.takeWhile isInd).length := by simp
  generalize hn : (l.takeWhile isInd).length = n at *
  have e0 : Sre.forMatch codeI l.toArray 1 0 l.length false false = st codeI l.toArray l.length 0 0 5 0 0 true #[none, none] (-1) (-1) [] 0 none (({} : Sre.Seen).add 14) none := rfl
  have e1 : ∀ seen, (st codeI l.toArray l.length 0 0 5 0 0 true #[none, none] (-1) (-1) [] 0 none seen none).step = st codeI l.toArray l.length 0 0 7 0 0 true #[none, none] (-1) (-1) [] 0 none ((seen.add 6).add 43) none := fun _ => rfl
  have e2 : ∀ seen, (st codeI l.toArray l.length 0 0 7 0 0 true #[none, none] (-1) (-1) [] 0 none seen none).step = st codeI l.toArray l.length 0 0 9 0 0 true #[some 0, none] 0 (-1) [] 0 none (seen.add 17) none := fun _ => rfl
  have e3 : ∀ seen, ∃ seen', (st codeI l.toArray l.length 0 0 9 0 0 true #[some 0, none] 0 (-1) [] 0 none seen none).step =
      st codeI l.toArray l.length 0 0 21 n n true #[some 0, none] 0 (-1) [{ wait := .giveBack, pc := 9, pos := n, outermost := true, count := (n : Int), kept := { lastmark := 0, lastindex := -1, whole := false, marks := #[] } }] 1 none seen' none := by
    intro seen
    obtain ⟨seen', hrun⟩ := run_count (code := codeI) (i := 13) l acc_ind l.length 0 0 ((seen.add 24).add 13) (by omega)
    rw [hcount, Nat.zero_add] at hrun
    refine ⟨seen', ?_⟩
    have e : (st codeI l.toArray l.length 0 0 9 0 0 true #[some 0, none] 0 (-1) [] 0 none seen none).step =
        if ((0 : Nat) : Int) > (l.length : Int) - ((0 : Nat) : Int) then st codeI l.toArray l.length 0 0 9 0 0 true #[some 0, none] 0 (-1) [] 0 (some false) (seen.add 24) none else
        match Sre.run codeI l.toArray 13 (min 4294967295 ((l.length : Int) - ((0 : Nat) : Int)).toNat) 0 0 ((seen.add 24).add 13) with
        | .error why => (st codeI l.toArray l.length 0 0 9 0 0 true #[some 0, none] 0 (-1) [] 0 none (seen.add 24) none).stick why
        | .ok (k, seen2) => if k < 0 then st codeI l.toArray l.length 0 0 9 0 0 true #[some 0, none] 0 (-1) [] 0 (some false) seen2 none else
          st codeI l.toArray l.length 0 0 21 (0 + k) (0 + k) true #[some 0, none] 0 (-1) [{ wait := .giveBack, pc := 9, pos := 0 + k, outermost := true, count := (k : Int), kept := { lastmark := 0, lastindex := -1, whole := false, marks := #[] } }] 1 none seen2 none := rfl
    have hmin : min 4294967295 ((l.length : Int) - ((0 : Nat) : Int)).toNat = l.length := by omega
    rw [e, if_neg (by omega), hmin, hrun]
    simp only [Nat.not_lt_zero, if_false, Nat.zero_add]
  obtain ⟨seen', e3⟩ := e3 ((((({} : Sre.Seen).add 14).add 6).add 43).add 17)
  have e4 : ∀ seen F, (st codeI l.toArray l.length 0 0 21 n n true #[some 0, none] 0 (-1) F 1 none seen none).step = st codeI l.toArray l.length 0 0 23 n n true #[some 0, some n] 1 1 F 1 none (seen.add 17) none := fun seen F => by
    show (st codeI l.toArray l.length 0 0 21 n n true #[some 0, none] 0 (-1) F 1 none (seen.add 17) none).mark 1 = _
    unfold Sre.M.mark
    simp
    decide
  have e5 : ∀ seen F, (st codeI l.toArray l.length 0 0 23 n n true #[some 0, some n] 1 1 F 1 none seen none).step = st codeI l.toArray l.length 0 0 23 n n true #[some 0, some n] 1 1 F 1 (some true) (seen.add 1) none := fun _ _ => rfl
  have e6 : ∀ seen K, (st codeI l.toArray l.length 0 0 23 n n true #[some 0, some n] 1 1 [{ wait := .giveBack, pc := 9, pos := n, outermost := true, count := (n : Int), kept := { lastmark := 0, lastindex := -1, whole := false, marks := K } }] 1 (some true) seen none).step =
    st codeI l.toArray l.length 0 0 9 n n true #[some 0, some n] 1 1 [] (1 - (1 + K.size)) (some true) seen none := fun _ _ => rfl
  have e7 : ∀ seen wt, (st codeI l.toArray l.length 0 0 9 n n true #[some 0, some n] 1 1 [] wt (some true) seen none).step = st codeI l.toArray l.length 0 0 9 n n true #[some 0, some n] 1 1 [] wt (some true) seen (some .matched) := fun _ _ => rfl
  refine ⟨st codeI l.toArray l.length 0 0 9 n n true #[some 0, some n] 1 1 [] 0 (some true) ((seen'.add 17).add 1) (some .matched), Ends.more (k := 7) ?_ (by omega), rfl, rfl, rfl, rfl, rfl, rfl⟩
  rw [e0]
  refine Ends.step (k := 6) ?_ rfl; rw [e1]
  refine Ends.step (k := 5) ?_ rfl; rw [e2]
  refine Ends.step (k := 4) ?_ rfl; rw [e3]
  refine Ends.step (k := 3) ?_ rfl; rw [e4]
  refine Ends.step (k := 2) ?_ rfl; rw [e5]
  refine Ends.step (k := 1) ?_ rfl; rw [e6]
  refine Ends.step (k := 0) ?_ rfl; rw [e7]
  exact Ends.now rfl

/-! the pattern of split -/
def FN (s : Nat) (first : Bool) : Sre.Frame := { wait := .nextStart, pc := 5, pos := s, outermost := first }
def FG (s : Nat) (k : Nat) (first : Bool) : Sre.Frame := { wait := .giveBack, pc := 7, pos := s + k, outermost := first, count := (k : Int), kept := { lastmark := 0, lastindex := -1, whole := false, marks := #[] } }
abbrev sS (l : List Nat) (s : Nat) (first : Bool) (y : Option Nat) (seen : Sre.Seen) : Sre.M :=
  st codeS l.toArray l.length s l.length 5 s s first #[y, none] (-1) (-1) [FN s first] 1 none seen none

theorem S_mark (l : List Nat) (s : Nat) (first : Bool) (y : Option Nat) (seen : Sre.Seen) : (sS l s first y seen).step = st codeS l.toArray l.length s l.length 7 s s first #[some s, none] 0 (-1) [FN s first] 1 none (seen.add 17) none := rfl
theorem S_rep (l : List Nat) (s : Nat) (first : Bool) (seen : Sre.Seen) : (st codeS l.toArray l.length s l.length 7 s s first #[some s, none] 0 (-1) [FN s first] 1 none seen none).step =
    if ((1 : Nat) : Int) > (l.length : Int) - (s : Int) then st codeS l.toArray l.length s l.length 7 s s first #[some s, none] 0 (-1) [FN s first] 1 (some false) (seen.add 24) none else
    match Sre.run codeS l.toArray 11 (min 4294967295 ((l.length : Int) - (s : Int)).toNat) s 0 ((seen.add 24).add 13) with
    | .error why => (st codeS l.toArray l.length s l.length 7 s s first #[some s, none] 0 (-1) [FN s first] 1 none (seen.add 24) none).stick why
    | .ok (k, seen2) => if k < 1 then st codeS l.toArray l.length s l.length 7 s s first #[some s, none] 0 (-1) [FN s first] 1 (some false) seen2 none else
      st codeS l.toArray l.length s l.length 17 (s + k) (s + k) first #[some s, none] 0 (-1) [FG s k first, FN s first] 2 none seen2 none := rfl
theorem S_next (l : List Nat) (s : Nat) (first : Bool) (seen : Sre.Seen) : (st codeS l.toArray l.length s l.length 7 s s first #[some s, none] 0 (-1) [FN s first] 1 (some false) seen none).step =
    if s < l.length then sS l (s + 1) false (some s) seen else st codeS l.toArray l.length s l.length 5 s s first #[some s, none] 0 (-1) [] 0 (some false) seen none := rfl

/-- the signs from s on: how many blanks -/
def bl (l : List Nat) (s : Nat) : Nat := ((l.drop s).takeWhile Unicode.isSpace).length

theorem S_at (l : List Nat) (hsz : l.length ≤ sizeLine) (s : Nat) (hs : s < l.length) (first : Bool) (seen : Sre.Seen) :
    ∃ seen', (st codeS l.toArray l.length s l.length 7 s s first #[some s, none] 0 (-1) [FN s first] 1 none seen none).step =
      if bl l s < 1 then st codeS l.toArray l.length s l.length 7 s s first #[some s, none] 0 (-1) [FN s first] 1 (some false) seen' none else
      st codeS l.toArray l.length s l.length 17 (s + bl l s) (s + bl l s) first #[some s, none] 0 (-1) [FG s (bl l s) first, FN s first] 2 none seen' none := by
  have hsl : sizeLine = 16777216 := rfl
  obtain ⟨seen', hrun⟩ := run_count (code := codeS) (i := 11) l acc_spaceS (l.length - s) s 0 ((seen.add 24).add 13) (by omega)
  have hc : (((l.drop s).take (l.length - s)).takeWhile Unicode.isSpace).length = bl l s := by
    rw [List.take_of_length_le (by simp)]; rfl
  rw [hc, Nat.zero_add] at hrun
  refine ⟨seen', ?_⟩
  have hmin : min 4294967295 ((l.length : Int) - (s : Int)).toNat = l.length - s := by omega
  rw [S_rep, if_neg (by omega), hmin, hrun]

theorem S_hit (l : List Nat) (hsz : l.length ≤ sizeLine) (s : Nat) (hs : s < l.length) (first : Bool) (y : Option Nat) (seen : Sre.Seen) (hb : 1 ≤ bl l s) :
    ∃ m', Ends (sS l s first y seen) m' 7 ∧ m'.outcome = some .matched ∧ m'.start = s ∧ m'.handed = s + bl l s ∧ m'.lastmark = 1 ∧ m'.marks = #[some s, some (s + bl l s)] := by
  obtain ⟨seen', e2⟩ := S_at l hsz s hs first (seen.add 17)
  rw [if_neg (by omega)] at e2
  generalize bl l s = k at *
  have e3 : ∀ seen F, (st codeS l.toArray l.length s l.length 17 (s + k) (s + k) first #[some s, none] 0 (-1) F 2 none seen none).step = st codeS l.toArray l.length s l.length 19 (s + k) (s + k) first #[some s, some (s + k)] 1 1 F 2 none (seen.add 17) none := fun seen F => by
    show (st codeS l.toArray l.length s l.length 17 (s + k) (s + k) first #[some s, none] 0 (-1) F 2 none (seen.add 17) none).mark 1 = _
    unfold Sre.M.mark
    simp
    decide
  have e4 : ∀ seen F, (st codeS l.toArray l.length s l.length 19 (s + k) (s + k) first #[some s, some (s + k)] 1 1 F 2 none seen none).step = st codeS l.toArray l.length s l.length 19 (s + k) (s + k) first #[some s, some (s + k)] 1 1 F 2 (some true) (seen.add 1) none := fun seen F => by
    cases first <;> rfl
  have e5 : ∀ seen F, (st codeS l.toArray l.length s l.length 19 (s + k) (s + k) first #[some s, some (s + k)] 1 1 (FG s k first :: F) 2 (some true) seen none).step = st codeS l.toArray l.length s l.length 7 (s + k) (s + k) first #[some s, some (s + k)] 1 1 F 1 (some true) seen none := fun _ _ => rfl
  have e6 : ∀ seen, (st codeS l.toArray l.length s l.length 7 (s + k) (s + k) first #[some s, some (s + k)] 1 1 [FN s first] 1 (some true) seen none).step = st codeS l.toArray l.length s l.length 5 s (s + k) first #[some s, some (s + k)] 1 1 [] 0 (some true) seen none := fun _ => rfl
  have e7 : ∀ seen, (st codeS l.toArray l.length s l.length 5 s (s + k) first #[some s, some (s + k)] 1 1 [] 0 (some true) seen none).step = st codeS l.toArray l.length s l.length 5 s (s + k) first #[some s, some (s + k)] 1 1 [] 0 (some true) seen (some .matched) := fun _ => rfl
  refine ⟨st codeS l.toArray l.length s l.length 5 s (s + k) first #[some s, some (s + k)] 1 1 [] 0 (some true) ((seen'.add 17).add 1) (some .matched), ?_, rfl, rfl, rfl, rfl, rfl⟩
  refine Ends.step (k := 6) ?_ rfl; rw [S_mark]
  refine Ends.step (k := 5) ?_ rfl; rw [e2]
  refine Ends.step (k := 4) ?_ rfl; rw [e3]
  refine Ends.step (k := 3) ?_ rfl; rw [e4]
  refine Ends.step (k := 2) ?_ rfl; rw [e5]
  refine Ends.step (k := 1) ?_ rfl; rw [e6]
  refine Ends.step (k := 0) ?_ rfl; rw [e7]
  exact Ends.now rfl

theorem S_miss (l : List Nat) (hsz : l.length ≤ sizeLine) (s : Nat) (hs : s < l.length) (first : Bool) (y : Option Nat) (seen : Sre.Seen) (hb : bl l s = 0) :
    ∃ seen', ∀ m' k, Ends (sS l (s + 1) false (some s) seen') m' k → Ends (sS l s first y seen) m' (k + 3) := by
  obtain ⟨seen', e2⟩ := S_at l hsz s hs first (seen.add 17)
  rw [if_pos (by omega)] at e2
  refine ⟨seen', fun m' k h => ?_⟩
  refine Ends.step (k := k + 2) ?_ rfl; rw [S_mark]
  refine Ends.step (k := k + 1) ?_ rfl; rw [e2]
  refine Ends.step (k := k) ?_ rfl; rw [S_next, if_pos hs]
  exact h

theorem bl_word {l : List Nat} {s : Nat} (hs : s < l.length) (h : Unicode.isSpace l[s] = false) : bl l s = 0 := by
  unfold bl
  rw [List.drop_eq_getElem_cons hs, List.takeWhile_cons_of_neg (by rw [h]; simp)]; rfl

theorem S_found (l : List Nat) (hsz : l.length ≤ sizeLine) : ∀ (a s : Nat) (first : Bool) (y : Option Nat) (seen : Sre.Seen), (∀ i, i < a → bl l (s + i) = 0) → s + a < l.length → 1 ≤ bl l (s + a) →
    ∃ m', Ends (sS l s first y seen) m' (3 * a + 7) ∧ m'.outcome = some .matched ∧ m'.start = s + a ∧ m'.handed = s + a + bl l (s + a) ∧ m'.lastmark = 1 ∧ m'.marks = #[some (s + a), some (s + a + bl l (s + a))]
  | 0, s, first, y, seen, _, hs, hb => S_hit l hsz s hs first y seen hb
  | a + 1, s, first, y, seen, h, hs, hb => by
    obtain ⟨seen', hm⟩ := S_miss l hsz s (by omega) first y seen (h 0 (by omega))
    have e : s + (a + 1) = s + 1 + a := by omega
    rw [e] at hs hb ⊢
    obtain ⟨m', he, r⟩ := S_found l hsz a (s + 1) false (some s) seen' (fun i hi => by have := h (i + 1) (by omega); rwa [show s + (i + 1) = s + 1 + i by omega] at this) hs hb
    exact ⟨m', (hm m' _ he).more (by omega), r⟩

theorem S_none (l : List Nat) (hsz : l.length ≤ sizeLine) : ∀ (a s : Nat) (first : Bool) (y : Option Nat) (seen : Sre.Seen), s + a = l.length → (∀ i, i < a → bl l (s + i) = 0) →
    ∃ m', Ends (sS l s first y seen) m' (3 * a + 4) ∧ m'.outcome = some .failed
  | 0, s, first, y, seen, hs, _ => by
    have e3 : ∀ seen, (st codeS l.toArray l.length s l.length 5 s s first #[some s, none] 0 (-1) [] 0 (some false) seen none).step = st codeS l.toArray l.length s l.length 5 s s first #[some s, none] 0 (-1) [] 0 (some false) seen (some .failed) := fun _ => rfl
    refine ⟨st codeS l.toArray l.length s l.length 5 s s first #[some s, none] 0 (-1) [] 0 (some false) ((seen.add 17).add 24) (some .failed), ?_, rfl⟩
    refine Ends.step (k := 3) ?_ rfl; rw [S_mark]
    refine Ends.step (k := 2) ?_ rfl; rw [S_rep, if_pos (by omega)]
    refine Ends.step (k := 1) ?_ rfl; rw [S_next, if_neg (by omega)]
    refine Ends.step (k := 0) ?_ rfl; rw [e3]
    exact Ends.now rfl
  | a + 1, s, first, y, seen, hs, h => by
    obtain ⟨seen', hm⟩ := S_miss l hsz s (by omega) first y seen (h 0 (by omega))
    obtain ⟨m', he, r⟩ := S_none l hsz a (s + 1) false (some s) seen' (by omega) (fun i hi => by have := h (i + 1) (by omega); rwa [show s + (i + 1) = s + 1 + i by omega] at this)
    exact ⟨m', (hm m' _ he).more (by omega), r⟩

theorem search_eq (l : List Nat) (p : Nat) (hp : p < l.length) : Sre.forSearch codeS l.toArray 1 p l.length false = sS l p true none (({} : Sre.Seen).add 14) := by
  have e : Sre.forSearch codeS l.toArray 1 p l.length false = if (decide (p > l.length) || decide (l.length - p < 1)) = true then (st codeS l.toArray l.length p 0 5 p p true #[none, none] (-1) (-1) [] 0 (some false) (({} : Sre.Seen).add 14) none) else sS l p true none (({} : Sre.Seen).add 14) := rfl
  rw [e, if_neg (by simp; omega)]
theorem search_end (l : List Nat) : ∃ m', Ends (Sre.forSearch codeS l.toArray 1 l.length l.length false) m' 1 ∧ m'.outcome = some .failed := by
  have e : Sre.forSearch codeS l.toArray 1 l.length l.length false = if (decide (l.length > l.length) || decide (l.length - l.length < 1)) = true then (st codeS l.toArray l.length l.length 0 5 l.length l.length true #[none, none] (-1) (-1) [] 0 (some false) (({} : Sre.Seen).add 14) none) else sS l l.length true none (({} : Sre.Seen).add 14) := rfl
  rw [if_pos (by simp)] at e
  refine ⟨_, Ends.step (k := 0) (Ends.now ?_) (by rw [e]), ?_⟩ <;> rw [e] <;> rfl
end Mine

end

section
open PySem PySem.W PyProof.Rows
open Builtin Builtin.Str
set_option Elab.async false
set_option linter.unusedVariables false
namespace Mine
set_option maxRecDepth 100000

theorem slot_match : Slot "re.Pattern" "match" "re.Pattern.match" :=
  .of (owner := "re.Pattern") (n := "match") (by rw [typeLookup_type, builtinLookup_eq_fast]; kernel_rfl) (by decide +kernel) (by decide +kernel) (by decide +kernel)
    (by first | exact .inl (by decide +kernel) | exact .inr (by decide +kernel)) (by rw [isSubtype_type]; kernel_rfl)
theorem type_match : typeOf (.builtin "re.Pattern.match") = pure (.type "method_descriptor") := by show builtinType _ = _; rw [builtinType_eq_fast]; kernel_rfl
theorem entry_match : entryFor table "re.Pattern.match" = some Builtin.«re.Pattern.match» := entryFor_of_tree (by kernel_rfl)
theorem slot_rsplit : Slot "re.Pattern" "split" "re.Pattern.split" :=
  .of (owner := "re.Pattern") (n := "split") (by rw [typeLookup_type, builtinLookup_eq_fast]; kernel_rfl) (by decide +kernel) (by decide +kernel) (by decide +kernel)
    (by first | exact .inl (by decide +kernel) | exact .inr (by decide +kernel)) (by rw [isSubtype_type]; kernel_rfl)
theorem type_rsplit : typeOf (.builtin "re.Pattern.split") = pure (.type "method_descriptor") := by show builtinType _ = _; rw [builtinType_eq_fast]; kernel_rfl
theorem entry_rsplit : entryFor table "re.Pattern.split" = some Builtin.«re.Pattern.split» := entryFor_of_tree (by kernel_rfl)
theorem slot_group : Slot "re.Match" "group" "re.Match.group" :=
  .of (owner := "re.Match") (n := "group") (by rw [typeLookup_type, builtinLookup_eq_fast]; kernel_rfl) (by decide +kernel) (by decide +kernel) (by decide +kernel)
    (by first | exact .inl (by decide +kernel) | exact .inr (by decide +kernel)) (by rw [isSubtype_type]; kernel_rfl)
theorem type_group : typeOf (.builtin "re.Match.group") = pure (.type "method_descriptor") := by show builtinType _ = _; rw [builtinType_eq_fast]; kernel_rfl
theorem entry_group : entryFor table "re.Match.group" = some Builtin.«re.Match.group» := entryFor_of_tree (by kernel_rfl)
theorem plain_Pattern : PlainAttrs "re.Pattern" :=
  ⟨⟨"object.__getattribute__", by rw [typeLookup_type, builtinLookup_eq_fast]; kernel_rfl, by decide +kernel⟩, by rw [typeLookup_type, builtinLookup_eq_fast]; kernel_rfl⟩
theorem plain_Match : PlainAttrs "re.Match" :=
  ⟨⟨"object.__getattribute__", by rw [typeLookup_type, builtinLookup_eq_fast]; kernel_rfl, by decide +kernel⟩, by rw [typeLookup_type, builtinLookup_eq_fast]; kernel_rfl⟩
theorem own_Pattern : Manifest.owners.lookup (String.ofList ['n', 'r', 'e', 't', 't', 'a', 'P', '.', 'e', 'r'].reverse) = some Manifest.sig_re_Pattern := by kernel_rfl
theorem own_Match : Manifest.owners.lookup (String.ofList ['h', 'c', 't', 'a', 'M', '.', 'e', 'r'].reverse) = some Manifest.sig_re_Match := by kernel_rfl
theorem args_match (a b : Value) : argsOk "re.Pattern.match" ⟨[a, b], []⟩ := by
  unfold argsOk; rw [signature?_of (id := "re.Pattern.match") (n := ['h', 'c', 't', 'a', 'm']) (o := ['n', 'r', 'e', 't', 't', 'a', 'P', '.', 'e', 'r']) (by kernel_rfl) own_Pattern]; kernel_rfl
theorem args_rsplit (a b : Value) : argsOk "re.Pattern.split" ⟨[a, b], []⟩ := by
  unfold argsOk; rw [signature?_of (id := "re.Pattern.split") (n := ['t', 'i', 'l', 'p', 's']) (o := ['n', 'r', 'e', 't', 't', 'a', 'P', '.', 'e', 'r']) (by kernel_rfl) own_Pattern]; kernel_rfl
theorem args_group (a : Value) : argsOk "re.Match.group" ⟨[a], []⟩ := by
  unfold argsOk; rw [signature?_of (id := "re.Match.group") (n := ['p', 'u', 'o', 'r', 'g']) (o := ['h', 'c', 't', 'a', 'M', '.', 'e', 'r']) (by kernel_rfl) own_Match]; kernel_rfl
end Mine

end

section
open PySem PySem.W PyProof.Rows
open Builtin Builtin.Str Builtin.Re
set_option Elab.async false
set_option linter.unusedVariables false
namespace Mine
set_option maxRecDepth 100000

def codeVals (c : Array Nat) : Array Value := c.map fun (n : Nat) => Value.int (n : Int) 0

/-- a compiled pattern in the heap -/
structure Pat (h : Heap) (pa : Addr) (code : Array Nat) (groups : Nat) : Prop where
  here : ∃ ca x t f o2, h.get? pa = some { cls := .type "re.Pattern", data := .fields #[.str x t, .int 32 f, .int groups 0, .none, .none, .ref ca, .int 0 0] } ∧ h.get? ca = some o2 ∧ ∃ n, o2.data = .seq (codeVals code) n
theorem Pat.keeps {h h' : Heap} {pa : Addr} {code : Array Nat} {g : Nat} (p : Pat h pa code g) (hk : Sub h h') : Pat h' pa code g := by
  obtain ⟨ca, x, t, f, o2, h1, h2, h3⟩ := p.here
  exact ⟨ca, x, t, f, o2, hk _ _ h1, hk _ _ h2, h3⟩

theorem named_match (v : Value) : reNamed "re.Pattern.match" "match" ["string", "pos", "endpos"] 1 [v] [] = pure [some v, none, none] := by rfl
theorem named_split (v : Value) : reNamed "re.Pattern.split" "split" ["string", "maxsplit"] 1 [v] [] = pure [some v, none] := by rfl

theorem code_back (code : Array Nat) : ((codeVals code).map reRawOf).map (·.toNat) = code := by
  unfold codeVals
  rw [Array.map_map, Array.map_map]
  have : ((fun x : Int => x.toNat) ∘ reRawOf ∘ fun (n : Nat) => Value.int (n : Int) 0) = fun n => n := by funext n; rfl
  have e : (Array.map (((fun x : Int => x.toNat) ∘ reRawOf) ∘ fun (n : Nat) => Value.int (n : Int) 0) code) = Array.map (fun n => n) code := by rw [← this]; rfl
  rw [e]; simp

section
variable {M : Model} {A : Around} {E : Value → Shared → Prop} {s : Shared}
theorem wp_target {pa : Addr} {code : Array Nat} {g : Nat} {x : Str} {t : Tok} {Q : ReTarget → Shared → Prop} (p : Pat s.heap pa code g)
    (h : Q { pattern := .ref pa, string := .str x t, code, text := x.cps, kind := 0, groups := g, pos := 0, lim := x.cps.size } s) (hsz : x.length ≤ sizeLine) :
    wpAny M A (reTarget "re.Pattern.match" "match" ⟨[.ref pa, .str x t], []⟩) Q E s := by
  obtain ⟨ca, y, ty, f, o2, h1, h2, n, h3⟩ := p.here
  unfold reTarget
  show wpAny M A (reNamed "re.Pattern.match" "match" ["string", "pos", "endpos"] 1 [.str x t] [] >>= _) Q E s
  rw [named_match]
  refine wpAny_bind (wpAny_pure ?_)
  show wpAny M A (pure (0 : Int) >>= _) Q E s
  refine wpAny_bind (wpAny_pure ?_)
  show wpAny M A (pure (2 ^ 63 - 1 : Int) >>= _) Q E s
  refine wpAny_bind (wpAny_pure ?_)
  refine wpAny_bind (wpAny_fieldsOf h1 rfl ?_)
  refine wpAny_bind (wpAny_pure ?_)
  show wpAny M A (do
      let items ← reRawItems (.ref ca)
      pure ({ pattern := .ref pa, string := .str x t, code := items.map (·.toNat), text := x.cps, kind := 0, groups := ((g : Int)).toNat, pos := min ((0 : Int)).toNat x.cps.size, lim := min ((2 ^ 63 - 1 : Int)).toNat x.cps.size } : ReTarget)) Q E s
  unfold reRawItems
  refine wpAny_bind (wpAny_bind (wpAny_seqItems h2 h3 (wpAny_pure (wpAny_pure ?_))))
  show Q { pattern := .ref pa, string := .str x t, code := ((codeVals code).map reRawOf).map (·.toNat), text := x.cps, kind := 0, groups := ((g : Int)).toNat, pos := min ((0 : Int)).toNat x.cps.size, lim := min ((2 ^ 63 - 1 : Int)).toNat x.cps.size } s
  have e1 : min ((0 : Int)).toNat x.cps.size = 0 := by simp
  have e2 : min ((2 ^ 63 - 1 : Int)).toNat x.cps.size = x.cps.size := by
    have hsl : sizeLine = 2 ^ 24 := rfl
    have : x.cps.size ≤ sizeLine := hsz
    have h63 : ((2 ^ 63 - 1 : Int)).toNat = 9223372036854775807 := by decide
    omega
  rw [code_back, e1, e2]
  exact h

theorem wp_whole {pa : Addr} {code : Array Nat} {g : Nat} {x : Str} {t : Tok} {Q : ReTarget → Shared → Prop} (p : Pat s.heap pa code g)
    (h : Q { pattern := .ref pa, string := .str x t, code, text := x.cps, kind := 0, groups := g, pos := 0, lim := x.cps.size } s) :
    wpAny M A (reWholeTarget (.ref pa) (.str x t)) Q E s := by
  obtain ⟨ca, y, ty, f, o2, h1, h2, n, h3⟩ := p.here
  unfold reWholeTarget
  refine wpAny_bind (wpAny_fieldsOf h1 rfl ?_)
  refine wpAny_bind (wpAny_pure ?_)
  show wpAny M A (do
      let items ← reRawItems (.ref ca)
      pure ({ pattern := .ref pa, string := .str x t, code := items.map (·.toNat), text := x.cps, kind := 0, groups := ((g : Int)).toNat, pos := 0, lim := x.cps.size } : ReTarget)) Q E s
  unfold reRawItems
  refine wpAny_bind (wpAny_bind (wpAny_seqItems h2 h3 (wpAny_pure (wpAny_pure ?_))))
  show Q { pattern := .ref pa, string := .str x t, code := ((codeVals code).map reRawOf).map (·.toNat), text := x.cps, kind := 0, groups := ((g : Int)).toNat, pos := 0, lim := x.cps.size } s
  rw [code_back]
  exact h
end

section
variable {prog : Program} {w : World} {A : Around} {E : Value → Shared → Prop} {s : Shared}

theorem typeIs_pat {pa : Addr} {code : Array Nat} {g : Nat} (p : Pat s.heap pa code g) : s.TypeIs (.ref pa) "re.Pattern" := by
  obtain ⟨ca, y, ty, f, o2, h1, _⟩ := p.here
  exact ⟨_, h1, rfl⟩

theorem call_matchW {pa : Addr} {l : List Nat} {t : Tok} {Q : Value → Shared → Prop} (p : Pat s.heap pa codeW 0) (h10 : 10 ∉ l) (hne : (l.takeWhile Unicode.isSpace).length < l.length) (hsz : l.length ≤ sizeLine) (h : Q .none s) :
    wpAny (model prog w) A (call (.builtin "re.Pattern.match") [.ref pa, .str (T l) t]) Q E s := by
  refine wpAny_call_entry slot_match (typeIs_pat p) entry_match ?_ (args_match _ _)
  show wpAny _ _ (do let t ← reTarget "re.Pattern.match" "match" ⟨[.ref pa, .str (T l) t], []⟩; reAnswer t (Sre.forMatch t.code t.text t.groups t.pos t.lim false false)) _ _ s
  refine wpAny_bind (wp_target p ?_ (Nat.le_trans (Nat.le_of_eq (T_len l)) hsz))
  obtain ⟨m', he, ho⟩ := W_fails l h10 hne hsz
  have hk : 2 * l.length + 10 ≤ 2 ^ 60 := by have hsl : sizeLine = 16777216 := rfl
                                             omega
  show wpAny _ _ (reAnswer ⟨.ref pa, .str (T l) t, codeW, (T l).cps, 0, 0, 0, (T l).cps.size⟩ (Sre.forMatch codeW (T l).cps 0 0 (T l).cps.size false false)) _ _ s
  have e : Sre.forMatch codeW (T l).cps 0 0 (T l).cps.size false false = Sre.forMatch codeW l.toArray 0 0 l.length false false := by
    show Sre.forMatch codeW l.toArray 0 0 l.toArray.size false false = _
    rw [List.size_toArray]
  rw [e]
  generalize Sre.forMatch codeW l.toArray 0 0 l.length false false = m0 at he ⊢
  unfold reAnswer
  refine wpAny_bind (wp_toEnd he hk (fun hm => ?_) (fun _ => ?_) (fun why e => by rw [ho] at e; cases e))
  · rw [ho] at hm; cases hm
  · exact wpAny_pure ⟨_, rfl, h⟩

/-- a match of get_indent's pattern -/
theorem call_matchI {pa : Addr} {l : List Nat} {t : Tok} {Q : Value → Shared → Prop} (p : Pat s.heap pa codeI 1) (hsz : l.length ≤ sizeLine)
    (h : ∀ h' ma ta, Sub s.heap h' → h'.get? ma = some { cls := .type "re.Match", data := .fields #[.str (T l) t, .ref pa, rawInt 0, rawInt l.length, rawInt 1, .ref ta] } →
      h'.get? ta = some { cls := .type "tuple", data := .seq #[rawInt 0, rawInt (l.takeWhile isInd).length, rawInt 0, rawInt (l.takeWhile isInd).length] } → s.heap.get? ma = none → Q (.ref ma) { s with heap := h' }) :
    wpAny (model prog w) A (call (.builtin "re.Pattern.match") [.ref pa, .str (T l) t]) Q E s := by
  refine wpAny_call_entry slot_match (typeIs_pat p) entry_match ?_ (args_match _ _)
  show wpAny _ _ (do let t ← reTarget "re.Pattern.match" "match" ⟨[.ref pa, .str (T l) t], []⟩; reAnswer t (Sre.forMatch t.code t.text t.groups t.pos t.lim false false)) _ _ s
  refine wpAny_bind (wp_target p ?_ (Nat.le_trans (Nat.le_of_eq (T_len l)) hsz))
  obtain ⟨m', he, ho, h1, h2, h3, h4, h5⟩ := I_found l hsz
  show wpAny _ _ (reAnswer ⟨.ref pa, .str (T l) t, codeI, (T l).cps, 0, 1, 0, (T l).cps.size⟩ (Sre.forMatch codeI (T l).cps 1 0 (T l).cps.size false false)) _ _ s
  have e : Sre.forMatch codeI (T l).cps 1 0 (T l).cps.size false false = Sre.forMatch codeI l.toArray 1 0 l.length false false := by
    show Sre.forMatch codeI l.toArray 1 0 l.toArray.size false false = _
    rw [List.size_toArray]
  have e' : (T l).cps.size = l.length := T_len l
  rw [e, e']
  generalize Sre.forMatch codeI l.toArray 1 0 l.length false false = m0 at he ⊢
  generalize (l.takeWhile isInd).length = k at *
  unfold reAnswer
  refine wpAny_bind (wp_toEnd he (by decide) (fun hm => ?_) (fun hf => by rw [ho] at hf; cases hf) (fun why e => by rw [ho] at e; cases e))
  show wpAny _ _ (reNewMatch (.ref pa) (.str (T l) t) 1 0 l.length m' >>= fun v => ret v) _ _ s
  have hnew : reNewMatch (.ref pa) (.str (T l) t) 1 0 l.length m' = (do newFields "re.Match" [.str (T l) t, .ref pa, rawInt (0 : Nat), rawInt l.length, rawInt 1, ← newTuple [rawInt (0 : Nat), rawInt k, rawInt (0 : Nat), rawInt k]]) := by
    obtain ⟨a1, a2, a3, a4, a5, a6, a7, a8, a9, a10, a11, a12, a13, a14, a15, a16, a17, a18, a19, a20, a21⟩ := m'
    simp only at h1 h2 h3 h4 h5
    subst h1 h2 h3 h4 h5
    rfl
  rw [hnew]
  refine wpAny_bind (wpAny_bind (wpAny_newTuple ?_ (by show 4 ≤ sizeLine; decide)))
  refine wpAny_newObj_type (wpAny_pure ⟨_, rfl, ?_⟩)
  exact h _ _ s.heap.objs.size (fun b o e => Heap.get?_push_of_some _ (Heap.get?_push_of_some _ e)) (Heap.get?_push_size _ rfl) (Heap.get?_push_of_some _ (Heap.get?_push_size _ rfl))
    (fresh_size (s₁ := { s with heap := s.heap.push _ }) (kp_push _ _))

theorem call_group {ma ta pa : Addr} {l : List Nat} {t : Tok} {k : Nat} {Q : Value → Shared → Prop} {a3 a4 a5 : Value}
    (hm : s.heap.get? ma = some { cls := .type "re.Match", data := .fields #[.str (T l) t, .ref pa, a3, a4, a5, .ref ta] })
    (ht : s.heap.get? ta = some { cls := .type "tuple", data := .seq #[rawInt 0, rawInt k, rawInt 0, rawInt k] }) (hsz : l.length ≤ sizeLine) (h : Q (.str (T (l.take k)) s.toks) { s with toks := s.toks + 1 }) :
    wpAny (model prog w) A (call (.builtin "re.Match.group") [.ref ma]) Q E s := by
  refine wpAny_call_entry slot_group ⟨_, hm, rfl⟩ entry_group ?_ (args_group _)
  show wpAny _ _ (do let x ← reFound (.ref ma); ret (← reGroupText x 0 .none)) _ _ s
  unfold reFound
  refine wpAny_bind (wpAny_bind (wpAny_fieldsOf hm rfl ?_))
  show wpAny _ _ (reRawItems (.ref ta) >>= _) _ _ s
  unfold reRawItems
  refine wpAny_bind (wpAny_bind (wpAny_seqItems ht rfl (wpAny_pure (wpAny_pure ?_))))
  refine wpAny_bind ?_
  have ex : (T l).cps.extract 0 k = (l.take k).toArray := by
    apply Array.toList_inj.mp; simp [T]
  have hsp : Array.map reRawOf ((some #[rawInt 0, rawInt ↑k, rawInt 0, rawInt ↑k]).getD #[]) = #[0, (k : Int), 0, (k : Int)] := by simp [rawInt, reRawOf]
  rw [hsp]
  have hg : reGroupText { fields := #[Value.str (T l) t, Value.ref pa, a3, a4, a5, Value.ref ta], spans := #[0, (k : Int), 0, (k : Int)] } 0 Value.none =
      if (decide ((0 : Int) < 0) || decide ((k : Int) < 0)) = true then pure .none else mkStr ⟨(T l).cps.extract ((0 : Int)).toNat ((k : Int)).toNat⟩ := rfl
  rw [hg, if_neg (by simp)]
  rw [show ((0 : Int)).toNat = 0 from rfl, show ((k : Int)).toNat = k from rfl, ex]
  refine wpAny_mkStr (wpAny_pure ⟨_, rfl, h⟩) ?_
  show (T (l.take k)).length ≤ sizeLine
  rw [T_len, List.length_take]; omega
end
end Mine

end

section
open PySem PySem.W PyProof.Rows
open Builtin Builtin.Str Builtin.Re
set_option Elab.async false
set_option linter.unusedVariables false
namespace Mine
set_option maxRecDepth 100000

abbrev SpSt := Array Value × Nat × Nat × Bool × Int × Bool
abbrev tgt (pa : Addr) (l : List Nat) (t : Tok) : ReTarget := { pattern := .ref pa, string := .str (T l) t, code := codeS, text := (T l).cps, kind := 0, groups := 1, pos := 0, lim := (T l).cps.size }
def spBody (tg : ReTarget) (_ : Nat) (st : SpSt) : Sem (ForInStep SpSt) :=
  if (!st.2.2.2.2.2) = true then do
    let r ← reNextFound tg st.2.1 st.2.2.2.1
    match r with
    | none => pure (.yield (st.1, st.2.1, st.2.2.1, st.2.2.2.1, st.2.2.2.2.1, true))
    | some m => do
      let a ← reSlice tg.text tg.kind st.2.2.1 m.start
      let out ← forIn (List.range tg.groups) (st.1.push a) fun g o => do
        let x ← reMachineGroup tg m (g + 1) (pure .none)
        pure (.yield (o.push x))
      pure (.yield (out, m.handed, m.handed, m.handed == m.start, st.2.2.2.2.1 + 1, st.2.2.2.2.2))
  else pure (.yield st)

theorem spBody_go (tg : ReTarget) (x : Nat) (out : Array Value) (p q : Nat) (mu : Bool) (n : Int) : spBody tg x (out, p, q, mu, n, false) = (do
    let r ← reNextFound tg p mu
    match r with
    | none => pure (.yield (out, p, q, mu, n, true))
    | some m => do
      let a ← reSlice tg.text tg.kind q m.start
      let out ← forIn (List.range tg.groups) (out.push a) fun g o => do
        let x ← reMachineGroup tg m (g + 1) (pure .none)
        pure (.yield (o.push x))
      pure (.yield (out, m.handed, m.handed, m.handed == m.start, n + 1, false))) := rfl

/-- a line's blanks and words -/
def flat : List (List Nat × List Nat) → List Nat
  | [] => []
  | (sp, w) :: r => sp ++ w ++ flat r
def TokOk (ts : List (List Nat × List Nat)) : Prop := ∀ p ∈ ts, p.1 ≠ [] ∧ (∀ c ∈ p.1, Unicode.isSpace c = true) ∧ p.2 ≠ [] ∧ ∀ c ∈ p.2, Unicode.isSpace c = false
def chunks : List Nat → List (List Nat × List Nat) → List (List Nat) × List Nat
  | w, [] => ([], w)
  | w, (sp, w') :: ts => (w :: sp :: (chunks w' ts).1, (chunks w' ts).2)

theorem takeWhile_all {f : Nat → Bool} : ∀ (a b : List Nat), (∀ c ∈ a, f c = true) → (∀ c r, b = c :: r → f c = false) → (a ++ b).takeWhile f = a
  | [], b, _, h => by
    cases b with
    | nil => rfl
    | cons c r => rw [List.nil_append, List.takeWhile_cons_of_neg (by rw [h c r rfl]; simp)]
  | x :: a, b, h, h' => by
    rw [List.cons_append, List.takeWhile_cons_of_pos (h x List.mem_cons_self), takeWhile_all a b (fun c hc => h c (List.mem_cons_of_mem _ hc)) h']

theorem bl_words {l pre w rest : List Nat} (hl : l = pre ++ w ++ rest) (hw : ∀ c ∈ w, Unicode.isSpace c = false) (i : Nat) (hi : i < w.length) : bl l (pre.length + i) = 0 := by
  have hlt : pre.length + i < l.length := by rw [hl]; simp; omega
  refine bl_word hlt ?_
  have : l[pre.length + i] = w[i] := by
    subst hl
    rw [List.getElem_append_left (by simp; omega), List.getElem_append_right (by omega)]
    congr 1; omega
  rw [this]; exact hw _ (List.getElem_mem hi)
theorem bl_blanks {l pre w sp w' rest : List Nat} (hl : l = pre ++ w ++ (sp ++ w' ++ rest)) (hs : ∀ c ∈ sp, Unicode.isSpace c = true) (hw : ∀ c ∈ w', Unicode.isSpace c = false) (hne : w' ≠ []) : bl l (pre.length + w.length) = sp.length := by
  unfold bl
  have : l.drop (pre.length + w.length) = sp ++ (w' ++ rest) := by
    rw [hl, List.drop_left' (by simp), List.append_assoc]
  rw [this, takeWhile_all sp (w' ++ rest) hs]
  intro c r e
  cases w' with
  | nil => exact absurd rfl hne
  | cons d w'' => rw [List.cons_append] at e; cases e; exact hw _ List.mem_cons_self

section
variable {prog : Program} {w : World} {A : Around} {E : Value → Shared → Prop}

theorem sp_over (tg : ReTarget) : ∀ (rest : List Nat) (st : SpSt) (s : Shared) (Q : SpSt → Shared → Prop), st.2.2.2.2.2 = true → Q st s → wpAny (model prog w) A (forIn rest st (spBody tg)) Q E s
  | [], st, s, Q, _, h => by rw [List.forIn_nil]; exact wpAny_pure h
  | _ :: rest, st, s, Q, ho, h => by
    rw [List.forIn_cons]
    refine wpAny_bind ?_
    unfold spBody
    rw [if_neg (by rw [ho]; simp)]
    exact wpAny_pure (sp_over tg rest st s Q ho h)

theorem slice_T {l : List Nat} {b e : Nat} {s : Shared} {Q : Value → Shared → Prop} (hsz : l.length ≤ sizeLine) (h : Q (.str (T ((l.drop b).take (e - b))) s.toks) { s with toks := s.toks + 1 }) :
    wpAny (model prog w) A (reSlice (T l).cps 0 b e) Q E s := by
  show wpAny _ _ (mkStr ⟨(T l).cps.extract b e⟩) _ _ s
  have ex : (T l).cps.extract b e = ((l.drop b).take (e - b)).toArray := by
    apply Array.toList_inj.mp
    rw [Array.toList_extract]
    simp [T]
  rw [ex]
  exact wpAny_mkStr h (by show (T _).length ≤ sizeLine; rw [T_len]; simp; omega)

theorem sp_loop {pa : Addr} {l : List Nat} {t : Tok} (hsz : l.length ≤ sizeLine) (Q : SpSt → Shared → Prop) : ∀ (ts : List (List Nat × List Nat)) (pre wd : List Nat) (out : Array Value) (done : List (List Nat)) (n : Int) (rest : List Nat) (s : Shared),
    l = pre ++ wd ++ flat ts → TokOk ts → (∀ c ∈ wd, Unicode.isSpace c = false) → (wd ≠ [] ∨ ts ≠ []) → Paired IsS out.toList (ofS done) → ts.length + 1 ≤ rest.length →
    (∀ out' tk last a b c, Paired IsS out'.toList (ofS (done ++ (chunks wd ts).1)) → l.drop last = (chunks wd ts).2 → Q (out', a, last, b, c, true) { s with toks := tk }) →
    wpAny (model prog w) A (forIn rest ((out, pre.length, pre.length, false, n, false) : SpSt) (spBody (tgt pa l t))) Q E s := by
  intro ts
  have hsl : sizeLine = 16777216 := rfl
  induction ts with
  | nil =>
    intro pre wd out done n rest s hl hok hwd hne hp hr hq
    cases rest with
    | nil => simp at hr
    | cons x rest =>
      have hwd0 : wd ≠ [] := hne.resolve_right (fun h => h rfl)
      have hlen : pre.length + wd.length = l.length := by rw [hl]; simp [flat]
      have hpos : 0 < wd.length := List.length_pos_iff.mpr hwd0
      rw [List.forIn_cons]
      refine wpAny_bind ?_
      rw [spBody_go]
      refine wpAny_bind ?_
      obtain ⟨m', he, ho⟩ := S_none l hsz wd.length pre.length true none (({} : Sre.Seen).add 14) hlen (fun i hi => bl_words hl hwd i hi)
      rw [← search_eq l pre.length (by omega)] at he
      show wpAny _ _ (reRunToEnd (Sre.forSearch codeS l.toArray 1 pre.length l.toArray.size false)) _ _ s
      rw [List.size_toArray]
      generalize Sre.forSearch codeS l.toArray 1 pre.length l.length false = m0 at he ⊢
      refine wp_toEnd he (by omega) (fun hm => by rw [ho] at hm; cases hm) (fun _ => ?_) (fun why e => by rw [ho] at e; cases e)
      refine wpAny_pure ?_
      refine sp_over _ rest _ s Q rfl ?_
      have := hq out s.toks pre.length pre.length false n (by simpa [chunks] using hp) (by rw [hl]; simp [chunks, flat])
      exact this
  | cons tk ts ih =>
    obtain ⟨sp, w'⟩ := tk
    intro pre wd out done n rest s hl hok hwd hne hp hr hq
    obtain ⟨k1, k2, k3, k4⟩ := hok (sp, w') List.mem_cons_self
    cases rest with
    | nil => simp at hr
    | cons x rest =>
      have hl' : l = pre ++ wd ++ (sp ++ w' ++ flat ts) := hl
      have hspos : 0 < sp.length := List.length_pos_iff.mpr k1
      have hbl : bl l (pre.length + wd.length) = sp.length := bl_blanks hl' k2 k4 k3
      have hlen : l.length = pre.length + wd.length + (sp.length + w'.length + (flat ts).length) := by rw [hl']; simp; omega
      rw [List.forIn_cons]
      refine wpAny_bind ?_
      rw [spBody_go]
      refine wpAny_bind ?_
      obtain ⟨m', he, ho, h1, h2, h3, h4⟩ := S_found l hsz wd.length pre.length true none (({} : Sre.Seen).add 14) (fun i hi => bl_words hl hwd i hi) (by omega) (by rw [hbl]; exact hspos)
      rw [← search_eq l pre.length (by omega)] at he
      rw [hbl] at h2 h4
      show wpAny _ _ (reRunToEnd (Sre.forSearch codeS l.toArray 1 pre.length l.toArray.size false)) _ _ s
      rw [List.size_toArray]
      generalize Sre.forSearch codeS l.toArray 1 pre.length l.length false = m0 at he ⊢
      refine wp_toEnd he (by omega) (fun _ => ?_) (fun hf => by rw [ho] at hf; cases hf) (fun why e => by rw [ho] at e; cases e)
      show wpAny _ _ (reSlice (T l).cps 0 pre.length m'.start >>= _) _ _ s
      refine wpAny_bind (slice_T hsz ?_)
      refine wpAny_bind ?_
      have hg : ∀ d, reMachineGroup (tgt pa l t) m' (0 + 1) d = reSlice (T l).cps 0 (pre.length + wd.length) (pre.length + wd.length + sp.length) := by
        intro d
        unfold reMachineGroup
        rw [h3, h4]
        show (if ((2 * (0 + 1 - 1) : Nat) : Int) ≥ 1 then d else if pre.length + wd.length + sp.length < pre.length + wd.length then reWrongSpan else _) = _
        rw [if_neg (by decide), if_neg (by omega)]
      show wpAny _ _ (forIn [0] (out.push (.str (T ((l.drop pre.length).take (m'.start - pre.length))) s.toks)) fun g o => do
        let x ← reMachineGroup (tgt pa l t) m' (g + 1) (pure .none)
        pure (.yield (o.push x))) _ _ _
      rw [List.forIn_cons, hg]
      refine wpAny_bind (wpAny_bind (slice_T hsz (wpAny_pure ?_)))
      show wpAny _ _ (forIn [] _ _) _ _ _
      rw [List.forIn_nil]
      refine wpAny_pure (wpAny_pure ?_)
      rw [h1, h2]
      have hm : (pre.length + wd.length + sp.length == pre.length + wd.length) = false := by simp; omega
      rw [hm]
      have hpre : (pre ++ wd ++ sp).length = pre.length + wd.length + sp.length := by simp; omega
      have ew : (l.drop pre.length).take (pre.length + wd.length - pre.length) = wd := by
        rw [hl', List.append_assoc, List.drop_left, Nat.add_sub_cancel_left, List.take_left' rfl]
      have es : (l.drop (pre.length + wd.length)).take (pre.length + wd.length + sp.length - (pre.length + wd.length)) = sp := by
        rw [hl', List.drop_left' (by simp), Nat.add_sub_cancel_left, List.append_assoc, List.take_left' rfl]
      rw [ew, es, ← hpre]
      refine ih (pre ++ wd ++ sp) w' _ (done ++ [wd, sp]) _ rest _ (by rw [hl']; simp) (fun p hp => hok p (List.mem_cons_of_mem _ hp)) k4 (.inl k3) ?_ (by simp at hr ⊢; omega) ?_
      · rw [Array.toList_push, Array.toList_push]
        have : ofS (done ++ [wd, sp]) = ofS done ++ [S.str (T wd)] ++ [S.str (T sp)] := by simp [ofS]
        rw [this]
        exact Pr.append (Pr.append hp (.cons ⟨_, rfl⟩ .nil)) (.cons ⟨_, rfl⟩ .nil)
      · intro out' tk last a b c hp' hd'
        refine hq out' tk last a b c ?_ hd'
        simpa [chunks] using hp'

theorem flat_len : ∀ (ts : List (List Nat × List Nat)), TokOk ts → ts.length ≤ (flat ts).length
  | [], _ => by simp
  | (sp, w) :: ts, h => by
    obtain ⟨k1, _⟩ := h (sp, w) List.mem_cons_self
    have := flat_len ts fun p hp => h p (List.mem_cons_of_mem _ hp)
    have hpos : 0 < sp.length := List.length_pos_iff.mpr k1
    simp [flat]; omega

/-- split of a line by its blanks -/
theorem call_split {pa : Addr} {l wd : List Nat} {ts : List (List Nat × List Nat)} {t : Tok} {s : Shared} {Q : Value → Shared → Prop} (p : Pat s.heap pa codeS 1) (hsz : l.length ≤ sizeLine) (hl : l = wd ++ flat ts) (hok : TokOk ts) (hwd : ∀ c ∈ wd, Unicode.isSpace c = false)
    (hne : wd ≠ [] ∨ ts ≠ []) (h : ∀ s', Res s (.new (ofS ((chunks wd ts).1 ++ [(chunks wd ts).2]))) (.ref s.heap.objs.size) s' → Q (.ref s.heap.objs.size) s') (hn : (chunks wd ts).1.length + 1 ≤ sizeLine) :
    wpAny (model prog w) A (call (.builtin "re.Pattern.split") [.ref pa, .str (T l) t]) Q E s := by
  refine wpAny_call_entry slot_rsplit (typeIs_pat p) entry_rsplit ?_ (args_rsplit _ _)
  unfold «re.Pattern.split»
  show wpAny _ _ (reNamed "re.Pattern.split" "split" ["string", "maxsplit"] 1 [.str (T l) t] [] >>= _) _ _ s
  rw [named_split]
  refine wpAny_bind (wpAny_pure ?_)
  refine wpAny_bind (wpAny_pure ?_)
  refine wpAny_bind (wp_whole p ?_)
  have hfl := flat_len ts hok
  have hll : l.length = wd.length + (flat ts).length := by rw [hl]; simp
  show wpAny _ _ (forIn (List.range (2 * (T l).cps.size + 3)) ((#[], 0, 0, false, 0, false) : SpSt) (spBody (tgt pa l t)) >>= _) _ _ s
  refine wpAny_bind (sp_loop hsz _ ts [] wd #[] [] 0 _ s (by rw [hl]; simp) hok hwd hne .nil (by rw [List.length_range]; have : (T l).cps.size = l.length := T_len l; omega) ?_)
  intro out' tk last a b c hp hd
  show wpAny _ _ (do let x ← reSlice (T l).cps 0 last (T l).cps.size; ret (← newList (out'.push x).toList)) _ _ _
  refine wpAny_bind (slice_T hsz ?_)
  have hlast : (l.drop last).take ((T l).cps.size - last) = (chunks wd ts).2 := by
    rw [List.take_of_length_le (by have : (T l).cps.size = l.length := T_len l; simp; omega), hd]
  rw [hlast]
  have hp2 : Paired IsS (out'.push (.str (T (chunks wd ts).2) tk)).toList (ofS ((chunks wd ts).1 ++ [(chunks wd ts).2])) := by
    rw [Array.toList_push]
    have : ofS ((chunks wd ts).1 ++ [(chunks wd ts).2]) = ofS (chunks wd ts).1 ++ [S.str (T (chunks wd ts).2)] := by simp [ofS]
    rw [this]
    exact Pr.append (by simpa using hp) (.cons ⟨_, rfl⟩ .nil)
  refine wpAny_bind (wpAny_newList (wpAny_pure ⟨_, rfl, h _ ?_⟩) ?_)
  · exact new_list (s₁ := { s with toks := tk + 1 }) (kp_toks _ _) hp2
  · rw [Pr.len hp2]; simp [ofS]; omega
end
end Mine

end

section
open PySem PySem.W PyProof.Rows
open Builtin Builtin.Str Builtin.Re
set_option Elab.async false
set_option linter.unusedVariables false
namespace Mine
set_option maxRecDepth 100000

section
variable {prog : Program} {w : World} {h₀ : Heap} {n : Nat} {sc : Scope} {m : Mp} {R : Fl → Mp → Prop} {mg mb : Str → Option Value}

theorem pat_dict {h : Heap} {pa : Addr} {code : Array Nat} {g : Nat} (p : Pat h pa code g) : ∀ a, Value.ref pa = .ref a → ∃ ob, h.get? a = some ob ∧ ob.dict = none := by
  intro a e; cases e
  obtain ⟨ca, y, ty, f, o2, h1, _⟩ := p.here
  exact ⟨_, h1, rfl⟩

/-- a call of a pattern's method with one argument -/
theorem pat_call {A : Around} {env : Env} {s : Shared} {k : String} {p apos pos : Pos} {name : Str} {id : String} {pa : Addr} {code : Array Nat} {g : Nat} {e : PySem.Expr} {d : D} {Q : Value → Shared → Prop} {E : Value → Shared → Prop}
    (am : Amb mg mb h₀) (gl : Gl mg mb sc k (.ref pa)) (pt : Pat h₀ pa code g) (slot : Slot "re.Pattern" name id) (ty : typeOf (.builtin id) = pure (.type "method_descriptor"))
    (hs : env.scope = sc) (hr : Rm n A) (G : Good h₀ env m s) (h : Ev prog w h₀ n sc m e d) (hl : (apos.endLine == pos.line) = true) (hst : noStar e = true)
    (hq : ∀ v s', Res s d v s' → wpAny (model prog w) A (call (.builtin id) [.ref pa, v]) Q E s') :
    wpAny (model prog w) A (eval (.Call (.Attribute (.Name (Str.ofString k) p) name apos) [e] [] pos) env) Q E s := by
  have pt' := pt.keeps G.base
  refine Call_method1 rfl (starEach_cons hst) hl (gl_eval am hs G gl ?_)
  refine ⟨"re.Pattern", id, plain_Pattern, slot, ty, typeIs_pat pt', pat_dict pt', ?_⟩
  exact Calls.callWith_builtin rfl (Calls.evalArgs_plain (Calls.spliced_cons (wpF (h A env s hs hr G) fun v s' r => Calls.spliced_nil (hq v s' r))))

theorem ev_resplit {k : String} {p apos pos : Pos} {pa : Addr} {e : PySem.Expr} {l wd : List Nat} {ts : List (List Nat × List Nat)} (am : Amb mg mb h₀) (gl : Gl mg mb sc k (.ref pa)) (pt : Pat h₀ pa codeS 1)
    (h : Ev prog w h₀ n sc m e (.sc (.str (T l)))) (hl : l = wd ++ flat ts) (hok : TokOk ts) (hwd : ∀ c ∈ wd, Unicode.isSpace c = false) (hne : wd ≠ [] ∨ ts ≠ []) (hsz : l.length ≤ sizeLine) (hn : (chunks wd ts).1.length + 1 ≤ sizeLine)
    (hline : (apos.endLine == pos.line) = true := by rfl) (hst : noStar e = true := by rfl) :
    Ev prog w h₀ n sc m (.Call (.Attribute (.Name (Str.ofString k) p) "split" apos) [e] [] pos) (.new (ofS ((chunks wd ts).1 ++ [(chunks wd ts).2]))) := by
  intro A env s hs hr G
  refine pat_call am gl pt slot_rsplit type_rsplit hs hr G h hline hst fun v s' r => ?_
  obtain ⟨t, rfl⟩ := r.is
  have pt' := (pt.keeps G.base).keeps (kp_sub r.keeps)
  exact call_split pt' hsz hl hok hwd hne (fun s'' r' => r'.after r.keeps) hn

theorem ev_white {k : String} {p apos pos p2 p3 : Pos} {i : Nat} {pa : Addr} {e : PySem.Expr} {l : List Nat} (am : Amb mg mb h₀) (gl : Gl mg mb sc k (.ref pa)) (pt : Pat h₀ pa codeW 0)
    (h : Ev prog w h₀ n sc m e (.sc (.str (T l)))) (h10 : 10 ∉ l) (hne : (l.takeWhile Unicode.isSpace).length < l.length) (hsz : l.length ≤ sizeLine)
    (hline : (apos.endLine == pos.line) = true := by rfl) (hst : noStar e = true := by rfl) :
    Ev prog w h₀ n sc m (.Compare (.Call (.Attribute (.Name (Str.ofString k) p) "match" apos) [e] [] pos) [.IsNot] [.Constant .none i p2] p3) (.sc (.bool false)) := by
  intro A env s hs hr G
  refine wpAny_Compare1 ?_
  refine pat_call am gl pt slot_match type_match hs hr G h hline hst fun v s' r => ?_
  obtain ⟨t, rfl⟩ := r.is
  have pt' := (pt.keeps G.base).keeps (kp_sub r.keeps)
  refine call_matchW pt' h10 hne hsz ?_
  refine lit_none _ fun v tk hv => ?_
  have e1 : v = .none := by have := hv default; cases this; rfl
  subst e1
  exact isNot_none (.sc (kp_trans r.keeps (kp_toks _ _)) rfl)

theorem ev_indent {k : String} {p apos pos apos2 pos2 : Pos} {pa : Addr} {e : PySem.Expr} {l : List Nat} (am : Amb mg mb h₀) (gl : Gl mg mb sc k (.ref pa)) (pt : Pat h₀ pa codeI 1)
    (h : Ev prog w h₀ n sc m e (.sc (.str (T l)))) (hsz : l.length ≤ sizeLine)
    (hline : (apos.endLine == pos.line) = true := by rfl) (hst : noStar e = true := by rfl) (hline2 : (apos2.endLine == pos2.line) = true := by rfl) :
    Ev prog w h₀ n sc m (.Call (.Attribute (.Call (.Attribute (.Name (Str.ofString k) p) "match" apos) [e] [] pos) "group" apos2) [] [] pos2) (.sc (.str (T (l.takeWhile isInd)))) := by
  intro A env s hs hr G
  refine Call_method0 rfl hline2 ?_
  refine pat_call am gl pt slot_match type_match hs hr G h hline hst fun v s' r => ?_
  obtain ⟨t, rfl⟩ := r.is
  have pt' := (pt.keeps G.base).keeps (kp_sub r.keeps)
  refine call_matchI pt' hsz fun h' ma ta hk hm ht hf => ?_
  refine ⟨"re.Match", _, plain_Match, slot_group, type_group, ⟨_, hm, rfl⟩, fun a e => by cases e; exact ⟨_, hm, rfl⟩, ?_⟩
  refine Calls.callWith_builtin rfl (PySem.evalArgs_none ?_)
  refine call_group (s := { s' with heap := h' }) hm ht hsz ?_
  have e : l.take (l.takeWhile isInd).length = l.takeWhile isInd := by
    have := List.takeWhile_append_dropWhile (p := isInd) (l := l)
    conv => lhs; arg 2; rw [← this]
    rw [List.take_left' rfl]
  rw [e]
  exact .sc (kp_trans r.keeps ⟨h', _, rfl, hk⟩) ⟨_, rfl⟩
end
end Mine

end

section
open PySem PySem.W PyProof.Rows
set_option Elab.async false
namespace Mine
set_option maxRecDepth 100000 in
set_option maxHeartbeats 8000000 in
open_top hd for PySem.Challenge.rw_lg0017_01
end Mine

end

section
open PySem PySem.W PyProof.Rows
set_option Elab.async false
set_option linter.unusedVariables false
namespace Mine
set_option maxRecDepth 100000

theorem frag_get {P : Params} {h : Heap} (K : (hd.heap_39 P).In h) (a : Addr) (o : Obj) (e : (hd.heap_39 P).lookup a = some o) : h.get? a = some o := K a o e

theorem mg_look {P : Params} {h : Heap} {mg : Str → Option Value} (g : h.Ns mainGlobals mg) (K : (hd.heap_39 P).In h) {es : Array DictEntry} {n : Nat} {o : Obj} (e : (hd.heap_39 P).lookup 3 = some o) (ed : o.data = .dict es n) (x : Str) : mg x = nsFind es x := by
  obtain ⟨o', es', ep, ho, hd', hk, hm⟩ := g
  have := K 3 o e
  rw [show (3 : Addr) = mainGlobals from rfl, ho] at this
  cases this
  rw [ed] at hd'; cases hd'
  exact (hm x).symm

theorem t1 {P : Params} {h : Heap} {mg : Str → Option Value} (g : h.Ns mainGlobals mg) (K : (hd.heap_39 P).In h) : mg (Str.ofString "_twin_re_1") = some (.ref 36) := by
  rw [mg_look g K (by rfl) (by rfl)]
  kernel_rfl
theorem t2 {P : Params} {h : Heap} {mg : Str → Option Value} (g : h.Ns mainGlobals mg) (K : (hd.heap_39 P).In h) : mg (Str.ofString "_twin_re_2") = some (.ref 41) := by
  rw [mg_look g K (by rfl) (by rfl)]
  kernel_rfl
theorem t3 {P : Params} {h : Heap} {mg : Str → Option Value} (g : h.Ns mainGlobals mg) (K : (hd.heap_39 P).In h) : mg (Str.ofString "_twin_re_3") = some (.ref 46) := by
  rw [mg_look g K (by rfl) (by rfl)]
  kernel_rfl
theorem p1 {P : Params} {h : Heap} (K : (hd.heap_39 P).In h) : Pat h 36 codeS 1 := ⟨35, _, _, _, _, K 36 _ (by rfl), K 35 _ (by rfl), 0, by simp [codeVals, codeS]⟩
theorem p2 {P : Params} {h : Heap} (K : (hd.heap_39 P).In h) : Pat h 41 codeW 0 := ⟨40, _, _, _, _, K 41 _ (by rfl), K 40 _ (by rfl), 0, by simp [codeVals, codeW]⟩
theorem p3 {P : Params} {h : Heap} (K : (hd.heap_39 P).In h) : Pat h 46 codeI 1 := ⟨45, _, _, _, _, K 46 _ (by rfl), K 45 _ (by rfl), 0, by simp [codeVals, codeI]⟩

theorem one_of {vs : List Value} (h : vs.length = 1) : ∃ v, vs = [v] := by
  match vs, h with
  | [v], _ => exact ⟨v, rfl⟩
theorem two_of {vs : List Value} (h : vs.length = 2) : ∃ v u, vs = [v, u] := by
  match vs, h with
  | [v, u], _ => exact ⟨v, u, rfl⟩

section
variable {prog : Program} {w : World} {P : Params} {h₀ : Heap} {mg mb : Str → Option Value}

theorem fn_white (am : Amb mg mb h₀) (K : (hd.heap_39 P).In h₀) {l : List Nat} (h10 : 10 ∉ l) (hne : (l.takeWhile Unicode.isSpace).length < l.length) (hsz : l.length ≤ sizeLine) :
    Fn prog w h₀ 1 (.ref 60) [.sc (.str (T l))] (.sc (.bool false)) := by
  refine fn_def (names := ["line"]) am (K 60 _ (by rfl)) (by rfl) ⟨59, _, _, _, rfl, K 59 _ (by rfl), rfl, rfl⟩ rfl (by decide) (by simp [Param]) (fun vs hv => ?_) (fun x hx => ?_) ?_ trivial
  · obtain ⟨v, rfl⟩ := one_of hv; rfl
  · simp at hx; subst hx; exact .inl (by decide +kernel)
  · refine ex_one (ex_return (ev_white am ⟨by decide +kernel, .inl (t2 am.g K), by decide +kernel⟩ (p2 K) (ev_name (d := .sc (.str (T l))) rfl) h10 hne hsz) rfl)
theorem fn_indent (am : Amb mg mb h₀) (K : (hd.heap_39 P).In h₀) {l : List Nat} (hsz : l.length ≤ sizeLine) :
    Fn prog w h₀ 1 (.ref 67) [.sc (.str (T l))] (.sc (.str (T (l.takeWhile isInd)))) := by
  refine fn_def (names := ["line"]) am (K 67 _ (by rfl)) (by rfl) ⟨66, _, _, _, rfl, K 66 _ (by rfl), rfl, rfl⟩ rfl (by decide) (by simp [Param]) (fun vs hv => ?_) (fun x hx => ?_) ?_ trivial
  · obtain ⟨v, rfl⟩ := one_of hv; rfl
  · simp at hx; subst hx; exact .inl (by decide +kernel)
  · exact ex_one (ex_return (ev_indent am ⟨by decide +kernel, .inl (t3 am.g K), by decide +kernel⟩ (p3 K) (ev_name (d := .sc (.str (T l))) rfl) hsz) rfl)
end
end Mine

end

section
open PySem PySem.W PyProof.Rows
set_option Elab.async false
set_option linter.unusedVariables false
namespace Mine
set_option maxRecDepth 100000

/-! what reformat_paragraph computes -/
abbrev RSt := List (List Nat) × List Nat
def stepR (lim : Int) (i1 i2 : List Nat) (st : RSt) (it : List Nat × Bool) : RSt :=
  if it.1 = [] then st else
  let st' := if (lim < ((expL 0 (st.2 ++ it.1)).length : Int)) ∧ st.2 ≠ i1 then (st.1 ++ [rstripL st.2], i2) else st
  (st'.1, st'.2 ++ it.1 ++ [32] ++ if it.2 then [32] else [])
def citems : List Nat → List (List Nat × List Nat) → List (List Nat × Bool)
  | w, [] => [(w, false)]
  | w, (sp, w') :: r => (w, decide (sp ≠ [32])) :: citems w' r
def vlist (wd : List Nat) (ts : List (List Nat × List Nat)) : List (List Nat) := (chunks wd ts).1 ++ [(chunks wd ts).2]

theorem citems_len : ∀ (ts : List (List Nat × List Nat)) (w : List Nat), (citems w ts).length = ts.length + 1
  | [], w => rfl
  | (sp, w') :: r, w => by simp [citems, citems_len r w']
theorem vlist_cons (w sp w' : List Nat) (r : List (List Nat × List Nat)) : vlist w ((sp, w') :: r) = w :: sp :: vlist w' r := rfl
theorem vlist_len : ∀ (ts : List (List Nat × List Nat)) (w : List Nat), (vlist w ts).length = 2 * ts.length + 1
  | [], w => rfl
  | (sp, w') :: r, w => by rw [vlist_cons]; simp [vlist_len r w']; omega
/-- the i-th word and whether the blanks behind it are other than one -/
theorem vlist_at : ∀ (ts : List (List Nat × List Nat)) (w : List Nat) (i : Nat) (it : List Nat × Bool), (citems w ts)[i]? = some it →
    (vlist w ts)[2 * i]? = some it.1 ∧ (i < ts.length → ∃ sp, (vlist w ts)[2 * i + 1]? = some sp ∧ it.2 = decide (sp ≠ [32])) ∧ (¬ i < ts.length → it.2 = false)
  | [], w, 0, it, h => by simp [citems] at h; subst h; simp [vlist, chunks]
  | [], w, i + 1, it, h => by simp [citems] at h
  | (sp, w') :: r, w, 0, it, h => by
    simp [citems] at h; subst h
    rw [vlist_cons]
    refine ⟨rfl, fun _ => ⟨sp, rfl, by simp⟩, fun h => absurd (by simp) h⟩
  | (sp, w') :: r, w, i + 1, it, h => by
    simp only [citems, List.getElem?_cons_succ] at h
    obtain ⟨h1, h2, h3⟩ := vlist_at r w' i it h
    rw [vlist_cons]
    have e : 2 * (i + 1) = 2 * i + 1 + 1 := by omega
    rw [e]
    simp only [List.getElem?_cons_succ, List.length_cons]
    exact ⟨h1, fun h => h2 (by omega), fun h => h3 (by omega)⟩

def nth : List Stmt → Nat → Stmt
  | [], _ => .Pass default
  | x :: _, 0 => x
  | _ :: r, k + 1 => nth r k
def defBody : Stmt → List Stmt
  | .FunctionDef _ _ b _ _ _ _ _ _ _ => b
  | .While _ b _ _ => b
  | .For _ _ b _ _ => b
  | _ => []
def defScope : Stmt → Scope
  | .FunctionDef _ _ _ _ _ _ sc _ _ _ => sc
  | _ => { kind := .function, names := [], isGenerator := false, isCoroutine := false }
noncomputable def refDef : Stmt := nth PySem.Challenge.pw_lg0017_01.main.body 5
noncomputable def refBody : List Stmt := defBody refDef
noncomputable def refScope : Scope := defScope refDef
noncomputable def whileBody : List Stmt := defBody (nth refBody 9)
noncomputable def forBody : List Stmt := defBody (nth whileBody 1)

section
variable {prog : Program} {w : World} {P : Params} {h₀ : Heap} {mg mb : Str → Option Value}

def mRef (lines : List (List Nat)) (lim : Int) (i1 i2 : List Nat) (i : Nat) (st : RSt) : Mp :=
  [("new", .own (ofS st.1)), ("partial", .sc (.str (T st.2))), ("i", .sc (.int i)), ("lines", .own (ofS lines)), ("n", .sc (.int lines.length)), ("indent1", .sc (.str (T i1))), ("indent2", .sc (.str (T i2))), ("limit", .sc (.int lim))]
def mIn (lines : List (List Nat)) (lim : Int) (i1 i2 : List Nat) (i : Nat) (V : List (List Nat)) (st : RSt) : Mp := ("words", .own (ofS V)) :: mRef lines lim i1 i2 i st

theorem ofS_at {V : List (List Nat)} {k : Nat} {x : List Nat} (h : V[k]? = some x) : (ofS V)[k]? = some (S.str (T x)) := by simp [ofS, h]
theorem ofS_len (V : List (List Nat)) : (ofS V).length = V.length := by simp [ofS]

def glb (x : String) (v : Value) (mg mb : Str → Option Value) : Prop := mg (Str.ofString x) = some v ∨ (mg (Str.ofString x) = none ∧ mb (Str.ofString x) = some v)

theorem T_eq_iff {a b : List Nat} : T a = T b ↔ a = b := ⟨T_inj, fun h => by rw [h]⟩
theorem sp1 : Str.ofString " " = T [32] := by decide +kernel

theorem op_catT {a b : List Nat} (h : a.length + b.length ≤ sizeLine) : Op2 prog w .Add (.sc (.str (T a))) (.sc (.str (T b))) (.sc (.str (T (a ++ b)))) := by
  rw [← T_cat]; exact op_cat (by rw [T_len, T_len]; exact h)
theorem ev_sp {n : Nat} {sc : Scope} {m : Mp} {k : Nat} {pos : Pos} : Ev prog w h₀ n sc m (.Constant (.str (Str.ofString " ")) k pos) (.sc (.str (T [32]))) := by
  rw [← sp1]; exact ev_str

theorem turn {n : Nat} (am : Amb mg mb h₀) (K : (hd.heap_39 P).In h₀) (glen : glb "len" (.builtin "len") mg mb) {lines : List (List Nat)} {lim : Int} {i1 i2 : List Nat} {li : Nat} {wd : List Nat} {ts : List (List Nat × List Nat)} {st : RSt} {i : Nat} {it : List Nat × Bool}
    (hit : (citems wd ts)[i]? = some it) (hV : (vlist wd ts).length ≤ sizeLine) (hnew : st.1.length ≤ sizeLine) (hfit : 8 * (st.2.length + it.1.length) + 8 ≤ sizeLine) (hfit2 : 8 * (i2.length + it.1.length) + 8 ≤ sizeLine) :
    Ex prog w h₀ n refScope (("j", .sc (.int (0 + (i : Int) * 2))) :: mIn lines lim i1 i2 li (vlist wd ts) st) forBody
      fun f m' => (f = .next ∨ f = .cont) ∧ Less (mIn lines lim i1 i2 li (vlist wd ts) (stepR lim i1 i2 st it)) m' := by
  obtain ⟨hw, hb1, hb2⟩ := vlist_at ts wd i it hit
  have hsl : sizeLine = 16777216 := rfl
  have hi : i < ts.length + 1 := by
    rcases Nat.lt_or_ge i (ts.length + 1) with h | h
    · exact h
    · rw [List.getElem?_eq_none (by rw [citems_len]; exact h)] at hit; cases hit
  have hj : (0 + (i : Int) * 2).toNat = 2 * i := by omega
  have kw : lc refScope "word" := .inl (by decide +kernel)
  have kp : lc refScope "partial" := .inl (by decide +kernel)
  refine ex_step (ex_assign (k := "word") (ev_item (x := S.str (T it.1)) (ev_name (d := .own (ofS (vlist wd ts))) rfl) (ev_name (d := .sc (.int (0 + (i : Int) * 2))) rfl) rfl (by omega) (by rw [hj]; exact ofS_at hw) (by rw [ofS_len]; exact hV)) kw) ?_
  have gl : Gl mg mb refScope "len" (.builtin "len") := ⟨by decide +kernel, glen, by decide +kernel⟩
  have tw : Tv prog w (.sc (.str (T it.1))) (decide (it.1.length ≠ 0)) := by
    have := tv_str (prog := prog) (w := w) (x := T it.1) (by rw [T_len]; omega)
    rwa [T_len] at this
  by_cases h0 : it.1 = []
  · have ht : decide (it.1.length ≠ 0) = false := by rw [h0]; rfl
    rw [ht] at tw
    have hst : stepR lim i1 i2 st it = st := by unfold stepR; rw [if_pos h0]
    rw [hst]
    refine ex_cons (R₁ := fun f m' => f = .cont ∧ m' = _) (ex_if_tt (tr_not (b := false) (tr_plain (ev_name (d := .sc (.str (T it.1))) rfl) tw)) (ex_one (ex_continue ⟨rfl, rfl⟩))) (fun m' h => by cases h.1) (fun f m' _ h => ⟨.inr h.1, ?_⟩)
    rw [h.2]
    refine less_of fun p hp => ?_
    simp only [mIn, mRef, List.mem_cons, List.not_mem_nil, or_false] at hp
    rcases hp with rfl | rfl | rfl | rfl | rfl | rfl | rfl | rfl | rfl <;> rfl
  · have hl0 : it.1.length ≠ 0 := fun e => h0 (List.length_eq_zero_iff.mp e)
    have ht : decide (it.1.length ≠ 0) = true := by simpa using hl0
    rw [ht] at tw
    refine ex_step (ex_if_ff (tr_not (b := true) (tr_plain (ev_name (d := .sc (.str (T it.1))) rfl) tw)) (ex_nil ⟨rfl, rfl⟩)) ?_
    have hex := expL_len (st.2 ++ it.1) 0
    have hlenA : (st.2 ++ it.1).length = st.2.length + it.1.length := by simp
    refine ex_cons (R₁ := fun f m' => f = .next ∧ Less (("word", .sc (.str (T it.1))) :: ("j", .sc (.int (0 + (i : Int) * 2))) :: mIn lines lim i1 i2 li (vlist wd ts) (if (lim < ((expL 0 (st.2 ++ it.1)).length : Int)) ∧ st.2 ≠ i1 then (st.1 ++ [rstripL st.2], i2) else st)) m')
      (ex_if (b := decide (lim < ((T (expL 0 (st.2 ++ it.1))).length : Int)) && decide (T st.2 ≠ T i1))
        (tr_and2 (tr_cmp (ev_call am gl (fn_len_str (x := T (expL 0 (st.2 ++ it.1))) (by rw [T_len]; omega)) ⟨ev_me0 (ev_bin (ev_name (d := .sc (.str (T st.2))) rfl) (ev_name (d := .sc (.str (T it.1))) rfl) (op_catT (by omega))) (me_expand (by rw [hlenA]; omega)), trivial⟩) (ev_name (d := .sc (.int lim)) rfl) cm_gt)
          (fun _ => tr_cmp (ev_name (d := .sc (.str (T st.2))) rfl) (ev_name (d := .sc (.str (T i1))) rfl) cm_sne)) (fun hb => ?_) (fun hb => ?_)) ?_ ?_
    · rw [Bool.and_eq_true, decide_eq_true_eq, decide_eq_true_eq, T_len] at hb
      have hc : (lim < ((expL 0 (st.2 ++ it.1)).length : Int)) ∧ st.2 ≠ i1 := ⟨hb.1, fun e => hb.2 (by rw [e])⟩
      rw [if_pos hc]
      refine ex_step (ex_append (k := "new") (l := ofS st.1) (x := .str (T (rstripL st.2))) rfl (ev_me0 (ev_name (d := .sc (.str (T st.2))) rfl) (me_rstripL (by omega))) (by rw [ofS_len]; exact hnew)) ?_
      refine ex_mono (ex_one (ex_assign (k := "partial") (ev_name (d := .sc (.str (T i2))) rfl) kp)) fun f m' h => ⟨h.1, ?_⟩
      rw [h.2]
      have e : ofS st.1 ++ [S.str (T (rstripL st.2))] = ofS (st.1 ++ [rstripL st.2]) := by simp [ofS]
      rw [e]
      refine less_of fun p hp => ?_
      simp only [mIn, mRef, List.mem_cons, List.not_mem_nil, or_false] at hp
      rcases hp with rfl | rfl | rfl | rfl | rfl | rfl | rfl | rfl | rfl | rfl | rfl <;> rfl
    · have hc : ¬ ((lim < ((expL 0 (st.2 ++ it.1)).length : Int)) ∧ st.2 ≠ i1) := by
        rintro ⟨h1, h2⟩
        rw [Bool.and_eq_false_iff, decide_eq_false_iff_not, decide_eq_false_iff_not, T_len] at hb
        rcases hb with hb | hb
        · exact hb h1
        · exact hb fun e => h2 (T_inj e)
      rw [if_neg hc]
      exact ex_nil ⟨rfl, fun k d e => e⟩
    · intro m' h
      refine ex_less h.2 ?_
      have hst : ∃ st', st' = (if (lim < ((expL 0 (st.2 ++ it.1)).length : Int)) ∧ st.2 ≠ i1 then (st.1 ++ [rstripL st.2], i2) else st) ∧ 8 * (st'.2.length + it.1.length) + 8 ≤ sizeLine ∧
          stepR lim i1 i2 st it = (st'.1, st'.2 ++ it.1 ++ [32] ++ if it.2 then [32] else []) := by
        refine ⟨_, rfl, ?_, ?_⟩
        · split
          · exact hfit2
          · exact hfit
        · unfold stepR; rw [if_neg h0]
      obtain ⟨st', e1, hf', e2⟩ := hst
      rw [← e1, e2]
      refine ex_step (ex_assign (k := "partial") (ev_bin (ev_bin (ev_name (d := .sc (.str (T st'.2))) rfl) (ev_name (d := .sc (.str (T it.1))) rfl) (op_catT (by omega))) ev_sp (op_catT (by simp; omega))) kp) ?_
      have kj : (0 + (i : Int) * 2) + 1 = ((2 * i + 1 : Nat) : Int) := by omega
      have hVl := vlist_len ts wd
      have hfin : ∀ (x : List Nat) (m' : Mp), lk m' "partial" = some (.sc (.str (T x))) → (∀ k, k ≠ "partial" → lk m' k = lk (("word", .sc (.str (T it.1))) :: ("j", .sc (.int (0 + (i : Int) * 2))) :: mIn lines lim i1 i2 li (vlist wd ts) st') k) →
          Less (mIn lines lim i1 i2 li (vlist wd ts) (st'.1, x)) m' := by
        intro x m' h1 h2
        refine less_of fun p hp => ?_
        simp only [mIn, mRef, List.mem_cons, List.not_mem_nil, or_false] at hp
        rcases hp with rfl | rfl | rfl | rfl | rfl | rfl | rfl | rfl | rfl
        case inr.inr.inl => exact h1
        all_goals (rw [h2 _ (by show _ ≠ _; simp)]; rfl)
      have hpart : ∀ k, k ≠ "partial" → lk (("partial", D.sc (.str (T (st'.2 ++ it.1 ++ [32])))) :: ("word", .sc (.str (T it.1))) :: ("j", .sc (.int (0 + (i : Int) * 2))) :: mIn lines lim i1 i2 li (vlist wd ts) st') k = lk (("word", .sc (.str (T it.1))) :: ("j", .sc (.int (0 + (i : Int) * 2))) :: mIn lines lim i1 i2 li (vlist wd ts) st') k :=
        fun k hk => lk_other (Ne.symm hk) _ _
      by_cases hlast : i < ts.length
      · obtain ⟨sp, hsp, hsp2⟩ := hb1 hlast
        refine ex_one (ex_if (b := decide ((0 + (i : Int) * 2) + 1 < ((ofS (vlist wd ts)).length : Int)) && decide (T sp ≠ T [32]))
          (tr_and2 (tr_cmp (ev_bin (ev_name (d := .sc (.int (0 + (i : Int) * 2))) rfl) ev_int op_add) (ev_call am gl (fn_len_list rfl (by rw [ofS_len]; exact hV)) ⟨ev_name (d := .own (ofS (vlist wd ts))) rfl, trivial⟩) cm_lt)
            (fun _ => tr_cmp (ev_item (x := S.str (T sp)) (ev_name (d := .own (ofS (vlist wd ts))) rfl) (ev_bin (ev_name (d := .sc (.int (0 + (i : Int) * 2))) rfl) ev_int op_add) rfl (by omega) (by rw [kj]; exact ofS_at hsp) (by rw [ofS_len]; exact hV)) ev_sp cm_sne)) (fun hb => ?_) (fun hb => ?_))
        · rw [Bool.and_eq_true, decide_eq_true_eq, decide_eq_true_eq] at hb
          have h2 : it.2 = true := by rw [hsp2, decide_eq_true_eq]; exact fun e => hb.2 (by rw [e])
          rw [h2]
          refine ex_mono (ex_one (ex_assign (k := "partial") (ev_bin (ev_name (d := .sc (.str (T (st'.2 ++ it.1 ++ [32])))) rfl) ev_sp (op_catT (by simp; omega))) kp)) fun f m' h => ⟨.inl h.1, ?_⟩
          rw [h.2]
          exact hfin _ _ rfl fun k hk => (lk_other (Ne.symm hk) _ _).trans (hpart k hk)
        · have h2 : it.2 = false := by
            rw [hsp2, decide_eq_false_iff_not]
            intro hne
            rw [Bool.and_eq_false_iff, decide_eq_false_iff_not, decide_eq_false_iff_not, ofS_len, hVl] at hb
            rcases hb with hb | hb
            · exact hb (by omega)
            · exact hb fun e => hne (T_inj e)
          rw [h2]
          refine ex_nil ⟨.inl rfl, hfin _ _ ?_ hpart⟩
          simp only [Bool.false_eq_true, if_false, List.append_nil]; rfl
      · have h2 := hb2 hlast
        rw [h2]
        refine ex_one (ex_if_ff (tr_and_ff ?_) (ex_nil ⟨.inl rfl, hfin _ _ ?_ hpart⟩))
        · have hf : decide ((0 + (i : Int) * 2) + 1 < ((ofS (vlist wd ts)).length : Int)) = false := by rw [decide_eq_false_iff_not, ofS_len, hVl]; omega
          rw [← hf]
          exact tr_cmp (ev_bin (ev_name (d := .sc (.int (0 + (i : Int) * 2))) rfl) ev_int op_add) (ev_call am gl (fn_len_list rfl (by rw [ofS_len]; exact hV)) ⟨ev_name (d := .own (ofS (vlist wd ts))) rfl, trivial⟩) cm_lt
        · simp only [Bool.false_eq_true, if_false, List.append_nil]; rfl
    · intro f m' hne h; exact absurd h.1 hne
end
end Mine

end

section
open PySem PySem.W PyProof.Rows
set_option Elab.async false
set_option linter.unusedVariables false
namespace Mine
set_option maxRecDepth 100000

/-! sizes -/
def phi (st : RSt) : Nat := (st.1.map List.length).sum + st.1.length + st.2.length
def cost (k : Nat) (its : List (List Nat × Bool)) : Nat := (its.map fun it => it.1.length + k + 4).sum
theorem cost_nil (k : Nat) : cost k [] = 0 := rfl
theorem cost_cons (k : Nat) (it : List Nat × Bool) (r : List (List Nat × Bool)) : cost k (it :: r) = it.1.length + k + 4 + cost k r := by simp [cost]
theorem cost_append (k : Nat) (a b : List (List Nat × Bool)) : cost k (a ++ b) = cost k a + cost k b := by simp [cost]
theorem rstripL_len (l : List Nat) : (rstripL l).length ≤ l.length := by
  unfold rstripL
  rw [List.length_reverse]
  exact Nat.le_trans (List.dropWhile_sublist _).length_le (by simp)
theorem phi_step (lim : Int) (i1 i2 : List Nat) (st : RSt) (it : List Nat × Bool) : phi (stepR lim i1 i2 st it) ≤ phi st + (it.1.length + i2.length + 4) := by
  unfold stepR
  split
  · omega
  · have := rstripL_len st.2
    dsimp only
    split <;> (unfold phi; simp; split <;> simp <;> omega)
theorem phi_fold (lim : Int) (i1 i2 : List Nat) : ∀ (its : List (List Nat × Bool)) (st : RSt), phi (its.foldl (stepR lim i1 i2) st) ≤ phi st + cost i2.length its
  | [], st => by simp [cost]
  | it :: r, st => by
    rw [List.foldl_cons, cost_cons]
    have h1 := phi_fold lim i1 i2 r (stepR lim i1 i2 st it)
    have h2 := phi_step lim i1 i2 st it
    omega
theorem cost_len (k : Nat) : ∀ its : List (List Nat × Bool), 4 * its.length ≤ cost k its
  | [] => by simp
  | it :: r => by rw [cost_cons, List.length_cons]; have := cost_len k r; omega
theorem cost_at {k : Nat} {its : List (List Nat × Bool)} {i : Nat} {it : List Nat × Bool} (h : its[i]? = some it) : cost k (its.take i) + (it.1.length + k + 4) ≤ cost k its := by
  have hlt : i < its.length := by
    rcases Nat.lt_or_ge i its.length with h' | h'
    · exact h'
    · rw [List.getElem?_eq_none h'] at h; cases h
  have e : its = its.take i ++ it :: its.drop (i + 1) := by
    have h1 := List.take_append_drop i its
    rw [List.drop_eq_getElem_cons hlt] at h1
    rw [List.getElem?_eq_getElem hlt] at h
    cases h; exact h1.symm
  conv => rhs; rw [e]
  rw [cost_append, cost_cons]; omega
theorem take_succ_fold {α β : Type} {f : β → α → β} {l : List α} {i : Nat} {x : α} {b : β} (h : l[i]? = some x) : (l.take (i + 1)).foldl f b = f ((l.take i).foldl f b) x := by
  rw [List.take_add_one, h, List.foldl_append]; rfl

theorem joinOk_of {sep : List Nat} {ls : List (List Nat)} (h : (ls.map List.length).sum + ls.length * sep.length ≤ sizeLine) : JoinOk (T sep) (ls.map T) = true := by
  have key : ∀ (ls : List (List Nat)) (a : Nat), (ls.map T).foldl (fun x y => x + y.length + (T sep).length) a = a + (ls.map List.length).sum + ls.length * sep.length := by
    intro ls
    induction ls with
    | nil => intro a; simp
    | cons x r ih =>
      intro a
      rw [List.map_cons, List.foldl_cons, ih, T_len, T_len]
      simp [Nat.add_mul]; omega
  unfold JoinOk
  rw [List.foldl_toArray, key]
  unfold Builtin.Str.tooLong
  simp; omega

/-! rows -/
abbrev Rw := List Nat × List (List Nat × List Nat)
def lineOf (r : Rw) : List Nat := r.1 ++ flat r.2
structure RowOk (r : Rw) : Prop where
  tok : TokOk r.2
  wd : ∀ c ∈ r.1, Unicode.isSpace c = false
  some : r.1 ≠ [] ∨ r.2 ≠ []
  nl : 10 ∉ lineOf r
def rowItems (r : Rw) : List (List Nat × Bool) := citems r.1 r.2
def allItems (rows : List Rw) : List (List Nat × Bool) := (rows.map rowItems).flatten
theorem row_word {r : Rw} (h : RowOk r) : ((lineOf r).takeWhile Unicode.isSpace).length < (lineOf r).length := by
  have key : ∀ (l : List Nat) (c : Nat), c ∈ l → Unicode.isSpace c = false → (l.takeWhile Unicode.isSpace).length < l.length := by
    intro l
    induction l with
    | nil => intro c hc; cases hc
    | cons x l ih =>
      intro c hc hs
      by_cases hx : Unicode.isSpace x = true
      · rw [List.takeWhile_cons, if_pos hx, List.length_cons, List.length_cons]
        rcases List.mem_cons.mp hc with rfl | hc
        · rw [hx] at hs; cases hs
        · have := ih c hc hs; omega
      · rw [List.takeWhile_cons, if_neg hx]; simp
  obtain ⟨wd, ts⟩ := r
  rcases h.some with h1 | h1
  · cases wd with
    | nil => exact absurd rfl h1
    | cons c wd => exact key _ c (by simp [lineOf]) (h.wd c (by simp))
  · cases ts with
    | nil => exact absurd rfl h1
    | cons t ts =>
      obtain ⟨sp, w'⟩ := t
      obtain ⟨_, _, q3, q4⟩ := h.tok _ List.mem_cons_self
      cases w' with
      | nil => exact absurd rfl q3
      | cons c w' => exact key _ c (by simp [lineOf, flat]) (q4 c (by simp))

def ind2 (i1 : List Nat) : List Rw → List Nat
  | [] => i1
  | r :: _ => (lineOf r).takeWhile isInd
def refSt (lim : Int) (i1 i2 : List Nat) (rows : List Rw) : RSt := (allItems rows).foldl (stepR lim i1 i2) ([], i1)
def refOut (lim : Int) (i1 i2 : List Nat) (rows : List Rw) : List Nat := joinL [10] ((refSt lim i1 i2 rows).1 ++ [rstripL (refSt lim i1 i2 rows).2])

section
variable {prog : Program} {w : World} {P : Params} {h₀ : Heap} {mg mb : Str → Option Value} {n : Nat}

theorem Fn.le {n' : Nat} {fv : Value} {ds : List D} {d : D} (f : Fn prog w h₀ n' fv ds d) (h : n' ≤ n) : Fn prog w h₀ n fv ds d := ⟨f.ok, fun A s vs hr => f.run A s vs (hr.le h)⟩
theorem tr_less {sc : Scope} {m m' : Mp} {e : PySem.Expr} {b : Bool} (hl : Less m' m) (h : Tr prog w h₀ n sc m' e b) : Tr prog w h₀ n sc m e b :=
  fun A env s hs hr G => h A env s hs hr ⟨G.kind, G.gl, G.bl, G.base, fun k d e => G.vars k d (hl k d e)⟩
theorem ev_less {sc : Scope} {m m' : Mp} {e : PySem.Expr} {d : D} (hl : Less m' m) (h : Ev prog w h₀ n sc m' e d) : Ev prog w h₀ n sc m e d :=
  fun A env s hs hr G => h A env s hs hr ⟨G.kind, G.gl, G.bl, G.base, fun k d e => G.vars k d (hl k d e)⟩
theorem less_refl (m : Mp) : Less m m := fun _ _ e => e
theorem less_trans {a b c : Mp} (h : Less a b) (h' : Less b c) : Less a c := fun k d e => h' k d (h k d e)
theorem less_tail {k : String} {d : D} {m m' : Mp} (h : Less m m') : Less ((k, d) :: m) ((k, d) :: m') := by
  intro k' d' e
  rw [lk_cons] at e ⊢
  split
  · rename_i hk; rw [if_pos hk] at e; exact e
  · rename_i hk; rw [if_neg hk] at e; exact h k' d' e

/-- a whole line -/
theorem lineTurn (am : Amb mg mb h₀) (K : (hd.heap_39 P).In h₀) (glen : glb "len" (.builtin "len") mg mb) (grange : glb "range" (.type "range") mg mb) {lines : List (List Nat)} {lim : Int} {i1 i2 : List Nat} {li : Nat} {r : Rw} {st : RSt}
    (hr : RowOk r) (hli : lines[li]? = some (lineOf r)) (hsz : 8 * (phi st + cost i2.length (rowItems r)) + 64 ≤ sizeLine) (hln : lines.length ≤ sizeLine) (hll : (lineOf r).length ≤ sizeLine) :
    Ex prog w h₀ n refScope (mRef lines lim i1 i2 li st) whileBody
      fun f m' => f = .next ∧ Less (mRef lines lim i1 i2 (li + 1) ((rowItems r).foldl (stepR lim i1 i2) st)) m' := by
  obtain ⟨wd, ts⟩ := r
  have hsl : sizeLine = 16777216 := rfl
  have hcl := citems_len ts wd
  have hcl2 := cost_len i2.length (rowItems (wd, ts))
  have hci : (rowItems (wd, ts)).length = ts.length + 1 := hcl
  have hVl := vlist_len ts wd
  have hV : (vlist wd ts).length ≤ sizeLine := by omega
  have kwords : lc refScope "words" := .inl (by decide +kernel)
  have kj : lc refScope "j" := .inl (by decide +kernel)
  have ki : lc refScope "i" := .inl (by decide +kernel)
  have gl : Gl mg mb refScope "len" (.builtin "len") := ⟨by decide +kernel, glen, by decide +kernel⟩
  have gr : Gl mg mb refScope "range" (.type "range") := ⟨by decide +kernel, grange, by decide +kernel⟩
  refine ex_step (ex_assign (k := "words") (d := .new (ofS (vlist wd ts))) (ev_resplit am ⟨by decide +kernel, .inl (t1 am.g K), by decide +kernel⟩ (p1 K)
    (ev_item (x := S.str (T (lineOf (wd, ts)))) (ev_name (d := .own (ofS lines)) rfl) (ev_name (d := .sc (.int (li : Int))) rfl) rfl (by omega) (by rw [Int.toNat_natCast]; exact ofS_at hli) (by rw [ofS_len]; exact hln)) rfl hr.tok hr.wd hr.some hll
    (by have : (chunks wd ts).1.length + 1 = (vlist wd ts).length := by simp [vlist]
        omega)) kwords) ?_
  refine ex_step (m₁ := mIn lines lim i1 i2 li (vlist wd ts) ((rowItems (wd, ts)).foldl (stepR lim i1 i2) st)) (ex_for (x := "j") (fun i mi => mi = mIn lines lim i1 i2 li (vlist wd ts) (((rowItems (wd, ts)).take i).foldl (stepR lim i1 i2) st))
    (it_range (ev_range_two (b := (ofS (vlist wd ts)).length) am gr ev_int (ev_call am gl (fn_len_list rfl (by rw [ofS_len]; exact hV)) ⟨ev_name (d := .own (ofS (vlist wd ts))) rfl, trivial⟩) ev_int (by rw [ofS_len]; exact hV))) kj ?_ ?_ rfl) ?_
  · intro i y mi hy hmi
    subst hmi
    have hcnt : ((ofS (vlist wd ts)).length + 1) / 2 = ts.length + 1 := by rw [ofS_len, hVl]; omega
    rw [hcnt] at hy
    have hi : i < ts.length + 1 := by
      rcases Nat.lt_or_ge i (ts.length + 1) with h | h
      · exact h
      · rw [List.getElem?_eq_none (by simp [rng]; exact h)] at hy; cases hy
    have hy' : y = S.int (0 + (i : Int) * 2) := by
      simp [rng, hi] at hy; rw [← hy]; simp
    subst hy'
    have hit : (rowItems (wd, ts))[i]? = some ((rowItems (wd, ts))[i]'(by rw [hci]; exact hi)) := List.getElem?_eq_getElem _
    have hc := cost_at (k := i2.length) hit
    have hp := phi_fold lim i1 i2 ((rowItems (wd, ts)).take i) st
    generalize (rowItems (wd, ts))[i]'(by rw [hci]; exact hi) = it at *
    have hp1 : (((rowItems (wd, ts)).take i).foldl (stepR lim i1 i2) st).1.length ≤ phi (((rowItems (wd, ts)).take i).foldl (stepR lim i1 i2) st) := by unfold phi; omega
    have hp2 : (((rowItems (wd, ts)).take i).foldl (stepR lim i1 i2) st).2.length ≤ phi (((rowItems (wd, ts)).take i).foldl (stepR lim i1 i2) st) := by unfold phi; omega
    refine ex_mono (turn am K glen hit hV (by omega) (by omega) (by omega)) fun f m' h => .inl ⟨h.1, _, rfl, ?_⟩
    rw [take_succ_fold hit]; exact h.2
  · intro mi hmi
    subst hmi
    have hcnt : (rng 0 2 (((ofS (vlist wd ts)).length + 1) / 2)).length = (rowItems (wd, ts)).length := by rw [hci, ofS_len, hVl]; simp [rng]; omega
    rw [hcnt, List.take_length]
    exact ⟨rfl, rfl⟩
  · refine ex_mono (ex_one (ex_assign (k := "i") (ev_bin (ev_name (d := .sc (.int (li : Int))) rfl) ev_int op_add) ki)) fun f m' h => ⟨h.1, ?_⟩
    rw [h.2]
    refine less_of fun p hp => ?_
    simp only [mRef, List.mem_cons, List.not_mem_nil, or_false] at hp
    rcases hp with rfl | rfl | rfl | rfl | rfl | rfl | rfl | rfl <;> rfl
end
end Mine

end

section
open PySem PySem.W PyProof.Rows
set_option Elab.async false
set_option linter.unusedVariables false
namespace Mine
set_option maxRecDepth 100000
section
variable {prog : Program} {w : World} {P : Params} {h₀ : Heap} {mg mb : Str → Option Value} {n : Nat}

theorem gw {P : Params} {h : Heap} {mg : Str → Option Value} (g : h.Ns mainGlobals mg) (K : (hd.heap_39 P).In h) : mg (Str.ofString "is_all_white") = some (.ref 60) := by
  rw [mg_look g K (by rfl) (by rfl)]
  kernel_rfl
theorem gi {P : Params} {h : Heap} {mg : Str → Option Value} (g : h.Ns mainGlobals mg) (K : (hd.heap_39 P).In h) : mg (Str.ofString "get_indent") = some (.ref 67) := by
  rw [mg_look g K (by rfl) (by rfl)]
  kernel_rfl

theorem nl1 : Str.ofString "\n" = T [10] := by decide +kernel
theorem ev_nl {n : Nat} {sc : Scope} {m : Mp} {k : Nat} {pos : Pos} : Ev prog w h₀ n sc m (.Constant (.str (Str.ofString "\n")) k pos) (.sc (.str (T [10]))) := by
  rw [← nl1]; exact ev_str

theorem allItems_snoc (rows : List Rw) (r : Rw) : allItems (rows ++ [r]) = allItems rows ++ rowItems r := by simp [allItems]
theorem cost_rows {k : Nat} {rows : List Rw} {i : Nat} {r : Rw} (h : rows[i]? = some r) : cost k (allItems (rows.take i)) + cost k (rowItems r) ≤ cost k (allItems rows) := by
  have hlt : i < rows.length := by
    rcases Nat.lt_or_ge i rows.length with h' | h'
    · exact h'
    · rw [List.getElem?_eq_none h'] at h; cases h
  have e : rows = rows.take i ++ r :: rows.drop (i + 1) := by
    have h1 := List.take_append_drop i rows
    rw [List.drop_eq_getElem_cons hlt] at h1
    rw [List.getElem?_eq_getElem hlt] at h
    cases h; exact h1.symm
  conv => rhs; rw [e]
  simp [allItems, cost_append]

/-- the loop over the lines -/
theorem loopR (am : Amb mg mb h₀) (K : (hd.heap_39 P).In h₀) (glen : glb "len" (.builtin "len") mg mb) (grange : glb "range" (.type "range") mg mb) {lines : List (List Nat)} {lim : Int} {i1 i2 : List Nat} {rows : List Rw}
    (hrows : ∀ r ∈ rows, RowOk r) (hlines : lines = rows.map lineOf) (hsz : 8 * (i1.length + cost i2.length (allItems rows)) + 64 ≤ sizeLine) (hln : lines.length ≤ sizeLine) (hll : ∀ r ∈ rows, (lineOf r).length ≤ sizeLine) :
    Ex1 prog w h₀ (n + 1) refScope (mRef lines lim i1 i2 0 ([], i1)) (nth refBody 9)
      fun f m' => f = .next ∧ Less (mRef lines lim i1 i2 rows.length (refSt lim i1 i2 rows)) m' := by
  have hsl : sizeLine = 16777216 := rfl
  have hnl : lines.length = rows.length := by rw [hlines]; simp
  have kw : Gl mg mb refScope "is_all_white" (.ref 60) := ⟨by decide +kernel, .inl (gw am.g K), by decide +kernel⟩
  refine ex_while (I := fun k m₁ => ∃ i, k = rows.length - i ∧ i ≤ rows.length ∧ Less (mRef lines lim i1 i2 i ((allItems (rows.take i)).foldl (stepR lim i1 i2) ([], i1))) m₁) (fun k m₁ hI => ?_) rows.length ⟨0, by omega, by omega, by simpa [allItems] using less_refl _⟩
  obtain ⟨i, rfl, hi, hless⟩ := hI
  by_cases hlt : i < rows.length
  · obtain ⟨r, hr⟩ : ∃ r, rows[i]? = some r := ⟨_, List.getElem?_eq_getElem hlt⟩
    have hmem : r ∈ rows := List.mem_of_getElem? hr
    have hli : lines[i]? = some (lineOf r) := by rw [hlines]; simp [hr]
    have ok := hrows r hmem
    refine ⟨true, tr_less hless ?_, fun _ => ex_less hless ?_, fun h => by cases h⟩
    · have ht : decide ((i : Int) < (lines.length : Int)) = true := by rw [decide_eq_true_eq]; omega
      refine tr_and_tt (ht ▸ tr_cmp (ev_name (d := .sc (.int (i : Int))) rfl) (ev_name (d := .sc (.int (lines.length : Int))) rfl) cm_lt) (tr_and_tt ?_ tr_and_nil)
      exact tr_not (b := false) (tr_plain (ev_call am kw ((fn_white am K ok.nl (row_word ok) (hll r hmem)).le (by omega)) ⟨ev_item (x := S.str (T (lineOf r))) (ev_name (d := .own (ofS lines)) rfl) (ev_name (d := .sc (.int (i : Int))) rfl) rfl (by omega) (by rw [Int.toNat_natCast]; exact ofS_at hli) (by rw [ofS_len]; exact hln), trivial⟩) tv_bool)
    · have hc := cost_rows (k := i2.length) hr
      have hp := phi_fold lim i1 i2 (allItems (rows.take i)) ([], i1)
      have hp0 : phi ([], i1) = i1.length := by simp [phi]
      refine ex_mono (lineTurn am K glen grange ok hli (by omega) hln (hll r hmem)) fun f m' h => .inl ⟨.inl h.1, rows.length - (i + 1), by omega, i + 1, rfl, hlt, ?_⟩
      have e : rows.take (i + 1) = rows.take i ++ [r] := by rw [List.take_add_one, hr]; rfl
      rw [e, allItems_snoc, List.foldl_append]
      exact h.2
  · have hin : i = rows.length := by omega
    subst hin
    refine ⟨false, tr_less hless ?_, fun h => (by cases h), fun _ => ⟨rfl, ?_⟩⟩
    · have ht : decide ((rows.length : Int) < (lines.length : Int)) = false := by rw [decide_eq_false_iff_not]; omega
      exact tr_and_ff (ht ▸ tr_cmp (ev_name (d := .sc (.int (rows.length : Int))) rfl) (ev_name (d := .sc (.int (lines.length : Int))) rfl) cm_lt)
    · rw [List.take_length] at hless; exact hless

theorem cut_to0 (l : List S) : cut l none (some 0) = [] := by
  unfold cut; simp [clipAt]; left; omega
theorem cut_from (l : List S) : cut l (some (l.length : Int)) none = [] := by
  unfold cut; simp [clipAt]; right; omega

theorem fn_ref (am : Amb mg mb h₀) (K : (hd.heap_39 P).In h₀) (glen : glb "len" (.builtin "len") mg mb) (grange : glb "range" (.type "range") mg mb) {l : List Nat} {lim : Int} {r0 : Rw} {rs : List Rw}
    (hrows : ∀ r ∈ r0 :: rs, RowOk r) (hl : splitL l = (r0 :: rs).map lineOf) (hsz : 8 * (((lineOf r0).takeWhile isInd).length + cost (ind2 ((lineOf r0).takeWhile isInd) rs).length (allItems (r0 :: rs))) + 64 ≤ sizeLine) (hll : l.length < sizeLine) (hlr : ∀ r ∈ r0 :: rs, (lineOf r).length ≤ sizeLine) :
    Fn prog w h₀ 2 (.ref 53) [.sc (.str (T l)), .sc (.int lim)] (.sc (.str (T (refOut lim ((lineOf r0).takeWhile isInd) (ind2 ((lineOf r0).takeWhile isInd) rs) (r0 :: rs))))) := by
  refine fn_def (names := ["data", "limit"]) am (K 53 _ (by rfl)) (by rfl) ⟨52, _, _, _, rfl, K 52 _ (by rfl), rfl, rfl⟩ rfl (by decide) (by simp [Param]) (fun vs hv => ?_) (fun x hx => ?_) ?_ trivial
  · obtain ⟨v, u, rfl⟩ := two_of hv; rfl
  · simp at hx; rcases hx with rfl | rfl <;> exact .inl (by decide +kernel)
  · have hsl : sizeLine = 16777216 := rfl
    generalize hi1 : (lineOf r0).takeWhile isInd = i1 at *
    generalize hi2 : ind2 i1 rs = i2 at *
    generalize hlines : (r0 :: rs).map lineOf = lines at *
    have hlen : lines.length = rs.length + 1 := by rw [← hlines]; simp
    have hc := cost_len i2.length (allItems (r0 :: rs))
    have hln : lines.length ≤ sizeLine := by have := splitL_len l; rw [hl] at this; omega
    have gl : Gl mg mb refScope "len" (.builtin "len") := ⟨by decide +kernel, glen, by decide +kernel⟩
    have kw : Gl mg mb refScope "is_all_white" (.ref 60) := ⟨by decide +kernel, .inl (gw am.g K), by decide +kernel⟩
    have ki : Gl mg mb refScope "get_indent" (.ref 67) := ⟨by decide +kernel, .inl (gi am.g K), by decide +kernel⟩
    have klines : lc refScope "lines" := .inl (by decide +kernel)
    have kki : lc refScope "i" := .inl (by decide +kernel)
    have kkn : lc refScope "n" := .inl (by decide +kernel)
    have k1 : lc refScope "indent1" := .inl (by decide +kernel)
    have k2 : lc refScope "indent2" := .inl (by decide +kernel)
    have kn : lc refScope "new" := .inl (by decide +kernel)
    have kp : lc refScope "partial" := .inl (by decide +kernel)
    have ok0 := hrows r0 List.mem_cons_self
    have h0 : lines[0]? = some (lineOf r0) := by rw [← hlines]; rfl
    show Ex prog w h₀ 1 refScope _ refBody _
    refine ex_step (ex_assign (k := "lines") (d := .new (ofS lines)) (hl ▸ ev_me1 (ev_name (d := .sc (.str (T l))) rfl) ev_nl (me_split hll)) klines) ?_
    refine ex_step (ex_assign (k := "i") ev_int kki) ?_
    refine ex_step (ex_assign (k := "n") (ev_call am gl (fn_len_list rfl (by rw [ofS_len]; exact hln)) ⟨ev_name (d := .own (ofS lines)) rfl, trivial⟩) kkn) ?_
    rw [ofS_len]
    have hlt : decide ((0 : Int) < (lines.length : Int)) = true := by rw [decide_eq_true_eq]; omega
    -- the first loop
    refine ex_step (m₁ := [("n", .sc (.int lines.length)), ("i", .sc (.int 0)), ("lines", .own (ofS lines)), ("data", .sc (.str (T l))), ("limit", .sc (.int lim))]) (ex_while (I := fun k m₁ => m₁ = [("n", .sc (.int lines.length)), ("i", .sc (.int 0)), ("lines", .own (ofS lines)), ("data", .sc (.str (T l))), ("limit", .sc (.int lim))]) (fun k m₁ hI => ?_) 0 rfl) ?_
    · subst hI
      refine ⟨false, ?_, fun h => (by cases h), fun _ => ⟨rfl, rfl⟩⟩
      refine tr_and_tt (hlt ▸ tr_cmp (ev_name (d := .sc (.int 0)) rfl) (ev_name (d := .sc (.int (lines.length : Int))) rfl) cm_lt) (tr_and_ff ?_)
      exact tr_plain (ev_call am kw (fn_white am K ok0.nl (row_word ok0) (hlr r0 List.mem_cons_self)) ⟨ev_item (x := S.str (T (lineOf r0))) (ev_name (d := .own (ofS lines)) rfl) (ev_name (d := .sc (.int 0)) rfl) rfl (by omega) (ofS_at h0) (by rw [ofS_len]; exact hln), trivial⟩) tv_bool
    have hge : decide ((lines.length : Int) ≤ 0) = false := by rw [decide_eq_false_iff_not]; omega
    refine ex_step (ex_if_ff (hge ▸ tr_cmp (ev_name (d := .sc (.int 0)) rfl) (ev_name (d := .sc (.int (lines.length : Int))) rfl) cm_ge) (ex_nil ⟨rfl, rfl⟩)) ?_
    refine ex_step (ex_assign (k := "indent1") (d := .sc (.str (T i1))) (hi1 ▸ ev_call am ki (fn_indent am K (hlr r0 List.mem_cons_self)) ⟨ev_item (x := S.str (T (lineOf r0))) (ev_name (d := .own (ofS lines)) rfl) (ev_name (d := .sc (.int 0)) rfl) rfl (by omega) (ofS_at h0) (by rw [ofS_len]; exact hln), trivial⟩) k1) ?_
    -- the second indent
    have hlt1 : decide ((0 : Int) + 1 < (lines.length : Int)) = decide (rs ≠ []) := by
      rw [decide_eq_decide, hlen]
      cases rs with
      | nil => simp
      | cons r rs => simp; omega
    refine ex_cons (R₁ := fun f m' => f = .next ∧ Less [("indent2", .sc (.str (T i2))), ("indent1", .sc (.str (T i1))), ("n", .sc (.int lines.length)), ("i", .sc (.int 0)), ("lines", .own (ofS lines)), ("data", .sc (.str (T l))), ("limit", .sc (.int lim))] m')
      (ex_if (b := decide ((0 : Int) + 1 < (lines.length : Int)) && true) (tr_and2 (tr_cmp (ev_bin (ev_name (d := .sc (.int 0)) rfl) ev_int op_add) (ev_name (d := .sc (.int (lines.length : Int))) rfl) cm_lt) (fun hb => ?_)) (fun hb => ?_) (fun hb => ?_)) (fun m' h => ?_) (fun f m' hne h => absurd h.1 hne)
    · rw [hlt1] at hb
      cases rs with
      | nil => simp at hb
      | cons r1 rs =>
        have ok1 := hrows r1 (by simp)
        have h1 : lines[1]? = some (lineOf r1) := by rw [← hlines]; rfl
        exact tr_not (b := false) (tr_plain (ev_call am kw (fn_white am K ok1.nl (row_word ok1) (hlr r1 (by simp))) ⟨ev_item (x := S.str (T (lineOf r1))) (ev_name (d := .own (ofS lines)) rfl) (ev_bin (ev_name (d := .sc (.int 0)) rfl) ev_int op_add) rfl (by omega) (ofS_at h1) (by rw [ofS_len]; exact hln), trivial⟩) tv_bool)
    · rw [Bool.and_true, hlt1] at hb
      cases rs with
      | nil => simp at hb
      | cons r1 rs =>
        have ok1 := hrows r1 (by simp)
        have h1 : lines[1]? = some (lineOf r1) := by rw [← hlines]; rfl
        have hi2' : (lineOf r1).takeWhile isInd = i2 := hi2
        refine ex_mono (ex_one (ex_assign (k := "indent2") (d := .sc (.str (T i2))) (hi2' ▸ ev_call am ki (fn_indent am K (hlr r1 (by simp))) ⟨ev_item (x := S.str (T (lineOf r1))) (ev_name (d := .own (ofS lines)) rfl) (ev_bin (ev_name (d := .sc (.int 0)) rfl) ev_int op_add) rfl (by omega) (ofS_at h1) (by rw [ofS_len]; exact hln), trivial⟩) k2)) fun f m' h => ⟨h.1, ?_⟩
        rw [h.2]; exact less_refl _
    · rw [Bool.and_true, hlt1] at hb
      cases rs with
      | cons r1 rs => simp at hb
      | nil =>
        have hi2' : i1 = i2 := hi2
        refine ex_mono (ex_one (ex_assign (k := "indent2") (d := .sc (.str (T i2))) (hi2' ▸ ev_name (d := .sc (.str (T i1))) rfl) k2)) fun f m' h => ⟨h.1, ?_⟩
        rw [h.2]; exact less_refl _
    · refine ex_less h.2 ?_
      refine ex_step (ex_assign (k := "new") (ev_slice (lo := none) (hi := some 0) (ev_name (d := .own (ofS lines)) rfl) trivial (ev_name (d := .sc (.int 0)) rfl) rfl (by rw [ofS_len]; exact hln)) kn) ?_
      rw [cut_to0]
      refine ex_step (ex_assign (k := "partial") (ev_name (d := .sc (.str (T i1))) rfl) kp) ?_
      refine ex_less (m' := mRef lines lim i1 i2 0 ([], i1)) ?_ ?_
      · refine less_of fun p hp => ?_
        simp only [mRef, List.mem_cons, List.not_mem_nil, or_false] at hp
        rcases hp with rfl | rfl | rfl | rfl | rfl | rfl | rfl | rfl <;> rfl
      refine ex_cons (loopR am K glen grange hrows hlines.symm hsz hln hlr) (fun m' h => ex_less h.2 ?_) (fun f m' hne h => absurd h.1 hne)
      have hp := phi_fold lim i1 i2 (allItems (r0 :: rs)) ([], i1)
      have hp0 : phi ([], i1) = i1.length := by simp [phi]
      change phi (refSt lim i1 i2 (r0 :: rs)) ≤ _ at hp
      rw [hp0] at hp
      have hrs := rstripL_len (refSt lim i1 i2 (r0 :: rs)).2
      generalize hst : refSt lim i1 i2 (r0 :: rs) = st at *
      unfold phi at hp
      refine ex_step (ex_append (k := "new") (l := ofS st.1) (x := .str (T (rstripL st.2))) rfl (ev_me0 (ev_name (d := .sc (.str (T st.2))) rfl) (me_rstripL (by omega))) (by rw [ofS_len]; omega)) ?_
      have hcf := cut_from (ofS lines)
      have hN : ((r0 :: rs).length : Int) = ((ofS lines).length : Int) := by rw [ofS_len, hlen]; simp
      refine ex_step (ex_extend (k := "new") (l := ofS st.1 ++ [.str (T (rstripL st.2))]) (l' := []) rfl (hcf ▸ ev_slice (lo := some ((ofS lines).length : Int)) (hi := none) (ev_name (d := .own (ofS lines)) rfl) (hN ▸ ev_name (d := .sc (.int ((r0 :: rs).length : Int))) rfl) trivial rfl (by rw [ofS_len]; exact hln)) (by simp [ofS_len]; omega)) ?_
      have e : ofS st.1 ++ [S.str (T (rstripL st.2))] ++ [] = ofS (st.1 ++ [rstripL st.2]) := by simp [ofS]
      rw [e]
      refine ex_one (ex_return (ev_me1 ev_nl (ev_name (d := .own (ofS (st.1 ++ [rstripL st.2]))) rfl) (me_join rfl (joinOk_of (by simp; omega)))) ?_)
      unfold refOut; rw [hst]
end
end Mine

end

section
open PySem PySem.W PyProof.Rows
set_option Elab.async false
set_option linter.unusedVariables false
namespace Mine

/-! paragraphs as words and blanks -/
abbrev Tk := List Nat × Nat
def rowText : List Tk → List Nat
  | [] => []
  | [t] => t.1
  | t :: u :: r => t.1 ++ List.replicate t.2 32 ++ rowText (u :: r)
def fullText : List Tk → List Nat
  | [] => []
  | t :: r => t.1 ++ List.replicate t.2 32 ++ fullText r
def ful : List Tk → Nat
  | [] => 0
  | t :: r => t.1.length + t.2 + ful r
def wid : List Tk → Nat
  | [] => 0
  | [t] => t.1.length
  | t :: u :: r => t.1.length + t.2 + wid (u :: r)
def Wd (w : List Nat) : Prop := w ≠ [] ∧ ∀ c ∈ w, Unicode.isSpace c = false
def Tok (t : Tk) : Prop := Wd t.1 ∧ (t.2 = 1 ∨ t.2 = 2)
def Ind (i : List Nat) : Prop := ∀ c ∈ i, c = 32 ∨ c = 9
def render (i1 i2 : List Nat) : List (List Tk) → List (List Nat)
  | [] => []
  | s :: r => (i1 ++ rowText s) :: r.map fun x => i2 ++ rowText x

theorem sp32 : Unicode.isSpace 32 = true := by decide +kernel
theorem sp9 : Unicode.isSpace 9 = true := by decide +kernel
theorem sp10 : Unicode.isSpace 10 = true := by decide +kernel
theorem sp13 : Unicode.isSpace 13 = true := by decide +kernel

theorem rowText_cons (t : Tk) (r : List Tk) : rowText (t :: r) = t.1 ++ (match r with | [] => [] | u :: r' => List.replicate t.2 32 ++ rowText (u :: r')) := by
  cases r with
  | nil => simp [rowText]
  | cons u r => simp [rowText]
theorem fullText_append (a b : List Tk) : fullText (a ++ b) = fullText a ++ fullText b := by
  induction a with
  | nil => rfl
  | cons t a ih => simp [fullText, ih]
theorem rowText_append (a : List Tk) (u : Tk) (b : List Tk) : rowText (a ++ u :: b) = fullText a ++ rowText (u :: b) := by
  induction a with
  | nil => rfl
  | cons t a ih =>
    cases a with
    | nil => simp [rowText, fullText]
    | cons v a =>
      have : rowText (t :: v :: a ++ u :: b) = t.1 ++ List.replicate t.2 32 ++ rowText (v :: a ++ u :: b) := rfl
      rw [this, ih]; simp [fullText]
theorem ful_append (a b : List Tk) : ful (a ++ b) = ful a + ful b := by
  induction a with
  | nil => simp [ful]
  | cons t a ih => simp [ful, ih]; omega
theorem wid_append (a : List Tk) (u : Tk) (b : List Tk) : wid (a ++ u :: b) = ful a + wid (u :: b) := by
  induction a with
  | nil => simp [ful]
  | cons t a ih =>
    cases a with
    | nil => simp [wid, ful]
    | cons v a =>
      have : wid (t :: v :: a ++ u :: b) = t.1.length + t.2 + wid (v :: a ++ u :: b) := rfl
      rw [this, ih]; simp [ful]; omega
theorem fullText_len (s : List Tk) : (fullText s).length = ful s := by
  induction s with
  | nil => rfl
  | cons t s ih => simp [fullText, ful, ih]; omega
theorem rowText_len : ∀ s : List Tk, (rowText s).length = wid s
  | [] => rfl
  | [t] => rfl
  | t :: u :: r => by
    have := rowText_len (u :: r)
    simp only [rowText, wid, List.length_append, List.length_replicate, this]
theorem wid_le_ful : ∀ s : List Tk, wid s ≤ ful s
  | [] => by simp [wid, ful]
  | [t] => by simp [wid, ful]
  | t :: u :: r => by
    have := wid_le_ful (u :: r)
    simp only [wid, ful] at *; omega
theorem wid_cons_le (t : Tk) (r : List Tk) : t.1.length ≤ wid (t :: r) := by
  cases r with
  | nil => simp [wid]
  | cons u r => simp [wid]; omega

theorem snoc_of {α : Type} : ∀ {s : List α}, s ≠ [] → ∃ a t, s = a ++ [t]
  | [], h => absurd rfl h
  | [x], _ => ⟨[], x, rfl⟩
  | x :: y :: r, _ => by
    obtain ⟨a, t, e⟩ := snoc_of (s := y :: r) (by simp)
    exact ⟨x :: a, t, by rw [e]; rfl⟩

theorem rstripL_word {w : List Nat} (h : Wd w) (x : List Nat) (k : Nat) : rstripL (x ++ w ++ List.replicate k 32) = x ++ w := by
  obtain ⟨a, c, rfl⟩ := snoc_of h.1
  have hc := h.2 c (by simp)
  unfold rstripL
  have e : (x ++ (a ++ [c]) ++ List.replicate k 32).reverse = List.replicate k 32 ++ (c :: (a.reverse ++ x.reverse)) := by simp
  rw [e, List.dropWhile_append_of_pos (by intro y hy; rw [List.eq_of_mem_replicate hy]; exact sp32), List.dropWhile_cons_of_neg (by rw [hc]; simp)]
  simp
theorem rstripL_full {ind : List Nat} {s : List Tk} (hs : s ≠ []) (ok : ∀ t ∈ s, Tok t) : rstripL (ind ++ fullText s) = ind ++ rowText s := by
  obtain ⟨a, t, rfl⟩ := snoc_of hs
  have ht := ok t (by simp)
  rw [fullText_append, rowText_append]
  have : fullText [t] = t.1 ++ List.replicate t.2 32 := by simp [fullText]
  rw [this]
  have e : ind ++ (fullText a ++ (t.1 ++ List.replicate t.2 32)) = (ind ++ fullText a) ++ t.1 ++ List.replicate t.2 32 := by simp
  rw [e, rstripL_word ht.1]
  simp [rowText]

/-! columns -/
def colsL : Nat → List Nat → Nat
  | c, [] => c
  | c, x :: r => colsL (if x = 9 then c / 8 * 8 + 8 else c + 1) r
def cols (i : List Nat) : Nat := colsL 0 i
theorem expL_cols : ∀ (ind : List Nat) (col : Nat) (r : List Nat), Ind ind → (expL col (ind ++ r)).length + col = (expL (colsL col ind) r).length + colsL col ind
  | [], col, r, _ => rfl
  | x :: ind, col, r, h => by
    have h' : Ind ind := fun c hc => h c (List.mem_cons_of_mem _ hc)
    rcases h x List.mem_cons_self with rfl | rfl
    · have := expL_cols ind (col + 1) r h'
      simp only [List.cons_append, expL, colsL]
      simp
      omega
    · have := expL_cols ind (col + (8 - col % 8)) r h'
      have e : col / 8 * 8 + 8 = col + (8 - col % 8) := by omega
      simp only [List.cons_append, expL, colsL, if_true, e]
      simp
      omega
theorem full_no {s : List Tk} (ok : ∀ t ∈ s, Tok t) : ∀ c ∈ fullText s, c ≠ 9 ∧ c ≠ 10 := by
  induction s with
  | nil => intro c hc; cases hc
  | cons t s ih =>
    intro c hc
    simp only [fullText, List.mem_append] at hc
    rcases hc with (hc | hc) | hc
    · have := (ok t List.mem_cons_self).1.2 c hc
      exact ⟨(by rintro rfl; rw [sp9] at this; cases this), (by rintro rfl; rw [sp10] at this; cases this)⟩
    · rw [List.eq_of_mem_replicate hc]; exact ⟨by decide, by decide⟩
    · exact ih (fun t ht => ok t (List.mem_cons_of_mem _ ht)) c hc
theorem word_no {w : List Nat} (h : Wd w) : ∀ c ∈ w, c ≠ 9 ∧ c ≠ 10 := by
  intro c hc
  have := h.2 c hc
  exact ⟨(by rintro rfl; rw [sp9] at this; cases this), (by rintro rfl; rw [sp10] at this; cases this)⟩
theorem row_no : ∀ {s : List Tk}, (∀ t ∈ s, Tok t) → ∀ c ∈ rowText s, c ≠ 9 ∧ c ≠ 10
  | [], _, c, hc => by cases hc
  | [t], ok, c, hc => word_no (ok t (by simp)).1 c hc
  | t :: u :: r, ok, c, hc => by
    simp only [rowText, List.mem_append] at hc
    rcases hc with (hc | hc) | hc
    · exact word_no (ok t (by simp)).1 c hc
    · rw [List.eq_of_mem_replicate hc]; exact ⟨by decide, by decide⟩
    · exact row_no (fun t ht => ok t (List.mem_cons_of_mem _ ht)) c hc
theorem exp_line {ind w : List Nat} {s : List Tk} (hi : Ind ind) (ok : ∀ t ∈ s, Tok t) (hw : Wd w) : (expL 0 (ind ++ fullText s ++ w)).length = cols ind + ful s + w.length := by
  have h := expL_cols ind 0 (fullText s ++ w) hi
  have e : expL (colsL 0 ind) (fullText s ++ w) = fullText s ++ w := expL_plain _ _ (by
    intro hc
    rcases List.mem_append.mp hc with hc | hc
    · exact (full_no ok 9 hc).1 rfl
    · exact (word_no hw 9 hc).1 rfl)
  rw [e] at h
  simp [fullText_len] at h
  unfold cols
  rw [List.append_assoc]; omega

/-! greedy lines -/
def brk (lim : Int) : Nat → Nat → List Tk → List Tk → List (List Tk)
  | _, _, cur, [] => [cur]
  | c, c2, cur, t :: r => if lim < ((c + ful cur + t.1.length : Nat) : Int) then cur :: brk lim c2 c2 [t] r else brk lim c c2 (cur ++ [t]) r
def start (lim : Int) (c c2 : Nat) : List Tk → List (List Tk)
  | [] => []
  | t :: r => brk lim c c2 [t] r

def item (t : Tk) : List Nat × Bool := (t.1, decide (List.replicate t.2 32 ≠ [32]))
theorem blanks_of {b : Nat} (h : b = 1 ∨ b = 2) : ([32] ++ if decide (List.replicate b 32 ≠ [32]) then [32] else [] : List Nat) = List.replicate b 32 := by
  rcases h with rfl | rfl <;> rfl
theorem step_first {lim : Int} {i1 i2 : List Nat} {t : Tk} (ok : Tok t) : stepR lim i1 i2 ([], i1) (item t) = ([], i1 ++ fullText [t]) := by
  unfold stepR item
  rw [if_neg ok.1.1]
  simp only [ne_eq, not_true_eq_false, and_false, if_false]
  rw [List.append_assoc, List.append_assoc]
  have := blanks_of ok.2
  simp only [ne_eq] at this
  rw [this]
  simp [fullText]
theorem ne_ind {ind i1 : List Nat} {s : List Tk} (h1 : Ind i1) (hs : s ≠ []) (ok : ∀ t ∈ s, Tok t) : ind ++ fullText s ≠ i1 := by
  intro e
  cases s with
  | nil => exact hs rfl
  | cons t s =>
    have ht := (ok t List.mem_cons_self).1
    obtain ⟨w, b⟩ := t
    cases w with
    | nil => exact ht.1 rfl
    | cons c w =>
      have hc := ht.2 c List.mem_cons_self
      have hm : c ∈ i1 := by rw [← e]; simp [fullText]
      rcases h1 c hm with rfl | rfl
      · rw [sp32] at hc; cases hc
      · rw [sp9] at hc; cases hc
theorem step_next {lim : Int} {i1 i2 ind : List Nat} {new : List (List Nat)} {cur : List Tk} {t : Tk} (h1 : Ind i1) (hi : Ind ind) (hc : cur ≠ []) (okc : ∀ t ∈ cur, Tok t) (ok : Tok t) :
    stepR lim i1 i2 (new, ind ++ fullText cur) (item t) = if lim < ((cols ind + ful cur + t.1.length : Nat) : Int) then (new ++ [ind ++ rowText cur], i2 ++ fullText [t]) else (new, ind ++ fullText (cur ++ [t])) := by
  unfold stepR item
  rw [if_neg ok.1.1]
  have hb := blanks_of ok.2
  dsimp only
  rw [exp_line hi okc ok.1, rstripL_full hc okc]
  have hne := ne_ind (ind := ind) h1 hc okc
  by_cases hl : lim < ((cols ind + ful cur + t.1.length : Nat) : Int)
  · rw [if_pos hl, if_pos ⟨hl, hne⟩]
    dsimp only
    rw [List.append_assoc, List.append_assoc, hb]
    simp [fullText]
  · rw [if_neg hl, if_neg (fun h => hl h.1)]
    dsimp only
    rw [List.append_assoc _ [32], hb, fullText_append]
    simp [fullText]
def outR (st : RSt) : List (List Nat) := st.1 ++ [rstripL st.2]
theorem fold_brk {lim : Int} {i1 i2 : List Nat} (h1 : Ind i1) (h2 : Ind i2) : ∀ (toks : List Tk) (ind : List Nat) (new : List (List Nat)) (cur : List Tk), Ind ind → cur ≠ [] → (∀ t ∈ cur, Tok t) → (∀ t ∈ toks, Tok t) →
    outR ((toks.map item).foldl (stepR lim i1 i2) (new, ind ++ fullText cur)) = new ++ render ind i2 (brk lim (cols ind) (cols i2) cur toks)
  | [], ind, new, cur, hi, hc, okc, ok => by
    simp only [List.map_nil, List.foldl_nil, brk, render, outR]
    rw [rstripL_full hc okc]
  | t :: r, ind, new, cur, hi, hc, okc, ok => by
    have okt := ok t List.mem_cons_self
    have okr : ∀ t ∈ r, Tok t := fun t ht => ok t (List.mem_cons_of_mem _ ht)
    rw [List.map_cons, List.foldl_cons, step_next h1 hi hc okc okt]
    unfold brk
    by_cases hl : lim < ((cols ind + ful cur + t.1.length : Nat) : Int)
    · rw [if_pos hl, if_pos hl, fold_brk h1 h2 r i2 _ [t] h2 (by simp) (by intro x hx; simp at hx; subst hx; exact okt) okr]
      have hr : ∃ s rest, brk lim (cols i2) (cols i2) [t] r = s :: rest := by
        have : ∀ (r : List Tk) (c c2 : Nat) (cur : List Tk), ∃ s rest, brk lim c c2 cur r = s :: rest := by
          intro r
          induction r with
          | nil => intro c c2 cur; exact ⟨_, _, rfl⟩
          | cons t r ih => intro c c2 cur; unfold brk; split
                           · exact ⟨_, _, rfl⟩
                           · exact ih _ _ _
        exact this _ _ _ _
      obtain ⟨s, rest, e⟩ := hr
      rw [e]
      simp [render]
    · rw [if_neg hl, if_neg hl]
      exact fold_brk h1 h2 r ind new (cur ++ [t]) hi (by simp) (by intro x hx; rcases List.mem_append.mp hx with hx | hx
                                                                   · exact okc x hx
                                                                   · simp at hx; subst hx; exact okt) okr
theorem fold_start {lim : Int} {i1 i2 : List Nat} (h1 : Ind i1) (h2 : Ind i2) {toks : List Tk} (hne : toks ≠ []) (ok : ∀ t ∈ toks, Tok t) :
    outR ((toks.map item).foldl (stepR lim i1 i2) ([], i1)) = render i1 i2 (start lim (cols i1) (cols i2) toks) := by
  cases toks with
  | nil => exact absurd rfl hne
  | cons t r =>
    have okt := ok t List.mem_cons_self
    rw [List.map_cons, List.foldl_cons, step_first okt]
    exact fold_brk h1 h2 r i1 [] [t] h1 (by simp) (by intro x hx; simp at hx; subst hx; exact okt) fun t ht => ok t (List.mem_cons_of_mem _ ht)
theorem out_last {lim : Int} {i1 i2 : List Nat} {st : RSt} {w : List Nat} (h : Wd w) (f f' : Bool) : outR (stepR lim i1 i2 st (w, f)) = outR (stepR lim i1 i2 st (w, f')) := by
  have key : ∀ (x : List Nat) (g : Bool), rstripL (x ++ w ++ [32] ++ if g then [32] else []) = x ++ w := by
    intro x g
    cases g
    · have := rstripL_word h x 1
      simpa using this
    · have := rstripL_word h x 2
      simpa [List.replicate] using this
  unfold stepR outR
  rw [if_neg h.1, if_neg h.1]
  dsimp only
  rw [key, key]
end Mine

end

section
open PySem PySem.W PyProof.Rows
set_option Elab.async false
set_option linter.unusedVariables false
namespace Mine
set_option maxRecDepth 100000

theorem splitL_one : ∀ {a : List Nat}, 10 ∉ a → splitL a = [a]
  | [], _ => rfl
  | c :: r, h => by
    rw [List.mem_cons, not_or] at h
    unfold splitL
    rw [if_neg (Ne.symm h.1), splitL_one h.2]
theorem splitL_nl : ∀ {a : List Nat} (b : List Nat), 10 ∉ a → splitL (a ++ 10 :: b) = a :: splitL b
  | [], b, _ => by simp [splitL]
  | c :: r, b, h => by
    rw [List.mem_cons, not_or] at h
    rw [List.cons_append]
    conv => lhs; unfold splitL
    rw [if_neg (Ne.symm h.1), splitL_nl b h.2]
theorem splitL_join : ∀ {ls : List (List Nat)}, ls ≠ [] → (∀ x ∈ ls, 10 ∉ x) → splitL (joinL [10] ls) = ls
  | [], h, _ => absurd rfl h
  | [x], _, h => splitL_one (h x (by simp))
  | x :: y :: r, _, h => by
    have ih := splitL_join (ls := y :: r) (by simp) fun z hz => h z (List.mem_cons_of_mem _ hz)
    have e : joinL [10] (x :: y :: r) = x ++ 10 :: joinL [10] (y :: r) := by simp [joinL]
    rw [e, splitL_nl _ (h x (by simp)), ih]
theorem splitL_size : ∀ l : List Nat, ((splitL l).map fun x => x.length + 1).sum = l.length + 1
  | [] => rfl
  | c :: r => by
    have ih := splitL_size r
    unfold splitL
    split
    · simp at ih ⊢; omega
    · obtain ⟨h, t, e⟩ := splitL_ne r
      rw [e] at ih ⊢
      simp at ih ⊢; omega

/-! rows of the text -/
def tsOf : Nat → List Tk → List (List Nat × List Nat)
  | _, [] => []
  | b, t :: r => (List.replicate b 32, t.1) :: tsOf t.2 r
def mkRow (ind : List Nat) : List Tk → Rw
  | [] => (ind, [])
  | t :: r => if ind = [] then (t.1, tsOf t.2 r) else ([], (ind, t.1) :: tsOf t.2 r)
theorem mkRow_cons (ind : List Nat) (t : Tk) (r : List Tk) : mkRow ind (t :: r) = if ind = [] then (t.1, tsOf t.2 r) else ([], (ind, t.1) :: tsOf t.2 r) := rfl
theorem flat_tsOf : ∀ (r : List Tk) (t : Tk), t.1 ++ flat (tsOf t.2 r) = rowText (t :: r)
  | [], t => by simp [tsOf, flat, rowText]
  | u :: r, t => by
    have := flat_tsOf r u
    simp only [tsOf, flat, rowText]
    rw [← this]; simp
theorem lineOf_mkRow (ind : List Nat) {s : List Tk} (hs : s ≠ []) : lineOf (mkRow ind s) = ind ++ rowText s := by
  cases s with
  | nil => exact absurd rfl hs
  | cons t r =>
    rw [mkRow_cons, ← flat_tsOf]
    unfold lineOf
    split
    · rename_i h; simp [h]
    · simp [flat]
theorem tsOf_ok : ∀ (r : List Tk) (b : Nat), (b = 1 ∨ b = 2) → (∀ t ∈ r, Tok t) → TokOk (tsOf b r)
  | [], b, hb, ok => by intro p hp; cases hp
  | t :: r, b, hb, ok => by
    intro p hp
    have okt := ok t List.mem_cons_self
    rcases List.mem_cons.mp hp with rfl | hp
    · refine ⟨?_, ?_, okt.1.1, okt.1.2⟩
      · rcases hb with rfl | rfl <;> simp [List.replicate]
      · intro c hc; rw [List.eq_of_mem_replicate hc]; exact sp32
    · exact tsOf_ok r t.2 okt.2 (fun t ht => ok t (List.mem_cons_of_mem _ ht)) p hp
theorem ind_no {i : List Nat} (h : Ind i) : 10 ∉ i := fun hc => by rcases h 10 hc with h | h <;> cases h
theorem line_no {i : List Nat} {s : List Tk} (h : Ind i) (ok : ∀ t ∈ s, Tok t) : 10 ∉ i ++ rowText s := fun hc => by
  rcases List.mem_append.mp hc with hc | hc
  · exact ind_no h hc
  · exact (row_no ok 10 hc).2 rfl
theorem ind_sp {i : List Nat} (h : Ind i) : ∀ c ∈ i, Unicode.isSpace c = true := fun c hc => by
  rcases h c hc with rfl | rfl
  · exact sp32
  · exact sp9
theorem mkRow_ok {ind : List Nat} {s : List Tk} (hi : Ind ind) (hs : s ≠ []) (ok : ∀ t ∈ s, Tok t) : RowOk (mkRow ind s) := by
  refine ⟨?_, ?_, ?_, by rw [lineOf_mkRow ind hs]; exact line_no hi ok⟩
  all_goals
    cases s with
    | nil => exact absurd rfl hs
    | cons t r =>
      have okt := ok t List.mem_cons_self
      have okr : ∀ t ∈ r, Tok t := fun t ht => ok t (List.mem_cons_of_mem _ ht)
      rw [mkRow_cons]
      split
      · first
          | exact tsOf_ok r t.2 okt.2 okr
          | exact okt.1.2
          | exact .inl okt.1.1
      · rename_i hne
        first
          | (intro p hp
             rcases List.mem_cons.mp hp with rfl | hp
             · exact ⟨hne, ind_sp hi, okt.1.1, okt.1.2⟩
             · exact tsOf_ok r t.2 okt.2 okr p hp)
          | (intro c hc; cases hc)
          | exact .inr (by simp)
theorem isInd_of (c : Nat) : isInd c = true ↔ c = 32 ∨ c = 9 := by
  unfold isInd; simp [or_comm]
theorem take_ind {ind : List Nat} {s : List Tk} (hi : Ind ind) (hs : s ≠ []) (ok : ∀ t ∈ s, Tok t) : (lineOf (mkRow ind s)).takeWhile isInd = ind := by
  rw [lineOf_mkRow ind hs]
  refine takeWhile_all ind _ (fun c hc => (isInd_of c).mpr (hi c hc)) fun c r e => ?_
  cases s with
  | nil => exact absurd rfl hs
  | cons t s =>
    have okt := (ok t List.mem_cons_self).1
    rw [rowText_cons] at e
    obtain ⟨w, b⟩ := t
    cases w with
    | nil => exact absurd rfl okt.1
    | cons x w =>
      simp at e
      have hx := okt.2 x List.mem_cons_self
      rw [← e.1]
      cases hb : isInd x with
      | false => rfl
      | true =>
        rcases (isInd_of x).mp hb with rfl | rfl
        · rw [sp32] at hx; cases hx
        · rw [sp9] at hx; cases hx

def itemsOf : List Tk → List (List Nat × Bool)
  | [] => []
  | [t] => [(t.1, false)]
  | t :: u :: r => item t :: itemsOf (u :: r)
theorem citems_tsOf : ∀ (r : List Tk) (t : Tk), citems t.1 (tsOf t.2 r) = itemsOf (t :: r)
  | [], t => rfl
  | u :: r, t => by
    simp only [tsOf, citems, itemsOf]
    rw [citems_tsOf r u]; rfl
theorem itemsOf_snoc : ∀ (a : List Tk) (t : Tk), itemsOf (a ++ [t]) = a.map item ++ [(t.1, false)]
  | [], t => rfl
  | [x], t => rfl
  | x :: y :: a, t => by
    have ih := itemsOf_snoc (y :: a) t
    have : itemsOf (x :: y :: a ++ [t]) = item x :: itemsOf (y :: a ++ [t]) := rfl
    rw [this, ih]; rfl
theorem rowItems_fold {lim : Int} {i1 i2 ind : List Nat} {s : List Tk} (hs : s ≠ []) (st : RSt) : (rowItems (mkRow ind s)).foldl (stepR lim i1 i2) st = (itemsOf s).foldl (stepR lim i1 i2) st := by
  cases s with
  | nil => exact absurd rfl hs
  | cons t r =>
    rw [mkRow_cons]
    unfold rowItems
    split
    · rw [← citems_tsOf]
    · rw [← citems_tsOf]
      simp only [citems, List.foldl_cons]
      have : ∀ f, stepR lim i1 i2 st ([], f) = st := fun f => by unfold stepR; rw [if_pos rfl]
      rw [this]

def mkRows (i1 i2 : List Nat) : List (List Tk) → List Rw
  | [] => []
  | s :: r => mkRow i1 s :: r.map (mkRow i2)
theorem allItems_cons (r : Rw) (rs : List Rw) : allItems (r :: rs) = rowItems r ++ allItems rs := by simp [allItems]
theorem all_fold {lim : Int} {i1 i2 ind : List Nat} : ∀ (rows : List (List Tk)) (st : RSt), (∀ s ∈ rows, s ≠ []) → (allItems (rows.map (mkRow ind))).foldl (stepR lim i1 i2) st = ((rows.map itemsOf).flatten).foldl (stepR lim i1 i2) st
  | [], st, _ => rfl
  | s :: r, st, h => by
    rw [List.map_cons, allItems_cons, List.foldl_append, rowItems_fold (h s List.mem_cons_self), all_fold r _ fun s hs => h s (List.mem_cons_of_mem _ hs)]
    simp
theorem ends_one {t : Tk} (h : t.2 = 1) : item t = (t.1, false) := by unfold item; rw [h]; rfl
theorem items_flat : ∀ (rows : List (List Tk)), (∀ s ∈ rows, ∃ a t, s = a ++ [t] ∧ t.2 = 1) → (rows.map itemsOf).flatten = rows.flatten.map item
  | [], _ => rfl
  | s :: r, h => by
    obtain ⟨a, t, rfl, ht⟩ := h s List.mem_cons_self
    rw [List.map_cons, List.flatten_cons, items_flat r fun s hs => h s (List.mem_cons_of_mem _ hs), itemsOf_snoc, ← ends_one ht]
    simp
/-- what reformat_paragraph hands back of a paragraph -/
theorem ref_out {lim : Int} {i1 i2 : List Nat} (h1 : Ind i1) (h2 : Ind i2) {rows : List (List Tk)} {a : List Tk} {t : Tk} (hne : ∀ s ∈ rows, ∃ a t, s = a ++ [t] ∧ t.2 = 1) (ok : ∀ x ∈ rows.flatten ++ (a ++ [t]), Tok x) :
    refOut lim i1 i2 (mkRows i1 i2 (rows ++ [a ++ [t]])) = joinL [10] (render i1 i2 (start lim (cols i1) (cols i2) (rows.flatten ++ (a ++ [t])))) := by
  have hall : ∀ s ∈ rows ++ [a ++ [t]], s ≠ [] := by
    intro s hs
    rcases List.mem_append.mp hs with hs | hs
    · obtain ⟨a, t, rfl, _⟩ := hne s hs; simp
    · simp at hs; subst hs; simp
  unfold refOut
  congr 1
  show outR (refSt lim i1 i2 (mkRows i1 i2 (rows ++ [a ++ [t]]))) = _
  rw [← fold_start h1 h2 (by simp) ok]
  unfold refSt
  have e1 : (allItems (mkRows i1 i2 (rows ++ [a ++ [t]]))).foldl (stepR lim i1 i2) ([], i1) = (((rows ++ [a ++ [t]]).map itemsOf).flatten).foldl (stepR lim i1 i2) ([], i1) := by
    cases hr : rows ++ [a ++ [t]] with
    | nil => simp at hr
    | cons s r =>
      rw [hr] at hall
      unfold mkRows
      rw [allItems_cons, List.foldl_append, rowItems_fold (hall s List.mem_cons_self), all_fold r _ fun s hs => hall s (List.mem_cons_of_mem _ hs)]
      simp
  rw [e1, List.map_append, List.flatten_append, items_flat rows hne]
  simp only [List.map_cons, List.map_nil, List.flatten_cons, List.flatten_nil, List.append_nil]
  rw [itemsOf_snoc]
  simp only [List.map_append, List.foldl_append, List.foldl_cons, List.foldl_nil, List.map_cons, List.map_nil]
  exact out_last (ok t (by simp)).1 _ _
end Mine

end

section
open PySem PySem.W PyProof.Rows
set_option Elab.async false
set_option linter.unusedVariables false
namespace Mine
set_option maxRecDepth 100000

theorem sum_le {α : Type} {f : α → Nat} {B : Nat} : ∀ {ls : List α}, (∀ x ∈ ls, f x ≤ B) → (ls.map f).sum ≤ ls.length * B
  | [], _ => by simp
  | x :: r, h => by
    have h1 := h x List.mem_cons_self
    have h2 := sum_le (ls := r) fun y hy => h y (List.mem_cons_of_mem _ hy)
    rw [List.map_cons, List.sum_cons, List.length_cons, Nat.add_mul]; omega
theorem ful_le {B : Nat} : ∀ {s : List Tk}, (∀ t ∈ s, t.1.length ≤ B ∧ t.2 ≤ 2) → ful s ≤ s.length * (B + 2)
  | [], _ => by simp [ful]
  | t :: r, h => by
    have h1 := h t List.mem_cons_self
    have h2 := ful_le (s := r) fun y hy => h y (List.mem_cons_of_mem _ hy)
    rw [ful, List.length_cons, Nat.add_mul]; omega
theorem itemsOf_len : ∀ s : List Tk, (itemsOf s).length = s.length
  | [] => rfl
  | [t] => rfl
  | t :: u :: r => by have := itemsOf_len (u :: r); simp [itemsOf] at this ⊢; exact this
theorem itemsOf_mem : ∀ (s : List Tk) (it : List Nat × Bool), it ∈ itemsOf s → ∃ t ∈ s, it.1 = t.1
  | [], it, h => by cases h
  | [t], it, h => by simp [itemsOf] at h; subst h; exact ⟨t, by simp, rfl⟩
  | t :: u :: r, it, h => by
    rcases List.mem_cons.mp h with rfl | h
    · exact ⟨t, by simp, rfl⟩
    · obtain ⟨x, hx, e⟩ := itemsOf_mem (u :: r) it h
      exact ⟨x, List.mem_cons_of_mem _ hx, e⟩
theorem rowItems_of (ind : List Nat) {s : List Tk} (hs : s ≠ []) : ∃ pre, rowItems (mkRow ind s) = pre ++ itemsOf s ∧ pre.length ≤ 1 ∧ ∀ it ∈ pre, it.1 = [] := by
  cases s with
  | nil => exact absurd rfl hs
  | cons t r =>
    rw [mkRow_cons]
    unfold rowItems
    split
    · exact ⟨[], by rw [citems_tsOf]; rfl, by simp, by simp⟩
    · refine ⟨[([], decide (ind ≠ [32]))], ?_, by simp, by simp⟩
      rw [← citems_tsOf]; rfl
theorem all_bound (ind : List Nat) {B : Nat} : ∀ (rows : List (List Tk)), (∀ s ∈ rows, s ≠ []) → (∀ t ∈ rows.flatten, t.1.length ≤ B) →
    (allItems (rows.map (mkRow ind))).length ≤ 2 * rows.flatten.length ∧ ∀ it ∈ allItems (rows.map (mkRow ind)), it.1.length ≤ B
  | [], _, _ => ⟨by simp [allItems], by intro it h; cases h⟩
  | s :: r, hs, hw => by
    have hs1 := hs s List.mem_cons_self
    obtain ⟨pre, e, hp, hpe⟩ := rowItems_of ind hs1
    obtain ⟨q1, q2⟩ := all_bound ind r (fun s h => hs s (List.mem_cons_of_mem _ h)) fun t ht => hw t (by simp at ht ⊢; exact .inr ht)
    have hl : 1 ≤ s.length := by cases s with | nil => exact absurd rfl hs1 | cons _ _ => simp
    rw [List.map_cons, allItems_cons, e]
    constructor
    · simp [itemsOf_len] at q1 ⊢; omega
    · intro it hit
      rcases List.mem_append.mp hit with hit | hit
      · rcases List.mem_append.mp hit with hit | hit
        · rw [hpe it hit]; simp
        · obtain ⟨t, ht, e⟩ := itemsOf_mem s it hit
          rw [e]; exact hw t (by simp; exact .inl ht)
      · exact q2 it hit
theorem rows_bound (i1 i2 : List Nat) {B : Nat} {rows : List (List Tk)} (hs : ∀ s ∈ rows, s ≠ []) (hw : ∀ t ∈ rows.flatten, t.1.length ≤ B) :
    (allItems (mkRows i1 i2 rows)).length ≤ 2 * rows.flatten.length ∧ ∀ it ∈ allItems (mkRows i1 i2 rows), it.1.length ≤ B := by
  cases rows with
  | nil => exact ⟨by simp [allItems, mkRows], by intro it h; cases h⟩
  | cons s r =>
    obtain ⟨q1, q2⟩ := all_bound i2 r (fun s h => hs s (List.mem_cons_of_mem _ h)) fun t ht => hw t (by simp at ht ⊢; exact .inr ht)
    obtain ⟨p1, p2⟩ := all_bound i1 [s] (fun x h => hs x (by simp at h; subst h; simp)) fun t ht => hw t (by simp at ht ⊢; exact .inl ht)
    have e : allItems (mkRows i1 i2 (s :: r)) = allItems ([s].map (mkRow i1)) ++ allItems (r.map (mkRow i2)) := by
      simp [mkRows, allItems]
    rw [e]
    constructor
    · simp at p1 q1 ⊢; omega
    · intro it hit
      rcases List.mem_append.mp hit with hit | hit
      · exact p2 it hit
      · exact q2 it hit
theorem flat_count : ∀ {rows : List (List Tk)}, (∀ s ∈ rows, s ≠ []) → rows.length ≤ rows.flatten.length
  | [], _ => by simp
  | s :: r, h => by
    have h1 := h s List.mem_cons_self
    have h2 := flat_count (rows := r) fun y hy => h y (List.mem_cons_of_mem _ hy)
    have hl : 1 ≤ s.length := by cases s with | nil => exact absurd rfl h1 | cons _ _ => simp
    simp at h2 ⊢; omega
theorem mkRows_lines (i1 i2 : List Nat) {rows : List (List Tk)} (h : ∀ s ∈ rows, s ≠ []) : (mkRows i1 i2 rows).map lineOf = render i1 i2 rows := by
  cases rows with
  | nil => rfl
  | cons s r =>
    simp only [mkRows, render, List.map_cons, List.map_map]
    rw [lineOf_mkRow i1 (h s List.mem_cons_self)]
    congr 1
    exact List.map_congr_left fun x hx => lineOf_mkRow i2 (h x (List.mem_cons_of_mem _ hx))
theorem mkRows_ok {i1 i2 : List Nat} (h1 : Ind i1) (h2 : Ind i2) {rows : List (List Tk)} (h : ∀ s ∈ rows, s ≠ []) (ok : ∀ t ∈ rows.flatten, Tok t) : ∀ r ∈ mkRows i1 i2 rows, RowOk r := by
  cases rows with
  | nil => intro r hr; cases hr
  | cons s rest =>
    intro r hr
    rcases List.mem_cons.mp hr with rfl | hr
    · exact mkRow_ok h1 (h s List.mem_cons_self) fun t ht => ok t (by simp; exact .inl ht)
    · obtain ⟨x, hx, rfl⟩ := List.mem_map.mp hr
      exact mkRow_ok h2 (h x (List.mem_cons_of_mem _ hx)) fun t ht => ok t (by simp; exact .inr ⟨x, hx, ht⟩)
theorem tok_two {t : Tk} (h : Tok t) : t.2 ≤ 2 := by rcases h.2 with h | h <;> omega
theorem mem_flat_len {s : List Tk} {rows : List (List Tk)} (h : s ∈ rows) : s.length ≤ rows.flatten.length := by
  induction rows with
  | nil => cases h
  | cons x r ih =>
    rcases List.mem_cons.mp h with rfl | h
    · simp
    · have := ih h; simp at this ⊢; omega
theorem render_bound {i1 i2 : List Nat} (hi1 : i1.length ≤ 64) (hi2 : i2.length ≤ 64) {rows : List (List Tk)} (ok : ∀ t ∈ rows.flatten, Tok t ∧ t.1.length ≤ 100) (hlen : rows.flatten.length ≤ 64) : ∀ x ∈ render i1 i2 rows, x.length ≤ 6592 := by
  have key : ∀ s ∈ rows, wid s ≤ 6528 := by
    intro s hs
    have h1 := wid_le_ful s
    have h2 := ful_le (B := 100) (s := s) fun t ht => by
      have := ok t (List.mem_flatten.mpr ⟨s, hs, ht⟩)
      exact ⟨this.2, tok_two this.1⟩
    have h3 := mem_flat_len hs
    have : s.length * 102 ≤ 64 * 102 := Nat.mul_le_mul_right _ (by omega)
    omega
  cases rows with
  | nil => intro x hx; cases hx
  | cons s r =>
    intro x hx
    rcases List.mem_cons.mp hx with rfl | hx
    · have := key s List.mem_cons_self
      simp [rowText_len]; omega
    · obtain ⟨y, hy, rfl⟩ := List.mem_map.mp hx
      have := key y (List.mem_cons_of_mem _ hy)
      simp [rowText_len]; omega
theorem render_len (i1 i2 : List Nat) (rows : List (List Tk)) : (render i1 i2 rows).length = rows.length := by
  cases rows <;> simp [render]

section
variable {prog : Program} {w : World} {P : Params} {h₀ : Heap} {mg mb : Str → Option Value} {n : Nat}
theorem fn_text (am : Amb mg mb h₀) (K : (hd.heap_39 P).In h₀) (glen : glb "len" (.builtin "len") mg mb) (grange : glb "range" (.type "range") mg mb) {l : List Nat} {lim : Int} {i1 i2 : List Nat} {rows : List (List Tk)} {a : List Tk} {t : Tk}
    (h1 : Ind i1) (h2 : Ind i2) (hi1 : i1.length ≤ 64) (hi2 : i2.length ≤ 64) (hne : ∀ s ∈ rows, ∃ a t, s = a ++ [t] ∧ t.2 = 1) (ok : ∀ x ∈ rows.flatten ++ (a ++ [t]), Tok x ∧ x.1.length ≤ 100) (hlen : (rows.flatten ++ (a ++ [t])).length ≤ 64)
    (hl : splitL l = render i1 i2 (rows ++ [a ++ [t]])) (hone : rows = [] → i1 = i2 ∨ a = []) :
    Fn prog w h₀ 2 (.ref 53) [.sc (.str (T l)), .sc (.int lim)] (.sc (.str (T (joinL [10] (render i1 i2 (start lim (cols i1) (cols i2) (rows.flatten ++ (a ++ [t])))))))) := by
  have hsl : sizeLine = 16777216 := rfl
  have hall : ∀ s ∈ rows ++ [a ++ [t]], s ≠ [] := by
    intro s hs
    rcases List.mem_append.mp hs with hs | hs
    · obtain ⟨a, t, rfl, _⟩ := hne s hs; simp
    · simp at hs; subst hs; simp
  have hfl : (rows ++ [a ++ [t]]).flatten = rows.flatten ++ (a ++ [t]) := by simp
  have okf : ∀ x ∈ (rows ++ [a ++ [t]]).flatten, Tok x ∧ x.1.length ≤ 100 := by rw [hfl]; exact ok
  have hrb := render_bound (i1 := i1) (i2 := i2) hi1 hi2 okf (by rw [hfl]; exact hlen)
  have hrl := render_len i1 i2 (rows ++ [a ++ [t]])
  have hcnt := flat_count hall
  rw [hfl] at hcnt
  have hll : l.length < sizeLine := by
    have e := splitL_size l
    have h := sum_le (f := fun x : List Nat => x.length + 1) (B := 6593) (ls := splitL l) fun x hx => by
      have := hrb x (hl ▸ hx); omega
    rw [e, hl, hrl] at h
    have : (rows ++ [a ++ [t]]).length * 6593 ≤ 64 * 6593 := Nat.mul_le_mul_right _ (by omega)
    omega
  -- one case for every list of rows and further indent
  have go : ∀ (j2 : List Nat), Ind j2 → j2.length ≤ 64 → render i1 j2 (rows ++ [a ++ [t]]) = render i1 i2 (rows ++ [a ++ [t]]) → (∀ r0 rs, mkRows i1 j2 (rows ++ [a ++ [t]]) = r0 :: rs → ind2 i1 rs = j2) →
      Fn prog w h₀ 2 (.ref 53) [.sc (.str (T l)), .sc (.int lim)] (.sc (.str (T (joinL [10] (render i1 j2 (start lim (cols i1) (cols j2) (rows.flatten ++ (a ++ [t])))))))) := by
    intro j2 hj hjl hren hind
    cases hr : rows ++ [a ++ [t]] with
    | nil => simp at hr
    | cons s rest =>
      have hs : s ≠ [] := hall s (by rw [hr]; simp)
      have hm : mkRows i1 j2 (rows ++ [a ++ [t]]) = mkRow i1 s :: rest.map (mkRow j2) := by rw [hr]; rfl
      have hi := hind _ _ hm
      have okm := mkRows_ok h1 hj hall fun t ht => (okf t ht).1
      have hlines := mkRows_lines i1 j2 hall
      have hb := rows_bound i1 j2 (B := 100) hall fun t ht => (okf t ht).2
      rw [hfl] at hb
      rw [hm] at okm hlines hb
      have oks : ∀ t ∈ s, Tok t := fun t ht => (okf t (by rw [hr]; simp; exact .inl ht)).1
      have hti := take_ind h1 hs oks
      have hout := ref_out (lim := lim) h1 hj hne fun x hx => (ok x hx).1
      rw [hm] at hout
      rw [← hout]
      have := fn_ref (prog := prog) (w := w) (lim := lim) am K glen grange (l := l) (r0 := mkRow i1 s) (rs := rest.map (mkRow j2)) okm (by rw [hl, ← hren, ← hlines]) (by
        rw [hti, hi]
        have hc : cost j2.length (allItems (mkRow i1 s :: rest.map (mkRow j2))) ≤ (allItems (mkRow i1 s :: rest.map (mkRow j2))).length * 168 := by
          unfold cost
          exact sum_le fun it hit => by have := hb.2 it hit; omega
        have : (allItems (mkRow i1 s :: rest.map (mkRow j2))).length * 168 ≤ 128 * 168 := Nat.mul_le_mul_right _ (by omega)
        omega) hll (fun r hr' => by
          have hx : lineOf r ∈ render i1 j2 (rows ++ [a ++ [t]]) := by rw [← hlines]; exact List.mem_map_of_mem hr'
          rw [hren] at hx
          have := hrb _ hx; omega)
      rw [hti, hi] at this
      exact this
  by_cases hr : rows = []
  · have hgo : Fn prog w h₀ 2 (.ref 53) [.sc (.str (T l)), .sc (.int lim)] (.sc (.str (T (joinL [10] (render i1 i1 (start lim (cols i1) (cols i1) (rows.flatten ++ (a ++ [t])))))))) := by
      refine go i1 h1 hi1 ?_ ?_
      · subst hr; rfl
      · intro r0 rs e
        subst hr
        cases e; rfl
    rcases hone hr with e | e
    · rw [← e]; exact hgo
    · subst hr; subst e
      exact hgo
  · refine go i2 h2 hi2 rfl ?_
    intro r0 rs e
    cases rows with
    | nil => exact absurd rfl hr
    | cons s rows =>
      cases rows with
      | nil =>
        cases e
        exact take_ind h2 (by simp) fun x hx => (ok x (by simp at hx ⊢; exact .inr hx)).1
      | cons s2 rows =>
        cases e
        exact take_ind h2 (hall s2 (by simp)) fun x hx => (ok x (by simp; exact .inr (.inl hx))).1
end
end Mine

end

section
open PySem PySem.W PyProof.Rows
set_option Elab.async false
set_option linter.unusedVariables false
namespace Mine

theorem brk_peel {lim : Int} {c c2 : Nat} {u : Tk} {r : List Tk} : ∀ (s cur : List Tk), (s = [] ∨ ((c + wid (cur ++ s) : Nat) : Int) ≤ lim) → lim < ((c + ful (cur ++ s) + u.1.length : Nat) : Int) →
    brk lim c c2 cur (s ++ u :: r) = (cur ++ s) :: brk lim c2 c2 [u] r
  | [], cur, _, hu => by
    rw [List.append_nil] at hu ⊢
    rw [List.nil_append, brk, if_pos hu]
  | t :: s, cur, hf, hu => by
    rcases hf with hf | hf
    · cases hf
    · rw [wid_append] at hf
      have h1 := wid_cons_le t s
      rw [List.cons_append, brk, if_neg (by omega)]
      have e : cur ++ t :: s = (cur ++ [t]) ++ s := by simp
      rw [e] at hu ⊢
      refine brk_peel s (cur ++ [t]) (.inr ?_) hu
      rw [← e, wid_append]; exact hf
theorem brk_end {lim : Int} {c c2 : Nat} : ∀ (s cur : List Tk), (s = [] ∨ ((c + wid (cur ++ s) : Nat) : Int) ≤ lim) → brk lim c c2 cur s = [cur ++ s]
  | [], cur, _ => by rw [brk, List.append_nil]
  | t :: s, cur, hf => by
    rcases hf with hf | hf
    · cases hf
    · rw [wid_append] at hf
      have h1 := wid_cons_le t s
      rw [brk, if_neg (by omega)]
      have e : cur ++ t :: s = (cur ++ [t]) ++ s := by simp
      rw [e]
      refine brk_end s (cur ++ [t]) (.inr ?_)
      rw [← e, wid_append]; exact hf

def cAt (c c2 : Nat) (k : Nat) : Nat := if k = 0 then c else c2
theorem cAt_zero (c c2 : Nat) : cAt c c2 0 = c := rfl
theorem cAt_succ (c c2 k : Nat) : cAt c c2 (k + 1) = c2 := rfl
theorem cAt_same (c k : Nat) : cAt c c k = c := by unfold cAt; split <;> rfl
def nx (pre : List (List Tk)) (u : Tk) (k : Nat) : Tk := match pre[k]? with
  | some (t :: _) => t
  | _ => u
/-- each of these lines stands, the word behind the last being u -/
def PreOk (lim : Int) (c c2 : Nat) (pre : List (List Tk)) (u : Tk) : Prop :=
  ∀ k s, pre[k]? = some s → s ≠ [] ∧ (1 < s.length → ((cAt c c2 k + wid s : Nat) : Int) ≤ lim) ∧ lim < ((cAt c c2 k + ful s + (nx pre u (k + 1)).1.length : Nat) : Int)
/-- these are the lines -/
def AllOk (lim : Int) (c c2 : Nat) (segs : List (List Tk)) : Prop :=
  ∀ k s, segs[k]? = some s → s ≠ [] ∧ (1 < s.length → ((cAt c c2 k + wid s : Nat) : Int) ≤ lim) ∧ ∀ t r, segs[k + 1]? = some (t :: r) → lim < ((cAt c c2 k + ful s + t.1.length : Nat) : Int)

theorem fits_of {lim : Int} {c : Nat} {t : Tk} {s : List Tk} (h : 1 < (t :: s).length → ((c + wid (t :: s) : Nat) : Int) ≤ lim) : s = [] ∨ ((c + wid ([t] ++ s) : Nat) : Int) ≤ lim := by
  cases s with
  | nil => exact .inl rfl
  | cons u s => exact .inr (h (by simp))

theorem peel {lim : Int} {c2 : Nat} {u : Tk} {r : List Tk} : ∀ (pre : List (List Tk)) (c : Nat), PreOk lim c c2 pre u → start lim c c2 (pre.flatten ++ u :: r) = pre ++ start lim (cAt c c2 pre.length) c2 (u :: r)
  | [], c, _ => rfl
  | s :: pre, c, h => by
    obtain ⟨h1, h2, h3⟩ := h 0 s rfl
    have hp : PreOk lim c2 c2 pre u := by
      intro k s' hs'
      have := h (k + 1) s' (by simpa using hs')
      rw [cAt_succ] at this
      rw [cAt_same]
      exact this
    have ih := peel (r := r) pre c2 hp
    rw [cAt_same] at ih
    have hc : cAt c c2 (s :: pre).length = c2 := rfl
    rw [hc]
    cases s with
    | nil => exact absurd rfl h1
    | cons t s =>
      rw [cAt_zero] at h2 h3
      have hnext : ∃ v q, pre.flatten ++ u :: r = v :: q ∧ nx ((t :: s) :: pre) u (0 + 1) = v := by
        cases pre with
        | nil => exact ⟨u, r, rfl, rfl⟩
        | cons s' pre =>
          cases s' with
          | nil => exact absurd rfl (h 1 [] rfl).1
          | cons v q => exact ⟨v, _, rfl, rfl⟩
      obtain ⟨v, q, e, en⟩ := hnext
      rw [en] at h3
      rw [e] at ih
      rw [List.flatten_cons, List.append_assoc, e]
      show brk lim c c2 [t] (s ++ v :: q) = _
      rw [brk_peel s [t] (fits_of h2) h3]
      show _ :: start lim c2 c2 (v :: q) = _
      rw [ih]; rfl

theorem uniq {lim : Int} {c2 : Nat} : ∀ (segs : List (List Tk)) (c : Nat), AllOk lim c c2 segs → start lim c c2 segs.flatten = segs
  | [], c, _ => rfl
  | s :: segs, c, h => by
    obtain ⟨h1, h2, h3⟩ := h 0 s rfl
    have hp : AllOk lim c2 c2 segs := by
      intro k s' hs'
      have := h (k + 1) s' (by simpa using hs')
      rw [cAt_succ] at this
      rw [cAt_same]
      refine ⟨this.1, this.2.1, fun t r e => this.2.2 t r (by simpa using e)⟩
    have ih := uniq segs c2 hp
    cases s with
    | nil => exact absurd rfl h1
    | cons t s =>
      rw [cAt_zero] at h2 h3
      cases segs with
      | nil =>
        show brk lim c c2 [t] (s ++ []) = _
        rw [List.append_nil, brk_end s [t] (fits_of h2)]; rfl
      | cons s' segs =>
        cases s' with
        | nil => exact absurd rfl (h 1 [] rfl).1
        | cons v q =>
          have h3' := h3 v q rfl
          show brk lim c c2 [t] (s ++ v :: (q ++ segs.flatten)) = _
          rw [brk_peel s [t] (fits_of h2) h3']
          show _ :: start lim c2 c2 ((v :: q) :: segs).flatten = _
          rw [ih]; rfl

theorem brk_is {lim : Int} {c2 : Nat} : ∀ (toks : List Tk) (c : Nat) (cur : List Tk), cur ≠ [] → (1 < cur.length → ((c + wid cur : Nat) : Int) ≤ lim) →
    AllOk lim c c2 (brk lim c c2 cur toks) ∧ (brk lim c c2 cur toks).flatten = cur ++ toks ∧ ∃ s rest, brk lim c c2 cur toks = (cur ++ s) :: rest
  | [], c, cur, hc, hf => by
    rw [brk]
    refine ⟨fun k s hs => ?_, by simp, [], [], by simp⟩
    cases k with
    | zero => simp at hs; subst hs; exact ⟨hc, hf, fun t r e => by simp at e⟩
    | succ k => simp at hs
  | t :: toks, c, cur, hc, hf => by
    rw [brk]
    split
    · rename_i hl
      obtain ⟨h1, h2, s, rest, h3⟩ := brk_is (lim := lim) (c2 := c2) toks c2 [t] (by simp) (fun h => by simp at h)
      refine ⟨fun k s' hs => ?_, by rw [List.flatten_cons, h2]; rfl, [], _, by rw [List.append_nil]⟩
      cases k with
      | zero =>
        simp at hs; subst hs
        refine ⟨hc, hf, fun t' r' e => ?_⟩
        rw [h3] at e
        simp at e
        rw [← e.1]; exact hl
      | succ k =>
        have := h1 k s' (by simpa using hs)
        rw [cAt_same] at this
        rw [cAt_succ]
        exact ⟨this.1, this.2.1, fun t' r' e => this.2.2 t' r' (by simpa using e)⟩
    · rename_i hl
      obtain ⟨h1, h2, s, rest, h3⟩ := brk_is (lim := lim) (c2 := c2) toks c (cur ++ [t]) (by simp) (fun _ => by
        rw [wid_append]; simp only [wid]; omega)
      exact ⟨h1, by rw [h2]; simp, t :: s, rest, by rw [h3]; simp⟩
theorem start_is {lim : Int} {c c2 : Nat} {toks : List Tk} : AllOk lim c c2 (start lim c c2 toks) ∧ (start lim c c2 toks).flatten = toks := by
  cases toks with
  | nil => exact ⟨fun k s h => by simp [start] at h, rfl⟩
  | cons t r =>
    obtain ⟨h1, h2, _⟩ := brk_is (lim := lim) (c2 := c2) r c [t] (by simp) (fun h => by simp at h)
    exact ⟨h1, h2⟩

/-! counting a line's words -/
theorem runs_word : ∀ {w : List Nat} (b : Bool) (r : List Nat), Wd w → runs b (w ++ r) = runs true r
  | [], b, r, h => absurd rfl h.1
  | [c], b, r, h => by
    have hc := h.2 c (by simp)
    show runs b (c :: r) = _
    rw [runs, if_neg (by rw [hc]; simp)]
  | c :: d :: w, b, r, h => by
    have hc := h.2 c (by simp)
    rw [List.cons_append, runs, if_neg (by rw [hc]; simp)]
    exact runs_word true r ⟨by simp, fun x hx => h.2 x (List.mem_cons_of_mem _ hx)⟩
theorem runs_blank : ∀ {i : List Nat} (r : List Nat), (∀ c ∈ i, Unicode.isSpace c = true) → runs false (i ++ r) = runs false r
  | [], r, _ => rfl
  | c :: i, r, h => by
    rw [List.cons_append, runs, if_pos (h c List.mem_cons_self)]
    simpa using runs_blank r fun x hx => h x (List.mem_cons_of_mem _ hx)
theorem runs_gap {k : Nat} (hk : k = 1 ∨ k = 2) (r : List Nat) : runs true (List.replicate k 32 ++ r) = 1 + runs false r := by
  rcases hk with rfl | rfl
  · show runs true (32 :: r) = _
    rw [runs, if_pos sp32]; rfl
  · show runs true (32 :: 32 :: r) = _
    rw [runs, if_pos sp32, runs, if_pos sp32]; simp
theorem runs_row : ∀ (s : List Tk), (∀ t ∈ s, Tok t) → runs false (rowText s) = s.length
  | [], _ => rfl
  | [t], ok => by
    have := runs_word false [] (ok t (by simp)).1
    rw [List.append_nil] at this
    simp only [rowText]; rw [this]; rfl
  | t :: u :: r, ok => by
    have okt := ok t (by simp)
    simp only [rowText]
    rw [List.append_assoc, runs_word _ _ okt.1, runs_gap okt.2, runs_row (u :: r) fun x hx => ok x (List.mem_cons_of_mem _ hx)]
    simp; omega
theorem runs_line {i : List Nat} {s : List Tk} (hi : Ind i) (ok : ∀ t ∈ s, Tok t) : runs false (i ++ rowText s) = s.length := by
  rw [runs_blank _ (ind_sp hi), runs_row s ok]
end Mine

end

section
open PySem PySem.W PyProof.Rows
set_option Elab.async false
set_option linter.unusedVariables false
namespace Mine
set_option maxRecDepth 100000

theorem tab1 : Str.ofString "\t" = T [9] := by decide +kernel
theorem colsL_snoc : ∀ (a : List Nat) (c x : Nat), colsL c (a ++ [x]) = if x = 9 then colsL c a / 8 * 8 + 8 else colsL c a + 1
  | [], c, x => rfl
  | y :: a, c, x => by
    rw [List.cons_append, colsL, colsL, colsL_snoc a]
theorem at_of {α : Type} {l : List α} {i : Nat} (h : i < l.length) : ∃ x, l[i]? = some x := ⟨_, List.getElem?_eq_getElem h⟩
theorem lt_of_at {α : Type} {l : List α} {i : Nat} {x : α} (h : l[i]? = some x) : i < l.length := by
  rcases Nat.lt_or_ge i l.length with h' | h'
  · exact h'
  · rw [List.getElem?_eq_none h'] at h; cases h
theorem take_succ {α : Type} {l : List α} {i : Nat} {x : α} (h : l[i]? = some x) : l.take (i + 1) = l.take i ++ [x] := by rw [List.take_add_one, h]; rfl
theorem rng_at {a c : Int} {n i : Nat} {y : S} (h : (rng a c n)[i]? = some y) : i < n ∧ y = S.int (a + (i : Int) * c) := by
  have hi : i < n := by have := lt_of_at h; simpa [rng] using this
  refine ⟨hi, ?_⟩
  simp [rng, hi] at h; exact h.symm
theorem rng_len (a c : Int) (n : Nat) : (rng a c n).length = n := by simp [rng]
theorem ofI_at {V : List Int} {k : Nat} {x : Int} (h : V[k]? = some x) : (ofI V)[k]? = some (S.int x) := by simp [ofI, h]
theorem ofI_len (V : List Int) : (ofI V).length = V.length := by simp [ofI]

def fdefBody (k : Nat) : List Stmt := defBody (nth PySem.Challenge.pw_lg0017_01.main.body k)

section
variable {prog : Program} {w : World} {P : Params} {h₀ : Heap} {mg mb : Str → Option Value} {n : Nat}

theorem tr_of {sc : Scope} {m : Mp} {e : PySem.Expr} {b b' : Bool} (h : Tr prog w h₀ n sc m e b) (hb : b = b') : Tr prog w h₀ n sc m e b' := hb ▸ h
theorem ev_of {sc : Scope} {m : Mp} {e : PySem.Expr} {d d' : D} (h : Ev prog w h₀ n sc m e d) (hd : d = d') : Ev prog w h₀ n sc m e d' := hd ▸ h
theorem ev_tab {sc : Scope} {m : Mp} {k : Nat} {pos : Pos} : Ev prog w h₀ n sc m (.Constant (.str (Str.ofString "\t")) k pos) (.sc (.str (T [9]))) := by
  rw [← tab1]; exact ev_str
theorem cm_seqT {a b : List Nat} : Cm2 prog w .Eq (.sc (.str (T a))) (.sc (.str (T b))) (decide (a = b)) := by
  have := cm_seq (prog := prog) (w := w) (x := T a) (y := T b)
  rwa [decide_eq_decide.mpr T_eq_iff] at this
theorem cm_sneT {a b : List Nat} : Cm2 prog w .NotEq (.sc (.str (T a))) (.sc (.str (T b))) (decide (a ≠ b)) := by
  have := cm_sne (prog := prog) (w := w) (x := T a) (y := T b)
  rwa [decide_eq_decide.mpr (not_congr T_eq_iff)] at this

theorem fn_cols (am : Amb mg mb h₀) (K : (hd.heap_39 P).In h₀) {l : List Nat} : Fn prog w h₀ 1 (.ref 74) [.sc (.str (T l))] (.sc (.int (cols l))) := by
  refine fn_def (n := 0) (names := ["indent"]) am (K 74 _ (by rfl)) (by rfl) ⟨73, _, _, _, rfl, K 73 _ (by rfl), rfl, rfl⟩ rfl (by decide) (by simp [Param]) (fun vs hv => ?_) (fun x hx => ?_) ?_ trivial
  · obtain ⟨v, rfl⟩ := one_of hv; rfl
  · simp at hx; subst hx; exact .inl (by decide +kernel)
  · refine ex_step (ex_assign (k := "width") ev_int (.inl (by decide +kernel))) ?_
    refine ex_step (m₁ := [("width", .sc (.int (cols l))), ("indent", .sc (.str (T l)))]) (ex_for (x := "sign") (fun i mi => mi = [("width", .sc (.int (colsL 0 (l.take i) : Nat))), ("indent", .sc (.str (T l)))]) (it_str (ev_name (d := .sc (.str (T l))) rfl)) (.inl (by decide +kernel)) ?_ ?_ rfl) ?_
    · intro i y mi hy hmi
      subst hmi
      rw [T_list, List.getElem?_map] at hy
      obtain ⟨c, hc⟩ : ∃ c, l[i]? = some c := by
        cases h : l[i]? with
        | none => rw [h] at hy; cases hy
        | some c => exact ⟨c, rfl⟩
      rw [hc] at hy
      cases hy
      have hs := colsL_snoc (l.take i) 0 c
      rw [← take_succ hc] at hs
      have done : ∀ x : Int, x = ((colsL 0 (l.take (i + 1)) : Nat) : Int) → Less [("width", .sc (.int (colsL 0 (l.take (i + 1)) : Nat))), ("indent", .sc (.str (T l)))] (("width", stD (.sc (.int x))) :: ("sign", .sc (.str ⟨#[c]⟩)) :: [("width", .sc (.int (colsL 0 (l.take i) : Nat))), ("indent", .sc (.str (T l)))]) := by
        rintro x rfl
        refine less_of fun p hp => ?_
        simp only [List.mem_cons, List.not_mem_nil, or_false] at hp
        rcases hp with rfl | rfl <;> rfl
      by_cases h9 : c = 9
      · have e : decide ([c] = [9]) = true := by simp [h9]
        refine ex_mono (ex_one (ex_assign (k := "width") (ev_ite_tt (tr_of (tr_cmp (ev_name (d := .sc (.str (T [c]))) rfl) ev_tab cm_seqT) e) (ev_bin (ev_bin (ev_bin (ev_name (d := .sc (.int (colsL 0 (l.take i) : Nat))) rfl) ev_int (op_fdiv (by decide) (PyProof.noPylong_small (by decide)))) ev_int (op_mul (IntMulOk.of_right (by decide +kernel)))) ev_int op_add)) (.inl (by decide +kernel)))) fun f m' h => .inl ⟨.inl h.1, _, rfl, ?_⟩
        rw [h.2]
        refine done _ ?_
        rw [hs, if_pos h9, Int.fdiv_eq_ediv_of_nonneg _ (by omega)]
        omega
      · have e : decide ([c] = [9]) = false := by simp [h9]
        refine ex_mono (ex_one (ex_assign (k := "width") (ev_ite_ff (tr_of (tr_cmp (ev_name (d := .sc (.str (T [c]))) rfl) ev_tab cm_seqT) e) (ev_bin (ev_name (d := .sc (.int (colsL 0 (l.take i) : Nat))) rfl) ev_int op_add)) (.inl (by decide +kernel)))) fun f m' h => .inl ⟨.inl h.1, _, rfl, ?_⟩
        rw [h.2]
        refine done _ ?_
        rw [hs, if_neg h9]; omega
    · intro mi hmi
      subst hmi
      rw [List.length_map, T_list, List.take_length]
      exact ⟨rfl, rfl⟩
    · exact ex_one (ex_return (ev_name (d := .sc (.int (cols l))) rfl) rfl)
end
end Mine

end

section
open PySem PySem.W PyProof.Rows
set_option Elab.async false
set_option linter.unusedVariables false
namespace Mine
set_option maxRecDepth 100000
theorem flatten_le {B : Nat} {ls : List (List Nat)} (h : ∀ x ∈ ls, x.length ≤ B) : ls.flatten.length ≤ ls.length * B := by
  rw [List.length_flatten]; exact sum_le h
theorem repL_one (k x : Nat) : repL k [x] = List.replicate k x := by
  unfold repL
  induction k with
  | zero => rfl
  | succ k ih => rw [List.replicate_succ, List.flatten_cons, ih]; rfl
theorem four_of {vs : List Value} (h : vs.length = 4) : ∃ a b c d, vs = [a, b, c, d] := by
  match vs, h with
  | [a, b, c, d], _ => exact ⟨a, b, c, d, rfl⟩
theorem five_of {vs : List Value} (h : vs.length = 5) : ∃ a b c d e, vs = [a, b, c, d, e] := by
  match vs, h with
  | [a, b, c, d, e], _ => exact ⟨a, b, c, d, e, rfl⟩
theorem nx_at {segs : List (List Tk)} {i : Nat} {s : List Tk} (h : segs[i]? = some s) (j : Nat) (hj : j < s.length) : segs.flatten[(segs.take i).flatten.length + j]? = s[j]? := by
  have hlt := lt_of_at h
  have e : segs = segs.take i ++ s :: segs.drop (i + 1) := by
    have h1 := List.take_append_drop i segs
    rw [List.drop_eq_getElem_cons hlt] at h1
    rw [List.getElem?_eq_getElem hlt] at h
    cases h; exact h1.symm
  conv => lhs; arg 1; rw [e]
  rw [List.flatten_append, List.flatten_cons, List.getElem?_append_right (by omega), Nat.add_sub_cancel_left, List.getElem?_append_left hj]
theorem render_at {i1 i2 : List Nat} {segs : List (List Tk)} {i : Nat} {s : List Tk} (h : segs[i]? = some s) : (render i1 i2 segs)[i]? = some ((if i = 0 then i1 else i2) ++ rowText s) := by
  cases segs with
  | nil => simp at h
  | cons x r =>
    cases i with
    | zero => simp at h; subst h; rfl
    | succ i => simp at h; simp [render, h]
theorem row_last {s : List Tk} {t : Tk} (hs : s ≠ []) (h : s[s.length - 1]? = some t) : fullText (s.take (s.length - 1)) ++ t.1 = rowText s := by
  obtain ⟨a, u, rfl⟩ := snoc_of hs
  simp at h; subst h
  rw [rowText_append]; simp [rowText]
section
variable {prog : Program} {w : World} {P : Params} {h₀ : Heap} {mg mb : Str → Option Value} {n : Nat} {sc : Scope} {m : Mp} {R : Fl → Mp → Prop}
theorem ip_catT {a b : List Nat} (h : a.length + b.length ≤ sizeLine) : Ip2 prog w .Add (.sc (.str (T a))) (.sc (.str (T b))) (.sc (.str (T (a ++ b)))) := by
  rw [← T_cat]; exact ip_cat (by rw [T_len, T_len]; exact h)
end
def wordsOf' (toks : List Tk) : List S := ofS (toks.map fun t => t.1)
def sizesOf (toks : List Tk) : List S := ofI (toks.map fun t => (t.2 : Int))
def countsOf (segs : List (List Tk)) : List S := ofI (segs.map fun s => (s.length : Int))
theorem words_at {toks : List Tk} {k : Nat} {t : Tk} (h : toks[k]? = some t) : (wordsOf' toks)[k]? = some (.str (T t.1)) := ofS_at (by simp [h])
theorem sizes_at {toks : List Tk} {k : Nat} {t : Tk} (h : toks[k]? = some t) : (sizesOf toks)[k]? = some (.int (t.2 : Int)) := ofI_at (by simp [h])
theorem words_len (toks : List Tk) : (wordsOf' toks).length = toks.length := by simp [wordsOf', ofS]
theorem sizes_len (toks : List Tk) : (sizesOf toks).length = toks.length := by simp [sizesOf, ofI]
theorem take_full {segs : List (List Tk)} {i : Nat} {s : List Tk} (h : segs[i]? = some s) : (segs.take (i + 1)).flatten.length = (segs.take i).flatten.length + s.length := by
  rw [take_succ h]; simp
theorem take_flat_le (segs : List (List Tk)) (i : Nat) : (segs.take i).flatten.length ≤ segs.flatten.length := by
  conv => rhs; rw [← List.take_append_drop i segs]
  rw [List.flatten_append, List.length_append]; exact Nat.le_add_right _ _
theorem paired_ofI' : ∀ {vs : List Value} {l : List Int}, IntsAre vs l → Paired IsS vs (ofI l)
  | _, _, .nil => .nil
  | _, _, .cons i t r => .cons ⟨t, rfl⟩ (paired_ofI' r)
def headOf : List Int → Int
  | [] => 17
  | x :: _ => x
def indsL : List (List Nat) := [[], [32, 32], [9], [32, 32, 32, 32], [32, 9, 32]]
def indAt (k : Int) : List Nat := indsL.getD (k.fmod 5).toNat []
def alphaL : List Nat := List.range' 97 26
theorem fmod_range (x : Int) {b : Int} (hb : 0 < b) : 0 ≤ x.fmod b ∧ x.fmod b < b := by
  rw [Int.fmod_eq_emod_of_nonneg x (by omega)]
  exact ⟨Int.emod_nonneg _ (by omega), Int.emod_lt_of_pos _ hb⟩
theorem ind_all : ∀ i ∈ indsL, (∀ c ∈ i, c = 32 ∨ c = 9) ∧ i.length ≤ 4 ∧ cols i ≤ 9 := by decide +kernel
theorem indAt_at (k : Int) : indsL[(k.fmod 5).toNat]? = some (indAt k) := by
  have := fmod_range k (b := 5) (by decide)
  have hl : (k.fmod 5).toNat < indsL.length := by show _ < 5; omega
  unfold indAt
  rw [List.getD_eq_getElem?_getD, List.getElem?_eq_getElem hl]; rfl
theorem indAt_ok (k : Int) : Ind (indAt k) ∧ (indAt k).length ≤ 4 ∧ cols (indAt k) ≤ 9 := by
  obtain ⟨h1, h2, h3⟩ := ind_all _ (List.mem_of_getElem? (indAt_at k))
  exact ⟨h1, h2, h3⟩
theorem alpha_ok : ∀ c ∈ alphaL, Unicode.isSpace c = false := by decide +kernel
def wordAt (a c : Nat) : List Nat := (alphaL.drop a).take (a + 1 + c - a)
theorem wordAt_len {a c : Nat} (h : a + 1 + c ≤ 26) : (wordAt a c).length = 1 + c := by
  unfold wordAt
  have : alphaL.length = 26 := rfl
  simp [this]; omega
theorem wordAt_ok {a c : Nat} (h : a + 1 + c ≤ 26) : Wd (wordAt a c) := by
  refine ⟨fun e => ?_, fun x hx => alpha_ok x (List.mem_of_mem_drop (List.mem_of_mem_take hx))⟩
  have := wordAt_len h
  rw [e] at this; simp at this; omega
theorem cut_ofI (L : List Int) (lo hi : Option Int) : cut (ofI L) lo hi = ofI (cut L lo hi) := by
  unfold cut ofI; simp
theorem cut_one (L : List Int) : cut L (some 1) none = L.drop 1 := by
  unfold cut
  simp only [Option.elim]
  cases L with
  | nil => simp
  | cons x L =>
    have : clipAt (x :: L).length 1 = 1 := by unfold clipAt; simp; omega
    rw [this]
    simp
theorem cut_mid (L : List Int) (k : Nat) (hk : 1 ≤ k) (h : 1 < L.length) : cut L (some 1) (some ((k : Nat) : Int)) = (L.drop 1).take (k - 1) := by
  unfold cut
  simp only [Option.elim]
  have h1 : clipAt L.length 1 = 1 := by unfold clipAt; simp; omega
  have h2 : clipAt L.length ((k : Nat) : Int) = min k L.length := by unfold clipAt; omega
  rw [h1, h2]
  rcases Nat.le_total k L.length with hl | hl
  · rw [Nat.min_eq_left hl]
  · rw [Nat.min_eq_right hl, List.take_of_length_le (by simp), List.take_of_length_le (by simp; omega)]
theorem map_ofI {f : S → S} {g : Int → List Nat} (h : ∀ x, f (.int x) = .str (T (g x))) (l : List Int) : (ofI l).map f = ofS (l.map g) := by
  unfold ofI ofS
  rw [List.map_map, List.map_map]
  exact List.map_congr_left fun x _ => h x
theorem lk_cm {scope : Scope} {m : Mp} {k : String} (h : (Str.ofString k, NameKind.free) ∈ scope.names) : lk (cmap scope m) k = lk m k := by
  unfold cmap
  rw [lk_filter (f := fun k => scope.names.contains (Str.ofString k, NameKind.free)), if_pos (by simpa using h)]
section
variable {prog : Program} {w : World} {P : Params} {h₀ : Heap} {mg mb : Str → Option Value} {n : Nat} {sc : Scope} {m : Mp} {R : Fl → Mp → Prop}
theorem ev_strT {x : String} {l : List Nat} {k : Nat} {pos : Pos} (h : Str.ofString x = T l) : Ev prog w h₀ n sc m (.Constant (.str (Str.ofString x)) k pos) (.sc (.str (T l))) := by
  rw [← h]; exact ev_str
theorem alpha1 : Str.ofString "abcdefghijklmnopqrstuvwxyz" = T alphaL := by decide +kernel
theorem ev_ind {e : PySem.Expr} {k : Int} {pos p1 p2 p3 p4 p5 p6 : Pos} {n1 n2 n3 n4 n5 : Nat} (h : Ev prog w h₀ n sc m e (.sc (.int (k.fmod 5))))
    (hsub : ∀ a u, subscripted e false (.ref a) (.int (k.fmod 5) u) = operate [.ref a, .int (k.fmod 5) u] (getItem (.ref a) (.int (k.fmod 5) u)) := by intro _ _; with_unfolding_all rfl) :
    Ev prog w h₀ n sc m (.Subscript (.List [.Constant (.str (Str.ofString "")) n1 p1, .Constant (.str (Str.ofString "  ")) n2 p2, .Constant (.str (Str.ofString "\t")) n3 p3, .Constant (.str (Str.ofString "    ")) n4 p4, .Constant (.str (Str.ofString " \t ")) n5 p5] p6) e pos) (.sc (.str (T (indAt k)))) := by
  refine ev_item (l := ofS indsL) (ev_list (l := ofS indsL) ⟨ev_strT (by decide +kernel), ev_strT (by decide +kernel), ev_strT (by decide +kernel), ev_strT (by decide +kernel), ev_strT (by decide +kernel), trivial⟩ (by decide)) h rfl (fmod_range k (by decide)).1 (ofS_at (indAt_at k)) (by decide) hsub
end
section
variable {prog : Program} {w : World} {P : Params} {h₀ : Heap} {mg mb : Str → Option Value} {n : Nat} {sc : Scope} {m : Mp} {R : Fl → Mp → Prop}
theorem compOk_plain {sc scope : Scope} {m : Mp} {x : String} (h1 : scope.kind = .function) (h2 : ∀ y ∈ scope.names, y.2 ≠ .cell ∧ y.2 ≠ .free ∧ (y.2 = .local → scope.names.lookup y.1 = some .local)) (h3 : scope.names.lookup (Str.ofString x) = some .local) : CompOk sc m scope x :=
  ⟨h1, fun y hy => (h2 y hy).1, fun y hy => (h2 y hy).2.2, h3, fun y hy hf => absurd hf (h2 y hy).2.1⟩
end
theorem joinL_len : ∀ ls : List (List Nat), (joinL [10] ls).length ≤ (ls.map List.length).sum + ls.length
  | [] => by simp [joinL]
  | [x] => by simp [joinL]
  | x :: y :: r => by
    have := joinL_len (y :: r)
    have e : joinL [10] (x :: y :: r) = x ++ [10] ++ joinL [10] (y :: r) := rfl
    rw [e]
    simp at this ⊢; omega
structure SegsOk (lim : Int) (first later : List Nat) (toks : List Tk) (segs : List (List Tk)) : Prop where
  all : AllOk lim (cols first) (cols later) segs
  flat : segs.flatten = toks
  ne : ∀ s ∈ segs, s ≠ []
  some : segs ≠ []
theorem segs_ok {lim : Int} {first later : List Nat} {toks : List Tk} (h : toks ≠ []) : SegsOk lim first later toks (start lim (cols first) (cols later) toks) := by
  obtain ⟨h1, h2⟩ := start_is (lim := lim) (c := cols first) (c2 := cols later) (toks := toks)
  refine ⟨h1, h2, fun s hs => ?_, fun e => ?_⟩
  · obtain ⟨k, hk⟩ := List.getElem?_of_mem hs
    exact (h1 k s hk).1
  · rw [e] at h2; exact h h2.symm
theorem render_no {first later : List Nat} (h1 : Ind first) (h2 : Ind later) {segs : List (List Tk)} (ok : ∀ t ∈ segs.flatten, Tok t) : ∀ x ∈ render first later segs, 10 ∉ x := by
  cases segs with
  | nil => intro x hx; cases hx
  | cons s r =>
    intro x hx
    rcases List.mem_cons.mp hx with rfl | hx
    · exact line_no h1 fun t ht => ok t (by simp; exact .inl ht)
    · obtain ⟨y, hy, rfl⟩ := List.mem_map.mp hx
      exact line_no h2 fun t ht => ok t (by simp; exact .inr ⟨y, hy, ht⟩)
theorem render_runs {first later : List Nat} (h1 : Ind first) (h2 : Ind later) {segs : List (List Tk)} (ok : ∀ t ∈ segs.flatten, Tok t) : (render first later segs).map (runs false) = segs.map List.length := by
  cases segs with
  | nil => rfl
  | cons s r =>
    simp only [render, List.map_cons, List.map_map]
    rw [runs_line h1 fun t ht => ok t (by simp; exact .inl ht)]
    congr 1
    exact List.map_congr_left fun y hy => runs_line h2 fun t ht => ok t (by simp; exact .inr ⟨y, hy, ht⟩)
theorem render_sum {i1 i2 : List Nat} (hi1 : i1.length ≤ 64) (hi2 : i2.length ≤ 64) {rows : List (List Tk)} (hne : ∀ s ∈ rows, s ≠ []) (ok : ∀ t ∈ rows.flatten, Tok t ∧ t.1.length ≤ 100) (hlen : rows.flatten.length ≤ 64) :
    ((render i1 i2 rows).map List.length).sum + rows.length ≤ 500000 := by
  have h := sum_le (f := List.length) (B := 6592) (ls := render i1 i2 rows) (render_bound hi1 hi2 ok hlen)
  rw [render_len] at h
  have hc := flat_count hne
  have : rows.length * 6592 ≤ 64 * 6592 := Nat.mul_le_mul_right _ (by omega)
  omega
def fCount : S → S
  | .str s => .int (runs false s.cps.toList : Nat)
  | _ => .none
theorem map_count (ls : List (List Nat)) : (ofS ls).map fCount = ofI (ls.map fun l => ((runs false l : Nat) : Int)) := by
  unfold ofS ofI
  rw [List.map_map, List.map_map]
  refine List.map_congr_left fun x _ => ?_
  show S.int ((runs false (T x).cps.toList : Nat) : Int) = _
  rw [T_list]; rfl
theorem sum_counts (segs : List (List Tk)) : (segs.map fun s => (s.length : Int)).sum = (segs.flatten.length : Int) := by
  induction segs with
  | nil => rfl
  | cons s r ih => simp at ih ⊢; rw [ih]
theorem any_zero {segs : List (List Tk)} (h : ∀ s ∈ segs, s ≠ []) : ((segs.map fun s => (s.length : Int)).any (· == 0)) = false := by
  rw [List.any_eq_false]
  intro x hx
  obtain ⟨s, hs, rfl⟩ := List.mem_map.mp hx
  have := h s hs
  intro e
  have e' : (s.length : Int) = 0 := by simpa using e
  exact this (List.length_eq_zero_iff.mp (by omega))
section
variable {prog : Program} {w : World} {P : Params} {h₀ : Heap} {mg mb : Str → Option Value} {n : Nat} {sc : Scope} {m : Mp} {R : Fl → Mp → Prop}
theorem ex_comp {k : String} {p pos' : Pos} {elt iter : PySem.Expr} {x : String} {px pos : Pos} {scope : Scope} {items l : List S} (f : S → S) (hit : ItE prog w h₀ n sc m iter items) (he : items.map f = l) (ok : CompOk sc m scope x)
    (hel : ∀ y ∈ items, Ev prog w h₀ n (rl scope sc) ((x, .sc y) :: cmap scope m) elt (.sc (f y))) (hsz : items.length ≤ sizeLine) (hk : lc sc k)
    (hset : ∀ env xv, foldedSetIterable iter env xv = pure xv := by intro _ _; rfl) :
    Ex1 prog w h₀ n sc m (.Assign [.Name (Str.ofString k) p] (.ListComp elt [⟨.Name (Str.ofString x) px, iter, [], 0⟩] scope pos) pos') (To ((k, .own l) :: m)) := by
  subst he; exact ex_assign_comp f hit ok hel hsz hk hset
theorem g53 {P : Params} {h : Heap} {mg : Str → Option Value} (g : h.Ns mainGlobals mg) (K : (hd.heap_39 P).In h) : mg (Str.ofString "reformat_paragraph") = some (.ref 53) := by
  rw [mg_look g K (by rfl) (by rfl)]
  kernel_rfl
theorem g74 {P : Params} {h : Heap} {mg : Str → Option Value} (g : h.Ns mainGlobals mg) (K : (hd.heap_39 P).In h) : mg (Str.ofString "_law_columns") = some (.ref 74) := by
  rw [mg_look g K (by rfl) (by rfl)]
  kernel_rfl
end
theorem ful_last {s : List Tk} {t : Tk} (hs : s ≠ []) (h : s[s.length - 1]? = some t) : ful s = wid s + t.2 := by
  obtain ⟨a, u, rfl⟩ := snoc_of hs
  simp at h; subst h
  rw [wid_append, ful_append]; simp [ful, wid]; omega
theorem next_seg {segs : List (List Tk)} {k : Nat} (h : (segs.take (k + 1)).flatten.length < segs.flatten.length) : k + 1 < segs.length := by
  rcases Nat.lt_or_ge (k + 1) segs.length with h' | h'
  · exact h'
  · rw [List.take_of_length_le h'] at h; omega
theorem counts_at {segs : List (List Tk)} {k : Nat} {s : List Tk} (h : segs[k]? = some s) : (countsOf segs)[k]? = some (.int (s.length : Int)) := ofI_at (by simp [h])
theorem counts_len (segs : List (List Tk)) : (countsOf segs).length = segs.length := by simp [countsOf, ofI]
def fPick (ls : List (List Nat)) : S → S
  | .int i => .str (T (ls.getD i.toNat []))
  | _ => .none
theorem map_pick (ls : List (List Nat)) : (rng 0 1 ls.length).map (fPick ls) = ofS ls := by
  apply List.ext_getElem?
  intro i
  by_cases hi : i < ls.length
  · have e : (0 + (i : Int) * 1).toNat = i := by omega
    simp [rng, ofS, hi, fPick]
  · rw [List.getElem?_eq_none (by simp [rng]; omega), List.getElem?_eq_none (by simp [ofS]; omega)]
section
variable {prog : Program} {w : World} {P : Params} {h₀ : Heap} {mg mb : Str → Option Value} {n : Nat} {sc : Scope} {m : Mp} {R : Fl → Mp → Prop}
theorem lk_in {scope : Scope} {m : Mp} {k x : String} {d d' : D} (hne : x ≠ k) (h : (Str.ofString k, NameKind.free) ∈ scope.names) (e : lk m k = some d) : lk ((x, d') :: cmap scope m) k = some d := by
  rw [lk_other hne, lk_cm h, e]
theorem ite_of {sc : Scope} {m : Mp} {e : PySem.Expr} {l l' : List S} (h : ItE prog w h₀ n sc m e l) (he : l = l') : ItE prog w h₀ n sc m e l' := he ▸ h
end
section
variable {prog : Program} {w : World} {P : Params} {h₀ : Heap} {mg mb : Str → Option Value} {n : Nat} {sc : Scope} {m : Mp} {R : Fl → Mp → Prop}
theorem boot_len : bootBuiltins (Str.ofString "len") = some (.builtin "len") := by decide +kernel
theorem boot_sum : bootBuiltins (Str.ofString "sum") = some (.builtin "sum") := by decide +kernel
theorem boot_range : bootBuiltins (Str.ofString "range") = some (.type "range") := by decide +kernel
theorem no_len {P : Params} {h : Heap} {mg : Str → Option Value} (g : h.Ns mainGlobals mg) (K : (hd.heap_39 P).In h) : mg (Str.ofString "len") = none := by
  rw [mg_look g K (by rfl) (by rfl)]
  kernel_rfl
theorem no_sum {P : Params} {h : Heap} {mg : Str → Option Value} (g : h.Ns mainGlobals mg) (K : (hd.heap_39 P).In h) : mg (Str.ofString "sum") = none := by
  rw [mg_look g K (by rfl) (by rfl)]
  kernel_rfl
theorem no_range {P : Params} {h : Heap} {mg : Str → Option Value} (g : h.Ns mainGlobals mg) (K : (hd.heap_39 P).In h) : mg (Str.ofString "range") = none := by
  rw [mg_look g K (by rfl) (by rfl)]
  kernel_rfl
end
end Mine

end

section
open PySem PySem.W PyProof.Rows
set_option Elab.async false
set_option linter.unusedVariables false
namespace Mine
set_option maxRecDepth 100000

structure ToksOk (toks : List Tk) : Prop where
  ok : ∀ t ∈ toks, Tok t ∧ t.1.length ≤ 100
  len : toks.length ≤ 64
theorem ToksOk.sub {a b : List Tk} (h : ToksOk b) (hs : a.Sublist b) : ToksOk a := ⟨fun t ht => h.ok t (hs.mem ht), Nat.le_trans hs.length_le h.len⟩
theorem ToksOk.wid {toks : List Tk} (h : ToksOk toks) : (rowText toks).length ≤ 6528 ∧ (fullText toks).length ≤ 6528 := by
  have h1 := wid_le_ful toks
  have h2 := ful_le (B := 100) (s := toks) fun t ht => ⟨(h.ok t ht).2, tok_two (h.ok t ht).1⟩
  have := h.len
  have : toks.length * 102 ≤ 64 * 102 := Nat.mul_le_mul_right _ (by omega)
  rw [rowText_len, fullText_len]; omega

theorem joinL_nil : ∀ ls : List (List Nat), joinL [] ls = ls.flatten
  | [] => rfl
  | [x] => by simp [joinL]
  | x :: y :: r => by
    have e : joinL [] (x :: y :: r) = x ++ [] ++ joinL [] (y :: r) := rfl
    rw [e, joinL_nil (y :: r)]; simp
def gapW (t : Tk) : List Nat := t.1 ++ List.replicate t.2 32
theorem full_flat (s : List Tk) : (s.map gapW).flatten = fullText s := by
  induction s with
  | nil => rfl
  | cons t r ih => rw [List.map_cons, List.flatten_cons, ih]; simp [fullText, gapW]
def fGapW (toks : List Tk) : S → S
  | .int i => .str (T (gapW (toks.getD i.toNat ([], 0))))
  | _ => .none
theorem map_gapW {toks : List Tk} {a c : Nat} (h : a + c ≤ toks.length) : (rng (a : Int) 1 c).map (fGapW toks) = ofS (((toks.drop a).take c).map gapW) := by
  apply List.ext_getElem?
  intro i
  by_cases hi : i < c
  · obtain ⟨t, ht⟩ := at_of (l := toks) (i := a + i) (by omega)
    have e : ((a : Int) + (i : Int)).toNat = a + i := by omega
    simp [rng, ofS, hi, fGapW, e, ht]
  · rw [List.getElem?_eq_none (by simp [rng]; omega), List.getElem?_eq_none (by simp [ofS]; omega)]

section
variable {prog : Program} {w : World} {P : Params} {h₀ : Heap} {mg mb : Str → Option Value} {n : Nat}

theorem ev_ag {sc : Scope} {m : Mp} {e : PySem.Expr} {d : D} (h : Ev prog w h₀ n sc m e d) : Ev prog w h₀ n sc m e (ag d) := by
  intro A env s hs hr G
  refine wpF (h A env s hs hr G) fun v s' r => ⟨r.keeps, isD_ag r.is, ?_⟩
  cases d <;> trivial

theorem fn_joined (am : Amb mg mb h₀) (K : (hd.heap_39 P).In h₀) (grange : glb "range" (.type "range") mg mb) {toks : List Tk} (ok : ToksOk toks) {a b : Nat} (hab : a < b) (hb : b ≤ toks.length) :
    Fn prog w h₀ 1 (.ref 79) [.ls (wordsOf' toks), .ls (sizesOf toks), .sc (.int a), .sc (.int b)] (.sc (.str (T (rowText ((toks.drop a).take (b - a)))))) := by
  refine fn_def (n := 0) (names := ["words", "blanks", "a", "b"]) am (K 79 _ (by rfl)) (by rfl) ⟨78, _, _, _, rfl, K 78 _ (by rfl), rfl, rfl⟩ rfl (by decide) (by simp [Param]) (fun vs hv => ?_) (fun x hx => ?_) ?_ trivial
  · obtain ⟨a, b, c, d, rfl⟩ := four_of hv; rfl
  · simp at hx; rcases hx with rfl | rfl | rfl | rfl
    · exact .inr (by decide +kernel)
    · exact .inr (by decide +kernel)
    · exact .inl (by decide +kernel)
    · exact .inl (by decide +kernel)
  have hsl : sizeLine = 16777216 := rfl
  have hlen := ok.len
  have gr : Gl mg mb (defScope (nth PySem.Challenge.pw_lg0017_01.main.body 10)) "range" (.type "range") := ⟨by decide +kernel, grange, by decide +kernel⟩
  have hc : ((b : Int) - 1 - (a : Int)).toNat = b - 1 - a := by omega
  have hmap := map_gapW (toks := toks) (a := a) (c := b - 1 - a) (by omega)
  obtain ⟨u, hu⟩ := at_of (l := toks) (i := b - 1) (by omega)
  have hsub : ToksOk ((toks.drop a).take (b - 1 - a)) := ok.sub ((List.take_sublist _ _).trans (List.drop_sublist _ _))
  have hw1 := hsub.wid.2
  have hu1 := ok.ok u (List.mem_of_getElem? hu)
  have hseg : fullText ((toks.drop a).take (b - 1 - a)) ++ u.1 = rowText ((toks.drop a).take (b - a)) := by
    have hl : ((toks.drop a).take (b - a)).length = b - a := by simp; omega
    have h1 := row_last (s := (toks.drop a).take (b - a)) (t := u) (fun e => by rw [e] at hl; simp at hl; omega) (by
      rw [hl, List.getElem?_take_of_lt (by omega), List.getElem?_drop]
      rw [show a + (b - a - 1) = b - 1 by omega]; exact hu)
    rw [hl, List.take_take, Nat.min_eq_left (by omega)] at h1
    rw [show b - 1 - a = b - a - 1 by omega]; exact h1
  have hsum : ((((toks.drop a).take (b - 1 - a)).map gapW).map List.length).sum ≤ 6528 := by
    rw [← List.length_flatten, full_flat]; exact hw1
  show Ex prog w h₀ 0 (defScope (nth PySem.Challenge.pw_lg0017_01.main.body 10)) [("words", .ls (wordsOf' toks)), ("blanks", .ls (sizesOf toks)), ("a", .sc (.int a)), ("b", .sc (.int b))] (fdefBody 10) _
  refine ex_one (ex_return (d := .sc (.str (T (rowText ((toks.drop a).take (b - a)))))) (ev_of (ev_bin (ev_me1 (ev_strT (l := []) (by decide +kernel)) (ev_comp (items := rng (a : Int) 1 (b - 1 - a)) (fGapW toks) (ite_of (ite_range (ev_range2 am gr (ev_name (d := .sc (.int a)) rfl) (ev_bin (ev_name (d := .sc (.int b)) rfl) ev_int op_sub) (by omega) (by omega) (by omega) (by omega))) (by rw [hc])) ?_ ?_ (by rw [rng_len]; omega))
    (me_join (ls := ((toks.drop a).take (b - 1 - a)).map gapW) (congrArg some hmap) (joinOk_of (by simp at hsum ⊢; omega)))) (ev_item (x := .str (T u.1)) (ev_name (d := .ls (wordsOf' toks)) rfl) (ev_bin (ev_name (d := .sc (.int b)) rfl) ev_int op_sub) rfl (by omega) (by rw [show ((b : Int) - 1).toNat = b - 1 by omega]; exact words_at hu) (by rw [words_len]; omega)) (op_catT ?_)) ?_) rfl)
  · refine ⟨rfl, by decide +kernel, by decide +kernel, by decide +kernel, fun y hy hf => ?_⟩
    simp only [List.mem_cons, List.not_mem_nil, or_false] at hy
    rcases hy with rfl | rfl | rfl | rfl
    · cases hf
    · cases hf
    · exact ⟨by decide +kernel, by decide +kernel, "blanks", _, rfl, rfl⟩
    · exact ⟨by decide +kernel, by decide +kernel, "words", _, rfl, rfl⟩
  · intro y hy
    obtain ⟨k, hk⟩ := List.getElem?_of_mem hy
    obtain ⟨hk1, rfl⟩ := rng_at hk
    obtain ⟨t, ht⟩ := at_of (l := toks) (i := a + k) (by omega)
    have hto := ok.ok t (List.mem_of_getElem? ht)
    have ht2 := tok_two hto.1
    have ek : ((a : Int) + (k : Int) * 1).toNat = a + k := by omega
    refine ev_of (ev_bin (ev_item (x := .str (T t.1)) (ev_name (d := .ls (wordsOf' toks)) (lk_in (by decide) (by decide +kernel) rfl)) (ev_name (d := .sc (.int ((a : Int) + (k : Int) * 1))) rfl) rfl (by omega) (by rw [ek]; exact words_at ht) (by rw [words_len]; omega))
      (ev_bin ev_sp (ev_item (x := .int (t.2 : Int)) (ev_name (d := .ls (sizesOf toks)) (lk_in (by decide) (by decide +kernel) rfl)) (ev_name (d := .sc (.int ((a : Int) + (k : Int) * 1))) rfl) rfl (by omega) (by rw [ek]; exact sizes_at ht) (by rw [sizes_len]; omega)) (op_smul (by simp; omega) (by omega))) (op_catT (by rw [repL_len]; simp; omega))) ?_
    rw [repL_one, Int.toNat_natCast]
    show _ = D.sc (S.str (T (gapW (toks.getD ((a : Int) + (k : Int) * 1).toNat ([], 0)))))
    rw [ek, List.getD_eq_getElem?_getD, ht]
    rfl
  · rw [joinL_nil, full_flat]; omega
  · rw [joinL_nil, full_flat, hseg]

def text01 (first later : List Nat) : List Tk → List Nat
  | [] => first
  | [t] => first ++ t.1
  | t :: u :: r => first ++ t.1 ++ [10] ++ later ++ rowText (u :: r)

theorem g79 {P : Params} {h : Heap} {mg : Str → Option Value} (g : h.Ns mainGlobals mg) (K : (hd.heap_39 P).In h) : mg (Str.ofString "_law_joined") = some (.ref 79) := by
  rw [mg_look g K (by rfl) (by rfl)]
  kernel_rfl

theorem fn_text01 (am : Amb mg mb h₀) (K : (hd.heap_39 P).In h₀) (glen : glb "len" (.builtin "len") mg mb) (grange : glb "range" (.type "range") mg mb) {first later : List Nat} {toks : List Tk} (hne : toks ≠ []) (ok : ToksOk toks) (h1 : first.length ≤ 64) (h2 : later.length ≤ 64) :
    Fn prog w h₀ 2 (.ref 86) [.ls (wordsOf' toks), .ls (sizesOf toks), .sc (.str (T first)), .sc (.str (T later))] (.sc (.str (T (text01 first later toks)))) := by
  refine fn_def (n := 1) (names := ["words", "blanks", "first", "later"]) am (K 86 _ (by rfl)) (by rfl) ⟨85, _, _, _, rfl, K 85 _ (by rfl), rfl, rfl⟩ rfl (by decide) (by simp [Param]) (fun vs hv => ?_) (fun x hx => ?_) ?_ trivial
  · obtain ⟨a, b, c, d, rfl⟩ := four_of hv; rfl
  · simp at hx; rcases hx with rfl | rfl | rfl | rfl <;> exact .inl (by decide +kernel)
  have hsl : sizeLine = 16777216 := rfl
  have hlen := ok.len
  have hwl := words_len toks
  have gl : Gl mg mb (defScope (nth PySem.Challenge.pw_lg0017_01.main.body 11)) "len" (.builtin "len") := ⟨by decide +kernel, glen, by decide +kernel⟩
  have gj : Gl mg mb (defScope (nth PySem.Challenge.pw_lg0017_01.main.body 11)) "_law_joined" (.ref 79) := ⟨by decide +kernel, .inl (g79 am.g K), by decide +kernel⟩
  show Ex prog w h₀ 1 (defScope (nth PySem.Challenge.pw_lg0017_01.main.body 11)) [("words", .ls (wordsOf' toks)), ("blanks", .ls (sizesOf toks)), ("first", .sc (.str (T first))), ("later", .sc (.str (T later)))] (fdefBody 11) _
  cases toks with
  | nil => exact absurd rfl hne
  | cons t r =>
    have ht := ok.ok t List.mem_cons_self
    cases r with
    | nil =>
      refine ex_cons (R₁ := fun f m' => f = .ret (.sc (.str (T (text01 first later [t])))) ∧ m' = _) (ex_if_tt (tr_of (tr_cmp (ev_call am gl (fn_len_list rfl (by omega)) ⟨ev_name (d := .ls (wordsOf' [t])) rfl, trivial⟩) ev_int cm_eq) (by rw [hwl]; rfl))
        (ex_one (ex_return (ev_bin (ev_name (d := .sc (.str (T first))) rfl) (ev_item (x := .str (T t.1)) (ev_name (d := .ls (wordsOf' [t])) rfl) ev_int rfl (by decide) rfl (by omega)) (op_catT (by omega))) ⟨rfl, rfl⟩))) (fun m' h => by cases h.1) (fun f m' _ h => h.1)
    | cons u r =>
      have hsub : ToksOk (u :: r) := ok.sub (List.sublist_cons_self _ _)
      have hw := hsub.wid.1
      refine ex_step (ex_if_ff (tr_of (tr_cmp (ev_call am gl (fn_len_list rfl (by omega)) ⟨ev_name (d := .ls (wordsOf' (t :: u :: r))) rfl, trivial⟩) ev_int cm_eq) (by rw [hwl, decide_eq_false_iff_not]; simp; omega)) (ex_nil ⟨rfl, rfl⟩)) ?_
      have hj := fn_joined (prog := prog) (w := w) am K grange ok (a := 1) (b := (t :: u :: r).length) (by simp) (Nat.le_refl _)
      have e1 : ((t :: u :: r).drop 1).take ((t :: u :: r).length - 1) = u :: r := by simp
      rw [e1] at hj
      exact ex_one (ex_return (d := .sc (.str (T (text01 first later (t :: u :: r))))) (ev_bin (ev_bin (ev_bin (ev_bin (ev_name (d := .sc (.str (T first))) rfl) (ev_item (x := .str (T t.1)) (ev_name (d := .ls (wordsOf' (t :: u :: r))) rfl) ev_int rfl (by decide) rfl (by omega)) (op_catT (by omega))) ev_nl (op_catT (by simp; omega))) (ev_name (d := .sc (.str (T later))) rfl) (op_catT (by simp; omega)))
        (ev_call am gj hj ⟨ev_name (d := .ls (wordsOf' (t :: u :: r))) rfl, ev_name (d := .ls (sizesOf (t :: u :: r))) rfl, ev_int, ev_of (ev_call am gl (fn_len_list rfl (by omega)) ⟨ev_name (d := .ls (wordsOf' (t :: u :: r))) rfl, trivial⟩) (by rw [hwl]), trivial⟩) (op_catT (by simp; omega))) rfl)
end
end Mine

end

section
open PySem PySem.W PyProof.Rows
set_option Elab.async false
set_option linter.unusedVariables false
namespace Mine
set_option maxRecDepth 100000

theorem seg_at {segs : List (List Tk)} {i : Nat} {s rest : List Tk} (h : segs[i]? = some s) : ((segs.flatten ++ rest).drop (segs.take i).flatten.length).take s.length = s := by
  have hlt := lt_of_at h
  have e : segs = segs.take i ++ s :: segs.drop (i + 1) := by
    have h1 := List.take_append_drop i segs
    rw [List.drop_eq_getElem_cons hlt] at h1
    rw [List.getElem?_eq_getElem hlt] at h
    cases h; exact h1.symm
  have e2 : segs.flatten ++ rest = (segs.take i).flatten ++ (s ++ ((segs.drop (i + 1)).flatten ++ rest)) := by
    conv => lhs; rw [e]
    simp
  rw [e2, List.drop_left' rfl, List.take_left' rfl]
theorem joinL_append : ∀ (a b : List (List Nat)), a ≠ [] → b ≠ [] → joinL [10] (a ++ b) = joinL [10] a ++ [10] ++ joinL [10] b
  | [], b, h, _ => absurd rfl h
  | [x], b, _, hb => by
    cases b with
    | nil => exact absurd rfl hb
    | cons y r => rfl
  | x :: y :: r, b, _, hb => by
    have ih := joinL_append (y :: r) b (by simp) hb
    have e1 : joinL [10] (x :: y :: r ++ b) = x ++ [10] ++ joinL [10] (y :: r ++ b) := rfl
    have e2 : joinL [10] (x :: y :: r) = x ++ [10] ++ joinL [10] (y :: r) := rfl
    rw [e1, ih, e2]; simp
theorem sum_counts' (segs : List (List Tk)) : (segs.map fun s => (s.length : Int)).sum = (segs.flatten.length : Int) := sum_counts segs

section
variable {prog : Program} {w : World} {P : Params} {h₀ : Heap} {mg mb : Str → Option Value} {n : Nat}

def mLn (toks : List Tk) (segs : List (List Tk)) (first later : List Nat) : Mp :=
  [("words", .ls (wordsOf' toks)), ("blanks", .ls (sizesOf toks)), ("first", .sc (.str (T first))), ("later", .sc (.str (T later))), ("counts", .ls (countsOf segs))]

theorem fn_lines01 (am : Amb mg mb h₀) (K : (hd.heap_39 P).In h₀) (grange : glb "range" (.type "range") mg mb) {first later : List Nat} {toks rest : List Tk} {segs : List (List Tk)}
    (hseg : segs.flatten ++ rest = toks) (hne : ∀ s ∈ segs, s ≠ []) (ok : ToksOk toks) (h1 : first.length ≤ 64) (h2 : later.length ≤ 64) :
    Fn prog w h₀ 2 (.ref 93) [.ls (wordsOf' toks), .ls (sizesOf toks), .sc (.str (T first)), .sc (.str (T later)), .ls (countsOf segs)] (.sc (.str (T (joinL [10] (render first later segs))))) := by
  refine fn_def (n := 1) (names := ["words", "blanks", "first", "later", "counts"]) am (K 93 _ (by rfl)) (by rfl) ⟨92, _, _, _, rfl, K 92 _ (by rfl), rfl, rfl⟩ rfl (by decide) (by simp [Param]) (fun vs hv => ?_) (fun x hx => ?_) ?_ trivial
  · obtain ⟨a, b, c, d, e, rfl⟩ := five_of hv; rfl
  · simp at hx; rcases hx with rfl | rfl | rfl | rfl | rfl <;> exact .inl (by decide +kernel)
  have hsl : sizeLine = 16777216 := rfl
  have hlen := ok.len
  have hfl : segs.flatten.length ≤ toks.length := by rw [← hseg, List.length_append]; omega
  have hcnt := flat_count hne
  have okf : ToksOk segs.flatten := ok.sub (by rw [← hseg]; exact List.sublist_append_left _ _)
  have hsum := render_sum (i1 := first) (i2 := later) h1 h2 hne okf.ok okf.len
  have hrl := render_len first later segs
  have gj : Gl mg mb (defScope (nth PySem.Challenge.pw_lg0017_01.main.body 12)) "_law_joined" (.ref 79) := ⟨by decide +kernel, .inl (g79 am.g K), by decide +kernel⟩
  show Ex prog w h₀ 1 (defScope (nth PySem.Challenge.pw_lg0017_01.main.body 12)) (mLn toks segs first later) (fdefBody 12) _
  refine ex_step (ex_assign (k := "lines") (d := .new []) (ev_list (l := []) trivial (by simp)) (.inl (by decide +kernel))) ?_
  refine ex_step (ex_assign (k := "at") ev_int (.inl (by decide +kernel))) ?_
  refine ex_step (m₁ := ("at", .sc (.int segs.flatten.length)) :: ("lines", .own (ofS (render first later segs))) :: mLn toks segs first later)
    (ex_for (x := "count") (fun i mi => mi = ("at", .sc (.int ((segs.take i).flatten.length : Nat))) :: ("lines", .own (ofS ((render first later segs).take i))) :: mLn toks segs first later)
      (it_ls (l := countsOf segs) rfl) (.inl (by decide +kernel)) ?_ ?_ rfl) ?_
  · intro i y mi hy hmi
    subst hmi
    have hi : i < segs.length := by have := lt_of_at hy; rwa [counts_len] at this
    obtain ⟨s, hs⟩ := at_of hi
    have hsm : s ∈ segs := List.mem_of_getElem? hs
    have hsne := hne s hsm
    have hy' : y = S.int (s.length : Int) := by rw [counts_at hs] at hy; cases hy; rfl
    subst hy'
    have hs1 : 1 ≤ s.length := by cases s with | nil => exact absurd rfl hsne | cons _ _ => simp
    have htf := take_full hs
    have htl := take_flat_le segs (i + 1)
    have hsat := seg_at (rest := rest) hs
    rw [hseg] at hsat
    generalize hat : (segs.take i).flatten.length = at' at *
    have hpos : decide ((0 : Int) < ((at' : Nat) : Int)) = decide (i ≠ 0) := by
      rw [decide_eq_decide]
      constructor
      · rintro h rfl
        simp at hat; omega
      · intro h
        have hc := flat_count (rows := segs.take i) fun x hx => hne x (List.mem_of_mem_take hx)
        rw [hat] at hc; simp at hc; omega
    have hind : ∃ ind, ind = (if i = 0 then first else later) ∧ ind.length ≤ 64 := ⟨_, rfl, by split <;> assumption⟩
    obtain ⟨ind, hie, hil⟩ := hind
    have hren := render_at (i1 := first) (i2 := later) hs
    rw [← hie] at hren
    have hj := fn_joined (prog := prog) (w := w) am K grange ok (a := at') (b := at' + s.length) (by omega) (by omega)
    rw [Nat.add_sub_cancel_left, hsat] at hj
    have hrow : (rowText s).length ≤ 6528 := (ok.sub (show s.Sublist toks by rw [← hsat]; exact (List.take_sublist _ _).trans (List.drop_sublist _ _))).wid.1
    refine ex_step (ex_append (k := "lines") (l := ofS ((render first later segs).take i)) (x := .str (T (ind ++ rowText s))) rfl
      (ev_bin (d₁ := .sc (.str (T ind))) ?_ (ev_call am gj hj ⟨ev_name (d := .ls (wordsOf' toks)) rfl, ev_name (d := .ls (sizesOf toks)) rfl, ev_name (d := .sc (.int at')) rfl, ev_of (ev_bin (ev_name (d := .sc (.int at')) rfl) (ev_name (d := .sc (.int s.length)) rfl) op_add) (by rw [Int.natCast_add]), trivial⟩) (op_catT (by omega))) (by rw [ofS_len]; simp; omega)) ?_
    · by_cases hi0 : i = 0
      · rw [hie, if_pos hi0]
        exact ev_ite_ff (tr_of (tr_cmp (ev_name (d := .sc (.int at')) rfl) ev_int cm_gt) (by rw [hpos]; simpa using hi0)) (ev_name (d := .sc (.str (T first))) rfl)
      · rw [hie, if_neg hi0]
        exact ev_ite_tt (tr_of (tr_cmp (ev_name (d := .sc (.int at')) rfl) ev_int cm_gt) (by rw [hpos]; simpa using hi0)) (ev_name (d := .sc (.str (T later))) rfl)
    refine ex_mono (ex_one (ex_aug (k := "at") (d₁ := .sc (.int at')) rfl (ev_name (d := .sc (.int s.length)) rfl) ip_add (.inl (by decide +kernel)))) fun f m' h => .inl ⟨.inl h.1, _, rfl, ?_⟩
    rw [h.2, htf]
    have el : ofS ((render first later segs).take i) ++ [S.str (T (ind ++ rowText s))] = ofS ((render first later segs).take (i + 1)) := by
      rw [take_succ hren]; simp [ofS]
    rw [el]
    refine less_of fun p hp => ?_
    simp only [mLn, List.mem_cons, List.not_mem_nil, or_false] at hp
    rcases hp with rfl | rfl | rfl | rfl | rfl | rfl | rfl <;> rfl
  · intro mi hmi
    subst hmi
    rw [counts_len, List.take_length, List.take_of_length_le (by rw [render_len]; exact Nat.le_refl _)]
    exact ⟨rfl, rfl⟩
  · exact ex_one (ex_return (ev_me1 ev_nl (ev_name (d := .own (ofS (render first later segs))) rfl) (me_join rfl (joinOk_of (by simp; omega)))) rfl)

theorem fn_ref01 (am : Amb mg mb h₀) (K : (hd.heap_39 P).In h₀) (glen : glb "len" (.builtin "len") mg mb) (grange : glb "range" (.type "range") mg mb) {first later : List Nat} {lim : Int} {t : Tk} {r : List Tk} (ht : t.2 = 1) (ok : ToksOk (t :: r))
    (h1 : Ind first) (h2 : Ind later) (hl1 : first.length ≤ 64) (hl2 : later.length ≤ 64) :
    Fn prog w h₀ 2 (.ref 53) [.sc (.str (T (text01 first later (t :: r)))), .sc (.int lim)] (.sc (.str (T (joinL [10] (render first later (start lim (cols first) (cols later) (t :: r))))))) := by
  have okt := ok.ok t List.mem_cons_self
  have hno : 10 ∉ first ++ t.1 := line_no (s := [t]) h1 (fun x hx => by simp at hx; subst hx; exact okt.1)
  cases r with
  | nil => exact fn_text am K glen grange (rows := []) (a := []) (t := t) h1 h2 hl1 hl2 (by simp) ok.ok ok.len (splitL_one hno) (fun _ => .inr rfl)
  | cons u r =>
    obtain ⟨a, v, e⟩ := snoc_of (s := u :: r) (by simp)
    have hsp : splitL (text01 first later (t :: u :: r)) = render first later ([[t]] ++ [u :: r]) := by
      have e1 : text01 first later (t :: u :: r) = (first ++ t.1) ++ 10 :: (later ++ rowText (u :: r)) := by simp [text01]
      rw [e1, splitL_nl _ hno, splitL_one (line_no h2 fun x hx => (ok.ok x (List.mem_cons_of_mem _ hx)).1)]
      rfl
    have ok' := ok.ok
    have hl' := ok.len
    have := fn_text (prog := prog) (w := w) am K glen grange (l := text01 first later (t :: u :: r)) (lim := lim) (rows := [[t]]) (a := a) (t := v) h1 h2 hl1 hl2 (by intro s hs; simp at hs; subst hs; exact ⟨[], t, rfl, ht⟩) (by rw [← e]; exact ok') (by rw [← e]; exact hl') (by rw [← e]; exact hsp) (fun h => by cases h)
    rw [← e] at this
    exact this

theorem fn_refRest (am : Amb mg mb h₀) (K : (hd.heap_39 P).In h₀) (glen : glb "len" (.builtin "len") mg mb) (grange : glb "range" (.type "range") mg mb) {later : List Nat} {lim : Int} {rest : List Tk} (hne : rest ≠ []) (ok : ToksOk rest)
    (h2 : Ind later) (hl2 : later.length ≤ 64) :
    Fn prog w h₀ 2 (.ref 53) [.sc (.str (T (later ++ rowText rest))), .sc (.int lim)] (.sc (.str (T (joinL [10] (render later later (start lim (cols later) (cols later) rest)))))) := by
  obtain ⟨a, v, e⟩ := snoc_of hne
  have := fn_text (prog := prog) (w := w) am K glen grange (l := later ++ rowText rest) (lim := lim) (rows := []) (a := a) (t := v) h2 h2 hl2 hl2 (by simp) (by rw [← e]; exact ok.ok) (by rw [← e]; exact ok.len) (by rw [← e]; exact splitL_one (line_no h2 fun x hx => (ok.ok x hx).1)) (fun _ => .inl rfl)
  rw [← e] at this
  exact this

theorem g93 {P : Params} {h : Heap} {mg : Str → Option Value} (g : h.Ns mainGlobals mg) (K : (hd.heap_39 P).In h) : mg (Str.ofString "_law_lines") = some (.ref 93) := by
  rw [mg_look g K (by rfl) (by rfl)]
  kernel_rfl
theorem six_of {vs : List Value} (h : vs.length = 6) : ∃ a b c d e f, vs = [a, b, c, d, e, f] := by
  match vs, h with
  | [a, b, c, d, e, f], _ => exact ⟨a, b, c, d, e, f, rfl⟩

def restOut (first later : List Nat) (lim : Int) (segs : List (List Tk)) (rest : List Tk) : List Nat :=
  joinL [10] (render first later segs ++ render later later (start lim (cols later) (cols later) rest))

theorem fn_rest (am : Amb mg mb h₀) (K : (hd.heap_39 P).In h₀) (glen : glb "len" (.builtin "len") mg mb) (grange : glb "range" (.type "range") mg mb) (gsum : glb "sum" (.builtin "sum") mg mb) {first later : List Nat} {lim : Int} {toks rest : List Tk} {segs : List (List Tk)}
    (hseg : segs.flatten ++ rest = toks) (hne : ∀ s ∈ segs, s ≠ []) (hsome : segs ≠ []) (ok : ToksOk toks) (h2' : Ind later) (h1 : first.length ≤ 64) (h2 : later.length ≤ 64) :
    Fn prog w h₀ 3 (.ref 100) [.ls (wordsOf' toks), .ls (sizesOf toks), .sc (.str (T first)), .sc (.str (T later)), .ls (countsOf segs), .sc (.int lim)] (.sc (.str (T (restOut first later lim segs rest)))) := by
  refine fn_def (n := 2) (names := ["words", "blanks", "first", "later", "counts", "limit"]) am (K 100 _ (by rfl)) (by rfl) ⟨99, _, _, _, rfl, K 99 _ (by rfl), rfl, rfl⟩ rfl (by decide) (by simp [Param]) (fun vs hv => ?_) (fun x hx => ?_) ?_ trivial
  · obtain ⟨a, b, c, d, e, f, rfl⟩ := six_of hv; rfl
  · simp at hx; rcases hx with rfl | rfl | rfl | rfl | rfl | rfl <;> exact .inl (by decide +kernel)
  have hsl : sizeLine = 16777216 := rfl
  have hlen := ok.len
  have hwl := words_len toks
  have hfl : segs.flatten.length + rest.length = toks.length := by rw [← hseg, List.length_append]
  have okf : ToksOk segs.flatten := ok.sub (by rw [← hseg]; exact List.sublist_append_left _ _)
  have okr : ToksOk rest := ok.sub (by rw [← hseg]; exact List.sublist_append_right _ _)
  have hsum := render_sum (i1 := first) (i2 := later) h1 h2 hne okf.ok okf.len
  have hrl := render_len first later segs
  have hjl := joinL_len (render first later segs)
  have gl : Gl mg mb (defScope (nth PySem.Challenge.pw_lg0017_01.main.body 13)) "len" (.builtin "len") := ⟨by decide +kernel, glen, by decide +kernel⟩
  have gs : Gl mg mb (defScope (nth PySem.Challenge.pw_lg0017_01.main.body 13)) "sum" (.builtin "sum") := ⟨by decide +kernel, gsum, by decide +kernel⟩
  have gj : Gl mg mb (defScope (nth PySem.Challenge.pw_lg0017_01.main.body 13)) "_law_joined" (.ref 79) := ⟨by decide +kernel, .inl (g79 am.g K), by decide +kernel⟩
  have gn : Gl mg mb (defScope (nth PySem.Challenge.pw_lg0017_01.main.body 13)) "_law_lines" (.ref 93) := ⟨by decide +kernel, .inl (g93 am.g K), by decide +kernel⟩
  have gr : Gl mg mb (defScope (nth PySem.Challenge.pw_lg0017_01.main.body 13)) "reformat_paragraph" (.ref 53) := ⟨by decide +kernel, .inl (g53 am.g K), by decide +kernel⟩
  show Ex prog w h₀ 2 (defScope (nth PySem.Challenge.pw_lg0017_01.main.body 13)) (("words", .ls (wordsOf' toks)) :: ("blanks", .ls (sizesOf toks)) :: ("first", .sc (.str (T first))) :: ("later", .sc (.str (T later))) :: ("counts", .ls (countsOf segs)) :: ("limit", .sc (.int lim)) :: []) (fdefBody 13) _
  refine ex_step (ex_assign (k := "due") (ev_call am gn (fn_lines01 am K grange hseg hne ok h1 h2) ⟨ev_name (d := .ls (wordsOf' toks)) rfl, ev_name (d := .ls (sizesOf toks)) rfl, ev_name (d := .sc (.str (T first))) rfl, ev_name (d := .sc (.str (T later))) rfl, ev_name (d := .ls (countsOf segs)) rfl, trivial⟩) (.inl (by decide +kernel))) ?_
  refine ex_step (ex_assign (k := "at") (d := .sc (.int (segs.flatten.length : Nat))) (ev_of (ev_call am gs (fn_sum (l := segs.map fun s => (s.length : Int)) rfl) ⟨ev_name (d := .ls (countsOf segs)) rfl, trivial⟩) (by rw [sum_counts])) (.inl (by decide +kernel))) ?_
  by_cases hr : rest = []
  · subst hr
    have hend : restOut first later lim segs [] = joinL [10] (render first later segs) := by unfold restOut; simp [start, render]
    rw [hend]
    refine ex_cons (R₁ := fun f m' => f = .ret (.sc (.str (T (joinL [10] (render first later segs))))) ∧ m' = _) (ex_if_tt (tr_of (tr_cmp (ev_name (d := .sc (.int (segs.flatten.length : Nat))) rfl) (ev_call am gl (fn_len_list rfl (by omega)) ⟨ev_name (d := .ls (wordsOf' toks)) rfl, trivial⟩) cm_eq) (by rw [hwl, decide_eq_true_eq]; simp only [List.length_nil] at hfl; omega))
      (ex_one (ex_return (ev_name (d := .sc (.str (T (joinL [10] (render first later segs))))) rfl) ⟨rfl, rfl⟩))) (fun m' h => by cases h.1) (fun f m' _ h => h.1)
  · have hr1 : 1 ≤ rest.length := by cases rest with | nil => exact absurd rfl hr | cons _ _ => simp
    refine ex_step (ex_if_ff (tr_of (tr_cmp (ev_name (d := .sc (.int (segs.flatten.length : Nat))) rfl) (ev_call am gl (fn_len_list rfl (by omega)) ⟨ev_name (d := .ls (wordsOf' toks)) rfl, trivial⟩) cm_eq) (by rw [hwl, decide_eq_false_iff_not]; omega)) (ex_nil ⟨rfl, rfl⟩)) ?_
    have hj := fn_joined (prog := prog) (w := w) am K grange ok (a := segs.flatten.length) (b := toks.length) (by omega) (Nat.le_refl _)
    have e1 : (toks.drop segs.flatten.length).take (toks.length - segs.flatten.length) = rest := by
      rw [← hseg, List.drop_left' rfl, List.take_of_length_le (by simp)]
    rw [e1] at hj
    have hrow := okr.wid.1
    have S := segs_ok (lim := lim) (first := later) (later := later) hr
    have hfr := fn_refRest (prog := prog) (w := w) (lim := lim) am K glen grange hr okr h2' h2
    have hdef : restOut first later lim segs rest = joinL [10] (render first later segs ++ render later later (start lim (cols later) (cols later) rest)) := rfl
    rw [hdef]
    generalize start lim (cols later) (cols later) rest = ss at *
    have hsum2 := render_sum (i1 := later) (i2 := later) h2 h2 S.ne (by rw [S.flat]; exact okr.ok) (by rw [S.flat]; exact okr.len)
    have hrl2 := render_len later later ss
    have hjl2 := joinL_len (render later later ss)
    rw [joinL_append _ _ (fun e => by rw [e] at hrl; exact hsome (List.length_eq_zero_iff.mp hrl.symm)) (fun e => by rw [e] at hrl2; exact S.some (List.length_eq_zero_iff.mp hrl2.symm))]
    exact ex_one (ex_return (ev_bin (ev_bin (ev_name (d := .sc (.str (T (joinL [10] (render first later segs))))) rfl) ev_nl (op_catT (by simp; omega)))
      (ev_call am gr hfr ⟨ev_bin (ev_name (d := .sc (.str (T later))) rfl) (ev_call am gj (hj.le (by omega)) ⟨ev_name (d := .ls (wordsOf' toks)) rfl, ev_name (d := .ls (sizesOf toks)) rfl, ev_name (d := .sc (.int (segs.flatten.length : Nat))) rfl, ev_of (ev_call am gl (fn_len_list rfl (by omega)) ⟨ev_name (d := .ls (wordsOf' toks)) rfl, trivial⟩) (by rw [hwl]), trivial⟩) (op_catT (by omega)), ev_name (d := .sc (.int lim)) rfl, trivial⟩) (op_catT (by simp; omega))) rfl)
end
end Mine

end

section
open PySem PySem.W PyProof.Rows
set_option Elab.async false
set_option linter.unusedVariables false
namespace Mine
set_option maxRecDepth 100000

/-! words made longer -/
def ext (n : Nat) (t : Tk) : Tk := (t.1 ++ List.replicate n 43, t.2)
def fillAt (n : Nat) : Nat → List Tk → List Tk
  | _, [] => []
  | 0, t :: r => ext n t :: r
  | i + 1, t :: r => t :: fillAt n i r
def pickOf : List Tk → Nat
  | [] => 0
  | t :: r => t.1.length % (r.length + 1)
def fill (s : List Tk) (r : Int) : List Tk := fillAt r.toNat (pickOf s) s
def fills (segs : List (List Tk)) (rooms : List Int) : List (List Tk) := List.zipWith fill segs rooms

theorem fillAt_len (n : Nat) : ∀ (i : Nat) (s : List Tk), (fillAt n i s).length = s.length
  | _, [] => by cases ‹Nat› <;> rfl
  | 0, t :: r => rfl
  | i + 1, t :: r => by simp [fillAt, fillAt_len n i r]
theorem fillAt_at (n : Nat) : ∀ (i : Nat) (s : List Tk) (j : Nat) (t : Tk), s[j]? = some t → (fillAt n i s)[j]? = some (if j = i then ext n t else t)
  | _, [], j, t, h => by simp at h
  | 0, x :: r, 0, t, h => by simp at h; subst h; rfl
  | 0, x :: r, j + 1, t, h => by simp at h; simp [fillAt, h]
  | i + 1, x :: r, 0, t, h => by simp at h; subst h; simp [fillAt]
  | i + 1, x :: r, j + 1, t, h => by
    have := fillAt_at n i r j t (by simpa using h)
    simp [fillAt, this]
theorem ful_fillAt (n : Nat) : ∀ (i : Nat) (s : List Tk), i < s.length → ful (fillAt n i s) = ful s + n
  | _, [], h => by simp at h
  | 0, t :: r, _ => by simp [fillAt, ful, ext]; omega
  | i + 1, t :: r, h => by
    have := ful_fillAt n i r (by simpa using h)
    simp [fillAt, ful, this]; omega
theorem wid_cons (t : Tk) {r : List Tk} (h : r ≠ []) : wid (t :: r) = t.1.length + t.2 + wid r := by
  cases r with
  | nil => exact absurd rfl h
  | cons u r => rfl
theorem fillAt_ne {n i : Nat} {s : List Tk} (h : s ≠ []) : fillAt n i s ≠ [] := by
  intro e
  have := fillAt_len n i s
  rw [e] at this
  exact h (List.length_eq_zero_iff.mp this.symm)
theorem wid_fillAt (n : Nat) : ∀ (i : Nat) (s : List Tk), i < s.length → wid (fillAt n i s) = wid s + n
  | _, [], h => by simp at h
  | 0, t :: r, _ => by
    cases r with
    | nil => simp [fillAt, wid, ext]
    | cons u r => simp [fillAt, wid, ext]; omega
  | i + 1, t :: r, h => by
    have hr : r ≠ [] := by rintro rfl; simp at h
    have := wid_fillAt n i r (by simpa using h)
    show wid (t :: fillAt n i r) = _
    rw [wid_cons t (fillAt_ne hr), wid_cons t hr, this]; omega
theorem pick_lt {s : List Tk} (h : s ≠ []) : pickOf s < s.length := by
  cases s with
  | nil => exact absurd rfl h
  | cons t r => exact Nat.mod_lt _ (by simp)
theorem fill_len (s : List Tk) (r : Int) : (fill s r).length = s.length := fillAt_len ..
theorem fill_mem {s : List Tk} {r : Int} {t : Tk} (h : t ∈ fill s r) : ∃ u ∈ s, t.2 = u.2 ∧ (t = u ∨ t = ext r.toNat u) := by
  obtain ⟨j, hj⟩ := List.getElem?_of_mem h
  have hlt := lt_of_at hj
  rw [fill_len] at hlt
  obtain ⟨u, hu⟩ := at_of hlt
  have := fillAt_at r.toNat (pickOf s) s j u hu
  unfold fill at hj
  rw [hj] at this
  refine ⟨u, List.mem_of_getElem? hu, ?_⟩
  split at this
  · cases this; exact ⟨rfl, .inr rfl⟩
  · cases this; exact ⟨rfl, .inl rfl⟩
theorem sp43 : Unicode.isSpace 43 = false := by decide +kernel
theorem ext_tok {n : Nat} {t : Tk} (h : Tok t) : Tok (ext n t) := by
  refine ⟨⟨fun e => ?_, fun c hc => ?_⟩, h.2⟩
  · exact h.1.1 (List.append_eq_nil_iff.mp e).1
  · rcases List.mem_append.mp hc with hc | hc
    · exact h.1.2 c hc
    · rw [List.eq_of_mem_replicate hc]; exact sp43
theorem fills_at {segs : List (List Tk)} {rooms : List Int} {k : Nat} {s : List Tk} {r : Int} (hs : segs[k]? = some s) (hr : rooms[k]? = some r) : (fills segs rooms)[k]? = some (fill s r) := by
  unfold fills; rw [List.getElem?_zipWith, hs, hr]
theorem fills_len {segs : List (List Tk)} {rooms : List Int} (h : rooms.length = segs.length) : (fills segs rooms).length = segs.length := by
  unfold fills; simp [h]
theorem fills_inv {segs : List (List Tk)} {rooms : List Int} (h : rooms.length = segs.length) {k : Nat} {s' : List Tk} (hs : (fills segs rooms)[k]? = some s') : ∃ s r, segs[k]? = some s ∧ rooms[k]? = some r ∧ s' = fill s r := by
  have hlt := lt_of_at hs
  rw [fills_len h] at hlt
  obtain ⟨s, h1⟩ := at_of hlt
  obtain ⟨r, h2⟩ := at_of (l := rooms) (i := k) (by omega)
  refine ⟨s, r, h1, h2, ?_⟩
  rw [fills_at h1 h2] at hs; cases hs; rfl
theorem fills_counts {segs : List (List Tk)} {rooms : List Int} (h : rooms.length = segs.length) : (fills segs rooms).map List.length = segs.map List.length := by
  apply List.ext_getElem?
  intro i
  rw [List.getElem?_map, List.getElem?_map]
  by_cases hi : i < segs.length
  · obtain ⟨s, h1⟩ := at_of hi
    obtain ⟨r, h2⟩ := at_of (l := rooms) (i := i) (by omega)
    rw [fills_at h1 h2, h1]; simp [fill_len]
  · rw [List.getElem?_eq_none (by rw [fills_len h]; omega), List.getElem?_eq_none (by omega)]
theorem counts_congr {a b : List (List Tk)} (h : a.map List.length = b.map List.length) : countsOf a = countsOf b ∧ a.flatten.length = b.flatten.length := by
  have h1 : (a.map fun s => (s.length : Int)) = b.map fun s => (s.length : Int) := by
    have := congrArg (List.map fun (k : Nat) => (k : Int)) h
    simpa [List.map_map, Function.comp_def] using this
  refine ⟨by unfold countsOf; rw [h1], ?_⟩
  rw [List.length_flatten, List.length_flatten, h]

section
variable {prog : Program} {w : World} {P : Params} {h₀ : Heap} {mg mb : Str → Option Value} {n : Nat}
theorem three_of {vs : List Value} (h : vs.length = 3) : ∃ a b c, vs = [a, b, c] := by
  match vs, h with
  | [a, b, c], _ => exact ⟨a, b, c, rfl⟩

def mFl (toks : List Tk) (segs : List (List Tk)) (rooms : List Int) : Mp := [("words", .ls (wordsOf' toks)), ("counts", .ls (countsOf segs)), ("rooms", .ls (ofI rooms))]
theorem words_snoc (a : List Tk) (t : Tk) : wordsOf' a ++ [S.str (T t.1)] = wordsOf' (a ++ [t]) := by simp [wordsOf', ofS]

theorem fn_filled (am : Amb mg mb h₀) (K : (hd.heap_39 P).In h₀) (glen : glb "len" (.builtin "len") mg mb) (grange : glb "range" (.type "range") mg mb) (gmax : glb "max" (.builtin "max") mg mb) {toks : List Tk} {segs : List (List Tk)} {rooms : List Int}
    (hseg : segs.flatten = toks) (hne : ∀ s ∈ segs, s ≠ []) (ok : ToksOk toks) (hrl : rooms.length = segs.length) (hrooms : ∀ r ∈ rooms, -100000 ≤ r ∧ r ≤ 64) :
    Fn prog w h₀ 1 (.ref 107) [.ls (wordsOf' toks), .ls (countsOf segs), .ls (ofI rooms)] (.new (wordsOf' (fills segs rooms).flatten)) := by
  refine fn_def (n := 0) (names := ["words", "counts", "rooms"]) am (K 107 _ (by rfl)) (by rfl) ⟨106, _, _, _, rfl, K 106 _ (by rfl), rfl, rfl⟩ rfl (by decide) (by simp [Param]) (fun vs hv => ?_) (fun x hx => ?_) ?_ trivial
  · obtain ⟨a, b, c, rfl⟩ := three_of hv; rfl
  · simp at hx; rcases hx with rfl | rfl | rfl <;> exact .inl (by decide +kernel)
  have hsl : sizeLine = 16777216 := rfl
  have hlen := ok.len
  have hcnt := flat_count hne
  rw [hseg] at hcnt
  have hcl := counts_len segs
  have hwl := words_len toks
  have hfc := counts_congr (fills_counts hrl)
  rw [hseg] at hfc
  have gl : Gl mg mb (defScope (nth PySem.Challenge.pw_lg0017_01.main.body 14)) "len" (.builtin "len") := ⟨by decide +kernel, glen, by decide +kernel⟩
  have gr : Gl mg mb (defScope (nth PySem.Challenge.pw_lg0017_01.main.body 14)) "range" (.type "range") := ⟨by decide +kernel, grange, by decide +kernel⟩
  have gm : Gl mg mb (defScope (nth PySem.Challenge.pw_lg0017_01.main.body 14)) "max" (.builtin "max") := ⟨by decide +kernel, gmax, by decide +kernel⟩
  show Ex prog w h₀ 0 (defScope (nth PySem.Challenge.pw_lg0017_01.main.body 14)) (mFl toks segs rooms) (fdefBody 14) _
  refine ex_step (ex_assign (k := "filled") (d := .new []) (ev_list (l := []) trivial (by simp)) (.inl (by decide +kernel))) ?_
  refine ex_step (ex_assign (k := "at") ev_int (.inl (by decide +kernel))) ?_
  refine ex_step (m₁ := ("at", .sc (.int toks.length)) :: ("filled", .own (wordsOf' (fills segs rooms).flatten)) :: mFl toks segs rooms)
    (ex_for (x := "k") (fun i mi => mi = ("at", .sc (.int ((segs.take i).flatten.length : Nat))) :: ("filled", .own (wordsOf' ((fills segs rooms).take i).flatten)) :: mFl toks segs rooms)
      (it_range (ev_range1 am gr (ev_call am gl (fn_len_list rfl (by omega)) ⟨ev_name (d := .ls (countsOf segs)) rfl, trivial⟩) (by omega) (by omega))) (.inl (by decide +kernel)) ?_ ?_ rfl) ?_
  · intro k y mi hy hmi
    subst hmi
    obtain ⟨hk, rfl⟩ := rng_at hy
    have hk' : k < segs.length := by omega
    obtain ⟨s, hs⟩ := at_of hk'
    obtain ⟨r, hr⟩ := at_of (l := rooms) (i := k) (by omega)
    have hrr := hrooms r (List.mem_of_getElem? hr)
    have hfs := fills_at hs hr
    have hsm : s ∈ segs := List.mem_of_getElem? hs
    have hsne := hne s hsm
    have hs1 : 1 ≤ s.length := by cases s with | nil => exact absurd rfl hsne | cons _ _ => simp
    have htf := take_full hs
    have htl := take_flat_le segs (k + 1)
    rw [hseg] at htl
    have hnx := nx_at hs
    rw [hseg] at hnx
    have ek : ((0 : Int) + (k : Int) * 1).toNat = k := by omega
    have hdone : ((fills segs rooms).take k).flatten.length ≤ toks.length := by rw [← hfc.2]; exact take_flat_le _ _
    have hpl := pick_lt hsne
    obtain ⟨t0, ht0⟩ := at_of (l := s) (i := 0) (by omega)
    have ht0k := hnx 0 (by omega)
    rw [ht0, Nat.add_zero] at ht0k
    have ht0o := ok.ok t0 (List.mem_of_getElem? ht0k)
    have hpick : ((t0.1.length : Nat) : Int).fmod ((s.length : Nat) : Int) = ((pickOf s : Nat) : Int) := by
      rw [Int.fmod_eq_emod_of_nonneg _ (by omega)]
      cases s with
      | nil => exact absurd rfl hsne
      | cons x xs => simp at ht0; subst ht0; rfl
    generalize hat : (segs.take k).flatten.length = at' at *
    generalize hdn : ((fills segs rooms).take k).flatten = dn at *
    refine ex_step (ex_assign (k := "pick") (d := .sc (.int (pickOf s : Nat))) (ev_of (ev_bin (ev_call am gl (fn_len_str (x := T t0.1) (by rw [T_len]; omega)) ⟨ev_item (x := .str (T t0.1)) (ev_name (d := .ls (wordsOf' toks)) rfl) (ev_name (d := .sc (.int at')) rfl) rfl (by omega) (by rw [Int.toNat_natCast]; exact words_at ht0k) (by omega), trivial⟩) (ev_item (x := .int (s.length : Int)) (ev_name (d := .ls (countsOf segs)) rfl) (ev_name (d := .sc (.int (0 + (k : Int) * 1))) rfl) rfl (by omega) (by rw [ek]; exact counts_at hs) (by omega)) (op_mod (by omega))) (by rw [T_len, hpick])) (.inl (by decide +kernel))) ?_
    refine ex_step (m₁ := ("pick", .sc (.int (pickOf s : Nat))) :: ("k", .sc (.int (0 + (k : Int) * 1))) :: ("at", .sc (.int at')) :: ("filled", .own (wordsOf' (dn ++ fill s r))) :: mFl toks segs rooms)
      (ex_for (x := "j") (fun j mi => mi = ("pick", .sc (.int (pickOf s : Nat))) :: ("k", .sc (.int (0 + (k : Int) * 1))) :: ("at", .sc (.int at')) :: ("filled", .own (wordsOf' (dn ++ (fill s r).take j))) :: mFl toks segs rooms)
        (it_range (ev_range1 am gr (ev_item (x := .int (s.length : Int)) (ev_name (d := .ls (countsOf segs)) rfl) (ev_name (d := .sc (.int (0 + (k : Int) * 1))) rfl) rfl (by omega) (by rw [ek]; exact counts_at hs) (by omega)) (by omega) (by omega))) (.inl (by decide +kernel)) ?_ ?_ ?_) ?_
    · intro j y mj hyj hmj
      subst hmj
      obtain ⟨hj, rfl⟩ := rng_at hyj
      have hj' : j < s.length := by omega
      obtain ⟨t, ht⟩ := at_of hj'
      have htk : toks[at' + j]? = some t := by rw [hnx j hj', ht]
      have hto := ok.ok t (List.mem_of_getElem? htk)
      have hft := fillAt_at r.toNat (pickOf s) s j t ht
      have ek2 : ((at' : Int) + (0 + (j : Int) * 1)).toNat = at' + j := by omega
      have hfin : ∃ v : Tk, (fill s r)[j]? = some v ∧ v.1 = t.1 ++ (if j = pickOf s then List.replicate r.toNat 43 else []) := by
        refine ⟨_, hft, ?_⟩
        split
        · rfl
        · simp
      obtain ⟨v, hv1, hv2⟩ := hfin
      rw [take_succ hv1, ← List.append_assoc, ← words_snoc]
      refine ex_mono (ex_one (ex_append (k := "filled") (l := wordsOf' (dn ++ (fill s r).take j)) (x := .str (T v.1)) rfl (ev_of (ev_bin (d₂ := .sc (.str (T (if j = pickOf s then List.replicate r.toNat 43 else [])))) (ev_item (x := .str (T t.1)) (ev_name (d := .ls (wordsOf' toks)) rfl) (ev_bin (ev_name (d := .sc (.int at')) rfl) (ev_name (d := .sc (.int (0 + (j : Int) * 1))) rfl) op_add) rfl (by omega) (by rw [ek2]; exact words_at htk) (by omega)) ?_ (op_catT ?_)) (by rw [hv2])) (by rw [words_len, List.length_append, List.length_take, fill_len]; omega))) fun f m' h => .inl ⟨.inl h.1, _, rfl, ?_⟩
      · have hb : decide ((0 : Int) + (j : Int) * 1 = ((pickOf s : Nat) : Int)) = decide (j = pickOf s) := by rw [decide_eq_decide]; omega
        by_cases hjp : j = pickOf s
        · rw [if_pos hjp]
          refine ev_ite_tt (tr_of (tr_cmp (ev_name (d := .sc (.int (0 + (j : Int) * 1))) rfl) (ev_name (d := .sc (.int (pickOf s : Nat))) rfl) cm_eq) (by rw [hb]; simpa using hjp)) (ev_of (ev_bin (ev_strT (l := [43]) (by decide +kernel)) (ev_call am gm fn_max ⟨ev_item (x := .int r) (ev_name (d := .ls (ofI rooms)) rfl) (ev_name (d := .sc (.int (0 + (k : Int) * 1))) rfl) rfl (by omega) (by rw [ek]; exact ofI_at hr) (by rw [ofI_len]; omega), ev_int, trivial⟩) (op_smul (by simp; omega) (by omega))) ?_)
          rw [repL_one, show (max r 0).toNat = r.toNat by omega]
        · rw [if_neg hjp]
          exact ev_ite_ff (tr_of (tr_cmp (ev_name (d := .sc (.int (0 + (j : Int) * 1))) rfl) (ev_name (d := .sc (.int (pickOf s : Nat))) rfl) cm_eq) (by rw [hb]; simpa using hjp)) (ev_strT (l := []) (by decide +kernel))
      · split <;> simp <;> omega
      · rw [h.2]
        refine less_of fun p hp => ?_
        simp only [mFl, List.mem_cons, List.not_mem_nil, or_false] at hp
        rcases hp with rfl | rfl | rfl | rfl | rfl | rfl | rfl <;> rfl
    · intro mj hmj
      subst hmj
      rw [rng_len, Int.toNat_natCast, List.take_of_length_le (by rw [fill_len]; exact Nat.le_refl _)]
      exact ⟨rfl, rfl⟩
    · simp [stD]
    · refine ex_mono (ex_one (ex_aug (k := "at") (d₁ := .sc (.int at')) rfl (ev_item (x := .int (s.length : Int)) (ev_name (d := .ls (countsOf segs)) rfl) (ev_name (d := .sc (.int (0 + (k : Int) * 1))) rfl) rfl (by omega) (by rw [ek]; exact counts_at hs) (by omega)) ip_add (.inl (by decide +kernel)))) fun f m' h => .inl ⟨.inl h.1, _, rfl, ?_⟩
      have ef : ((fills segs rooms).take (k + 1)).flatten = dn ++ fill s r := by rw [take_succ hfs, List.flatten_append, hdn]; simp
      rw [h.2, htf, ef]
      refine less_of fun p hp => ?_
      simp only [mFl, List.mem_cons, List.not_mem_nil, or_false] at hp
      rcases hp with rfl | rfl | rfl | rfl | rfl <;> rfl
  · intro mi hmi
    subst hmi
    rw [rng_len, Int.toNat_natCast, hcl, List.take_length, List.take_of_length_le (by rw [fills_len hrl]; exact Nat.le_refl _), hseg]
    exact ⟨rfl, rfl⟩
  · exact ex_one (ex_return_own (k := "filled") rfl rfl)
end
end Mine

end

section
open PySem PySem.W PyProof.Rows
set_option Elab.async false
set_option linter.unusedVariables false
namespace Mine
set_option maxRecDepth 100000

def nxt (pre : List (List Tk)) (rest : List Tk) (k : Nat) : Option Tk := match pre[k + 1]? with
  | some s => s.head?
  | none => rest.head?
def PreX (lim : Int) (c c2 : Nat) (pre : List (List Tk)) (rest : List Tk) : Prop :=
  ∀ k s, pre[k]? = some s → s ≠ [] ∧ (1 < s.length → ((cAt c c2 k + wid s : Nat) : Int) ≤ lim) ∧ ∀ t, nxt pre rest k = some t → lim < ((cAt c c2 k + ful s + t.1.length : Nat) : Int)
theorem peelX {lim : Int} {c c2 : Nat} {pre : List (List Tk)} {rest : List Tk} (hne : pre ≠ []) (h : PreX lim c c2 pre rest) : start lim c c2 (pre.flatten ++ rest) = pre ++ start lim c2 c2 rest := by
  cases rest with
  | nil =>
    have : AllOk lim c c2 pre := fun k s hs => by
      obtain ⟨h1, h2, h3⟩ := h k s hs
      exact ⟨h1, h2, fun t r e => h3 t (by unfold nxt; rw [e]; rfl)⟩
    rw [List.append_nil, uniq pre c this]
    simp [start]
  | cons u r =>
    have hp : PreOk lim c c2 pre u := fun k s hs => by
      obtain ⟨h1, h2, h3⟩ := h k s hs
      refine ⟨h1, h2, h3 _ ?_⟩
      unfold nxt nx
      cases e : pre[k + 1]? with
      | none => rfl
      | some s' =>
        cases s' with
        | nil => exact absurd rfl (h _ _ e).1
        | cons t r => rfl
    have hc : cAt c c2 pre.length = c2 := by
      cases pre with
      | nil => exact absurd rfl hne
      | cons _ _ => rfl
    rw [peel pre c hp, hc]
theorem nxt_mem {pre : List (List Tk)} {rest : List Tk} {k : Nat} {t : Tk} (h : nxt pre rest k = some t) : t ∈ pre.flatten ++ rest := by
  unfold nxt at h
  cases e : pre[k + 1]? with
  | none => rw [e] at h; exact List.mem_append_right _ (List.mem_of_mem_head? h)
  | some s =>
    rw [e] at h
    exact List.mem_append_left _ (List.mem_flatten.mpr ⟨s, List.mem_of_getElem? e, List.mem_of_mem_head? h⟩)
theorem tok_pos {t : Tk} (h : Tok t) : 1 ≤ t.1.length ∧ 1 ≤ t.2 := by
  refine ⟨?_, by rcases h.2 with h | h <;> omega⟩
  cases e : t.1 with
  | nil => exact absurd e h.1.1
  | cons _ _ => simp

/-! rooms -/
def roomsOf (lim : Int) (c c2 : Nat) (segs : List (List Tk)) : List Int := (List.range segs.length).map fun k => lim - (cAt c c2 k : Nat) - (wid (segs.getD k []) : Nat)
theorem rooms_at {lim : Int} {c c2 : Nat} {segs : List (List Tk)} {k : Nat} {s : List Tk} (h : segs[k]? = some s) : (roomsOf lim c c2 segs)[k]? = some (lim - (cAt c c2 k : Nat) - (wid s : Nat)) := by
  have hlt := lt_of_at h
  have e : segs.getD k [] = s := by rw [List.getD_eq_getElem?_getD, h]; rfl
  unfold roomsOf
  rw [List.getElem?_map, List.getElem?_range hlt]
  show some (lim - ((cAt c c2 k : Nat) : Int) - ((wid (segs.getD k []) : Nat) : Int)) = _
  rw [e]
theorem rooms_len (lim : Int) (c c2 : Nat) (segs : List (List Tk)) : (roomsOf lim c c2 segs).length = segs.length := by simp [roomsOf]

def upd {α : Type} (l : List α) (k : Nat) (x : α) : List α := l.take k ++ [x] ++ l.drop (k + 1)
theorem upd_len {α : Type} {l : List α} {k : Nat} {x : α} (h : k < l.length) : (upd l k x).length = l.length := by unfold upd; simp; omega
theorem upd_at {α : Type} {l : List α} {k : Nat} {x : α} (h : k < l.length) (j : Nat) : (upd l k x)[j]? = if j = k then some x else l[j]? := by
  unfold upd
  have hl : (l.take k).length = k := by simp; omega
  rcases Nat.lt_trichotomy j k with hj | hj | hj
  · rw [if_neg (by omega), List.append_assoc, List.getElem?_append_left (by omega), List.getElem?_take_of_lt hj]
  · subst hj
    rw [if_pos rfl, List.append_assoc, List.getElem?_append_right (by omega), hl, Nat.sub_self]; rfl
  · rw [if_neg (by omega), List.getElem?_append_right (by simp; omega), List.getElem?_drop]
    congr 1
    simp; omega
theorem upd_mem {α : Type} {l : List α} {k : Nat} {x y : α} (h : y ∈ upd l k x) : y = x ∨ y ∈ l := by
  unfold upd at h
  rcases List.mem_append.mp h with h | h
  · rcases List.mem_append.mp h with h | h
    · exact .inr (List.mem_of_mem_take h)
    · simp at h; exact .inl h
  · exact .inr (List.mem_of_mem_drop h)
theorem upd_app {α : Type} (a : List α) (y x : α) (b : List α) : upd (a ++ y :: b) a.length x = a ++ x :: b := by
  unfold upd
  have e : (a ++ y :: b).drop (a.length + 1) = b := by
    rw [show a ++ y :: b = (a ++ [y]) ++ b by simp, List.drop_left' (by simp)]
  rw [List.take_left' rfl, e]
  simp

theorem fill_wid {s : List Tk} (h : s ≠ []) (r : Int) : wid (fill s r) = wid s + r.toNat ∧ ful (fill s r) = ful s + r.toNat := ⟨wid_fillAt _ _ _ (pick_lt h), ful_fillAt _ _ _ (pick_lt h)⟩
theorem ful_gt {s : List Tk} (h : s ≠ []) (ok : ∀ t ∈ s, Tok t) : wid s + 1 ≤ ful s := by
  obtain ⟨u, hu⟩ := at_of (l := s) (i := s.length - 1) (by cases s with | nil => exact absurd rfl h | cons _ _ => simp)
  rw [ful_last h hu]
  have := (tok_pos (ok u (List.mem_of_getElem? hu))).2
  omega
theorem fill_ne {s : List Tk} (h : s ≠ []) (r : Int) : fill s r ≠ [] := fillAt_ne h
/-- a line filled to its room -/
theorem fill_fits {lim : Int} {c : Nat} {s : List Tk} (h : s ≠ []) (ok : ∀ t ∈ s, Tok t) (hf : 1 < s.length → ((c + wid s : Nat) : Int) ≤ lim) :
    (1 < (fill s (lim - (c : Nat) - (wid s : Nat))).length → ((c + wid (fill s (lim - (c : Nat) - (wid s : Nat))) : Nat) : Int) ≤ lim) ∧ ∀ t : Tk, 1 ≤ t.1.length → lim < ((c + ful (fill s (lim - (c : Nat) - (wid s : Nat))) + t.1.length : Nat) : Int) := by
  obtain ⟨e1, e2⟩ := fill_wid h (lim - (c : Nat) - (wid s : Nat))
  have hg := ful_gt h ok
  rw [e1, e2, fill_len]
  refine ⟨fun hl => ?_, fun t ht => ?_⟩
  · have := hf hl; omega
  · omega

theorem fills_tok {segs : List (List Tk)} {rooms : List Int} (hr : rooms.length = segs.length) (ok : ToksOk segs.flatten) (hs : ∀ t ∈ segs.flatten, t.1.length ≤ 30) (hroom : ∀ r ∈ rooms, r ≤ 64) : ToksOk (fills segs rooms).flatten := by
  refine ⟨fun t ht => ?_, by rw [(counts_congr (fills_counts hr)).2]; exact ok.len⟩
  obtain ⟨s', hs', hts⟩ := List.mem_flatten.mp ht
  obtain ⟨k, hk⟩ := List.getElem?_of_mem hs'
  obtain ⟨s, r, q1, q2, rfl⟩ := fills_inv hr hk
  obtain ⟨u, hu, _, e⟩ := fill_mem hts
  have hum : u ∈ segs.flatten := List.mem_flatten.mpr ⟨s, List.mem_of_getElem? q1, hu⟩
  have ho := ok.ok u hum
  have hl := hs u hum
  have hrr := hroom r (List.mem_of_getElem? q2)
  rcases e with rfl | rfl
  · exact ho
  · refine ⟨ext_tok ho.1, ?_⟩
    unfold ext; simp; omega

/-- the room left on all lines, given to words of theirs, changes no line's end -/
theorem filled_start {lim : Int} {c c2 : Nat} {segs : List (List Tk)} (h : AllOk lim c c2 segs) (hne : segs ≠ []) (ok : ∀ t ∈ segs.flatten, Tok t) (hmod : ∀ t ∈ (fills segs (roomsOf lim c c2 segs)).flatten, Tok t) :
    start lim c c2 (fills segs (roomsOf lim c c2 segs)).flatten = fills segs (roomsOf lim c c2 segs) := by
  have hr := rooms_len lim c c2 segs
  have hfl := fills_len hr
  have hx : PreX lim c c2 (fills segs (roomsOf lim c c2 segs)) [] := by
    intro k s' hs'
    obtain ⟨s, r, q1, q2, rfl⟩ := fills_inv hr hs'
    rw [rooms_at q1] at q2; cases q2
    obtain ⟨a1, a2, a3⟩ := h k s q1
    obtain ⟨b1, b2⟩ := fill_fits a1 (fun t ht => ok t (List.mem_flatten.mpr ⟨s, List.mem_of_getElem? q1, ht⟩)) a2
    refine ⟨fill_ne a1 _, b1, fun t ht => b2 t ?_⟩
    have := nxt_mem ht
    rw [List.append_nil] at this
    exact (tok_pos (hmod t this)).1
  have := peelX (fun e => by rw [e] at hfl; exact hne (List.length_eq_zero_iff.mp hfl.symm)) hx
  rw [List.append_nil] at this
  rw [this]; simp [start]

theorem split_at {α : Type} {l : List α} {k : Nat} {x : α} (h : l[k]? = some x) : l = l.take k ++ x :: l.drop (k + 1) := by
  have hlt := lt_of_at h
  have h1 := List.take_append_drop k l
  rw [List.drop_eq_getElem_cons hlt] at h1
  rw [List.getElem?_eq_getElem hlt] at h
  cases h; exact h1.symm
theorem take_at {α : Type} {l : List α} {k j : Nat} (h : j < k) : (l.take k)[j]? = l[j]? := List.getElem?_take_of_lt h
theorem snoc_at {l : List (List Tk)} {k j : Nat} {s x : List Tk} (hk : k ≤ l.length) (h : (l.take k ++ [x])[j]? = some s) : (j < k ∧ l[j]? = some s) ∨ (j = k ∧ s = x) := by
  have hl : (l.take k).length = k := by simp; omega
  rcases Nat.lt_trichotomy j k with hj | hj | hj
  · rw [List.getElem?_append_left (by omega), take_at hj] at h; exact .inl ⟨hj, h⟩
  · subst hj
    rw [List.getElem?_append_right (by omega), hl, Nat.sub_self] at h
    simp at h; exact .inr ⟨rfl, h.symm⟩
  · rw [List.getElem?_append_right (by omega), hl, List.getElem?_eq_none (by simp; omega)] at h; cases h

/-- one sign more than a line's room, and this line's last word goes down -/
theorem over_start {lim : Int} {c c2 : Nat} {segs : List (List Tk)} (h : AllOk lim c c2 segs) (ok : ∀ t ∈ segs.flatten, Tok t) {k : Nat} {s : List Tk} (hs : segs[k]? = some s) (hl : 1 < s.length)
    (hmod : ∀ t ∈ (fills segs (upd (roomsOf lim c c2 segs) k (lim - (cAt c c2 k : Nat) - (wid s : Nat) + 1))).flatten, Tok t) :
    ∃ pre rest, (fills segs (upd (roomsOf lim c c2 segs) k (lim - (cAt c c2 k : Nat) - (wid s : Nat) + 1))).flatten = pre.flatten ++ rest ∧ pre ≠ [] ∧ (∀ s ∈ pre, s ≠ []) ∧ pre.map List.length = (segs.take k).map List.length ++ [s.length - 1] ∧
      start lim c c2 (pre.flatten ++ rest) = pre ++ start lim c2 c2 rest := by
  have hlt := lt_of_at hs
  have hr0 := rooms_len lim c c2 segs
  generalize hrm : upd (roomsOf lim c c2 segs) k (lim - (cAt c c2 k : Nat) - (wid s : Nat) + 1) = rooms at *
  have hr : rooms.length = segs.length := by rw [← hrm, upd_len (by omega)]; exact hr0
  have hrat : ∀ j, rooms[j]? = if j = k then some (lim - (cAt c c2 k : Nat) - (wid s : Nat) + 1) else (roomsOf lim c c2 segs)[j]? := fun j => by rw [← hrm]; exact upd_at (by omega) j
  obtain ⟨a1, a2, a3⟩ := h k s hs
  have hfk : (fills segs rooms)[k]? = some (fill s (lim - (cAt c c2 k : Nat) - (wid s : Nat) + 1)) := fills_at hs (by rw [hrat k, if_pos rfl])
  have hfit := a2 hl
  generalize hR : lim - (cAt c c2 k : Nat) - (wid s : Nat) + 1 = R at *
  obtain ⟨e1, e2⟩ := fill_wid a1 R
  have hfl := fill_len s R
  have hfm : ∀ t ∈ fill s R, Tok t := fun t ht => hmod t (List.mem_flatten.mpr ⟨_, List.mem_of_getElem? hfk, ht⟩)
  obtain ⟨a, u, ea⟩ := snoc_of (fill_ne a1 R)
  rw [ea] at e1 hfl hfm
  rw [wid_append] at e1
  simp only [wid] at e1
  have hu := (tok_pos (hfm u (by simp))).1
  have hal : a.length = s.length - 1 := by simp at hfl; omega
  have hane : a ≠ [] := by rintro rfl; simp at hal; omega
  have hlen := fills_len hr
  refine ⟨(fills segs rooms).take k ++ [a], u :: ((fills segs rooms).drop (k + 1)).flatten, ?_, by simp, ?_, ?_, ?_⟩
  · conv => lhs; rw [split_at hfk, ea]
    simp
  · intro x hx
    rcases List.mem_append.mp hx with hx | hx
    · obtain ⟨j, hj⟩ := List.getElem?_of_mem (List.mem_of_mem_take hx)
      obtain ⟨s', r', q1, q2, rfl⟩ := fills_inv hr hj
      exact fill_ne (h j s' q1).1 _
    · simp at hx; subst hx; exact hane
  · rw [List.map_append, List.map_take, fills_counts hr, List.map_take, ← hal]; rfl
  · refine peelX (by simp) fun j x hx => ?_
    rcases snoc_at (by omega) hx with ⟨hj, hx'⟩ | ⟨rfl, rfl⟩
    · obtain ⟨s', r', q1, q2, rfl⟩ := fills_inv hr hx'
      rw [hrat j, if_neg (by omega), rooms_at q1] at q2; cases q2
      obtain ⟨b1, b2, b3⟩ := h j s' q1
      obtain ⟨d1, d2⟩ := fill_fits b1 (fun t ht => ok t (List.mem_flatten.mpr ⟨s', List.mem_of_getElem? q1, ht⟩)) b2
      refine ⟨fill_ne b1 _, d1, fun t ht => d2 t ?_⟩
      refine (tok_pos (hmod t ?_)).1
      have := nxt_mem ht
      have e : (fills segs rooms).flatten = ((fills segs rooms).take k ++ [a]).flatten ++ u :: ((fills segs rooms).drop (k + 1)).flatten := by
        conv => lhs; rw [split_at hfk, ea]
        simp
      rw [e]; exact this
    · refine ⟨hane, fun _ => ?_, fun t ht => ?_⟩
      · have := wid_le_ful x
        omega
      · have hn : nxt ((fills segs rooms).take j ++ [x]) (u :: ((fills segs rooms).drop (j + 1)).flatten) j = some u := by
          unfold nxt
          rw [List.getElem?_eq_none (by simp; omega)]; rfl
        rw [hn] at ht; cases ht
        omega

/-- the word behind a line's end changed -/
theorem behind_split {segs : List (List Tk)} {k : Nat} {s r : List Tk} {t : Tk} (hs : segs[k]? = some s) (hs' : segs[k + 1]? = some (t :: r)) (x : Tk) :
    upd segs.flatten (segs.take (k + 1)).flatten.length x = (segs.take (k + 1)).flatten ++ x :: (r ++ (segs.drop (k + 2)).flatten) := by
  have e : segs.flatten = (segs.take (k + 1)).flatten ++ t :: (r ++ (segs.drop (k + 2)).flatten) := by
    conv => lhs; rw [split_at hs']
    simp
  conv => lhs; arg 1; rw [e]
  rw [upd_app]
theorem low_start {lim : Int} {c c2 : Nat} {segs : List (List Tk)} (h : AllOk lim c c2 segs) {k : Nat} {s : List Tk} (hs : segs[k]? = some s) {u : Tk} {rest : List Tk} (hu : lim < ((cAt c c2 k + ful s + u.1.length : Nat) : Int)) :
    start lim c c2 ((segs.take (k + 1)).flatten ++ u :: rest) = segs.take (k + 1) ++ start lim c2 c2 (u :: rest) := by
  have hlt := lt_of_at hs
  refine peelX (fun e => by have := congrArg List.length e; simp at this; subst this; simp at hs) fun j x hx => ?_
  have hj : j < k + 1 := by have := lt_of_at hx; simp at this; omega
  rw [take_at hj] at hx
  obtain ⟨b1, b2, b3⟩ := h j x hx
  refine ⟨b1, b2, fun t ht => ?_⟩
  unfold nxt at ht
  by_cases hjk : j = k
  · subst hjk
    rw [hs] at hx; cases hx
    rw [List.getElem?_eq_none (by simp; omega)] at ht
    simp at ht; subst ht; exact hu
  · rw [take_at (by omega)] at ht
    cases e : segs[j + 1]? with
    | none => have := List.getElem?_eq_none_iff.mp e; omega
    | some s' =>
      rw [e] at ht
      cases s' with
      | nil => cases ht
      | cons t' r' => simp at ht; subst ht; exact b3 _ _ e
theorem high_start {lim : Int} {c c2 : Nat} {segs : List (List Tk)} (h : AllOk lim c c2 segs) {k : Nat} {s : List Tk} (hs : segs[k]? = some s) {u : Tk} {rest : List Tk} (hu : ((cAt c c2 k + ful s + u.1.length : Nat) : Int) = lim) (hb : 1 ≤ u.2) (hok : ∀ t ∈ rest, Tok t) :
    start lim c c2 ((segs.take k ++ [s ++ [u]]).flatten ++ rest) = (segs.take k ++ [s ++ [u]]) ++ start lim c2 c2 rest := by
  have hlt := lt_of_at hs
  refine peelX (by simp) fun j x hx => ?_
  rcases snoc_at (by omega) hx with ⟨hj, hx'⟩ | ⟨rfl, rfl⟩
  · obtain ⟨b1, b2, b3⟩ := h j x hx'
    refine ⟨b1, b2, fun t ht => ?_⟩
    unfold nxt at ht
    by_cases hjk : j + 1 = k
    · have hl : (segs.take k).length = k := by simp; omega
      rw [List.getElem?_append_right (by omega), hl, hjk, Nat.sub_self] at ht
      simp at ht
      have hs2 : segs[j + 1]? = some s := by rw [hjk]; exact hs
      cases s with
      | nil => exact absurd rfl (h k [] hs).1
      | cons t' r' => simp at ht; subst ht; exact b3 _ _ hs2
    · have hl : (segs.take k).length = k := by simp; omega
      rw [List.getElem?_append_left (by omega), take_at (by omega)] at ht
      cases e : segs[j + 1]? with
      | none => have := List.getElem?_eq_none_iff.mp e; omega
      | some s' =>
        rw [e] at ht
        cases s' with
        | nil => cases ht
        | cons t' r' => simp at ht; subst ht; exact b3 _ _ e
  · refine ⟨by simp, fun _ => ?_, fun t ht => ?_⟩
    · rw [wid_append]; simp only [wid]; omega
    · unfold nxt at ht
      rw [List.getElem?_eq_none (by simp; omega)] at ht
      have := tok_pos (hok t (List.mem_of_mem_head? ht))
      rw [ful_append]; simp only [ful]; omega
end Mine

end

section
open PySem PySem.W PyProof.Rows
set_option Elab.async false
set_option linter.unusedVariables false
namespace Mine
set_option maxRecDepth 100000

noncomputable def lawScope : Scope := defScope (nth PySem.Challenge.pw_lg0017_01.main.body 15)
noncomputable def lawBody : List Stmt := defBody (nth PySem.Challenge.pw_lg0017_01.main.body 15)

/-! this law's words -/
def wordOf (x : Int) : List Nat := wordAt ((x.fdiv 24).fmod 18).toNat ((x.fdiv 3).fmod 8).toNat
theorem wordOf_ok (x : Int) : Wd (wordOf x) ∧ (wordOf x).length ≤ 8 := by
  have h1 := fmod_range (x.fdiv 24) (b := 18) (by decide)
  have h2 := fmod_range (x.fdiv 3) (b := 8) (by decide)
  have h : ((x.fdiv 24).fmod 18).toNat + 1 + ((x.fdiv 3).fmod 8).toNat ≤ 26 := by omega
  exact ⟨wordAt_ok h, by unfold wordOf; rw [wordAt_len h]; omega⟩
def numsOf (L : List Int) : List Int := if 1 < L.length then (L.drop 1).take 12 else [6, 40, 11, 2, 77, 19]
theorem numsOf_ne (L : List Int) : ∃ x xs, numsOf L = x :: xs ∧ xs.length ≤ 11 := by
  unfold numsOf
  split
  · rename_i h
    match L, h with
    | a :: b :: r, _ => exact ⟨b, r.take 11, by simp, by simp; omega⟩
  · exact ⟨_, _, rfl, by decide⟩
def blOf (y : Int) : Nat := if y.fmod 3 = 2 then 2 else 1
def toksOf (x : Int) (xs : List Int) : List Tk := (wordOf x, 1) :: xs.map fun y => (wordOf y, blOf y)
theorem toksOf_ok (x : Int) (xs : List Int) : ∀ t ∈ toksOf x xs, Tok t ∧ t.1.length ≤ 8 := by
  intro p hp
  rcases List.mem_cons.mp hp with rfl | hp
  · have := wordOf_ok x
    exact ⟨⟨this.1, .inl rfl⟩, this.2⟩
  · obtain ⟨y, _, rfl⟩ := List.mem_map.mp hp
    have := wordOf_ok y
    refine ⟨⟨this.1, ?_⟩, this.2⟩
    unfold blOf; dsimp only; split
    · exact .inr rfl
    · exact .inl rfl
theorem toksOf_words (x : Int) (xs : List Int) : wordsOf' (toksOf x xs) = ofS ((x :: xs).map wordOf) := by simp [wordsOf', toksOf, Function.comp_def]
def fWord : S → S
  | .int x => .str (T (wordOf x))
  | _ => .none
def fBl (ns : List Int) : S → S
  | .int i => .int (if 0 < i ∧ (ns.getD i.toNat 0).fmod 3 = 2 then 2 else 1)
  | _ => .none
theorem map_bl (x : Int) (xs : List Int) : (rng 0 1 (x :: xs).length).map (fBl (x :: xs)) = sizesOf (toksOf x xs) := by
  apply List.ext_getElem?
  intro i
  by_cases hi : i < (x :: xs).length
  · have h1 : (rng 0 1 (x :: xs).length)[i]? = some (S.int (0 + (i : Int) * 1)) := by
      unfold rng; rw [List.getElem?_map, List.getElem?_range hi]; rfl
    have ek : ((0 : Int) + (i : Int) * 1).toNat = i := by omega
    rw [List.getElem?_map, h1]
    have h2 : ∃ t, (toksOf x xs)[i]? = some t ∧ ((t.2 : Nat) : Int) = if 0 < ((0 : Int) + (i : Int) * 1) ∧ ((x :: xs).getD i 0).fmod 3 = 2 then 2 else 1 := by
      cases i with
      | zero => exact ⟨_, rfl, rfl⟩
      | succ i =>
        have hi' : i < xs.length := by simpa using hi
        obtain ⟨y, hy⟩ := at_of hi'
        refine ⟨(wordOf y, blOf y), by simp [toksOf, hy], ?_⟩
        have : ((x :: xs).getD (i + 1) 0) = y := by rw [List.getD_eq_getElem?_getD, List.getElem?_cons_succ, hy]; rfl
        rw [this]
        unfold blOf
        by_cases h3 : y.fmod 3 = 2
        · rw [if_pos h3, if_pos ⟨by omega, h3⟩]; rfl
        · rw [if_neg h3, if_neg (fun h => h3 h.2)]; rfl
    obtain ⟨t, ht, e⟩ := h2
    rw [sizes_at ht, e]
    show some (S.int (if 0 < ((0 : Int) + (i : Int) * 1) ∧ ((x :: xs).getD ((0 : Int) + (i : Int) * 1).toNat 0).fmod 3 = 2 then 2 else 1)) = _
    rw [ek]
  · rw [List.getElem?_eq_none (by simp [rng] at hi ⊢; omega), List.getElem?_eq_none (by rw [sizes_len]; simp [toksOf] at hi ⊢; omega)]

def mA (lim : Int) (first later : List Nat) (toks : List Tk) : Mp :=
  [("blanks", .own (sizesOf toks)), ("words", .own (wordsOf' toks)), ("later", .sc (.str (T later))), ("first", .sc (.str (T first))), ("limit", .sc (.int lim))]

section
variable {prog : Program} {w : World} {P : Params} {h₀ : Heap} {mg mb : Str → Option Value} {n : Nat} {R : Fl → Mp → Prop}

theorem stageA (am : Amb mg mb h₀) (glen : glb "len" (.builtin "len") mg mb) (grange : glb "range" (.type "range") mg mb) {L : List Int} (hL : L.length ≤ 63) {x : Int} {xs : List Int} (hx : numsOf L = x :: xs)
    (next : Ex prog w h₀ n lawScope (mA ((headOf L).fmod 30) (indAt ((headOf L).fdiv 30)) (indAt ((headOf L).fdiv 150)) (toksOf x xs)) (lawBody.drop 7) R) :
    Ex prog w h₀ n lawScope [("script", .ls (ofI L))] lawBody R := by
  have hsl : sizeLine = 16777216 := rfl
  have gl : Gl mg mb lawScope "len" (.builtin "len") := ⟨by decide +kernel, glen, by decide +kernel⟩
  have gr : Gl mg mb lawScope "range" (.type "range") := ⟨by decide +kernel, grange, by decide +kernel⟩
  have hll : (ofI L).length ≤ sizeLine := by rw [ofI_len]; omega
  have hnl : (x :: xs).length ≤ 63 := by
    rw [← hx]; unfold numsOf; split
    · simp; omega
    · decide
  generalize hh : headOf L = h at *
  refine ex_step (ex_assign (k := "head") (d := .sc (.int h)) ?_ (.inl (by decide +kernel))) ?_
  · cases L with
    | nil => exact ev_ite_ff (tr_of (tr_cmp (ev_name (d := .ls (ofI [])) rfl) (ev_list (l := ofI []) trivial (by decide)) (cm_lne (l₁ := []) (l₂ := []) rfl rfl)) (by simp)) (ev_of ev_int (by rw [← hh]; rfl))
    | cons y L => exact ev_ite_tt (tr_of (tr_cmp (ev_name (d := .ls (ofI (y :: L))) rfl) (ev_list (l := ofI []) trivial (by decide)) (cm_lne (l₁ := y :: L) (l₂ := []) rfl rfl)) (by simp)) (ev_item (x := .int h) (ev_name (d := .ls (ofI (y :: L))) rfl) ev_int rfl (by decide) (by rw [← hh]; rfl) hll)
  refine ex_step (ex_assign (k := "limit") (ev_bin (ev_name (d := .sc (.int h)) rfl) ev_int (op_mod (by decide))) (.inl (by decide +kernel))) ?_
  refine ex_step (ex_assign (k := "first") (ev_ind (ev_bin (ev_bin (ev_name (d := .sc (.int h)) rfl) ev_int (op_fdiv (by decide) (PyProof.noPylong_small (by decide)))) ev_int (op_mod (by decide)))) (.inl (by decide +kernel))) ?_
  refine ex_step (ex_assign (k := "later") (ev_ind (ev_bin (ev_bin (ev_name (d := .sc (.int h)) rfl) ev_int (op_fdiv (by decide) (PyProof.noPylong_small (by decide)))) ev_int (op_mod (by decide)))) (.inl (by decide +kernel))) ?_
  refine ex_step (ex_assign (k := "numbers") (d := .new (ofI (x :: xs))) ?_ (.inr (by decide +kernel))) ?_
  · rw [← hx]
    unfold numsOf
    by_cases h1 : 1 < L.length
    · rw [if_pos h1]
      refine ev_ite_tt (tr_of (tr_cmp (ev_call am gl (fn_len_list rfl hll) ⟨ev_name (d := .ls (ofI L)) rfl, trivial⟩) ev_int cm_gt) (by rw [ofI_len, decide_eq_true_eq]; omega)) (ev_of (ev_slice (lo := some 1) (hi := some 13) (ev_name (d := .ls (ofI L)) rfl) ev_int ev_int rfl hll) ?_)
      rw [cut_ofI]
      have := cut_mid L 13 (by decide) h1
      exact congrArg (fun z => D.new (ofI z)) this
    · rw [if_neg h1]
      exact ev_ite_ff (tr_of (tr_cmp (ev_call am gl (fn_len_list rfl hll) ⟨ev_name (d := .ls (ofI L)) rfl, trivial⟩) ev_int cm_gt) (by rw [ofI_len, decide_eq_false_iff_not]; omega)) (ev_list (l := ofI [6, 40, 11, 2, 77, 19]) ⟨ev_int, ev_int, ev_int, ev_int, ev_int, ev_int, trivial⟩ (by decide))
  refine ex_step (ex_comp (k := "words") (l := wordsOf' (toksOf x xs)) fWord (ite_list (ev_name (d := .own (ofI (x :: xs))) rfl) rfl) (by rw [map_ofI (g := wordOf) (fun _ => rfl), toksOf_words]) ?_ ?_ (by rw [ofI_len]; omega) (.inl (by decide +kernel))) ?_
  · exact compOk_plain rfl (by decide +kernel) (by decide +kernel)
  · intro y hy
    obtain ⟨z, _, rfl⟩ := List.mem_map.mp hy
    have h1 := fmod_range (z.fdiv 24) (b := 18) (by decide)
    have h2 := fmod_range (z.fdiv 3) (b := 8) (by decide)
    have e1 : (((z.fdiv 24).fmod 18).toNat : Int) = (z.fdiv 24).fmod 18 := Int.toNat_of_nonneg h1.1
    refine ev_slice_str (a := ((z.fdiv 24).fmod 18).toNat) (b := ((z.fdiv 24).fmod 18).toNat + 1 + ((z.fdiv 3).fmod 8).toNat) (ev_strT alpha1) (ev_of (ev_bin (ev_bin (ev_name (d := .sc (.int z)) rfl) ev_int (op_fdiv (by decide) (PyProof.noPylong_small (by decide)))) ev_int (op_mod (by decide))) (by rw [e1]))
      (ev_of (ev_bin (ev_bin (ev_bin (ev_bin (ev_name (d := .sc (.int z)) rfl) ev_int (op_fdiv (by decide) (PyProof.noPylong_small (by decide)))) ev_int (op_mod (by decide))) ev_int op_add) (ev_bin (ev_bin (ev_name (d := .sc (.int z)) rfl) ev_int (op_fdiv (by decide) (PyProof.noPylong_small (by decide)))) ev_int (op_mod (by decide))) op_add) ?_) (by omega) (by show _ ≤ 26; omega) (by decide)
    have e2 : (z.fdiv 24).fmod 18 + 1 + (z.fdiv 3).fmod 8 = ((((z.fdiv 24).fmod 18).toNat + 1 + ((z.fdiv 3).fmod 8).toNat : Nat) : Int) := by omega
    rw [e2]
  refine ex_step (ex_comp (k := "blanks") (items := rng 0 1 (x :: xs).length) (l := sizesOf (toksOf x xs)) (fBl (x :: xs)) (ite_of (ite_range (ev_range1 am gr (ev_call am gl (fn_len_list rfl (by rw [ofI_len]; omega)) ⟨ev_name (d := .own (ofI (x :: xs))) rfl, trivial⟩) (by omega) (by rw [ofI_len]; omega))) (by rw [ofI_len, Int.toNat_natCast])) (map_bl x xs) ?_ ?_ (by rw [rng_len]; omega) (.inl (by decide +kernel))) ?_
  · refine ⟨rfl, by decide +kernel, by decide +kernel, by decide +kernel, fun y hy hf => ?_⟩
    simp only [List.mem_cons, List.not_mem_nil, or_false] at hy
    rcases hy with rfl | rfl | rfl
    · cases hf
    · cases hf
    · exact ⟨by decide +kernel, by decide +kernel, "numbers", _, rfl, rfl⟩
  · intro y hy
    obtain ⟨k, hk⟩ := List.getElem?_of_mem hy
    obtain ⟨hk1, rfl⟩ := rng_at hk
    obtain ⟨z, hz⟩ := at_of hk1
    have ek : ((0 : Int) + (k : Int) * 1).toNat = k := by omega
    have hgz : (x :: xs).getD ((0 : Int) + (k : Int) * 1).toNat 0 = z := by rw [ek, List.getD_eq_getElem?_getD, hz]; rfl
    by_cases hk0 : k = 0
    · refine ev_ite_ff (tr_and_ff (tr_of (tr_cmp (ev_name (d := .sc (.int (0 + (k : Int) * 1))) rfl) ev_int cm_gt) (by rw [decide_eq_false_iff_not]; omega))) (ev_of ev_int ?_)
      show _ = D.sc (S.int (if 0 < ((0 : Int) + (k : Int) * 1) ∧ ((x :: xs).getD ((0 : Int) + (k : Int) * 1).toNat 0).fmod 3 = 2 then 2 else 1))
      rw [if_neg (fun h => by have := h.1; omega)]
    · by_cases h3 : z.fmod 3 = 2
      · refine ev_ite_tt (tr_and_tt (tr_of (tr_cmp (ev_name (d := .sc (.int (0 + (k : Int) * 1))) rfl) ev_int cm_gt) (by rw [decide_eq_true_eq]; omega)) (tr_and_tt (tr_of (tr_cmp (ev_bin (ev_item (x := .int z) (ev_name (d := .own (ofI (x :: xs))) (lk_in (by decide) (by decide +kernel) rfl)) (ev_name (d := .sc (.int (0 + (k : Int) * 1))) rfl) rfl (by omega) (by rw [ek]; exact ofI_at hz) (by rw [ofI_len]; omega)) ev_int (op_mod (by decide))) ev_int cm_eq) (by simpa using h3)) tr_and_nil)) (ev_of ev_int ?_)
        show _ = D.sc (S.int (if 0 < ((0 : Int) + (k : Int) * 1) ∧ ((x :: xs).getD ((0 : Int) + (k : Int) * 1).toNat 0).fmod 3 = 2 then 2 else 1))
        rw [hgz, if_pos ⟨by omega, h3⟩]
      · refine ev_ite_ff (tr_and_tt (tr_of (tr_cmp (ev_name (d := .sc (.int (0 + (k : Int) * 1))) rfl) ev_int cm_gt) (by rw [decide_eq_true_eq]; omega)) (tr_and_ff (tr_of (tr_cmp (ev_bin (ev_item (x := .int z) (ev_name (d := .own (ofI (x :: xs))) (lk_in (by decide) (by decide +kernel) rfl)) (ev_name (d := .sc (.int (0 + (k : Int) * 1))) rfl) rfl (by omega) (by rw [ek]; exact ofI_at hz) (by rw [ofI_len]; omega)) ev_int (op_mod (by decide))) ev_int cm_eq) (by simpa using h3)))) (ev_of ev_int ?_)
        show _ = D.sc (S.int (if 0 < ((0 : Int) + (k : Int) * 1) ∧ ((x :: xs).getD ((0 : Int) + (k : Int) * 1).toNat 0).fmod 3 = 2 then 2 else 1))
        rw [hgz, if_neg (fun h => h3 h.2)]
  refine ex_less ?_ next
  refine less_of fun p hp => ?_
  simp only [mA, List.mem_cons, List.not_mem_nil, or_false] at hp
  rcases hp with rfl | rfl | rfl | rfl | rfl <;> rfl
end
end Mine

end

section
open PySem PySem.W PyProof.Rows
set_option Elab.async false
set_option linter.unusedVariables false
namespace Mine
set_option maxRecDepth 100000

structure Wld (P : Params) (h₀ : Heap) (mg mb : Str → Option Value) : Prop where
  am : Amb mg mb h₀
  K : (hd.heap_39 P).In h₀
  glen : glb "len" (.builtin "len") mg mb
  grange : glb "range" (.type "range") mg mb
  gsum : glb "sum" (.builtin "sum") mg mb
  gmax : glb "max" (.builtin "max") mg mb
structure Par (lim : Int) (first later : List Nat) (toks : List Tk) : Prop where
  i1 : Ind first
  i2 : Ind later
  l1 : first.length ≤ 4
  l2 : later.length ≤ 4
  c1 : cols first ≤ 9
  c2 : cols later ≤ 9
  lo : 0 ≤ lim
  hi : lim ≤ 29
  ok : ∀ t ∈ toks, Tok t ∧ t.1.length ≤ 8
  len : toks.length ≤ 12
  head : ∃ t r, toks = t :: r ∧ t.2 = 1
/-- the same paragraph with words changed -/
structure Mod (toks toks' : List Tk) : Prop where
  snd : toks'.map Prod.snd = toks.map Prod.snd
  ok : ToksOk toks'
theorem Par.mod {lim : Int} {first later : List Nat} {toks : List Tk} (p : Par lim first later toks) : Mod toks toks :=
  ⟨rfl, ⟨fun t ht => ⟨(p.ok t ht).1, by have := (p.ok t ht).2; omega⟩, by have := p.len; omega⟩⟩
theorem Mod.head {lim : Int} {first later : List Nat} {toks toks' : List Tk} (p : Par lim first later toks) (h : Mod toks toks') : ∃ t r, toks' = t :: r ∧ t.2 = 1 := by
  obtain ⟨t, r, rfl, ht⟩ := p.head
  have := h.snd
  cases toks' with
  | nil => simp at this
  | cons t' r' => simp at this; exact ⟨t', r', rfl, by omega⟩
theorem Mod.sizes {toks toks' : List Tk} (h : Mod toks toks') : sizesOf toks' = sizesOf toks := by
  have e : ∀ l : List Tk, sizesOf l = ofI ((l.map Prod.snd).map fun (k : Nat) => (k : Int)) := fun l => by unfold sizesOf; rw [List.map_map]; rfl
  rw [e, e, h.snd]
theorem Mod.length {toks toks' : List Tk} (h : Mod toks toks') : toks'.length = toks.length := by
  have := congrArg List.length h.snd; simpa using this

theorem g86 {P : Params} {h : Heap} {mg : Str → Option Value} (g : h.Ns mainGlobals mg) (K : (hd.heap_39 P).In h) : mg (Str.ofString "_law_text") = some (.ref 86) := by
  rw [mg_look g K (by rfl) (by rfl)]
  kernel_rfl
theorem g100 {P : Params} {h : Heap} {mg : Str → Option Value} (g : h.Ns mainGlobals mg) (K : (hd.heap_39 P).In h) : mg (Str.ofString "_law_then_rest") = some (.ref 100) := by
  rw [mg_look g K (by rfl) (by rfl)]
  kernel_rfl
theorem g107 {P : Params} {h : Heap} {mg : Str → Option Value} (g : h.Ns mainGlobals mg) (K : (hd.heap_39 P).In h) : mg (Str.ofString "_law_filled") = some (.ref 107) := by
  rw [mg_look g K (by rfl) (by rfl)]
  kernel_rfl

def startsL (segs : List (List Tk)) : List Int := (List.range (segs.length + 1)).map fun k => ((segs.take k).flatten.length : Nat)
theorem starts_at {segs : List (List Tk)} {k : Nat} (h : k ≤ segs.length) : (startsL segs)[k]? = some (((segs.take k).flatten.length : Nat) : Int) := by
  unfold startsL; rw [List.getElem?_map, List.getElem?_range (by omega)]; rfl
theorem starts_len (segs : List (List Tk)) : (startsL segs).length = segs.length + 1 := by simp [startsL]
def fStart (segs : List (List Tk)) : S → S
  | .int i => .int ((segs.take i.toNat).flatten.length : Nat)
  | _ => .none
theorem map_start (segs : List (List Tk)) : (rng 0 1 (segs.length + 1)).map (fStart segs) = ofI (startsL segs) := by
  unfold rng startsL ofI
  rw [List.map_map, List.map_map]
  refine List.map_congr_left fun k _ => ?_
  show S.int (((segs.take ((0 : Int) + (k : Int) * 1).toNat).flatten.length : Nat) : Int) = S.int (((segs.take k).flatten.length : Nat) : Int)
  rw [show ((0 : Int) + (k : Int) * 1).toNat = k by omega]
theorem cut_take {α : Type} (l : List α) (k : Nat) (h : k ≤ l.length) : cut l none (some (k : Int)) = l.take k := by
  unfold cut
  have : clipAt l.length (k : Int) = k := by unfold clipAt; omega
  simp [this]
theorem cut_drop {α : Type} (l : List α) (k : Nat) (h : k ≤ l.length) : cut l (some (k : Int)) none = l.drop k := by
  unfold cut
  have : clipAt l.length (k : Int) = k := by unfold clipAt; omega
  simp only [Option.elim, this]
  exact List.take_of_length_le (by simp)

section
variable {prog : Program} {w : World} {P : Params} {h₀ : Heap} {mg mb : Str → Option Value} {n : Nat} {R : Fl → Mp → Prop}

theorem ev_refText (W : Wld P h₀ mg mb) {lim : Int} {first later : List Nat} {toks toks' : List Tk} (p : Par lim first later toks) (M : Mod toks toks') {m : Mp} {k : String} (hk : lk m k = some (.own (wordsOf' toks'))) (hkd : (Str.ofString k == ("__debug__" : Str)) = false) (hb : lk m "blanks" = some (.own (sizesOf toks))) (hf : lk m "first" = some (.sc (.str (T first)))) (hl : lk m "later" = some (.sc (.str (T later)))) (hm : lk m "limit" = some (.sc (.int lim)))
    {p1 p2 p3 p4 p5 p6 p7 p8 p9 : Pos} :
    Ev prog w h₀ 3 lawScope m (.Call (.Name (Str.ofString "reformat_paragraph") p1) [.Call (.Name (Str.ofString "_law_text") p2) [.Name (Str.ofString k) p3, .Name (Str.ofString "blanks") p4, .Name (Str.ofString "first") p5, .Name (Str.ofString "later") p6] [] p7, .Name (Str.ofString "limit") p8] [] p9) (.sc (.str (T (joinL [10] (render first later (start lim (cols first) (cols later) toks')))))) := by
  have hl1 := p.l1
  have hl2 := p.l2
  obtain ⟨t, r, e, ht⟩ := M.head p
  have gr : Gl mg mb lawScope "reformat_paragraph" (.ref 53) := ⟨by decide +kernel, .inl (g53 W.am.g W.K), by decide +kernel⟩
  have gt : Gl mg mb lawScope "_law_text" (.ref 86) := ⟨by decide +kernel, .inl (g86 W.am.g W.K), by decide +kernel⟩
  have hfr := fn_ref01 (prog := prog) (w := w) (lim := lim) W.am W.K W.glen W.grange ht (e ▸ M.ok) p.i1 p.i2 (by omega) (by omega)
  rw [← e] at hfr
  have hft := fn_text01 (prog := prog) (w := w) W.am W.K W.glen W.grange (first := first) (later := later) (toks := toks') (by rw [e]; simp) M.ok (by omega) (by omega)
  exact ev_call W.am gr (hfr.le (by omega)) ⟨ev_call W.am gt (hft.le (by omega)) ⟨ev_name (d := .own (wordsOf' toks')) hk trivial hkd, ev_of (ev_name (d := .own (sizesOf toks)) hb) (by rw [M.sizes]; rfl), ev_name (d := .sc (.str (T first))) hf, ev_name (d := .sc (.str (T later))) hl, trivial⟩, ev_name (d := .sc (.int lim)) hm, trivial⟩

theorem ev_linesT (W : Wld P h₀ mg mb) {lim : Int} {first later : List Nat} {toks toks' : List Tk} (p : Par lim first later toks) (M : Mod toks toks') {segs segs' : List (List Tk)} (hflat : segs'.flatten = toks') (hne : ∀ s ∈ segs', s ≠ []) (hcounts : countsOf segs' = countsOf segs) {m : Mp} {k : String} (hk : lk m k = some (.own (wordsOf' toks'))) (hkd : (Str.ofString k == ("__debug__" : Str)) = false) (hb : lk m "blanks" = some (.own (sizesOf toks))) (hf : lk m "first" = some (.sc (.str (T first)))) (hl : lk m "later" = some (.sc (.str (T later)))) (hc : lk m "counts" = some (.own (countsOf segs)))
    {p1 p2 p3 p4 p5 p6 p7 : Pos} :
    Ev prog w h₀ 3 lawScope m (.Call (.Name (Str.ofString "_law_lines") p1) [.Name (Str.ofString k) p2, .Name (Str.ofString "blanks") p3, .Name (Str.ofString "first") p4, .Name (Str.ofString "later") p5, .Name (Str.ofString "counts") p6] [] p7) (.sc (.str (T (joinL [10] (render first later segs'))))) := by
  have hl1 := p.l1
  have hl2 := p.l2
  have gt : Gl mg mb lawScope "_law_lines" (.ref 93) := ⟨by decide +kernel, .inl (g93 W.am.g W.K), by decide +kernel⟩
  have hft := fn_lines01 (prog := prog) (w := w) W.am W.K W.grange (first := first) (later := later) (toks := toks') (rest := []) (segs := segs') (by rw [List.append_nil]; exact hflat) hne M.ok (by omega) (by omega)
  rw [hcounts] at hft
  exact ev_call W.am gt (hft.le (by omega)) ⟨ev_name (d := .own (wordsOf' toks')) hk trivial hkd, ev_of (ev_name (d := .own (sizesOf toks)) hb) (by rw [M.sizes]; rfl), ev_name (d := .sc (.str (T first))) hf, ev_name (d := .sc (.str (T later))) hl, ev_name (d := .own (countsOf segs)) hc, trivial⟩

theorem ev_restT (W : Wld P h₀ mg mb) {lim : Int} {first later : List Nat} {toks toks' rest : List Tk} (p : Par lim first later toks) (M : Mod toks toks') {pre : List (List Tk)} (hflat : toks' = pre.flatten ++ rest) (hne : ∀ s ∈ pre, s ≠ []) (hsome : pre ≠ []) {m : Mp} {k : String} (hk : lk m k = some (.own (wordsOf' toks'))) (hkd : (Str.ofString k == ("__debug__" : Str)) = false) (hb : lk m "blanks" = some (.own (sizesOf toks))) (hf : lk m "first" = some (.sc (.str (T first)))) (hl : lk m "later" = some (.sc (.str (T later)))) (hm : lk m "limit" = some (.sc (.int lim)))
    {ec : PySem.Expr} (hc : Ev prog w h₀ 3 lawScope m ec (.new (countsOf pre))) (hst : noStar ec = true)
    {p1 p2 p3 p4 p5 p6 p7 : Pos} :
    Ev prog w h₀ 3 lawScope m (.Call (.Name (Str.ofString "_law_then_rest") p1) [.Name (Str.ofString k) p2, .Name (Str.ofString "blanks") p3, .Name (Str.ofString "first") p4, .Name (Str.ofString "later") p5, ec, .Name (Str.ofString "limit") p6] [] p7) (.sc (.str (T (restOut first later lim pre rest)))) := by
  have hl1 := p.l1
  have hl2 := p.l2
  have gt : Gl mg mb lawScope "_law_then_rest" (.ref 100) := ⟨by decide +kernel, .inl (g100 W.am.g W.K), by decide +kernel⟩
  have hft := fn_rest (prog := prog) (w := w) W.am W.K W.glen W.grange W.gsum (first := first) (later := later) (lim := lim) (toks := toks') (rest := rest) (segs := pre) hflat.symm hne hsome M.ok p.i2 (by omega) (by omega)
  refine ev_call W.am gt hft ⟨ev_name (d := .own (wordsOf' toks')) hk trivial hkd, ev_of (ev_name (d := .own (sizesOf toks)) hb) (by rw [M.sizes]; rfl), ev_name (d := .sc (.str (T first))) hf, ev_name (d := .sc (.str (T later))) hl, ev_ag hc, ev_name (d := .sc (.int lim)) hm, trivial⟩ ?_
  show (true && (true && (true && (true && (noStar ec && (true && true)))))) = true
  rw [hst]; rfl
/-- the two agree -/
theorem rest_same {lim : Int} {first later : List Nat} {pre : List (List Tk)} {rest : List Tk} (hsome : pre ≠ []) (h : start lim (cols first) (cols later) (pre.flatten ++ rest) = pre ++ start lim (cols later) (cols later) rest) :
    joinL [10] (render first later (start lim (cols first) (cols later) (pre.flatten ++ rest))) = restOut first later lim pre rest := by
  unfold restOut
  rw [h]
  congr 1
  cases pre with
  | nil => exact absurd rfl hsome
  | cons s pre =>
    simp only [render, List.cons_append, List.map_append]
    congr 2
    cases start lim (cols later) (cols later) rest with
    | nil => rfl
    | cons x r => rfl

def mB (lim : Int) (first later : List Nat) (toks : List Tk) (segs : List (List Tk)) : Mp := ("counts", .own (countsOf segs)) :: mA lim first later toks

theorem stageB (W : Wld P h₀ mg mb) {lim : Int} {first later : List Nat} {toks : List Tk} (p : Par lim first later toks)
    (next : ∀ segs, SegsOk lim first later toks segs → Ex prog w h₀ 3 lawScope (mB lim first later toks segs) (lawBody.drop 11) R) :
    Ex prog w h₀ 3 lawScope (mA lim first later toks) (lawBody.drop 7) R := by
  have hsl : sizeLine = 16777216 := rfl
  have hl1 := p.l1
  have hl2 := p.l2
  have hlen := p.len
  have hne : toks ≠ [] := by obtain ⟨t, r, rfl, _⟩ := p.head; simp
  have S := segs_ok (lim := lim) (first := first) (later := later) hne
  have hnext := next _ S
  refine ex_step (ex_assign (k := "told") (ev_refText W p p.mod (k := "words") rfl (by decide) rfl rfl rfl rfl) (.inl (by decide +kernel))) ?_
  generalize start lim (cols first) (cols later) toks = segs at *
  have okf : ToksOk segs.flatten := by rw [S.flat]; exact p.mod.ok
  have hsum := render_sum (i1 := first) (i2 := later) (by omega) (by omega) S.ne okf.ok okf.len
  have hrb := render_bound (i1 := first) (i2 := later) (by omega) (by omega) okf.ok okf.len
  have hrl := render_len first later segs
  have hjl := joinL_len (render first later segs)
  have hcnt := flat_count S.ne
  rw [S.flat] at hcnt
  have hwl := words_len toks
  have gl : Gl mg mb lawScope "len" (.builtin "len") := ⟨by decide +kernel, W.glen, by decide +kernel⟩
  have gs : Gl mg mb lawScope "sum" (.builtin "sum") := ⟨by decide +kernel, W.gsum, by decide +kernel⟩
  generalize hlines : render first later segs = lines at *
  have hlne : lines ≠ [] := by rw [← hlines]; intro e; have := congrArg List.length e; rw [render_len] at this; exact S.some (List.length_eq_zero_iff.mp this)
  have hnol : ∀ x ∈ lines, 10 ∉ x := by rw [← hlines]; exact render_no p.i1 p.i2 fun t ht => (okf.ok t ht).1
  have hsp := splitL_join hlne hnol
  refine ex_step (ex_comp (k := "counts") (items := ofS lines) (l := countsOf segs) fCount (ite_list (d := .new (ofS lines)) (ev_of (ev_me1 (ev_name (d := .sc (.str (T (joinL [10] lines)))) rfl) ev_nl (me_split (by omega))) (by rw [hsp])) rfl) ?_ ?_ ?_ (by rw [ofS_len]; omega) (.inr (by decide +kernel))) ?_
  · rw [map_count]
    have := render_runs p.i1 p.i2 fun t ht => (okf.ok t ht).1
    rw [hlines] at this
    have e : (lines.map fun l => ((runs false l : Nat) : Int)) = segs.map fun s => (s.length : Int) := by
      have := congrArg (List.map fun (k : Nat) => (k : Int)) this
      simpa [List.map_map, Function.comp_def] using this
    rw [e]; rfl
  · exact compOk_plain rfl (by decide +kernel) (by decide +kernel)
  · intro y hy
    obtain ⟨l, hl, rfl⟩ := List.mem_map.mp hy
    have hll := hrb l hl
    have hrn := runs_len l false
    simp at hrn
    have hwc := words_count l
    refine ev_of (ev_call W.am ⟨by decide +kernel, W.glen, by decide +kernel⟩ (fn_len_list (d := .new ((Txt.words (T l)).map Mine.S.str)) rfl (by rw [List.length_map, hwc]; omega)) ⟨ev_me0 (ev_name (d := .sc (.str (T l))) rfl) (me_words (by omega)), trivial⟩) ?_
    rw [List.length_map, hwc]
    show D.sc (Mine.S.int ((runs false l : Nat) : Int)) = D.sc (Mine.S.int ((runs false (T l).cps.toList : Nat) : Int))
    rw [T_list]
  refine ex_step (ex_if_ff (tr_of (tr_or2 (tr_cmp ev_int (ev_name (d := .own (countsOf segs)) rfl) (cm_in (l := segs.map fun s => (s.length : Int)) rfl)) (fun _ => tr_cmp (ev_call W.am gs (fn_sum (l := segs.map fun s => (s.length : Int)) rfl) ⟨ev_name (d := .own (countsOf segs)) rfl, trivial⟩) (ev_call W.am gl (fn_len_list rfl (by omega)) ⟨ev_name (d := .own (wordsOf' toks)) rfl, trivial⟩) cm_ne)) ?_) (ex_nil ⟨rfl, rfl⟩)) ?_
  · rw [any_zero S.ne, sum_counts, S.flat, hwl]; simp
  refine ex_step (ex_if_ff (tr_of (tr_cmp (ev_name (d := .sc (.str (T (joinL [10] lines)))) rfl) (ev_linesT W p p.mod (segs := segs) S.flat S.ne rfl (k := "words") rfl (by decide) rfl rfl rfl rfl) cm_sneT) (by rw [hlines]; simp)) (ex_nil ⟨rfl, rfl⟩)) ?_
  refine ex_less ?_ hnext
  refine less_of fun q hq => ?_
  simp only [mB, mA, List.mem_cons, List.not_mem_nil, or_false] at hq
  rcases hq with rfl | rfl | rfl | rfl | rfl | rfl <;> rfl
end
end Mine

end

section
open PySem PySem.W PyProof.Rows
set_option Elab.async false
set_option linter.unusedVariables false
namespace Mine
set_option maxRecDepth 100000

def mC (lim : Int) (first later : List Nat) (toks : List Tk) (segs : List (List Tk)) : Mp :=
  ("rooms", .own (ofI (roomsOf lim (cols first) (cols later) segs))) :: ("starts", .own (ofI (startsL segs))) :: mB lim first later toks segs
theorem counts_take (segs : List (List Tk)) (k : Nat) (h : k ≤ segs.length) : cut (countsOf segs) none (some (k : Int)) = countsOf (segs.take k) := by
  rw [cut_take _ _ (by rw [counts_len]; exact h)]
  unfold countsOf ofI
  rw [← List.map_take, ← List.map_take]

section
variable {prog : Program} {w : World} {P : Params} {h₀ : Heap} {mg mb : Str → Option Value} {n : Nat} {R : Fl → Mp → Prop}

theorem stageC (W : Wld P h₀ mg mb) {lim : Int} {first later : List Nat} {toks : List Tk} (p : Par lim first later toks) {segs : List (List Tk)} (S : SegsOk lim first later toks segs)
    (next : Ex prog w h₀ 3 lawScope (mC lim first later toks segs) (lawBody.drop 14) R) :
    Ex prog w h₀ 3 lawScope (mB lim first later toks segs) (lawBody.drop 11) R := by
  have hsl : sizeLine = 16777216 := rfl
  have hl1 := p.l1
  have hl2 := p.l2
  have hc1 := p.c1
  have hc2 := p.c2
  have hlen := p.len
  have hcnt := flat_count S.ne
  rw [S.flat] at hcnt
  have hcl := counts_len segs
  have hstl := starts_len segs
  have hrml := rooms_len lim (cols first) (cols later) segs
  have gl : Gl mg mb lawScope "len" (.builtin "len") := ⟨by decide +kernel, W.glen, by decide +kernel⟩
  have gr : Gl mg mb lawScope "range" (.type "range") := ⟨by decide +kernel, W.grange, by decide +kernel⟩
  have gc : Gl mg mb lawScope "_law_columns" (.ref 74) := ⟨by decide +kernel, .inl (g74 W.am.g W.K), by decide +kernel⟩
  have gj : Gl mg mb lawScope "_law_joined" (.ref 79) := ⟨by decide +kernel, .inl (g79 W.am.g W.K), by decide +kernel⟩
  refine ex_step (ex_comp (k := "starts") (items := rng 0 1 (segs.length + 1)) (l := ofI (startsL segs)) (fStart segs) (ite_of (ite_range (ev_range1 W.am gr (ev_bin (ev_call W.am gl (fn_len_list rfl (by omega)) ⟨ev_name (d := .own (countsOf segs)) rfl, trivial⟩) ev_int op_add) (by omega) (by omega))) (by rw [hcl, show ((segs.length : Int) + 1).toNat = segs.length + 1 by omega])) (map_start segs) ?_ ?_ (by rw [rng_len]; omega) (.inl (by decide +kernel))) ?_
  · refine ⟨rfl, by decide +kernel, by decide +kernel, by decide +kernel, fun y hy hf => ?_⟩
    simp only [List.mem_cons, List.not_mem_nil, or_false] at hy
    rcases hy with rfl | rfl | rfl | rfl
    · cases hf
    · cases hf
    · cases hf
    · exact ⟨by decide +kernel, by decide +kernel, "counts", _, rfl, rfl⟩
  · intro y hy
    obtain ⟨k, hk⟩ := List.getElem?_of_mem hy
    obtain ⟨hk1, rfl⟩ := rng_at hk
    have ek : ((0 : Int) + (k : Int) * 1) = (k : Int) := by omega
    refine ev_of (ev_call W.am ⟨by decide +kernel, W.gsum, by decide +kernel⟩ (fn_sum (d := .new (cut (countsOf segs) none (some (k : Int)))) (l := (segs.take k).map fun s : List Tk => ((s.length : Nat) : Int)) (congrArg some (counts_take segs k (by omega)))) ⟨ev_slice (lo := none) (hi := some (k : Int)) (ev_name (d := .own (countsOf segs)) (lk_in (by decide) (by decide +kernel) rfl)) trivial (ev_of (ev_name (d := .sc (.int (0 + (k : Int) * 1))) rfl) (by rw [ek]; rfl)) rfl (by omega), trivial⟩) ?_
    rw [sum_counts]
    show _ = D.sc (Mine.S.int (((segs.take ((0 : Int) + (k : Int) * 1).toNat).flatten.length : Nat) : Int))
    rw [ek, Int.toNat_natCast]
  refine ex_step (ex_assign (k := "rooms") (d := .new []) (ev_list (l := []) trivial (by simp)) (.inl (by decide +kernel))) ?_
  refine ex_cons (R₁ := fun f m' => f = .next ∧ Less (mC lim first later toks segs) m') (ex_for (x := "k") (fun k mi => mi = ("rooms", .own (ofI ((roomsOf lim (cols first) (cols later) segs).take k))) :: ("starts", .own (ofI (startsL segs))) :: mB lim first later toks segs)
    (it_range (ev_range1 W.am gr (ev_call W.am gl (fn_len_list rfl (by omega)) ⟨ev_name (d := .own (countsOf segs)) rfl, trivial⟩) (by omega) (by omega))) (.inl (by decide +kernel)) ?_ ?_ rfl) (fun m' h => ex_less h.2 next) (fun f m' hne h => absurd h.1 hne)
  · intro k y mi hy hmi
    subst hmi
    obtain ⟨hk, rfl⟩ := rng_at hy
    have hk' : k < segs.length := by omega
    obtain ⟨s, hs⟩ := at_of hk'
    have hsne := S.ne s (List.mem_of_getElem? hs)
    obtain ⟨_, hfit, _⟩ := S.all k s hs
    have hs1 : 1 ≤ s.length := by cases s with | nil => exact absurd rfl hsne | cons _ _ => simp
    have htf := take_full hs
    have htl := take_flat_le segs (k + 1)
    rw [S.flat] at htl
    have hsat := seg_at (rest := []) hs
    rw [List.append_nil, S.flat] at hsat
    have hj := fn_joined (prog := prog) (w := w) W.am W.K W.grange p.mod.ok (a := (segs.take k).flatten.length) (b := (segs.take (k + 1)).flatten.length) (by omega) (by omega)
    rw [htf, Nat.add_sub_cancel_left, hsat, ← htf] at hj
    have hrow : (rowText s).length ≤ 6528 := (p.mod.ok.sub (show s.Sublist toks by rw [← hsat]; exact (List.take_sublist _ _).trans (List.drop_sublist _ _))).wid.1
    have hrm := rooms_at (lim := lim) (c := cols first) (c2 := cols later) hs
    have ek : ((0 : Int) + (k : Int) * 1).toNat = k := by omega
    have ek1 : ((0 : Int) + (k : Int) * 1 + 1).toNat = k + 1 := by omega
    have hind : ∃ ind, ind = (if k = 0 then first else later) ∧ cAt (cols first) (cols later) k = cols ind := ⟨_, rfl, by unfold cAt; split <;> rfl⟩
    obtain ⟨ind, hie, hce⟩ := hind
    rw [hce] at hfit hrm
    have hpos : decide ((0 : Int) < 0 + (k : Int) * 1) = decide (k ≠ 0) := by rw [decide_eq_decide]; omega
    refine ex_step (ex_assign (k := "body") (ev_call W.am gj (hj.le (by omega)) ⟨ev_name (d := .own (wordsOf' toks)) rfl, ev_name (d := .own (sizesOf toks)) rfl,
      ev_item (x := .int ((segs.take k).flatten.length : Nat)) (ev_name (d := .own (ofI (startsL segs))) rfl) (ev_name (d := .sc (.int (0 + (k : Int) * 1))) rfl) rfl (by omega) (by rw [ek]; exact ofI_at (starts_at (by omega))) (by rw [ofI_len]; omega),
      ev_item (x := .int ((segs.take (k + 1)).flatten.length : Nat)) (ev_name (d := .own (ofI (startsL segs))) rfl) (ev_bin (ev_name (d := .sc (.int (0 + (k : Int) * 1))) rfl) ev_int op_add) rfl (by omega) (by rw [ek1]; exact ofI_at (starts_at (by omega))) (by rw [ofI_len]; omega), trivial⟩) (.inl (by decide +kernel))) ?_
    refine ex_step (ex_append (k := "rooms") (l := ofI ((roomsOf lim (cols first) (cols later) segs).take k)) (x := .int (lim - (cols ind : Nat) - (wid s : Nat))) rfl (ev_of (ev_bin (ev_bin (ev_name (d := .sc (.int lim)) rfl) (ev_call W.am gc ((fn_cols (l := ind) W.am W.K).le (by omega)) ⟨?_, trivial⟩) op_sub) (ev_call W.am gl (fn_len_str (x := T (rowText s)) (by rw [T_len]; omega)) ⟨ev_name (d := .sc (.str (T (rowText s)))) rfl, trivial⟩) op_sub) (by rw [T_len, rowText_len])) (by rw [ofI_len]; simp; omega)) ?_
    · by_cases hk0 : k = 0
      · rw [hie, if_pos hk0]
        exact ev_ite_ff (tr_of (tr_cmp (ev_name (d := .sc (.int (0 + (k : Int) * 1))) rfl) ev_int cm_gt) (by rw [hpos]; simpa using hk0)) (ev_name (d := .sc (.str (T first))) rfl)
      · rw [hie, if_neg hk0]
        exact ev_ite_tt (tr_of (tr_cmp (ev_name (d := .sc (.int (0 + (k : Int) * 1))) rfl) ev_int cm_gt) (by rw [hpos]; simpa using hk0)) (ev_name (d := .sc (.str (T later))) rfl)
    have el : ofI ((roomsOf lim (cols first) (cols later) segs).take k) ++ [Mine.S.int (lim - (cols ind : Nat) - (wid s : Nat))] = ofI ((roomsOf lim (cols first) (cols later) segs).take (k + 1)) := by
      rw [take_succ hrm]; simp [ofI]
    rw [el]
    have hrk : ((roomsOf lim (cols first) (cols later) segs).take (k + 1))[k]? = some (lim - (cols ind : Nat) - (wid s : Nat)) := by rw [take_at (by omega)]; exact hrm
    refine ex_mono (ex_one (ex_if_ff (tr_of (tr_and2 (tr_cmp (ev_item (x := .int (s.length : Int)) (ev_name (d := .own (countsOf segs)) rfl) (ev_name (d := .sc (.int (0 + (k : Int) * 1))) rfl) rfl (by omega) (by rw [ek]; exact counts_at hs) (by omega)) ev_int cm_gt) (fun _ => tr_cmp (ev_item (x := .int (lim - (cols ind : Nat) - (wid s : Nat))) (ev_name (d := .own (ofI ((roomsOf lim (cols first) (cols later) segs).take (k + 1)))) rfl) (ev_name (d := .sc (.int (0 + (k : Int) * 1))) rfl) rfl (by omega) (by rw [ek]; exact ofI_at hrk) (by rw [ofI_len]; simp; omega)) ev_int cm_lt)) ?_) (ex_nil (R := fun f m' => f = .next ∧ m' = _) ⟨rfl, rfl⟩))) fun f m' h => .inl ⟨.inl h.1, _, rfl, ?_⟩
    · rw [Bool.and_eq_false_iff, decide_eq_false_iff_not, decide_eq_false_iff_not]
      by_cases h : 1 < s.length
      · right; have := hfit h; omega
      · left; omega
    · rw [h.2]
      refine less_of fun q hq => ?_
      simp only [mB, mA, List.mem_cons, List.not_mem_nil, or_false] at hq
      rcases hq with rfl | rfl | rfl | rfl | rfl | rfl | rfl | rfl <;> rfl
  · intro mi hmi
    subst hmi
    rw [rng_len, Int.toNat_natCast, hcl, List.take_of_length_le (by omega)]
    exact ⟨rfl, less_refl _⟩
end
end Mine

end

section
open PySem PySem.W PyProof.Rows
set_option Elab.async false
set_option linter.unusedVariables false
namespace Mine
set_option maxRecDepth 100000

theorem fillAt_snd (n : Nat) : ∀ (i : Nat) (s : List Tk), (fillAt n i s).map Prod.snd = s.map Prod.snd
  | 0, [] => rfl
  | _ + 1, [] => rfl
  | 0, t :: r => rfl
  | i + 1, t :: r => by simp [fillAt, fillAt_snd n i r]
theorem fills_snd {segs : List (List Tk)} {rooms : List Int} (h : rooms.length = segs.length) : (fills segs rooms).flatten.map Prod.snd = segs.flatten.map Prod.snd := by
  rw [List.map_flatten, List.map_flatten]
  congr 1
  apply List.ext_getElem?
  intro i
  rw [List.getElem?_map, List.getElem?_map]
  by_cases hi : i < segs.length
  · obtain ⟨s, h1⟩ := at_of hi
    obtain ⟨r, h2⟩ := at_of (l := rooms) (i := i) (by omega)
    rw [fills_at h1 h2, h1]
    show some ((fill s r).map Prod.snd) = some (s.map Prod.snd)
    unfold fill
    rw [fillAt_snd]
  · rw [List.getElem?_eq_none (by rw [fills_len h]; omega), List.getElem?_eq_none (by omega)]
theorem seg_ok {toks : List Tk} {segs : List (List Tk)} (ok : ToksOk toks) (hf : segs.flatten = toks) {k : Nat} {s : List Tk} (hs : segs[k]? = some s) : ToksOk s := by
  have hsat := seg_at (rest := []) hs
  rw [List.append_nil, hf] at hsat
  exact ok.sub (by rw [← hsat]; exact (List.take_sublist _ _).trans (List.drop_sublist _ _))
theorem rooms_bound {lim : Int} {first later : List Nat} {toks : List Tk} (p : Par lim first later toks) {segs : List (List Tk)} (hf : segs.flatten = toks) : ∀ r ∈ roomsOf lim (cols first) (cols later) segs, -10000 ≤ r ∧ r ≤ 29 := by
  intro r hr
  obtain ⟨k, hk⟩ := List.getElem?_of_mem hr
  have hlt := lt_of_at hk
  rw [rooms_len] at hlt
  obtain ⟨s, hs⟩ := at_of hlt
  rw [rooms_at hs] at hk; cases hk
  have hw := (seg_ok p.mod.ok hf hs).wid.1
  rw [rowText_len] at hw
  have hc : cAt (cols first) (cols later) k ≤ 9 := by
    have := p.c1; have := p.c2
    unfold cAt; split <;> assumption
  have := p.lo; have := p.hi
  omega
theorem fills_mod {lim : Int} {first later : List Nat} {toks : List Tk} (p : Par lim first later toks) {segs : List (List Tk)} (hf : segs.flatten = toks) {rooms : List Int} (hr : rooms.length = segs.length) (hroom : ∀ r ∈ rooms, r ≤ 64) : Mod toks (fills segs rooms).flatten := by
  refine ⟨by rw [fills_snd hr, hf], fills_tok hr (by rw [hf]; exact p.mod.ok) (fun t ht => ?_) hroom⟩
  rw [hf] at ht
  have := (p.ok t ht).2; omega
theorem upd_ofI (l : List Int) (k : Nat) (x : Int) (h : k < l.length) : cut (ofI l) none (some (k : Int)) ++ [S.int x] ++ cut (ofI l) (some ((k + 1 : Nat) : Int)) none = ofI (upd l k x) := by
  rw [cut_take _ _ (by rw [ofI_len]; omega), cut_drop _ _ (by rw [ofI_len]; omega)]
  unfold upd ofI
  simp
theorem countsOf_eq {pre : List (List Tk)} {X : List Nat} (h : pre.map List.length = X) : countsOf pre = ofI (X.map fun (k : Nat) => (k : Int)) := by
  unfold countsOf; rw [← h, List.map_map]; rfl

section
variable {prog : Program} {w : World} {P : Params} {h₀ : Heap} {mg mb : Str → Option Value} {n : Nat} {R : Fl → Mp → Prop}

theorem stageD (W : Wld P h₀ mg mb) {lim : Int} {first later : List Nat} {toks : List Tk} (p : Par lim first later toks) {segs : List (List Tk)} (S : SegsOk lim first later toks segs)
    (next : Ex prog w h₀ 3 lawScope (mC lim first later toks segs) (lawBody.drop 16) R) :
    Ex prog w h₀ 3 lawScope (mC lim first later toks segs) (lawBody.drop 14) R := by
  have hrml := rooms_len lim (cols first) (cols later) segs
  have hrb := rooms_bound p S.flat
  have M := fills_mod p S.flat hrml fun r hr => by have := hrb r hr; omega
  have gf : Gl mg mb lawScope "_law_filled" (.ref 107) := ⟨by decide +kernel, .inl (g107 W.am.g W.K), by decide +kernel⟩
  have hfn := fn_filled (prog := prog) (w := w) W.am W.K W.glen W.grange W.gmax (segs := segs) (rooms := roomsOf lim (cols first) (cols later) segs) S.flat S.ne p.mod.ok hrml (fun r hr => by have := hrb r hr; omega)
  have hst := filled_start S.all S.some (fun t ht => (p.ok t (by rw [← S.flat]; exact ht)).1) (fun t ht => (M.ok.ok t ht).1)
  have hne : ∀ s ∈ fills segs (roomsOf lim (cols first) (cols later) segs), s ≠ [] := by
    intro x hx
    obtain ⟨j, hj⟩ := List.getElem?_of_mem hx
    obtain ⟨s', r', q1, q2, rfl⟩ := fills_inv hrml hj
    exact fill_ne (S.ne s' (List.mem_of_getElem? q1)) _
  have hcc := (counts_congr (fills_counts hrml)).1
  refine ex_step (ex_assign (k := "filled") (ev_call W.am gf (hfn.le (by omega)) ⟨ev_name (d := .own (wordsOf' toks)) rfl, ev_name (d := .own (countsOf segs)) rfl, ev_name (d := .own (ofI (roomsOf lim (cols first) (cols later) segs))) rfl, trivial⟩) (.inl (by decide +kernel))) ?_
  refine ex_step (ex_if_ff (tr_of (tr_cmp (ev_refText W p M (k := "filled") rfl (by decide) rfl rfl rfl rfl) (ev_linesT W p M (segs := segs) rfl hne hcc (k := "filled") rfl (by decide) rfl rfl rfl rfl) cm_sneT) (by rw [hst]; simp)) (ex_nil ⟨rfl, rfl⟩)) ?_
  refine ex_less ?_ next
  refine less_of fun q hq => ?_
  simp only [mC, mB, mA, List.mem_cons, List.not_mem_nil, or_false] at hq
  rcases hq with rfl | rfl | rfl | rfl | rfl | rfl | rfl | rfl <;> rfl

theorem stageE (W : Wld P h₀ mg mb) {lim : Int} {first later : List Nat} {toks : List Tk} (p : Par lim first later toks) {segs : List (List Tk)} (S : SegsOk lim first later toks segs)
    (next : Ex prog w h₀ 3 lawScope (mC lim first later toks segs) (lawBody.drop 17) R) :
    Ex prog w h₀ 3 lawScope (mC lim first later toks segs) (lawBody.drop 16) R := by
  have hsl : sizeLine = 16777216 := rfl
  have hlen := p.len
  have hcnt := flat_count S.ne
  rw [S.flat] at hcnt
  have hcl := counts_len segs
  have hrml := rooms_len lim (cols first) (cols later) segs
  have hrb := rooms_bound p S.flat
  have gl : Gl mg mb lawScope "len" (.builtin "len") := ⟨by decide +kernel, W.glen, by decide +kernel⟩
  have gr : Gl mg mb lawScope "range" (.type "range") := ⟨by decide +kernel, W.grange, by decide +kernel⟩
  have gf : Gl mg mb lawScope "_law_filled" (.ref 107) := ⟨by decide +kernel, .inl (g107 W.am.g W.K), by decide +kernel⟩
  refine ex_cons (R₁ := fun f m' => f = .next ∧ Less (mC lim first later toks segs) m') (ex_for (x := "k") (fun k mi => mi = mC lim first later toks segs)
    (it_range (ev_range1 W.am gr (ev_call W.am gl (fn_len_list rfl (by omega)) ⟨ev_name (d := .own (countsOf segs)) rfl, trivial⟩) (by omega) (by omega))) (.inl (by decide +kernel)) ?_ (fun mi h => ⟨rfl, by rw [h]; exact less_refl _⟩) rfl) (fun m' h => ex_less h.2 next) (fun f m' hne h => absurd h.1 hne)
  intro k y mi hy hmi
  subst hmi
  obtain ⟨hk, rfl⟩ := rng_at hy
  have hk' : k < segs.length := by omega
  obtain ⟨s, hs⟩ := at_of hk'
  have hsne := S.ne s (List.mem_of_getElem? hs)
  have ek : ((0 : Int) + (k : Int) * 1).toNat = k := by omega
  have ek0 : ((0 : Int) + (k : Int) * 1) = (k : Int) := by omega
  have ek1 : ((0 : Int) + (k : Int) * 1 + 1) = ((k + 1 : Nat) : Int) := by omega
  refine ex_mono (ex_one (ex_if (b := decide ((1 : Int) < (s.length : Int))) (tr_cmp (ev_item (x := .int (s.length : Int)) (ev_name (d := .own (countsOf segs)) rfl) (ev_name (d := .sc (.int (0 + (k : Int) * 1))) rfl) rfl (by omega) (by rw [ek]; exact counts_at hs) (by omega)) ev_int cm_gt) (R := fun f m' => f = .next ∧ Less (mC lim first later toks segs) m') (fun hb => ?_) (fun hb => ex_nil ⟨rfl, ?_⟩))) fun f m' h => .inl ⟨.inl h.1, _, rfl, h.2⟩
  · have hl : 1 < s.length := by rw [decide_eq_true_eq] at hb; omega
    have hrm := rooms_at (lim := lim) (c := cols first) (c2 := cols later) hs
    have hrmb := hrb _ (List.mem_of_getElem? hrm)
    have hul : (upd (roomsOf lim (cols first) (cols later) segs) k (lim - (cAt (cols first) (cols later) k : Nat) - (wid s : Nat) + 1)).length = segs.length := by rw [upd_len (by omega)]; exact hrml
    have hub : ∀ r ∈ upd (roomsOf lim (cols first) (cols later) segs) k (lim - (cAt (cols first) (cols later) k : Nat) - (wid s : Nat) + 1), -100000 ≤ r ∧ r ≤ 64 := by
      intro r hr
      rcases upd_mem hr with rfl | hr
      · omega
      · have := hrb r hr; omega
    have M := fills_mod p S.flat hul fun r hr => (hub r hr).2
    obtain ⟨pre, rest, q1, q2, q3, q4, q5⟩ := over_start S.all (fun t ht => (p.ok t (by rw [← S.flat]; exact ht)).1) hs hl (fun t ht => (M.ok.ok t ht).1)
    have hfn := fn_filled (prog := prog) (w := w) W.am W.K W.glen W.grange W.gmax (segs := segs) S.flat S.ne p.mod.ok hul hub
    have hupd := upd_ofI (roomsOf lim (cols first) (cols later) segs) k (lim - (cAt (cols first) (cols later) k : Nat) - (wid s : Nat) + 1) (by omega)
    generalize lim - (cAt (cols first) (cols later) k : Nat) - (wid s : Nat) = rk at *
    generalize hrooms' : upd (roomsOf lim (cols first) (cols later) segs) k (rk + 1) = rooms' at *
    generalize hov : (fills segs rooms').flatten = ov at *
    have hrest := rest_same (lim := lim) (first := first) (later := later) q2 q5
    rw [← q1] at hrest
    have hc1 : (cut (ofI (roomsOf lim (cols first) (cols later) segs)) none (some (k : Int))).length ≤ 12 := by rw [cut_take _ _ (by rw [ofI_len]; omega), List.length_take, ofI_len]; omega
    have hc2 : (cut (ofI (roomsOf lim (cols first) (cols later) segs)) (some ((k + 1 : Nat) : Int)) none).length ≤ 12 := by rw [cut_drop _ _ (by rw [ofI_len]; omega), List.length_drop, ofI_len]; omega
    refine ex_step (ex_assign (k := "over") (ev_call W.am gf (hfn.le (by omega)) ⟨ev_name (d := .own (wordsOf' toks)) rfl, ev_name (d := .own (countsOf segs)) rfl,
      ev_of (ev_ag (ev_bin (ev_bin (ev_slice (lo := none) (hi := some (k : Int)) (ev_name (d := .own (ofI (roomsOf lim (cols first) (cols later) segs))) rfl) trivial (ev_of (ev_name (d := .sc (.int (0 + (k : Int) * 1))) rfl) (by rw [ek0]; rfl)) rfl (by rw [ofI_len]; omega)) (ev_list (l := [.int (rk + 1)]) ⟨ev_bin (ev_item (x := .int rk) (ev_name (d := .own (ofI (roomsOf lim (cols first) (cols later) segs))) rfl) (ev_name (d := .sc (.int (0 + (k : Int) * 1))) rfl) rfl (by omega) (by rw [ek]; exact ofI_at hrm) (by rw [ofI_len]; omega)) ev_int op_add, trivial⟩ (by simp; omega)) (op_lcat rfl rfl (by simp; omega)))
        (ev_slice (lo := some ((k + 1 : Nat) : Int)) (hi := none) (ev_name (d := .own (ofI (roomsOf lim (cols first) (cols later) segs))) rfl) (ev_of (ev_bin (ev_name (d := .sc (.int (0 + (k : Int) * 1))) rfl) ev_int op_add) (by rw [ek1])) trivial rfl (by rw [ofI_len]; omega)) (op_lcat rfl rfl (by simp only [List.length_append, List.length_cons, List.length_nil]; omega)))) (by rw [hupd]), trivial⟩) (.inl (by decide +kernel))) ?_
    refine ex_step (ex_assign (k := "due") (ev_restT W p M q1 q3 q2 (k := "over") rfl (by decide) rfl rfl rfl rfl ?_ rfl) (.inl (by decide +kernel))) ?_
    · refine ev_of (ev_bin (ev_slice (lo := none) (hi := some (k : Int)) (ev_name (d := .own (countsOf segs)) rfl) trivial (ev_of (ev_name (d := .sc (.int (0 + (k : Int) * 1))) rfl) (by rw [ek0]; rfl)) rfl (by omega)) (ev_list (l := [.int ((s.length : Int) - 1)]) ⟨ev_bin (ev_item (x := .int (s.length : Int)) (ev_name (d := .own (countsOf segs)) rfl) (ev_name (d := .sc (.int (0 + (k : Int) * 1))) rfl) rfl (by omega) (by rw [ek]; exact counts_at hs) (by omega)) ev_int op_sub, trivial⟩ (by simp; omega)) (op_lcat rfl rfl (by rw [counts_take segs k (by omega), counts_len]; simp; omega))) ?_
      rw [counts_take segs k (by omega), countsOf_eq q4, countsOf_eq rfl]
      congr 1
      unfold ofI
      rw [List.map_append, List.map_append]
      congr 1
      simp; omega
    refine ex_mono (ex_one (ex_if_ff (tr_of (tr_cmp (ev_refText W p M (k := "over") rfl (by decide) rfl rfl rfl rfl) (ev_name (d := .sc (.str (T (restOut first later lim pre rest)))) rfl) cm_sneT) (by rw [hrest]; simp)) (ex_nil (R := fun f m' => f = .next ∧ m' = _) ⟨rfl, rfl⟩))) fun f m' h => ⟨h.1, ?_⟩
    rw [h.2]
    refine less_of fun q hq => ?_
    simp only [mC, mB, mA, List.mem_cons, List.not_mem_nil, or_false] at hq
    rcases hq with rfl | rfl | rfl | rfl | rfl | rfl | rfl | rfl <;> rfl
  · refine less_of fun q hq => ?_
    simp only [mC, mB, mA, List.mem_cons, List.not_mem_nil, or_false] at hq
    rcases hq with rfl | rfl | rfl | rfl | rfl | rfl | rfl | rfl <;> rfl
end
end Mine

end

section
open PySem PySem.W PyProof.Rows
set_option Elab.async false
set_option linter.unusedVariables false
namespace Mine
set_option maxRecDepth 100000

theorem sp122 : Unicode.isSpace 122 = false := by decide +kernel
theorem zs_ok {k : Nat} (h : 1 ≤ k) : Wd (List.replicate k 122) :=
  ⟨fun e => by have := congrArg List.length e; simp at this; omega, fun c hc => by rw [List.eq_of_mem_replicate hc]; exact sp122⟩
theorem repl_mod {lim : Int} {first later : List Nat} {toks : List Tk} (p : Par lim first later toks) {segs : List (List Tk)} (hf : segs.flatten = toks) {k : Nat} {s r : List Tk} {t : Tk} (hs : segs[k]? = some s) (hs' : segs[k + 1]? = some (t :: r)) {z : List Nat} (hz : Wd z) (hzl : z.length ≤ 100) :
    Mod toks (upd toks (segs.take (k + 1)).flatten.length (z, t.2)) := by
  have e1 := behind_split hs hs' (z, t.2)
  have e : segs.flatten = (segs.take (k + 1)).flatten ++ t :: (r ++ (segs.drop (k + 2)).flatten) := by
    conv => lhs; rw [split_at hs']
    simp
  rw [hf] at e1 e
  have hm := p.mod.ok
  have ht : Tok t := (hm.ok t (by rw [e]; simp)).1
  refine ⟨by rw [e1]; conv => rhs; rw [e]
             simp, ⟨fun x hx => ?_, ?_⟩⟩
  · rcases upd_mem hx with rfl | hx
    · exact ⟨⟨hz, ht.2⟩, hzl⟩
    · exact hm.ok x hx
  · rw [e1]
    have := hm.len
    rw [e] at this
    simp at this ⊢; omega
theorem upd_words (toks : List Tk) (k : Nat) (z : List Nat) (b : Nat) (h : k < toks.length) : cut (wordsOf' toks) none (some (k : Int)) ++ [S.str (T z)] ++ cut (wordsOf' toks) (some ((k + 1 : Nat) : Int)) none = wordsOf' (upd toks k (z, b)) := by
  rw [cut_take _ _ (by rw [words_len]; omega), cut_drop _ _ (by rw [words_len]; omega)]
  unfold upd wordsOf' ofS
  simp

section
variable {prog : Program} {w : World} {P : Params} {h₀ : Heap} {mg mb : Str → Option Value} {n : Nat} {R : Fl → Mp → Prop}

set_option maxHeartbeats 1000000 in
theorem stageF (W : Wld P h₀ mg mb) {lim : Int} {first later : List Nat} {toks : List Tk} (p : Par lim first later toks) {segs : List (List Tk)} (S : SegsOk lim first later toks segs) :
    Ex prog w h₀ 3 lawScope (mC lim first later toks segs) (lawBody.drop 17) fun f _ => f = .ret (.sc (.bool true)) := by
  have hsl : sizeLine = 16777216 := rfl
  have hlen := p.len
  have hcnt := flat_count S.ne
  rw [S.flat] at hcnt
  have hcl := counts_len segs
  have hwl := words_len toks
  have hzl := sizes_len toks
  have hstl := starts_len segs
  have hs0 : 1 ≤ segs.length := by cases h : segs with | nil => exact absurd h S.some | cons _ _ => simp
  have hrml := rooms_len lim (cols first) (cols later) segs
  have hrb := rooms_bound p S.flat
  have gl : Gl mg mb lawScope "len" (.builtin "len") := ⟨by decide +kernel, W.glen, by decide +kernel⟩
  have gr : Gl mg mb lawScope "range" (.type "range") := ⟨by decide +kernel, W.grange, by decide +kernel⟩
  have gm : Gl mg mb lawScope "max" (.builtin "max") := ⟨by decide +kernel, W.gmax, by decide +kernel⟩
  refine ex_cons (R₁ := fun f m' => f = .next ∧ Less (mC lim first later toks segs) m') (ex_for (x := "k") (fun k mi => mi = mC lim first later toks segs)
    (it_range (ev_range1 W.am gr (ev_bin (ev_call W.am gl (fn_len_list rfl (by omega)) ⟨ev_name (d := .own (countsOf segs)) rfl, trivial⟩) ev_int op_sub) (by omega) (by omega))) (.inl (by decide +kernel)) ?_ (fun mi h => ⟨rfl, by rw [h]; exact less_refl _⟩) rfl) (fun m' h => ex_one (ex_return ev_bool rfl)) (fun f m' hne h => absurd h.1 hne)
  intro k y mi hy hmi
  subst hmi
  obtain ⟨hk, rfl⟩ := rng_at hy
  have hk1 : k + 1 < segs.length := by omega
  obtain ⟨s, hs⟩ := at_of (l := segs) (i := k) (by omega)
  obtain ⟨s', hs'⟩ := at_of hk1
  have hsne := S.ne s (List.mem_of_getElem? hs)
  have hs'ne := S.ne s' (List.mem_of_getElem? hs')
  obtain ⟨t, r, rfl⟩ : ∃ t r, s' = t :: r := by cases s' with | nil => exact absurd rfl hs'ne | cons t r => exact ⟨t, r, rfl⟩
  have hs1 : 1 ≤ s.length := by cases s with | nil => exact absurd rfl hsne | cons _ _ => simp
  obtain ⟨_, hfit, hnext⟩ := S.all k s hs
  have hov := hnext t r hs'
  have htf := take_full hs
  have hnx' := nx_at hs' 0 (by simp)
  rw [S.flat] at hnx'
  simp only [Nat.add_zero, List.getElem?_cons_zero] at hnx'
  have hatl := lt_of_at hnx'
  obtain ⟨u, hu⟩ := at_of (l := s) (i := s.length - 1) (by omega)
  have hfl := ful_last hsne hu
  have hnx := nx_at hs (s.length - 1) (by omega)
  rw [S.flat, hu] at hnx
  have hrm := rooms_at (lim := lim) (c := cols first) (c2 := cols later) hs
  have hto := p.ok t (List.mem_of_getElem? hnx')
  have hcb : cAt (cols first) (cols later) k ≤ 9 := by
    have := p.c1; have := p.c2
    unfold cAt; split <;> assumption
  have hfw := (seg_ok p.mod.ok S.flat hs).wid.2
  rw [fullText_len] at hfw
  have hlo := p.lo
  have hhi := p.hi
  have ek : ((0 : Int) + (k : Int) * 1).toNat = k := by omega
  have ek0 : ((0 : Int) + (k : Int) * 1) = (k : Int) := by omega
  have ek1 : ((0 : Int) + (k : Int) * 1 + 1) = ((k + 1 : Nat) : Int) := by omega
  have ek1' : ((0 : Int) + (k : Int) * 1 + 1).toNat = k + 1 := by omega
  have hmodL := fun z (hz : Wd z) (hl : z.length ≤ 100) => repl_mod p S.flat hs hs' hz hl
  have hspl := fun x => behind_split hs hs' x
  rw [S.flat] at hspl
  have hupw := fun z => upd_words toks (segs.take (k + 1)).flatten.length z t.2 hatl
  have hlow := fun z => low_start (u := ((z, t.2) : Tk)) (rest := r ++ (segs.drop (k + 2)).flatten) S.all hs
  have hhigh := fun z => high_start (u := ((z, t.2) : Tk)) (rest := r ++ (segs.drop (k + 2)).flatten) S.all hs
  have hrestok : ∀ x ∈ r ++ (segs.drop (k + 2)).flatten, Tok x := by
    intro x hx
    refine (p.ok x ?_).1
    rw [← S.flat]
    rcases List.mem_append.mp hx with hx | hx
    · exact List.mem_flatten.mpr ⟨_, List.mem_of_getElem? hs', List.mem_cons_of_mem _ hx⟩
    · obtain ⟨y, hy, hxy⟩ := List.mem_flatten.mp hx
      exact List.mem_flatten.mpr ⟨y, List.mem_of_mem_drop hy, hxy⟩
  have htk : segs.take (k + 1) = segs.take k ++ [s] := take_succ hs
  have hneT : ∀ x ∈ segs.take (k + 1), x ≠ [] := fun x hx => S.ne x (List.mem_of_mem_take hx)
  have hstart := starts_at (segs := segs) (k := k + 1) (by omega)
  have hat1 : 1 ≤ (segs.take (k + 1)).flatten.length := by omega
  have hatu : toks[(segs.take (k + 1)).flatten.length - 1]? = some u := by rw [htf, show (segs.take k).flatten.length + s.length - 1 = (segs.take k).flatten.length + (s.length - 1) by omega]; exact hnx
  clear hnx htf
  generalize hat : (segs.take (k + 1)).flatten.length = at' at *
  generalize hc : cAt (cols first) (cols later) k = c at *
  have hfr : ∃ fr : Int, fr = lim - (c : Nat) - (wid s : Nat) - ((u.2 : Nat) : Int) := ⟨_, rfl⟩
  obtain ⟨fr, hfr⟩ := hfr
  have hwc : ∀ x : Mine.S, ((cut (wordsOf' toks) none (some (at' : Int))).length + [x].length ≤ 100) ∧ ((cut (wordsOf' toks) none (some (at' : Int)) ++ [x]).length + (cut (wordsOf' toks) (some ((at' + 1 : Nat) : Int)) none).length ≤ 100) := by
    intro x
    rw [cut_take _ _ (by omega), cut_drop _ _ (by omega)]
    simp [hwl]; omega
  refine ex_step (ex_assign (k := "at") (d := .sc (.int (at' : Nat))) (ev_item (x := .int (at' : Nat)) (ev_name (d := .own (ofI (startsL segs))) rfl) (ev_bin (ev_name (d := .sc (.int (0 + (k : Int) * 1))) rfl) ev_int op_add) rfl (by omega) (by rw [ek1']; exact ofI_at hstart) (by rw [ofI_len]; omega)) (.inl (by decide +kernel))) ?_
  refine ex_step (ex_assign (k := "free") (d := .sc (.int fr)) (ev_of (ev_bin (ev_item (x := .int (lim - (c : Nat) - (wid s : Nat))) (ev_name (d := .own (ofI (roomsOf lim (cols first) (cols later) segs))) rfl) (ev_name (d := .sc (.int (0 + (k : Int) * 1))) rfl) rfl (by omega) (by rw [ek]; exact ofI_at hrm) (by rw [ofI_len]; omega)) (ev_item (x := .int (u.2 : Nat)) (ev_name (d := .own (sizesOf toks)) rfl) (ev_bin (ev_name (d := .sc (.int (at' : Nat))) rfl) ev_int op_sub) rfl (by omega) (by rw [show (((at' : Nat) : Int) - 1).toNat = at' - 1 by omega]; exact sizes_at hatu) (by omega)) op_sub) (by rw [hfr])) (.inl (by decide +kernel))) ?_
  refine ex_step (ex_if_ff (tr_of (tr_cmp (ev_call W.am gl (fn_len_str (x := T t.1) (by rw [T_len]; omega)) ⟨ev_item (x := .str (T t.1)) (ev_name (d := .own (wordsOf' toks)) rfl) (ev_name (d := .sc (.int (at' : Nat))) rfl) rfl (by omega) (by rw [Int.toNat_natCast]; exact words_at hnx') (by omega), trivial⟩) (ev_name (d := .sc (.int fr)) rfl) cm_le) (by rw [T_len, decide_eq_false_iff_not]; omega)) (ex_nil ⟨rfl, rfl⟩)) ?_
  -- the word one sign too long
  have hz1 : 1 ≤ (max (fr + 1) 1).toNat := by omega
  have hz2 : (max (fr + 1) 1).toNat ≤ 100 := by omega
  have hz3 : lim < ((c + ful s + (List.replicate (max (fr + 1) 1).toNat 122).length : Nat) : Int) := by simp only [List.length_replicate]; omega
  have hlow' := hlow _ hz3
  have M := hmodL _ (zs_ok hz1) (by simpa using hz2)
  have hupw1 := hupw (List.replicate (max (fr + 1) 1).toNat 122)
  have hspl1 := hspl (List.replicate (max (fr + 1) 1).toNat 122, t.2)
  have hze1 : repL (max (fr + 1) 1).toNat [122] = List.replicate (max (fr + 1) 1).toNat 122 := repL_one _ _
  generalize List.replicate (max (fr + 1) 1).toNat 122 = zl at hlow' M hupw1 hspl1 hze1
  have hr1 := rest_same (lim := lim) (first := first) (later := later) (by rw [htk]; simp) hlow'
  rw [← hspl1] at hr1
  refine ex_step (ex_assign (k := "low") (d := .new (wordsOf' (upd toks at' (zl, t.2)))) (ev_of (ev_bin (ev_bin (ev_slice (lo := none) (hi := some (at' : Int)) (ev_name (d := .own (wordsOf' toks)) rfl) trivial (ev_name (d := .sc (.int (at' : Nat))) rfl) rfl (by omega)) (ev_list (l := [.str (T zl)]) ⟨ev_of (ev_bin (ev_strT (l := [122]) (by decide +kernel)) (ev_call W.am gm fn_max ⟨ev_bin (ev_name (d := .sc (.int fr)) rfl) ev_int op_add, ev_int, trivial⟩) (op_smul (by simp only [List.length_cons, List.length_nil]; omega) (by omega))) (by rw [hze1]), trivial⟩ (by simp; omega)) (op_lcat rfl rfl (by have := (hwc (.str (T zl))).1; omega)))
    (ev_slice (lo := some ((at' + 1 : Nat) : Int)) (hi := none) (ev_name (d := .own (wordsOf' toks)) rfl) (ev_of (ev_bin (ev_name (d := .sc (.int (at' : Nat))) rfl) ev_int op_add) (by rw [Int.natCast_add]; rfl)) trivial rfl (by omega)) (op_lcat rfl rfl (by have := (hwc (.str (T zl))).2; omega))) (by rw [hupw1])) (.inl (by decide +kernel))) ?_
  refine ex_step (ex_assign (k := "due_low") (ev_restT W p M hspl1 hneT (by rw [htk]; simp) (k := "low") rfl (by decide) rfl rfl rfl rfl ?_ rfl) (.inl (by decide +kernel))) ?_
  · exact ev_of (ev_slice (lo := none) (hi := some ((k + 1 : Nat) : Int)) (ev_name (d := .own (countsOf segs)) rfl) trivial (ev_of (ev_bin (ev_name (d := .sc (.int (0 + (k : Int) * 1))) rfl) ev_int op_add) (by rw [ek1])) rfl (by omega)) (by rw [counts_take segs (k + 1) (by omega)])
  refine ex_step (ex_if_ff (tr_of (tr_cmp (ev_refText W p M (k := "low") rfl (by decide) rfl rfl rfl rfl) (ev_name (d := .sc (.str (T (restOut first later lim (segs.take (k + 1)) ((zl, t.2) :: (r ++ (segs.drop (k + 2)).flatten)))))) rfl) cm_sneT) (by rw [hr1]; simp)) (ex_nil ⟨rfl, rfl⟩)) ?_
  -- the word of just the room
  refine ex_mono (ex_one (ex_if (b := decide ((0 : Int) < fr)) (tr_cmp (ev_name (d := .sc (.int fr)) rfl) ev_int cm_gt) (R := fun f m' => f = .next ∧ Less (mC lim first later toks segs) m') (fun hb => ?_) (fun hb => ex_nil ⟨rfl, ?_⟩))) fun f m' h => .inl ⟨.inl h.1, _, rfl, h.2⟩
  · rw [decide_eq_true_eq] at hb
    have hy1 : 1 ≤ fr.toNat := by omega
    have hy2 : fr.toNat ≤ 100 := by omega
    have hy3 : ((c + ful s + (List.replicate fr.toNat 122).length : Nat) : Int) = lim := by simp only [List.length_replicate]; omega
    have hhi' := hhigh _ hy3 (by have := (tok_pos hto.1).2; exact this) hrestok
    have M2 := hmodL _ (zs_ok hy1) (by simpa using hy2)
    have hupw2 := hupw (List.replicate fr.toNat 122)
    have hspl2 := hspl (List.replicate fr.toNat 122, t.2)
    have hze2 : repL fr.toNat [122] = List.replicate fr.toNat 122 := repL_one _ _
    generalize List.replicate fr.toNat 122 = zh at hhi' M2 hupw2 hspl2 hze2
    have hspl3 : upd toks at' (zh, t.2) = (segs.take k ++ [s ++ [(zh, t.2)]]).flatten ++ (r ++ (segs.drop (k + 2)).flatten) := by
      rw [hspl2, htk]; simp
    have hr2 := rest_same (lim := lim) (first := first) (later := later) (by simp) hhi'
    rw [← hspl3] at hr2
    have hneH : ∀ x ∈ segs.take k ++ [s ++ [(zh, t.2)]], x ≠ [] := by
      intro x hx
      rcases List.mem_append.mp hx with hx | hx
      · exact S.ne x (List.mem_of_mem_take hx)
      · simp at hx; subst hx; simp
    refine ex_step (ex_assign (k := "high") (d := .new (wordsOf' (upd toks at' (zh, t.2)))) (ev_of (ev_bin (ev_bin (ev_slice (lo := none) (hi := some (at' : Int)) (ev_name (d := .own (wordsOf' toks)) rfl) trivial (ev_name (d := .sc (.int (at' : Nat))) rfl) rfl (by omega)) (ev_list (l := [.str (T zh)]) ⟨ev_of (ev_bin (ev_strT (l := [122]) (by decide +kernel)) (ev_name (d := .sc (.int fr)) rfl) (op_smul (by simp only [List.length_cons, List.length_nil]; omega) (by omega))) (by rw [hze2]), trivial⟩ (by simp; omega)) (op_lcat rfl rfl (by have := (hwc (.str (T zh))).1; omega)))
      (ev_slice (lo := some ((at' + 1 : Nat) : Int)) (hi := none) (ev_name (d := .own (wordsOf' toks)) rfl) (ev_of (ev_bin (ev_name (d := .sc (.int (at' : Nat))) rfl) ev_int op_add) (by rw [Int.natCast_add]; rfl)) trivial rfl (by omega)) (op_lcat rfl rfl (by have := (hwc (.str (T zh))).2; omega))) (by rw [hupw2])) (.inl (by decide +kernel))) ?_
    refine ex_step (ex_assign (k := "due_high") (ev_restT W p M2 hspl3 hneH (by simp) (k := "high") rfl (by decide) rfl rfl rfl rfl ?_ rfl) (.inl (by decide +kernel))) ?_
    · refine ev_of (ev_bin (ev_slice (lo := none) (hi := some (k : Int)) (ev_name (d := .own (countsOf segs)) rfl) trivial (ev_of (ev_name (d := .sc (.int (0 + (k : Int) * 1))) rfl) (by rw [ek0]; rfl)) rfl (by omega)) (ev_list (l := [.int ((s.length : Int) + 1)]) ⟨ev_bin (ev_item (x := .int (s.length : Int)) (ev_name (d := .own (countsOf segs)) rfl) (ev_name (d := .sc (.int (0 + (k : Int) * 1))) rfl) rfl (by omega) (by rw [ek]; exact counts_at hs) (by omega)) ev_int op_add, trivial⟩ (by simp; omega)) (op_lcat rfl rfl (by rw [counts_take segs k (by omega), counts_len]; simp; omega))) ?_
      rw [counts_take segs k (by omega)]
      congr 1
      unfold countsOf ofI
      simp
    refine ex_mono (ex_one (ex_if_ff (tr_of (tr_cmp (ev_refText W p M2 (k := "high") rfl (by decide) rfl rfl rfl rfl) (ev_name (d := .sc (.str (T (restOut first later lim (segs.take k ++ [s ++ [(zh, t.2)]]) (r ++ (segs.drop (k + 2)).flatten))))) rfl) cm_sneT) (by rw [hr2]; simp)) (ex_nil (R := fun f m' => f = .next ∧ m' = _) ⟨rfl, rfl⟩))) fun f m' h => ⟨h.1, ?_⟩
    rw [h.2]
    refine less_of fun q hq => ?_
    simp only [mC, mB, mA, List.mem_cons, List.not_mem_nil, or_false] at hq
    rcases hq with rfl | rfl | rfl | rfl | rfl | rfl | rfl | rfl <;> rfl
  · refine less_of fun q hq => ?_
    simp only [mC, mB, mA, List.mem_cons, List.not_mem_nil, or_false] at hq
    rcases hq with rfl | rfl | rfl | rfl | rfl | rfl | rfl | rfl <;> rfl
end
end Mine

end

section
open PySem PySem.W PyProof.Rows
set_option Elab.async false
set_option linter.unusedVariables false
namespace Mine
set_option maxRecDepth 100000

def LawIs : Prop := ∀ (prog : Program) (w : World) (P : Params) (h₀ : Heap) (mg mb : Str → Option Value), Amb mg mb h₀ → (hd.heap_39 P).In h₀ → (∀ x : Str, x ≠ "__name__" → mb x = bootBuiltins x) → ∀ L : List Int, L.length ≤ 63 →
  Fn prog w h₀ 4 (.ref 112) [.ls (ofI L)] (.sc (.bool true))

set_option maxHeartbeats 4000000 in
theorem entry (law : LawIs) : PySem.Challenge.rw_lg0017_01.Holds := by
  refine hd ?_
  intro w s₀ s₁ mg mb G Y fa o pm cd doc dV kV ho hd' hcd hD hmg hg args vals as hpre hlay hrd hwl hlo
  have KX := kIn_of Y
  clear hd' hD hcd
  have h1 : mg (Str.ofString "law") = some (.ref fa) := hmg
  clear hmg
  refine Ground.open G ?_
  intro T B D TE TW
  wrow_args hpre hlay hrd hwl hlo
  rename_i L hs _ _ _ _ _ _ la vs _ hl _ _ _ hI _ hcond _
  have h2 : mg (Str.ofString "law") = some (.ref 112) := by
    rw [mg_look T.g KX (by rfl) (by rfl)]
    kernel_rfl
  have hfa : fa = 112 := by rw [h1] at h2; cases h2; rfl
  subst hfa
  have F := law (PySem.Challenge.rw_lg0017_01.row.prog) w w.params s₁.heap mg mb ⟨T.g, T.b, T.nolimit⟩ KX T.builtins L (by omega)
  show wpAny _ callerA (call (.ref 112) [.ref la]) _ _ s₁
  refine wpF (F.run callerA s₁ [.ref la] ⟨rfl, by decide +kernel, by decide +kernel⟩ (fun _ _ e => e) (.cons ⟨la, vs.toArray, rfl, hl, by simpa using paired_ofI' hI⟩ .nil)) fun v s' r => ?_
  have hv : v = .bool true := r.is
  subst hv
  obtain ⟨h', tk, rfl, hk⟩ := r.keeps
  refine GoodW.toG ⟨.inl ⟨.bool true, ofPy (.bool true), [], rfl, ?_, ?_, ?_, ?_⟩, ?_, ?_, ?_⟩
  · intro cls; rfl
  · exact .bool true
  · first | rfl | (with_unfolding_all rfl) | kernel_rfl
  · exact fun _ => ⟨by simp, by simp⟩
  · exact hk
  · rfl
  · exact hg
end Mine

end

section
open PySem PySem.W PyProof.Rows
set_option Elab.async false
set_option linter.unusedVariables false
namespace Mine
set_option maxRecDepth 100000
theorem boot_max : bootBuiltins (Str.ofString "max") = some (.builtin "max") := by decide +kernel
theorem no_max {P : Params} {h : Heap} {mg : Str → Option Value} (g : h.Ns mainGlobals mg) (K : (hd.heap_39 P).In h) : mg (Str.ofString "max") = none := by
  rw [mg_look g K (by rfl) (by rfl)]
  kernel_rfl

theorem law_is : LawIs := by
  intro prog w P h₀ mg mb am K boot L hL
  have W : Wld P h₀ mg mb := ⟨am, K, .inr ⟨no_len am.g K, (boot _ (by decide +kernel)).trans boot_len⟩, .inr ⟨no_range am.g K, (boot _ (by decide +kernel)).trans boot_range⟩,
    .inr ⟨no_sum am.g K, (boot _ (by decide +kernel)).trans boot_sum⟩, .inr ⟨no_max am.g K, (boot _ (by decide +kernel)).trans boot_max⟩⟩
  refine fn_def (n := 3) (names := ["script"]) am (K 112 _ (by rfl)) (by rfl) ⟨111, _, _, _, rfl, K 111 _ (by rfl), rfl, rfl⟩ rfl (by decide) (by simp [Param]) (fun vs hv => ?_) (fun x hx => ?_) ?_ trivial
  · obtain ⟨v, rfl⟩ := one_of hv; rfl
  · simp at hx; subst hx; exact .inl (by decide +kernel)
  · obtain ⟨x, xs, hx, hxs⟩ := numsOf_ne L
    have ok := toksOf_ok x xs
    obtain ⟨i1, l1, c1⟩ := indAt_ok ((headOf L).fdiv 30)
    obtain ⟨i2, l2, c2⟩ := indAt_ok ((headOf L).fdiv 150)
    have hm := fmod_range (headOf L) (b := 30) (by decide)
    have p : Par ((headOf L).fmod 30) (indAt ((headOf L).fdiv 30)) (indAt ((headOf L).fdiv 150)) (toksOf x xs) :=
      ⟨i1, i2, l1, l2, c1, c2, hm.1, by omega, ok, by simp [toksOf]; omega, ⟨_, _, rfl, rfl⟩⟩
    show Ex prog w h₀ 3 lawScope [("script", .ls (ofI L))] lawBody _
    refine stageA am W.glen W.grange hL hx ?_
    refine stageB W p fun segs S => ?_
    refine stageC W p S ?_
    refine stageD W p S ?_
    refine stageE W p S ?_
    exact stageF W p S
end Mine
theorem PySem.Challenge.cw_lg0017_01_holds : PySem.Challenge.rw_lg0017_01.Holds :=
  Mine.entry Mine.law_is

end
