import PyProof.Rows.All
import Wide.All
import OpenK.AllK
import Wide.FinOn
import PySem.Challenge.RW_ny0022_01
set_option Elab.async false
set_option linter.unusedVariables false
set_option maxRecDepth 100000

namespace Mine
open PySem PySem.W PyProof.Rows

/-- plain data -/
inductive D where
  | none
  | bool (b : Bool)
  | int (i : Int)
  | str (x : Str)
  | tup (l : List D)
  | list (l : List D)

/-- every sequence here is at most so long -/
def LIM : Nat := 1000

mutual
/-- v stands for the data in h; each object on the way lies in P -/
def RepP (P : Addr → Prop) (h : Heap) : D → Value → Prop
  | .none, v => v = .none
  | .bool b, v => v = .bool b
  | .int i, v => ∃ t, v = .int i t
  | .str x, v => ∃ t, v = .str x t
  | .tup l, v => l.length ≤ LIM ∧ ∃ a vs n, v = .ref a ∧ P a ∧ h.get? a = some { cls := .type "tuple", data := .seq vs n } ∧ RepsP P h l vs.toList
  | .list l, v => l.length ≤ LIM ∧ ∃ a vs n, v = .ref a ∧ P a ∧ h.get? a = some { cls := .type "list", data := .seq vs n } ∧ RepsP P h l vs.toList
def RepsP (P : Addr → Prop) (h : Heap) : List D → List Value → Prop
  | [], vs => vs = []
  | d :: ds, vs => ∃ v r, vs = v :: r ∧ RepP P h d v ∧ RepsP P h ds r
end

def Any : Addr → Prop := fun _ => True
def Dom (h : Heap) (a : Addr) : Prop := (h.get? a).isSome = true
abbrev Rep (h : Heap) (d : D) (v : Value) : Prop := RepP Any h d v
abbrev Reps (h : Heap) (d : List D) (v : List Value) : Prop := RepsP Any h d v

def Ext (h h' : Heap) : Prop := ∀ b o, h.get? b = some o → h'.get? b = some o
theorem Ext.refl (h : Heap) : Ext h h := fun _ _ e => e
theorem Ext.trans {a b c : Heap} (x : Ext a b) (y : Ext b c) : Ext a c := fun q o e => y q o (x q o e)
theorem Ext.push (h : Heap) (o : Obj) : Ext h (h.push o) := fun _ _ e => Heap.get?_push_of_some o e
theorem Dom.of {h : Heap} {a : Addr} {o : Obj} (e : h.get? a = some o) : Dom h a := by unfold Dom; rw [e]; rfl
theorem Dom.ext {h h' : Heap} {a : Addr} (d : Dom h a) (x : Ext h h') : Dom h' a := by
  unfold Dom at d
  obtain ⟨o, e⟩ := Option.isSome_iff_exists.mp d
  exact .of (x _ _ e)

theorem keeps_refl (s : Shared) : Keeps s s := ⟨s.heap, s.toks, rfl, fun _ _ e => e⟩
theorem keeps_trans {a b c : Shared} (x : Keeps a b) (y : Keeps b c) : Keeps a c := by
  obtain ⟨h, t, rfl, x⟩ := x
  obtain ⟨h', t', rfl, y⟩ := y
  exact ⟨h', t', rfl, fun q o e => y q o (x q o e)⟩
theorem keeps_ext {a b : Shared} (x : Keeps a b) : Ext a.heap b.heap := by
  obtain ⟨h, t, rfl, x⟩ := x
  exact x
theorem keeps_tok (s : Shared) (t : Nat) : Keeps s { s with toks := t } := ⟨s.heap, t, rfl, fun _ _ e => e⟩
theorem keeps_push (s : Shared) (o : Obj) : Keeps s { s with heap := s.heap.push o } := ⟨_, s.toks, rfl, Ext.push _ o⟩

mutual
theorem RepP.mono {P Q : Addr → Prop} {h h' : Heap} (p : ∀ a, P a → Q a) (x : ∀ a o, P a → h.get? a = some o → h'.get? a = some o) : ∀ {d : D} {v : Value}, RepP P h d v → RepP Q h' d v
  | .none, _, r => r
  | .bool _, _, r => r
  | .int _, _, r => r
  | .str _, _, r => r
  | .tup _, _, ⟨hl, a, vs, n, e, q, g, r⟩ => ⟨hl, a, vs, n, e, p _ q, x _ _ q g, RepsP.mono p x r⟩
  | .list _, _, ⟨hl, a, vs, n, e, q, g, r⟩ => ⟨hl, a, vs, n, e, p _ q, x _ _ q g, RepsP.mono p x r⟩
theorem RepsP.mono {P Q : Addr → Prop} {h h' : Heap} (p : ∀ a, P a → Q a) (x : ∀ a o, P a → h.get? a = some o → h'.get? a = some o) : ∀ {ds : List D} {vs : List Value}, RepsP P h ds vs → RepsP Q h' ds vs
  | [], _, r => r
  | _ :: _, _, ⟨v, r, e, a, b⟩ => ⟨v, r, e, RepP.mono p x a, RepsP.mono p x b⟩
end
mutual
theorem RepP.dom {P : Addr → Prop} {h : Heap} : ∀ {d : D} {v : Value}, RepP P h d v → RepP (fun a => P a ∧ Dom h a ∧ ∃ o vs n, h.get? a = some o ∧ o.data = .seq vs n) h d v
  | .none, _, r => r
  | .bool _, _, r => r
  | .int _, _, r => r
  | .str _, _, r => r
  | .tup _, _, ⟨hl, a, vs, n, e, q, g, r⟩ => ⟨hl, a, vs, n, e, ⟨q, .of g, _, _, _, g, rfl⟩, g, RepsP.dom r⟩
  | .list _, _, ⟨hl, a, vs, n, e, q, g, r⟩ => ⟨hl, a, vs, n, e, ⟨q, .of g, _, _, _, g, rfl⟩, g, RepsP.dom r⟩
theorem RepsP.dom {P : Addr → Prop} {h : Heap} : ∀ {ds : List D} {vs : List Value}, RepsP P h ds vs → RepsP (fun a => P a ∧ Dom h a ∧ ∃ o vs n, h.get? a = some o ∧ o.data = .seq vs n) h ds vs
  | [], _, r => r
  | _ :: _, _, ⟨v, r, e, a, b⟩ => ⟨v, r, e, RepP.dom a, RepsP.dom b⟩
end
theorem RepP.ext {P : Addr → Prop} {h h' : Heap} {d : D} {v : Value} (r : RepP P h d v) (x : Ext h h') : RepP P h' d v := r.mono (fun _ a => a) fun a o _ e => x a o e
theorem RepsP.ext {P : Addr → Prop} {h h' : Heap} {d : List D} {v : List Value} (r : RepsP P h d v) (x : Ext h h') : RepsP P h' d v := r.mono (fun _ a => a) fun a o _ e => x a o e
theorem RepP.any {P : Addr → Prop} {h : Heap} {d : D} {v : Value} (r : RepP P h d v) : Rep h d v := r.mono (fun _ _ => trivial) fun _ _ _ e => e
theorem RepsP.any {P : Addr → Prop} {h : Heap} {d : List D} {v : List Value} (r : RepsP P h d v) : Reps h d v := r.mono (fun _ _ => trivial) fun _ _ _ e => e
theorem RepP.imp {P Q : Addr → Prop} {h : Heap} {d : D} {v : Value} (r : RepP P h d v) (p : ∀ a, P a → Q a) : RepP Q h d v := r.mono p fun _ _ _ e => e
theorem RepsP.imp {P Q : Addr → Prop} {h : Heap} {d : List D} {v : List Value} (r : RepsP P h d v) (p : ∀ a, P a → Q a) : RepsP Q h d v := r.mono p fun _ _ _ e => e

section
variable {P : Addr → Prop}
theorem RepsP.length {h : Heap} : ∀ {ds : List D} {vs : List Value}, RepsP P h ds vs → vs.length = ds.length
  | [], vs, r => by rw [show vs = [] from r]; rfl
  | _ :: _, _, ⟨v, r, e, a, b⟩ => by rw [e, List.length_cons, List.length_cons, RepsP.length b]
theorem RepsP.get {h : Heap} : ∀ {ds : List D} {vs : List Value}, RepsP P h ds vs → ∀ {i : Nat} {d : D}, ds[i]? = some d → ∃ v, vs[i]? = some v ∧ RepP P h d v
  | [], _, _, i, d, e => by simp at e
  | _ :: _, _, ⟨v, r, e, a, b⟩, 0, d, q => by
    subst e
    simp at q
    exact ⟨v, by simp, q ▸ a⟩
  | _ :: _, _, ⟨v, r, e, a, b⟩, i + 1, d, q => by
    subst e
    simp at q ⊢
    exact RepsP.get b q
theorem RepsP.get' {h : Heap} : ∀ {ds : List D} {vs : List Value}, RepsP P h ds vs → ∀ {i : Nat} {v : Value}, vs[i]? = some v → ∃ d, ds[i]? = some d ∧ RepP P h d v
  | [], _, r, i, d, e => by rw [show _ = [] from r] at e; simp at e
  | d₀ :: _, _, ⟨v, r, e, a, b⟩, 0, d, q => by
    subst e
    simp at q
    exact ⟨d₀, by simp, q ▸ a⟩
  | _ :: _, _, ⟨v, r, e, a, b⟩, i + 1, d, q => by
    subst e
    simp at q ⊢
    exact RepsP.get' b q
theorem RepsP.append {h : Heap} : ∀ {ds es : List D} {vs us : List Value}, RepsP P h ds vs → RepsP P h es us → RepsP P h (ds ++ es) (vs ++ us)
  | [], _, _, _, r, q => by rw [show _ = [] from r]; exact q
  | _ :: _, _, _, _, ⟨v, r, e, a, b⟩, q => by subst e; exact ⟨v, _, rfl, a, RepsP.append b q⟩
theorem RepsP.take {h : Heap} : ∀ (n : Nat) {ds : List D} {vs : List Value}, RepsP P h ds vs → RepsP P h (ds.take n) (vs.take n)
  | 0, _, _, _ => by simp [RepsP]
  | n + 1, [], _, r => by rw [show _ = [] from r]; simp [RepsP]
  | n + 1, _ :: _, _, ⟨v, r, e, a, b⟩ => by subst e; exact ⟨v, _, rfl, a, RepsP.take n b⟩
theorem RepsP.drop {h : Heap} : ∀ (n : Nat) {ds : List D} {vs : List Value}, RepsP P h ds vs → RepsP P h (ds.drop n) (vs.drop n)
  | 0, _, _, r => by simpa using r
  | n + 1, [], _, r => by rw [show _ = [] from r]; simp [RepsP]
  | n + 1, _ :: _, _, ⟨v, r, e, a, b⟩ => by subst e; simpa using RepsP.drop n b
theorem RepsP.single {h : Heap} {d : D} {v : Value} (r : RepP P h d v) : RepsP P h [d] [v] := ⟨v, [], rfl, r, rfl⟩
theorem RepsP.reverse {h : Heap} : ∀ {ds : List D} {vs : List Value}, RepsP P h ds vs → RepsP P h ds.reverse vs.reverse
  | [], _, r => by rw [show _ = [] from r]; simp [RepsP]
  | _ :: _, _, ⟨v, r, e, a, b⟩ => by
    subst e
    simp only [List.reverse_cons]
    exact (RepsP.reverse b).append (.single a)
end

/-- an object of h, or one that is not there at s yet -/
def New (h : Heap) (s : Shared) (a : Addr) : Prop := Dom h a ∨ s.heap.get? a = Option.none
theorem New.back {h : Heap} {s s' : Shared} {a : Addr} (n : New h s' a) (x : Ext s.heap s'.heap) : New h s a := n.imp id fun e => by
  cases e' : s.heap.get? a with
  | none => rfl
  | some o => rw [x _ _ e'] at e; cases e

section
variable {prog : Program} {w : World} {A : Around} {h : Heap} {env : Env}

/-- from every state over h: the tree yields a value that stands for d, all that stood stands; what the value is made of was in h or is new -/
def Yld (prog : Program) (w : World) (A : Around) (h : Heap) (t : Sem Value) (d : D) : Prop :=
  ∀ (s : Shared) (E : Value → Shared → Prop), Ext h s.heap → wpAny (model prog w) A t (fun v s' => Keeps s s' ∧ RepP (New h s) s'.heap d v) E s
def Val (prog : Program) (w : World) (A : Around) (h : Heap) (env : Env) (e : Expr) (d : D) : Prop := Yld prog w A h (eval e env) d
def Tst (prog : Program) (w : World) (A : Around) (h : Heap) (env : Env) (e : Expr) (b : Bool) : Prop :=
  ∀ (s : Shared) (E : Value → Shared → Prop), Ext h s.heap → wpAny (model prog w) A (isTrue e env (eval e env)) (fun r s' => Keeps s s' ∧ r = b) E s
def Vals (prog : Program) (w : World) (A : Around) (h : Heap) (env : Env) (es : List Expr) (ds : List D) : Prop :=
  ∀ (pos : Pos) (s : Shared) (E : Value → Shared → Prop), Ext h s.heap → wpAny (model prog w) A (spliced (backTo pos (starEach es env))) (fun vs s' => Keeps s s' ∧ RepsP (New h s) s'.heap ds vs) E s
/-- a name that is bound to this very value -/
def Glb (prog : Program) (w : World) (A : Around) (h : Heap) (env : Env) (x : Str) (v : Value) : Prop :=
  ∀ (pos : Pos) (s : Shared) (E : Value → Shared → Prop) (Q : Value → Shared → Prop), Ext h s.heap → Q v s → wpAny (model prog w) A (eval (.Name x pos) env) Q E s

/-- use a value at a state -/
theorem Yld.use {t : Sem Value} {d : D} {s : Shared} {E : Value → Shared → Prop} {Q : Value → Shared → Prop} (y : Yld prog w A h t d) (x : Ext h s.heap)
    (k : ∀ v s', Keeps s s' → Ext h s'.heap → RepP (New h s) s'.heap d v → Q v s') : wpAny (model prog w) A t Q E s :=
  wpAny_mono (y s E x) (fun v s' r => k v s' r.1 (x.trans (keeps_ext r.1)) r.2) fun _ _ e => e
theorem Val.use {e : Expr} {d : D} {s : Shared} {E : Value → Shared → Prop} {Q : Value → Shared → Prop} (y : Val prog w A h env e d) (x : Ext h s.heap)
    (k : ∀ v s', Keeps s s' → Ext h s'.heap → RepP (New h s) s'.heap d v → Q v s') : wpAny (model prog w) A (eval e env) Q E s := Yld.use y x k
theorem Tst.use {e : Expr} {b : Bool} {s : Shared} {E : Value → Shared → Prop} {Q : Bool → Shared → Prop} (y : Tst prog w A h env e b) (x : Ext h s.heap)
    (k : ∀ s', Keeps s s' → Ext h s'.heap → Q b s') : wpAny (model prog w) A (isTrue e env (eval e env)) Q E s :=
  wpAny_mono (y s E x) (fun v s' r => r.2 ▸ k s' r.1 (x.trans (keeps_ext r.1))) fun _ _ e => e
theorem Vals.use {es : List Expr} {ds : List D} {pos : Pos} {s : Shared} {E : Value → Shared → Prop} {Q : List Value → Shared → Prop} (y : Vals prog w A h env es ds) (x : Ext h s.heap)
    (k : ∀ v s', Keeps s s' → Ext h s'.heap → RepsP (New h s) s'.heap ds v → Q v s') : wpAny (model prog w) A (spliced (backTo pos (starEach es env))) Q E s :=
  wpAny_mono (y pos s E x) (fun v s' r => k v s' r.1 (x.trans (keeps_ext r.1)) r.2) fun _ _ e => e
theorem RepP.back {s s' : Shared} {H : Heap} {d : D} {v : Value} (r : RepP (New h s') H d v) (k : Keeps s s') : RepP (New h s) H d v := r.imp fun _ n => n.back (keeps_ext k)
theorem RepsP.back {s s' : Shared} {H : Heap} {d : List D} {v : List Value} (r : RepsP (New h s') H d v) (k : Keeps s s') : RepsP (New h s) H d v := r.imp fun _ n => n.back (keeps_ext k)

theorem vals_nil : Vals prog w A h env [] [] := fun _ s _ _ => wpAny_items_nil ⟨keeps_refl s, rfl⟩
theorem vals_cons {e : Expr} {rest : List Expr} {d : D} {ds : List D} (x : Val prog w A h env e d) (y : Vals prog w A h env rest ds)
    (he : starEach (e :: rest) env = (false, eval e env) :: starEach rest env := by rfl) : Vals prog w A h env (e :: rest) (d :: ds) := fun pos s E q =>
  wpAny_items_cons (x.use q fun v s₁ k₁ e₁ r₁ => y.use e₁ fun vs s₂ k₂ e₂ r₂ => ⟨keeps_trans k₁ k₂, v, vs, rfl, r₁.ext (keeps_ext k₂), r₂.back k₁⟩) he

/-! constants -/
theorem val_int {i : Int} {k pos} : Val prog w A h env (.Constant (.int i) k pos) (.int i) := fun s _ _ => wpAny_Constant_int ⟨keeps_tok s _, _, rfl⟩
theorem val_none {k pos} : Val prog w A h env (.Constant .none k pos) .none := fun s _ _ => wpAny_Constant_none ⟨keeps_refl s, rfl⟩
theorem val_bool {b k pos} : Val prog w A h env (.Constant (.bool b) k pos) (.bool b) := fun s _ _ => wpAny_Constant_bool ⟨keeps_refl s, rfl⟩
theorem val_str {x k pos} : Val prog w A h env (.Constant (.str x) k pos) (.str x) := fun s _ _ => wpAny_Constant_str ⟨keeps_tok s _, _, rfl⟩

/-! displays -/
theorem val_tuple {es : List Expr} {ds : List D} {k pos} (x : Vals prog w A h env es ds) (hl : ds.length ≤ LIM) : Val prog w A h env (.Tuple es k pos) (.tup ds) := fun s E q =>
  wpAny_Tuple (x.use q fun vs s₁ k₁ e₁ r₁ => ⟨by rw [r₁.length]; exact Nat.le_trans hl (by decide), keeps_trans k₁ (keeps_push _ _), hl, _, _, 0, rfl, .inr (by
    cases e : s.heap.get? s₁.heap.objs.size with
    | none => rfl
    | some o => exact absurd (Heap.lt_size (keeps_ext k₁ _ _ e)) (Nat.lt_irrefl _)), Heap.get?_push_size _ rfl, by simpa using r₁.ext (Ext.push _ _)⟩)
theorem val_list {es : List Expr} {ds : List D} {pos} (x : Vals prog w A h env es ds) (hl : ds.length ≤ LIM) : Val prog w A h env (.List es pos) (.list ds) := fun s E q =>
  wpAny_List (x.use q fun vs s₁ k₁ e₁ r₁ => ⟨by rw [r₁.length]; exact Nat.le_trans hl (by decide), keeps_trans k₁ (keeps_push _ _), hl, _, _, 0, rfl, .inr (by
    cases e : s.heap.get? s₁.heap.objs.size with
    | none => rfl
    | some o => exact absurd (Heap.lt_size (keeps_ext k₁ _ _ e)) (Nat.lt_irrefl _)), Heap.get?_push_size _ rfl, by simpa using r₁.ext (Ext.push _ _)⟩)

/-! operations -/
theorem val_binop {l r : Expr} {op : Operator} {pos : Pos} {a b c : D} (x : Val prog w A h env l a) (y : Val prog w A h env r b)
    (z : ∀ (s s₀ : Shared) (E : Value → Shared → Prop) (u v : Value), Ext h s.heap → Keeps s₀ s → RepP (New h s₀) s.heap a u → RepP (New h s₀) s.heap b v → wpAny (model prog w) A (binaryOp op u v) (fun v s' => Keeps s s' ∧ RepP (New h s₀) s'.heap c v) E s) :
    Val prog w A h env (.BinOp l op r pos) c := fun s E e => wpAny_BinOp (x.use e fun u s₁ k₁ e₁ r₁ => y.use e₁ fun v s₂ k₂ e₂ r₂ =>
      wpAny_mono (z s₂ s E u v e₂ (keeps_trans k₁ k₂) (r₁.ext (keeps_ext k₂)) (r₂.back k₁)) (fun _ _ q => ⟨keeps_trans (keeps_trans k₁ k₂) q.1, q.2⟩) fun _ _ e => e)
theorem val_add {l r : Expr} {pos : Pos} {a b : Int} (x : Val prog w A h env l (.int a)) (y : Val prog w A h env r (.int b)) : Val prog w A h env (.BinOp l .Add r pos) (.int (a + b)) :=
  val_binop x y fun s s₀ E u v _ _ => by rintro ⟨t, rfl⟩ ⟨t', rfl⟩; exact PyProof.Rows.add_int ⟨keeps_tok s _, _, rfl⟩
theorem val_sub {l r : Expr} {pos : Pos} {a b : Int} (x : Val prog w A h env l (.int a)) (y : Val prog w A h env r (.int b)) : Val prog w A h env (.BinOp l .Sub r pos) (.int (a - b)) :=
  val_binop x y fun s s₀ E u v _ _ => by rintro ⟨t, rfl⟩ ⟨t', rfl⟩; exact PyProof.Rows.sub_int ⟨keeps_tok s _, _, rfl⟩
theorem val_mod {l r : Expr} {pos : Pos} {a b : Int} (x : Val prog w A h env l (.int a)) (y : Val prog w A h env r (.int b)) (hb : b ≠ 0) : Val prog w A h env (.BinOp l .Mod r pos) (.int (a.fmod b)) :=
  val_binop x y fun s s₀ E u v _ _ => by rintro ⟨t, rfl⟩ ⟨t', rfl⟩; exact PyProof.Rows.mod_int' hb ⟨keeps_tok s _, _, rfl⟩
theorem val_div {l r : Expr} {pos : Pos} {a b : Int} (x : Val prog w A h env l (.int a)) (y : Val prog w A h env r (.int b)) (hb : b ≠ 0) (hs : b.natAbs < 1073741824) : Val prog w A h env (.BinOp l .FloorDiv r pos) (.int (a.fdiv b)) :=
  val_binop x y fun s s₀ E u v _ _ => by rintro ⟨t, rfl⟩ ⟨t', rfl⟩; exact PyProof.Rows.floordiv_int hb ⟨keeps_tok s _, _, rfl⟩ (.inl (PyProof.noPylong_small hs))
theorem val_neg {l : Expr} {pos : Pos} {a : Int} (x : Val prog w A h env l (.int a)) : Val prog w A h env (.UnaryOp .USub l pos) (.int (-a)) :=
  fun s E e => wpAny_UnaryOp (x.use e fun u s₁ k₁ e₁ => by rintro ⟨t, rfl⟩; exact PyProof.Rows.neg_int ⟨keeps_trans k₁ (keeps_tok s₁ _), _, rfl⟩)
theorem none_of_ext {s s₁ : Heap} (x : Ext s s₁) : s.get? s₁.objs.size = Option.none := by
  cases e : s.get? s₁.objs.size with
  | none => rfl
  | some o => exact absurd (Heap.lt_size (x _ _ e)) (Nat.lt_irrefl _)
theorem lim_line {n : Nat} (h : n ≤ LIM) : n ≤ sizeLine := Nat.le_trans h (by decide)
theorem lim_fit {n : Nat} (h : n ≤ LIM) : (n : Int) < 2 ^ 63 := by
  have : n ≤ 1000 := h
  omega
theorem val_cat {l r : Expr} {pos : Pos} {a b : List D} (x : Val prog w A h env l (.list a)) (y : Val prog w A h env r (.list b)) (hl : a.length + b.length ≤ LIM) : Val prog w A h env (.BinOp l .Add r pos) (.list (a ++ b)) :=
  val_binop x y fun s s₀ E u v _ k => by
    rintro ⟨h1, a1, vs, n, rfl, _, g, r⟩ ⟨h2, a2, us, n', rfl, _, g', r'⟩
    have e1 := r.length
    have e2 := r'.length
    refine P.add_list g g' ⟨keeps_push s _, by simpa using hl, _, _, 0, rfl, .inr (none_of_ext (keeps_ext k)), Heap.get?_push_size _ rfl, ?_⟩ ?_
    · rw [Array.toList_append]; exact (r.append r').ext (Ext.push _ _)
    · rw [Array.length_toList] at e1 e2; rw [e1, e2]; exact lim_line hl

/-! subscripts -/
theorem sub_any {value slice : Expr} {pos : Pos} {s : Shared} {E : Value → Shared → Prop} {Q : Value → Shared → Prop} {T id : String} (ops : Value → Value → List Value)
    (hl : typeLookup (.type T) "__getitem__" = pure (some (.builtin id)))
    (h : wpAny (model prog w) A (eval value env) (fun o s₁ => wpAny (model prog w) A (eval slice env) (fun i s₂ => s₂.TypeIs o T ∧ wpAny (model prog w) A (getItem o i) Q E s₂) E s₁) E s)
    (hsub : ∀ o i, subscripted slice false o i = operate (ops o i) (getItem o i)) :
    wpAny (model prog w) A (eval (.Subscript value slice pos) env) Q E s := by
  rw [eval_Subscript]
  refine wpAny_bind (wpAny_mono h (fun o s₁ h₁ => wpAny_bind (wpAny_holding (wpAny_mono h₁ (fun i s₂ h₂ => wpAny_bind (wpAny_standAt ?_)) fun _ _ x => x)))
    fun _ _ x => x)
  refine wpAny_bind ?_
  rw [getitemInPython_of_ne h₂.1.not_modules]
  refine wpAny_bind (wpAny_specialOf h₂.1 hl ?_)
  have fin : wpAny (model prog w) A (subscripted slice false o i) (fun r s₃ => wpAny (model prog w) A (letTemporaryGo value o r >>= fun _ => pure r) Q E s₃) E s₂ := by
    rw [hsub]
    exact wpAny_operating (wpAny_mono h₂.2 (fun r s₃ h₃ => wpAny_bind (wpAny_letTemporaryGo (wpAny_pure h₃))) fun _ _ x => x)
  first
    | exact wpAny_pure (wpAny_bind fin)
    | exact wpAny_bind (wpAny_pure (wpAny_bind fin))
    | exact wpAny_bind fin

theorem val_item {value slice : Expr} {pos : Pos} {ds : List D} {i : Int} {d : D} (x : Val prog w A h env value (.list ds)) (y : Val prog w A h env slice (.int i)) (h0 : 0 ≤ i) (hd : ds[i.toNat]? = some d)
    (hsub : ∀ o i, subscripted slice false o i = operate [o, i] (getItem o i) := by intro _ _; rfl) : Val prog w A h env (.Subscript value slice pos) d := fun s E e =>
  sub_any (T := "list") _ list_getitem_lookup (x.use e fun u s₁ k₁ e₁ r₁ => y.use e₁ fun v s₂ k₂ e₂ r₂ => by
    obtain ⟨hl, a, vs, n, rfl, _, g, r⟩ := r₁
    obtain ⟨t, rfl⟩ := r₂
    have g' := keeps_ext k₂ _ _ g
    have hL : s₂.heap.IsList a vs := ⟨_, g', rfl, n, rfl⟩
    obtain ⟨v, hv, rv⟩ := r.get hd
    have hlt : i.toNat < ds.length := (List.getElem?_eq_some_iff.mp hd).1
    have hlm : ds.length ≤ 1000 := hl
    exact ⟨hL.typeIs, wpAny_getItem_list hL h0 (by omega) (by rw [← Array.getElem?_toList]; exact hv) ⟨keeps_trans k₁ k₂, rv.ext (keeps_ext k₂)⟩⟩) hsub
theorem val_last {value slice : Expr} {pos : Pos} {ds : List D} {d : D} (x : Val prog w A h env value (.list ds)) (y : Val prog w A h env slice (.int (-1))) (hd : ds.getLast? = some d)
    (hsub : ∀ o i, subscripted slice false o i = operate [o, i] (getItem o i) := by intro _ _; rfl) : Val prog w A h env (.Subscript value slice pos) d := fun s E e =>
  sub_any (T := "list") _ list_getitem_lookup (x.use e fun u s₁ k₁ e₁ r₁ => y.use e₁ fun v s₂ k₂ e₂ r₂ => by
    obtain ⟨hl, a, vs, n, rfl, _, g, r⟩ := r₁
    obtain ⟨t, rfl⟩ := r₂
    have g' := keeps_ext k₂ _ _ g
    have hL : s₂.heap.IsList a vs := ⟨_, g', rfl, n, rfl⟩
    rw [List.getLast?_eq_getElem?] at hd
    obtain ⟨v, hv, rv⟩ := r.get hd
    have hlt : ds.length - 1 < ds.length := (List.getElem?_eq_some_iff.mp hd).1
    have hlm : ds.length ≤ 1000 := hl
    have hsz : vs.size = ds.length := by rw [← r.length, Array.length_toList]
    refine ⟨hL.typeIs, wpAny_getItem_list_neg hL (by decide) (by omega) (by decide) ?_ ⟨keeps_trans k₁ k₂, rv.ext (keeps_ext k₂)⟩⟩
    rw [← Array.getElem?_toList, ← hv]
    congr 1
    omega) hsub

theorem val_slice {value : Expr} {lo up st : Option Expr} {p pos : Pos} {ds ds' : List D} {l u k : Option Int} (x : Val prog w A h env value (.list ds))
    (yl : ∀ (s : Shared) (E : Value → Shared → Prop), Ext h s.heap → wpAny (model prog w) A (evalPart lo env) (fun v s' => Keeps s s' ∧ IsPart v l) E s)
    (yu : ∀ (s : Shared) (E : Value → Shared → Prop), Ext h s.heap → wpAny (model prog w) A (evalPart up env) (fun v s' => Keeps s s' ∧ IsPart v u) E s)
    (yk : ∀ (s : Shared) (E : Value → Shared → Prop), Ext h s.heap → wpAny (model prog w) A (evalPart st env) (fun v s' => Keeps s s' ∧ IsPart v k) E s)
    (h0 : k ≠ some 0) (hp : ∀ (P : Addr → Prop) (H : Heap) (vs : Array Value), RepsP P H ds vs.toList → RepsP P H ds' (slicePick vs l u k).toList) (hlen : ds'.length ≤ ds.length)
    (ops : Value → Value → List Value) (hsub : ∀ o i, subscripted (.Slice lo up st p) false o i = operate (ops o i) (getItem o i)) :
    Val prog w A h env (.Subscript value (.Slice lo up st p) pos) (.list ds') := fun s E e =>
  sub_any (T := "list") ops list_getitem_lookup (x.use e fun o s₁ k₁ e₁ r₁ => wpAny_Slice (wpAny_mono (yl s₁ E e₁) (fun vl s₂ q₂ => wpAny_mono (yu s₂ E (e₁.trans (keeps_ext q₂.1))) (fun vu s₃ q₃ =>
    wpAny_mono (yk s₃ E ((e₁.trans (keeps_ext q₂.1)).trans (keeps_ext q₃.1))) (fun vk s₄ q₄ => by
      obtain ⟨hl, a, vs, n, rfl, _, g, r⟩ := r₁
      have kk : Keeps s₁ s₄ := keeps_trans q₂.1 (keeps_trans q₃.1 q₄.1)
      have g' : (s₄.heap.push { cls := .type "slice", data := .fields #[vl, vu, vk] }).get? a = _ := Heap.get?_push_of_some _ (keeps_ext kk _ _ g)
      have hL : (s₄.heap.push { cls := .type "slice", data := .fields #[vl, vu, vk] }).IsList a vs := ⟨_, g', rfl, n, rfl⟩
      have k4 : Keeps s { s₄ with heap := (s₄.heap.push { cls := .type "slice", data := .fields #[vl, vu, vk] }) } := keeps_trans (keeps_trans k₁ kk) (keeps_push _ _)
      refine ⟨hL.typeIs, wpAny_getItem_list_slice hL (Heap.IsSliceOf.new ..) q₂.2 q₃.2 q₄.2 h0 ⟨keeps_trans k4 (keeps_push _ _), Nat.le_trans hlen hl, _, _, 0, rfl, .inr (none_of_ext (keeps_ext k4)), Heap.get?_push_size _ rfl, ?_⟩ (by rw [← Array.length_toList, r.length]; exact lim_line hl)⟩
      exact ((hp _ _ _ r).ext (keeps_ext kk)).ext ((Ext.push _ _).trans (Ext.push _ _))) fun _ _ x => x) fun _ _ x => x) fun _ _ x => x)) hsub

theorem part_none {s : Shared} {E : Value → Shared → Prop} : wpAny (model prog w) A (evalPart Option.none env) (fun v s' => Keeps s s' ∧ IsPart v Option.none) E s := by
  rw [evalPart_none]; exact wpAny_pure ⟨keeps_refl s, .none⟩
theorem part_some {e : Expr} {i : Int} (x : Val prog w A h env e (.int i)) (s : Shared) (E : Value → Shared → Prop) (q : Ext h s.heap) : wpAny (model prog w) A (evalPart (some e) env) (fun v s' => Keeps s s' ∧ IsPart v (some i)) E s := by
  rw [evalPart_some]
  exact x.use q fun v s' k _ => by rintro ⟨t, rfl⟩; exact ⟨k, .int i t⟩

theorem val_upto {value up : Expr} {p pos : Pos} {ds : List D} {i : Int} (x : Val prog w A h env value (.list ds)) (y : Val prog w A h env up (.int i)) (h0 : 0 ≤ i) :
    Val prog w A h env (.Subscript value (.Slice Option.none (some up) Option.none p) pos) (.list (ds.take i.toNat)) :=
  val_slice x (fun _ _ _ => part_none) (part_some y) (fun _ _ _ => part_none) (by simp) (fun P H vs r => by
    obtain ⟨j, rfl⟩ := Int.eq_ofNat_of_zero_le h0
    rw [slicePick_upto']
    simpa using r.take j) (by simp; omega) (fun o i => [i, o]) fun _ _ => rfl
theorem val_from {value lo : Expr} {p pos : Pos} {ds : List D} {i : Int} (x : Val prog w A h env value (.list ds)) (y : Val prog w A h env lo (.int i)) (h0 : 0 ≤ i) :
    Val prog w A h env (.Subscript value (.Slice (some lo) Option.none Option.none p) pos) (.list (ds.drop i.toNat)) :=
  val_slice x (part_some y) (fun _ _ _ => part_none) (fun _ _ _ => part_none) (by simp) (fun P H vs r => by
    obtain ⟨j, rfl⟩ := Int.eq_ofNat_of_zero_le h0
    rw [slicePick_from']
    simpa using r.drop j) (by simp) (fun o i => [i, o]) fun _ _ => rfl
theorem val_rev {value st : Expr} {p pos : Pos} {ds : List D} (x : Val prog w A h env value (.list ds)) (y : Val prog w A h env st (.int (-1))) :
    Val prog w A h env (.Subscript value (.Slice Option.none Option.none (some st) p) pos) (.list ds.reverse) :=
  val_slice x (fun _ _ _ => part_none) (fun _ _ _ => part_none) (part_some y) (by simp) (fun P H vs r => by
    rw [krv_pick]
    simpa using r.reverse) (by simp) (fun o i => [o, i]) fun _ _ => rfl
end
end Mine

namespace Mine
open PySem PySem.W PyProof.Rows

/-! data as the library's data -/
mutual
def toDat : D → Dat
  | .none => .none
  | .bool b => .bool b
  | .int i => .int i
  | .str x => .str x
  | .tup l => .tuple (toDats l)
  | .list l => .list (toDats l)
def toDats : List D → List Dat
  | [] => []
  | d :: ds => toDat d :: toDats ds
end
theorem toDats_eq (l : List D) : toDats l = l.map toDat := by
  induction l with
  | nil => rfl
  | cons d l ih => simp [toDats, ih]

mutual
theorem rep_reads {h : Heap} {P : Addr → Prop} : ∀ {d : D} {v : Value}, RepP P h d v → ∃ as, Reads h v (kqdP (toDat d)) as
  | .none, _, r => by cases r; exact ⟨_, .none⟩
  | .bool b, _, r => by cases r; exact ⟨_, .bool b⟩
  | .int i, _, ⟨t, r⟩ => by cases r; exact ⟨_, .int i t⟩
  | .str i, _, ⟨t, r⟩ => by cases r; exact ⟨_, .str i t⟩
  | .tup l, _, ⟨_, a, vs, n, e, _, g, r⟩ => by
    subst e
    obtain ⟨as, ra⟩ := reps_reads r
    exact ⟨_, by simp only [toDat, kqdP]; exact .tuple g rfl rfl ra⟩
  | .list l, _, ⟨_, a, vs, n, e, _, g, r⟩ => by
    subst e
    obtain ⟨as, ra⟩ := reps_reads r
    exact ⟨_, by simp only [toDat, kqdP]; exact .list g rfl rfl ra⟩
theorem reps_reads {h : Heap} {P : Addr → Prop} : ∀ {ds : List D} {vs : List Value}, RepsP P h ds vs → ∃ as, ReadsAll h vs (kqdPs (toDats ds)) as
  | [], _, r => by rw [show _ = [] from r]; exact ⟨_, by simp only [toDats, kqdPs]; exact .nil⟩
  | d :: ds, _, ⟨v, r, e, a, b⟩ => by
    subst e
    obtain ⟨as, ra⟩ := rep_reads a
    obtain ⟨bs, rb⟩ := reps_reads b
    exact ⟨_, by simp only [toDats, kqdPs]; exact .cons ra rb⟩
end

theorem dat_shaped {d : Dat} (h : kqdOk 8 d = true) : SeqAt.shaped (kqdP d) = true := by
  have l := kqd_lay 8 d h
  unfold SeqAt.shaped
  rw [l.1, Bool.true_and]
  exact decide_eq_true (Nat.le_trans l.2 (by decide))

section
variable {prog : Program} {w : World} {A : Around} {h : Heap} {env : Env}

/-! comparisons -/
theorem cmp_two {l r : Expr} {op : CmpOp} {pos : Pos} {a b : D} {c : Bool} (x : Val prog w A h env l a) (y : Val prog w A h env r b)
    (z : ∀ (s : Shared) (E : Value → Shared → Prop) (Q : Value → Shared → Prop) (u v : Value), Rep s.heap a u → Rep s.heap b v → Q (.bool c) s → wpAny (model prog w) A (compareOp op u v) Q E s)
    (hm : behindInMarks op r = false := by with_unfolding_all rfl) :
    Val prog w A h env (.Compare l [op] [r] pos) (.bool c) := fun s E e => wpAny_Compare1 (x.use e fun u s₁ k₁ e₁ r₁ => y.use e₁ fun v s₂ k₂ e₂ r₂ =>
      z s₂ E _ u v (r₁.any.ext (keeps_ext k₂)) r₂.any ⟨keeps_trans k₁ k₂, rfl⟩) hm
theorem tst_two {l r : Expr} {op : CmpOp} {pos : Pos} {a b : D} {c : Bool} (x : Val prog w A h env l a) (y : Val prog w A h env r b)
    (z : ∀ (s : Shared) (E : Value → Shared → Prop) (Q : Value → Shared → Prop) (u v : Value), Rep s.heap a u → Rep s.heap b v → Q (.bool c) s → wpAny (model prog w) A (compareOp op u v) Q E s)
    (hm : behindInMarks op r = false := by with_unfolding_all rfl) :
    Tst prog w A h env (.Compare l [op] [r] pos) c := fun s E e => wpAny_isTrue_Compare1 (x.use e fun u s₁ k₁ e₁ r₁ => y.use e₁ fun v s₂ k₂ e₂ r₂ =>
      z s₂ E _ u v (r₁.any.ext (keeps_ext k₂)) r₂.any (wpAny_truthy_bool ⟨keeps_trans k₁ k₂, rfl⟩)) hm
theorem op_eq {a : D} (ha : kqdOk 8 (toDat a) = true) (hu : A.units + 64 < cLine) (s : Shared) (E : Value → Shared → Prop) (Q : Value → Shared → Prop) (u v : Value) (r₁ : Rep s.heap a u) (r₂ : Rep s.heap a v) (q : Q (.bool true) s) :
    wpAny (model prog w) A (compareOp .Eq u v) Q E s := by
  obtain ⟨as, ra⟩ := rep_reads r₁
  obtain ⟨bs, rb⟩ := rep_reads r₂
  refine SeqAt.compareEq_shaped ra rb (dat_shaped ha) (dat_shaped ha) hu ?_
  rw [(kqd_eqv 8 _ _ 8 ha ha).mpr rfl]
  exact q
theorem op_ne {a : D} (ha : kqdOk 8 (toDat a) = true) (hu : A.units + 64 < cLine) (s : Shared) (E : Value → Shared → Prop) (Q : Value → Shared → Prop) (u v : Value) (r₁ : Rep s.heap a u) (r₂ : Rep s.heap a v) (q : Q (.bool false) s) :
    wpAny (model prog w) A (compareOp .NotEq u v) Q E s := by
  obtain ⟨as, ra⟩ := rep_reads r₁
  obtain ⟨bs, rb⟩ := rep_reads r₂
  refine SeqAt.compareNe_shaped ra rb (dat_shaped ha) (dat_shaped ha) hu ?_
  rw [(kqd_eqv 8 _ _ 8 ha ha).mpr rfl]
  exact q
theorem val_eq {l r : Expr} {pos : Pos} {a : D} (x : Val prog w A h env l a) (y : Val prog w A h env r a) (ha : kqdOk 8 (toDat a) = true) (hu : A.units + 64 < cLine) : Val prog w A h env (.Compare l [.Eq] [r] pos) (.bool true) :=
  cmp_two x y (op_eq ha hu) (by cases r <;> simp [behindInMarks])
theorem tst_ne {l r : Expr} {pos : Pos} {a : D} (x : Val prog w A h env l a) (y : Val prog w A h env r a) (ha : kqdOk 8 (toDat a) = true) (hu : A.units + 64 < cLine) : Tst prog w A h env (.Compare l [.NotEq] [r] pos) false :=
  tst_two x y (op_ne ha hu) (by cases r <;> simp [behindInMarks])
theorem tst_gt {l r : Expr} {pos : Pos} {a b : Int} (x : Val prog w A h env l (.int a)) (y : Val prog w A h env r (.int b)) : Tst prog w A h env (.Compare l [.Gt] [r] pos) (decide (b < a)) :=
  tst_two x y (fun s E Q u v => by rintro ⟨t, rfl⟩ ⟨t', rfl⟩ q; exact PyProof.Rows.gt_int q) (by cases r <;> simp [behindInMarks])

/-! membership -/
def dInts (l : List Int) : D := .list (l.map .int)
def isInt (i : Int) : Value → Bool
  | .int j _ => j == i
  | _ => false
theorem any_ints {P : Addr → Prop} {H : Heap} (i : Int) : ∀ {l : List Int} {vs : List Value}, RepsP P H (l.map .int) vs → vs.any (isInt i) = decide (i ∈ l)
  | [], vs, r => by rw [show vs = [] from r]; simp
  | j :: l, _, ⟨v, r, e, ⟨t, a⟩, b⟩ => by
    subst e a
    rw [List.any_cons, any_ints i b]
    by_cases hij : j = i
    · simp [isInt, hij]
    · have : ¬ i = j := fun q => hij q.symm
      simp [isInt, hij, this]
theorem all_ints {P : Addr → Prop} {H : Heap} : ∀ {l : List Int} {vs : List Value}, RepsP P H (l.map .int) vs → ∀ y ∈ vs, ∃ j t, y = .int j t
  | [], vs, r, y, hy => by rw [show vs = [] from r] at hy; cases hy
  | j :: l, _, ⟨v, r, e, ⟨t, a⟩, b⟩, y, hy => by
    subst e a
    rcases List.mem_cons.mp hy with q | q
    · exact ⟨j, t, q⟩
    · exact all_ints b y q
theorem op_in {i : Int} {l : List Int} (s : Shared) (E : Value → Shared → Prop) (Q : Value → Shared → Prop) (u v : Value) : Rep s.heap (.int i) u → Rep s.heap (dInts l) v → Q (.bool (decide (i ∈ l))) s → wpAny (model prog w) A (compareOp .In u v) Q E s := by
  rintro ⟨t, rfl⟩ ⟨_, a, vs, n, rfl, _, g, r⟩ q
  refine PySem.SeqInW.in_listW (isInt i) (fun y hy => ?_) ⟨_, g, rfl, n, rfl⟩ ?_
  · obtain ⟨j, t', rfl⟩ := all_ints r y (Array.mem_toList_iff.mpr hy)
    exact MeetsSeq.EqGives.int _ _ _ _
  · rw [← Array.any_toList, any_ints i r]; exact q
theorem op_notIn {i : Int} {l : List Int} (s : Shared) (E : Value → Shared → Prop) (Q : Value → Shared → Prop) (u v : Value) : Rep s.heap (.int i) u → Rep s.heap (dInts l) v → Q (.bool (!decide (i ∈ l))) s → wpAny (model prog w) A (compareOp .NotIn u v) Q E s := by
  rintro ⟨t, rfl⟩ ⟨_, a, vs, n, rfl, _, g, r⟩ q
  refine PySem.SeqInW.notIn_listW (isInt i) (fun y hy => ?_) ⟨_, g, rfl, n, rfl⟩ ?_
  · obtain ⟨j, t', rfl⟩ := all_ints r y (Array.mem_toList_iff.mpr hy)
    exact MeetsSeq.EqGives.int _ _ _ _
  · rw [← Array.any_toList, any_ints i r]; exact q
theorem tst_in {e1 e2 : Expr} {pos : Pos} {i : Int} {l : List Int} (x : Val prog w A h env e1 (.int i)) (y : Val prog w A h env e2 (dInts l)) (hm : behindInMarks .In e2 = false := by with_unfolding_all rfl) :
    Tst prog w A h env (.Compare e1 [.In] [e2] pos) (decide (i ∈ l)) := tst_two x y op_in hm
theorem tst_notIn {e1 e2 : Expr} {pos : Pos} {i : Int} {l : List Int} (x : Val prog w A h env e1 (.int i)) (y : Val prog w A h env e2 (dInts l)) (hm : behindInMarks .NotIn e2 = false := by with_unfolding_all rfl) :
    Tst prog w A h env (.Compare e1 [.NotIn] [e2] pos) (!decide (i ∈ l)) := tst_two x y op_notIn hm

/-! and, or -/
theorem tst_and {a b : Expr} {pos : Pos} {p q : Bool} (x : Tst prog w A h env a p) (y : p = true → Tst prog w A h env b q) : Tst prog w A h env (.BoolOp .And [a, b] pos) (p && q) := fun s E e =>
  wpAny_isTrue_BoolOp (wpAny_allTrue_And_cons (x.use e fun s₁ k₁ e₁ => by
    cases p with
    | false => exact ⟨k₁, rfl⟩
    | true =>
      refine wpAny_allTrue_And_cons ((y rfl).use e₁ fun s₂ k₂ e₂ => ?_)
      cases q with
      | false => exact ⟨keeps_trans k₁ k₂, rfl⟩
      | true => exact wpAny_allTrue_And_nil ⟨keeps_trans k₁ k₂, rfl⟩))
theorem tst_or {a b : Expr} {pos : Pos} {p q : Bool} (x : Tst prog w A h env a p) (y : p = false → Tst prog w A h env b q) : Tst prog w A h env (.BoolOp .Or [a, b] pos) (p || q) := fun s E e =>
  wpAny_isTrue_BoolOp (wpAny_allTrue_Or_cons (x.use e fun s₁ k₁ e₁ => by
    cases p with
    | true => exact ⟨k₁, rfl⟩
    | false =>
      refine wpAny_allTrue_Or_cons ((y rfl).use e₁ fun s₂ k₂ e₂ => ?_)
      cases q with
      | true => exact ⟨keeps_trans k₁ k₂, rfl⟩
      | false => exact wpAny_allTrue_Or_nil ⟨keeps_trans k₁ k₂, rfl⟩))

/-! names -/
theorem rep_new {d : D} {v : Value} {s : Shared} (r : Rep h d v) (x : Ext h s.heap) : RepP (New h s) s.heap d v :=
  r.dom.mono (fun a q => .inl q.2.1) fun a o _ e => x a o e
theorem val_local {x : Str} {pos : Pos} {m : Str → Option Value} {v : Value} {d : D} (hn : h.Ns env.locals m) (hv : m x = some v) (r : Rep h d v) (hl : env.kindOf x = some .local) (hk : env.scope.kind = .function)
    (hd : (x == ("__debug__" : Str)) = false := by decide) : Val prog w A h env (.Name x pos) d := fun s E e =>
  wpAny_Name (wpAny_loadName_local hk hl (hn.keeps e) hv ⟨keeps_refl s, rep_new r e⟩) hd
theorem val_cell {x : Str} {pos : Pos} {c : Addr} {v : Value} {d : D} (hv : h.IsCell c (some v)) (r : Rep h d v) (hc : env.cells.lookup x = some c) (hl : env.kindOf x = some .cell) (hk : env.scope.kind = .function)
    (hd : (x == ("__debug__" : Str)) = false := by decide) : Val prog w A h env (.Name x pos) d := fun s E e =>
  wpAny_Name (wpAny_loadName_cell hk hl hc (hv.keeps e) ⟨keeps_refl s, rep_new r e⟩) hd
theorem glb_def {x : Str} {mg : Str → Option Value} {v : Value} (hg : h.Ns env.globals mg) (hv : mg x = some v) (hx : env.kindOf x = some .globalImplicit) (hk : env.scope.kind = .function)
    (hd : (x == ("__debug__" : Str)) = false := by decide) : Glb prog w A h env x v := fun pos s E Q e q =>
  Calls.Name_function_global hk hx (Calls.loadGlobal_global (hg.keeps e) hv q) hd
theorem glb_boot {x : Str} {mg mb : Str → Option Value} {v : Value} (hg : h.Ns env.globals mg) (hmiss : mg x = Option.none) (hb : h.Ns env.builtins mb) (hv : mb x = some v) (hx : env.kindOf x = some .globalImplicit) (hk : env.scope.kind = .function)
    (hd : (x == ("__debug__" : Str)) = false := by decide) : Glb prog w A h env x v := fun pos s E Q e q =>
  Calls.Name_function_global hk hx (Calls.loadGlobal_builtin (hg.keeps e) hmiss (hb.keeps e) hv q) hd

/-! calls -/
theorem val_call_b {f : Str} {np pos : Pos} {e : Expr} {rest : List Expr} {ds : List D} {d : D} {id : String} (g : Glb prog w A h env f (.builtin id)) (x : Vals prog w A h env (e :: rest) ds)
    (z : ∀ (s s₀ : Shared) (E : Value → Shared → Prop) (vs : List Value), Ext h s.heap → Keeps s₀ s → RepsP (New h s₀) s.heap ds vs → wpAny (model prog w) A (call (.builtin id) vs) (fun v s' => Keeps s s' ∧ RepP (New h s₀) s'.heap d v) E s)
    (he : starEach (e :: rest) env = (false, eval e env) :: starEach rest env := by rfl) (hplain : ∀ pos, (backTo pos (starEach rest env)).any (·.1) = false := by intro _; rfl) :
    Val prog w A h env (.Call (.Name f np) (e :: rest) [] pos) d := fun s E q =>
  wpAny_Call_ofName (g _ _ _ _ q (PyProof.Rows.callWith_builtin1 (x.use q fun vs s₁ k₁ e₁ r₁ => wpAny_mono (z s₁ s E vs e₁ k₁ r₁) (fun _ _ y => ⟨keeps_trans k₁ y.1, y.2⟩) fun _ _ y => y) he (hplain _)))
theorem val_call_t {f : Str} {np pos : Pos} {e : Expr} {rest : List Expr} {ds : List D} {d : D} {T : String} (g : Glb prog w A h env f (.type T)) (x : Vals prog w A h env (e :: rest) ds)
    (z : ∀ (s s₀ : Shared) (E : Value → Shared → Prop) (vs : List Value), Ext h s.heap → Keeps s₀ s → RepsP (New h s₀) s.heap ds vs → wpAny (model prog w) A (call (.type T) vs) (fun v s' => Keeps s s' ∧ RepP (New h s₀) s'.heap d v) E s)
    (he : starEach (e :: rest) env = (false, eval e env) :: starEach rest env := by rfl) (hplain : ∀ pos, (backTo pos (starEach rest env)).any (·.1) = false := by intro _; rfl) :
    Val prog w A h env (.Call (.Name f np) (e :: rest) [] pos) d := fun s E q =>
  wpAny_Call_ofName (g _ _ _ _ q (PyProof.Rows.callWith_type1 (x.use q fun vs s₁ k₁ e₁ r₁ => wpAny_mono (z s₁ s E vs e₁ k₁ r₁) (fun _ _ y => ⟨keeps_trans k₁ y.1, y.2⟩) fun _ _ y => y) he (hplain _)))
theorem val_call_f {f : Str} {np pos : Pos} {e : Expr} {rest : List Expr} {ds : List D} {d : D} {a : Addr} {o : Obj} {fd : FuncData} (g : Glb prog w A h env f (.ref a)) (ho : h.get? a = some o) (hd : o.data = .func fd) (x : Vals prog w A h env (e :: rest) ds)
    (z : ∀ (s s₀ : Shared) (E : Value → Shared → Prop) (vs : List Value), Ext h s.heap → Keeps s₀ s → RepsP (New h s₀) s.heap ds vs → wpAny (model prog w) A (call (.ref a) vs) (fun v s' => Keeps s s' ∧ RepP (New h s₀) s'.heap d v) E s)
    (he : starEach (e :: rest) env = (false, eval e env) :: starEach rest env := by rfl) :
    Val prog w A h env (.Call (.Name f np) (e :: rest) [] pos) d := fun s E q =>
  wpAny_Call_ofName (g _ _ _ _ q (callWith_def hd (x.use q fun vs s₁ k₁ e₁ r₁ => ⟨e₁ _ _ ho, wpAny_mono (z s₁ s E vs e₁ k₁ r₁) (fun _ _ y => ⟨keeps_trans k₁ y.1, y.2⟩) fun _ _ y => y⟩) he))

theorem val_len {f : Str} {np pos : Pos} {e : Expr} {l : List D} (g : Glb prog w A h env f (.builtin "len")) (x : Val prog w A h env e (.list l))
    (he : starEach (e :: []) env = (false, eval e env) :: starEach [] env := by rfl) : Val prog w A h env (.Call (.Name f np) [e] [] pos) (.int l.length) :=
  val_call_b g (vals_cons x vals_nil he) (fun s s₀ E vs e₁ k₁ => by
    rintro ⟨v, r, rfl, ⟨hl, a, vs, n, rfl, _, g, r'⟩, rfl⟩
    have e : vs.size = l.length := by rw [← r'.length, Array.length_toList]
    refine len_list ⟨_, g, rfl, n, rfl⟩ (by rw [e]; exact lim_fit hl) ⟨keeps_tok s _, _, by rw [e]⟩) he
theorem val_listOf {f : Str} {np pos : Pos} {e : Expr} {l : List D} (g : Glb prog w A h env f (.type "list")) (x : Val prog w A h env e (.list l))
    (he : starEach (e :: []) env = (false, eval e env) :: starEach [] env := by rfl) : Val prog w A h env (.Call (.Name f np) [e] [] pos) (.list l) :=
  val_call_t g (vals_cons x vals_nil he) (fun s s₀ E vs e₁ k₁ => by
    rintro ⟨v, r, rfl, ⟨hl, a, vs, n, rfl, _, g, r'⟩, rfl⟩
    have e : vs.size = l.length := by rw [← r'.length, Array.length_toList]
    refine call_list_seq a (.inl rfl) g rfl rfl (fun h' c' hk hg => ⟨⟨h', s.toks, rfl, hk⟩, hl, _, _, c', rfl, .inr (none_of_ext (keeps_ext k₁)), hg, r'.ext hk⟩) (by rw [e]; exact lim_line hl)) he
end
end Mine

namespace Mine
open PySem PySem.W PyProof.Rows

/-- the heap without the objects at X -/
theorem hide (X : Addr → Prop) (h : Heap) : ∃ h' : Heap, Ext h' h ∧ (∀ a, X a → h'.get? a = none) ∧ ∀ a o, ¬ X a → h.get? a = some o → h'.get? a = some o := by
  classical
  let h' : Heap := ⟨h.objs.mapIdx fun i o => if X i then { o with data := .freed } else o, h.life⟩
  have g : ∀ a, h'.objs[a]? = (h.objs[a]?).map fun o => if X a then { o with data := .freed } else o := fun a => by simp [h']
  refine ⟨h', fun a o e => ?_, fun a ha => ?_, fun a o ha e => ?_⟩
  · unfold Heap.get? at e ⊢
    rw [g] at e
    by_cases ha : X a
    · cases q : h.objs[a]? with
      | none => rw [q] at e; simp at e
      | some o' => rw [q] at e; simp [ha] at e
    · cases q : h.objs[a]? with
      | none => rw [q] at e; simp at e
      | some o' => rw [q] at e; simpa [ha] using e
  · unfold Heap.get?
    rw [g]
    cases q : h.objs[a]? with
    | none => simp
    | some o' => simp [ha]
  · unfold Heap.get? at e ⊢
    rw [g]
    cases q : h.objs[a]? with
    | none => rw [q] at e; simp at e
    | some o' => rw [q] at e; simpa [ha] using e

def lst (ys : Array Value) (n : Nat) : Obj := { cls := .type "list", data := .seq ys n }

/-- what a comprehension's step leaves: C (its names) and R (its list) alone are changed, and Y; the list has grown by what stands for es -/
def Stp (Y : List Addr) (H : Addr → Prop) (C R : Addr) (s s' : Shared) (ys : Array Value) (es : List D) : Prop :=
  ∃ h' tk, ∃ zs : Array Value, ∃ n', s' = { s with heap := h', toks := tk } ∧ (∀ b o, b ≠ C → b ≠ R → b ∉ Y → s.heap.get? b = some o → h'.get? b = some o) ∧ (∃ m', h'.Ns C m') ∧
    h'.get? R = some (lst (ys ++ zs) n') ∧ RepsP (fun a => ¬ H a) h' es zs.toList

theorem seq_ne_ns {h : Heap} {C a : Addr} {m : Str → Option Value} (hn : h.Ns C m) (ho : ∃ o vs n, h.get? a = some o ∧ o.data = .seq vs n) : a ≠ C := by
  rintro rfl
  obtain ⟨o, vs, n, e, d⟩ := ho
  obtain ⟨o', es, ep, e', d', _⟩ := hn
  rw [e] at e'
  cases e'
  rw [d] at d'
  cases d'

theorem Stp.trans {Y : List Addr} {X : Addr → Prop} {C R : Addr} {s s' s'' : Shared} {ys : Array Value} {es es' : List D} (x : Stp Y X C R s s' ys es) (hY : ∀ a ∈ Y, X a) (hXR : X R) :
    ∃ ys', (∃ n', s'.heap.get? R = some (lst ys' n')) ∧ ys'.size = ys.size + es.length ∧ (Stp Y X C R s' s'' ys' es' → Stp Y X C R s s'' ys (es ++ es')) := by
  obtain ⟨h', tk, zs, n', rfl, fr, ⟨m', hn⟩, hg, r⟩ := x
  refine ⟨ys ++ zs, ⟨n', hg⟩, by rw [Array.size_append, ← r.length, Array.length_toList], ?_⟩
  rintro ⟨h₂, tk₂, zs₂, n₂, rfl, fr₂, hn₂, hg₂, r₂⟩
  refine ⟨h₂, tk₂, zs ++ zs₂, n₂, rfl, fun b o h1 h2 h3 e => fr₂ b o h1 h2 h3 (fr b o h1 h2 h3 e), hn₂, by rw [hg₂, Array.append_assoc], ?_⟩
  rw [Array.toList_append]
  refine RepsP.append ?_ r₂
  exact r.dom.mono (fun a q => q.1) fun a o q e => fr₂ a o (seq_ne_ns hn q.2.2) (fun hh => q.1 (hh ▸ hXR)) (fun hh => q.1 (hY a hh)) e

section
variable {prog : Program} {w : World} {A : Around}

/-- a comprehension's loop, at any depth -/
theorem comp_loop {elt : Expr} {gens : List Comprehension} {scope : Scope} {pos p : Pos} {depth : Nat} {I R : Addr} {env : Env} {rest : Value → Sem PySem.Fin} {fp : List Addr} {X : Addr → Prop} {P : Nat → Value → Prop} {St : Nat → Heap → Prop} {ds : List D}
    (f : D → List D) {s : Shared} {ys : Array Value} {n : Nat} {m : Str → Option Value}
    (hT : compTurn (.ListComp elt gens scope pos) depth (.ref I) (.ref R) env = (do standAt p; match ← pyNext (.ref I) with | none => pure (.done .next) | some v => rest v))
    (W : Walks prog w A I fp [I] ds.length P St) (hst : St 0 s.heap) (hR : s.heap.get? R = some (lst ys n)) (hC : s.heap.Ns env.locals m) (hRf : R ∉ fp) (hCf : env.locals ∉ fp) (hsz : ys.size + (ds.flatMap f).length ≤ LIM) (hXR : X R) (hXI : X I)
    (hP : ∀ i v d, P i v → ds[i]? = some d → RepP (fun a => ¬ X a) s.heap d v)
    (turn : ∀ i d v s₁ m₁ ys₁ n₁ E', ds[i]? = some d → (∀ b o, b ≠ env.locals → b ≠ R → b ≠ I → s.heap.get? b = some o → s₁.heap.get? b = some o) → St (i + 1) s₁.heap → s₁.heap.Ns env.locals m₁ → s₁.heap.get? R = some (lst ys₁ n₁) →
      ys₁.size + (f d).length ≤ LIM → RepP (fun a => ¬ X a) s₁.heap d v →
      wpAny (model prog w) A (rest v) (fun fin s' => fin = .again (.compLoop (.ListComp elt gens scope pos) depth (.ref I) (.ref R) env) ∧ Stp [] X env.locals R s₁ s' ys₁ (f d)) E' s₁) :
    codeAny (model prog w) A (.compLoop (.ListComp elt gens scope pos) depth (.ref I) (.ref R) env) (fun r s' => r = .ok .next ∧ Stp [I] X env.locals R s s' ys (ds.flatMap f)) s := by
  have hIf : I ∈ fp := W.sub I (by simp)
  have hRI : R ≠ I := fun e => hRf (e ▸ hIf)
  have hCI : env.locals ≠ I := fun e => hCf (e ▸ hIf)
  have hRC : R ≠ env.locals := seq_ne_ns hC ⟨_, _, _, hR, rfl⟩
  refine codeAny_loop rfl (fun k s' => ∃ i, i ≤ ds.length ∧ k = ds.length - i ∧ St i s'.heap ∧ Stp [I] X env.locals R s s' ys ((ds.take i).flatMap f)) ?_ ds.length
    ⟨0, Nat.zero_le _, rfl, hst, s.heap, s.toks, #[], n, rfl, fun _ _ _ _ _ e => e, ⟨m, hC⟩, by simpa using hR, rfl⟩
  rintro k s₀ ⟨i, hi, rfl, hst₀, x⟩
  show wpAny _ A ((compTurn (.ListComp elt gens scope pos) depth (.ref I) (.ref R) env).onRaise (fun x => do noteFrame x env; theTreesLotGoes x)) _ _ s₀
  refine wpAny_noted ?_
  rw [hT]
  refine wpAny_bind (wpAny_standAt (wpAny_bind ?_))
  by_cases hlt : i < ds.length
  · obtain ⟨d, hd⟩ : ∃ d, ds[i]? = some d := ⟨ds[i], by simp [hlt]⟩
    refine W.item i s₀ _ _ hlt hst₀ fun v h₁ tk₁ hPv hst₁ hk₁ => ?_
    have x' := x
    obtain ⟨h', tk, zs, n', rfl, fr, ⟨m', hn⟩, hg, r⟩ := x'
    have hstep : Stp [I] X env.locals R s { s with heap := h₁, toks := tk₁ } ys ((ds.take i).flatMap f) := by
      refine ⟨h₁, tk₁, zs, n', rfl, fun b o h1 h2 h3 e => hk₁ b o h3 (fr b o h1 h2 h3 e), ⟨m', hn.at' fun o e => hk₁ _ o (by simpa using hCI) e⟩, hk₁ _ _ (by simpa using hRI) hg, ?_⟩
      exact r.mono (fun a q => q) fun a o q e => hk₁ a o (fun hm => q (by rw [List.mem_singleton.mp hm]; exact hXI)) e
    obtain ⟨ys', ⟨n₂, hg'⟩, hsz', cont⟩ := hstep.trans (s'' := s) (es' := f d) (by intro a ha; simp at ha; rw [ha]; exact hXI) hXR
    clear cont
    have htake : (ds.take (i + 1)).flatMap f = (ds.take i).flatMap f ++ f d := by rw [List.take_add_one, hd]; simp
    have hle : ((ds.take (i + 1)).flatMap f).length ≤ (ds.flatMap f).length := by
      conv => rhs; rw [← List.take_append_drop (i + 1) ds]
      rw [List.flatMap_append, List.length_append]
      exact Nat.le_add_right _ _
    rw [htake, List.length_append] at hle
    have rv : RepP (fun a => ¬ X a) h₁ d v := by
      refine (hP i v d hPv hd).dom.mono (fun a q => q.1) fun a o q e => ?_
      have q1 : a ∉ [I] := fun hm => q.1 (by rw [List.mem_singleton.mp hm]; exact hXI)
      exact hk₁ a o q1 (fr a o (seq_ne_ns hC q.2.2) (fun hm => q.1 (hm ▸ hXR)) q1 e)
    refine wpAny_mono (turn i d v _ m' ys' n₂ _ hd (fun b o h1 h2 h3 e => ?_) hst₁ (hn.at' fun o e => hk₁ _ o (by simpa using hCI) e) hg' (by omega) rv) (fun fin s' q => ?_) fun _ _ e => e
    · exact hk₁ b o (by simpa using h3) (fr b o h1 h2 (by simpa using h3) e)
    · obtain ⟨rfl, y⟩ := q
      refine ⟨rfl, ds.length - (i + 1), by omega, i + 1, hlt, rfl, ?_, ?_⟩
      · obtain ⟨h₂, tk₂, zs₂, n₂, rfl, fr₂, _⟩ := y
        exact W.frame _ _ _ hst₁ fun b hb o e => fr₂ b o (fun q => hCf (q ▸ hb)) (fun q => hRf (q ▸ hb)) (by simp) e
      · rw [htake]
        obtain ⟨ys'', ⟨n₃, hg''⟩, _, cont⟩ := hstep.trans (s'' := s') (es' := f d) (by intro a ha; simp at ha; rw [ha]; exact hXI) hXR
        refine cont ?_
        have e1 : ys'' = ys' := by
          rw [hg''] at hg'
          simp only [lst, Option.some.injEq, Obj.mk.injEq, Data.seq.injEq] at hg'
          exact hg'.2.2.1.1
        subst e1
        obtain ⟨h₂, tk₂, zs₂, n₂, rfl, fr₂, hn₂, hg₂, r₂⟩ := y
        exact ⟨h₂, tk₂, zs₂, n₂, rfl, fun b o h1 h2 h3 e => fr₂ b o h1 h2 (by simp) e, hn₂, hg₂, r₂⟩
  · have hin : i = ds.length := by omega
    subst hin
    refine W.done s₀ _ _ hst₀ fun h₁ tk₁ hk₁ => wpAny_pure ⟨rfl, ?_⟩
    obtain ⟨h', tk, zs, n', rfl, fr, ⟨m', hn⟩, hg, r⟩ := x
    rw [List.take_length] at r
    refine ⟨h₁, tk₁, zs, n', rfl, fun b o h1 h2 h3 e => hk₁ b o h3 (fr b o h1 h2 h3 e), ⟨m', hn.at' fun o e => hk₁ _ o (by simpa using hCI) e⟩, hk₁ _ _ (by simpa using hRI) hg, ?_⟩
    exact r.mono (fun a q => q) fun a o q e => hk₁ a o (fun hm => q (by rw [List.mem_singleton.mp hm]; exact hXI)) e
end
end Mine

namespace Mine
open PySem PySem.W PyProof.Rows

def owners : List String := ["enumerate", "zip", "dict_itemiterator", "dict_reverseitemiterator", "odict_iterator", "itertools.zip_longest", "itertools.pairwise"]
/-- an iterator that lends no tuple of its own -/
def ItOk (H : Heap) (I : Addr) : Prop := ∃ o n, H.get? I = some o ∧ o.cls = .type n ∧ owners.contains n = false

section
variable {prog : Program} {w : World} {A : Around}

/-- a source: what a for or a comprehension goes over -/
def Src (prog : Program) (w : World) (A : Around) (h : Heap) (env : Env) (iter : Expr) (ds : List D) : Prop :=
  ∀ (s : Shared) (E : Value → Shared → Prop), Ext h s.heap → wpAny (model prog w) A (eval iter env) (fun x s₁ => Keeps s s₁ ∧ wpAny (model prog w) A (pyIter x) (fun it s₂ => Keeps s₁ s₂ ∧ ∃ I fp P St, it = .ref I ∧
    Walks prog w A I fp [I] ds.length P St ∧ St 0 s₂.heap ∧ (∀ b ∈ fp, b < s₂.heap.objs.size) ∧ s₁.heap.get? I = none ∧ (∀ i H, St i H → ItOk H I) ∧ (∀ b ∈ fp, b = I ∨ New h s b ∧ ∃ o vs n, s₁.heap.get? b = some o ∧ o.data = .seq vs n) ∧
    (∀ i v d, P i v → ds[i]? = some d → RepP (fun a => New h s a ∧ Dom s₁.heap a) s₁.heap d v)) E s₁) E s

theorem src_list {h : Heap} {env : Env} {iter : Expr} {ds : List D} (hh : A.handled = none) (x : Val prog w A h env iter (.list ds)) : Src prog w A h env iter ds := fun s E e =>
  x.use e fun v s₁ k₁ e₁ r₁ => by
    refine ⟨k₁, ?_⟩
    obtain ⟨hl, a, vs, n, rfl, hnew, g, r⟩ := r₁
    have hL : s₁.heap.IsList a vs := ⟨_, g, rfl, n, rfl⟩
    have hne : a ≠ s₁.heap.objs.size := Nat.ne_of_lt (Heap.lt_size g)
    have hsz : vs.size = ds.length := by rw [← r.length, Array.length_toList]
    refine wpAny_pyIter_list hL ?_
    have W := Walks.list (prog := prog) (w := w) hh s₁.heap.objs.size a hne vs
    rw [hsz] at W
    refine ⟨keeps_push _ _, _, _, _, _, rfl, W, ⟨⟨_, Heap.get?_push_size _ rfl, rfl, rfl⟩, hL.push _⟩, ?_, none_of_ext (Ext.refl _), ?_, ?_, ?_⟩
    · intro b hb
      have := Heap.lt_size g
      simp only [List.mem_cons, List.not_mem_nil, or_false] at hb
      rw [Heap.size_push]
      rcases hb with rfl | rfl
      · exact Nat.lt_succ_self _
      · exact Nat.lt_succ_of_lt this
    · rintro i H ⟨⟨o, ho, hc, _⟩, _⟩
      exact ⟨o, _, ho, hc, by decide⟩
    · intro b hb
      simp only [List.mem_cons, List.not_mem_nil, or_false] at hb
      rcases hb with hb | hb
      · exact .inl hb
      · subst hb; exact .inr ⟨hnew, _, _, _, g, rfl⟩
    · intro i v d hv hd
      obtain ⟨v', hv', rv⟩ := r.get hd
      rw [← Array.getElem?_toList, hv'] at hv
      cases hv
      exact rv.dom.imp fun a q => ⟨q.1, q.2.1⟩

theorem src_range {h : Heap} {env : Env} {f g : Str} {np np' pos pos' : Pos} {e : Expr} {l : List D} (hh : A.handled = none) (gr : Glb prog w A h env f (.type "range")) (gl : Glb prog w A h env g (.builtin "len")) (x : Val prog w A h env e (.list l)) (hl : l.length ≤ LIM)
    (he : starEach (e :: []) env = (false, eval e env) :: starEach [] env := by rfl) :
    Src prog w A h env (.Call (.Name f np) [.Call (.Name g np') [e] [] pos'] [] pos) ((List.range l.length).map fun (i : Nat) => D.int (i : Int)) := fun s E q => by
  refine wpAny_Call_ofName (gr _ _ _ _ q (PyProof.Rows.callWith_type1 ?_))
  refine (vals_cons (val_len gl x he) vals_nil).use q fun vs s₁ k₁ e₁ => ?_
  rintro ⟨v, r, rfl, ⟨t, rfl⟩, rfl⟩
  refine call_range_1 ⟨keeps_trans k₁ (keeps_trans (keeps_push _ _) (keeps_tok _ _)), ?_⟩
  have hlen : l.length ≤ 1000 := hl
  refine wpAny_pyIter_range (IsRange.new _ _ _ _ _ _ _) (small_one (by decide) (by decide) (by omega) (by omega)) ?_
  have W := Walks.range (prog := prog) (w := w) hh (s₁.heap.push { cls := .type "range", data := .fields #[.int 0 s₁.toks, .int l.length t, .int 1 (s₁.toks + 1)] }).objs.size 0 1 l.length
  refine ⟨keeps_push _ _, _, _, _, _, rfl, (by rw [List.length_map, List.length_range]; exact W), ?_, ?_, none_of_ext (Ext.refl _), ?_, ?_, ?_⟩
  · have e1 : Builtin.Range.rangeSize 0 l.length 1 = (l.length : Int) := by rw [rangeSize_one]; split <;> omega
    rw [e1]
    have e2 : (0 : Int) + ((0 : Nat) : Int) * 1 = 0 := rfl
    have e3 : (l.length : Int) - ((0 : Nat) : Int) = l.length := by simp
    rw [e2, e3]
    exact Heap.get?_push_size _ rfl
  · intro b hb
    simp only [List.mem_cons, List.not_mem_nil, or_false] at hb
    rw [hb]
    dsimp only
    simp only [Heap.size_push]
    exact Nat.lt_succ_self _
  · intro i H st
    exact ⟨_, _, st, rfl, by decide⟩
  · intro b hb
    simp only [List.mem_cons, List.not_mem_nil, or_false] at hb
    exact .inl hb
  · rintro i v d ⟨t', rfl⟩ hd
    simp only [List.getElem?_map, Option.map_eq_some_iff] at hd
    obtain ⟨j, hj, rfl⟩ := hd
    have : j = i := by
      rw [List.getElem?_range (by have := (List.getElem?_eq_some_iff.mp hj).1; simpa using this)] at hj
      exact (Option.some.inj hj).symm
    subst this
    exact ⟨t', by simp⟩

/-- what a target binds -/
def Bnd (prog : Program) (w : World) (A : Around) (env : Env) (target : Expr) (d : D) (bs : List (Str × D)) : Prop :=
  ∀ (s : Shared) (E : Value → Shared → Prop) (m : Str → Option Value) (v : Value) (P : Addr → Prop) (I : Addr), s.heap.Ns env.locals m → RepP P s.heap d v → ItOk s.heap I →
    wpAny (model prog w) A (letOwnedTupleGo target (.ref I) v) (fun _ s₀ => s₀ = s ∧ wpAny (model prog w) A (assign target env v) (fun _ s' => ∃ h' tk m', s' = { s with heap := h', toks := tk } ∧ h'.Ns env.locals m' ∧
      (∀ b o, b ≠ env.locals → s.heap.get? b = some o → h'.get? b = some o) ∧ ∀ x d', (x, d') ∈ bs → ∃ v', m' x = some v' ∧ RepP P h' d' v') E s) E s
theorem bnd_name {env : Env} {x : Str} {px : Pos} {d : D} (hl : env.kindOf x = some .local) (hk : env.scope.kind = .function) : Bnd prog w A env (.Name x px) d [(x, d)] := fun s E m v P I hn r _ => by
  refine (?_ : wpAny _ _ (pure ()) _ _ s)
  refine wpAny_pure ⟨rfl, ?_⟩
  refine wpAny_assign_Name (wpAny_storeName_local hl hn (fun h' hn' hs' => ⟨h', _, _, rfl, hn', fun b o hb e => hs'.extBut b o hb e, ?_⟩) (by rw [hk]; rfl))
  intro y d' hy
  simp only [List.mem_cons, Prod.mk.injEq, List.not_mem_nil, or_false] at hy
  obtain ⟨rfl, rfl⟩ := hy
  exact ⟨v, by simp, r.dom.mono (fun a q => q.1) fun a o q e => hs'.extBut a o (seq_ne_ns hn q.2.2) e⟩

theorem assigns_names {env : Env} (hk : env.scope.kind = .function) {P : Addr → Prop} {E : Value → Shared → Prop} : ∀ (xs : List (Str × Pos)) (ds : List D) (vs : List Value) (s : Shared) (m : Str → Option Value) (Q : Unit → Shared → Prop),
    (∀ x ∈ xs, env.kindOf x.1 = some .local) → (xs.map (·.1)).Nodup → xs.length = ds.length → s.heap.Ns env.locals m → RepsP P s.heap ds vs →
    (∀ h' tk m', h'.Ns env.locals m' → (∀ b o, b ≠ env.locals → s.heap.get? b = some o → h'.get? b = some o) → (∀ y, y ∉ xs.map (·.1) → m' y = m y) → (∀ x d', (x, d') ∈ (xs.map (·.1)).zip ds → ∃ v', m' x = some v' ∧ RepP P h' d' v') → Q () { s with heap := h', toks := tk }) →
    wpAny (model prog w) A (assignInOrder ((assignEach (xs.map fun x => .Name x.1 x.2) env).map (·.2)) vs) Q E s
  | [], [], vs, s, m, Q, _, _, _, hn, r, hQ => by
    rw [show vs = [] from r]
    exact wpAny_pure (hQ s.heap s.toks m hn (fun _ _ _ e => e) (fun _ _ => rfl) (by simp))
  | x :: xs, d :: ds, _, s, m, Q, hl, hnd, hlen, hn, ⟨v, vs, e, rv, rr⟩, hQ => by
    subst e
    simp only [List.map_cons, List.nodup_cons] at hnd
    show wpAny _ A (do holding vs (assign (.Name x.1 x.2) env v); assignInOrder ((assignEach (xs.map fun x => .Name x.1 x.2) env).map (·.2)) vs) _ _ s
    refine wpAny_bind (wpAny_holding (wpAny_assign_Name (wpAny_storeName_local (hl x (.head _)) hn (fun h' hn' hs' => ?_) (by rw [hk]; rfl))))
    refine assigns_names hk xs ds vs _ _ Q (fun y hy => hl y (.tail _ hy)) hnd.2 (by simpa using hlen) hn' (rr.dom.mono (fun a q => q.1) fun a o q e => hs'.extBut a o (seq_ne_ns hn q.2.2) e) fun h₂ tk₂ m₂ hn₂ fr₂ hm₂ hb₂ => ?_
    refine hQ h₂ tk₂ m₂ hn₂ (fun b o hb e => fr₂ b o hb (hs'.extBut b o hb e)) (fun y hy => ?_) fun y d' hy => ?_
    · simp only [List.map_cons, List.mem_cons, not_or] at hy
      rw [hm₂ y hy.2, if_neg hy.1]
    · simp only [List.map_cons, List.zip_cons_cons, List.mem_cons, Prod.mk.injEq] at hy
      rcases hy with ⟨rfl, rfl⟩ | hy
      · refine ⟨v, by rw [hm₂ _ hnd.1, if_pos rfl], ?_⟩
        refine rv.dom.mono (fun a q => q.1) fun a o q e => ?_
        exact fr₂ a o (seq_ne_ns hn q.2.2) (hs'.extBut a o (seq_ne_ns hn q.2.2) e)
      · exact hb₂ y d' hy
  | [], _ :: _, _, _, _, _, _, _, hlen, _, _, _ => by simp at hlen
  | _ :: _, [], _, _, _, _, _, _, hlen, _, _, _ => by simp at hlen

theorem bnd_tuple {env : Env} {xs : List (Str × Pos)} {ds : List D} {k : Nat} {pos : Pos} (hh : A.handled = none) (hl : ∀ x ∈ xs, env.kindOf x.1 = some .local) (hk : env.scope.kind = .function) (hnd : (xs.map (·.1)).Nodup) (hlen : xs.length = ds.length)
    : Bnd prog w A env (.Tuple (xs.map fun x => .Name x.1 x.2) k pos) (.tup ds) ((xs.map (·.1)).zip ds) := fun s E m v P I hn r it => by
  obtain ⟨hle, a, vs, n, rfl, hPa, g, rr⟩ := r
  obtain ⟨o, nm, ho, hc, hno⟩ := it
  have hsz : (assignEach (xs.map fun x => Expr.Name x.1 x.2) env).length = vs.size := by
    rw [← Array.length_toList, rr.length, ← hlen]
    clear hl hnd hlen
    induction xs with
    | nil => rfl
    | cons x xs ih => simp only [List.map_cons, assignEach, List.length_cons, ih]
  have hst : (assignEach (xs.map fun x => Expr.Name x.1 x.2) env).findIdx? (·.1) = none := by
    clear hl hnd hlen hsz
    induction xs with
    | nil => rfl
    | cons x xs ih => simp only [List.map_cons, assignEach, List.findIdx?_cons, ih]; rfl
  refine (?_ : wpAny _ _ (do
    let o ← load I
    match o.cls, o.data with
    | .type n, .fields vs =>
      if owners.contains n && vs[0]? == some (rawInt a) then
        rule "for.unpacks-the-owned-tuple"
        updateField I 0 .none
    | _, _ => pure ()) _ _ s)
  refine wpAny_bind (wpAny_load ho ?_)
  rw [hc]
  have fin : s = s ∧ wpAny (model prog w) A (assign (.Tuple (xs.map fun x => .Name x.1 x.2) k pos) env (.ref a)) (fun _ s' => ∃ h' tk m', s' = { s with heap := h', toks := tk } ∧ h'.Ns env.locals m' ∧
      (∀ b o, b ≠ env.locals → s.heap.get? b = some o → h'.get? b = some o) ∧ ∀ x d', (x, d') ∈ (xs.map (·.1)).zip ds → ∃ v', m' x = some v' ∧ RepP P h' d' v') E s := by
    refine ⟨rfl, wpAny_assign_Tuple hh ⟨_, g, rfl, n, rfl⟩ hsz hst fun h' he => ?_⟩
    have hx : Ext s.heap h' := fun b o e => he b o (Nat.ne_of_lt (Heap.lt_size e)) e
    exact assigns_names hk xs ds vs.toList { s with heap := h' } m _ hl hnd hlen (hn.keeps hx) (rr.ext hx) fun h₂ tk₂ m₂ hn₂ fr₂ hm₂ hb₂ => ⟨h₂, tk₂, m₂, rfl, hn₂, fun b o hb e => fr₂ b o hb (hx b o e), hb₂⟩
  cases hd : o.data with
  | fields ws => simp only [hno, Bool.false_and, Bool.false_eq_true, if_false]; exact wpAny_pure fin
  | _ => exact wpAny_pure fin

/-- the tests of a comprehension's clause -/
def Tsts (prog : Program) (w : World) (A : Around) (h : Heap) (env : Env) (ifs : List Expr) (b : Bool) : Prop :=
  ∀ (s : Shared) (E : Value → Shared → Prop), Ext h s.heap → wpAny (model prog w) A (forIn ifs true fun c r => if r = true then do let ok ← isTrue c env (eval c env); pure (ForInStep.yield ok) else pure (ForInStep.yield r)) (fun ok s' => Keeps s s' ∧ ok = b) E s
theorem tsts_nil {h : Heap} {env : Env} : Tsts prog w A h env [] true := fun s E e => wpAny_tests_nil ⟨keeps_refl s, rfl⟩
theorem tsts_one {h : Heap} {env : Env} {c : Expr} {b : Bool} (x : Tst prog w A h env c b) : Tsts prog w A h env [c] b := fun s E e => wpAny_tests_one (x s E e)

/-- in the block of a comprehension, with these names bound -/
def Bound (h : Heap) (C : Addr) (bs : List (Str × D)) : Prop := ∃ m, h.Ns C m ∧ ∀ x d, (x, d) ∈ bs → ∃ v, m x = some v ∧ Rep h d v

theorem emit_turn {elt target : Expr} {ifs : List Expr} {I R : Addr} {env : Env} {X : Addr → Prop} {c : Code} {d : D} {b : Bool} {e : D} {bs : List (Str × D)} {h₀ : Heap} {v : Value} {s : Shared} {m : Str → Option Value} {ys : Array Value} {n : Nat} {E : Value → Shared → Prop}
    (hn : s.heap.Ns env.locals m) (hg : s.heap.get? R = some (lst ys n)) (hsz : ys.size + (if b then 1 else 0) ≤ LIM) (rv : RepP (fun a => ¬ X a) s.heap d v) (hX : ∀ a, X a → Dom s.heap a) (hXR : X R) (hI : ItOk s.heap I)
    (hC : ¬ X env.locals) (h0 : Ext h₀ s.heap) (hoff : ∀ a, X a ∨ a = env.locals → h₀.get? a = none)
    (bd : Bnd prog w A env target d bs) (ht : ∀ h', Ext h₀ h' → Bound h' env.locals bs → Tsts prog w A h' env ifs b) (hv : b = true → ∀ h', Ext h₀ h' → Bound h' env.locals bs → Val prog w A h' env elt e) :
    wpAny (model prog w) A (do
        letOwnedTupleGo target (.ref I) v
        assign target env v
        let mut ok := true
        for c in ifs do
          if ok then ok ← isTrue c env (eval c env)
        if ok then
          (do let _ ← call (.builtin "list.append") [.ref R, ← eval elt env])
        again c) (fun fin s' => fin = .again c ∧ Stp [] X env.locals R s s' ys (if b then [e] else [])) E s := by
  have hRC : R ≠ env.locals := seq_ne_ns hn ⟨_, _, _, hg, rfl⟩
  refine wpAny_bind (wpAny_mono (bd s E m v _ I hn rv hI) (fun _ s₀ q => ?_) fun _ _ x => x)
  obtain ⟨rfl, q⟩ := q
  refine wpAny_bind (wpAny_mono q (fun _ s₁ q => ?_) fun _ _ x => x)
  obtain ⟨h₁, tk₁, m₁, rfl, hn₁, fr₁, hb₁⟩ := q
  obtain ⟨hh, hx1, hx2, hx3⟩ := hide X h₁
  have hxt : Ext h₀ hh := fun a o q => hx3 a o (fun hm => by rw [hoff a (.inl hm)] at q; cases q) (fr₁ a o (fun hm => by rw [hm, hoff _ (.inr rfl)] at q; cases q) (h0 a o q))
  have hbd : Bound hh env.locals bs := ⟨m₁, hn₁.at' fun o q => hx3 _ o hC q, fun x d' hx => by
    obtain ⟨v', e1, e2⟩ := hb₁ x d' hx
    exact ⟨v', e1, e2.mono (fun _ _ => trivial) fun a o q e => hx3 a o q e⟩⟩
  refine wpAny_bind (wpAny_mono (ht hh hxt hbd { s₀ with heap := h₁, toks := tk₁ } _ hx1) (fun ok s₂ q => ?_) fun _ _ x => x)
  obtain ⟨k₂, rfl⟩ := q
  have hg₁ : h₁.get? R = some (lst ys n) := fr₁ R _ hRC hg
  cases ok with
  | false =>
    obtain ⟨h₂, tk₂, rfl, hk₂⟩ := k₂
    refine wpAny_pure ⟨rfl, h₂, tk₂, #[], n, rfl, fun b o h1 h2 h3 e => hk₂ b o (fr₁ b o h1 e), ⟨m₁, hn₁.keeps hk₂⟩, by simpa using hk₂ _ _ hg₁, rfl⟩
  | true =>
    refine wpAny_bind (wpAny_bind ?_)
    refine (hv rfl hh hxt hbd).use (hx1.trans (keeps_ext k₂)) fun y s₃ k₃ e₃ r₃ => ?_
    have k13 := keeps_trans k₂ k₃
    have hg₃ : s₃.heap.PlainList R ys := ⟨n, keeps_ext k13 _ _ hg₁⟩
    have hle : ys.size ≤ sizeLine := lim_line (Nat.le_trans (Nat.le_add_right _ _) hsz)
    refine wpAny_bind (wpAny_list_append_plain (hsz := hle) hg₃ fun h₄ hl₄ hs₄ => wpAny_pure (wpAny_pure ⟨rfl, ?_⟩))
    obtain ⟨h₃, tk₃, rfl, hk₃⟩ := k13
    obtain ⟨n₄, hg₄⟩ := hl₄
    refine ⟨h₄, tk₃, #[y], n₄, rfl, fun b o h1 h2 h3 e => hs₄.extBut b o h2 (hk₃ b o (fr₁ b o h1 e)), ⟨m₁, (hn₁.keeps hk₃).sameBut hs₄ hRC.symm⟩, by rw [hg₄]; simp [lst], ?_⟩
    refine RepsP.single ?_
    have hoff' : ∀ a, New hh s₂ a → ¬ X a := by
      rintro a (q | q) hm
      · unfold Dom at q; rw [hx2 a hm] at q; cases q
      · have : Dom s₂.heap a := by
          have hd := hX a hm
          unfold Dom at hd
          obtain ⟨o, ho⟩ := Option.isSome_iff_exists.mp hd
          exact .of (keeps_ext k₂ _ _ (fr₁ _ o (fun q => hC (by rw [← q]; exact hm)) ho))
        unfold Dom at this
        rw [q] at this; cases this
    exact r₃.mono hoff' fun a o q e => hs₄.extBut a o (fun hm => hoff' a q (by rw [hm]; exact hXR)) e
end
end Mine

namespace Mine
open PySem PySem.W PyProof.Rows

/-- what an element may not be made of -/
def Hid (h : Heap) (s : Shared) (R I : Addr) (a : Addr) : Prop := a = R ∨ a = I ∨ (Dom s.heap a ∧ ¬ Dom h a)
theorem dom_none {h : Heap} {a : Addr} (e : h.get? a = none) : ¬ Dom h a := fun d => by unfold Dom at d; rw [e] at d; cases d
theorem none_dom {h : Heap} {a : Addr} (e : ¬ Dom h a) : h.get? a = none := by
  cases q : h.get? a with
  | none => rfl
  | some o => exact absurd (Dom.of q) e

/-- a comprehension's turn, for the rule below: what is known there -/
structure At (h : Heap) (X : Addr → Prop) (I R C : Addr) (s : Shared) : Prop where
  it : ItOk s.heap I
  ext : Ext h s.heap
  off : ∀ a, X a ∨ a = C → h.get? a = none
  dom : ∀ a, X a → Dom s.heap a
  xc : ¬ X C
  xr : X R
  xi : X I

section
variable {prog : Program} {w : World} {A : Around} {E : Value → Shared → Prop}

theorem comp_open {h : Heap} {env : Env} {elt target iter : Expr} {ifs : List Expr} {gens : List Comprehension} {scope : Scope} {cl : List (Str × Addr)} {pos p : Pos} {ds : List D} {rest : Addr → Addr → Addr → Value → Sem PySem.Fin} {s : Shared}
    (f : D → List D) {RR : Value → Addr → Result → Shared → Prop} (src : Src prog w A h env iter ds) (hx : Ext h s.heap) (hcell : ∀ y ∈ scope.names, y.2 ≠ .cell) (hkind : scope.kind = .function) (hlen : (ds.flatMap f).length ≤ LIM)
    (hT : ∀ I R C, compTurn (.ListComp elt (⟨target, iter, ifs, 0⟩ :: gens) scope pos) 0 (.ref I) (.ref R) (compEnvC scope cl C env) = (do standAt p; match ← pyNext (.ref I) with | none => pure (.done .next) | some v => rest I R C v))
    (turn : ∀ X I R C (i : Nat) d v s₁ m₁ ys₁ n₁ E', At h X I R C s₁ → ds[i]? = some d → s₁.heap.Ns C m₁ → s₁.heap.get? R = some (lst ys₁ n₁) → ys₁.size + (f d).length ≤ LIM → RepP (fun a => ¬ X a) s₁.heap d v →
      wpAny (model prog w) A (rest I R C v) (fun fin s' => fin = .again (.compLoop (.ListComp elt (⟨target, iter, ifs, 0⟩ :: gens) scope pos) 0 (.ref I) (.ref R) (compEnvC scope cl C env)) ∧ Stp [] X C R s₁ s' ys₁ (f d)) E' s₁)
    (hRR : ∀ R C m s', Keeps s s' → s'.heap.Ns C m → s.heap.get? C = none → s.heap.get? R = none → RepP (New h s) s'.heap (.list (ds.flatMap f)) (.ref R) → RR (.ref R) C (.ok .next) s') :
    wpAny (model prog w) A (eval iter env) (fun x s₁ => wpAny (model prog w) A (pyIter x) (fun it s₂ => wpAny (model prog w) A (newList []) (fun acc s₃ =>
      wpAny (model prog w) A (newFunctionEnv scope env.globals cl [] env.qual none .none (some env)) (fun cenv s₄ =>
        codeAny (model prog w) A (.compStart (.ListComp elt (⟨target, iter, ifs, 0⟩ :: gens) scope pos) 0 it acc { cenv with scope := relabel scope env }) (RR acc cenv.locals) s₄) E s₃) E s₂) E s₁) E s := by
  refine wpAny_mono (src s E hx) (fun x s₁ q => ?_) fun _ _ e => e
  obtain ⟨k₁, q⟩ := q
  refine wpAny_mono q (fun it s₂ q => ?_) fun _ _ e => e
  obtain ⟨k₂, I, fp, P, St, rfl, W, hst, hfp, hI₁, hit, hfps, hP⟩ := q
  refine wpAny_newObj_type (wpAny_newFunctionEnv hcell (by intro y hy; simp at hy) (fun h₁ hns₁ hsb₁ => ?_) hkind)
  dsimp only at hns₁ hsb₁ ⊢
  generalize hH2 : s₂.heap.push { cls := .type "list", dict := none, data := .seq ([] : List Value).toArray } = H2 at hns₁ hsb₁ ⊢
  have hC : H2.objs.size = s₂.heap.objs.size + 1 := by rw [← hH2, Heap.size_push]
  have hDC : s₂.heap.objs.size ≠ H2.objs.size := by rw [hC]; exact Nat.ne_of_lt (Nat.lt_succ_self _)
  have below : ∀ b, b < s₂.heap.objs.size → b ≠ H2.objs.size ∧ b ≠ s₂.heap.objs.size := fun b hb => ⟨by rw [hC]; exact Nat.ne_of_lt (Nat.lt_succ_of_lt hb), Nat.ne_of_lt hb⟩
  have hDf : s₂.heap.objs.size ∉ fp := fun hm => Nat.lt_irrefl _ (hfp _ hm)
  have hCf : H2.objs.size ∉ fp := fun hm => by have := hfp _ hm; rw [hC] at this; exact Nat.lt_irrefl _ (Nat.lt_of_succ_lt this)
  have old : Ext s₂.heap h₁ := fun b o e => hsb₁.extBut b o (below b (Heap.lt_size e)).1 (Heap.get?_push_of_some _ (hH2 ▸ Heap.get?_push_of_some _ e))
  have hacc : h₁.get? s₂.heap.objs.size = some (lst #[] 0) := hsb₁.extBut _ _ hDC (Heap.get?_push_of_some _ (hH2 ▸ Heap.get?_push_size _ rfl))
  have hst₁ : St 0 h₁ := W.frame _ _ _ hst fun b _ o e => old b o e
  have hs12 : Ext s.heap s₂.heap := (keeps_ext k₁).trans (keeps_ext k₂)
  have hRn : s.heap.get? s₂.heap.objs.size = none := none_of_ext hs12
  have hCn2 : s₂.heap.get? H2.objs.size = none := Heap.get?_none_of_le (by rw [hC]; exact Nat.le_succ _)
  have hCn : s.heap.get? H2.objs.size = none := by
    cases q : s.heap.get? H2.objs.size with
    | none => rfl
    | some o => rw [hs12 _ _ q] at hCn2; cases hCn2
  have hIn : s.heap.get? I = none := by
    cases q : s.heap.get? I with
    | none => rfl
    | some o => rw [keeps_ext k₁ _ _ q] at hI₁; cases hI₁
  have hIf : I ∈ fp := W.sub I (by simp)
  have hRI : s₂.heap.objs.size ≠ I := fun e => hDf (e ▸ hIf)
  have hCI : H2.objs.size ≠ I := fun e => hCf (e ▸ hIf)
  have hnh : ∀ a, s.heap.get? a = none → h.get? a = none := fun a e => by
    cases q : h.get? a with
    | none => rfl
    | some o => rw [hx _ _ q] at e; cases e
  -- the hidden part
  have hHd : ∀ a, Hid h s s₂.heap.objs.size I a → h.get? a = none := by
    rintro a (rfl | rfl | q)
    · exact hnh _ hRn
    · exact hnh _ hIn
    · exact none_dom q.2
  have hHC : ¬ Hid h s s₂.heap.objs.size I H2.objs.size := by
    rintro (q | q | q)
    · exact hDC q.symm
    · exact hCI q
    · exact dom_none hCn q.1
  have loop : ∀ s₃ : Shared, s₃ = { s₂ with heap := h₁, toks := s₂.toks + ([] : List (Str × Value)).length } →
      codeAny (model prog w) A (.compLoop (.ListComp elt (⟨target, iter, ifs, 0⟩ :: gens) scope pos) 0 (.ref I) (.ref s₂.heap.objs.size) (compEnvC scope cl H2.objs.size env))
        (RR (.ref s₂.heap.objs.size) H2.objs.size) s₃ := by
    rintro s₃ rfl
    refine codeAny_mono (comp_loop (env := compEnvC scope cl H2.objs.size env) (X := Hid h s s₂.heap.objs.size I) f (hT I _ _) W hst₁ hacc hns₁ hDf hCf (by simpa using hlen) (.inl rfl) (.inr (.inl rfl)) ?_ ?_) ?_
    · intro i v d hv hd
      refine (hP i v d hv hd).mono (fun a q => ?_) fun a o q e => old a o (keeps_ext k₂ a o e)
      rintro (rfl | rfl | q')
      · exact absurd (Heap.lt_size (keeps_ext k₂ _ _ (Option.isSome_iff_exists.mp q.2).choose_spec)) (Nat.lt_irrefl _)
      · exact dom_none hI₁ q.2
      · rcases q.1 with q1 | q1
        · exact q'.2 q1
        · exact dom_none q1 q'.1
    · intro i d v s₅ m₅ ys₅ n₅ E' hd fr hst₅ hn₅ hg₅ hsz₅ rv
      refine turn (Hid h s s₂.heap.objs.size I) I _ _ i d v s₅ m₅ ys₅ n₅ E' ⟨hit _ _ hst₅, fun a o e => ?_, ?_, ?_, hHC, .inl rfl, .inr (.inl rfl)⟩ hd hn₅ hg₅ hsz₅ rv
      · have e' := hx a o e
        exact fr a o (fun q => by rw [show a = H2.objs.size from q, hCn] at e'; cases e') (fun q => by rw [q, hRn] at e'; cases e') (fun q => by rw [q, hIn] at e'; cases e') (old a o (hs12 a o e'))
      · rintro a (q | rfl)
        · exact hHd a q
        · exact hnh _ hCn
      · rintro a (rfl | rfl | q)
        · exact .of hg₅
        · obtain ⟨o, _, ho, _⟩ := hit _ _ hst₅; exact .of ho
        · obtain ⟨o, e'⟩ := Option.isSome_iff_exists.mp q.1
          exact .of (fr a o (fun q => by rw [show a = H2.objs.size from q, hCn] at e'; cases e') (fun q => by rw [q, hRn] at e'; cases e') (fun q => by rw [q, hIn] at e'; cases e') (old a o (hs12 a o e')))
    · rintro r s' ⟨rfl, h', tk, zs, n', rfl, fr, ⟨m', hn'⟩, hg', rz⟩
      refine hRR _ _ m' _ ?_ hn' hCn hRn ?_
      · obtain ⟨h₂, t₂, e₂, _⟩ := keeps_trans k₁ k₂
        exact ⟨h', tk, by rw [e₂], fun a o e' => fr a o (fun q => by rw [show a = H2.objs.size from q, hCn] at e'; cases e') (fun q => by rw [q, hRn] at e'; cases e') (fun q => by rw [List.mem_singleton.mp q, hIn] at e'; cases e') (old a o (hs12 a o e'))⟩
      · refine ⟨hlen, _, _, n', rfl, .inr hRn, by simpa [lst] using hg', ?_⟩
        refine RepsP.imp (by simpa using rz) fun a q => ?_
        by_cases hd : Dom s.heap a
        · by_cases hd' : Dom h a
          · exact .inl hd'
          · exact absurd (.inr (.inr ⟨hd, hd'⟩)) q
        · exact .inr (none_dom hd)
  exact codeAny_compStart_list (loop _ rfl) (W.self 0 _ _ _ hst₁ (loop _ rfl))

theorem val_of_open {h : Heap} {env : Env} {elt target iter : Expr} {ifs : List Expr} {gens : List Comprehension} {scope : Scope} {cl : List (Str × Addr)} {pos p : Pos} {ds : List D} {rest : Addr → Addr → Addr → Value → Sem PySem.Fin}
    (f : D → List D) (src : Src prog w A h env iter ds) (hcell : ∀ y ∈ scope.names, y.2 ≠ .cell) (hkind : scope.kind = .function) (hnames : ∀ y ∈ scope.names, y.2 = .local → scope.names.lookup y.1 = some .local)
    (hclos : closureFor scope env = pure cl) (hs : ∀ x, foldedSetIterable iter env x = pure x) (hlen : (ds.flatMap f).length ≤ LIM)
    (hT : ∀ I R C, compTurn (.ListComp elt (⟨target, iter, ifs, 0⟩ :: gens) scope pos) 0 (.ref I) (.ref R) (compEnvC scope cl C env) = (do standAt p; match ← pyNext (.ref I) with | none => pure (.done .next) | some v => rest I R C v))
    (turn : ∀ X I R C (i : Nat) d v s₁ m₁ ys₁ n₁ E', At h X I R C s₁ → ds[i]? = some d → s₁.heap.Ns C m₁ → s₁.heap.get? R = some (lst ys₁ n₁) → ys₁.size + (f d).length ≤ LIM → RepP (fun a => ¬ X a) s₁.heap d v →
      wpAny (model prog w) A (rest I R C v) (fun fin s' => fin = .again (.compLoop (.ListComp elt (⟨target, iter, ifs, 0⟩ :: gens) scope pos) 0 (.ref I) (.ref R) (compEnvC scope cl C env)) ∧ Stp [] X C R s₁ s' ys₁ (f d)) E' s₁) :
    Val prog w A h env (.ListComp elt (⟨target, iter, ifs, 0⟩ :: gens) scope pos) (.list (ds.flatMap f)) := fun s E hx => by
  rw [eval_ListComp]
  refine wpAny_comprehension_free (use := none) rfl hs hclos hkind hnames (comp_open (RR := fun acc C => compPost (model prog w) A E none (fun v s' => Keeps s s' ∧ RepP (New h s) s'.heap (.list (ds.flatMap f)) v) acc C) f src hx hcell hkind hlen hT turn ?_)
  intro R C m s' k hn hC hR r
  refine ⟨m, hn, fun h' hs' => ?_⟩
  obtain ⟨h₁, t₁, rfl, hk⟩ := k
  refine ⟨⟨h', t₁, rfl, fun b o e => hs'.extBut b o (fun q => by rw [q, hC] at e; cases e) (hk b o e)⟩, ?_⟩
  exact r.dom.mono (fun a q => q.1) fun a o q e => hs'.extBut a o (seq_ne_ns hn q.2.2) e

/-- one clause -/
theorem val_comp {h : Heap} {env : Env} {elt target iter : Expr} {ifs : List Expr} {scope : Scope} {cl : List (Str × Addr)} {pos : Pos} {ds : List D} (p : D → Bool) (g : D → D) (bs : D → List (Str × D))
    (src : Src prog w A h env iter ds) (hclos : closureFor scope env = pure cl) (hlen : (ds.flatMap fun d => if p d then [g d] else []).length ≤ LIM)
    (bd : ∀ C d, d ∈ ds → Bnd prog w A (compEnvC scope cl C env) target d (bs d))
    (ht : ∀ C d h', d ∈ ds → h.get? C = none → Ext h h' → Bound h' C (bs d) → Tsts prog w A h' (compEnvC scope cl C env) ifs (p d))
    (hv : ∀ C d h', d ∈ ds → h.get? C = none → p d = true → Ext h h' → Bound h' C (bs d) → Val prog w A h' (compEnvC scope cl C env) elt (g d))
    (hcell : ∀ y ∈ scope.names, y.2 ≠ .cell := by decide) (hkind : scope.kind = .function := by rfl) (hnames : ∀ y ∈ scope.names, y.2 = .local → scope.names.lookup y.1 = some .local := by decide)
    (hs : ∀ x, foldedSetIterable iter env x = pure x := by intro _; rfl) :
    Val prog w A h env (.ListComp elt [⟨target, iter, ifs, 0⟩] scope pos) (.list (ds.flatMap fun d => if p d then [g d] else [])) := by
  refine val_of_open (p := iter.pos) _ src hcell hkind hnames hclos hs hlen (fun I R C => compTurn_list _ _ _ _ _ _ _ _ _) ?_
  intro X I R C i d v s₁ m₁ ys₁ n₁ E' at' hd hn hg hsz rv
  have hmem := List.mem_of_getElem? hd
  have hCn : h.get? C = none := at'.off C (.inr rfl)
  refine emit_turn (env := compEnvC scope cl C env) (h₀ := h) hn hg ?_ rv at'.dom at'.xr at'.it at'.xc at'.ext at'.off (bd C d hmem) (fun h' e b => ht C d h' hmem hCn e b) (fun hp h' e b => hv C d h' hmem hCn hp e b)
  cases hp : p d <;> simp [hp] at hsz ⊢ <;> omega
end
end Mine

namespace Mine
open PySem PySem.W PyProof.Rows

theorem compTurn_outer (elt t0 i0 t1 i1 : Expr) (scope : Scope) (pos : Pos) (it acc : Value) (env : Env) :
    compTurn (.ListComp elt [⟨t0, i0, [], 0⟩, ⟨t1, i1, [], 0⟩] scope pos) 0 it acc env = (do
      standAt i0.pos
      match ← pyNext it with
      | none => pure (.done .next)
      | some v =>
        letOwnedTupleGo t0 it v
        assign t0 env v
        let x ← eval i1 env
        standAt i1.pos
        let x ← foldedSetIterable i1 env x
        let _ ← runOwn (.compStart (.ListComp elt [⟨t0, i0, [], 0⟩, ⟨t1, i1, [], 0⟩] scope pos) 1 (← holding [x] (pyIter x)) acc env) env
        again (.compLoop (.ListComp elt [⟨t0, i0, [], 0⟩, ⟨t1, i1, [], 0⟩] scope pos) 0 it acc env)) := by rfl
theorem compTurn_inner (elt t0 i0 t1 i1 : Expr) (scope : Scope) (pos : Pos) (it acc : Value) (env : Env) :
    compTurn (.ListComp elt [⟨t0, i0, [], 0⟩, ⟨t1, i1, [], 0⟩] scope pos) 1 it acc env = (do
      standAt i1.pos
      match ← pyNext it with
      | none => pure (.done .next)
      | some v =>
        letOwnedTupleGo t1 it v
        assign t1 env v
        let mut ok := true
        for c in ([] : List Expr) do
          if ok then ok ← isTrue c env (eval c env)
        if ok then
          (do let _ ← call (.builtin "list.append") [acc, ← eval elt env])
        again (.compLoop (.ListComp elt [⟨t0, i0, [], 0⟩, ⟨t1, i1, [], 0⟩] scope pos) 1 it acc env)) := by rfl

theorem flat_one (g : D → D) (l : List D) : (l.flatMap fun e => if true then [g e] else []) = l.map g := by
  induction l with
  | nil => rfl
  | cons a l ih => rw [List.flatMap_cons, ih]; simp

section
variable {prog : Program} {w : World} {A : Around}
theorem codeAny_compStart_inner {R : Result → Shared → Prop} {s : Shared} {elt t0 i0 t1 i1 : Expr} {scope : Scope} {pos : Pos} {it acc : Value} {env : Env}
    (h0 : codeAny (model prog w) A (.compLoop (.ListComp elt [⟨t0, i0, [], 0⟩, ⟨t1, i1, [], 0⟩] scope pos) 1 it acc env) R s)
    (h : wpAny (model prog w) A (pyIter it) (fun it' s' => codeAny (model prog w) A (.compLoop (.ListComp elt [⟨t0, i0, [], 0⟩, ⟨t1, i1, [], 0⟩] scope pos) 1 it' acc env) R s')
      (notedBy (model prog w) A env fun x s' => R (.error x) s') s) :
    codeAny (model prog w) A (.compStart (.ListComp elt [⟨t0, i0, [], 0⟩, ⟨t1, i1, [], 0⟩] scope pos) 1 it acc env) R s := by
  refine codeAny_of_tree ?_
  show wpAny _ _ ((compStart (.ListComp elt [⟨t0, i0, [], 0⟩, ⟨t1, i1, [], 0⟩] scope pos) 1 it acc env).onRaise (fun x => do noteFrame x env; standAt theWindowsPlace)) _ _ s
  refine wpAny_notedAt ?_
  unfold compStart
  show wpAny _ _ (ask >>= _) _ _ s
  refine wpAny_bind (wpAny_askSetting (wpAny_ite ?_))
  split
  · first
      | exact wpAny_bind (wpAny_pure (wpAny_pure (And.intro rfl h0)))
      | exact wpAny_pure (And.intro rfl h0)
  · first
      | exact wpAny_bind (wpAny_rule (wpAny_bind (wpAny_standAt (wpAny_bind (wpAny_mono h (fun it' s' h' => wpAny_pure (And.intro rfl h')) fun _ _ x => x)))))
      | (refine wpAny_bind (wpAny_rule ?_); show wpAny _ _ (standAt i1.pos >>= _) _ _ s; exact wpAny_bind (wpAny_standAt (wpAny_bind (wpAny_mono h (fun it' s' h' => wpAny_pure (And.intro rfl h')) fun _ _ x => x))))

theorem val_comp2 {h : Heap} {env : Env} {elt t0 i0 t1 i1 : Expr} {scope : Scope} {cl : List (Str × Addr)} {pos : Pos} {ds : List D} (in1 : D → List D) (g : D → D) (b0 b1 : D → List (Str × D))
    (src : Src prog w A h env i0 ds) (hclos : closureFor scope env = pure cl) (hlen : (ds.flatMap fun d => (in1 d).map g).length ≤ LIM)
    (bd0 : ∀ C d, d ∈ ds → Bnd prog w A (compEnvC scope cl C env) t0 d (b0 d))
    (src1 : ∀ C d h', d ∈ ds → h.get? C = none → Ext h h' → Bound h' C (b0 d) → Src prog w A h' (compEnvC scope cl C env) i1 (in1 d))
    (bd1 : ∀ C d e, d ∈ ds → e ∈ in1 d → Bnd prog w A (compEnvC scope cl C env) t1 e (b1 e))
    (hv : ∀ C d e h', d ∈ ds → e ∈ in1 d → h.get? C = none → Ext h h' → Bound h' C (b1 e) → Val prog w A h' (compEnvC scope cl C env) elt (g e))
    (hcell : ∀ y ∈ scope.names, y.2 ≠ .cell := by decide) (hkind : scope.kind = .function := by rfl) (hnames : ∀ y ∈ scope.names, y.2 = .local → scope.names.lookup y.1 = some .local := by decide)
    (hs : ∀ x, foldedSetIterable i0 env x = pure x := by intro _; rfl) (hs1 : ∀ env x, foldedSetIterable i1 env x = pure x := by intro _ _; rfl) :
    Val prog w A h env (.ListComp elt [⟨t0, i0, [], 0⟩, ⟨t1, i1, [], 0⟩] scope pos) (.list (ds.flatMap fun d => (in1 d).map g)) := by
  refine val_of_open (p := i0.pos) _ src hcell hkind hnames hclos hs hlen (fun I R C => compTurn_outer _ _ _ _ _ _ _ _ _ _) ?_
  intro X I R C i d v s₁ m₁ ys₁ n₁ E' at' hd hn hg hsz rv
  have hmem := List.mem_of_getElem? hd
  have hCn : h.get? C = none := at'.off C (.inr rfl)
  have hRC : R ≠ C := seq_ne_ns hn ⟨_, _, _, hg, rfl⟩
  refine wpAny_bind (wpAny_mono (bd0 C d hmem s₁ E' m₁ v _ I hn rv at'.it) (fun _ s₀ q => ?_) fun _ _ x => x)
  obtain ⟨rfl, q⟩ := q
  refine wpAny_bind (wpAny_mono q (fun _ s₂ q => ?_) fun _ _ x => x)
  obtain ⟨h₂, tk₂, m₂, rfl, hn₂, fr₂, hb₂⟩ := q
  obtain ⟨hh, hx1, hx2, hx3⟩ := hide X h₂
  have hxt : Ext h hh := fun a o q => hx3 a o (fun hm => by rw [at'.off a (.inl hm)] at q; cases q) (fr₂ a o (fun hm => by rw [show a = C from hm, hCn] at q; cases q) (at'.ext a o q))
  have hbd : Bound hh C (b0 d) := ⟨m₂, hn₂.at' fun o q => hx3 _ o at'.xc q, fun x d' hx => by
    obtain ⟨v', e1, e2⟩ := hb₂ x d' hx
    exact ⟨v', e1, e2.mono (fun _ _ => trivial) fun a o q e => hx3 a o q e⟩⟩
  refine wpAny_bind (wpAny_mono (src1 C d hh hmem hCn hxt hbd { s₀ with heap := h₂, toks := tk₂ } _ hx1) (fun x s₃ q => ?_) fun _ _ x => x)
  obtain ⟨k₃, q⟩ := q
  refine wpAny_bind (wpAny_standAt (wpAny_bind (wpAny_of_eq (hs1 _ x) (wpAny_bind (wpAny_holding (wpAny_mono q (fun it s₄ q => ?_) fun _ _ x => x))))))
  obtain ⟨k₄, J, fp, P, St, rfl, W, hst, hfp, hJ, hit, hfps, hP⟩ := q
  have hJf : J ∈ fp := W.sub J (by simp)
  have k24 := keeps_trans k₃ k₄
  have d24 : ∀ a, Dom s₀.heap a → a ≠ C → Dom s₄.heap a := fun a q hc => by
    obtain ⟨o, e⟩ := Option.isSome_iff_exists.mp q
    exact .of (keeps_ext k24 _ _ (fr₂ a o hc e))
  -- what is new is not hidden
  have hnew : ∀ a, New hh { s₀ with heap := h₂, toks := tk₂ } a → ¬ X a := by
    rintro a (q | q) hm
    · unfold Dom at q; rw [hx2 a hm] at q; cases q
    · obtain ⟨o, e⟩ := Option.isSome_iff_exists.mp (at'.dom a hm)
      have e2 := fr₂ a o (fun q => at'.xc (by rw [show C = a from q.symm]; exact hm)) e
      rw [show h₂.get? a = none from q] at e2; cases e2
  have hg₄ : s₄.heap.get? R = some (lst ys₁ n₁) := keeps_ext k24 _ _ (fr₂ R _ hRC hg)
  have hn₄ : s₄.heap.Ns C m₂ := hn₂.keeps (keeps_ext k24)
  have hJX : ∀ a, X a → a ≠ J := fun a hm q => by
    have := d24 a (at'.dom a hm) (fun q => at'.xc (q ▸ hm))
    obtain ⟨o, e⟩ := Option.isSome_iff_exists.mp (at'.dom a hm)
    have e2 := keeps_ext k₃ _ _ (fr₂ a o (fun q => at'.xc (by rw [show C = a from q.symm]; exact hm)) e)
    rw [q, hJ] at e2; cases e2
  have hRf : R ∉ fp := fun hm => by
    rcases hfps R hm with q | q
    · exact hJX R at'.xr q
    · exact hnew R q.1 at'.xr
  have hCJ : C ≠ J := fun q => by
    obtain ⟨o, _, _, e, _⟩ := hn₂
    have e2 := keeps_ext k₃ _ _ e
    rw [show (compEnvC scope cl C env).locals = C from rfl, q, hJ] at e2; cases e2
  have hCf : C ∉ fp := fun hm => by
    rcases hfps C hm with q | q
    · exact hCJ q
    · exact seq_ne_ns (hn₂.keeps (keeps_ext k₃)) q.2 rfl
  have loop : codeAny (model prog w) A (.compLoop (.ListComp elt [⟨t0, i0, [], 0⟩, ⟨t1, i1, [], 0⟩] scope pos) 1 (.ref J) (.ref R) (compEnvC scope cl C env))
      (fun r s' => r = .ok .next ∧ Stp [J] (fun a => X a ∨ a = J) C R s₄ s' ys₁ ((in1 d).flatMap fun e => if true then [g e] else [])) s₄ := by
    refine comp_loop (env := compEnvC scope cl C env) (p := i1.pos) (X := fun a => X a ∨ a = J) _ (compTurn_inner _ _ _ _ _ _ _ _ _ _) W hst hg₄ hn₄ hRf hCf ?_ (.inl at'.xr) (.inr rfl) ?_ ?_
    · rw [flat_one]; exact hsz
    · intro j u e hu he
      refine (hP j u e hu he).mono (fun a q => ?_) fun a o q e => keeps_ext k₄ a o e
      rintro (q' | rfl)
      · exact hnew a q.1 q'
      · exact dom_none hJ q.2
    · intro j e u s₅ m₅ ys₅ n₅ E5 he fr hst₅ hn₅ hg₅ hsz₅ ru
      have hme := List.mem_of_getElem? he
      have d5 : ∀ a, X a → Dom s₅.heap a := fun a hm => by
        by_cases hR : a = R
        · rw [hR]; exact .of hg₅
        · obtain ⟨o, e'⟩ := Option.isSome_iff_exists.mp (at'.dom a hm)
          exact .of (fr a o (fun q => at'.xc (by rw [show C = a from q.symm]; exact hm)) hR (hJX a hm) (keeps_ext k24 _ _ (fr₂ a o (fun q => at'.xc (by rw [show C = a from q.symm]; exact hm)) e')))
      refine emit_turn (b := true) (env := compEnvC scope cl C env) (h₀ := h) hn₅ hg₅ (by simpa using hsz₅) ru ?_ (.inl at'.xr) (hit _ _ hst₅) ?_ ?_ ?_ (bd1 C d e hmem hme) (fun h' e' b' => tsts_nil) fun _ h' e' b' => hv C d e h' hmem hme hCn e' b'
      · rintro a (q | rfl)
        · exact d5 a q
        · obtain ⟨o, _, ho, _⟩ := hit _ _ hst₅; exact .of ho
      · rintro (q | q)
        · exact at'.xc q
        · exact hCJ q
      · intro a o e'
        have e2 := at'.ext a o e'
        have hac : a ≠ C := fun q => by rw [q, hCn] at e'; cases e'
        have haR : a ≠ R := fun q => by rw [q, at'.off R (.inl at'.xr)] at e'; cases e'
        have haJ : a ≠ J := fun q => by
          have e3 := keeps_ext k₃ _ _ (fr₂ a o hac e2)
          rw [q, hJ] at e3; cases e3
        exact fr a o hac haR haJ (keeps_ext k24 _ _ (fr₂ a o hac e2))
      · rintro a ((q | rfl) | q)
        · exact at'.off a (.inl q)
        · cases q' : h.get? a with
          | none => rfl
          | some o =>
            have hac : a ≠ C := fun q => by rw [q, hCn] at q'; cases q'
            have e3 := keeps_ext k₃ _ _ (fr₂ a o hac (at'.ext a o q'))
            rw [hJ] at e3; cases e3
        · exact at'.off a (.inr q)
  refine wpAny_bind (wpAny_runOwn ?_)
  have fin : ∀ (r : Result) s', (r = .ok .next ∧ Stp [J] (fun a => X a ∨ a = J) C R s₄ s' ys₁ ((in1 d).flatMap fun e => if true then [g e] else [])) → (match r with
      | .ok f => wpAny (model prog w) A (again (.compLoop (.ListComp elt [⟨t0, i0, [], 0⟩, ⟨t1, i1, [], 0⟩] scope pos) 0 (.ref I) (.ref R) (compEnvC scope cl C env)))
          (fun fin s' => fin = .again (.compLoop (.ListComp elt [⟨t0, i0, [], 0⟩, ⟨t1, i1, [], 0⟩] scope pos) 0 (.ref I) (.ref R) (compEnvC scope cl C env)) ∧ Stp [] X C R s₀ s' ys₁ ((in1 d).map g)) E' s'
      | .error e => cameBackBy (model prog w) A (compEnvC scope cl C env) E' e s') := by
    rintro r s' ⟨rfl, h', tk, zs, n', rfl, fr, ⟨m', hn'⟩, hg', rz⟩
    refine wpAny_pure ⟨rfl, h', tk, zs, n', ?_, fun b o h1 h2 h3 e => ?_, ⟨m', hn'⟩, hg', ?_⟩
    · obtain ⟨h₅, t₅, e₅, _⟩ := k24
      rw [e₅]
    · have e2 := fr₂ b o h1 e
      refine fr b o h1 h2 (fun q => ?_) (keeps_ext k24 _ _ e2)
      rw [List.mem_singleton] at q
      have e3 := keeps_ext k₃ _ _ e2
      rw [q, hJ] at e3; cases e3
    · rw [flat_one] at rz
      exact rz.imp fun a q q' => q (.inl q')
  exact codeAny_compStart_inner (codeAny_mono loop fin) (W.self 0 _ _ _ hst (codeAny_mono loop fin))
end
end Mine

namespace Mine
open PySem PySem.W PyProof.Rows

/-- a name of the block holds the data -/
def Vr (env : Env) (h : Heap) (x : Str) (d : D) : Prop :=
  (env.kindOf x = some .local ∧ ∃ m v, h.Ns env.locals m ∧ m x = some v ∧ Rep h d v) ∨ (env.kindOf x = some .cell ∧ ∃ c v, env.cells.lookup x = some c ∧ h.IsCell c (some v) ∧ Rep h d v)
theorem Vr.ext {env : Env} {h h' : Heap} {x : Str} {d : D} (v : Vr env h x d) (e : Ext h h') : Vr env h' x d :=
  v.imp (fun ⟨hl, m, v, hn, hm, r⟩ => ⟨hl, m, v, hn.keeps e, hm, r.ext e⟩) fun ⟨hl, c, v, hc, hv, r⟩ => ⟨hl, c, v, hc, hv.keeps e, r.ext e⟩

section
variable {prog : Program} {w : World} {A : Around}
theorem val_var {env : Env} {h : Heap} {x : Str} {pos : Pos} {d : D} (v : Vr env h x d) (hk : env.scope.kind = .function) (hd : (x == ("__debug__" : Str)) = false := by decide) : Val prog w A h env (.Name x pos) d := by
  rcases v with ⟨hl, m, v, hn, hm, r⟩ | ⟨hl, c, v, hc, hv, r⟩
  · exact val_local hn hm r hl hk hd
  · exact val_cell hv r hc hl hk hd

/-- a name of the block is bound to the value -/
def Bd (env : Env) (h : Heap) (x : Str) (v : Value) : Prop :=
  (env.kindOf x = some .local ∧ ∃ m, h.Ns env.locals m ∧ m x = some v) ∨ (env.kindOf x = some .cell ∧ ∃ c, env.cells.lookup x = some c ∧ h.IsCell c (some v))

structure Fm (env : Env) (h₀ : Heap) (s₀ s : Shared) (ρ : List (Str × D)) : Prop where
  same : ∃ h tk, s = { s₀ with heap := h, toks := tk }
  fr : ∃ m, Fr h₀ env.locals s.heap m
  cl : ∃ cm, Cl env.locals env.cells s.heap cm
  var : ∀ x d, (x, d) ∈ ρ → Vr env s.heap x d

theorem Fm.ext {env : Env} {h₀ : Heap} {s₀ s : Shared} {ρ : List (Str × D)} (F : Fm env h₀ s₀ s ρ) : Ext h₀ s.heap := fun b o e => F.fr.choose_spec.keep b o e
theorem Fm.keeps {env : Env} {h₀ : Heap} {s₀ s s' : Shared} {ρ : List (Str × D)} (F : Fm env h₀ s₀ s ρ) (k : Keeps s s') : Fm env h₀ s₀ s' ρ := by
  obtain ⟨⟨h, tk, rfl⟩, ⟨m, fr⟩, ⟨cm, cl⟩, var⟩ := F
  obtain ⟨h', tk', rfl, e⟩ := k
  exact ⟨⟨h', tk', rfl⟩, ⟨m, fr.ns.keeps e, fun b o q => e b o (fr.keep b o q), fr.above⟩, ⟨cm, cl.keeps e⟩, fun x d hx => (var x d hx).ext e⟩
theorem Fm.back {env : Env} {h₀ : Heap} {s₀ s : Shared} {ρ ρ' : List (Str × D)} (F : Fm env h₀ s₀ s ρ) (h : ∀ p ∈ ρ', p ∈ ρ) : Fm env h₀ s₀ s ρ' := ⟨F.same, F.fr, F.cl, fun x d hx => F.var x d (h _ hx)⟩

theorem rep_sameBut {h h' : Heap} {a : Addr} {d : D} {v : Value} {P : Addr → Prop} (r : RepP P h d v) (hs : Heap.SameBut a h h') (hno : ∀ o vs n, h.get? a = some o → o.data ≠ .seq vs n) : RepP P h' d v :=
  r.dom.mono (fun a q => q.1) fun b o q e => hs.extBut b o (fun hm => by
    obtain ⟨o', vs, n, e1, e2⟩ := q.2.2
    rw [hm] at e1
    exact hno _ _ _ e1 e2) e
theorem ns_noseq {h : Heap} {a : Addr} {m : Str → Option Value} (hn : h.Ns a m) : ∀ o vs n, h.get? a = some o → o.data ≠ .seq vs n := fun o vs n e q => by
  obtain ⟨o', es, ep, e', d', _⟩ := hn
  rw [e] at e'; cases e'
  rw [q] at d'; cases d'
theorem cell_noseq {h : Heap} {a : Addr} {v : Option Value} (hn : h.IsCell a v) : ∀ o vs n, h.get? a = some o → o.data ≠ .seq vs n := fun o vs n e q => by
  obtain ⟨o', e', d'⟩ := hn
  rw [e] at e'; cases e'
  rw [q] at d'; cases d'

/-- a store into a name of the frame -/
theorem Fm.store {env : Env} {h₀ : Heap} {s₀ s : Shared} {ρ : List (Str × D)} {y : Str} {v : Value} {d : D} {E : Value → Shared → Prop} {Q : Unit → Shared → Prop} (F : Fm env h₀ s₀ s ρ) (r : Rep s.heap d v)
    (hy : env.kindOf y = some .local ∨ (env.kindOf y = some .cell ∧ (env.cells.lookup y).isSome = true)) (hk : env.scope.kind = .function) (hno : ∀ p ∈ ρ, p.1 ≠ y)
    (h : ∀ s', Fm env h₀ s₀ s' ((y, d) :: ρ) → Q () s') : wpAny (model prog w) A (storeName env y v) Q E s := by
  obtain ⟨⟨hh, tk, rfl⟩, ⟨m, fr⟩, ⟨cm, cl⟩, var⟩ := F
  rcases hy with hy | ⟨hy, hc⟩
  · refine wpAny_storeName_local hy fr.ns (fun h' hn hs => h _ ⟨⟨h', _, rfl⟩, ⟨_, fr.set hn hs⟩, ⟨cm, cl.sameBut hs (Nat.le_refl _)⟩, fun x e hx => ?_⟩) (by rw [hk]; rfl)
    have rr : ∀ {d : D} {v : Value}, Rep hh d v → Rep h' d v := fun r => rep_sameBut r hs (ns_noseq fr.ns)
    rcases List.mem_cons.mp hx with q | q
    · cases q
      exact .inl ⟨hy, _, v, hn, by simp, rr r⟩
    · have hne := hno _ q
      rcases var x e q with ⟨hl, m₁, v₁, hn₁, hm₁, r₁⟩ | ⟨hl, c, v₁, hc, hv, r₁⟩
      · refine .inl ⟨hl, _, v₁, hn, ?_, rr r₁⟩
        have : m x = m₁ x := by
          obtain ⟨o, es, ep, e1, e2, _, e3⟩ := fr.ns
          obtain ⟨o', es', ep', e1', e2', _, e3'⟩ := hn₁
          rw [show hh.get? env.locals = some o from e1] at e1'; cases e1'
          rw [e2] at e2'; cases e2'
          rw [← e3, ← e3']
        simp only [show ¬ x = y from hne, if_false]
        rw [this]; exact hm₁
      · exact .inr ⟨hl, c, v₁, hc, hv.sameBut hs (Nat.ne_of_gt (cl.above x c (mem_of_lookup hc))), rr r₁⟩
  · obtain ⟨c, hc⟩ := Option.isSome_iff_exists.mp hc
    have hLc : env.locals < c := cl.above y c (mem_of_lookup hc)
    refine wpAny_storeName_cell hk hy hc (cl.cell y c hc) fun h' hv hs => h _ ⟨⟨h', _, rfl⟩, ⟨m, fr.ns.sameBut hs (Nat.ne_of_lt hLc), fun b o e => (hs.2 b (Nat.ne_of_lt (Nat.lt_trans (Nat.lt_of_lt_of_le (Heap.lt_size e) fr.above) hLc))).trans (fr.keep b o e), fr.above⟩,
      ⟨fun z => if z = y then some v else cm z, fun n c' e => ?_, cl.apart, cl.above⟩, fun x e hx => ?_⟩
    · by_cases hn : n = y
      · subst hn; rw [hc] at e; cases e; simpa using hv
      · have hcc : c' ≠ c := fun q => hn (name_of_addr cl.apart (mem_of_lookup e) (q ▸ mem_of_lookup hc))
        simpa [hn] using (cl.cell n c' e).sameBut hs hcc
    · have rr : ∀ {d : D} {v : Value}, Rep hh d v → Rep h' d v := fun r => rep_sameBut r hs (cell_noseq (cl.cell y c hc))
      rcases List.mem_cons.mp hx with q | q
      · cases q
        exact .inr ⟨hy, c, v, hc, hv, rr r⟩
      · have hne := hno _ q
        rcases var x e q with ⟨hl, m₁, v₁, hn₁, hm₁, r₁⟩ | ⟨hl, c', v₁, hc', hv', r₁⟩
        · exact .inl ⟨hl, m₁, v₁, hn₁.sameBut hs (Nat.ne_of_lt hLc), hm₁, rr r₁⟩
        · have hcc : c' ≠ c := fun q => hne (name_of_addr cl.apart (mem_of_lookup hc') (q ▸ mem_of_lookup hc))
          exact .inr ⟨hl, c', v₁, hc', hv'.sameBut hs hcc, rr r₁⟩

theorem Fm.assign {env : Env} {h₀ : Heap} {s₀ s : Shared} {ρ : List (Str × D)} {y : Str} {py pos : Pos} {e : Expr} {d : D} {E : Value → Shared → Prop} {Q : Flow → Shared → Prop} (F : Fm env h₀ s₀ s ρ)
    (hy : env.kindOf y = some .local ∨ (env.kindOf y = some .cell ∧ (env.cells.lookup y).isSome = true)) (hno : ∀ p ∈ ρ, p.1 ≠ y) (x : Val prog w A s.heap env e d)
    (h : ∀ s', Fm env h₀ s₀ s' ((y, d) :: ρ) → Q .next s') (hk : env.scope.kind = .function) (hs : swapsWith e (some (.Name y py)) pos.line env = pure false) : wpAny (model prog w) A (exec (.Assign [.Name y py] e pos) env) Q E s :=
  wpAny_Assign_Name (x.use (Ext.refl _) fun v s' k e' r => (F.keeps k).store r.any hy hk hno h) hs

/-- one clause, as a turn -/
theorem turn1 {h : Heap} {env : Env} {elt target iter : Expr} {ifs : List Expr} {scope : Scope} {cl : List (Str × Addr)} {pos : Pos} {ds : List D} (p : D → Bool) (g : D → D) (bs : D → List (Str × D))
    (bd : ∀ C d, d ∈ ds → Bnd prog w A (compEnvC scope cl C env) target d (bs d))
    (ht : ∀ C d h', d ∈ ds → h.get? C = none → Ext h h' → Bound h' C (bs d) → Tsts prog w A h' (compEnvC scope cl C env) ifs (p d))
    (hv : ∀ C d h', d ∈ ds → h.get? C = none → p d = true → Ext h h' → Bound h' C (bs d) → Val prog w A h' (compEnvC scope cl C env) elt (g d)) :
    ∀ X I R C (i : Nat) d v s₁ m₁ ys₁ n₁ E', At h X I R C s₁ → ds[i]? = some d → s₁.heap.Ns C m₁ → s₁.heap.get? R = some (lst ys₁ n₁) → ys₁.size + (if p d then [g d] else []).length ≤ LIM → RepP (fun a => ¬ X a) s₁.heap d v →
      wpAny (model prog w) A (do
        letOwnedTupleGo target (.ref I) v
        PySem.assign target (compEnvC scope cl C env) v
        let mut ok := true
        for c in ifs do
          if ok then ok ← isTrue c (compEnvC scope cl C env) (eval c (compEnvC scope cl C env))
        if ok then
          (do let _ ← call (.builtin "list.append") [.ref R, ← eval elt (compEnvC scope cl C env)])
        again (.compLoop (.ListComp elt [⟨target, iter, ifs, 0⟩] scope pos) 0 (.ref I) (.ref R) (compEnvC scope cl C env)))
        (fun fin s' => fin = .again (.compLoop (.ListComp elt [⟨target, iter, ifs, 0⟩] scope pos) 0 (.ref I) (.ref R) (compEnvC scope cl C env)) ∧ Stp [] X C R s₁ s' ys₁ (if p d then [g d] else [])) E' s₁ := by
  intro X I R C i d v s₁ m₁ ys₁ n₁ E' at' hd hn hg hsz rv
  have hmem := List.mem_of_getElem? hd
  have hCn : h.get? C = none := at'.off C (.inr rfl)
  refine emit_turn (env := compEnvC scope cl C env) (h₀ := h) hn hg ?_ rv at'.dom at'.xr at'.it at'.xc at'.ext at'.off (bd C d hmem) (fun h' e b => ht C d h' hmem hCn e b) (fun hp h' e b => hv C d h' hmem hCn hp e b)
  cases hp : p d <;> simp [hp] at hsz ⊢ <;> omega

/-- a comprehension stored at once (the store stands ahead of the letting go of its names) -/
theorem Fm.assign_comp {env : Env} {h₀ : Heap} {s₀ s : Shared} {ρ : List (Str × D)} {y : Str} {py spos : Pos} {E : Value → Shared → Prop} {Q : Flow → Shared → Prop} (F : Fm env h₀ s₀ s ρ) {elt target iter : Expr} {ifs : List Expr} {scope : Scope} {cl : List (Str × Addr)} {pos : Pos} {ds : List D} (p : D → Bool) (g : D → D) (bs : D → List (Str × D))
    (hy : env.kindOf y = some .local) (hno : ∀ p ∈ ρ, p.1 ≠ y)
    (src : Src prog w A s.heap env iter ds) (hclos : closureFor scope env = pure cl) (hlen : (ds.flatMap fun d => if p d then [g d] else []).length ≤ LIM)
    (bd : ∀ C d, d ∈ ds → Bnd prog w A (compEnvC scope cl C env) target d (bs d))
    (ht : ∀ C d h', d ∈ ds → s.heap.get? C = none → Ext s.heap h' → Bound h' C (bs d) → Tsts prog w A h' (compEnvC scope cl C env) ifs (p d))
    (hv : ∀ C d h', d ∈ ds → s.heap.get? C = none → p d = true → Ext s.heap h' → Bound h' C (bs d) → Val prog w A h' (compEnvC scope cl C env) elt (g d))
    (h : ∀ s', Fm env h₀ s₀ s' ((y, .list (ds.flatMap fun d => if p d then [g d] else [])) :: ρ) → Q .next s') (hk : env.scope.kind = .function)
    (hsw : swapsWith (.ListComp elt [⟨target, iter, ifs, 0⟩] scope pos) (some (.Name y py)) spos.line env = pure true)
    (hcell : ∀ y ∈ scope.names, y.2 ≠ .cell := by decide) (hkind : scope.kind = .function := by rfl) (hnames : ∀ y ∈ scope.names, y.2 = .local → scope.names.lookup y.1 = some .local := by decide)
    (hs : ∀ x, foldedSetIterable iter env x = pure x := by intro _; rfl) :
    wpAny (model prog w) A (exec (.Assign [.Name y py] (.ListComp elt [⟨target, iter, ifs, 0⟩] scope pos) spos) env) Q E s := by
  rw [exec_Assign_Name_used _ _ _ _ hsw]
  refine wpAny_bind (wpAny_standAt (wpAny_bind ?_))
  show wpAny _ A (do let _ ← comprehension (.ListComp elt [⟨target, iter, ifs, 0⟩] scope pos) scope env _ (newList []) false (eval iter env) (some (PySem.assign (.Name y py) env))) _ _ s
  refine wpAny_bind (wpAny_mono (wpAny_comprehension_free (use := some (PySem.assign (.Name y py) env)) (Q := fun _ s' => Q .next s') rfl hs hclos hkind hnames
    (comp_open (p := iter.pos) (RR := fun acc C => compPost (model prog w) A E (some (PySem.assign (.Name y py) env)) (fun _ s' => Q .next s') acc C) _ src (Ext.refl _) hcell hkind hlen (fun I R C => compTurn_list _ _ _ _ _ _ _ _ _) (turn1 p g bs bd ht hv) ?_)) (fun _ s' hq => wpAny_pure (wpAny_pure hq)) fun _ _ e => e)
  intro R C m s' k hn hC hR r
  have F' := F.keeps k
  show wpAny _ A (PySem.assign (.Name y py) env (.ref R)) _ _ _
  have hLC : C ≠ env.locals := fun q => by
    obtain ⟨mm, fr⟩ := F.fr
    obtain ⟨o, _, _, e, _⟩ := fr.ns
    rw [← q, hC] at e; cases e
  refine wpAny_assign_Name ?_
  -- the store, and C is as it was
  obtain ⟨hh, tk, rfl, hke⟩ := id k
  obtain ⟨mm, fr⟩ := F'.fr
  refine wpAny_storeName_local hy fr.ns (fun h' hn' hs' => ?_) (by rw [hk]; rfl)
  refine ⟨m, hn.sameBut hs' hLC, fun h'' hs'' => h _ ?_⟩
  obtain ⟨⟨hs0, tk0, hs0e⟩, _, ⟨cm, cll⟩, var⟩ := F'
  have hCcell : ∀ x c, env.cells.lookup x = some c → c ≠ C := fun x c e q => by
    obtain ⟨cm₀, cl₀⟩ := F.cl
    obtain ⟨o, ho, _⟩ := cl₀.cell x c e
    rw [q, hC] at ho; cases ho
  have rr : ∀ {d : D} {v : Value}, Rep hh d v → Rep h'' d v := fun r => rep_sameBut (rep_sameBut r hs' (ns_noseq fr.ns)) hs'' (ns_noseq (hn.sameBut hs' hLC))
  have hn2 := hn'.sameBut hs'' hLC.symm
  refine ⟨⟨h'', tk + 1, by obtain ⟨a, b, c⟩ := F.same; rw [c]⟩, ⟨_, hn2, fun b o e => ?_, fr.above⟩, ⟨cm, ?_⟩, fun x e hx => ?_⟩
  · have e1 := fr.keep b o e
    refine hs''.extBut b o (fun q => ?_) ((hs'.2 b (Nat.ne_of_lt (Nat.lt_of_lt_of_le (Heap.lt_size e) fr.above))).trans e1)
    have := F.ext b o e
    rw [q, hC] at this; cases this
  · have c1 := cll.sameBut hs' (Nat.le_refl _)
    exact ⟨fun n c e => (c1.cell n c e).sameBut hs'' (hCcell n c e), c1.apart, c1.above⟩
  · rcases List.mem_cons.mp hx with q | q
    · cases q
      exact .inl ⟨hy, _, _, hn2, by simp, rr r.any⟩
    · have hne := hno _ q
      rcases var x e q with ⟨hl, m₁, v₁, hn₁, hm₁, r₁⟩ | ⟨hl, c, v₁, hc, hv, r₁⟩
      · refine .inl ⟨hl, _, v₁, hn2, ?_, rr r₁⟩
        have : mm x = m₁ x := by
          obtain ⟨o, es, ep, e1, e2, _, e3⟩ := fr.ns
          obtain ⟨o', es', ep', e1', e2', _, e3'⟩ := hn₁
          rw [show hh.get? env.locals = some o from e1] at e1'; cases e1'
          rw [e2] at e2'; cases e2'
          rw [← e3, ← e3']
        simp only [show ¬ x = y from hne, if_false]
        rw [this]; exact hm₁
      · have c1 := cll.sameBut hs' (Nat.le_refl _)
        exact .inr ⟨hl, c, v₁, hc, (hv.sameBut hs' (Nat.ne_of_gt (cll.above x c (mem_of_lookup hc)))).sameBut hs'' (hCcell x c hc), rr r₁⟩

/-- what a call of an own def gives: a value made of new things alone -/
def Fn (prog : Program) (w : World) (A : Around) (h : Heap) (a : Addr) (ds : List D) (d : D) : Prop :=
  ∀ (s : Shared) (E : Value → Shared → Prop) (vs : List Value), Ext h s.heap → Reps s.heap ds vs → wpAny (model prog w) A (call (.ref a) vs) (fun v s' => Keeps s s' ∧ RepP (fun x => s.heap.get? x = none) s'.heap d v) E s
theorem val_fn {h : Heap} {env : Env} {f : Str} {np pos : Pos} {e : Expr} {rest : List Expr} {ds : List D} {d : D} {a : Addr} {o : Obj} {fd : FuncData} (g : Glb prog w A h env f (.ref a)) (ho : h.get? a = some o) (hd : o.data = .func fd) (x : Vals prog w A h env (e :: rest) ds)
    (z : Fn prog w A h a ds d) (he : starEach (e :: rest) env = (false, eval e env) :: starEach rest env := by rfl) : Val prog w A h env (.Call (.Name f np) (e :: rest) [] pos) d :=
  val_call_f g ho hd x (fun s s₀ E vs e₁ k₁ r₁ => wpAny_mono (z s E vs e₁ r₁.any) (fun v s' q => ⟨q.1, q.2.imp fun a n => .inr (by
    cases e : s₀.heap.get? a with
    | none => rfl
    | some o => rw [keeps_ext k₁ _ _ e] at n; cases n)⟩) fun _ _ e => e) he

theorem vars_of_binds {env : Env} {h : Heap} {P : Addr → Prop} : ∀ (xs : List Str) (ds : List D) (vs : List Value) (m cm : Str → Option Value), xs.Nodup → xs.length = ds.length → RepsP P h ds vs →
    (∀ x ∈ xs, env.kindOf x = some .local ∨ (env.kindOf x = some .cell ∧ (env.cells.lookup x).isSome = true)) →
    (∀ x v, bindL env.kindOf (xs.zip vs) m x = some v → env.kindOf x = some .local → True) →
    (∀ x d, (x, d) ∈ xs.zip ds → ∃ v, Rep h d v ∧ (env.kindOf x = some .local → bindL env.kindOf (xs.zip vs) m x = some v) ∧ (env.kindOf x ≠ some .local → bindC env.kindOf (xs.zip vs) cm x = some v))
  | [], _, _, _, _, _, _, _, _, _, x, d, hx => by simp at hx
  | y :: xs, [], _, _, _, _, hl, _, _, _, x, d, hx => by simp at hl
  | y :: xs, e :: ds, _, m, cm, hnd, hl, ⟨v, vs, e1, rv, rr⟩, hk, ht, x, d, hx => by
    subst e1
    have hL : ∀ (xs : List Str) (vs : List Value) (m : Str → Option Value), y ∉ xs → bindL env.kindOf (xs.zip vs) m y = m y := by
      intro xs
      induction xs with
      | nil => intro vs m _; rfl
      | cons z xs ih =>
        intro vs m hm
        cases vs with
        | nil => rfl
        | cons u vs =>
          simp only [List.mem_cons, not_or] at hm
          simp only [List.zip_cons_cons, bindL]
          rw [ih vs _ hm.2]
          split
          · exact if_neg hm.1
          · rfl
    have hC : ∀ (xs : List Str) (vs : List Value) (m : Str → Option Value), y ∉ xs → bindC env.kindOf (xs.zip vs) m y = m y := by
      intro xs
      induction xs with
      | nil => intro vs m _; rfl
      | cons z xs ih =>
        intro vs m hm
        cases vs with
        | nil => rfl
        | cons u vs =>
          simp only [List.mem_cons, not_or] at hm
          simp only [List.zip_cons_cons, bindC]
          rw [ih vs _ hm.2]
          split
          · rfl
          · exact if_neg hm.1
    simp only [List.nodup_cons] at hnd
    simp only [List.zip_cons_cons, List.mem_cons, Prod.mk.injEq] at hx
    rcases hx with ⟨rfl, rfl⟩ | hx
    · refine ⟨v, rv.any, fun hl => ?_, fun hl => ?_⟩
      · simp only [List.zip_cons_cons, bindL, if_pos hl]; rw [hL _ _ _ hnd.1]; simp
      · simp only [List.zip_cons_cons, bindC, if_neg hl]; rw [hC _ _ _ hnd.1]; simp
    · exact vars_of_binds xs ds vs _ _ hnd.2 (by simpa using hl) rr (fun x hx => hk x (.tail _ hx)) (fun _ _ _ _ => trivial) x d hx

theorem fn_call {h : Heap} {a : Addr} {o : Obj} {name : Str} {params : Arguments} {body : List Stmt} {scope : Scope} {pm cd doc : Value} {ds : List D} {d : D} (xs : List Str)
    (ho : h.get? a = some o) (hdata : o.data = .func (Calls.docDef name params body scope pm cd doc)) (hlim : h.NoLimit) (hcd : h.CodeRec cd name) (hroom : A.depth < recursionLimit)
    (hbind : ∀ vs : List Value, vs.length = ds.length → bindArgs (Calls.docDef name params body scope pm cd doc) ⟨vs, []⟩ = pure (xs.zip vs)) (hlen : xs.length = ds.length) (hnd : xs.Nodup)
    (hkind : ∀ L, ∀ x ∈ xs, (envOfC name scope L a cd).kindOf x = some .local ∨ ((envOfC name scope L a cd).kindOf x = some .cell ∧ ((envOfC name scope L a cd).cells.lookup x).isSome = true))
    (run : ∀ (s₀ s : Shared) L, Ext h s₀.heap → s₀.heap.NoLimit → Fm (envOfC name scope L a cd) s₀.heap s₀ s (xs.zip ds) →
      (∀ x d, (x, d) ∈ xs.zip ds → ∃ v, Bd (envOfC name scope L a cd) s.heap x v ∧ RepP (Dom s₀.heap) s₀.heap d v) → wpAny (model prog w) (A.deeper (envOfC name scope L a cd)) (execs body (envOfC name scope L a cd))
      (fun f s' => ∃ v, f = .ret v ∧ (∃ h' tk, s' = { s₀ with heap := h', toks := tk } ∧ Ext s₀.heap h') ∧ RepP (fun x => s₀.heap.get? x = none) s'.heap d v) (fun _ _ => False) s)
    (hco : scope.isCoroutine = false := by rfl) (hgen : scope.isGenerator = false := by rfl) (hk : scope.kind = .function := by rfl) : Fn prog w A h a ds d := fun s E vs e r => by
  refine wpAny_call ?_
  refine call_cells_ret hroom (e _ _ ho) hdata (hlim.keeps e) (hcd.keeps e) (hbind vs r.length) (fun x hx => ?_) (fun h₁ tk F X => ?_) hco hgen hk
  · exact hkind _ x.1 (List.of_mem_zip (a := x.1) (b := x.2) hx).1
  · have hx : Ext s.heap h₁ := fun b o q => F.keep b o q
    have key : ∀ x d, (x, d) ∈ xs.zip ds → ∃ v, Bd (envOfC name scope s.heap.objs.size a cd) h₁ x v ∧ RepP (Dom s.heap) s.heap d v := fun x d' hx' => by
      obtain ⟨v, rv, h1, h2⟩ := vars_of_binds (env := envOfC name scope s.heap.objs.size a cd) (h := s.heap) xs ds vs (fun _ => none) (fun _ => none) hnd hlen r (hkind _) (fun _ _ _ _ => trivial) x d' hx'
      have hmem : x ∈ xs := (List.of_mem_zip hx').1
      have rv' : RepP (Dom s.heap) s.heap d' v := rv.dom.imp fun a q => q.2.1
      rcases hkind s.heap.objs.size x hmem with q | ⟨q, q'⟩
      · exact ⟨v, .inl ⟨q, _, F.ns, h1 q⟩, rv'⟩
      · obtain ⟨c, hc⟩ := Option.isSome_iff_exists.mp q'
        refine ⟨v, .inr ⟨q, c, hc, ?_⟩, rv'⟩
        have := X.cell x c hc
        rw [h2 (by rw [q]; decide)] at this
        exact this
    refine wpAny_mono (run s { s with heap := h₁, toks := tk } s.heap.objs.size e (hlim.keeps e) ⟨⟨h₁, tk, rfl⟩, ⟨_, F⟩, ⟨_, X⟩, fun x d' hx' => ?_⟩ key) (fun f s' q => ?_) fun _ _ x => x
    · obtain ⟨v, b, rv⟩ := key x d' hx'
      have r1 : Rep h₁ d' v := rv.any.ext hx
      exact b.imp (fun ⟨q, m, hn, hm⟩ => ⟨q, m, v, hn, hm, r1⟩) fun ⟨q, c, hc, hv⟩ => ⟨q, c, v, hc, hv, r1⟩
    · obtain ⟨v, rfl, ⟨h', tk', rfl, e'⟩, rv⟩ := q
      exact ⟨⟨h', tk', rfl, e'⟩, rv⟩
end
end Mine

namespace Mine
open PySem PySem.W PyProof.Rows PySem.Challenge

/-! the text's defs -/
def defAt (i : Nat) : Option Stmt := pw_ny0022_01.main.body[i]?
def bodyOf (i : Nat) : List Stmt := match defAt i with | some (.FunctionDef _ _ b _ _ _ _ _ _ _) => b | _ => []
def scopeOf (i : Nat) : Scope := match defAt i with | some (.FunctionDef _ _ _ _ _ _ s _ _ _) => s | _ => { kind := .function, names := [], isGenerator := false, isCoroutine := false, more := [] }
def paramsOf (i : Nat) : Arguments := match defAt i with | some (.FunctionDef _ a _ _ _ _ _ _ _ _) => a | _ => { posonlyargs := [], args := [], vararg := none, kwonlyargs := [], kw_defaults := [], kwarg := none, defaults := [] }

/-- a def of the text stands at a -/
def FnAt (h : Heap) (a : Addr) (i : Nat) (name : Str) (cd : Value) : Prop :=
  ∃ o pm doc, h.get? a = some o ∧ o.data = .func (Calls.docDef name (paramsOf i) (bodyOf i) (scopeOf i) pm cd doc) ∧ h.CodeRec cd name
theorem FnAt.ext {h h' : Heap} {a : Addr} {i : Nat} {name : Str} {cd : Value} (x : FnAt h a i name cd) (e : Ext h h') : FnAt h' a i name cd :=
  let ⟨o, pm, doc, ho, hd, hc⟩ := x; ⟨o, pm, doc, e _ _ ho, hd, hc.keeps e⟩

def defNames : List (Str × Value) := [("_c3_merge", .ref 19), ("_deduplicate", .ref 27), ("_law_way_up", .ref 41), ("_law_merged", .ref 46), ("_law_first", .ref 51), ("_law_last", .ref 56)]
def bootNames : List (Str × Value) := [("len", .builtin "len"), ("range", .type "range"), ("list", .type "list"), ("dict", .type "dict"), ("sorted", .builtin "sorted"), ("min", .builtin "min"), ("max", .builtin "max"), ("RuntimeError", .type "RuntimeError"), ("TypeError", .type "TypeError")]

/-- what the top left, as far as it is asked -/
structure Wd (h : Heap) : Prop where
  lim : h.NoLimit
  names : ∃ mg mb, h.Ns mainGlobals mg ∧ h.Ns builtinsNs mb ∧ (∀ x v, (x, v) ∈ defNames → mg x = some v) ∧ ∀ x v, (x, v) ∈ bootNames → mg x = none ∧ mb x = some v
  c3 : FnAt h 19 1 "_c3_merge" (.ref 18)
  up : FnAt h 41 6 "_law_way_up" (.ref 40)
  mer : FnAt h 46 7 "_law_merged" (.ref 45)
  fst : FnAt h 51 8 "_law_first" (.ref 50)
  lst : FnAt h 56 9 "_law_last" (.ref 55)
  law : FnAt h 61 10 "law" (.ref 60)
theorem Wd.ext {h h' : Heap} (x : Wd h) (e : Ext h h') : Wd h' :=
  ⟨x.lim.keeps e, let ⟨mg, mb, a, b, c⟩ := x.names; ⟨mg, mb, a.keeps e, b.keeps e, c⟩, x.c3.ext e, x.up.ext e, x.mer.ext e, x.fst.ext e, x.lst.ext e, x.law.ext e⟩

section
variable {prog : Program} {w : World} {A : Around}
theorem Wd.def {h : Heap} {env : Env} (W : Wd h) {x : Str} {v : Value} (hm : (x, v) ∈ defNames) (hx : env.kindOf x = some .globalImplicit) (hk : env.scope.kind = .function) (hg : env.globals = mainGlobals) (hd : (x == ("__debug__" : Str)) = false := by decide) : Glb prog w A h env x v := by
  obtain ⟨mg, mb, a, b, c, _⟩ := W.names
  exact glb_def (hg ▸ a) (c x v hm) hx hk hd
theorem Wd.boot {h : Heap} {env : Env} (W : Wd h) {x : Str} {v : Value} (hm : (x, v) ∈ bootNames) (hx : env.kindOf x = some .globalImplicit) (hk : env.scope.kind = .function) (hg : env.globals = mainGlobals) (hb : env.builtins = builtinsNs) (hd : (x == ("__debug__" : Str)) = false := by decide) : Glb prog w A h env x v := by
  obtain ⟨mg, mb, a, b, _, c⟩ := W.names
  exact glb_boot (hg ▸ a) (c x v hm).1 (hb ▸ b) (c x v hm).2 hx hk hd

/-- ints are made of nothing -/
theorem ints_any {P Q : Addr → Prop} {h h' : Heap} : ∀ {l : List Int} {us : List Value}, RepsP P h (l.map D.int) us → RepsP Q h' (l.map D.int) us
  | [], us, r => r
  | a :: l, us, ⟨v, r, e, ⟨t, q⟩, b⟩ => ⟨v, r, e, ⟨t, q⟩, ints_any b⟩

/-! _law_way_up -/
/-- the way up: fuel, the tree, the node -/
def upF (above : List Int) : Nat → Int → List Int
  | 0, n => [n]
  | k + 1, n => if 0 < n then n :: upF above k (above.getD n.toNat 0) else [n]
def upL (above : List Int) (n : Int) : List Int := upF above n.toNat n
/-- every node but the root hangs below an elder one -/
def Tree (above : List Int) : Prop := ∀ i : Nat, 0 < i → i < above.length → 0 ≤ above.getD i 0 ∧ above.getD i 0 < i

theorem upF_stable (above : List Int) (ht : Tree above) : ∀ (k k' : Nat) (n : Int), n.toNat < above.length → n.toNat ≤ k → n.toNat ≤ k' → upF above k n = upF above k' n
  | 0, 0, n, _, _, _ => rfl
  | 0, k' + 1, n, _, h1, _ => by
    have : ¬ 0 < n := by omega
    simp [upF, this]
  | k + 1, 0, n, _, _, h1 => by
    have : ¬ 0 < n := by omega
    simp [upF, this]
  | k + 1, k' + 1, n, hl, h1, h2 => by
    by_cases hn : 0 < n
    · simp only [upF, hn, if_true]
      have := ht n.toNat (by omega) hl
      rw [upF_stable above ht k k' _ (by omega) (by omega) (by omega)]
    · simp [upF, hn]
theorem upL_pos {above : List Int} (ht : Tree above) {n : Int} (hn : 0 < n) (hl : n.toNat < above.length) : upL above n = n :: upL above (above.getD n.toNat 0) := by
  unfold upL
  obtain ⟨k, hk⟩ : ∃ k, n.toNat = k + 1 := ⟨n.toNat - 1, by omega⟩
  have := ht n.toNat (by omega) hl
  rw [hk, upF, if_pos hn, ← hk]
  rw [upF_stable above ht k (above.getD n.toNat 0).toNat _ (by omega) (by omega) (by omega)]
theorem upL_zero {above : List Int} {n : Int} (hn : n ≤ 0) : upL above n = [n] := by
  unfold upL
  have : n.toNat = 0 := by omega
  rw [this]; rfl
theorem upL_len {above : List Int} (ht : Tree above) : ∀ (k : Nat) (n : Int), n.toNat ≤ k → n.toNat < above.length → (upL above n).length ≤ n.toNat + 1 := by
  intro k
  induction k with
  | zero => intro n h1 _; rw [upL_zero (by omega)]; simp
  | succ k ih =>
    intro n h1 h2
    by_cases hn : 0 < n
    · rw [upL_pos ht hn h2]
      have := ht n.toNat (by omega) h2
      have := ih (above.getD n.toNat 0) (by omega) (by omega)
      simp only [List.length_cons]
      omega
    · rw [upL_zero (by omega)]; simp

abbrev upEnv (L : Addr) : Env := envOfC "_law_way_up" (scopeOf 6) L 41 (.ref 40)

theorem ns_unique {h : Heap} {a : Addr} {m m' : Str → Option Value} (x : h.Ns a m) (y : h.Ns a m') : m = m' := by
  obtain ⟨o, es, ep, e1, e2, _, e3⟩ := x
  obtain ⟨o', es', ep', e1', e2', _, e3'⟩ := y
  rw [e1] at e1'; cases e1'
  rw [e2] at e2'; cases e2'
  funext z
  rw [← e3, ← e3']
theorem bd_local {env : Env} {h : Heap} {x : Str} {v : Value} {m : Str → Option Value} (b : Bd env h x v) (hl : env.kindOf x = some .local) (hn : h.Ns env.locals m) : m x = some v := by
  rcases b with ⟨_, m', hn', hm⟩ | ⟨hc, _⟩
  · rw [ns_unique hn hn', hm]
  · rw [hl] at hc; cases hc
theorem Bd.ext {env : Env} {h h' : Heap} {x : Str} {v : Value} (b : Bd env h x v) (e : Ext h h') : Bd env h' x v :=
  b.imp (fun ⟨q, m, hn, hm⟩ => ⟨q, m, hn.keeps e, hm⟩) fun ⟨q, c, hc, hv⟩ => ⟨q, c, hc, hv.keeps e⟩
/-- a local's very value -/
theorem name_at {env : Env} {x : Str} {pos : Pos} {m : Str → Option Value} {v : Value} {s : Shared} {E : Value → Shared → Prop} {Q : Value → Shared → Prop} (hn : s.heap.Ns env.locals m) (hv : m x = some v) (h : Q v s) (hl : env.kindOf x = some .local := by rfl) (hk : env.scope.kind = .function := by rfl)
    (hd : (x == ("__debug__" : Str)) = false := by decide) : wpAny (model prog w) A (eval (.Name x pos) env) Q E s := wpAny_Name (wpAny_loadName_local hk hl hn hv h) hd

theorem fr_other {h₀ h h' : Heap} {L W : Addr} {m : Str → Option Value} (F : Fr h₀ L h m) (hs : Heap.SameBut W h h') (hL : L ≠ W) (hW : h₀.get? W = none) : Fr h₀ L h' m :=
  ⟨F.ns.sameBut hs hL, fun b o e => hs.extBut b o (fun q => by rw [q, hW] at e; cases e) (F.keep b o e), F.above⟩

def UpAt (s₀ : Shared) (L : Addr) (above : List Int) (s : Shared) (p : List Int) (cur : Int) : Prop :=
  ∃ h' tk m W, ∃ vs : Array Value, ∃ n va, s = { s₀ with heap := h', toks := tk } ∧ Fr s₀.heap L h' m ∧ m "above" = some va ∧ m "way" = some (.ref W) ∧ h'.get? W = some (lst vs n) ∧ s₀.heap.get? W = none ∧
    Reps h' ((p ++ [cur]).map D.int) vs.toList ∧ RepP (Dom s₀.heap) s₀.heap (dInts above) va

theorem way_body {s₀ s : Shared} {L : Addr} (hh : A.handled = none) {above : List Int} {node : Int} (ht : Tree above) (h0 : 0 ≤ node) (hl : node.toNat < above.length) (hlen : above.length ≤ 100)
    (F : Fm (upEnv L) s₀.heap s₀ s [("node", .int node), ("above", dInts above)]) (ha : ∃ v, Bd (upEnv L) s.heap "above" v ∧ RepP (Dom s₀.heap) s₀.heap (dInts above) v) :
    wpAny (model prog w) (A.deeper (upEnv L)) (execs (bodyOf 6) (upEnv L))
      (fun f s' => ∃ v, f = .ret v ∧ (∃ h' tk, s' = { s₀ with heap := h', toks := tk } ∧ Ext s₀.heap h') ∧ RepP (fun x => s₀.heap.get? x = none) s'.heap (dInts (upL above node)) v) (fun _ _ => False) s := by
  have hk : (upEnv L).scope.kind = .function := rfl
  refine wpAny_execs_cons ?_
  refine wpAny_Assign_Name (wpAny_List ?_) (by rfl)
  refine (vals_cons (val_var (F.var "node" (.int node) (by simp)) hk) vals_nil).use (Ext.refl _) fun vs s₁ k₁ e₁ r₁ => ⟨by rw [r₁.length]; exact (by decide : 1 ≤ sizeLine), ?_⟩
  -- the list
  obtain ⟨v, b, ra⟩ := ha
  obtain ⟨⟨hs, tks, rfl⟩, ⟨m, fr⟩, cl, var⟩ := F.keeps k₁
  have b₁ : m "above" = some v := bd_local (b.ext (keeps_ext k₁)) (by rfl) fr.ns
  have hW : s₀.heap.get? hs.objs.size = none := none_of_ext fun b o q => fr.keep b o q
  have fr' : Fr s₀.heap L (hs.push { cls := .type "list", data := .seq vs.toArray }) m := fr.push _
  refine wpAny_storeName_local (by rfl) fr'.ns (fun h₂ hn₂ hs₂ => ?_) (by rfl)
  have fr₂ := fr'.set hn₂ hs₂
  have hWL : hs.objs.size ≠ L := fun q => by
    have := fr.ns.lt
    rw [← q] at this
    exact Nat.lt_irrefl _ this
  have start : UpAt s₀ L above { s₀ with heap := h₂, toks := tks + 1 } [] node := by
    refine ⟨h₂, _, _, hs.objs.size, vs.toArray, 0, v, rfl, fr₂, ?_, ?_, hs₂.extBut _ _ hWL (Heap.get?_push_size _ rfl), hW, ?_, ra⟩
    · rw [if_neg (by decide)]; exact b₁
    · simp
    · obtain ⟨u, r, rfl, ⟨t, rfl⟩, rfl⟩ := r₁
      exact ⟨_, [], rfl, ⟨t, rfl⟩, rfl⟩
  refine wpAny_execs_cons (wpAny_While ?_)
  refine codeAny_whileLoop (fun k s' => ∃ p cur, UpAt s₀ L above s' p cur ∧ p ++ upL above cur = upL above node ∧ 0 ≤ cur ∧ cur.toNat < above.length ∧ cur.toNat = k) ?_ node.toNat ⟨[], node, start, rfl, h0, hl, rfl⟩
  rintro k s₅ ⟨p, cur, ⟨h', tk, m', W, vs', n, va, rfl, fr', ma, mw, hg, hW, rr, ra⟩, hp, hc0, hcl, rfl⟩
  have hple : (p ++ [cur]).length ≤ LIM := by
    have l1 := congrArg List.length hp
    have l2 := upL_len ht node.toNat node (Nat.le_refl _) hl
    have l3 : 0 < (upL above cur).length := by
      by_cases hc : 0 < cur
      · rw [upL_pos ht hc hcl]; simp
      · rw [upL_zero (by omega)]; simp
    simp only [List.length_append, List.length_singleton] at l1 ⊢
    have : node.toNat + 1 ≤ 100 := by omega
    show _ ≤ 1000
    omega
  have rw' : Rep h' (dInts (p ++ [cur])) (.ref W) := ⟨by simpa using hple, W, vs', n, rfl, trivial, hg, rr⟩
  have vw : ∀ pos, Val prog w (A.deeper (upEnv L)) h' (upEnv L) (.Name "way" pos) (dInts (p ++ [cur])) := fun pos => val_local fr'.ns mw rw' (by rfl) hk
  have va' : ∀ pos, Val prog w (A.deeper (upEnv L)) h' (upEnv L) (.Name "above" pos) (dInts above) := fun pos => val_local fr'.ns ma (ra.any.ext fun b o q => fr'.keep b o q) (by rfl) hk
  have vc : ∀ p1 p2 p3 p4, Val prog w (A.deeper (upEnv L)) h' (upEnv L) (.Subscript (.Name "way" p1) (.UnaryOp .USub (.Constant (.int 1) 0 p2) p3) p4) (.int cur) := fun _ _ _ _ =>
    val_last (vw _) (val_neg val_int) (by simp)
  refine (tst_gt (vc _ _ _ _) val_int).use (Ext.refl _) fun s₆ k₆ e₆ => ?_
  have hWd : W ≠ L := fun q => by
    have := ns_noseq fr'.ns _ vs' n (q ▸ hg)
    exact this rfl
  by_cases hcur : 0 < cur
  · rw [decide_eq_true hcur]
    simp only [if_true]
    have hx6 : Ext h' s₆.heap := keeps_ext k₆
    obtain ⟨h6, tk6, rfl, _⟩ := k₆
    refine wpAny_execs_cons (wpAny_Expr ?_ (by rfl) (by rfl))
    refine wpAny_Call_append (by rfl) (by rfl) (by rfl) (by rfl) ?_
    refine name_at (fr'.ns.keeps hx6) mw ⟨W, vs', rfl, ⟨_, n, hx6 _ _ hg, rfl, rfl, rfl⟩, ?_⟩
    have hget : (above.map D.int)[cur.toNat]? = some (.int (above.getD cur.toNat 0)) := by
      rw [List.getElem?_map, List.getD_eq_getElem?_getD, List.getElem?_eq_getElem hcl]; rfl
    refine Val.use (val_item (va' _) (vc _ _ _ _) hc0 hget) hx6 fun v s₇ k₇ e₇ r₇ => ?_
    obtain ⟨t, rfl⟩ := r₇
    have hsz : vs'.size ≤ sizeLine := by
      rw [← Array.length_toList, rr.length, List.length_map]; exact lim_line hple
    have g7 : s₇.heap.get? W = some (lst vs' n) := e₇ _ _ hg
    refine wpAny_list_append_plain (hsz := hsz) ⟨n, g7⟩ fun h₈ ⟨n₈, g8⟩ hs₈ => ?_
    refine wpAny_execs_nil ?_
    obtain ⟨h7, tk7, rfl, hk7⟩ := k₇
    have hx7 : Ext h' h7 := fun b o q => hk7 b o (hx6 b o q)
    have hpar := ht cur.toNat (by omega) hcl
    refine ⟨_, ?_, p ++ [cur], above.getD cur.toNat 0, ⟨h₈, tk7, m', W, vs'.push (.int (above.getD cur.toNat 0) t), n₈, va, rfl, ?_, ma, mw, g8, hW, ?_, ra⟩, ?_, hpar.1, by omega, rfl⟩
    · omega
    · exact fr_other ⟨fr'.ns.keeps hx7, fun b o q => hx7 b o (fr'.keep b o q), fr'.above⟩ hs₈ hWd.symm hW
    · rw [List.map_append, Array.toList_push]
      refine RepsP.append ?_ ⟨_, [], rfl, ⟨t, rfl⟩, rfl⟩
      exact ints_any rr
    · rw [← hp, upL_pos ht hcur hcl, List.append_assoc]; rfl
  · rw [decide_eq_false hcur]
    simp only [Bool.false_eq_true, if_false]
    refine wpAny_execs_nil ?_
    obtain ⟨h6, tk6, rfl, hk6⟩ := k₆
    refine wpAny_execs_cons (wpAny_Return_some ?_)
    refine name_at (fr'.ns.keeps hk6) mw ?_
    refine ⟨_, rfl, ⟨h6, tk6, rfl, fun b o q => hk6 b o (fr'.keep b o q)⟩, ?_⟩
    rw [upL_zero (by omega)] at hp
    rw [← hp]
    exact ⟨by simpa using hple, W, vs', n, rfl, hW, hk6 _ _ hg, ints_any rr⟩

theorem way_up {h : Heap} (W : Wd h) (hroom : A.depth < recursionLimit) (hh : A.handled = none) {above : List Int} {node : Int} (ht : Tree above) (h0 : 0 ≤ node) (hl : node.toNat < above.length) (hlen : above.length ≤ 100) :
    Fn prog w A h 41 [.int node, dInts above] (dInts (upL above node)) := by
  obtain ⟨o, pm, doc, ho, hd, hc⟩ := W.up
  refine fn_call ["node", "above"] ho hd W.lim hc hroom ?_ rfl (by decide) ?_ ?_ (by rfl) (by rfl) (by rfl)
  · intro vs hvs
    match vs, hvs with
    | [a, b], _ => rfl
  · intro L x hx
    simp only [List.mem_cons, List.not_mem_nil, or_false] at hx
    rcases hx with rfl | rfl
    · exact .inl (by rfl)
    · exact .inl (by rfl)
  · intro s₀ s L e lim F args
    exact way_body hh ht h0 hl hlen F (args "above" (dInts above) (by simp [List.zip_cons_cons]))
end
end Mine

namespace Mine
open PySem PySem.W PyProof.Rows PySem.Challenge

def minI : List Int → Int
  | [] => 0
  | a :: l => l.foldl (fun m x => if x < m then x else m) a
def maxI : List Int → Int
  | [] => 0
  | a :: l => l.foldl (fun m x => if m < x then x else m) a

theorem best_min (l : List Int) : ∀ k, k < l.length → l.getD (argBest (fun i j => decide (l.getD i 0 < l.getD j 0)) k) 0 = minI (l.take (k + 1)) ∧ argBest (fun i j => decide (l.getD i 0 < l.getD j 0)) k ≤ k := by
  intro k
  induction k with
  | zero =>
    intro h
    cases l with
    | nil => simp at h
    | cons a l => simp [argBest, minI]
  | succ k ih =>
    intro h
    obtain ⟨e, le⟩ := ih (by omega)
    have e2 : l.take (k + 1 + 1) = l.take (k + 1) ++ [l.getD (k + 1) 0] := by
      rw [List.take_add_one (i := k + 1), List.getD_eq_getElem?_getD, List.getElem?_eq_getElem h]; rfl
    have e3 : minI (l.take (k + 1) ++ [l.getD (k + 1) 0]) = if l.getD (k + 1) 0 < minI (l.take (k + 1)) then l.getD (k + 1) 0 else minI (l.take (k + 1)) := by
      cases l with
      | nil => simp at h
      | cons a l => simp only [List.take_succ_cons, List.cons_append, minI, List.foldl_append, List.foldl_cons, List.foldl_nil]; rfl
    rw [e2, e3]
    simp only [argBest]
    by_cases hlt : l.getD (k + 1) 0 < l.getD (argBest (fun i j => decide (l.getD i 0 < l.getD j 0)) k) 0
    · rw [if_pos (by simpa using hlt)]
      rw [e] at hlt
      rw [if_pos hlt]
      exact ⟨rfl, Nat.le_refl _⟩
    · rw [if_neg (by simpa using hlt)]
      have hlt' := hlt
      rw [e] at hlt'
      rw [if_neg hlt', e]
      exact ⟨rfl, Nat.le_succ_of_le le⟩
theorem best_max (l : List Int) : ∀ k, k < l.length → l.getD (argBest (fun i j => decide (l.getD j 0 < l.getD i 0)) k) 0 = maxI (l.take (k + 1)) ∧ argBest (fun i j => decide (l.getD j 0 < l.getD i 0)) k ≤ k := by
  intro k
  induction k with
  | zero =>
    intro h
    cases l with
    | nil => simp at h
    | cons a l => simp [argBest, maxI]
  | succ k ih =>
    intro h
    obtain ⟨e, le⟩ := ih (by omega)
    have e2 : l.take (k + 1 + 1) = l.take (k + 1) ++ [l.getD (k + 1) 0] := by
      rw [List.take_add_one (i := k + 1), List.getD_eq_getElem?_getD, List.getElem?_eq_getElem h]; rfl
    have e3 : maxI (l.take (k + 1) ++ [l.getD (k + 1) 0]) = if maxI (l.take (k + 1)) < l.getD (k + 1) 0 then l.getD (k + 1) 0 else maxI (l.take (k + 1)) := by
      cases l with
      | nil => simp at h
      | cons a l => simp only [List.take_succ_cons, List.cons_append, maxI, List.foldl_append, List.foldl_cons, List.foldl_nil]; rfl
    rw [e2, e3]
    simp only [argBest]
    by_cases hlt : l.getD (argBest (fun i j => decide (l.getD j 0 < l.getD i 0)) k) 0 < l.getD (k + 1) 0
    · rw [if_pos (by simpa using hlt)]
      rw [e] at hlt
      rw [if_pos hlt]
      exact ⟨rfl, Nat.le_refl _⟩
    · rw [if_neg (by simpa using hlt)]
      have hlt' := hlt
      rw [e] at hlt'
      rw [if_neg hlt', e]
      exact ⟨rfl, Nat.le_succ_of_le le⟩

section
variable {prog : Program} {w : World} {A : Around} {h : Heap} {env : Env}
theorem ints_get {P : Addr → Prop} {H : Heap} {l : List Int} {vs : List Value} (r : RepsP P H (l.map D.int) vs) {i : Nat} {v : Value} (e : vs[i]? = some v) : i < l.length ∧ ∃ t, v = .int (l.getD i 0) t := by
  obtain ⟨d, hd, t, rfl⟩ : ∃ d, (l.map D.int)[i]? = some d ∧ ∃ t, v = .int (l.getD i 0) t := by
    obtain ⟨d, hd, rd⟩ := r.get' e
    rw [List.getElem?_map] at hd
    cases q : l[i]? with
    | none => rw [q] at hd; simp at hd
    | some x =>
      rw [q] at hd
      simp only [Option.map_some, Option.some.injEq] at hd
      subst hd
      obtain ⟨t, rfl⟩ := rd
      exact ⟨.int x, by rw [List.getElem?_map, q]; rfl, t, by rw [List.getD_eq_getElem?_getD, q]; rfl⟩
  exact ⟨by have := (List.getElem?_eq_some_iff.mp hd).1; simpa using this, t, rfl⟩

theorem val_min {f : Str} {np pos : Pos} {e : Expr} {l : List Int} (hh : A.handled = none) (g : Glb prog w A h env f (.builtin "min")) (x : Val prog w A h env e (dInts l)) (hl : l ≠ [])
    (he : starEach (e :: []) env = (false, eval e env) :: starEach [] env := by rfl) : Val prog w A h env (.Call (.Name f np) [e] [] pos) (.int (minI l)) :=
  val_call_b g (vals_cons x vals_nil he) (fun s s₀ E vs e₁ k₁ => by
    rintro ⟨v, r, rfl, ⟨hle, a, vs, n, rfl, _, g, r'⟩, rfl⟩
    have hL : s.heap.IsList a vs := ⟨_, g, rfl, n, rfl⟩
    have hne : a ≠ s.heap.objs.size := Nat.ne_of_lt (Heap.lt_size g)
    have hsz : vs.size = l.length := by rw [← Array.length_toList, r'.length, List.length_map]
    have hpos : 0 < l.length := List.length_pos_iff.mpr hl
    refine call_min_walk (wpAny_pyIter_list hL ?_)
    have W := Walks.list (prog := prog) (w := w) (A := A.in1) hh s.heap.objs.size a hne vs
    refine ⟨_, _, _, _, _, _, fun i j => decide (l.getD i 0 < l.getD j 0), rfl, W, ⟨⟨_, Heap.get?_push_size _ rfl, rfl, rfl⟩, hL.push _⟩, ?_, by omega, ?_, ?_⟩
    · intro b hb
      have := Heap.lt_size g
      simp only [List.mem_cons, List.not_mem_nil, or_false] at hb
      rw [Heap.size_push]
      rcases hb with rfl | rfl
      · exact Nat.lt_succ_self _
      · exact Nat.lt_succ_of_lt this
    · intro i j vi vj s' Q E' hi hj hQ
      rw [← Array.getElem?_toList] at hi hj
      obtain ⟨_, t, rfl⟩ := ints_get r' hi
      obtain ⟨_, t', rfl⟩ := ints_get r' hj
      exact PyProof.Rows.lt_int hQ
    · intro v h' tk hv hk
      rw [← Array.getElem?_toList] at hv
      obtain ⟨_, t, rfl⟩ := ints_get r' hv
      refine ⟨⟨h', tk, rfl, fun b o q => hk b o (fun hm => ?_) (Heap.get?_push_of_some _ q)⟩, t, ?_⟩
      · rw [List.mem_singleton.mp hm] at q
        exact absurd (Heap.lt_size q) (Nat.lt_irrefl _)
      · have := (best_min l (vs.size - 1) (by omega)).1
        rw [this, List.take_of_length_le (by omega)]) he
theorem val_max {f : Str} {np pos : Pos} {e : Expr} {l : List Int} (hh : A.handled = none) (g : Glb prog w A h env f (.builtin "max")) (x : Val prog w A h env e (dInts l)) (hl : l ≠ [])
    (he : starEach (e :: []) env = (false, eval e env) :: starEach [] env := by rfl) : Val prog w A h env (.Call (.Name f np) [e] [] pos) (.int (maxI l)) :=
  val_call_b g (vals_cons x vals_nil he) (fun s s₀ E vs e₁ k₁ => by
    rintro ⟨v, r, rfl, ⟨hle, a, vs, n, rfl, _, g, r'⟩, rfl⟩
    have hL : s.heap.IsList a vs := ⟨_, g, rfl, n, rfl⟩
    have hne : a ≠ s.heap.objs.size := Nat.ne_of_lt (Heap.lt_size g)
    have hsz : vs.size = l.length := by rw [← Array.length_toList, r'.length, List.length_map]
    have hpos : 0 < l.length := List.length_pos_iff.mpr hl
    refine call_max_walk (wpAny_pyIter_list hL ?_)
    have W := Walks.list (prog := prog) (w := w) (A := A.in1) hh s.heap.objs.size a hne vs
    refine ⟨_, _, _, _, _, _, fun i j => decide (l.getD j 0 < l.getD i 0), rfl, W, ⟨⟨_, Heap.get?_push_size _ rfl, rfl, rfl⟩, hL.push _⟩, ?_, by omega, ?_, ?_⟩
    · intro b hb
      have := Heap.lt_size g
      simp only [List.mem_cons, List.not_mem_nil, or_false] at hb
      rw [Heap.size_push]
      rcases hb with rfl | rfl
      · exact Nat.lt_succ_self _
      · exact Nat.lt_succ_of_lt this
    · intro i j vi vj s' Q E' hi hj hQ
      rw [← Array.getElem?_toList] at hi hj
      obtain ⟨_, t, rfl⟩ := ints_get r' hi
      obtain ⟨_, t', rfl⟩ := ints_get r' hj
      exact PyProof.Rows.gt_int hQ
    · intro v h' tk hv hk
      rw [← Array.getElem?_toList] at hv
      obtain ⟨_, t, rfl⟩ := ints_get r' hv
      refine ⟨⟨h', tk, rfl, fun b o q => hk b o (fun hm => ?_) (Heap.get?_push_of_some _ q)⟩, t, ?_⟩
      · rw [List.mem_singleton.mp hm] at q
        exact absurd (Heap.lt_size q) (Nat.lt_irrefl _)
      · have := (best_max l (vs.size - 1) (by omega)).1
        rw [this, List.take_of_length_le (by omega)]) he
theorem val_max2 {f : Str} {np pos : Pos} {e₁ e₂ : Expr} {a b : Int} (hh : A.handled = none) (g : Glb prog w A h env f (.builtin "max")) (x : Val prog w A h env e₁ (.int a)) (y : Val prog w A h env e₂ (.int b))
    (he : starEach (e₁ :: [e₂]) env = (false, eval e₁ env) :: starEach [e₂] env := by rfl) (he₂ : starEach (e₂ :: []) env = (false, eval e₂ env) :: starEach [] env := by rfl) (hplain : ∀ pos, (backTo pos (starEach [e₂] env)).any (·.1) = false := by intro _; rfl) :
    Val prog w A h env (.Call (.Name f np) [e₁, e₂] [] pos) (.int (maxI [a, b])) :=
  val_call_b g (vals_cons x (vals_cons y vals_nil he₂) he) (fun s s₀ E vs e₁ k₁ => by
    rintro ⟨v, r, rfl, ⟨t, rfl⟩, v', r', rfl, ⟨t', rfl⟩, rfl⟩
    have hT : (s.heap.push { cls := .type "tuple", data := .seq #[.int a t, .int b t'] }).IsTuple s.heap.objs.size #[.int a t, .int b t'] := ⟨_, Heap.get?_push_size _ rfl, rfl, 0, rfl⟩
    refine call_max_two (wpAny_pyIter_tuple hT ?_)
    have hne : s.heap.objs.size ≠ (s.heap.push { cls := .type "tuple", data := .seq #[.int a t, .int b t'] }).objs.size := by rw [Heap.size_push]; exact Nat.ne_of_lt (Nat.lt_succ_self _)
    have W := Walks.tuple (prog := prog) (w := w) (A := A.in1) hh (s.heap.push { cls := .type "tuple", data := .seq #[.int a t, .int b t'] }).objs.size s.heap.objs.size hne #[.int a t, .int b t']
    have rr : RepsP Any s.heap ([a, b].map D.int) [.int a t, .int b t'] := ⟨_, _, rfl, ⟨t, rfl⟩, _, _, rfl, ⟨t', rfl⟩, rfl⟩
    refine ⟨_, _, _, _, _, _, fun i j => decide (([a, b] : List Int).getD j 0 < ([a, b] : List Int).getD i 0), rfl, W, ⟨⟨_, Heap.get?_push_size _ rfl, rfl, rfl⟩, hT.push _⟩, ?_, Nat.zero_lt_succ _, ?_, ?_⟩
    · intro b hb
      simp only [List.mem_cons, List.not_mem_nil, or_false] at hb
      rcases hb with rfl | rfl
      · simp only [Heap.size_push]; exact Nat.lt_succ_self _
      · simp only [Heap.size_push]; exact Nat.lt_succ_of_lt (Nat.lt_succ_self _)
    · intro i j vi vj s' Q E' hi hj hQ
      rw [← Array.getElem?_toList] at hi hj
      obtain ⟨_, u, rfl⟩ := ints_get rr hi
      obtain ⟨_, u', rfl⟩ := ints_get rr hj
      exact PyProof.Rows.gt_int hQ
    · intro v h' tk hv hk
      rw [← Array.getElem?_toList] at hv
      obtain ⟨_, u, rfl⟩ := ints_get rr hv
      refine ⟨⟨h', tk, rfl, fun b o q => hk b o (fun hm => ?_) (Heap.get?_push_of_some _ (Heap.get?_push_of_some _ q))⟩, u, ?_⟩
      · rw [List.mem_singleton.mp hm] at q
        have := Heap.lt_size q
        simp only [Heap.size_push] at this
        exact absurd (Nat.lt_of_succ_lt this) (Nat.lt_irrefl _)
      · have := (best_max [a, b] 1 (by simp)).1
        rw [show (#[Value.int a t, Value.int b t'] : Array Value).size - 1 = 1 from rfl, this]; rfl) he hplain
end
end Mine

namespace Mine
open PySem PySem.W PyProof.Rows PySem.Challenge

theorem flat_filter {α : Type} (c : α → D) (dec : D → α) (hdec : ∀ a, dec (c a) = a) (p : α → Bool) (g : α → D) (l : List α) :
    ((l.map c).flatMap fun d => if p (dec d) then [g (dec d)] else []) = (l.filter p).map g := by
  induction l with
  | nil => rfl
  | cons a l ih =>
    rw [List.map_cons, List.flatMap_cons, ih, hdec, List.filter_cons]
    cases p a <;> rfl

def deInt : D → Int
  | .int i => i
  | _ => 0
def deInts : D → List Int
  | .list l => l.map deInt
  | _ => []
theorem deInts_dInts (l : List Int) : deInts (dInts l) = l := by
  unfold deInts dInts
  simp only [List.map_map]
  exact (List.map_congr_left (fun a _ => rfl)).trans (List.map_id l)

section
variable {prog : Program} {w : World} {A : Around} {h : Heap} {env : Env}
theorem src_rangeN {f g : Str} {np np' pos pos' : Pos} {e : Expr} {l : List D} {n : Nat} (hh : A.handled = none) (gr : Glb prog w A h env f (.type "range")) (gl : Glb prog w A h env g (.builtin "len")) (x : Val prog w A h env e (.list l)) (hl : l.length ≤ LIM) (hn : l.length = n)
    (he : starEach (e :: []) env = (false, eval e env) :: starEach [] env := by rfl) :
    Src prog w A h env (.Call (.Name f np) [.Call (.Name g np') [e] [] pos'] [] pos) ((List.range n).map fun (i : Nat) => D.int (i : Int)) := hn ▸ src_range hh gr gl x hl he
theorem vr_free {scope : Scope} {cl : List (Str × Addr)} {C : Addr} {x : Str} {d : D} (v : Vr env h x d) (hk : env.kindOf x = some .cell) (hc : (compEnvC scope cl C env).kindOf x = some .cell) (hl : cl.lookup x = env.cells.lookup x) : Vr (compEnvC scope cl C env) h x d := by
  rcases v with ⟨q, _⟩ | ⟨q, c, v, e, hv, r⟩
  · rw [hk] at q; cases q
  · exact .inr ⟨hc, c, v, hl.trans e, hv, r⟩
theorem vr_bound {scope : Scope} {cl : List (Str × Addr)} {C : Addr} {x : Str} {d : D} {bs : List (Str × D)} (b : Bound h C bs) (hm : (x, d) ∈ bs) (hc : (compEnvC scope cl C env).kindOf x = some .local) : Vr (compEnvC scope cl C env) h x d := by
  obtain ⟨m, hn, hb⟩ := b
  obtain ⟨v, e, r⟩ := hb x d hm
  exact .inl ⟨hc, m, v, hn, e, r⟩

theorem val_compA {elt target iter : Expr} {ifs : List Expr} {scope : Scope} {cl : List (Str × Addr)} {pos : Pos} {α : Type} (l : List α) (c : α → D) (dec : D → α) (hdec : ∀ a, dec (c a) = a) (p : α → Bool) (g : α → D) (bs : α → List (Str × D))
    (src : Src prog w A h env iter (l.map c)) (hclos : closureFor scope env = pure cl) (hlen : l.length ≤ LIM)
    (bd : ∀ C a, a ∈ l → Bnd prog w A (compEnvC scope cl C env) target (c a) (bs a))
    (ht : ∀ C a h', a ∈ l → h.get? C = none → Ext h h' → Bound h' C (bs a) → Tsts prog w A h' (compEnvC scope cl C env) ifs (p a))
    (hv : ∀ C a h', a ∈ l → h.get? C = none → p a = true → Ext h h' → Bound h' C (bs a) → Val prog w A h' (compEnvC scope cl C env) elt (g a))
    (hcell : ∀ y ∈ scope.names, y.2 ≠ .cell := by decide) (hkind : scope.kind = .function := by rfl) (hnames : ∀ y ∈ scope.names, y.2 = .local → scope.names.lookup y.1 = some .local := by decide)
    (hs : ∀ x, foldedSetIterable iter env x = pure x := by intro _; rfl) :
    Val prog w A h env (.ListComp elt [⟨target, iter, ifs, 0⟩] scope pos) (.list ((l.filter p).map g)) := by
  have e := flat_filter c dec hdec p g l
  rw [← e]
  have mem : ∀ d ∈ l.map c, ∃ a ∈ l, d = c a := fun d hd => by obtain ⟨a, ha, q⟩ := List.mem_map.mp hd; exact ⟨a, ha, q.symm⟩
  refine val_comp (fun d => p (dec d)) (fun d => g (dec d)) (fun d => bs (dec d)) src hclos ?_ ?_ ?_ ?_ hcell hkind hnames hs
  · rw [e, List.length_map]; exact Nat.le_trans (List.length_filter_le _ _) hlen
  · intro C d hd
    obtain ⟨a, ha, rfl⟩ := mem d hd
    rw [hdec]; exact bd C a ha
  · intro C d h' hd hC hx hb
    obtain ⟨a, ha, rfl⟩ := mem d hd
    rw [hdec] at hb ⊢; exact ht C a h' ha hC hx hb
  · intro C d h' hd hC hp hx hb
    obtain ⟨a, ha, rfl⟩ := mem d hd
    rw [hdec] at hb hp ⊢; exact hv C a h' ha hC hp hx hb

theorem Fm.assign_compA {h₀ : Heap} {s₀ s : Shared} {ρ : List (Str × D)} {y : Str} {py spos : Pos} {E : Value → Shared → Prop} {Q : Flow → Shared → Prop} (F : Fm env h₀ s₀ s ρ) {elt target iter : Expr} {ifs : List Expr} {scope : Scope} {cl : List (Str × Addr)} {pos : Pos}
    {α : Type} (l : List α) (c : α → D) (dec : D → α) (hdec : ∀ a, dec (c a) = a) (p : α → Bool) (g : α → D) (bs : α → List (Str × D))
    (hy : env.kindOf y = some .local) (hno : ∀ p ∈ ρ, p.1 ≠ y)
    (src : Src prog w A s.heap env iter (l.map c)) (hclos : closureFor scope env = pure cl) (hlen : l.length ≤ LIM)
    (bd : ∀ C a, a ∈ l → Bnd prog w A (compEnvC scope cl C env) target (c a) (bs a))
    (ht : ∀ C a h', a ∈ l → s.heap.get? C = none → Ext s.heap h' → Bound h' C (bs a) → Tsts prog w A h' (compEnvC scope cl C env) ifs (p a))
    (hv : ∀ C a h', a ∈ l → s.heap.get? C = none → p a = true → Ext s.heap h' → Bound h' C (bs a) → Val prog w A h' (compEnvC scope cl C env) elt (g a))
    (hsw : swapsWith (.ListComp elt [⟨target, iter, ifs, 0⟩] scope pos) (some (.Name y py)) spos.line env = pure true)
    (h : ∀ s', Fm env h₀ s₀ s' ((y, .list ((l.filter p).map g)) :: ρ) → Q .next s') (hk : env.scope.kind = .function := by rfl)
    (hcell : ∀ y ∈ scope.names, y.2 ≠ .cell := by decide) (hkind : scope.kind = .function := by rfl) (hnames : ∀ y ∈ scope.names, y.2 = .local → scope.names.lookup y.1 = some .local := by decide)
    (hs : ∀ x, foldedSetIterable iter env x = pure x := by intro _; rfl) :
    wpAny (model prog w) A (exec (.Assign [.Name y py] (.ListComp elt [⟨target, iter, ifs, 0⟩] scope pos) spos) env) Q E s := by
  have e := flat_filter c dec hdec p g l
  rw [← e] at h
  have mem : ∀ d ∈ l.map c, ∃ a ∈ l, d = c a := fun d hd => by obtain ⟨a, ha, q⟩ := List.mem_map.mp hd; exact ⟨a, ha, q.symm⟩
  refine F.assign_comp (fun d => p (dec d)) (fun d => g (dec d)) (fun d => bs (dec d)) hy hno src hclos ?_ ?_ ?_ ?_ h hk hsw hcell hkind hnames hs
  · rw [e, List.length_map]; exact Nat.le_trans (List.length_filter_le _ _) hlen
  · intro C d hd
    obtain ⟨a, ha, rfl⟩ := mem d hd
    rw [hdec]; exact bd C a ha
  · intro C d h' hd hC hx hb
    obtain ⟨a, ha, rfl⟩ := mem d hd
    rw [hdec] at hb ⊢; exact ht C a h' ha hC hx hb
  · intro C d h' hd hC hp hx hb
    obtain ⟨a, ha, rfl⟩ := mem d hd
    rw [hdec] at hb hp ⊢; exact hv C a h' ha hC hp hx hb

/-! _law_first, _law_last -/
def dWays (ways : List (List Int)) : D := .list (ways.map dInts)
def hits (node : Int) (ways : List (List Int)) : List Nat := (List.range ways.length).filter fun i => decide (node ∈ ways.getD i [])
def hitsI (node : Int) (ways : List (List Int)) : List Int := (hits node ways).map fun (i : Nat) => (i : Int)

abbrev fstEnv (L : Addr) : Env := envOfC "_law_first" (scopeOf 8) L 51 (.ref 50)
abbrev lstEnv (L : Addr) : Env := envOfC "_law_last" (scopeOf 9) L 56 (.ref 55)

theorem way_get {ways : List (List Int)} {i : Nat} (hi : i < ways.length) : (ways.map dInts)[((i : Nat) : Int).toNat]? = some (dInts (ways.getD i [])) := by
  rw [List.getElem?_map, Int.toNat_natCast, List.getD_eq_getElem?_getD, List.getElem?_eq_getElem hi]; rfl

theorem law_first {h : Heap} (W : Wd h) (hroom : A.depth < recursionLimit) (hh : A.handled = none) {ways : List (List Int)} {node : Int} (hlen : ways.length ≤ LIM) (hne : hits node ways ≠ []) :
    Fn prog w A h 51 [.int node, dWays ways] (.int (minI (hitsI node ways))) := by
  obtain ⟨o, pm, doc, ho, hd, hc⟩ := W.fst
  refine fn_call ["node", "ways"] ho hd W.lim hc hroom ?_ rfl (by decide) ?_ ?_ (by rfl) (by rfl) (by rfl)
  · intro vs hvs
    match vs, hvs with
    | [a, b], _ => rfl
  · intro L x hx
    simp only [List.mem_cons, List.not_mem_nil, or_false] at hx
    rcases hx with rfl | rfl
    · exact .inr ⟨by rfl, by rfl⟩
    · exact .inr ⟨by rfl, by rfl⟩
  · intro s₀ s L e lim F args
    have W' : Wd s.heap := W.ext (e.trans F.ext)
    have v1 := F.var "node" (.int node) (by simp)
    have v2 := F.var "ways" (dWays ways) (by simp)
    refine wpAny_execs_cons (wpAny_Return_some ?_)
    have hb : ∀ {x v}, (x, v) ∈ bootNames → (fstEnv L).kindOf x = some .globalImplicit → (x == ("__debug__" : Str)) = false → Glb prog w (A.deeper (fstEnv L)) s.heap (fstEnv L) x v := fun hm hx hd => W'.boot hm hx rfl rfl rfl hd
    refine Val.use (d := .int (minI (hitsI node ways))) (val_min hh (hb (by simp [bootNames]) (by rfl) (by decide)) (l := hitsI node ways) ?_ (by simpa [hitsI] using hne)) (Ext.refl _) fun v s' k e' r => ?_
    · have e1 : dInts (hitsI node ways) = .list (((List.range ways.length).filter fun i => decide (node ∈ ways.getD i [])).map fun (i : Nat) => D.int (i : Int)) := by
        unfold dInts hitsI hits; rw [List.map_map]; rfl
      rw [e1]
      refine val_compA (List.range ways.length) (fun (i : Nat) => D.int (i : Int)) (fun d => (deInt d).toNat) (fun a => by simp [deInt]) _ _ (fun i => [("i", .int (i : Int))]) (src_rangeN hh (hb (by simp [bootNames]) (by rfl) (by decide)) (hb (by simp [bootNames]) (by rfl) (by decide)) (val_var v2 rfl) (by simpa using hlen) (by simp)) (cl := [("ways", L + 1 + 1), ("node", L + 1)]) (by rfl) (by simpa using hlen) ?_ ?_ ?_
      · intro C a ha
        exact bnd_name (by rfl) (by rfl)
      · intro C a h' ha hC hx hbd
        refine tsts_one (tst_in (val_var (vr_free (v1.ext hx) (by rfl) (by rfl) (by rfl)) rfl) (val_item (val_var (vr_free (v2.ext hx) (by rfl) (by rfl) (by rfl)) rfl) (val_var (vr_bound hbd (.head _) (by rfl)) rfl) (by omega) (way_get (List.mem_range.mp ha))) (by rfl))
      · intro C a h' ha hC hp hx hbd
        exact val_var (vr_bound hbd (.head _) (by rfl)) rfl
    · obtain ⟨t, rfl⟩ := r
      obtain ⟨⟨h1, tk1, rfl⟩, ⟨m, fr⟩, _, _⟩ := F.keeps k
      exact ⟨_, rfl, ⟨h1, tk1, rfl, fun b o q => fr.keep b o q⟩, t, rfl⟩
theorem law_last {h : Heap} (W : Wd h) (hroom : A.depth < recursionLimit) (hh : A.handled = none) {ways : List (List Int)} {node : Int} (hlen : ways.length ≤ LIM) (hne : hits node ways ≠ []) :
    Fn prog w A h 56 [.int node, dWays ways] (.int (maxI (hitsI node ways))) := by
  obtain ⟨o, pm, doc, ho, hd, hc⟩ := W.lst
  refine fn_call ["node", "ways"] ho hd W.lim hc hroom ?_ rfl (by decide) ?_ ?_ (by rfl) (by rfl) (by rfl)
  · intro vs hvs
    match vs, hvs with
    | [a, b], _ => rfl
  · intro L x hx
    simp only [List.mem_cons, List.not_mem_nil, or_false] at hx
    rcases hx with rfl | rfl
    · exact .inr ⟨by rfl, by rfl⟩
    · exact .inr ⟨by rfl, by rfl⟩
  · intro s₀ s L e lim F args
    have W' : Wd s.heap := W.ext (e.trans F.ext)
    have v1 := F.var "node" (.int node) (by simp)
    have v2 := F.var "ways" (dWays ways) (by simp)
    refine wpAny_execs_cons (wpAny_Return_some ?_)
    have hb : ∀ {x v}, (x, v) ∈ bootNames → (lstEnv L).kindOf x = some .globalImplicit → (x == ("__debug__" : Str)) = false → Glb prog w (A.deeper (lstEnv L)) s.heap (lstEnv L) x v := fun hm hx hd => W'.boot hm hx rfl rfl rfl hd
    refine Val.use (d := .int (maxI (hitsI node ways))) (val_max hh (hb (by simp [bootNames]) (by rfl) (by decide)) (l := hitsI node ways) ?_ (by simpa [hitsI] using hne)) (Ext.refl _) fun v s' k e' r => ?_
    · have e1 : dInts (hitsI node ways) = .list (((List.range ways.length).filter fun i => decide (node ∈ ways.getD i [])).map fun (i : Nat) => D.int (i : Int)) := by
        unfold dInts hitsI hits; rw [List.map_map]; rfl
      rw [e1]
      refine val_compA (List.range ways.length) (fun (i : Nat) => D.int (i : Int)) (fun d => (deInt d).toNat) (fun a => by simp [deInt]) _ _ (fun i => [("i", .int (i : Int))]) (src_rangeN hh (hb (by simp [bootNames]) (by rfl) (by decide)) (hb (by simp [bootNames]) (by rfl) (by decide)) (val_var v2 rfl) (by simpa using hlen) (by simp)) (cl := [("ways", L + 1 + 1), ("node", L + 1)]) (by rfl) (by simpa using hlen) ?_ ?_ ?_
      · intro C a ha
        exact bnd_name (by rfl) (by rfl)
      · intro C a h' ha hC hx hbd
        refine tsts_one (tst_in (val_var (vr_free (v1.ext hx) (by rfl) (by rfl) (by rfl)) rfl) (val_item (val_var (vr_free (v2.ext hx) (by rfl) (by rfl) (by rfl)) rfl) (val_var (vr_bound hbd (.head _) (by rfl)) rfl) (by omega) (way_get (List.mem_range.mp ha))) (by rfl))
      · intro C a h' ha hC hp hx hbd
        exact val_var (vr_bound hbd (.head _) (by rfl)) rfl
    · obtain ⟨t, rfl⟩ := r
      obtain ⟨⟨h1, tk1, rfl⟩, ⟨m, fr⟩, _, _⟩ := F.keeps k
      exact ⟨_, rfl, ⟨h1, tk1, rfl, fun b o q => fr.keep b o q⟩, t, rfl⟩
end
end Mine

namespace Mine
open PySem PySem.W PyProof.Rows PySem.Challenge

/-- all stands but what lies in X -/
def Chg (X : List Addr) (s s' : Shared) : Prop := ∃ h' tk, s' = { s with heap := h', toks := tk } ∧ ∀ b o, b ∉ X → s.heap.get? b = some o → h'.get? b = some o
theorem Chg.refl (X : List Addr) (s : Shared) : Chg X s s := ⟨s.heap, s.toks, rfl, fun _ _ _ e => e⟩
theorem Chg.trans {X : List Addr} {a b c : Shared} (x : Chg X a b) (y : Chg X b c) : Chg X a c := by
  obtain ⟨h, t, rfl, x⟩ := x
  obtain ⟨h', t', rfl, y⟩ := y
  exact ⟨h', t', rfl, fun b o hb e => y b o hb (x b o hb e)⟩
theorem Chg.mono {X Y : List Addr} {a b : Shared} (x : Chg X a b) (h : ∀ z ∈ X, z ∈ Y) : Chg Y a b := by
  obtain ⟨h1, t, rfl, x⟩ := x
  exact ⟨h1, t, rfl, fun b o hb e => x b o (fun q => hb (h b q)) e⟩
theorem Chg.of_keeps {X : List Addr} {a b : Shared} (k : Keeps a b) : Chg X a b := by
  obtain ⟨h, t, rfl, x⟩ := k
  exact ⟨h, t, rfl, fun b o _ e => x b o e⟩
theorem Chg.get {X : List Addr} {a b : Shared} (x : Chg X a b) {c : Addr} {o : Obj} (hc : c ∉ X) (e : a.heap.get? c = some o) : b.heap.get? c = some o := by
  obtain ⟨h, t, rfl, x⟩ := x
  exact x c o hc e
theorem Chg.same {X : List Addr} {s₀ a b : Shared} (x : Chg X a b) (h : ∃ h tk, a = { s₀ with heap := h, toks := tk }) : ∃ h tk, b = { s₀ with heap := h, toks := tk } := by
  obtain ⟨h1, t, rfl, x⟩ := x
  obtain ⟨h2, t2, rfl⟩ := h
  exact ⟨h1, t, rfl⟩
theorem Chg.of_sameBut {a : Addr} {s : Shared} {h' : Heap} {tk : Nat} (hs : Heap.SameBut a s.heap h') : Chg [a] s { s with heap := h', toks := tk } :=
  ⟨h', tk, rfl, fun b o hb e => hs.extBut b o (by simpa using hb) e⟩

section
variable {prog : Program} {w : World} {A : Around}

theorem for_rule {S : Addr} {items : Array Value} {x : Str} {px pos : Pos} {iter : Expr} {body orelse : List Stmt} {env : Env} {X : List Addr} {s : Shared} {E : Value → Shared → Prop} {Q : Flow → Shared → Prop} (J : Nat → Shared → Prop) (hh : A.handled = none)
    (hiter : wpAny (model prog w) A (eval iter env) (fun v s' => v = .ref S ∧ s' = s) E s) (hl : s.heap.IsList S items) (hSX : S ∉ X) (hX : ∀ a ∈ X, Dom s.heap a) (hJ : J 0 s)
    (stab : ∀ I, s.heap.get? I = none → ∀ i t t', J i t → Chg X s t ∨ True → Chg [I] t t' → J i t')
    (turn : ∀ i v t, items[i]? = some v → J i t → (∀ b o, b ∉ X → s.heap.get? b = some o → t.heap.get? b = some o) → ∀ E', wpAny (model prog w) A (PySem.assign (.Name x px) env v) (fun _ t₁ => wpAny (model prog w) A (execs body env) (fun f t' => Chg X t t' ∧ match f with
        | .next | .cont => J (i + 1) t'
        | .brk => Q .next t'
        | .ret v => Q (.ret v) t') E' t₁) E' t)
    (done : ∀ t, J items.size t → (∀ b o, b ∉ X → s.heap.get? b = some o → t.heap.get? b = some o) → ∀ E', wpAny (model prog w) A (execs orelse env) Q E' t)
    (hs : ∀ x, foldedSetIterable iter env x = pure x := by intro _; rfl) :
    wpAny (model prog w) A (exec (.For (.Name x px) iter body orelse pos) env) Q E s := by
  refine wpAny_For (wpAny_mono hiter (fun v s' q => ?_) fun _ _ e => e) hs
  obtain ⟨rfl, rfl⟩ := q
  obtain ⟨oS, hoS, _⟩ := id hl
  have hne : S ≠ s'.heap.objs.size := Nat.ne_of_lt (Heap.lt_size hoS)
  have hIn : s'.heap.get? s'.heap.objs.size = none := none_of_ext (Ext.refl _)
  have hIX : s'.heap.objs.size ∉ X := fun hm => dom_none hIn (hX _ hm)
  refine wpAny_pyIter_list hl ?_
  have kk : ∀ {P : Prop}, (s'.heap.get? s'.heap.objs.size = none → P) → P := fun h => h hIn
  refine codeAny_forLoop (fun k t => ∃ i, i ≤ items.size ∧ k = items.size + 1 - i ∧ t.heap.IsListIter s'.heap.objs.size S i ∧ t.heap.IsList S items ∧ (∀ b o, b ∉ X → s'.heap.get? b = some o → t.heap.get? b = some o) ∧ J i t) ?_ (items.size + 1) ⟨0, Nat.zero_le _, rfl, ⟨_, Heap.get?_push_size _ rfl, rfl, rfl⟩, hl.push _, fun b o _ e => Heap.get?_push_of_some _ e,
    stab _ hIn 0 _ _ hJ (.inr trivial) ⟨_, _, rfl, fun b o _ e => Heap.get?_push_of_some _ e⟩⟩
  rintro k t ⟨i, hi, rfl, hit, hlt, fr, hJt⟩
  by_cases hlt' : i < items.size
  · refine wpAny_pyNext_list_item hit hlt (x := items[i]) (by simp [hlt']) fun h' hit' hs' => ?_
    have c1 : Chg [s'.heap.objs.size] t { t with heap := h' } := ⟨h', _, rfl, fun b o hb e => hs'.extBut b o (by simpa using hb) e⟩
    have J1 := stab _ hIn i _ _ hJt (.inr trivial) c1
    have fr1 : ∀ b o, b ∉ X → s'.heap.get? b = some o → h'.get? b = some o := fun b o hb e => hs'.extBut b o (Nat.ne_of_lt (Heap.lt_size e)) (fr b o hb e)
    refine wpAny_mono (turn i items[i] _ (by simp [hlt']) J1 fr1 _) (fun _ t₁ q => wpAny_mono q (fun f t' q => ?_) fun _ _ e => e) fun _ _ e => e
    obtain ⟨c, q⟩ := q
    have hlast : t'.heap.IsListIter s'.heap.objs.size S (i + 1) ∧ t'.heap.IsList S items := by
      refine ⟨hit'.at fun o e => c.get hIX e, ?_⟩
      have : h'.IsList S items := hlt.extBut hs'.extBut hne
      exact this.at fun o e => c.get hSX e
    cases f with
    | next => exact ⟨_, by omega, i + 1, hlt', rfl, hlast.1, hlast.2, fun b o hb e => c.get hb (fr1 b o hb e), q⟩
    | cont => exact ⟨_, by omega, i + 1, hlt', rfl, hlast.1, hlast.2, fun b o hb e => c.get hb (fr1 b o hb e), q⟩
    | brk => exact q
    | ret v => exact q
  · have hin : i = items.size := by omega
    subst hin
    refine wpAny_pyNext_list_end hh hit hlt (by simp) fun h' he' => ?_
    have c1 : Chg [s'.heap.objs.size] t { t with heap := h' } := ⟨h', _, rfl, fun b o hb e => he' b o (by simpa using hb) e⟩
    exact done _ (stab _ hIn _ _ _ hJt (.inr trivial) c1) (fun b o hb e => he' b o (Nat.ne_of_lt (Heap.lt_size e)) (fr b o hb e)) _
end
end Mine

namespace Mine
open PySem PySem.W PyProof.Rows PySem.Challenge

/-! what _c3_merge reckons -/
def blocked (rows : List (List Int)) (c : Int) : Bool := rows.any fun r => decide (c ∈ r.drop 1)
def heads (rows : List (List Int)) : List Int := (rows.filter fun r => !r.isEmpty).map fun r => r.headD 0
def pick (rows : List (List Int)) : Option Int := (heads rows).find? fun c => !blocked rows c
def strike (c : Int) (r : List Int) : List Int := match r with | [] => [] | a :: t => if a = c then t else a :: t
def c3 : Nat → List (List Int) → List Int → Option (List Int) × List (List Int)
  | 0, rows, _ => (none, rows)
  | k + 1, rows, out => if rows.all fun r => r.isEmpty then (some out, rows) else match pick rows with
    | none => (none, rows)
    | some c => c3 k (rows.map (strike c)) (out ++ [c])

abbrev Rows := List (Addr × List Int)
abbrev c3Env (L : Addr) : Env := envOfC "_c3_merge" (scopeOf 1) L 19 (.ref 18)

/-- a row of the table -/
def RowIs (h : Heap) (p : Addr × List Int) : Prop := ∃ vs n, h.get? p.1 = some (lst vs n) ∧ Reps h (p.2.map D.int) vs.toList
theorem RowIs.at {h h' : Heap} {p : Addr × List Int} (r : RowIs h p) (e : ∀ o, h.get? p.1 = some o → h'.get? p.1 = some o) : RowIs h' p :=
  let ⟨vs, n, g, rr⟩ := r; ⟨vs, n, e _ g, ints_any rr⟩

/-- the block of _c3_merge: m its names, the rows -/
structure C3 (s₀ : Shared) (L : Addr) (ars : Rows) (s : Shared) (m : Str → Option Value) : Prop where
  same : ∃ h tk, s = { s₀ with heap := h, toks := tk }
  ns : s.heap.Ns L m
  keep : ∀ b o, b ∉ ars.map (·.1) → s₀.heap.get? b = some o → s.heap.get? b = some o
  rows : ∀ p ∈ ars, RowIs s.heap p

/-- what does not change over the call -/
structure C3K (s₀ : Shared) (L : Addr) (ars : Rows) : Prop where
  wd : ∃ hW, Wd hW ∧ Ext hW s₀.heap ∧ ∀ a ∈ ars.map (·.1), hW.get? a = none
  nodup : (ars.map (·.1)).Nodup
  dom : ∀ a ∈ ars.map (·.1), Dom s₀.heap a
  newL : s₀.heap.get? L = none
  lens : ∀ p ∈ ars, p.2.length ≤ LIM
  few : ars.length ≤ LIM

/-- a list of the call's own -/
def Own (s₀ : Shared) (h : Heap) (a : Addr) (vs : Array Value) : Prop := s₀.heap.get? a = none ∧ ∃ n, h.get? a = some (lst vs n)

section
variable {prog : Program} {w : World} {A : Around}

theorem C3.wd {s₀ : Shared} {L : Addr} {ars : Rows} {s : Shared} {m : Str → Option Value} (K : C3K s₀ L ars) (c : C3 s₀ L ars s m) : Wd s.heap := by
  obtain ⟨h', w', e, hn⟩ := K.wd
  exact w'.ext fun b o q => c.keep b o (fun hm => by rw [hn b hm] at q; cases q) (e b o q)

theorem C3.chg {s₀ : Shared} {L : Addr} {ars : Rows} {s s' : Shared} {m : Str → Option Value} {X : List Addr} (K : C3K s₀ L ars) (c : C3 s₀ L ars s m) (x : Chg X s s') (hL : L ∉ X) (hk : ∀ a ∈ X, ¬ Dom s₀.heap a) : C3 s₀ L ars s' m where
  same := x.same c.same
  ns := c.ns.at' fun o e => x.get hL e
  keep := fun b o hb e => x.get (fun hm => hk b hm (.of e)) (c.keep b o hb e)
  rows := fun p hp => (c.rows p hp).at fun o e => x.get (fun hm => hk _ hm (K.dom _ (List.mem_map_of_mem hp))) e
theorem C3.keeps {s₀ : Shared} {L : Addr} {ars : Rows} {s s' : Shared} {m : Str → Option Value} (c : C3 s₀ L ars s m) (x : Keeps s s') : C3 s₀ L ars s' m where
  same := (Chg.of_keeps (X := []) x).same c.same
  ns := c.ns.keeps (keeps_ext x)
  keep := fun b o hb e => keeps_ext x b o (c.keep b o hb e)
  rows := fun p hp => (c.rows p hp).at fun o e => keeps_ext x _ _ e
theorem C3.locals {s₀ : Shared} {L : Addr} {ars : Rows} {s : Shared} {m m' : Str → Option Value} {h' : Heap} {tk : Nat} (K : C3K s₀ L ars) (c : C3 s₀ L ars s m) (hn : h'.Ns L m') (hs : Heap.SameBut L s.heap h') : C3 s₀ L ars { s with heap := h', toks := tk } m' where
  same := let ⟨h, t, e⟩ := c.same; ⟨h', tk, by rw [e]⟩
  ns := hn
  keep := fun b o hb e => hs.extBut b o (fun q => by rw [q, K.newL] at e; cases e) (c.keep b o hb e)
  rows := fun p hp => (c.rows p hp).at fun o e => hs.extBut _ o (fun q => by
    obtain ⟨vs, n, g, _⟩ := c.rows p hp
    exact ns_noseq c.ns _ vs n (q ▸ g) rfl) e

theorem row_rep {s₀ : Shared} {L : Addr} {ars : Rows} {s : Shared} {m : Str → Option Value} (K : C3K s₀ L ars) (c : C3 s₀ L ars s m) {p : Addr × List Int} (hp : p ∈ ars) : Rep s.heap (dInts p.2) (.ref p.1) := by
  obtain ⟨vs, n, g, r⟩ := c.rows p hp
  exact ⟨by simpa using K.lens p hp, _, vs, n, rfl, trivial, g, r⟩

/-- s[0], s[1:], their kin -/
theorem val_head {h : Heap} {env : Env} {x : Str} {p1 p2 p3 : Pos} {r : List Int} (v : Vr env h x (dInts r)) (hk : env.scope.kind = .function) (hne : r ≠ []) (hd : (x == ("__debug__" : Str)) = false := by decide) :
    Val prog w A h env (.Subscript (.Name x p1) (.Constant (.int 0) 0 p2) p3) (.int (r.headD 0)) :=
  val_item (val_var v hk hd) val_int (by decide) (by cases r with | nil => exact absurd rfl hne | cons a t => rfl)
theorem val_tail {h : Heap} {env : Env} {x : Str} {p1 p2 p3 p4 : Pos} {r : List Int} (v : Vr env h x (dInts r)) (hk : env.scope.kind = .function) (hd : (x == ("__debug__" : Str)) = false := by decide) :
    Val prog w A h env (.Subscript (.Name x p1) (.Slice (some (.Constant (.int 1) 0 p2)) none none p3) p4) (dInts (r.drop 1)) := by
  have := val_from (p := p3) (pos := p4) (val_var (pos := p1) (prog := prog) (w := w) (A := A) v hk hd) (val_int (i := 1) (k := 0) (pos := p2)) (by decide)
  unfold dInts at this ⊢
  rw [List.map_drop]
  exact this


theorem C3.vr {s₀ : Shared} {L : Addr} {ars : Rows} {s : Shared} {m : Str → Option Value} (c : C3 s₀ L ars s m) {x : Str} {v : Value} {d : D} (hm : m x = some v) (r : Rep s.heap d v) (hl : (c3Env L).kindOf x = some .local := by rfl) : Vr (c3Env L) s.heap x d := .inl ⟨hl, m, v, c.ns, hm, r⟩

def forBody : Stmt → List Stmt
  | .For _ _ b _ _ => b
  | _ => []
def stmtAt (l : List Stmt) (i : Nat) : Stmt := l.getD i (.Pass ⟨0, 0, 0, 0⟩)
def whileBody : Stmt → List Stmt
  | .While _ b _ _ => b
  | _ => []
/-- the loop's body; its two nested searches; its last loop -/
def c3W : List Stmt := whileBody (stmtAt (bodyOf 1) 1)
def c3Outer : Stmt := stmtAt c3W 2
def c3Inner : Stmt := stmtAt (forBody c3Outer) 1
def c3Last : Stmt := stmtAt c3W 5

theorem notL {s₀ : Shared} {L : Addr} {ars : Rows} {s : Shared} {m : Str → Option Value} (c : C3 s₀ L ars s m) {a : Addr} {vs : Array Value} {n : Nat} (h : s.heap.get? a = some (lst vs n)) : a ≠ L := fun q => ns_noseq c.ns _ vs n (q ▸ h) rfl

/-- the inner search: is c in some tail -/
theorem inner_for {s₀ : Shared} {L : Addr} {ars live : Rows} {s : Shared} {m : Str → Option Value} {S : Addr} {items : Array Value} {n : Nat} {c : Int} {t : Tok} (hh : A.handled = none) (K : C3K s₀ L ars) (C : C3 s₀ L ars s m)
    (hS : s.heap.get? S = some (lst items n)) (hi : items.toList = live.map fun p => .ref p.1) (hlive : ∀ p ∈ live, p ∈ ars) (mS : m "sequences" = some (.ref S)) (mc : m "candidate" = some (.int c t))
    {E : Value → Shared → Prop} {Q : Flow → Shared → Prop}
    (hQ : ∀ s' m', C3 s₀ L ars s' m' → Chg [L] s s' → (∀ x : Str, x ≠ "s2" → x ≠ "candidate" → m' x = m x) →
      (blocked (live.map (·.2)) c = true → m' "candidate" = some .none → Q .next s') ∧ (blocked (live.map (·.2)) c = false → m' "candidate" = some (.int c t) → Q .brk s')) :
    wpAny (model prog w) A (exec c3Inner (c3Env L)) Q E s := by
  have hk : (c3Env L).scope.kind = .function := rfl
  have hSL : S ≠ L := notL C hS
  have hLd : Dom s.heap L := by obtain ⟨o, _, _, e, _⟩ := C.ns; exact .of e
  refine for_rule (S := S) (items := items) (X := [L]) (fun i t' => ∃ m', C3 s₀ L ars t' m' ∧ Chg [L] s t' ∧ (∀ x : Str, x ≠ "s2" → m' x = m x) ∧ ∀ p ∈ live.take i, c ∉ p.2.drop 1) hh
    (name_at C.ns mS ⟨rfl, rfl⟩) ⟨_, hS, rfl, n, rfl⟩ (by simpa using hSL) (by simpa using hLd) ⟨m, C, Chg.refl _ _, fun _ _ => rfl, by simp⟩ ?_ ?_ ?_
  · rintro I hI i t₁ t₂ ⟨m', C', ch, hm, hno⟩ _ ch'
    have hIL : L ∉ [I] := by
      intro q
      rw [List.mem_singleton.mp q] at hLd
      exact dom_none hI hLd
    refine ⟨m', C'.chg K ch' hIL (fun a ha hd => ?_), ?_, hm, hno⟩
    · rw [List.mem_singleton.mp ha] at hd
      obtain ⟨o, e⟩ := Option.isSome_iff_exists.mp hd
      by_cases hk : I ∈ ars.map (·.1)
      · obtain ⟨p, hp, q⟩ := List.mem_map.mp hk
        obtain ⟨vs, n', g, _⟩ := C.rows p hp
        rw [q, hI] at g; cases g
      · have := C.keep I o hk e
        rw [hI] at this; cases this
    · obtain ⟨h1, tk1, rfl, f1⟩ := ch
      obtain ⟨h2, tk2, rfl, f2⟩ := ch'
      exact ⟨h2, tk2, rfl, fun b o hb e => f2 b o (fun q => by rw [List.mem_singleton.mp q, hI] at e; cases e) (f1 b o hb e)⟩
  · rintro i v t₁ hv ⟨m', C', ch, hm, hno⟩ fr E'
    have hv' : items.toList[i]? = some v := by rw [Array.getElem?_toList]; exact hv
    rw [hi, List.getElem?_map] at hv'
    obtain ⟨p, hp, rfl⟩ := Option.map_eq_some_iff.mp hv'
    have hpl := List.mem_of_getElem? hp
    have htake : live.take (i + 1) = live.take i ++ [p] := by rw [List.take_add_one, hp]; rfl
    refine wpAny_assign_Name (wpAny_storeName_local (by rfl) C'.ns (fun h₂ hn₂ hs₂ => ?_) (by rfl))
    have C₂ : C3 s₀ L ars { t₁ with heap := h₂, toks := t₁.toks + 1 } _ := C'.locals K hn₂ hs₂
    have ch2 : Chg [L] t₁ { t₁ with heap := h₂, toks := t₁.toks + 1 } := Chg.of_sameBut hs₂
    have v2 : Vr (c3Env L) h₂ "s2" (dInts p.2) := C₂.vr (by simp) (row_rep K C₂ (hlive p hpl))
    have vc : Vr (c3Env L) h₂ "candidate" (.int c) := C₂.vr (v := .int c t) (by rw [if_neg (by decide), hm _ (by decide)]; exact mc) ⟨t, rfl⟩
    refine wpAny_execs_cons (wpAny_If ?_)
    refine (tst_in (val_var vc hk) (val_tail v2 hk) (by rfl)).use (Ext.refl _) fun s₃ k₃ e₃ => ?_
    have C₃ := C₂.keeps k₃
    have ch3 := ch2.trans (Chg.of_keeps (X := [L]) k₃)
    by_cases hin : c ∈ p.2.drop 1
    · rw [decide_eq_true hin]
      simp only [if_true]
      refine wpAny_execs_cons (wpAny_Assign_Name (wpAny_Constant_none (wpAny_storeName_local (by rfl) C₃.ns (fun h₄ hn₄ hs₄ => ?_) (by rfl))) (by rfl))
      have C₄ : C3 s₀ L ars { s₃ with heap := h₄, toks := s₃.toks + 1 } _ := C₃.locals K hn₄ hs₄
      have ch4 := ch3.trans (Chg.of_sameBut (tk := s₃.toks + 1) hs₄)
      refine wpAny_execs_cons (wpAny_Break ⟨ch4, ?_⟩)
      refine (hQ _ _ C₄ (ch.trans ch4) fun x h1 h2 => ?_).1 ?_ (by simp)
      · rw [if_neg h2, if_neg h1, hm x h1]
      · unfold blocked
        rw [List.any_eq_true]
        exact ⟨p.2, List.mem_map_of_mem hpl, by simpa using hin⟩
    · rw [decide_eq_false hin]
      simp only [Bool.false_eq_true, if_false]
      refine wpAny_execs_nil (wpAny_execs_nil ⟨ch3, _, C₃, ch.trans ch3, fun x hx => ?_, fun q hq => ?_⟩)
      · rw [if_neg hx, hm x hx]
      · rw [htake] at hq
        rcases List.mem_append.mp hq with hq | hq
        · exact hno q hq
        · rw [List.mem_singleton.mp hq]; exact hin
  · rintro t₁ ⟨m', C', ch, hm, hno⟩ fr E'
    have hsz : items.size = live.length := by rw [← Array.length_toList, hi, List.length_map]
    rw [hsz, List.take_length] at hno
    refine wpAny_execs_cons (wpAny_Break ?_)
    refine (hQ _ _ C' ch fun x h1 h2 => hm x h1).2 ?_ (by rw [hm _ (by decide)]; exact mc)
    unfold blocked
    rw [List.any_eq_false]
    intro r hr
    obtain ⟨p, hp, rfl⟩ := List.mem_map.mp hr
    simpa using hno p hp

/-- the search over the heads -/
theorem outer_for {s₀ : Shared} {L : Addr} {ars live : Rows} {s : Shared} {m : Str → Option Value} {S : Addr} {items : Array Value} {n : Nat} (hh : A.handled = none) (K : C3K s₀ L ars) (C : C3 s₀ L ars s m)
    (hS : s.heap.get? S = some (lst items n)) (hi : items.toList = live.map fun p => .ref p.1) (hlive : ∀ p ∈ live, p ∈ ars) (hne : ∀ p ∈ live, p.2 ≠ []) (h0 : live ≠ []) (mS : m "sequences" = some (.ref S))
    {E : Value → Shared → Prop} {Q : Flow → Shared → Prop}
    (hQ : ∀ s' m', C3 s₀ L ars s' m' → Chg [L] s s' → (∀ x : Str, x ≠ "s1" → x ≠ "s2" → x ≠ "candidate" → m' x = m x) →
      ((live.map fun p => p.2.headD 0).find? (fun c => !blocked (live.map (·.2)) c) = none → m' "candidate" = some .none → Q .next s') ∧
      (∀ c t, (live.map fun p => p.2.headD 0).find? (fun c => !blocked (live.map (·.2)) c) = some c → m' "candidate" = some (.int c t) → Q .next s')) :
    wpAny (model prog w) A (exec c3Outer (c3Env L)) Q E s := by
  have hk : (c3Env L).scope.kind = .function := rfl
  have hSL : S ≠ L := notL C hS
  have hLd : Dom s.heap L := by obtain ⟨o, _, _, e, _⟩ := C.ns; exact .of e
  refine for_rule (S := S) (items := items) (X := [L]) (fun i t' => ∃ m', C3 s₀ L ars t' m' ∧ Chg [L] s t' ∧ (∀ x : Str, x ≠ "s1" → x ≠ "s2" → x ≠ "candidate" → m' x = m x) ∧ (∀ p ∈ live.take i, blocked (live.map (·.2)) (p.2.headD 0) = true) ∧ (0 < i → m' "candidate" = some .none)) hh
    (name_at C.ns mS ⟨rfl, rfl⟩) ⟨_, hS, rfl, n, rfl⟩ (by simpa using hSL) (by simpa using hLd) ⟨m, C, Chg.refl _ _, fun _ _ _ _ => rfl, by simp, by simp⟩ ?_ ?_ ?_
  · rintro I hI i t₁ t₂ ⟨m', C', ch, hm, hno, hc⟩ _ ch'
    have hIL : L ∉ [I] := by
      intro q
      rw [List.mem_singleton.mp q] at hLd
      exact dom_none hI hLd
    refine ⟨m', C'.chg K ch' hIL (fun a ha hd => ?_), ?_, hm, hno, hc⟩
    · rw [List.mem_singleton.mp ha] at hd
      obtain ⟨o, e⟩ := Option.isSome_iff_exists.mp hd
      by_cases hk : I ∈ ars.map (·.1)
      · obtain ⟨p, hp, q⟩ := List.mem_map.mp hk
        obtain ⟨vs, n', g, _⟩ := C.rows p hp
        rw [q, hI] at g; cases g
      · have := C.keep I o hk e
        rw [hI] at this; cases this
    · obtain ⟨h1, tk1, rfl, f1⟩ := ch
      obtain ⟨h2, tk2, rfl, f2⟩ := ch'
      exact ⟨h2, tk2, rfl, fun b o hb e => f2 b o (fun q => by rw [List.mem_singleton.mp q, hI] at e; cases e) (f1 b o hb e)⟩
  · rintro i v t₁ hv ⟨m', C', ch, hm, hno, hc⟩ fr E'
    have hv' : items.toList[i]? = some v := by rw [Array.getElem?_toList]; exact hv
    rw [hi, List.getElem?_map] at hv'
    obtain ⟨p, hp, rfl⟩ := Option.map_eq_some_iff.mp hv'
    have hpl := List.mem_of_getElem? hp
    have htake : live.take (i + 1) = live.take i ++ [p] := by rw [List.take_add_one, hp]; rfl
    refine wpAny_assign_Name (wpAny_storeName_local (by rfl) C'.ns (fun h₂ hn₂ hs₂ => ?_) (by rfl))
    have C₂ : C3 s₀ L ars { t₁ with heap := h₂, toks := t₁.toks + 1 } _ := C'.locals K hn₂ hs₂
    have ch2 : Chg [L] t₁ { t₁ with heap := h₂, toks := t₁.toks + 1 } := Chg.of_sameBut hs₂
    have v1 : Vr (c3Env L) h₂ "s1" (dInts p.2) := C₂.vr (by simp) (row_rep K C₂ (hlive p hpl))
    refine wpAny_execs_cons (wpAny_Assign_Name (Val.use (val_head v1 hk (hne p hpl)) (Ext.refl _) fun v₃ s₃ k₃ e₃ r₃ => ?_) (by rfl))
    obtain ⟨t, rfl⟩ := r₃
    have C₃ := C₂.keeps k₃
    have ch3 := ch2.trans (Chg.of_keeps (X := [L]) k₃)
    refine wpAny_storeName_local (by rfl) C₃.ns (fun h₄ hn₄ hs₄ => ?_) (by rfl)
    have C₄ : C3 s₀ L ars { s₃ with heap := h₄, toks := s₃.toks + 1 } _ := C₃.locals K hn₄ hs₄
    have ch4 := ch3.trans (Chg.of_sameBut (tk := s₃.toks + 1) hs₄)
    have S4 : h₄.get? S = some (lst items n) := (ch.trans ch4).get (by simpa using hSL) hS
    refine wpAny_execs_cons (inner_for hh K C₄ S4 hi hlive (c := p.2.headD 0) (t := t) ?_ ?_ ?_)
    · rw [if_neg (by decide), if_neg (by decide), hm _ (by decide) (by decide) (by decide)]; exact mS
    · simp
    · intro s' m₅ C₅ ch5 hm₅
      have hm6 : ∀ x : Str, x ≠ "s1" → x ≠ "s2" → x ≠ "candidate" → m₅ x = m x := fun x h1 h2 h3 => by rw [hm₅ x h2 h3, if_neg h3, if_neg h1, hm x h1 h2 h3]
      refine ⟨fun hb hc5 => ?_, fun hb hc5 => ?_⟩
      · refine wpAny_execs_nil ⟨ch4.trans ch5, m₅, C₅, ch.trans (ch4.trans ch5), hm6, fun q hq => ?_, fun _ => hc5⟩
        rw [htake] at hq
        rcases List.mem_append.mp hq with hq | hq
        · exact hno q hq
        · rw [List.mem_singleton.mp hq]; exact hb
      · refine ⟨ch4.trans ch5, (hQ s' m₅ C₅ (ch.trans (ch4.trans ch5)) hm6).2 (p.2.headD 0) t ?_ hc5⟩
        rw [List.find?_eq_some_iff_append]
        refine ⟨by rw [hb]; rfl, (live.take i).map fun p => p.2.headD 0, (live.drop (i + 1)).map fun p => p.2.headD 0, ?_, fun a ha => ?_⟩
        · rw [← List.map_cons (f := fun p : Addr × List Int => p.2.headD 0), ← List.map_append]
          congr 1
          have : live.drop i = p :: live.drop (i + 1) := by
            obtain ⟨hlt, e⟩ := List.getElem?_eq_some_iff.mp hp
            rw [List.drop_eq_getElem_cons hlt, e]
          rw [← this, List.take_append_drop]
        · obtain ⟨q, hq, rfl⟩ := List.mem_map.mp ha
          rw [hno q hq]; rfl
  · rintro t₁ ⟨m', C', ch, hm, hno, hc⟩ fr E'
    have hsz : items.size = live.length := by rw [← Array.length_toList, hi, List.length_map]
    rw [hsz, List.take_length] at hno
    refine wpAny_execs_nil ((hQ _ _ C' ch hm).1 ?_ (hc ?_))
    · rw [List.find?_eq_none]
      intro a ha
      obtain ⟨q, hq, rfl⟩ := List.mem_map.mp ha
      rw [hno q hq]; decide
    · rw [hsz]; exact List.length_pos_iff.mpr h0
end
end Mine

namespace Mine
open PySem PySem.W PyProof.Rows PySem.Challenge

theorem strike_len (c : Int) (r : List Int) : (strike c r).length ≤ r.length := by
  cases r with
  | nil => simp [strike]
  | cons a t => by_cases h : a = c <;> simp [strike, h]

/-- the rows whose keys lie in ks are struck -/
def upd (c : Int) (ks : List Addr) (ars : Rows) : Rows := ars.map fun p => if p.1 ∈ ks then (p.1, strike c p.2) else p
theorem upd_keys (c : Int) (ks : List Addr) (ars : Rows) : (upd c ks ars).map (·.1) = ars.map (·.1) := by
  unfold upd
  rw [List.map_map]
  refine List.map_congr_left fun p _ => ?_
  simp only [Function.comp]
  split <;> rfl
theorem upd_nil (c : Int) (ars : Rows) : upd c [] ars = ars := by
  unfold upd
  simp

theorem C3K.upd {s₀ : Shared} {L : Addr} {ars : Rows} (K : C3K s₀ L ars) (c : Int) (ks : List Addr) : C3K s₀ L (upd c ks ars) where
  wd := by rw [upd_keys]; exact K.wd
  nodup := by rw [upd_keys]; exact K.nodup
  dom := by rw [upd_keys]; exact K.dom
  newL := K.newL
  lens := fun p hp => by
    obtain ⟨q, hq, rfl⟩ := List.mem_map.mp hp
    have := K.lens q hq
    split
    · exact Nat.le_trans (strike_len c q.2) this
    · exact this
  few := by unfold Mine.upd; rw [List.length_map]; exact K.few

section
variable {prog : Program} {w : World} {A : Around}
theorem tst_eqi {h : Heap} {env : Env} {l r : Expr} {pos : Pos} {a b : Int} (x : Val prog w A h env l (.int a)) (y : Val prog w A h env r (.int b)) : Tst prog w A h env (.Compare l [.Eq] [r] pos) (a == b) :=
  tst_two x y (fun s E Q u v => by rintro ⟨t, rfl⟩ ⟨t', rfl⟩ q; exact PyProof.Rows.eq_int q) (by cases r <;> simp [behindInMarks])

theorem key_unique {ars : Rows} (h : (ars.map (·.1)).Nodup) {p q : Addr × List Int} (hp : p ∈ ars) (hq : q ∈ ars) (e : p.1 = q.1) : p = q := by
  induction ars with
  | nil => cases hp
  | cons a l ih =>
    simp only [List.map_cons, List.nodup_cons] at h
    rcases List.mem_cons.mp hp with hp | hp <;> rcases List.mem_cons.mp hq with hq | hq
    · rw [hp, hq]
    · exact absurd (List.mem_map.mpr ⟨q, hq, by rw [← e, hp]⟩) h.1
    · exact absurd (List.mem_map.mpr ⟨p, hp, by rw [e, hq]⟩) h.1
    · exact ih h.2 hp hq

/-- one row turned -/
theorem C3.row {s₀ : Shared} {L : Addr} {ars ars' : Rows} {s : Shared} {m : Str → Option Value} {a : Addr} {h' : Heap} {tk : Nat} {vs : Array Value} {n : Nat} {r : List Int} (K : C3K s₀ L ars) (c : C3 s₀ L ars s m) (hs : Heap.SameBut a s.heap h') (ha : a ∈ ars.map (·.1))
    (hg : h'.get? a = some (lst vs n)) (hr : Reps h' (r.map D.int) vs.toList) (hk : ars'.map (·.1) = ars.map (·.1)) (hrows : ∀ p ∈ ars', p.1 ≠ a → p ∈ ars) (hrow : ∀ p ∈ ars', p.1 = a → p.2 = r) :
    C3 s₀ L ars' { s with heap := h', toks := tk } m where
  same := let ⟨h, t, e⟩ := c.same; ⟨h', tk, by rw [e]⟩
  ns := by
    obtain ⟨p, hp, rfl⟩ := List.mem_map.mp ha
    obtain ⟨vs, n, g, _⟩ := c.rows p hp
    exact c.ns.sameBut hs (notL c g).symm
  keep := fun b o hb e => hs.extBut b o (fun q => hb (by rw [hk, q]; exact ha)) (c.keep b o (hk ▸ hb) e)
  rows := fun p hp => by
    by_cases hpa : p.1 = a
    · exact ⟨vs, n, hpa ▸ hg, by rw [hrow p hp hpa]; exact hr⟩
    · exact (c.rows p (hrows p hp hpa)).at fun o e => hs.extBut _ o hpa e

theorem last_for {s₀ : Shared} {L : Addr} {ars : Rows} {s : Shared} {m : Str → Option Value} {S : Addr} {items : Array Value} {n : Nat} {c : Int} {t : Tok} (hh : A.handled = none) (K : C3K s₀ L ars) (C : C3 s₀ L ars s m)
    (hS : s.heap.get? S = some (lst items n)) (hSk : S ∉ ars.map (·.1)) (hi : items.toList = (ars.filter fun p => !p.2.isEmpty).map fun p => .ref p.1) (mS : m "sequences" = some (.ref S)) (mc : m "candidate" = some (.int c t))
    {E : Value → Shared → Prop} {Q : Flow → Shared → Prop}
    (hQ : ∀ s' m', C3 s₀ L (ars.map fun p => (p.1, strike c p.2)) s' m' → Chg (L :: ars.map (·.1)) s s' → (∀ x : Str, x ≠ "seq" → m' x = m x) → Q .next s') :
    wpAny (model prog w) A (exec c3Last (c3Env L)) Q E s := by
  have hk : (c3Env L).scope.kind = .function := rfl
  have hSL : S ≠ L := notL C hS
  have hLd : Dom s.heap L := by obtain ⟨o, _, _, e, _⟩ := C.ns; exact .of e
  generalize hlv : (ars.filter fun p => !p.2.isEmpty) = live at hi
  have hlive : ∀ p ∈ live, p ∈ ars := fun p hp => by rw [← hlv] at hp; exact (List.mem_filter.mp hp).1
  have hne : ∀ p ∈ live, p.2 ≠ [] := fun p hp => by rw [← hlv] at hp; simpa using (List.mem_filter.mp hp).2
  have hlnd : (live.map (·.1)).Nodup := by rw [← hlv]; exact (List.filter_sublist.map _).nodup K.nodup
  have hdk : ∀ a ∈ ars.map (·.1), Dom s.heap a := fun a ha => by
    obtain ⟨p, hp, rfl⟩ := List.mem_map.mp ha
    obtain ⟨vs, n, g, _⟩ := C.rows p hp
    exact .of g
  refine for_rule (S := S) (items := items) (X := L :: ars.map (·.1)) (fun i t' => ∃ m', C3 s₀ L (upd c ((live.take i).map (·.1)) ars) t' m' ∧ Chg (L :: ars.map (·.1)) s t' ∧ (∀ x : Str, x ≠ "seq" → m' x = m x)) hh
    (name_at C.ns mS ⟨rfl, rfl⟩) ⟨_, hS, rfl, n, rfl⟩ (by simp only [List.mem_cons, not_or]; exact ⟨hSL, hSk⟩) ?_ ⟨m, ?_, Chg.refl _ _, fun _ _ => rfl⟩ ?_ ?_ ?_
  · intro a ha
    rcases List.mem_cons.mp ha with rfl | ha
    · exact hLd
    · exact hdk a ha
  · simpa [upd_nil] using C
  · rintro I hI i t₁ t₂ ⟨m', C', ch, hm⟩ _ ch'
    have hIL : L ∉ [I] := by
      intro q
      rw [List.mem_singleton.mp q] at hLd
      exact dom_none hI hLd
    refine ⟨m', C'.chg (K.upd _ _) ch' hIL (fun a ha hd => ?_), ?_, hm⟩
    · rw [List.mem_singleton.mp ha] at hd
      obtain ⟨o, e⟩ := Option.isSome_iff_exists.mp hd
      by_cases hk : I ∈ ars.map (·.1)
      · obtain ⟨p, hp, q⟩ := List.mem_map.mp hk
        obtain ⟨vs, n', g, _⟩ := C.rows p hp
        rw [q, hI] at g; cases g
      · have := C.keep I o hk e
        rw [hI] at this; cases this
    · obtain ⟨h1, tk1, rfl, f1⟩ := ch
      obtain ⟨h2, tk2, rfl, f2⟩ := ch'
      exact ⟨h2, tk2, rfl, fun b o hb e => f2 b o (fun q => by rw [List.mem_singleton.mp q, hI] at e; cases e) (f1 b o hb e)⟩
  · rintro i v t₁ hv ⟨m', C', ch, hm⟩ fr E'
    have hv' : items.toList[i]? = some v := by rw [Array.getElem?_toList]; exact hv
    rw [hi, List.getElem?_map] at hv'
    obtain ⟨p, hp, rfl⟩ := Option.map_eq_some_iff.mp hv'
    have hpl := List.mem_of_getElem? hp
    have htake : live.take (i + 1) = live.take i ++ [p] := by rw [List.take_add_one, hp]; rfl
    have hnot : p.1 ∉ (live.take i).map (·.1) := by
      intro hm
      have hsplit : live = live.take i ++ p :: live.drop (i + 1) := by
        obtain ⟨hlt, e⟩ := List.getElem?_eq_some_iff.mp hp
        have q := List.take_append_drop i live
        rw [List.drop_eq_getElem_cons hlt, e] at q
        exact q.symm
      rw [hsplit, List.map_append, List.nodup_append] at hlnd
      exact hlnd.2.2 p.1 hm p.1 (by simp) rfl
    have hpu : p ∈ upd c ((live.take i).map (·.1)) ars := List.mem_map.mpr ⟨p, hlive p hpl, if_neg hnot⟩
    have K' := K.upd c ((live.take i).map (·.1))
    refine wpAny_assign_Name (wpAny_storeName_local (by rfl) C'.ns (fun h₂ hn₂ hs₂ => ?_) (by rfl))
    have C₂ : C3 s₀ L (upd c ((live.take i).map (·.1)) ars) { t₁ with heap := h₂, toks := t₁.toks + 1 } _ := C'.locals K' hn₂ hs₂
    have ch2 : Chg (L :: ars.map (·.1)) t₁ { t₁ with heap := h₂, toks := t₁.toks + 1 } := (Chg.of_sameBut hs₂).mono fun z hz => List.mem_cons.mpr (.inl (List.mem_singleton.mp hz))
    have v2 : Vr (c3Env L) h₂ "seq" (dInts p.2) := C₂.vr (by simp) (row_rep K' C₂ hpu)
    have vc : Vr (c3Env L) h₂ "candidate" (.int c) := C₂.vr (v := .int c t) (by rw [if_neg (by decide), hm _ (by decide)]; exact mc) ⟨t, rfl⟩
    have hrest : ∀ q ∈ upd c ((live.take (i + 1)).map (·.1)) ars, q.1 ≠ p.1 → q ∈ upd c ((live.take i).map (·.1)) ars := fun q hq hqp => by
      obtain ⟨r, hr, rfl⟩ := List.mem_map.mp hq
      refine List.mem_map.mpr ⟨r, hr, ?_⟩
      have hrp : r.1 ≠ p.1 := by
        intro e
        apply hqp
        split <;> exact e
      rw [htake, List.map_append]
      by_cases hin : r.1 ∈ (live.take i).map (·.1)
      · rw [if_pos hin, if_pos (List.mem_append_left _ hin)]
      · rw [if_neg hin, if_neg (by simp only [List.mem_append, List.map_cons, List.map_nil, List.mem_singleton, not_or]; exact ⟨hin, hrp⟩)]
    have hrow : ∀ q ∈ upd c ((live.take (i + 1)).map (·.1)) ars, q.1 = p.1 → q.2 = strike c p.2 := fun q hq hqp => by
      obtain ⟨r, hr, rfl⟩ := List.mem_map.mp hq
      have hrp : r.1 = p.1 := by
        revert hqp
        split <;> exact id
      have : r = p := key_unique K.nodup hr (hlive p hpl) hrp
      subst this
      rw [if_pos (by rw [htake]; simp)]
    refine wpAny_execs_cons (wpAny_If ?_)
    refine (tst_eqi (val_head v2 hk (hne p hpl)) (val_var vc hk)).use (Ext.refl _) fun s₃ k₃ e₃ => ?_
    have C₃ := C₂.keeps k₃
    have ch3 := ch2.trans (Chg.of_keeps (X := L :: ars.map (·.1)) k₃)
    obtain ⟨vs, nn, hg, hr⟩ := C₃.rows p hpu
    have hpk : p.1 ∈ ars.map (·.1) := List.mem_map_of_mem (hlive p hpl)
    obtain ⟨hd, tl, hcons⟩ : ∃ a b, p.2 = a :: b := by
      cases q : p.2 with
      | nil => exact absurd q (hne p hpl)
      | cons a b => exact ⟨a, b, rfl⟩
    have hvsz : vs.size = p.2.length := by rw [← Array.length_toList, hr.length, List.length_map]
    by_cases hin : p.2.headD 0 = c
    · have hb : (p.2.headD 0 == c) = true := by simpa using hin
      rw [hb]
      simp only [if_true]
      refine wpAny_execs_cons (wpAny_Delete (wpAny_deleteEach_cons (wpAny_delete_Subscript ?_)))
      refine name_at C₃.ns (v := .ref p.1) (by simp) ?_
      refine wpAny_Constant_int ?_
      refine wpAny_delItem_plain (k := 0) ⟨nn, hg⟩ (by decide) (seqIndex_of (by decide) (by rw [hvsz, hcons]; simp)) (fun h₄ ⟨n₄, g₄⟩ hs₄ => ?_) (by rw [hvsz]; exact lim_line (K.lens p (hlive p hpl)))
      have C₅ : C3 s₀ L (upd c ((live.take (i + 1)).map (·.1)) ars) { s₃ with heap := h₄, toks := s₃.toks + 1 } (fun y => if y = "seq" then some (.ref p.1) else m' y) := by
        refine C₃.row (r := strike c p.2) (vs := vs.eraseIdxIfInBounds 0) (n := n₄) K' hs₄ (by rw [upd_keys]; exact hpk) g₄ ?_ (by rw [upd_keys, upd_keys]) hrest hrow
        have e1 : strike c p.2 = tl := by rw [hcons] at hin ⊢; simp only [List.headD_cons] at hin; simp [strike, hin]
        rw [e1]
        rw [hcons] at hr
        obtain ⟨u, us, eq, _, hr'⟩ := hr
        have e2 : (vs.eraseIdxIfInBounds 0).toList = us := by
          have hlt : 0 < vs.size := by rw [hvsz, hcons]; simp
          rw [Array.eraseIdxIfInBounds, dif_pos hlt, Array.toList_eraseIdx, eq]; rfl
        rw [e2]
        exact ints_any hr'
      have ch5 : Chg (L :: ars.map (·.1)) s₃ { s₃ with heap := h₄, toks := s₃.toks + 1 } := (Chg.of_sameBut (tk := s₃.toks + 1) hs₄).mono fun z hz => by rw [List.mem_singleton.mp hz]; exact List.mem_cons_of_mem _ hpk
      refine wpAny_deleteEach_nil (wpAny_execs_nil (wpAny_execs_nil ⟨ch3.trans ch5, _, C₅, (ch.trans ch3).trans ch5, fun x hx => ?_⟩))
      rw [if_neg hx, hm x hx]
    · have hb : (p.2.headD 0 == c) = false := by simpa using hin
      rw [hb]
      simp only [Bool.false_eq_true, if_false]
      have e1 : strike c p.2 = p.2 := by rw [hcons] at hin ⊢; simp only [List.headD_cons] at hin; simp [strike, hin]
      have e2 : upd c ((live.take (i + 1)).map (·.1)) ars = upd c ((live.take i).map (·.1)) ars := by
        refine List.map_congr_left fun q hq => ?_
        rw [htake, List.map_append]
        by_cases hqp : q.1 = p.1
        · have : q = p := key_unique K.nodup hq (hlive p hpl) hqp
          subst this
          rw [if_pos (by simp), if_neg hnot, e1]
        · by_cases hin' : q.1 ∈ (live.take i).map (·.1)
          · rw [if_pos hin', if_pos (List.mem_append_left _ hin')]
          · rw [if_neg hin', if_neg (by simp only [List.mem_append, List.map_cons, List.map_nil, List.mem_singleton, not_or]; exact ⟨hin', hqp⟩)]
      refine wpAny_execs_nil (wpAny_execs_nil ⟨ch3, _, (e2 ▸ C₃ : C3 s₀ L (upd c ((live.take (i + 1)).map (·.1)) ars) s₃ _), ch.trans ch3, fun x hx => ?_⟩)
      rw [if_neg hx, hm x hx]
  · rintro t₁ ⟨m', C', ch, hm⟩ fr E'
    have hsz : items.size = live.length := by rw [← Array.length_toList, hi, List.length_map]
    rw [hsz, List.take_length] at C'
    refine wpAny_execs_nil (hQ _ _ ?_ ch hm)
    have e2 : upd c (live.map (·.1)) ars = ars.map fun p => (p.1, strike c p.2) := by
      refine List.map_congr_left fun q hq => ?_
      by_cases hqe : q.2 = []
      · by_cases hin : q.1 ∈ live.map (·.1)
        · rw [if_pos hin]
        · rw [if_neg hin]
          obtain ⟨q1, q2⟩ := q
          simp only at hqe
          subst hqe
          rfl
      · rw [if_pos]
        exact List.mem_map_of_mem (by rw [← hlv]; exact List.mem_filter.mpr ⟨hq, by simpa using hqe⟩)
    rw [← e2]
    exact C'
end
end Mine

namespace Mine
open PySem PySem.W PyProof.Rows PySem.Challenge

structure Head (s₀ : Shared) (L : Addr) (ars : Rows) (out : List Int) (s : Shared) : Prop where
  of : ∃ m W, ∃ rs : Array Value, ∃ S, ∃ items : Array Value, ∃ n, ∃ q : Addr × List Int → Bool, C3 s₀ L ars s m ∧ m "result" = some (.ref W) ∧ Own s₀ s.heap W rs ∧ Reps s.heap (out.map D.int) rs.toList ∧
    m "sequences" = some (.ref S) ∧ s.heap.get? S = some (lst items n) ∧ S ∉ ars.map (·.1) ∧ items.toList = (ars.filter q).map (fun p => .ref p.1) ∧ (∀ p ∈ ars, p.2 ≠ [] → q p = true)

theorem live_heads (ars : Rows) : ((ars.filter fun p => !p.2.isEmpty).map fun p => p.2.headD 0) = heads (ars.map (·.2)) := by
  unfold heads
  rw [List.filter_map, List.map_map]; rfl
theorem blocked_iff (rows : List (List Int)) (c : Int) : blocked rows c = true ↔ ∃ r ∈ rows, c ∈ r.drop 1 := by
  unfold blocked
  rw [List.any_eq_true]
  simp only [decide_eq_true_eq]
theorem live_blocked (ars : Rows) (c : Int) : blocked ((ars.filter fun p => !p.2.isEmpty).map (·.2)) c = blocked (ars.map (·.2)) c := by
  rw [Bool.eq_iff_iff, blocked_iff, blocked_iff]
  constructor
  · rintro ⟨r, hr, hc⟩
    obtain ⟨p, hp, rfl⟩ := List.mem_map.mp hr
    exact ⟨p.2, List.mem_map_of_mem (List.mem_filter.mp hp).1, hc⟩
  · rintro ⟨r, hr, hc⟩
    obtain ⟨p, hp, rfl⟩ := List.mem_map.mp hr
    refine ⟨p.2, List.mem_map_of_mem (List.mem_filter.mpr ⟨hp, ?_⟩), hc⟩
    cases h : p.2 with
    | nil => rw [h] at hc; simp at hc
    | cons a t => rfl
theorem live_pick (ars : Rows) : ((ars.filter fun p => !p.2.isEmpty).map fun p => p.2.headD 0).find? (fun c => !blocked ((ars.filter fun p => !p.2.isEmpty).map (·.2)) c) = pick (ars.map (·.2)) := by
  unfold pick
  rw [live_heads]
  congr 1
  funext c
  rw [live_blocked]
theorem live_nil (ars : Rows) : (ars.filter fun p => !p.2.isEmpty) = [] ↔ (ars.map (·.2)).all (fun r => r.isEmpty) = true := by
  rw [List.filter_eq_nil_iff, List.all_eq_true]
  constructor
  · intro h r hr
    obtain ⟨p, hp, rfl⟩ := List.mem_map.mp hr
    simpa using h p hp
  · intro h p hp
    have := h p.2 (List.mem_map_of_mem hp)
    simp [this]

section
variable {prog : Program} {w : World} {A : Around}

theorem paired_eq : ∀ {l ys : List Value}, Paired (fun a b : Value => b = a) l ys → ys = l
  | _, _, .nil => rfl
  | _, _, .cons e r => by rw [e, paired_eq r]

theorem c3_comp {s₀ : Shared} {L : Addr} {ars : Rows} {s : Shared} {m : Str → Option Value} {S : Addr} {items : Array Value} {n : Nat} {q : Addr × List Int → Bool} (hh : A.handled = none) (K : C3K s₀ L ars) (C : C3 s₀ L ars s m)
    (hS : s.heap.get? S = some (lst items n)) (hSk : S ∉ ars.map (·.1)) (hi : items.toList = (ars.filter q).map (fun p => .ref p.1)) (hq : ∀ p ∈ ars, p.2 ≠ [] → q p = true) (mS : m "sequences" = some (.ref S))
    {E : Value → Shared → Prop} {Q : Flow → Shared → Prop}
    (hQ : ∀ s' m' S' items' n', C3 s₀ L ars s' m' → Chg [L] s s' → (∀ x : Str, x ≠ "sequences" → m' x = m x) → m' "sequences" = some (.ref S') → s₀.heap.get? S' = none → s.heap.get? S' = none → s'.heap.get? S' = some (lst items' n') →
      items'.toList = (ars.filter fun p => !p.2.isEmpty).map (fun p => .ref p.1) → Q .next s') :
    wpAny (model prog w) A (exec (stmtAt c3W 0) (c3Env L)) Q E s := by
  have hk : (c3Env L).scope.kind = .function := rfl
  have hSL : S ≠ L := notL C hS
  have hL : s.heap.IsList S items := ⟨_, hS, rfl, n, rfl⟩
  have hne : S ≠ s.heap.objs.size := Nat.ne_of_lt (Heap.lt_size hS)
  have hsz : items.size ≤ LIM := by
    rw [← Array.length_toList, hi, List.length_map]
    exact Nat.le_trans (List.length_filter_le _ _) K.few
  refine wpAny_Assign_ListComp_free (cl := []) (fun (v : Value) => ars.any fun p => v == Value.ref p.1 && !p.2.isEmpty) (fun a b => b = a) (by rfl) (by rfl) (by decide) (by rfl) (by decide) (by rfl) (by rfl) (by rfl) ?_
  refine name_at C.ns mS (wpAny_pyIter_list hL ?_)
  have W := Walks.list (prog := prog) (w := w) hh s.heap.objs.size S hne items
  have mem : ∀ (i : Nat) (v : Value), items[i]? = some v → ∃ p ∈ ars, v = .ref p.1 := fun i v e => by
    rw [← Array.getElem?_toList, hi, List.getElem?_map] at e
    obtain ⟨p, hp, rfl⟩ := Option.map_eq_some_iff.mp e
    exact ⟨p, (List.mem_filter.mp (List.mem_of_getElem? hp)).1, rfl⟩
  have hpv : ∀ p ∈ ars, (ars.any fun q => Value.ref p.1 == Value.ref q.1 && !q.2.isEmpty) = !p.2.isEmpty := fun p hp => by
    cases he : p.2.isEmpty with
    | true =>
      rw [Bool.not_true, List.any_eq_false]
      intro q hq hqq
      simp only [Bool.and_eq_true, beq_iff_eq, Value.ref.injEq] at hqq
      have := key_unique K.nodup hp hq hqq.1
      subst this
      rw [he] at hqq
      exact absurd hqq.2 (by decide)
    | false =>
      rw [Bool.not_false, List.any_eq_true]
      exact ⟨p, hp, by simp [he]⟩
  refine ⟨_, _, _, _, _, _, m, rfl, W, lim_line hsz, ⟨⟨_, Heap.get?_push_size _ rfl, rfl, rfl⟩, hL.push _⟩, ?_, ?_, C.ns.push _, ⟨?_, ?_⟩, ?_⟩
  · intro b hb
    have := Heap.lt_size hS
    simp only [List.mem_cons, List.not_mem_nil, or_false] at hb
    rw [Heap.size_push]
    rcases hb with rfl | rfl
    · exact Nat.lt_succ_self _
    · exact Nat.lt_succ_of_lt this
  · intro hm
    have := C.ns.lt
    rw [show (c3Env L).locals = L from rfl] at hm
    rw [List.mem_singleton.mp hm] at this
    exact Nat.lt_irrefl _ this
  · intro Cc i v s₃ m₃ E' hle hv hn₃ hm₃ hkp _
    obtain ⟨p, hp, rfl⟩ := mem i v hv
    rw [hpv p hp]
    obtain ⟨vs, nn, g, r⟩ := C.rows p hp
    have g3 : s₃.heap.get? p.1 = some (lst vs nn) := hkp _ _ (by
      intro hm
      rw [List.mem_singleton.mp hm] at g
      exact absurd (Heap.lt_size g) (Nat.lt_irrefl _)) (Heap.get?_push_of_some _ g)
    have hvs : vs.size = p.2.length := by rw [← Array.length_toList, r.length, List.length_map]
    refine wpAny_tests_one (wpAny_isTrue_value (name_at hn₃ hm₃ (wpAny_truthy_list ⟨_, g3, rfl, nn, rfl⟩ (by rw [hvs]; exact lim_fit (K.lens p hp)) ⟨?_, keeps_tok _ _⟩)))
    have : vs.isEmpty = p.2.isEmpty := by
      unfold Array.isEmpty
      rw [hvs]
      cases p.2 <;> simp
    exact congrArg not this
  · intro Cc i v s₃ m₃ E' hle hv hp hn₃ hm₃ hkp _
    exact name_at hn₃ hm₃ ⟨rfl, keeps_refl _⟩
  · intro D h' tk ys vs hD hl hpl hlen hP hF hns hkp
    obtain ⟨n', hg⟩ := hpl
    have hDn : s.heap.get? D = none := by
      cases e : s.heap.get? D with
      | none => rfl
      | some o => rw [Heap.get?_push_of_some _ e] at hD; cases hD
    have hch : Chg [L] s { s with heap := h', toks := tk } := ⟨h', tk, rfl, fun b o hb e => hkp b o (fun q => hb (List.mem_singleton.mpr q)) (fun hm => by
      rw [List.mem_singleton.mp hm] at e
      exact absurd (Heap.lt_size e) (Nat.lt_irrefl _)) (Heap.get?_push_of_some _ e)⟩
    have hvs : vs = items.toList := by
      refine List.ext_getElem? fun j => ?_
      by_cases hj : j < vs.length
      · have h1 : vs[j]? = some vs[j] := by simp [hj]
        have h2 := hP j vs[j] h1
        rw [← Array.getElem?_toList] at h2
        rw [h1, h2]
      · rw [List.getElem?_eq_none (by omega), List.getElem?_eq_none (by rw [Array.length_toList, ← hlen]; omega)]
    have hys : ys.toList = (ars.filter fun p => !p.2.isEmpty).map (fun p => .ref p.1) := by
      rw [paired_eq hF, hvs, hi, List.filter_map, List.filter_filter]
      congr 1
      refine List.filter_congr fun p hp => ?_
      have := hpv p hp
      simp only [Function.comp]
      rw [this]
      cases he : p.2.isEmpty with
      | true => rfl
      | false => rw [hq p hp (by intro e; rw [e] at he; cases he)]; rfl
    refine hQ { s with heap := h', toks := tk } (fun z => if z = "sequences" then some (.ref D) else m z) D ys n' ?_ hch (fun x hx => by rw [if_neg hx]) (by simp) ?_ hDn hg hys
    · refine ⟨hch.same C.same, hns, fun b o hb e => hch.get (fun hm => ?_) (C.keep b o hb e), fun p hp => (C.rows p hp).at fun o e => hch.get (fun hm => ?_) e⟩
      · rw [List.mem_singleton.mp hm, K.newL] at e; cases e
      · obtain ⟨vs, n, g, _⟩ := C.rows p hp
        exact notL C g (List.mem_singleton.mp hm)
    · cases e : s₀.heap.get? D with
      | none => rfl
      | some o =>
        by_cases hk : D ∈ ars.map (·.1)
        · obtain ⟨p, hp, rfl⟩ := List.mem_map.mp hk
          obtain ⟨vs, n, g, _⟩ := C.rows p hp
          rw [hDn] at g; cases g
        · have := C.keep D o hk e
          rw [hDn] at this; cases this
end
end Mine

namespace Mine
open PySem PySem.W PyProof.Rows PySem.Challenge

def str1 (c : Int) (ars : Rows) : Rows := ars.map fun p => (p.1, strike c p.2)
theorem str1_keys (c : Int) (ars : Rows) : (str1 c ars).map (·.1) = ars.map (·.1) := by unfold str1; rw [List.map_map]; rfl
theorem str1_rows (c : Int) (ars : Rows) : (str1 c ars).map (·.2) = (ars.map (·.2)).map (strike c) := by unfold str1; rw [List.map_map, List.map_map]; rfl
theorem C3K.str1 {s₀ : Shared} {L : Addr} {ars : Rows} (K : C3K s₀ L ars) (c : Int) : C3K s₀ L (str1 c ars) where
  wd := by rw [str1_keys]; exact K.wd
  nodup := by rw [str1_keys]; exact K.nodup
  dom := by rw [str1_keys]; exact K.dom
  newL := K.newL
  lens := fun p hp => by
    obtain ⟨q, hq, rfl⟩ := List.mem_map.mp hp
    exact Nat.le_trans (strike_len c q.2) (K.lens q hq)
  few := by unfold Mine.str1; rw [List.length_map]; exact K.few

theorem key_live {ars : Rows} (h : (ars.map (·.1)).Nodup) {p : Addr × List Int} (hp : p ∈ ars) : (ars.any fun q => p.1 == q.1 && !q.2.isEmpty) = !p.2.isEmpty := by
  cases he : p.2.isEmpty with
  | true =>
    rw [Bool.not_true, List.any_eq_false]
    intro q hq hqq
    simp only [Bool.and_eq_true, beq_iff_eq] at hqq
    have := key_unique h hp hq hqq.1
    subst this
    rw [he] at hqq
    exact absurd hqq.2 (by decide)
  | false =>
    rw [Bool.not_false, List.any_eq_true]
    exact ⟨p, hp, by simp [he]⟩

section
variable {prog : Program} {w : World} {A : Around}

theorem c3_turn {s₀ : Shared} {L : Addr} {ars : Rows} {out : List Int} {s : Shared} (hh : A.handled = none) (K : C3K s₀ L ars) (H : Head s₀ L ars out s) (hlen : out.length ≤ LIM)
    {E : Value → Shared → Prop} {Q : Flow → Shared → Prop}
    (hret : (ars.map (·.2)).all (fun r => r.isEmpty) = true → ∀ v s' m, C3 s₀ L ars s' m → RepP (fun x => s₀.heap.get? x = none) s'.heap (dInts out) v → Q (.ret v) s')
    (hnext : (ars.map (·.2)).all (fun r => r.isEmpty) = false → ∀ c s', pick (ars.map (·.2)) = some c → Head s₀ L (str1 c ars) (out ++ [c]) s' → Q .next s')
    (hraise : (ars.map (·.2)).all (fun r => r.isEmpty) = false → pick (ars.map (·.2)) = none → ∀ s₂ m h' e vs, C3 s₀ L ars s₂ m → Heap.MadeExc s₂.heap h' e "RuntimeError" vs → E (.ref e) { s₂ with heap := h' }) :
    wpAny (model prog w) A (execs c3W (c3Env L)) Q E s := by
  have hk : (c3Env L).scope.kind = .function := rfl
  obtain ⟨m, W, rs, S, items, n, q, C, mR, ⟨hW0, nW, hW⟩, rR, mS, hS, hSk, hi, hq⟩ := H.of
  have hWk : W ∉ ars.map (·.1) := fun hm => dom_none hW0 (K.dom W hm)
  refine wpAny_execs_cons (c3_comp hh K C hS hSk hi hq mS ?_)
  intro s₁ m₁ S₁ items₁ n₁ C₁ ch₁ hm₁ mS₁ hS0 hSn hS₁ hi₁
  have hWL : W ≠ L := notL C hW
  have hW₁ : s₁.heap.get? W = some (lst rs nW) := ch₁.get (by simpa using hWL) hW
  have hS₁L : S₁ ≠ L := notL C₁ hS₁
  have hS₁k : S₁ ∉ ars.map (·.1) := fun hm => dom_none hS0 (K.dom S₁ hm)
  have mR₁ : m₁ "result" = some (.ref W) := by rw [hm₁ _ (by decide)]; exact mR
  have hsz₁ : items₁.size = (ars.filter fun p => !p.2.isEmpty).length := by rw [← Array.length_toList, hi₁, List.length_map]
  refine wpAny_execs_cons (wpAny_If (wpAny_isTrue_Not (wpAny_isTrue_value (name_at C₁.ns mS₁ (wpAny_truthy_list ⟨_, hS₁, rfl, n₁, rfl⟩ (by rw [hsz₁]; exact lim_fit (Nat.le_trans (List.length_filter_le _ _) K.few)) ?_)))))
  have k2 : Keeps s₁ { s₁ with toks := s₁.toks + 1 + 1 } := keeps_tok _ _
  have C₂ := C₁.keeps k2
  by_cases hall : (ars.map (·.2)).all (fun r => r.isEmpty) = true
  · have hem : items₁.isEmpty = true := by
      unfold Array.isEmpty
      rw [hsz₁, (live_nil ars).mpr hall]; rfl
    rw [hem]
    simp only [Bool.not_true, Bool.not_false, if_true]
    refine wpAny_execs_cons (wpAny_Return_some (name_at C₂.ns mR₁ ?_))
    refine hret hall _ _ _ C₂ ⟨by simpa using hlen, W, rs, nW, rfl, hW0, hW₁, ints_any rR⟩
  · have hall' : (ars.map (·.2)).all (fun r => r.isEmpty) = false := by simpa using hall
    have hlv : (ars.filter fun p => !p.2.isEmpty) ≠ [] := fun e => hall ((live_nil ars).mp e)
    have hem : items₁.isEmpty = false := by
      unfold Array.isEmpty
      rw [hsz₁]
      have := List.length_pos_iff.mpr hlv
      exact decide_eq_false (by omega)
    rw [hem]
    simp only [Bool.not_false, Bool.not_true, Bool.false_eq_true, if_false]
    refine wpAny_execs_nil (wpAny_execs_cons ?_)
    refine outer_for (live := ars.filter fun p => !p.2.isEmpty) hh K C₂ hS₁ hi₁ (fun p hp => (List.mem_filter.mp hp).1) (fun p hp => by simpa using (List.mem_filter.mp hp).2) hlv mS₁ ?_
    intro s₃ m₃ C₃ ch₃ hm₃
    rw [live_pick]
    have mR₃ : m₃ "result" = some (.ref W) := by rw [hm₃ _ (by decide) (by decide) (by decide)]; exact mR₁
    have mS₃ : m₃ "sequences" = some (.ref S₁) := by rw [hm₃ _ (by decide) (by decide) (by decide)]; exact mS₁
    have hW₃ : s₃.heap.get? W = some (lst rs nW) := ch₃.get (by simpa using hWL) hW₁
    have hS₃ : s₃.heap.get? S₁ = some (lst items₁ n₁) := ch₃.get (by simpa using hS₁L) hS₁
    refine ⟨fun hp mc => ?_, fun c t hp mc => ?_⟩
    · refine wpAny_execs_cons (wpAny_If (wpAny_isTrue_Compare1 (name_at C₃.ns mc (wpAny_Constant_none (is_none (wpAny_truthy_bool ?_))))))
      rw [show ((Value.none == Value.none) = true) from rfl]
      simp only [if_true]
      refine wpAny_execs_cons (Raise_madeB PySem.F.excCall_RuntimeError PySem.F.excRaise_RuntimeError hh ?_)
      refine (C₃.wd K).boot (x := "RuntimeError") (v := .type "RuntimeError") (by simp [bootNames]) (by rfl) hk rfl rfl (by decide) _ _ _ _ (Ext.refl _) ⟨rfl, ?_⟩
      refine (vals_cons val_str vals_nil).use (Ext.refl _) fun vs s₄ k₄ e₄ r₄ => ⟨by rw [r₄.length]; exact (by decide : 1 ≤ sizeLine), fun h' e hx => ?_⟩
      exact hraise hall' hp s₄ m₃ h' e vs (C₃.keeps k₄) hx
    · refine wpAny_execs_cons (wpAny_If (wpAny_isTrue_Compare1 (name_at C₃.ns mc (wpAny_Constant_none (is_none (wpAny_truthy_bool ?_))))))
      rw [show ((Value.int c t == Value.none) = false) from rfl]
      simp only [Bool.false_eq_true, if_false]
      refine wpAny_execs_nil (wpAny_execs_cons (wpAny_Expr ?_ (by rfl) (by rfl)))
      refine wpAny_Call_append (by rfl) (by rfl) (by rfl) (by rfl) ?_
      refine name_at C₃.ns mR₃ ⟨W, rs, rfl, ⟨_, nW, hW₃, rfl, rfl, rfl⟩, ?_⟩
      refine name_at C₃.ns mc ?_
      have hrsz : rs.size ≤ sizeLine := by rw [← Array.length_toList, rR.length, List.length_map]; exact lim_line hlen
      refine wpAny_list_append_plain (hsz := hrsz) ⟨nW, hW₃⟩ fun h₄ ⟨n₄, g₄⟩ hs₄ => ?_
      have ch₄ : Chg [W] s₃ { s₃ with heap := h₄ } := ⟨h₄, _, rfl, fun b o hb e => hs₄.extBut b o (by simpa using hb) e⟩
      have C₄ : C3 s₀ L ars { s₃ with heap := h₄ } m₃ := C₃.chg K ch₄ (by simpa using hWL.symm) (fun a ha => by rw [List.mem_singleton.mp ha]; exact dom_none hW0)
      have hSW : S₁ ≠ W := fun e => by rw [e, hW] at hSn; cases hSn
      have hS₄ : h₄.get? S₁ = some (lst items₁ n₁) := ch₄.get (by simpa using hSW) hS₃
      refine wpAny_execs_cons (last_for (c := c) (t := t) hh K C₄ hS₄ hS₁k hi₁ mS₃ mc ?_)
      intro s₅ m₅ C₅ ch₅ hm₅
      refine wpAny_execs_nil (hnext hall' c s₅ hp ⟨m₅, W, rs.push (.int c t), S₁, items₁, n₁, fun p => ars.any fun q => p.1 == q.1 && !q.2.isEmpty, C₅, ?_, ⟨hW0, n₄, ?_⟩, ?_, ?_, ?_, ?_, ?_, ?_⟩)
      · rw [hm₅ _ (by decide)]; exact mR₃
      · exact ch₅.get (by simp only [List.mem_cons, not_or]; exact ⟨hWL, hWk⟩) g₄
      · rw [List.map_append, Array.toList_push]
        exact (ints_any rR).append ⟨_, [], rfl, ⟨t, rfl⟩, rfl⟩
      · rw [hm₅ _ (by decide)]; exact mS₃
      · exact ch₅.get (by simp only [List.mem_cons, not_or]; exact ⟨hS₁L, hS₁k⟩) hS₄
      · rw [str1_keys]; exact hS₁k
      · rw [hi₁, Mine.str1, List.filter_map, List.map_map]
        have e1 : (ars.filter fun p => !p.2.isEmpty) = ars.filter ((fun p : Addr × List Int => ars.any fun q => p.1 == q.1 && !q.2.isEmpty) ∘ fun p => (p.1, strike c p.2)) := by
          refine List.filter_congr fun p hp => ?_
          simp only [Function.comp]
          exact (key_live K.nodup hp).symm
        rw [e1]; rfl
      · intro p hp hpe
        obtain ⟨r, hr, rfl⟩ := List.mem_map.mp hp
        show (ars.any fun q => r.1 == q.1 && !q.2.isEmpty) = true
        rw [key_live K.nodup hr]
        cases he : r.2 with
        | nil => exact absurd (by show strike c r.2 = []; rw [he]; rfl) hpe
        | cons a t => rfl
end
end Mine

namespace Mine
open PySem PySem.W PyProof.Rows PySem.Challenge

def total (rows : List (List Int)) : Nat := (rows.map List.length).sum
theorem strike_total (c : Int) : ∀ rows : List (List Int), total (rows.map (strike c)) ≤ total rows
  | [] => Nat.le_refl _
  | r :: rows => by
    have h1 := strike_len c r
    have h2 := strike_total c rows
    simp only [total, List.map_cons, List.sum_cons] at h2 ⊢
    omega
theorem strike_total_lt (c : Int) : ∀ rows : List (List Int), c ∈ heads rows → total (rows.map (strike c)) < total rows
  | [], h => by simp [heads] at h
  | r :: rows, h => by
    have h1 := strike_len c r
    have h2 := strike_total c rows
    unfold heads at h
    rw [List.filter_cons] at h
    cases hr : r with
    | nil =>
      rw [hr] at h
      have h3 := strike_total_lt c rows (by unfold heads; simpa using h)
      simp only [total, List.map_cons, List.sum_cons] at h2 h3 ⊢
      have : (strike c []).length = 0 := rfl
      omega
    | cons a t =>
      rw [hr] at h
      simp only [List.isEmpty_cons, Bool.not_false, if_true, List.map_cons, List.headD_cons, List.mem_cons] at h
      rcases h with h | h
      · subst h
        have : (strike c (c :: t)).length = t.length := by simp [strike]
        simp only [total, List.map_cons, List.sum_cons, List.length_cons] at h2 ⊢
        omega
      · have h3 := strike_total_lt c rows (by unfold heads; exact h)
        rw [hr] at h1
        simp only [total, List.map_cons, List.sum_cons] at h2 h3 ⊢
        omega
theorem pick_mem {rows : List (List Int)} {c : Int} (h : pick rows = some c) : c ∈ heads rows := List.mem_of_find?_eq_some h
theorem c3_fuel : ∀ (k k' : Nat) (rows : List (List Int)) (out : List Int), total rows < k → total rows < k' → c3 k rows out = c3 k' rows out
  | 0, _, _, _, h, _ => by omega
  | _ + 1, 0, _, _, _, h => by omega
  | k + 1, k' + 1, rows, out, h, h' => by
    simp only [c3]
    split
    · rfl
    · cases hp : pick rows with
      | none => rfl
      | some c =>
        have := strike_total_lt c rows (pick_mem hp)
        exact c3_fuel k k' _ _ (by omega) (by omega)
def c3Run (rows : List (List Int)) (out : List Int) : Option (List Int) × List (List Int) := c3 (total rows + 1) rows out

theorem c3Run_done {rows : List (List Int)} {out : List Int} (h : rows.all (fun r => r.isEmpty) = true) : c3Run rows out = (some out, rows) := by
  unfold c3Run c3
  rw [if_pos h]
theorem c3Run_none {rows : List (List Int)} {out : List Int} (h : rows.all (fun r => r.isEmpty) = false) (hp : pick rows = none) : c3Run rows out = (none, rows) := by
  unfold c3Run c3
  rw [if_neg (by rw [h]; decide), hp]
theorem c3Run_some {rows : List (List Int)} {out : List Int} {c : Int} (h : rows.all (fun r => r.isEmpty) = false) (hp : pick rows = some c) : c3Run rows out = c3Run (rows.map (strike c)) (out ++ [c]) := by
  have hlt := strike_total_lt c rows (pick_mem hp)
  have e : c3Run rows out = c3 (total rows) (rows.map (strike c)) (out ++ [c]) := by
    show (if rows.all (fun r => r.isEmpty) = true then (some out, rows) else match pick rows with
      | none => (none, rows)
      | some c => c3 (total rows) (rows.map (strike c)) (out ++ [c])) = _
    rw [if_neg (by rw [h]; decide), hp]
  rw [e]
  exact c3_fuel _ _ _ _ hlt (Nat.lt_succ_self _)

section
variable {prog : Program} {w : World} {A : Around}
theorem c3_while {s₀ : Shared} {L : Addr} {ars : Rows} {s : Shared} (hh : A.handled = none) (K : C3K s₀ L ars) (H : Head s₀ L ars [] s) (hsum : total (ars.map (·.2)) ≤ LIM)
    {E : Value → Shared → Prop} {Q : Flow → Shared → Prop}
    (hret : ∀ ars' out v s' m, ars'.map (·.1) = ars.map (·.1) → c3Run (ars.map (·.2)) [] = (some out, ars'.map (·.2)) → C3 s₀ L ars' s' m → RepP (fun x => s₀.heap.get? x = none) s'.heap (dInts out) v → Q (.ret v) s')
    (hraise : ∀ ars' s₂ m h' e vs, ars'.map (·.1) = ars.map (·.1) → c3Run (ars.map (·.2)) [] = (none, ars'.map (·.2)) → C3 s₀ L ars' s₂ m → Heap.MadeExc s₂.heap h' e "RuntimeError" vs →
      notedBy (model prog w) A (c3Env L) (cameBackBy (model prog w) A (c3Env L) E) (.ref e) { s₂ with heap := h' }) :
    wpAny (model prog w) A (exec (stmtAt (bodyOf 1) 1) (c3Env L)) Q E s := by
  refine wpAny_While ?_
  refine codeAny_whileLoop (fun k s' => ∃ ars' out, k = total (ars'.map (·.2)) ∧ C3K s₀ L ars' ∧ Head s₀ L ars' out s' ∧ ars'.map (·.1) = ars.map (·.1) ∧ c3Run (ars.map (·.2)) [] = c3Run (ars'.map (·.2)) out ∧ out.length + total (ars'.map (·.2)) ≤ LIM) ?_ (total (ars.map (·.2)))
    ⟨ars, [], rfl, K, H, rfl, rfl, by simpa using hsum⟩
  rintro k s₁ ⟨ars', out, rfl, K', H', hkeys, hrun, hle⟩
  refine wpAny_isTrue_value (wpAny_Constant_bool (wpAny_truthy_bool ?_))
  simp only [if_true]
  refine c3_turn hh K' H' (by omega) ?_ ?_ ?_
  · intro hall v s' m C r
    refine hret ars' out v s' m hkeys ?_ C r
    rw [hrun]
    exact c3Run_done hall
  · intro hall c s' hp H''
    have hlt := strike_total_lt c _ (pick_mem hp)
    have hlt' : total ((str1 c ars').map (·.2)) < total (ars'.map (·.2)) := by rw [str1_rows]; exact hlt
    refine ⟨_, hlt', str1 c ars', out ++ [c], rfl, K'.str1 c, H'', by rw [str1_keys]; exact hkeys, ?_, ?_⟩
    · rw [hrun, str1_rows]
      exact c3Run_some hall hp
    · rw [List.length_append, List.length_singleton]; omega
  · intro hall hp s₂ m h' e vs C hx
    refine hraise ars' s₂ m h' e vs hkeys ?_ C hx
    rw [hrun]
    exact c3Run_none hall hp
end
end Mine

namespace Mine
open PySem PySem.W PyProof.Rows PySem.Challenge

def fAddrs (l : List Env) : List Addr := l.filterMap (·.frame)
/-- the frames below are functions' frames -/
def Frs (h : Heap) (l : List Env) : Prop := ∀ env ∈ l, env.scope.kind ≠ .module ∧ ∃ L m, env.frame = some L ∧ h.Ns L m
theorem Frs.of {h h' : Heap} {l : List Env} (x : Frs h l) (k : ∀ a ∈ fAddrs l, ∀ o, h.get? a = some o → h'.get? a = some o) : Frs h' l := fun env he => by
  obtain ⟨hk, L, m, hf, hn⟩ := x env he
  exact ⟨hk, L, m, hf, hn.at' fun o e => k L (List.mem_filterMap.mpr ⟨env, he, hf⟩) o e⟩
theorem Frs.fun {h base : Heap} : ∀ {l : List Env}, Frs h l → (∀ a ∈ fAddrs l, base.get? a = none) → h.FunFrames base l
  | [], _, _ => trivial
  | env :: l, x, hb => by
    obtain ⟨hk, L, m, hf, hn⟩ := x env (.head _)
    have hm : ∀ a ∈ fAddrs l, a ∈ fAddrs (env :: l) := fun a ha => by
      obtain ⟨e, he, hfe⟩ := List.mem_filterMap.mp ha
      exact List.mem_filterMap.mpr ⟨e, .tail _ he, hfe⟩
    exact Heap.FunFrames.cons hk hf hn (hb L (List.mem_filterMap.mpr ⟨env, .head _, hf⟩)) (Frs.fun (fun e he => x e (.tail _ he)) fun a ha => hb a (hm a ha))

section
variable {prog : Program} {w : World} {A : Around} {E : Value → Shared → Prop} {s : Shared}

theorem setFlight_held {base : Heap} {l : List Env} {e L : Addr} {cls a0 fl : Value} {Q : Unit → Shared → Prop} (hkb : base.StaysIn s.heap) (hen : base.get? e = none) (hl : s.heap.FunFrames base l) (ht : s.heap.TracedAtW base e cls a0 fl)
    (h : ∀ h', Heap.HeldW base l e cls a0 L h' → s.heap.UpToSlots h' → Q () { s with heap := h' }) : wpAny (model prog w) A (setFlight (.ref e) (some L)) Q E s := by
  obtain ⟨oe, vs, T, oT, ts, he, hcls, hd, h1, hnT, hTe, hT, hdT, h3⟩ := ht
  have hsz3 : 3 < ts.size := (Array.getElem?_eq_some_iff.mp h3).1
  have other : ∀ b, b ≠ T → (s.heap.update T (Obj.mapFields (·.setIfInBounds 3 ((some L : Option Addr).elim Value.none fun f => rawInt f)))).get? b = s.heap.get? b :=
    fun b hb => Heap.get?_update_other _ _ (Ne.symm hb)
  have noRecord : ∀ b o, s.heap.get? b = some o → (∀ vs, o.data ≠ .fields vs) → b ≠ T := fun b o hb hnf q => by
    rw [q, hT] at hb; injection hb with hb; subst hb; exact hnf ts hdT
  unfold setFlight
  refine wpAny_bind (wpAny_field he hd h1 ?_)
  rw [if_pos (show (Value.ref T != Value.none) = true from by simp)]
  refine wpAny_setField hT hdT hsz3 (h _ ⟨fun b o hbo => (other b fun q => by rw [q, hnT] at hbo; cases hbo).trans (hkb b o hbo), hen,
    hl.of_keeps fun b o hb hnf => ⟨o, (other b (noRecord b o hb hnf)).trans hb, rfl⟩, ?_⟩ fun b o hb hnf => ⟨o.slots, (other b (noRecord b o hb hnf)).trans hb⟩)
  exact ⟨oe, vs, T, _, _, (other e (Ne.symm hTe)).trans he, hcls, hd, h1, hnT, hTe, Heap.get?_update_self _ hT (Obj.isFreed_of_fields (Obj.data_mapFields hdT _)), Obj.data_mapFields hdT _, by simp [hsz3]⟩

/-- a raise inside a loop of a called def, up to the def's end -/
theorem raise_out {base hr : Heap} {env : Env} {outer : List Env} {L e : Addr} {cls : String} {args : List Value} (hfr : A.frames = some (env :: outer)) (hf : env.frame = some L) (hkb : base.StaysIn hr) (hl : hr.FunFrames base (env :: outer)) (hx : Heap.MadeExc hr s.heap e cls args)
    (hE : ∀ h' t, Heap.FlyingW base outer e (.type cls) (.ref t) h' → s.heap.UpToSlots h' → E (.ref e) { s with heap := h' }) :
    notedBy (model prog w) A env (cameBackBy (model prog w) A env fun x s' => wpAny (model prog w) A (leaving env x) (fun _ s'' => E x s'') E s') (.ref e) s := by
  obtain ⟨t, he, htn, ht⟩ := hx.there
  have fresh : ∀ b, hr.get? b = none → base.get? b = none := fun b hb => by
    cases hq : base.get? b with
    | none => rfl
    | some o' => have := hkb b o' hq; rw [hb] at this; cases this
  have hen := fresh e hx.new
  have hl' : s.heap.FunFrames base (env :: outer) := hl.of_keeps fun b o hb _ => ⟨o, hx.keeps b o hb, rfl⟩
  have hkb' : base.StaysIn s.heap := fun b o hb => hx.keeps b o (hkb b o hb)
  show wpAny (model prog w) A (noteFrame (.ref e) env) _ _ s
  unfold noteFrame
  simp only [hf]
  refine wpAny_bind (wpAny_field (x := .none) he rfl rfl ?_)
  rw [if_neg (by decide)]
  refine wpAny_entryW (a0 := .ref t) hfr hl' hf he hkb' hen rfl (by simp) rfl fun h₁ hN => ?_
  obtain ⟨k1, k2, k3, k4⟩ := hN
  -- back in the statement
  show wpAny (model prog w) A (do
    if (← field (.ref e) 1) == .none then unsupported "frame.own-activation:exception-without-traceback"
    setFlight (.ref e) env.frame) _ _ _
  obtain ⟨oe, vs, T, oT, ts, he1, hcls, hd1, h11, hnT, hTe, hT, hdT, h3⟩ := id k3
  refine wpAny_bind (wpAny_field he1 hd1 h11 ?_)
  rw [if_neg (by simp), hf]
  refine setFlight_held k1 hen k2 k3 fun h₂ hH₂ sm₂ => ?_
  -- out of the def
  unfold leaving
  refine wpAny_bind (wpAny_noteFrame_againW hf hH₂.2.2.2 ?_)
  refine wpAny_landsW hH₂ fun h₃ hfl sm₃ => ?_
  obtain ⟨f1, f2, ⟨_, _, f3⟩, f4⟩ := hfl
  exact hE h₃ t ⟨f1, f2, f3, f4⟩ (Heap.UpToSlots.trans (Heap.UpToSlots.trans k4 sm₂) sm₃)
end
end Mine

namespace Mine
open PySem PySem.W PyProof.Rows PySem.Challenge

section
variable {prog : Program} {w : World} {A : Around} {E : Value → Shared → Prop} {s : Shared}

theorem c3_body {s₀ s : Shared} {L R₀ : Addr} {ars : Rows} {m : Str → Option Value} {items : Array Value} {n : Nat} {Q : Flow → Shared → Prop} (hh : A.handled = none) (K : C3K s₀ L ars) (C : C3 s₀ L ars s m) (hsum : total (ars.map (·.2)) ≤ LIM)
    (mS : m "sequences" = some (.ref R₀)) (hR : s.heap.get? R₀ = some (lst items n)) (hRk : R₀ ∉ ars.map (·.1)) (hi : items.toList = ars.map fun p => .ref p.1)
    (hret : ∀ ars' out v s' m, ars'.map (·.1) = ars.map (·.1) → c3Run (ars.map (·.2)) [] = (some out, ars'.map (·.2)) → C3 s₀ L ars' s' m → RepP (fun x => s₀.heap.get? x = none) s'.heap (dInts out) v → Q (.ret v) s')
    (hraise : ∀ ars' s₂ m h' e vs, ars'.map (·.1) = ars.map (·.1) → c3Run (ars.map (·.2)) [] = (none, ars'.map (·.2)) → C3 s₀ L ars' s₂ m → Heap.MadeExc s₂.heap h' e "RuntimeError" vs →
      notedBy (model prog w) A (c3Env L) (cameBackBy (model prog w) A (c3Env L) E) (.ref e) { s₂ with heap := h' }) :
    wpAny (model prog w) A (execs (bodyOf 1) (c3Env L)) Q E s := by
  refine wpAny_execs_cons (wpAny_Assign_Name (wpAny_List (wpAny_items_nil ⟨Nat.zero_le _, ?_⟩)) (by rfl))
  have k1 := keeps_push s { cls := .type "list", data := .seq ([] : List Value).toArray }
  have C₁ := C.keeps k1
  refine wpAny_storeName_local (by rfl) C₁.ns (fun h₂ hn₂ hs₂ => ?_) (by rfl)
  have C₂ := C₁.locals (tk := s.toks + 1) K hn₂ hs₂
  have hWL : s.heap.objs.size ≠ L := fun q => by
    have := C.ns.lt
    rw [← q] at this
    exact Nat.lt_irrefl _ this
  have hRL : R₀ ≠ L := notL C hR
  have hnew : s₀.heap.get? s.heap.objs.size = none := by
    cases e : s₀.heap.get? s.heap.objs.size with
    | none => rfl
    | some o =>
      by_cases hk : s.heap.objs.size ∈ ars.map (·.1)
      · obtain ⟨p, hp, q⟩ := List.mem_map.mp hk
        obtain ⟨vs, n, g, _⟩ := C.rows p hp
        rw [q] at g
        exact absurd (Heap.lt_size g) (Nat.lt_irrefl _)
      · exact absurd (Heap.lt_size (C.keep _ o hk e)) (Nat.lt_irrefl _)
  have H : Head s₀ L ars [] { s with heap := h₂, toks := s.toks + 1 } := ⟨_, s.heap.objs.size, #[], R₀, items, n, fun _ => true, C₂, by simp, ⟨hnew, 0, hs₂.extBut _ _ hWL (Heap.get?_push_size _ rfl)⟩, rfl, by rw [if_neg (by decide)]; exact mS,
    hs₂.extBut _ _ hRL (Heap.get?_push_of_some _ hR), hRk, by rw [List.filter_eq_self.mpr (fun _ _ => rfl)]; exact hi, fun _ _ _ => rfl⟩
  refine wpAny_execs_cons (c3_while hh K H hsum (fun ars' out v s' m hk hrun C r => hret ars' out v s' m hk hrun C r) hraise)

theorem c3_call {outer : List Env} {R₀ : Addr} {ars : Rows} {items : Array Value} {n : Nat} {Q : Value → Shared → Prop} {hW : Heap} (hh : A.handled = none) (hroom : A.depth < recursionLimit) (hframes : (c3Run (ars.map (·.2)) []).1 = none → A.frames = some outer ∧ Frs s.heap outer)
    (W : Wd hW) (hWx : Ext hW s.heap) (hWk : ∀ a ∈ ars.map (·.1), hW.get? a = none) (hnd : (ars.map (·.1)).Nodup) (hrows : ∀ p ∈ ars, RowIs s.heap p) (hR : s.heap.get? R₀ = some (lst items n)) (hRk : R₀ ∉ ars.map (·.1)) (hi : items.toList = ars.map fun p => .ref p.1)
    (hlens : ∀ p ∈ ars, p.2.length ≤ LIM) (hfew : ars.length ≤ LIM) (hsum : total (ars.map (·.2)) ≤ LIM)
    (hret : ∀ (ars' : Rows) out v s', ars'.map (·.1) = ars.map (·.1) → c3Run (ars.map (·.2)) [] = (some out, ars'.map (·.2)) → Chg (ars.map (·.1)) s s' → (∀ p ∈ ars', RowIs s'.heap p) → RepP (fun x => s.heap.get? x = none) s'.heap (dInts out) v → Q v s')
    (hraise : ∀ (ars' : Rows) e hr h' tk base t, ars'.map (·.1) = ars.map (·.1) → c3Run (ars.map (·.2)) [] = (none, ars'.map (·.2)) → (∀ b o, b ∉ ars.map (·.1) → s.heap.get? b = some o → hr.get? b = some o) → (∀ p ∈ ars', RowIs hr p) →
      Ext base hr → (∀ b o, b ∉ fAddrs outer → Dom s.heap b → hr.get? b = some o → base.get? b = some o) → Heap.FlyingW base outer e (.type "RuntimeError") (.ref t) h' → hr.UpToSlots h' → E (.ref e) { s with heap := h', toks := tk }) :
    wpAny (model prog w) A (call (.ref 19) [.ref R₀]) Q E s := by
  obtain ⟨o, pm, doc, ho, hd, hc⟩ := W.c3
  refine wpAny_call ?_
  refine call_cells hroom (hWx _ _ ho) hd (W.lim.keeps hWx) (hc.keeps hWx) (binds := [("sequences", .ref R₀)]) (by rfl) (fun x hx => ?_) (fun h₁ tk F X => ?_) (by rfl) (by rfl) (by rfl)
  · rw [List.mem_singleton.mp hx]; exact .inl (by rfl)
  · have K : C3K s s.heap.objs.size ars := ⟨⟨hW, W, hWx, hWk⟩, hnd, fun a ha => by
      obtain ⟨p, hp, rfl⟩ := List.mem_map.mp ha
      obtain ⟨vs, n, g, _⟩ := hrows p hp
      exact .of g, none_of_ext (Ext.refl _), hlens, hfew⟩
    have hx1 : Ext s.heap h₁ := fun b o e => F.keep b o e
    have C : C3 s s.heap.objs.size ars { s with heap := h₁, toks := tk } _ := ⟨⟨h₁, tk, rfl⟩, F.ns, fun b o _ e => hx1 b o e, fun p hp => (hrows p hp).at fun o e => hx1 _ o e⟩
    refine c3_body (A := A.deeper (c3Env s.heap.objs.size)) hh K C hsum (by rfl) (hx1 _ _ hR) hRk hi ?_ ?_
    · intro ars' out v s' m hk hrun C' r
      refine hret ars' out v s' hk hrun ?_ C'.rows r
      obtain ⟨h2, tk2, rfl⟩ := C'.same
      exact ⟨h2, tk2, rfl, fun b o hb e => C'.keep b o (hk ▸ hb) e⟩
    · intro ars' s₂ m h' e vs hk hrun C' hx
      obtain ⟨hfr, hfrs⟩ := hframes (by rw [hrun])
      have hLn : ∀ a ∈ fAddrs outer, Dom s.heap a := fun a ha => by
        obtain ⟨env, he, hf⟩ := List.mem_filterMap.mp ha
        obtain ⟨_, L, m, hf', hn⟩ := hfrs env he
        rw [hf] at hf'
        cases hf'
        obtain ⟨o, _, _, e, _⟩ := hn
        exact .of e
      have hLk : ∀ a ∈ fAddrs outer, a ∉ ars.map (·.1) := fun a ha hm => by
        obtain ⟨env, he, hf⟩ := List.mem_filterMap.mp ha
        obtain ⟨_, L, m, hf', hn⟩ := hfrs env he
        rw [hf] at hf'
        cases hf'
        obtain ⟨p, hp, rfl⟩ := List.mem_map.mp hm
        obtain ⟨vs, n, g, _⟩ := hrows p hp
        exact ns_noseq hn _ vs n g rfl
      obtain ⟨base, b1, b2, b3⟩ := hide (fun a => a = s.heap.objs.size ∨ a ∈ fAddrs outer) s₂.heap
      have hfrs2 : Frs s₂.heap outer := hfrs.of fun a ha o e => C'.keep a o (by rw [hk]; exact hLk a ha) e
      have hfun : s₂.heap.FunFrames base (c3Env s.heap.objs.size :: outer) := by
        refine Heap.FunFrames.cons (L := s.heap.objs.size) (by intro q; have q' : ScopeKind.function = ScopeKind.module := q; cases q') rfl C'.ns (b2 _ (.inl rfl)) (hfrs2.fun fun a ha => b2 a (.inr ha))
      have := raise_out (prog := prog) (w := w) (A := A.deeper (c3Env s.heap.objs.size)) (E := fun x s' => (match (Except.error x : Result) with | .ok (.ret v) => Q v s' | .ok _ => False | .error e => E e s')) (s := { s₂ with heap := h' }) (base := base) (hr := s₂.heap) (env := c3Env s.heap.objs.size) (outer := outer) (L := s.heap.objs.size) (e := e) (cls := "RuntimeError") (args := vs)
        (Around.frames_deeper hfr) rfl b1 hfun hx ?_
      · exact this
      · intro h₃ t hfl sm
        obtain ⟨h2, tk2, rfl⟩ := C'.same
        refine hraise ars' e h2 h₃ tk2 base t hk hrun (fun b o hb e' => C'.keep b o (hk ▸ hb) e') C'.rows b1 (fun b o hb hdb hg => b3 b o ?_ hg) hfl (Heap.UpToSlots.trans (Heap.UpToSlots.of_keeps hx.keeps) sm)
        rintro (q | q)
        · rw [q] at hdb
          exact dom_none (none_of_ext (Ext.refl _)) hdb
        · exact hb q
end
end Mine

namespace Mine
open PySem PySem.W PyProof.Rows PySem.Challenge

abbrev mEnv (L : Addr) : Env := envOfC "_law_merged" (scopeOf 7) L 46 (.ref 45)

/-- new rows, each its own list -/
def NewRows (h₀ h : Heap) (off : List Addr) (ars : Rows) : Prop := (ars.map (·.1)).Nodup ∧ (∀ a ∈ ars.map (·.1), h₀.get? a = none ∧ a ∉ off) ∧ ∀ p ∈ ars, RowIs h p
theorem NewRows.nil {h₀ h : Heap} {off : List Addr} : NewRows h₀ h off [] := ⟨by simp, by simp, by simp⟩
theorem NewRows.keep {h₀ h h' : Heap} {off : List Addr} {ars : Rows} (x : NewRows h₀ h off ars) (k : ∀ b o, b ∉ off → h.get? b = some o → h'.get? b = some o) : NewRows h₀ h' off ars :=
  ⟨x.1, x.2.1, fun p hp => (x.2.2 p hp).at fun o e => k _ o (x.2.1 _ (List.mem_map_of_mem hp)).2 e⟩
theorem NewRows.snoc {h₀ h : Heap} {off : List Addr} {ars : Rows} {a : Addr} {r : List Int} (x : NewRows h₀ h off ars) (h0 : h₀.get? a = none) (ho : a ∉ off) (hn : a ∉ ars.map (·.1)) (hr : RowIs h (a, r)) : NewRows h₀ h off (ars ++ [(a, r)]) := by
  refine ⟨?_, fun b hb => ?_, fun p hp => ?_⟩
  · rw [List.map_append, List.nodup_append]
    refine ⟨x.1, by simp, fun b hb c hc => ?_⟩
    simp only [List.map_cons, List.map_nil, List.mem_singleton] at hc
    rintro rfl
    exact hn (hc ▸ hb)
  · rw [List.map_append, List.mem_append] at hb
    rcases hb with hb | hb
    · exact x.2.1 b hb
    · simp only [List.map_cons, List.map_nil, List.mem_singleton] at hb
      rw [hb]; exact ⟨h0, ho⟩
  · rcases List.mem_append.mp hp with hp | hp
    · exact x.2.2 p hp
    · rw [List.mem_singleton.mp hp]; exact hr

section
variable {prog : Program} {w : World} {A : Around} {E : Value → Shared → Prop} {s : Shared}

/-- [list(way) for way in ways], the loop -/
theorem rows_loop {elt iter : Expr} {scope : Scope} {pos px np p1 cp : Pos} {x : Str} {I R : Addr} {env : Env} {fp : List Addr} {P : Nat → Value → Prop} {St : Nat → Heap → Prop} {ways : List (List Int)} {n : Nat} {m : Str → Option Value} {RR : Result → Shared → Prop}
    (W : Walks prog w A I fp [I] ways.length P St) (hst : St 0 s.heap) (hR : s.heap.get? R = some (lst #[] n)) (hC : s.heap.Ns env.locals m) (hRf : R ∉ fp) (hCf : env.locals ∉ fp) (hlen : ways.length ≤ LIM) (hIs : ∀ i H, St i H → Dom H I)
    (hP : ∀ i v r, P i v → ways[i]? = some r → RepP (fun a => a ≠ R ∧ a ≠ I) s.heap (dInts r) v)
    (hx : env.kindOf x = some .local) (hk : env.scope.kind = .function) (hd : (x == ("__debug__" : Str)) = false)
    (hg : ∀ h' m', (∀ b o, b ≠ env.locals → b ≠ R → b ≠ I → s.heap.get? b = some o → h'.get? b = some o) → h'.Ns env.locals m' → Glb prog w A h' env "list" (.type "list"))
    (he : elt = .Call (.Name "list" np) [.Name x p1] [] cp)
    (hRR : ∀ h' tk m' items n' ars, h'.Ns env.locals m' → (∀ b o, b ≠ env.locals → b ≠ R → b ≠ I → s.heap.get? b = some o → h'.get? b = some o) → h'.get? R = some (lst items n') → items.toList = ars.map (fun p : Addr × List Int => .ref p.1) → ars.map (·.2) = ways →
      NewRows s.heap h' [env.locals, R, I] ars → RR (.ok .next) { s with heap := h', toks := tk }) :
    codeAny (model prog w) A (.compLoop (.ListComp elt [⟨.Name x px, iter, [], 0⟩] scope pos) 0 (.ref I) (.ref R) env) RR s := by
  have hIf : I ∈ fp := W.sub I (by simp)
  have hRI : R ≠ I := fun e => hRf (e ▸ hIf)
  have hCI : env.locals ≠ I := fun e => hCf (e ▸ hIf)
  have hRC : R ≠ env.locals := seq_ne_ns hC ⟨_, _, _, hR, rfl⟩
  refine codeAny_compLoop_tests (fun k s' => ∃ i h' tk m' items n' ars, i ≤ ways.length ∧ k = ways.length + 1 - i ∧ s' = { s with heap := h', toks := tk } ∧ St i h' ∧ h'.Ns env.locals m' ∧ (∀ b o, b ≠ env.locals → b ≠ R → b ≠ I → s.heap.get? b = some o → h'.get? b = some o) ∧
    h'.get? R = some (lst items n') ∧ items.toList = ars.map (fun p : Addr × List Int => Value.ref p.1) ∧ ars.map (·.2) = ways.take i ∧ NewRows s.heap h' [env.locals, R, I] ars) ?_ (ways.length + 1)
    ⟨0, s.heap, s.toks, m, #[], n, [], Nat.zero_le _, rfl, rfl, hst, hC, fun _ _ _ _ _ e => e, hR, rfl, rfl, .nil⟩
  rintro k s₀ ⟨i, h', tk, m', items, n', ars, hi, rfl, rfl, hst', hn', fr, hg', hit, hrw, nr⟩
  by_cases hlt : i < ways.length
  · obtain ⟨r, hr⟩ : ∃ r, ways[i]? = some r := ⟨ways[i], by simp [hlt]⟩
    refine W.item i _ _ _ hlt hst' fun v h₁ tk₁ hPv hst₁ hk₁ => ?_
    have rv := hP i v r hPv hr
    refine wpAny_assign_Name (wpAny_storeName_local hx (hn'.at' fun o e => hk₁ _ o (by simpa using hCI) e) (fun h₂ hn₂ hs₂ => ?_) (by rw [hk]; rfl))
    have fr2 : ∀ b o, b ≠ env.locals → b ≠ R → b ≠ I → s.heap.get? b = some o → h₂.get? b = some o := fun b o h1 h2 h3 e => hs₂.extBut b o h1 (hk₁ b o (by simpa using h3) (fr b o h1 h2 h3 e))
    have fr1 : ∀ b o, b ∉ [env.locals, R, I] → h'.get? b = some o → h₂.get? b = some o := fun b o hb e => by
      simp only [List.mem_cons, List.not_mem_nil, or_false, not_or] at hb
      exact hs₂.extBut b o hb.1 (hk₁ b o (by simpa using hb.2.2) e)
    have rv2 : Rep h₂ (dInts r) v := by
      refine rv.dom.mono (fun _ _ => trivial) fun a o q e => fr2 a o (seq_ne_ns hC q.2.2) q.1.1 q.1.2 e
    refine wpAny_tests_nil ?_
    simp only [if_true]
    subst he
    -- list(way)
    refine wpAny_Call_ofName (hg h₂ _ fr2 hn₂ _ _ _ _ (Ext.refl _) (PyProof.Rows.callWith_type1 ?_))
    refine wpAny_items_cons (wpAny_Name (wpAny_loadName_local (v := v) hk hx hn₂ (by simp) (wpAny_items_nil ?_)) hd)
    obtain ⟨hle, a, vs, nn, rfl, _, ga, ra⟩ := rv2
    have hvs : vs.size = r.length := by rw [← Array.length_toList, ra.length, List.length_map]
    refine call_list_seq a (.inl rfl) ga rfl rfl (fun h₃ c₃ hk₃ hg₃ => ?_) (by rw [hvs]; exact lim_line (by simpa using hle))
    have hR3 : h₃.get? R = some (lst items n') := hk₃ _ _ (hs₂.extBut _ _ hRC (hk₁ _ _ (by simpa using hRI) hg'))
    have hlen' : ars.length ≤ LIM := by
      have := congrArg List.length hrw
      rw [List.length_map, List.length_take] at this
      omega
    have hsz : items.size ≤ sizeLine := by rw [← Array.length_toList, hit, List.length_map]; exact lim_line hlen'
    refine wpAny_list_append_plain (hsz := hsz) ⟨n', hR3⟩ fun h₄ ⟨n₄, hg₄⟩ hs₄ => ?_
    have hnew : h₂.get? h₂.objs.size = none := none_of_ext (Ext.refl _)
    have hnR : h₂.objs.size ≠ R := fun q => by
      have e := hs₂.extBut _ _ hRC (hk₁ _ _ (by simpa using hRI) hg')
      rw [← q, hnew] at e; cases e
    have hnC : h₂.objs.size ≠ env.locals := fun q => by
      obtain ⟨o, _, _, e, _⟩ := hn₂
      rw [← q, hnew] at e; cases e
    have hst2 : St (i + 1) h₂ := W.frame _ _ _ hst₁ fun b hb o e => hs₂.extBut b o (fun q => hCf (q ▸ hb)) e
    have hnI : h₂.objs.size ≠ I := fun q => by
      obtain ⟨o, e⟩ := Option.isSome_iff_exists.mp (hIs _ _ hst2)
      rw [← q, hnew] at e; cases e
    have hna : h₂.objs.size ∉ ars.map (·.1) := fun hm => by
      obtain ⟨p, hp, q⟩ := List.mem_map.mp hm
      obtain ⟨us, n5, g5, _⟩ := (nr.keep fr1).2.2 p hp
      rw [q, hnew] at g5; cases g5
    have hns : s.heap.get? h₂.objs.size = none := by
      cases e : s.heap.get? h₂.objs.size with
      | none => rfl
      | some o =>
        have := fr2 _ o hnC hnR hnI e
        rw [hnew] at this; cases this
    have k24 : ∀ b o, b ≠ R → h₂.get? b = some o → h₄.get? b = some o := fun b o hb e => hs₄.extBut b o hb (hk₃ b o e)
    have hn4 := (hn₂.keeps hk₃).sameBut hs₄ hRC.symm
    refine ⟨ways.length + 1 - (i + 1), by omega, i + 1, h₄, tk₁ + 1, _, items.push (.ref h₂.objs.size), n₄, ars ++ [(h₂.objs.size, r)], hlt, rfl, rfl, ?_, hn4, ?_, hg₄, ?_, ?_, ?_⟩
    · exact W.frame _ _ _ hst2 fun b hb o e => k24 b o (fun q => hRf (q ▸ hb)) e
    · exact fun b o h1 h2 h3 e => k24 b o h2 (fr2 b o h1 h2 h3 e)
    · rw [Array.toList_push, hit, List.map_append]; rfl
    · rw [List.map_append, hrw, List.take_add_one, hr]; rfl
    · refine NewRows.snoc ((nr.keep fr1).keep fun b o hb e => k24 b o (fun q => hb (by simp [q])) e) hns (by simp only [List.mem_cons, List.not_mem_nil, or_false, not_or]; exact ⟨hnC, hnR, hnI⟩) hna ?_
      exact ⟨vs, c₃, hs₄.extBut _ _ hnR hg₃, ints_any ra⟩
  · have hin : i = ways.length := by omega
    subst hin
    refine W.done _ _ _ hst' fun h₁ tk₁ hk₁ => ?_
    rw [List.take_length] at hrw
    refine hRR h₁ tk₁ m' items n' ars (hn'.at' fun o e => hk₁ _ o (by simpa using hCI) e) (fun b o h1 h2 h3 e => hk₁ b o (by simpa using h3) (fr b o h1 h2 h3 e)) (hk₁ _ _ (by simpa using hRI) hg') hit hrw ?_
    exact nr.keep fun b o hb e => hk₁ b o (by
      simp only [List.mem_cons, List.not_mem_nil, or_false, not_or] at hb
      simpa using hb.2.2) e
end
end Mine

namespace Mine
open PySem PySem.W PyProof.Rows PySem.Challenge

section
variable {prog : Program} {w : World} {A : Around} {E : Value → Shared → Prop}

/-- [list(way) for way in ways], from the source to the block's end -/
theorem rows_open {h : Heap} {env : Env} {elt iter : Expr} {scope : Scope} {cl : List (Str × Addr)} {pos px np p1 cp : Pos} {x : Str} {ways : List (List Int)} {s : Shared} {RR : Value → Addr → Result → Shared → Prop}
    (src : Src prog w A h env iter (ways.map dInts)) (hx : Ext h s.heap) (hcell : ∀ y ∈ scope.names, y.2 ≠ .cell) (hkind : scope.kind = .function) (hxl : scope.names.lookup x = some .local) (hlen : ways.length ≤ LIM) (hd : (x == ("__debug__" : Str)) = false)
    (hg : ∀ C h', Ext h h' → Glb prog w A h' (compEnvC scope cl C env) "list" (.type "list")) (he : elt = .Call (.Name "list" np) [.Name x p1] [] cp)
    (hRR : ∀ R C m s' items n ars, Keeps s s' → s'.heap.Ns C m → s.heap.get? C = none → s.heap.get? R = none → s'.heap.get? R = some (lst items n) → items.toList = ars.map (fun p : Addr × List Int => .ref p.1) → ars.map (·.2) = ways →
      NewRows s.heap s'.heap [C, R] ars → RR (.ref R) C (.ok .next) s') :
    wpAny (model prog w) A (eval iter env) (fun x' s₁ => wpAny (model prog w) A (pyIter x') (fun it s₂ => wpAny (model prog w) A (newList []) (fun acc s₃ =>
      wpAny (model prog w) A (newFunctionEnv scope env.globals cl [] env.qual none .none (some env)) (fun cenv s₄ =>
        codeAny (model prog w) A (.compStart (.ListComp elt [⟨.Name x px, iter, [], 0⟩] scope pos) 0 it acc { cenv with scope := relabel scope env }) (RR acc cenv.locals) s₄) E s₃) E s₂) E s₁) E s := by
  refine wpAny_mono (src s E hx) (fun x' s₁ q => ?_) fun _ _ e => e
  obtain ⟨k₁, q⟩ := q
  refine wpAny_mono q (fun it s₂ q => ?_) fun _ _ e => e
  obtain ⟨k₂, I, fp, P, St, rfl, W, hst, hfp, hI₁, hit, hfps, hP⟩ := q
  rw [List.length_map] at W
  refine wpAny_newObj_type (wpAny_newFunctionEnv hcell (by intro y hy; simp at hy) (fun h₁ hns₁ hsb₁ => ?_) hkind)
  dsimp only at hns₁ hsb₁ ⊢
  generalize hH2 : s₂.heap.push { cls := .type "list", dict := none, data := .seq ([] : List Value).toArray } = H2 at hns₁ hsb₁ ⊢
  have hC : H2.objs.size = s₂.heap.objs.size + 1 := by rw [← hH2, Heap.size_push]
  have hDC : s₂.heap.objs.size ≠ H2.objs.size := by rw [hC]; exact Nat.ne_of_lt (Nat.lt_succ_self _)
  have below : ∀ b, b < s₂.heap.objs.size → b ≠ H2.objs.size ∧ b ≠ s₂.heap.objs.size := fun b hb => ⟨by rw [hC]; exact Nat.ne_of_lt (Nat.lt_succ_of_lt hb), Nat.ne_of_lt hb⟩
  have hDf : s₂.heap.objs.size ∉ fp := fun hm => Nat.lt_irrefl _ (hfp _ hm)
  have hCf : H2.objs.size ∉ fp := fun hm => by have := hfp _ hm; rw [hC] at this; exact Nat.lt_irrefl _ (Nat.lt_of_succ_lt this)
  have old : Ext s₂.heap h₁ := fun b o e => hsb₁.extBut b o (below b (Heap.lt_size e)).1 (Heap.get?_push_of_some _ (hH2 ▸ Heap.get?_push_of_some _ e))
  have hacc : h₁.get? s₂.heap.objs.size = some (lst #[] 0) := hsb₁.extBut _ _ hDC (Heap.get?_push_of_some _ (hH2 ▸ Heap.get?_push_size _ rfl))
  have hst₁ : St 0 h₁ := W.frame _ _ _ hst fun b _ o e => old b o e
  have hs12 : Ext s.heap s₂.heap := (keeps_ext k₁).trans (keeps_ext k₂)
  have hRn : s.heap.get? s₂.heap.objs.size = none := none_of_ext hs12
  have hCn2 : s₂.heap.get? H2.objs.size = none := Heap.get?_none_of_le (by rw [hC]; exact Nat.le_succ _)
  have hCn : s.heap.get? H2.objs.size = none := by
    cases q : s.heap.get? H2.objs.size with
    | none => rfl
    | some o => rw [hs12 _ _ q] at hCn2; cases hCn2
  have hIn : s.heap.get? I = none := by
    cases q : s.heap.get? I with
    | none => rfl
    | some o => rw [keeps_ext k₁ _ _ q] at hI₁; cases hI₁
  have loop : ∀ s₃ : Shared, s₃ = { s₂ with heap := h₁, toks := s₂.toks + ([] : List (Str × Value)).length } →
      codeAny (model prog w) A (.compLoop (.ListComp elt [⟨.Name x px, iter, [], 0⟩] scope pos) 0 (.ref I) (.ref s₂.heap.objs.size) (compEnvC scope cl H2.objs.size env))
        (RR (.ref s₂.heap.objs.size) H2.objs.size) s₃ := by
    rintro s₃ rfl
    refine rows_loop (env := compEnvC scope cl H2.objs.size env) (ways := ways) W hst₁ hacc hns₁ hDf hCf hlen (fun i H st => by obtain ⟨o, _, e, _⟩ := hit i H st; exact .of e) ?_ (lookup_relabel_local hxl) (by simpa [compEnvC, relabel] using hkind) hd ?_ he ?_
    · intro i v r hv hr
      refine (hP i v (dInts r) hv (by rw [List.getElem?_map, hr]; rfl)).mono (fun a q => ⟨?_, ?_⟩) fun a o q e => old a o (keeps_ext k₂ a o e)
      · rintro rfl
        obtain ⟨o, e⟩ := Option.isSome_iff_exists.mp q.2
        exact absurd (Heap.lt_size (keeps_ext k₂ _ _ e)) (Nat.lt_irrefl _)
      · rintro rfl
        exact dom_none hI₁ q.2
    · intro h' m' fr hn
      refine hg _ h' fun a o e => ?_
      have e' := hx a o e
      exact fr a o (fun q => by rw [show a = H2.objs.size from q, hCn] at e'; cases e') (fun q => by rw [q, hRn] at e'; cases e') (fun q => by rw [q, hIn] at e'; cases e') (old a o (hs12 a o e'))
    · intro h' tk m' items n' ars hn' fr hg' hi hw nr
      refine hRR _ _ m' _ items n' ars ?_ hn' hCn hRn hg' hi hw ?_
      · obtain ⟨h₂, t₂, e₂, _⟩ := keeps_trans k₁ k₂
        exact ⟨h', tk, by rw [e₂], fun a o e' => fr a o (fun q => by rw [show a = H2.objs.size from q, hCn] at e'; cases e') (fun q => by rw [q, hRn] at e'; cases e') (fun q => by rw [q, hIn] at e'; cases e') (old a o (hs12 a o e'))⟩
      · refine ⟨nr.1, fun a ha => ⟨?_, fun hm => ?_⟩, nr.2.2⟩
        · have := (nr.2.1 a ha).1
          cases q : s.heap.get? a with
          | none => rfl
          | some o => rw [show (({ s₂ with heap := h₁, toks := s₂.toks + ([] : List (Str × Value)).length } : Shared).heap.get? a) = some o from old a o (hs12 a o q)] at this; cases this
        · refine (nr.2.1 a ha).2 ?_
          simp only [List.mem_cons, List.not_mem_nil, or_false] at hm ⊢
          exact hm.imp id .inl
  exact codeAny_compStart_list (loop _ rfl) (W.self 0 _ _ _ hst₁ (loop _ rfl))

theorem merged_rows {s₀ s : Shared} {L : Addr} {ways : List (List Int)} {Q : Flow → Shared → Prop} (hh : A.handled = none) (W : Wd s₀.heap) (F : Fm (mEnv L) s₀.heap s₀ s [("ways", dWays ways)]) (hlen : ways.length ≤ LIM)
    (hQ : ∀ h' tk m R items n (ars : Rows), Fr s₀.heap L h' m → m "rows" = some (.ref R) → h'.get? R = some (lst items n) → s₀.heap.get? R = none → items.toList = ars.map (fun p => .ref p.1) → ars.map (·.2) = ways → (ars.map (·.1)).Nodup →
      (∀ a ∈ ars.map (·.1), s₀.heap.get? a = none ∧ a ≠ R) → (∀ p ∈ ars, RowIs h' p) → Q .next { s₀ with heap := h', toks := tk }) :
    wpAny (model prog w) A (exec (stmtAt (bodyOf 7) 0) (mEnv L)) Q E s := by
  have hk : (mEnv L).scope.kind = .function := rfl
  have W' : Wd s.heap := W.ext F.ext
  refine (?_ : wpAny _ A (exec (.Assign [.Name "rows" _] (.ListComp _ [⟨.Name "way" _, _, [], 0⟩] _ _) _) (mEnv L)) Q E s)
  rw [exec_Assign_Name_used _ _ _ _ (by rfl)]
  refine wpAny_bind (wpAny_standAt (wpAny_bind ?_))
  refine (?_ : wpAny _ A (do let _ ← comprehension (.ListComp _ [⟨.Name "way" _, _, [], 0⟩] _ _) _ (mEnv L) _ (newList []) false (eval _ (mEnv L)) (some (PySem.assign (.Name "rows" _) (mEnv L)))) _ _ s)
  refine wpAny_bind (wpAny_mono (wpAny_comprehension_free (cl := []) (Q := fun _ s' => Q .next s') rfl (by intro _; rfl) (by rfl) (by rfl) (by decide) ?_) (fun _ s' hq => wpAny_pure (wpAny_pure hq)) fun _ _ e => e)
  refine rows_open (ways := ways) (RR := fun acc C => compPost (model prog w) A E (some (PySem.assign (.Name "rows" _) (mEnv L))) (fun _ s' => Q .next s') acc C) (src_list hh (val_var (F.var "ways" (dWays ways) (by simp)) hk)) (Ext.refl _) (by decide) (by rfl) (by rfl) hlen (by decide) ?_ rfl ?_
  · intro C h' e
    exact (W'.ext e).boot (by simp [bootNames]) (by rfl) (by rfl) rfl rfl (by decide)
  · intro R C m s' items n ars k hn hC hR hg hi hw nr
    have F' := F.keeps k
    obtain ⟨⟨hs', tk', rfl⟩, ⟨mm, fr⟩, _, _⟩ := F'
    refine (?_ : wpAny _ A (PySem.assign (.Name "rows" _) (mEnv L) (.ref R)) _ _ _)
    have hLC : C ≠ L := fun q => by
      obtain ⟨mm, fr⟩ := F.fr
      obtain ⟨o, _, _, e, _⟩ := fr.ns
      rw [show (mEnv L).locals = L from rfl, ← q, hC] at e; cases e
    have hRL : R ≠ L := fun q => by
      obtain ⟨mm, fr⟩ := F.fr
      obtain ⟨o, _, _, e, _⟩ := fr.ns
      rw [show (mEnv L).locals = L from rfl, ← q, hR] at e; cases e
    have hRC : R ≠ C := seq_ne_ns hn ⟨_, _, _, hg, rfl⟩
    refine wpAny_assign_Name (wpAny_storeName_local (by rfl) fr.ns (fun h₂ hn₂ hs₂ => ?_) (by rfl))
    refine ⟨m, hn.sameBut hs₂ hLC, fun h₃ hs₃ => ?_⟩
    have n0 : ∀ a, s.heap.get? a = none → s₀.heap.get? a = none := fun a e => by
      cases q : s₀.heap.get? a with
      | none => rfl
      | some o => rw [F.ext a o q] at e; cases e
    refine hQ h₃ (tk' + 1) _ R items n ars ⟨hn₂.sameBut hs₃ hLC.symm, fun b o e => ?_, fr.above⟩ (by simp) (hs₃.extBut _ _ hRC (hs₂.extBut _ _ hRL hg)) (n0 R hR) hi hw nr.1 ?_ ?_
    · refine hs₃.extBut b o (fun q => ?_) (hs₂.extBut b o (Nat.ne_of_lt (Nat.lt_of_lt_of_le (Heap.lt_size e) fr.above)) (fr.keep b o e))
      have := F.ext b o e
      rw [q, hC] at this; cases this
    · intro a ha
      obtain ⟨h1, h2⟩ := nr.2.1 a ha
      simp only [List.mem_cons, List.not_mem_nil, or_false, not_or] at h2
      exact ⟨n0 a h1, h2.2⟩
    · intro p hp
      refine (nr.2.2 p hp).at fun o e => ?_
      obtain ⟨h1, h2⟩ := nr.2.1 _ (List.mem_map_of_mem hp)
      simp only [List.mem_cons, List.not_mem_nil, or_false, not_or] at h2
      refine hs₃.extBut _ o h2.1 (hs₂.extBut _ o (fun q => ?_) e)
      obtain ⟨mm, fr⟩ := F.fr
      obtain ⟨o', _, _, e', _⟩ := fr.ns
      rw [show p.1 = L from q] at h1
      rw [show (mEnv L).locals = L from rfl, h1] at e'; cases e'
end
end Mine

namespace Mine
open PySem PySem.W PyProof.Rows PySem.Challenge

theorem dWays_rep {P : Addr → Prop} {h : Heap} {R : Addr} {items : Array Value} {n : Nat} {ars : Rows} (hg : h.get? R = some (lst items n)) (hR : P R) (hi : items.toList = ars.map (fun p => .ref p.1)) (hk : ∀ a ∈ ars.map (·.1), P a) (hr : ∀ p ∈ ars, RowIs h p) (hl : ∀ p ∈ ars, p.2.length ≤ LIM) (hf : ars.length ≤ LIM) :
    RepP P h (dWays (ars.map (·.2))) (.ref R) := by
  refine ⟨by simpa using hf, R, items, n, rfl, hR, hg, ?_⟩
  rw [hi]
  clear hi hg hf
  induction ars with
  | nil => rfl
  | cons p l ih =>
    obtain ⟨vs, nn, g, r⟩ := hr p (.head _)
    refine ⟨.ref p.1, _, rfl, ⟨by simpa using hl p (.head _), p.1, vs, nn, rfl, hk p.1 (by simp), g, ints_any r⟩, ?_⟩
    exact ih (fun a ha => hk a (by rw [List.map_cons]; exact .tail _ ha)) (fun q hq => hr q (.tail _ hq)) fun q hq => hl q (.tail _ hq)

section
variable {prog : Program} {w : World} {A : Around} {E : Value → Shared → Prop}

/-- the call of _c3_merge in the try -/
theorem merged_try {s₀ s : Shared} {L R : Addr} {m : Str → Option Value} {items : Array Value} {n : Nat} {ars : Rows} {outer : List Env} {Q : Flow → Shared → Prop} (hh : A.handled = none) (hroom : A.depth < recursionLimit)
    (hframes : (c3Run (ars.map (·.2)) []).1 = none → A.frames = some outer ∧ Frs s.heap outer) (W : Wd s₀.heap) (hsame : ∃ h tk, s = { s₀ with heap := h, toks := tk }) (F : Fr s₀.heap L s.heap m) (mR : m "rows" = some (.ref R)) (hg : s.heap.get? R = some (lst items n)) (hR : s₀.heap.get? R = none)
    (hi : items.toList = ars.map (fun p => .ref p.1)) (hnd : (ars.map (·.1)).Nodup) (hkeys : ∀ a ∈ ars.map (·.1), s₀.heap.get? a = none ∧ a ≠ R) (hrows : ∀ p ∈ ars, RowIs s.heap p)
    (hlens : ∀ p ∈ ars, p.2.length ≤ LIM) (hfew : ars.length ≤ LIM) (hsum : total (ars.map (·.2)) ≤ LIM)
    (hret : ∀ (ars' : Rows) out v s', ars'.map (·.1) = ars.map (·.1) → c3Run (ars.map (·.2)) [] = (some out, ars'.map (·.2)) → Chg (ars.map (·.1)) s s' → (∀ p ∈ ars', RowIs s'.heap p) → RepP (fun x => s.heap.get? x = none) s'.heap (dInts out) v →
      wpAny (model prog w) A (storeName (mEnv L) "told" v) (fun _ => Q .next) E s')
    (hraise : ∀ (ars' : Rows) e hr h' tk base t, ars'.map (·.1) = ars.map (·.1) → c3Run (ars.map (·.2)) [] = (none, ars'.map (·.2)) → (∀ b o, b ∉ ars.map (·.1) → s.heap.get? b = some o → hr.get? b = some o) → (∀ p ∈ ars', RowIs hr p) →
      Ext base hr → (∀ b o, b ∉ fAddrs outer → Dom s.heap b → hr.get? b = some o → base.get? b = some o) → Heap.FlyingW base outer e (.type "RuntimeError") (.ref t) h' → hr.UpToSlots h' → E (.ref e) { s with heap := h', toks := tk })
    {py pos np cp ap : Pos} :
    wpAny (model prog w) A (exec (.Assign [.Name "told" py] (.Call (.Name "_c3_merge" np) [.Name "rows" ap] [] cp) pos) (mEnv L)) Q E s := by
  have hk : (mEnv L).scope.kind = .function := rfl
  have hx : Ext s₀.heap s.heap := fun b o e => F.keep b o e
  have W' : Wd s.heap := W.ext hx
  refine wpAny_Assign_Name ?_ (by rfl)
  obtain ⟨o, pm, doc, ho, hd, hc⟩ := W'.c3
  refine wpAny_Call_ofName (W'.def (x := "_c3_merge") (v := .ref 19) (by simp [defNames]) (by rfl) hk rfl (by decide) _ _ _ _ (Ext.refl _) (callWith_def hd ?_))
  refine wpAny_items_cons (name_at F.ns mR (wpAny_items_nil ⟨ho, ?_⟩))
  refine c3_call hh hroom hframes W hx (fun a ha => (hkeys a ha).1) hnd hrows hg (fun hm => (hkeys R hm).2 rfl) hi hlens hfew hsum (fun ars' out v s' h1 h2 h3 h4 h5 => ?_) hraise
  exact hret ars' out v s' h1 h2 h3 h4 h5

theorem law_merged {h : Heap} (W : Wd h) (hroom : A.depth + 1 < recursionLimit) (hh : A.handled = none) {ways : List (List Int)} {out : List Int} {rows' : List (List Int)} (hrun : c3Run ways [] = (some out, rows')) (hlens : ∀ r ∈ ways, r.length ≤ LIM) (hfew : ways.length ≤ LIM) (hsum : total ways ≤ LIM) (hlens' : ∀ r ∈ rows', r.length ≤ LIM) :
    Fn prog w A h 46 [dWays ways] (.tup [dInts out, dWays rows']) := by
  obtain ⟨o, pm, doc, ho, hd, hc⟩ := W.mer
  refine fn_call ["ways"] ho hd W.lim hc (by omega) ?_ rfl (by decide) ?_ ?_ (by rfl) (by rfl) (by rfl)
  · intro vs hvs
    match vs, hvs with
    | [a], _ => rfl
  · intro L x hx
    rw [List.mem_singleton.mp hx]
    exact .inl (by rfl)
  · intro s₀ s L e lim F args
    have hk : (mEnv L).scope.kind = .function := rfl
    have W₀ : Wd s₀.heap := W.ext e
    refine wpAny_execs_cons (merged_rows (A := A.deeper (mEnv L)) hh W₀ F hfew ?_)
    intro h₁ tk₁ m R items n ars fr mR hg hR hi hw hnd hkeys hrows
    have hl' : ∀ p ∈ ars, p.2.length ≤ LIM := fun p hp => hlens p.2 (hw ▸ List.mem_map_of_mem hp)
    have hf' : ars.length ≤ LIM := by rw [← hw, List.length_map] at hfew; exact hfew
    refine wpAny_execs_cons (wpAny_Try_except (wpAny_execs_cons (merged_try (A := A.deeper (mEnv L)) (outer := []) hh hroom (fun q => by rw [hw, hrun] at q; cases q) W₀ ⟨h₁, tk₁, rfl⟩ fr mR hg hR hi hnd hkeys hrows hl' hf' (hw ▸ hsum) ?_ ?_)))
    · intro ars' out' v s' hk' hrun' ch hrows' rv
      rw [hw, hrun] at hrun'
      simp only [Prod.mk.injEq, Option.some.injEq] at hrun'
      obtain ⟨rfl, hw'⟩ := hrun'
      have hLk : L ∉ ars.map (·.1) := fun hm => by
        obtain ⟨p, hp, q⟩ := List.mem_map.mp hm
        obtain ⟨vs, nn, g, _⟩ := hrows p hp
        exact ns_noseq fr.ns _ vs nn (q ▸ g) rfl
      have hRL : R ≠ L := fun q => ns_noseq fr.ns _ items n (q ▸ hg) rfl
      have fr' : s'.heap.Ns L m := fr.ns.at' fun o e => ch.get hLk e
      refine wpAny_storeName_local (by rfl) fr' (fun h₂ hn₂ hs₂ => ?_) (by rfl)
      refine wpAny_execs_nil (wpAny_execs_nil ?_)
      refine wpAny_execs_cons (wpAny_Return_some (wpAny_Tuple ?_))
      refine wpAny_items_cons (name_at hn₂ (v := v) (by simp) ?_)
      refine wpAny_items_cons (name_at hn₂ (v := .ref R) (by rw [if_neg (by decide)]; exact mR) (wpAny_items_nil ⟨by simp [sizeLine], ?_⟩))
      -- the end
      have e0 : ∀ a, h₁.get? a = none → s₀.heap.get? a = none := fun a q => by
        cases q' : s₀.heap.get? a with
        | none => rfl
        | some o => rw [fr.keep a o q'] at q; cases q
      have noL : ∀ o vs n, s'.heap.get? L = some o → o.data ≠ .seq vs n := ns_noseq fr'
      have hkeep : Ext s₀.heap h₂ := fun b o q => hs₂.extBut b o (Nat.ne_of_lt (Nat.lt_of_lt_of_le (Heap.lt_size q) fr.above)) (ch.get (fun hm => by rw [(hkeys b hm).1] at q; cases q) (fr.keep b o q))
      obtain ⟨hs', tk', rfl, _⟩ := id ch
      refine ⟨_, rfl, ⟨_, _, rfl, fun b o q => Heap.get?_push_of_some _ (hkeep b o q)⟩, ?_⟩
      have ext3 : Ext h₂ (h₂.push { cls := .type "tuple", data := .seq [v, .ref R].toArray }) := Ext.push _ _
      refine ⟨by simp [LIM], h₂.objs.size, _, 0, rfl, none_of_ext hkeep, Heap.get?_push_size _ rfl, ?_⟩
      refine ⟨v, [.ref R], rfl, ?_, .ref R, [], rfl, ?_, rfl⟩
      · exact ((rep_sameBut rv hs₂ noL).imp fun a q => e0 a q).ext ext3
      · rw [hw']
        refine dWays_rep (ars := ars') (n := n) (items := items) (ext3 _ _ (hs₂.extBut _ _ hRL (ch.get (fun hm => (hkeys R hm).2 rfl) hg))) hR (by
          rw [hi]
          have : ∀ (l l' : Rows), l.map (·.1) = l'.map (·.1) → l.map (fun p => Value.ref p.1) = l'.map (fun p => Value.ref p.1) := fun l l' q => by
            have q' := congrArg (List.map Value.ref) q
            rw [List.map_map, List.map_map] at q'
            exact q'
          exact this _ _ hk'.symm) (fun a ha => (hkeys a (hk' ▸ ha)).1) (fun p hp => (hrows' p hp).at fun o q => ext3 _ _ (hs₂.extBut _ o (fun q' => hLk (by rw [← hk', ← show p.1 = L from q']; exact List.mem_map_of_mem hp)) q)) (fun p hp => hlens' p.2 (hw'.symm ▸ List.mem_map_of_mem hp)) ?_
        have := congrArg List.length hk'
        simp only [List.length_map] at this
        omega
    · intro ars' e' hr h' tk base t hk' hrun'
      rw [hw, hrun] at hrun'
      cases hrun'
end
end Mine

namespace Mine
open PySem PySem.W PyProof.Rows PySem.Challenge

theorem sub_rt_base : isSubtype (.type "RuntimeError") (.type "BaseException") = pure true := by rw [isSubtype_type]; kernel_rfl
theorem sub_rt_rt : isSubtype (.type "RuntimeError") (.type "RuntimeError") = pure true := by rw [isSubtype_type]; kernel_rfl
theorem meta_rt : isSubtype (.type ((Manifest.find? "RuntimeError").elim "type" fun x => x.metatype)) (.type "tuple") = pure false := by rw [isSubtype_type]; kernel_rfl

section
variable {prog : Program} {w : World} {A : Around} {E : Value → Shared → Prop}

theorem law_refused {s : Shared} {v : Value} {lenv : Env} {Ll : Addr} {mL : Str → Option Value} {Q : Value → Shared → Prop} {ways rows' : List (List Int)} {hW : Heap} (WW : Wd hW) (hWx : Ext hW s.heap) (hWl : hW.get? Ll = none) (hroom : A.depth + 1 < recursionLimit) (hh : A.handled = none) (hfr : A.frames = some [lenv]) (hlf : lenv.frame = some Ll) (hlk : lenv.scope.kind ≠ .module) (hLn : s.heap.Ns Ll mL)
    (hrun : c3Run ways [] = (none, rows')) (hlens : ∀ r ∈ ways, r.length ≤ LIM) (hfew : ways.length ≤ LIM) (hsum : total ways ≤ LIM) (hlens' : ∀ r ∈ rows', r.length ≤ LIM) (hv : Rep s.heap (dWays ways) v)
    (hQ : ∀ v' h' tk, (∀ b o, b ≠ Ll → s.heap.get? b = some o → h'.get? b = some o) → s.heap.UpToSlots h' → Rep h' (.tup [.str "refused", dWays rows']) v' → Q v' { s with heap := h', toks := tk }) :
    wpAny (model prog w) A (call (.ref 46) [v]) Q E s := by
  have W : Wd s.heap := WW.ext hWx
  obtain ⟨o, pm, doc, ho, hd, hc⟩ := W.mer
  refine wpAny_call ?_
  refine call_cells (by omega) ho hd W.lim hc (binds := [("ways", v)]) (by rfl) (fun x hx => ?_) (fun h₁ tk₁ F X => ?_) (by rfl) (by rfl) (by rfl)
  · rw [List.mem_singleton.mp hx]; exact .inl (by rfl)
  generalize hLd : s.heap.objs.size = L at F X ⊢
  have hk : (mEnv L).scope.kind = .function := rfl
  have hx1 : Ext s.heap h₁ := fun b o e => F.keep b o e
  have FM : Fm (mEnv L) s.heap s { s with heap := h₁, toks := tk₁ } [("ways", dWays ways)] := ⟨⟨h₁, tk₁, rfl⟩, ⟨_, F⟩, ⟨_, X⟩, fun x d hx => by
    simp only [List.mem_cons, Prod.mk.injEq, List.not_mem_nil, or_false] at hx
    obtain ⟨rfl, rfl⟩ := hx
    exact .inl ⟨by rfl, _, v, F.ns, by rfl, hv.ext hx1⟩⟩
  refine wpAny_execs_cons (merged_rows (A := A.deeper (mEnv L)) hh W FM hfew ?_)
  intro h₂ tk₂ m R items n ars fr mR hg hR hi hw hnd hkeys hrows
  have hl' : ∀ p ∈ ars, p.2.length ≤ LIM := fun p hp => hlens p.2 (hw ▸ List.mem_map_of_mem hp)
  have hf' : ars.length ≤ LIM := by rw [← hw, List.length_map] at hfew; exact hfew
  have hRL : R ≠ L := fun q => ns_noseq fr.ns _ items n (q ▸ hg) rfl
  have hLk : L ∉ ars.map (·.1) := fun hm => by
    obtain ⟨p, hp, q⟩ := List.mem_map.mp hm
    obtain ⟨vs, nn, g, _⟩ := hrows p hp
    exact ns_noseq fr.ns _ vs nn (q ▸ g) rfl
  have hln2 : h₂.Ns Ll mL := hLn.keeps fun b o e => fr.keep b o e
  have hframes : (A.deeper (mEnv L)).frames = some [mEnv L, lenv] := Around.frames_deeper hfr
  have hfrs : Frs h₂ [mEnv L, lenv] := by
    intro env he
    simp only [List.mem_cons, List.not_mem_nil, or_false] at he
    rcases he with rfl | rfl
    · exact ⟨(by intro q; have q' : ScopeKind.function = ScopeKind.module := q; cases q'), L, m, rfl, fr.ns⟩
    · exact ⟨hlk, Ll, mL, hlf, hln2⟩
  refine wpAny_execs_cons (wpAny_Try_except (wpAny_execs_cons (merged_try (A := A.deeper (mEnv L)) (outer := [mEnv L, lenv]) hh hroom (fun _ => ⟨hframes, hfrs⟩) W ⟨h₂, tk₂, rfl⟩ fr mR hg hR hi hnd hkeys hrows hl' hf' (hw ▸ hsum) ?_ ?_)))
  · intro ars' out' v s' hk' hrun'
    rw [hw, hrun] at hrun'
    cases hrun'
  · intro ars' e hr h₃ tk₃ base t hk' hrun' hkp hrows' hbx hbk hfl sm₃
    rw [hw, hrun] at hrun'
    simp only [Prod.mk.injEq, true_and] at hrun'
    have hfa : fAddrs [mEnv L, lenv] = [L, Ll] := by
      have e1 : fAddrs [lenv] = [Ll] := by unfold fAddrs; rw [List.filterMap_cons, hlf]; rfl
      exact congrArg (L :: ·) e1
    have hLlk : Ll ∉ ars.map (·.1) := fun hm => by
      obtain ⟨o, _, _, e', _⟩ := hLn
      rw [(hkeys Ll hm).1] at e'; cases e'
    -- the frame looks at it
    refine wpAny_looks_onW (L := L) hframes rfl hfl fun h₄ hH₄ sm₄ => ?_
    refine wpAny_landsW hH₄ fun h₅ hfl₅ sm₅ => ?_
    have sm35 : hr.UpToSlots h₅ := (sm₃.trans sm₄).trans sm₅
    have hnr : hr.Ns L m := fr.ns.at' fun o e' => hkp L o hLk e'
    have hn₅ : h₅.Ns L m := sm35.ns hnr
    -- what stood and is no frame stands
    have stay : ∀ b o, b ≠ L → b ≠ Ll → b ∉ ars.map (·.1) → h₂.get? b = some o → base.get? b = some o := fun b o h1 h2 h3 e' => hbk b o (by rw [hfa]; simp [h1, h2]) (.of e') (hkp b o h3 e')
    have stayR : ∀ p ∈ ars', RowIs base p := fun p hp => (hrows' p hp).at fun o e' => by
      have hpk : p.1 ∈ ars.map (·.1) := hk' ▸ List.mem_map_of_mem hp
      refine hbk p.1 o ?_ ?_ e'
      · rw [hfa]
        simp only [List.mem_cons, List.not_mem_nil, or_false, not_or]
        exact ⟨fun q => hLk (q ▸ hpk), fun q => hLlk (q ▸ hpk)⟩
      · obtain ⟨q, hq, hqe⟩ := List.mem_map.mp hpk
        obtain ⟨vs, nn, g, _⟩ := hrows q hq
        rw [← hqe]; exact .of g
    have hbL : ∀ b o, s.heap.get? b = some o → b ≠ L := fun b o e' => Nat.ne_of_lt (Nat.lt_of_lt_of_le (Heap.lt_size e') fr.above)
    have hbk' : ∀ b o, s.heap.get? b = some o → b ∉ ars.map (·.1) := fun b o e' hm => by rw [(hkeys b hm).1] at e'; cases e'
    -- the world
    have hWb : Wd base := WW.ext fun b o e' => stay b o (hbL b o (hWx b o e')) (fun q => by rw [q, hWl] at e'; cases e') (hbk' b o (hWx b o e')) (fr.keep b o (hWx b o e'))
    obtain ⟨ob, hob, hoc⟩ := hfl₅.there
    refine wpAny_handleBy_builtin (X := "RuntimeError") (T := "RuntimeError") (b := true) sub_rt_base meta_rt sub_rt_rt ?_
    refine (hWb.ext hfl₅.1).boot (A := (A.deeper (mEnv L)).mark (some (.ref e))) (env := mEnv L) (x := "RuntimeError") (v := .type "RuntimeError") (by simp [bootNames]) (by rfl) hk rfl rfl (by decide) _ _ _ _ (Ext.refl _) ⟨rfl, ⟨ob, hob, hoc⟩, ?_⟩
    simp only [if_true]
    refine lands_againW hfl₅ fun h₆ hfl₆ sm₆ => ?_
    have hn₆ : h₆.Ns L m := sm₆.ns hn₅
    have hRb : base.get? R = some (lst items n) := stay R _ hRL (fun q => by
      rw [q] at hR
      obtain ⟨o, _, _, e', _⟩ := hLn
      rw [hR] at e'; cases e') (fun hm => (hkeys R hm).2 rfl) hg
    refine wpAny_execs_cons (wpAny_Return_some (wpAny_Tuple ?_))
    refine wpAny_items_cons (wpAny_Constant_str ?_)
    refine wpAny_items_cons (name_at hn₆ (v := .ref R) mR (wpAny_items_nil ⟨by simp [sizeLine], ?_⟩))
    have ext6 : ∀ (v : Value), Ext h₆ (h₆.push { cls := .type "tuple", data := .seq [v, .ref R].toArray }) := fun _ => Ext.push _ _
    refine hQ _ _ _ (fun b o hb e' => ext6 _ b o (hfl₆.1 b o (stay b o (hbL b o e') hb (hbk' b o e') (fr.keep b o e')))) ?_ ?_
    · intro b o e' hnf
      by_cases hb : b = Ll
      · obtain ⟨sl, q⟩ := (sm35.trans sm₆) b o (hkp b o (hbk' b o e') (fr.keep b o e')) hnf
        exact ⟨sl, ext6 _ _ _ q⟩
      · exact ⟨o.slots, ext6 _ b o (hfl₆.1 b o (stay b o (hbL b o e') hb (hbk' b o e') (fr.keep b o e')))⟩
    · refine ⟨by simp [LIM], h₆.objs.size, _, 0, rfl, trivial, Heap.get?_push_size _ rfl, ?_⟩
      refine ⟨_, [.ref R], rfl, ⟨_, rfl⟩, .ref R, [], rfl, ?_, rfl⟩
      rw [hrun']
      refine dWays_rep (ars := ars') (n := n) (items := items) (ext6 _ _ _ (hfl₆.1 _ _ hRb)) trivial (by
          rw [hi]
          have : ∀ (l l' : Rows), l.map (·.1) = l'.map (·.1) → l.map (fun p => Value.ref p.1) = l'.map (fun p => Value.ref p.1) := fun l l' q => by
            have q' := congrArg (List.map Value.ref) q
            rw [List.map_map, List.map_map] at q'
            exact q'
          exact this _ _ hk'.symm) (fun _ _ => trivial) (fun p hp => (stayR p hp).at fun o q => ext6 _ _ _ (hfl₆.1 _ _ q)) (fun p hp => hlens' p.2 (hrun'.symm ▸ List.mem_map_of_mem hp)) ?_
      have := congrArg List.length hk'
      simp only [List.length_map] at this
      omega
end
end Mine

namespace Mine
open PySem PySem.W PyProof.Rows PySem.Challenge

/-! dict.fromkeys of a list of ints -/
def fkBound : Obj := { cls := .type "builtin_function_or_method", data := .fields #[.builtin "dict.fromkeys", .type "dict"] }
theorem fk_type : typeOf (.builtin "dict.fromkeys") = pure (.type "classmethod_descriptor") := by show builtinType _ = _; rw [builtinType_eq_fast]; kernel_rfl
theorem fk_entry : entryFor table "dict.fromkeys" = some Builtin.«dict.fromkeys» := entryFor_of_tree (by kernel_rfl)
theorem fk_entry_loop : entryFor table "dict.fromkeys.loop" = some Builtin.«dict.fromkeys.loop» := entryFor_of_tree (by kernel_rfl)
theorem fk_quiet {as : Args} : (Code.builtin "dict.fromkeys" as).quiet = true := Code.quiet_builtin _ (by decide +kernel)
theorem fk_plain_loop : plainId "dict.fromkeys.loop" = true := by decide +kernel
theorem fk_isType : isType (.type "dict") = pure true := by first | rfl | kernel_rfl | (unfold isType; rw [isSubtype_type]; kernel_rfl)
theorem fk_owner : (kfb_private% "ownerAndName") "dict.fromkeys" = ("dict", "fromkeys") := by first | decide +kernel | kernel_rfl
theorem fk_find : findCls [] (.type "dict") (.type "type") (PySem.Str.ofString "fromkeys") = some (.get (.builtin "classmethod_descriptor.__get__") (.builtin "dict.fromkeys") .none (.type "dict")) := by
  first | rfl | kernel_rfl | decide +kernel
theorem fk_check {v : Value} : checkBoundCall "dict.fromkeys" ⟨[.type "dict", v], []⟩ = pure () := by first | kernel_rfl | rfl

section
variable {prog : Program} {w : World} {A : Around} {E : Value → Shared → Prop} {s : Shared}

theorem fk_run_get {M : Model} {P : Fin → Shared → Prop} (h : P (.done (.ret (.ref s.heap.objs.size))) { s with heap := s.heap.push fkBound }) :
    wpAny M A (Builtin.«classmethod_descriptor.__get__» ⟨[.builtin "dict.fromkeys", .none, .type "dict"], []⟩) P E s := by
  unfold Builtin.«classmethod_descriptor.__get__»
  refine wpAny_bind (wpAny_of_eq (a := (.builtin "dict.fromkeys", none, some (.type "dict"))) (by first | rfl | kernel_rfl) ?_)
  simp only [fk_owner]
  refine wpAny_bind (wpAny_of_eq (a := .type "dict") rfl ?_)
  refine wpAny_bind (wpAny_of_eq (a := true) fk_isType ?_)
  refine KFB.if_not rfl ?_
  refine wpAny_bind (wpAny_of_eq (a := true) F.kt_sub_dict ?_)
  refine KFB.if_not rfl ?_
  exact wpAny_bind (wpAny_newObj_type (wpAny_pure h))

theorem fk_getm {pl : Sem Bool} {Q : Value × List Value → Shared → Prop} (h : Q (.ref s.heap.objs.size, []) { s with heap := s.heap.push fkBound, toks := s.toks + 1 }) :
    wpAny (model prog w) A (getMethod (.type "dict") (PySem.Str.ofString "fromkeys") pl) Q E s := by
  have X : Frag.In [] s.heap := fun a o e => by cases e
  have hstub : opaqueClassAbove (.type "dict") = pure none := by unfold opaqueClassAbove; dsimp only; rw [show Manifest.isStub "dict" = false by decide +kernel]; rfl
  have ht : typeOf (.type "dict") = pure (.type "type") := by first | rfl | kernel_rfl
  have L0 : Looks (model prog w) s.heap (typeOf (.type "dict")) (.type "type") := Looks.of_pure ht
  have hg : findIn [] (.type "type") "__getattribute__" = some (some (.builtin "type.__getattribute__")) := type_tga
  unfold getMethod specialOf
  refine wpAny_bind (wpAny_bind (L0.here ((looks_findIn X hg).here ?_)))
  dsimp only
  rw [if_pos canon_tga]
  refine wpAny_bind (wpAny_mono (Q := fun v => Q (v, [])) (E := E) ?_ (fun _ _ z => wpAny_pure z) fun _ _ z => z)
  have LO : Looks (model prog w) s.heap (opaqueClassAbove (.type "dict")) none := Looks.of_pure hstub
  refine cls_open X LO L0 hg (looks_hook X (r := none) (by rfl)) (by show subIn [] _ _ = _; rfl) fk_find ?_
  show wpAny _ _ (holding [.builtin "dict.fromkeys"] (call (.builtin "classmethod_descriptor.__get__") [.builtin "dict.fromkeys", .none, .type "dict"]) >>= fun v => ret v) _ _ _
  refine wpAny_bind (wpAny_holding (wpAny_call_entry KFB.slot_get fk_type KFB.entry_get (fk_run_get ⟨_, rfl, wpAny_pure (wpAny_pure h)⟩) (KFB.args_get _ _ _)))
end
end Mine

namespace Mine
open PySem PySem.W PyProof.Rows PySem.Challenge

/-- one more key -/
def ddF (acc : List Int) (k : Int) : List Int := if k ∈ acc then acc else acc ++ [k]
/-- the keys, each once, as they first come -/
def dedupe (l : List Int) : List Int := l.foldl ddF []
def pairs (l : List Int) : List (Int × Value) := l.map fun k => (k, Value.none)
theorem stored_dd (acc : List Int) (k : Int) : stored (pairs acc) k Value.none = pairs (ddF acc k) := by
  unfold stored ddF pairs
  have ha : ((acc.map fun k => (k, Value.none)).any fun kv => decide (kv.1 = k)) = decide (k ∈ acc) := by
    induction acc with
    | nil => rfl
    | cons a acc ih =>
      rw [List.map_cons, List.any_cons, ih]
      simp only [List.mem_cons]
      by_cases h : a = k
      · subst h; simp
      · have h' : ¬ k = a := fun e => h e.symm
        simp [h, h']
  rw [ha]
  by_cases hm : k ∈ acc
  · simp only [hm, decide_true, if_true, List.map_map]
    refine List.map_congr_left fun a _ => ?_
    by_cases h : a = k <;> simp [h]
  · simp [hm]
theorem dedupe_snoc (l : List Int) (k : Int) : dedupe (l ++ [k]) = ddF (dedupe l) k := by simp [dedupe, List.foldl_append]
theorem ddF_len (acc : List Int) (k : Int) : (ddF acc k).length ≤ acc.length + 1 := by unfold ddF; split <;> simp
theorem fold_len (l acc : List Int) : (l.foldl ddF acc).length ≤ acc.length + l.length := by
  induction l generalizing acc with
  | nil => simp
  | cons a l ih =>
    have := ih (ddF acc a)
    have := ddF_len acc a
    simp only [List.foldl_cons, List.length_cons]
    omega
theorem dedupe_len (l : List Int) : (dedupe l).length ≤ l.length := by have := fold_len l []; simp only [List.length_nil, Nat.zero_add] at this; exact this

theorem dt_typeCall_0 : checkTypeCall "dict" ⟨[], []⟩ = pure () := by kernel_rfl
theorem dt_newCall_0 : checkBuiltinCall "dict.__new__" ⟨[.type "dict"], []⟩ = pure () := by kernel_rfl

section
variable {prog : Program} {w : World} {A : Around} {E : Value → Shared → Prop} {s : Shared}

theorem dt_new {Q₁ : Value → Shared → Prop} (h : Q₁ (.ref s.heap.objs.size) { s with heap := s.heap.push { cls := .type "dict", data := .dict #[] } }) :
    codeAny (model prog w) A (.call (.builtin "dict.__new__") ⟨[.type "dict"], []⟩) (wants Q₁ E) s := by
  refine codeAny_call_builtin F.kt_plain_dict_new F.kt_entry_dict_new (wpAny_of_eq dt_newCall_0 ?_)
  have hsub := F.kt_sub_dict
  have hmro := F.kt_mro_dict
  obtain ⟨hp, g, d, tk, os⟩ := s
  unfold Builtin.«dict.__new__»
  wp_walk
  exact h
theorem dt_call {Q : Value → Shared → Prop} (h : Q (.ref s.heap.objs.size) { s with heap := s.heap.push { cls := .type "dict", data := .dict #[] } }) :
    wpAny (model prog w) A (call (.type "dict") []) Q E s := by
  refine callType_codes (Q₁ := fun obj s₁ => obj = .ref s.heap.objs.size ∧ s₁ = { s with heap := s.heap.push { cls := .type "dict", data := .dict #[] } }) F.kt_called_dict dt_typeCall_0 F.entry_dict_init (dt_new ⟨rfl, rfl⟩) ?_
  rintro obj s₁ ⟨rfl, rfl⟩
  have hnew : (s.heap.push { cls := .type "dict", data := .dict #[] }).DictOf (intKind prog w) s.heap.objs.size [] := Heap.DictOf.new s.heap
  refine ⟨hnew.typeIs, F.args_dict_init_1 _, ?_⟩
  unfold Builtin.«dict.__init__»
  refine wpAny_bind ?_
  unfold Builtin.Dict.selfAndRest
  refine wpAny_bind (wpAny_notOrdered_dict hnew.typeIs ?_)
  show wpAny _ _ (pure (s.heap.objs.size, ([] : List Value))) _ _ _
  refine wpAny_pure ?_
  show wpAny _ _ (Builtin.Dict.addKeywords s.heap.objs.size [] >>= fun _ => ret .none) _ _ _
  refine wpAny_bind ?_
  unfold Builtin.Dict.addKeywords
  refine wpAny_of_eq (a := ()) (by rfl) ?_
  exact wpAny_pure ⟨rfl, h⟩

theorem fk_loop {d I ax : Addr} {vs : Array Value} {l : List Int} {R : Result → Shared → Prop} (hh : A.handled = none) (hne : ax ≠ I) (hdI : d ≠ I) (hda : d ≠ ax) (hl : l.length ≤ LIM)
    (hv : ∀ i, ∀ hi : i < l.length, ∃ t, vs[i]? = some (.int l[i] t)) (hsz : vs.size = l.length) {h₁ : Heap}
    (hR : ∀ h' tk, h'.DictOf (intKind prog w) d (pairs (dedupe l)) → (∀ b o, b ≠ d → b ≠ I → h₁.get? b = some o → h'.get? b = some o) → R (.ok (.ret (.ref d))) { s with heap := h', toks := tk }) :
    ∀ (k i : Nat) (h : Heap) (tk : Nat), l.length - i = k → i ≤ l.length → h.IsListIter I ax i → h.IsList ax vs → h.DictOf (intKind prog w) d (pairs (dedupe (l.take i))) → (∀ b o, b ≠ d → b ≠ I → h₁.get? b = some o → h.get? b = some o) →
      codeAny (model prog w) A (.builtin "dict.fromkeys.loop" ⟨[.ref d, .ref I, .none], []⟩) R { s with heap := h, toks := tk } := by
  have W := Walks.list (prog := prog) (w := w) (A := A.in1) hh I ax hne vs
  intro k
  induction k with
  | zero =>
    intro i h tk hk hi hit hL hD hkeep
    have hin : i = l.length := by omega
    refine codeAny_builtin fk_entry_loop ?_
    rw [Around.under_plainId fk_plain_loop _]
    show wpAny _ A.in1 (pyNext (.ref I) >>= _) _ _ _
    refine wpAny_bind (W.done { s with heap := h, toks := tk } _ _ (by rw [hsz, ← hin]; exact ⟨hit, hL⟩) fun h' tk' hk' => ?_)
    refine wpAny_pure (hR h' tk' ?_ fun b o h1 h2 e => hk' b o (by simpa using h2) (hkeep b o h1 h2 e))
    rw [hin, List.take_length] at hD
    exact hD.at fun o e => hk' d o (by simpa using hdI) e
  | succ k ih =>
    intro i h tk hk hi hit hL hD hkeep
    have hlt : i < l.length := by omega
    refine codeAny_builtin fk_entry_loop ?_
    rw [Around.under_plainId fk_plain_loop _]
    show wpAny _ A.in1 (pyNext (.ref I) >>= _) _ _ _
    refine wpAny_bind (W.item i { s with heap := h, toks := tk } _ _ (by omega) ⟨hit, hL⟩ fun v h' tk' hvi st hk' => ?_)
    obtain ⟨t, ht⟩ := hv i hlt
    rw [ht] at hvi
    cases hvi
    have hD' : h'.DictOf (intKind prog w) d (pairs (dedupe (l.take i))) := hD.at fun o e => hk' d o (by simpa using hdI) e
    show wpAny _ A.in1 (typeOf (.ref d) >>= _) _ _ _
    refine wpAny_bind (wpAny_typeOf hD'.typeIs ?_)
    refine KFB.if_so (by decide) ?_
    show wpAny _ A.in1 (holding _ (dictSet d _ _) >>= _) _ _ _
    have hlen : (pairs (dedupe (l.take i))).length ≤ sizeLine := by
      rw [pairs, List.length_map]
      have := dedupe_len (l.take i)
      have : (l.take i).length ≤ l.length := by rw [List.length_take]; omega
      exact lim_line (by omega)
    refine wpAny_bind (wpAny_holding (wpAny_dictSet_pairs (knd := intKind prog w) (intKind_is prog w l[i] t) hD' (fun h'' hD'' hs => ?_) hlen))
    refine wpAny_pure ⟨plainId_quiet fk_plain_loop _, ?_⟩
    rw [stored_dd, ← dedupe_snoc, show l.take i ++ [l[i]] = l.take (i + 1) from (List.take_append_getElem hlt)] at hD''
    have hI' : h''.IsListIter I ax (i + 1) := st.1.at fun o e => hs.extBut _ _ (Ne.symm hdI) e
    have hL' : h''.IsList ax vs := st.2.at fun o e => hs.extBut _ _ (Ne.symm hda) e
    exact ih (i + 1) h'' _ (by omega) hlt hI' hL' hD'' fun b o h1 h2 e => hs.extBut b o h1 (hk' b o (by simpa using h2) (hkeep b o h1 h2 e))

/-- the tree of dict.fromkeys over a list of ints -/
theorem fk_call {u a : Addr} {vs : Array Value} {n : Nat} {l : List Int} {Q : Value → Shared → Prop} (hh : A.handled = none) (hu : s.heap.get? u = some fkBound) (hg : s.heap.get? a = some (lst vs n)) (hr : Reps s.heap (l.map D.int) vs.toList) (hl : l.length ≤ LIM)
    (hQ : ∀ h' tk, h'.DictOf (intKind prog w) s.heap.objs.size (pairs (dedupe l)) → Ext s.heap h' → Q (.ref s.heap.objs.size) { s with heap := h', toks := tk }) :
    wpAny (model prog w) A (call (.ref u) [.ref a]) Q E s := by
  refine wpAny_call (codeAny_of_tree ?_)
  show wpAny _ A.in1 (callAny (.ref u) ⟨[.ref a], []⟩) _ _ s
  simp only [callAny]
  refine wpAny_bind (wpAny_load hu ?_)
  simp only [fkBound, show (Value.type "builtin_function_or_method" == Value.type "method" || Value.type "builtin_function_or_method" == Value.type "builtin_function_or_method" || Value.type "builtin_function_or_method" == Value.type "method-wrapper") = true by decide, if_true]
  refine KFB.if_so (by decide) ?_
  refine wpAny_bind (wpAny_of_eq (a := ()) fk_check ?_)
  refine wpAny_bind (wpAny_pure (wpAny_pure ?_))
  refine ⟨fk_quiet, codeAny_builtin fk_entry ?_⟩
  rw [Around.under_plainId (show plainId "dict.fromkeys" = true by decide +kernel) _]
  have hL : s.heap.IsList a vs := ⟨_, hg, rfl, n, rfl⟩
  have ha : a < s.heap.objs.size := Heap.lt_size hg
  have hD : (s.heap.push { cls := .type "dict", data := .dict #[] }).DictOf (intKind prog w) s.heap.objs.size [] := Heap.DictOf.new s.heap
  have hL' : (s.heap.push { cls := .type "dict", data := .dict #[] }).IsList a vs := hL.push _
  unfold Builtin.«dict.fromkeys»
  refine wpAny_bind (wpAny_of_eq (a := true) fk_isType ?_)
  refine KFB.if_not rfl ?_
  refine wpAny_bind (wpAny_of_eq (a := true) F.kt_sub_dict ?_)
  refine KFB.if_not rfl ?_
  refine KFB.if_not rfl ?_
  refine wpAny_bind (wpAny_bind (wpAny_rule (wpAny_pure ?_)))
  show wpAny _ _ (call (.type "dict") [] >>= _) _ _ _
  refine wpAny_bind (dt_call ?_)
  refine wpAny_holding ?_
  refine wpAny_bind (wpAny_typeOf hL'.typeIs ?_)
  refine wpAny_bind (wpAny_typeOf hD.typeIs ?_)
  refine KFB.if_not (by decide) ?_
  refine wpAny_bind (wpAny_typeOf hD.typeIs ?_)
  refine KFB.if_not (by decide) ?_
  refine wpAny_bind (wpAny_pyIter_list hL' ?_)
  refine wpAny_pure ⟨plainId_quiet fk_plain_loop _, ?_⟩
  have hsz : vs.size = l.length := by rw [← Array.length_toList, hr.length, List.length_map]
  have hz : (s.heap.push { cls := .type "dict", data := .dict #[] }).objs.size = s.heap.objs.size + 1 := Heap.size_push ..
  refine fk_loop (A := A) (d := s.heap.objs.size) (I := (s.heap.push { cls := .type "dict", data := .dict #[] }).objs.size) (ax := a) (vs := vs) (l := l) (h₁ := s.heap) hh (by rw [hz]; exact Nat.ne_of_lt (Nat.lt_succ_of_lt ha)) (by rw [hz]; exact Nat.ne_of_lt (Nat.lt_succ_self _)) (Nat.ne_of_gt ha) hl ?_ hsz ?_
    l.length 0 _ _ (by omega) (Nat.zero_le _) ⟨_, Heap.get?_push_size _ rfl, rfl, rfl⟩ (hL'.push _) (hD.push _) fun b o _ _ e => Heap.get?_push_of_some _ (Heap.get?_push_of_some _ e)
  · intro i hi
    obtain ⟨v, h1, t, h2⟩ := hr.get (i := i) (d := .int l[i]) (by simp [hi])
    rw [Array.getElem?_toList] at h1
    exact ⟨t, by rw [h1, h2]⟩
  · intro h' tk hD' hk
    refine hQ h' tk hD' fun b o e => hk b o ?_ ?_ e
    · exact Nat.ne_of_lt (Heap.lt_size e)
    · rw [hz]; exact Nat.ne_of_lt (Nat.lt_succ_of_lt (Heap.lt_size e))

theorem fk_callWith {pos : Pos} {u : Addr} {env : Env} {e : Expr} {d : D} {hW : Heap} {Q : Value → Shared → Prop} (x : Val prog w A hW env e d) (hx : Ext hW s.heap) (hu : s.heap.get? u = some fkBound)
    (h : ∀ v s₁, Keeps s s₁ → Rep s₁.heap d v → wpAny (model prog w) A (call (.ref u) [v]) Q E s₁)
    (he : starEach (e :: []) env = (false, eval e env) :: starEach [] env := by rfl) :
    wpAny (model prog w) A (callWith pos (.ref u) [] (backTo pos (starEach [e] env)) []) Q E s := by
  rw [he]
  unfold callWith
  refine wpAny_bind (wpAny_holding (wpAny_mono (Calls.evalArgs_plain (Q := fun x s₁ => s₁.heap.get? u = some fkBound ∧ wpAny (model prog w) A (call (.ref u) ([] ++ x.pos) x.kw) Q E s₁) ?_) (fun x s₁ h₁ => wpAny_bind (wpAny_standAt ?_)) fun _ _ x => x))
  · have := (vals_cons (prog := prog) (w := w) (A := A) (h := hW) x vals_nil he).use (pos := pos) (E := E) hx (Q := fun vs s₁ => s₁.heap.get? u = some fkBound ∧ wpAny (model prog w) A (call (.ref u) vs) Q E s₁) fun vs s₁ k₁ e₁ r₁ => by
      obtain ⟨v, r, rfl, rv, rfl⟩ := r₁
      exact ⟨keeps_ext k₁ _ _ hu, h v s₁ k₁ rv.any⟩
    rw [he] at this
    exact this
  · obtain ⟨ho, hcall⟩ := h₁
    rw [show ((backTo pos ((false, eval e env) :: starEach [] env)).any (·.1)) = false from rfl]
    simp only [List.any_nil, Bool.or_false]
    refine wpAny_bind (m := keeperOf (.ref u)) ?_
    unfold keeperOf
    refine wpAny_bind (wpAny_load ho ?_)
    simp only [fkBound, show (Value.type "builtin_function_or_method" != Value.type "method") = true by decide, show (Value.type "builtin_function_or_method" == Value.type "builtin_function_or_method" || Value.type "builtin_function_or_method" == Value.type "method-wrapper") = true by decide, if_true]
    refine wpAny_pure ?_
    exact wpAny_bind (wpAny_mono hcall (fun r s₂ hr => wpAny_bind (wpAny_holding (wpAny_point (wpAny_pure hr)))) fun _ _ x => x)

/-- dict.fromkeys(e) -/
theorem fk_eval {env : Env} {np apos pos : Pos} {f : Str} {e : Expr} {l : List Int} {hW : Heap} {Q : Value → Shared → Prop} (hh : A.handled = none) (hl : l.length ≤ LIM) (g : Glb prog w A hW env f (.type "dict")) (x : Val prog w A hW env e (dInts l)) (hx : Ext hW s.heap)
    (h : ∀ d s', Keeps s s' → (∀ b o, s.heap.get? b = some o → b < d) → s'.heap.DictOf (intKind prog w) d (pairs (dedupe l)) → Q (.ref d) s')
    (hbase : attributeBase (.Name f np) "fromkeys" env (eval (.Name f np) env) = eval (.Name f np) env) (hline : (apos.endLine == pos.line) = true)
    (hfew : ((backTo pos (starEach [e] env)).all (fun x => !x.1) && (backToKw pos (keywordEach [] env)).all (fun x => x.1.isSome) && decide ([e].length + ([] : List Keyword).length + (if ([] : List Keyword).isEmpty then 0 else 1) < 30)) = true)
    (he : starEach (e :: []) env = (false, eval e env) :: starEach [] env := by rfl) :
    wpAny (model prog w) A (eval (.Call (.Attribute (.Name f np) "fromkeys" apos) [e] [] pos) env) Q E s := by
  rw [arm_eval_Call, hbase]
  refine wpAny_bind (g np s E _ hx ?_)
  refine wpAny_bind (wpAny_standAt ?_)
  have hform : methodCallForm ([e].length + ([] : List Keyword).length) (backTo pos (starEach [e] env)) (backToKw pos (keywordEach [] env)) = true := hfew
  have hpos : methodCallPos true (.Name f np) env apos pos = pure pos := by unfold methodCallPos; simp [hline]
  unfold methodCall
  rw [hform]
  refine wpAny_bind (wpAny_holding (fk_getm ?_))
  refine wpAny_bind (wpAny_of_eq hpos ?_)
  refine fk_callWith x (hx.trans (Ext.push _ _)) (Heap.get?_push_size _ rfl) (fun v s₁ k₁ r₁ => ?_) he
  obtain ⟨hle, a, vs, n, rfl, _, hg, r⟩ := r₁
  have k0 : Keeps s s₁ := keeps_trans ⟨_, _, rfl, Ext.push _ _⟩ k₁
  refine fk_call hh (keeps_ext k₁ _ _ (Heap.get?_push_size _ rfl)) hg r hl fun h' tk hD hxx => h _ _ (keeps_trans k0 ⟨h', tk, rfl, hxx⟩) (fun b o e => Heap.lt_size (keeps_ext k0 _ _ e)) hD
end
end Mine

namespace Mine
open PySem PySem.W PyProof.Rows PySem.Challenge

def dedDflt (x : Int) (t : Tok) : Obj := { cls := .type "dict", data := .dict #[{ hash := x, key := .str (PySem.Str.ofString "unhashable_fallback") t, val := .bool false }] 1 }
/-- _deduplicate stands at 27 -/
def DedAt (h : Heap) : Prop :=
  ∃ o pm doc x t, h.get? 27 = some o ∧ o.data = .func { Calls.docDef "_deduplicate" (paramsOf 3) (bodyOf 3) (scopeOf 3) pm (.ref 26) doc with kwdefaults := .ref 20 } ∧ h.CodeRec (.ref 26) "_deduplicate" ∧ h.get? 20 = some (dedDflt x t)
theorem DedAt.ext {h h' : Heap} (x : DedAt h) (e : Ext h h') : DedAt h' :=
  let ⟨o, pm, doc, q, t, ho, hd, hc, hk⟩ := x; ⟨o, pm, doc, q, t, e _ _ ho, hd, hc.keeps e, e _ _ hk⟩

section
variable {prog : Program} {w : World} {A : Around} {E : Value → Shared → Prop} {s : Shared}
theorem ded_binds {x : Int} {t : Tok} {pm doc v : Value} (hk : s.heap.get? 20 = some (dedDflt x t)) :
    BindsTo s { Calls.docDef "_deduplicate" (paramsOf 3) (bodyOf 3) (scopeOf 3) pm (.ref 26) doc with kwdefaults := .ref 20 } ⟨[v], []⟩ [("params", v), ("unhashable_fallback", .bool false)] := by
  refine kp_binds (K := [(20, dedDflt x t)]) (fun a o e => ?_) fun S => ?_
  · by_cases h : a = 20
    · subst h
      have : o = dedDflt x t := by
        have e' : some (dedDflt x t) = some o := e
        exact (Option.some.inj e').symm
      rw [this]; exact hk
    · exfalso
      have : (List.lookup a [((20 : Addr), dedDflt x t)]) = none := by
        simp [List.lookup, beq_eq_false_iff_ne.mpr h]
      rw [this] at e; cases e
  · rfl
abbrev dedEnv (L : Addr) : Env := envOfC "_deduplicate" (scopeOf 3) L 27 (.ref 26)
theorem ded_call {hW : Heap} {v : Value} {l : List Int} {Q : Value → Shared → Prop} (hh : A.handled = none) (hroom : A.depth < recursionLimit) (W : Wd hW) (Dd : DedAt hW) (hx : Ext hW s.heap) (hr : Rep s.heap (dInts l) v) (hl : l.length ≤ LIM)
    (h : ∀ d s', Keeps s s' → (∀ b o, s.heap.get? b = some o → b < d) → s'.heap.DictOf (intKind prog w) d (pairs (dedupe l)) → Q (.ref d) s') :
    wpAny (model prog w) A (call (.ref 27) [v]) Q E s := by
  obtain ⟨o, pm, doc, x, t, ho, hd, hc, hk⟩ := Dd.ext hx
  refine wpAny_call ?_
  refine codeAny_call_def hroom ho hd (W.lim.keeps hx) hc rfl (ded_binds hk) (show ∀ x ∈ (scopeOf 3).names, x.2 ≠ .cell by decide) (fun x hx => ?_) ?_ (by rfl) (by rfl) (by rfl)
  · simp only [List.mem_cons, List.not_mem_nil, or_false] at hx
    rcases hx with rfl | rfl
    · rfl
    · rfl
  intro h₀ hn₀ hx₀
  have W₀ := (W.ext hx).ext hx₀
  refine wpAny_execs_cons (wpAny_Try_except ?_)
  refine wpAny_execs_cons (wpAny_Return_some ?_)
  have hk' : (dedEnv s.heap.objs.size).scope.kind = .function := rfl
  refine fk_eval (env := dedEnv s.heap.objs.size) (hW := h₀) hh hl (W₀.boot (by decide) (by rfl) hk' rfl rfl) (val_local (m := fun x => ([("params", v), ("unhashable_fallback", .bool false)] : List (Str × Value)).reverse.lookup x) hn₀ (by rfl) (hr.ext hx₀) (by rfl) hk') (Ext.refl _) ?_ (by rfl) (by rfl) (by rfl)
  intro d s' k hd' hD
  exact h d s' (keeps_trans ⟨h₀, _, rfl, hx₀⟩ k) (fun b o e => hd' b o (hx₀ _ _ e)) hD
end
end Mine

namespace Mine
open PySem PySem.W PyProof.Rows PySem.Challenge

/-- [(node, None) for node in l] -/
def dPairs (l : List Int) : List D := l.map fun k => .tup [.int k, .none]

section
variable {prog : Program} {w : World} {A : Around} {h : Heap} {env : Env}

theorem wd_big {h : Heap} (W : Wd h) : 61 < h.objs.size := by
  obtain ⟨o, _, _, ho, _⟩ := W.law
  exact Heap.lt_size ho

theorem reps_pairs {h : Heap} {P : Addr → Prop} : ∀ (l : List Int) (as : List Addr), as.length = l.length → (∀ (j : Nat) (a : Addr), as[j]? = some a → ∃ key k x, (pairs l)[j]? = some (k, x) ∧ (intKind prog w).is k key = true ∧ h.get? a = some { cls := .type "tuple", data := .seq #[key, x] }) →
    (∀ a ∈ as, P a) → RepsP P h (dPairs l) (as.map Value.ref)
  | [], [], _, _, _ => rfl
  | [], _ :: _, h1, _, _ => by cases h1
  | _ :: _, [], h1, _, _ => by cases h1
  | k :: l, a :: as, h1, h2, h3 => by
    obtain ⟨key, kk, x, e1, e2, e3⟩ := h2 0 a rfl
    have : (k, Value.none) = (kk, x) := Option.some.inj e1
    cases this
    obtain ⟨t, ht⟩ := Value.isInt_shape e2
    exact ⟨.ref a, as.map .ref, rfl, ⟨(by decide : 2 ≤ LIM), a, #[key, .none], 0, rfl, h3 a (by simp), e3, ⟨_, _, rfl, ⟨t, ht⟩, _, [], rfl, rfl, rfl⟩⟩, reps_pairs l as (by simpa using h1) (fun j b hj => h2 (j + 1) b hj) fun b hb => h3 b (by simp [hb])⟩

theorem val_dedItems {f g : Str} {np np' apos cpos pos ipos : Pos} {e : Expr} {l : List Int} (hh : A.handled = none) (hroom : A.depth < recursionLimit) (W : Wd h) (Dd : DedAt h) (hl : l.length ≤ LIM)
    (gl : Glb prog w A h env f (.type "list")) (gd : Glb prog w A h env g (.ref 27)) (x : Val prog w A h env e (dInts l))
    (hbase : attributeBase (.Call (.Name g np') [e] [] cpos) "items" env (eval (.Call (.Name g np') [e] [] cpos) env) = eval (.Call (.Name g np') [e] [] cpos) env) (hline : (apos.endLine == ipos.line) = true)
    (he : starEach (e :: []) env = (false, eval e env) :: starEach [] env := by rfl)
    (he' : starEach (.Call (.Attribute (.Call (.Name g np') [e] [] cpos) "items" apos) [] [] ipos :: []) env = (false, eval (.Call (.Attribute (.Call (.Name g np') [e] [] cpos) "items" apos) [] [] ipos) env) :: starEach [] env := by rfl) :
    Val prog w A h env (.Call (.Name f np) [.Call (.Attribute (.Call (.Name g np') [e] [] cpos) "items" apos) [] [] ipos] [] pos) (.list (dPairs (dedupe l))) := by
  intro s E q
  have hlen : (pairs (dedupe l)).length ≤ LIM := by
    rw [pairs, List.length_map]; exact Nat.le_trans (dedupe_len l) hl
  refine wpAny_Call_ofName (gl _ _ _ _ q (PyProof.Rows.callWith_type1 ?_ he' (by rfl)))
  refine wpAny_items_cons ?_ he'
  refine wpAny_Call_method (T := "dict") (id := "dict.items") hbase rfl hline F.plainAttrs_dict F.slot_dict_items F.type_dict_items ?_
  obtain ⟨o, pm, doc, hx, ht, ho, hd, hc, hk⟩ := id Dd
  refine wpAny_Call_ofName (gd _ _ _ _ q (callWith_def hd ((vals_cons x vals_nil he).use q fun vs s₁ k₁ e₁ r₁ => ⟨e₁ _ _ ho, ?_⟩) he))
  obtain ⟨v, r, rfl, rv, rfl⟩ := r₁
  refine ded_call hh hroom W Dd e₁ rv.any hl fun d s₂ k₂ hd₂ hD => ?_
  refine ⟨hD.typeIs, hD.mapOf.noDict, ?_⟩
  have hdS : (d == sysModules) = false := by
    have : d ≠ sysModules := fun e => by
      obtain ⟨o', _, _, ho', _⟩ := (W.ext e₁).law
      have h2 := hd₂ _ _ ho'
      rw [e] at h2
      exact absurd h2 (by decide)
    simpa using this
  refine method_meetsIn F.slot_dict_items F.entry_dict_items rfl (PySem.evalArgs_none ⟨rfl, hD.typeIs, F.args_dict_items_1 _, _, meets_dict_items (intKind prog w) d hdS, ⟨_, hD⟩, ?_⟩)
  refine wpAny_items_nil ?_
  obtain ⟨ep, hDA⟩ := hD.dictAt
  have k12 := keeps_trans k₁ k₂
  have k3 : Keeps s { s₂ with heap := s₂.heap.push { cls := .type "dict_items", data := .fields #[.ref d] } } := keeps_trans k12 (keeps_push _ _)
  refine kdx_call (knd := intKind prog w) hh ⟨_, Heap.get?_push_size _ rfl, rfl, rfl⟩ (hDA.push _) (lim_line hlen) fun h' tk acc c as hk' hS hal hG hacc => ?_
  refine ⟨keeps_trans k3 ⟨h', tk, rfl, hk'⟩, by simpa [dPairs, pairs] using hlen, _, acc, c, rfl, .inr (none_of_ext (keeps_ext k3)), hS, ?_⟩
  rw [hacc]
  refine reps_pairs (prog := prog) (w := w) (dedupe l) as (by rw [hal, pairs, List.length_map]) (fun j a hj => ?_) fun a ha => ?_
  · exact hG.pairs j a hj
  · refine .inr ?_
    cases e : s.heap.get? a with
    | none => rfl
    | some o => exact absurd (Heap.lt_size (keeps_ext k3 _ _ e)) (Nat.lt_asymm (hG.above a ha))
end
end Mine

namespace Mine
open PySem PySem.W PyProof.Rows

/-! the questions that sorting asks, answered by a strict order -/
def Ask (n : Nat) (lt : Nat → Nat → Bool) {α : Type} : KasT α → (α → Prop) → Prop
  | .ret a, Q => Q a
  | .ask i j k, Q => i < n ∧ j < n ∧ Ask n lt (k (lt i j)) Q
section
variable {n : Nat} {lt : Nat → Nat → Bool} {α β : Type}
theorem ask_bind {f : α → KasT β} {Q : β → Prop} : ∀ {t : KasT α}, Ask n lt t (fun a => Ask n lt (f a) Q) → Ask n lt (t.bind f) Q
  | .ret _, h => h
  | .ask _ _ _, ⟨h1, h2, h3⟩ => ⟨h1, h2, ask_bind h3⟩
theorem ask_mono {Q Q' : α → Prop} (hq : ∀ a, Q a → Q' a) : ∀ {t : KasT α}, Ask n lt t Q → Ask n lt t Q'
  | .ret a, h => hq a h
  | .ask _ _ _, ⟨h1, h2, h3⟩ => ⟨h1, h2, ask_mono hq h3⟩
/-- from the questions to the comparisons -/
theorem ask_wp {cmp : Nat → Nat → (Bool → Shared → Prop) → Shared → Prop} {s : Shared} (hc : ∀ i j C, i < n → j < n → C (lt i j) s → cmp i j C s) {Q : α → Shared → Prop} : ∀ {t : KasT α}, Ask n lt t (fun a => Q a s) → t.kasWp cmp Q s
  | .ret _, h => h
  | .ask i j k, ⟨h1, h2, h3⟩ => hc i j _ h1 h2 (ask_wp hc h3)

structure Strict (n : Nat) (lt : Nat → Nat → Bool) : Prop where
  irr : ∀ i, lt i i = false
  tr : ∀ i j k, lt i j = true → lt j k = true → lt i k = true
  tot : ∀ i j, i < n → j < n → i ≠ j → lt i j = true ∨ lt j i = true

def PP (n : Nat) (p : Array Nat) : Prop := p.Perm (List.range n).toArray
theorem PP.size {p : Array Nat} (h : PP n p) : p.size = n := by
  have := h.size_eq
  simpa using this
theorem PP.list {p : Array Nat} (h : PP n p) : p.toList.Perm (List.range n) := by
  have := Array.perm_iff_toList_perm.mp h
  simpa using this
theorem PP.below {p : Array Nat} (h : PP n p) (hn : 0 < n) (i : Nat) : p.getD i 0 < n := by
  rw [Array.getD_eq_getD_getElem?]
  cases e : p[i]? with
  | none => exact hn
  | some x =>
    have : x ∈ p.toList := by
      rw [← Array.getElem?_toList] at e
      exact List.mem_of_getElem? e
    have := h.list.mem_iff.mp this
    simpa using this
theorem PP.inj {p : Array Nat} (h : PP n p) {i j : Nat} (hi : i < n) (hj : j < n) (e : p.getD i 0 = p.getD j 0) : i = j := by
  have hd : p.toList.Nodup := h.list.nodup_iff.mpr List.nodup_range
  have hs := h.size
  rw [Array.getD_eq_getD_getElem?, Array.getD_eq_getD_getElem?, Array.getElem?_eq_getElem (by omega), Array.getElem?_eq_getElem (by omega)] at e
  simp only [Option.getD_some] at e
  have := (List.getElem_inj (i := i) (j := j) (h₀ := by simp; omega) (h₁ := by simp; omega) hd).mp (by simpa using e)
  exact this

variable {p : Array Nat}
theorem g_rev (hk : n ≤ p.size) (m i : Nat) (hm : m ≤ n) : (kas_rev p 0 m).getD i 0 = if i < m then p.getD (m - 1 - i) 0 else p.getD i 0 := by
  unfold kas_rev
  rw [Array.getD_eq_getD_getElem?, getElem?_mirror_all (by omega)]
  by_cases h : i < m
  · rw [if_pos ⟨Nat.zero_le _, h⟩, if_pos h, Array.getD_eq_getD_getElem?]
    congr 2
    omega
  · rw [if_neg (fun q => h q.2), if_neg h, Array.getD_eq_getD_getElem?]
theorem g_bub {k l : Nat} (hk : k < p.size) (hl : l ≤ k) (i : Nat) : (bubble p k (k - l)).getD i 0 = if i = l then p.getD k 0 else if l < i ∧ i ≤ k then p.getD (i - 1) 0 else p.getD i 0 := by
  rw [Array.getD_eq_getD_getElem?, getElem?_bubble hk _ (by omega)]
  have e : k - (k - l) = l := by omega
  rw [e]
  by_cases h1 : i = l
  · rw [if_pos h1, if_pos h1, Array.getD_eq_getD_getElem?]
  · rw [if_neg h1, if_neg h1]
    by_cases h2 : l < i ∧ i ≤ k
    · rw [if_pos h2, if_pos h2, Array.getD_eq_getD_getElem?]
    · rw [if_neg h2, if_neg h2, Array.getD_eq_getD_getElem?]
theorem PP.rev (h : PP n p) (i j : Nat) : PP n (kas_rev p i j) := (mirror_perm _ _ _ _).trans h
theorem PP.bub (h : PP n p) (i j : Nat) : PP n (bubble p i j) := (bubble_perm _ _ _).trans h

def Srt (lt : Nat → Nat → Bool) (p : Array Nat) (k : Nat) : Prop := ∀ i j, i < j → j < k → lt (p.getD i 0) (p.getD j 0) = true
def Dcr (lt : Nat → Nat → Bool) (p : Array Nat) (k : Nat) : Prop := ∀ i j, i < j → j < k → lt (p.getD j 0) (p.getD i 0) = true

theorem Strict.flip (S : Strict n lt) (h : PP n p) (hn : 0 < n) {i j : Nat} (hi : i < n) (hj : j < n) (hij : i ≠ j) (hf : lt (p.getD i 0) (p.getD j 0) = false) : lt (p.getD j 0) (p.getD i 0) = true := by
  rcases S.tot _ _ (h.below hn i) (h.below hn j) (fun e => hij (h.inj hi hj e)) with q | q
  · rw [hf] at q; cases q
  · exact q
theorem Strict.asym (S : Strict n lt) {a b : Nat} (h : lt a b = true) : lt b a = false := by
  cases e : lt b a with
  | false => rfl
  | true =>
    have := S.tr _ _ _ h e
    rw [S.irr] at this; cases this
theorem srt_succ (S : Strict n lt) {k : Nat} (hk : 1 ≤ k) (h : Srt lt p k) (hl : lt (p.getD (k - 1) 0) (p.getD k 0) = true) : Srt lt p (k + 1) := fun i j hij hj => by
  by_cases e : j = k
  · subst e
    by_cases e2 : i = j - 1
    · subst e2; exact hl
    · exact S.tr _ _ _ (h i (j - 1) (by omega) (by omega)) hl
  · exact h i j hij (by omega)
theorem dcr_succ (S : Strict n lt) {k : Nat} (hk : 1 ≤ k) (h : Dcr lt p k) (hl : lt (p.getD k 0) (p.getD (k - 1) 0) = true) : Dcr lt p (k + 1) := fun i j hij hj => by
  by_cases e : j = k
  · subst e
    by_cases e2 : i = j - 1
    · subst e2; exact hl
    · exact S.tr _ _ _ hl (h i (j - 1) (by omega) (by omega))
  · exact h i j hij (by omega)

theorem asc_spec (S : Strict n lt) (hP : PP n p) (hn : 0 < n) : ∀ (f k : Nat), 1 ≤ k → k + f ≤ n → Srt lt p k →
    Ask n lt (kas_asc p f k) (fun m => k ≤ m ∧ m ≤ k + f ∧ Srt lt p m ∧ (m < k + f → lt (p.getD m 0) (p.getD (m - 1) 0) = true))
  | 0, k, _, _, h => ⟨Nat.le_refl _, by omega, h, fun q => by omega⟩
  | f + 1, k, h1, h2, h => by
    refine ⟨hP.below hn _, hP.below hn _, ?_⟩
    cases e : lt (p.getD k 0) (p.getD (k - 1) 0) with
    | true =>
      dsimp only
      rw [if_pos rfl]
      exact ⟨Nat.le_refl _, by omega, h, fun _ => e⟩
    | false =>
      dsimp only
      rw [if_neg (by simp)]
      refine ask_mono (fun m hm => ?_) (asc_spec S hP hn f (k + 1) (by omega) (by omega) (srt_succ S h1 h (S.flip hP hn (by omega) (by omega) (by omega) e)))
      exact ⟨by omega, by omega, hm.2.2.1, fun q => hm.2.2.2 (by omega)⟩
theorem desc_spec (S : Strict n lt) (hP : PP n p) (hn : 0 < n) : ∀ (f k : Nat), 1 ≤ k → k + f ≤ n → Dcr lt p k →
    Ask n lt (kas_desc f p k 0) (fun r => r.1 = p ∧ r.2.2 = 0 ∧ k ≤ r.2.1 ∧ r.2.1 ≤ k + f ∧ Dcr lt p r.2.1)
  | 0, k, _, _, h => ⟨rfl, rfl, Nat.le_refl _, by simp, h⟩
  | f + 1, k, h1, h2, h => by
    refine ⟨hP.below hn _, hP.below hn _, ?_⟩
    cases e : lt (p.getD k 0) (p.getD (k - 1) 0) with
    | true =>
      dsimp only
      rw [if_pos rfl, if_neg (by omega)]
      refine ask_mono (fun m hm => ?_) (desc_spec S hP hn f (k + 1) (by omega) (by omega) (dcr_succ S h1 h e))
      exact ⟨hm.1, hm.2.1, by omega, by omega, hm.2.2.2.2⟩
    | false =>
      dsimp only
      rw [if_neg (by simp)]
      refine ⟨hP.below hn _, hP.below hn _, ?_⟩
      rw [S.flip hP hn (by omega) (by omega) (by omega) e]
      dsimp only
      rw [if_pos rfl]
      exact ⟨rfl, rfl, Nat.le_refl _, by simp, h⟩
theorem tail_spec (S : Strict n lt) (hP : PP n p) (hn : 0 < n) {k : Nat} (h1 : 1 ≤ k) (h2 : k ≤ n) (h : Dcr lt p k) :
    Ask n lt (kas_tail3 k n p) (fun r => 1 ≤ r.1 ∧ r.1 ≤ n ∧ PP n r.2 ∧ Srt lt r.2 r.1) := by
  have hs := hP.size
  have hS : Srt lt (kas_rev p 0 k) k := fun i j hij hj => by
    rw [g_rev (n := n) (by omega) _ _ h2, g_rev (n := n) (by omega) _ _ h2, if_pos (by omega), if_pos hj]
    exact h _ _ (by omega) (by omega)
  unfold kas_tail3
  refine ask_bind (ask_mono (fun m hm => ?_) (asc_spec S (hP.rev 0 k) hn (n - k) k h1 (by omega) hS))
  exact ⟨Nat.le_trans h1 hm.1, by omega, hP.rev 0 k, hm.2.2.1⟩
theorem count_spec (S : Strict n lt) (hP : PP n p) (hn : 0 < n) : Ask n lt (kas_count n p) (fun r => 1 ≤ r.1 ∧ r.1 ≤ n ∧ PP n r.2 ∧ Srt lt r.2 r.1) := by
  unfold kas_count
  refine ask_bind (ask_mono (fun m hm => ?_) (asc_spec S hP hn (n - 1) 1 (Nat.le_refl _) (by omega) (fun i j _ _ => by omega)))
  obtain ⟨m1, m2, m3, m4⟩ := hm
  by_cases e : m = n
  · rw [if_pos (by simpa using e)]
    exact ⟨m1, by omega, hP, m3⟩
  · rw [if_neg (by simpa using e)]
    by_cases e2 : m > 1
    · rw [if_pos e2]
      refine ⟨hP.below hn _, hP.below hn _, ?_⟩
      rw [m3 0 (m - 1) (by omega) (by omega)]
      dsimp only
      rw [if_pos rfl]
      exact ⟨m1, by omega, hP, m3⟩
    · rw [if_neg e2]
      have : m = 1 := by omega
      subst this
      unfold kas_descPart
      have hl := m4 (by omega)
      refine ask_bind (ask_mono (fun r hr => ?_) (desc_spec S hP hn (n - (1 + 1)) (1 + 1) (by omega) (by omega) (dcr_succ S (Nat.le_refl _) (fun i j _ _ => by omega) hl)))
      obtain ⟨r1, r2, r3, r4, r5⟩ := hr
      rw [if_neg (by omega), r1]
      exact tail_spec S hP hn (by omega) (by omega) r5
theorem place_spec (S : Strict n lt) (hP : PP n p) (hn : 0 < n) {k : Nat} (hk : k < n) (h : Srt lt p k) : ∀ (f l r : Nat), l ≤ r → r ≤ k → r - l ≤ f → (∀ i, i < l → lt (p.getD i 0) (p.getD k 0) = true) → (∀ i, r ≤ i → i < k → lt (p.getD k 0) (p.getD i 0) = true) →
    Ask n lt (kas_place p k f l r) (fun l' => l' ≤ k ∧ (∀ i, i < l' → lt (p.getD i 0) (p.getD k 0) = true) ∧ ∀ i, l' ≤ i → i < k → lt (p.getD k 0) (p.getD i 0) = true)
  | 0, l, r, h1, h2, h3, h4, h5 => by
    have : l = r := by omega
    subst this
    exact ⟨h2, h4, h5⟩
  | f + 1, l, r, h1, h2, h3, h4, h5 => by
    unfold kas_place
    by_cases e : l ≥ r
    · rw [if_pos e]
      have : l = r := by omega
      subst this
      exact ⟨h2, h4, h5⟩
    · rw [if_neg e]
      refine ⟨hP.below hn _, hP.below hn _, ?_⟩
      cases c : lt (p.getD k 0) (p.getD ((l + r) / 2) 0) with
      | true =>
        dsimp only
        rw [if_pos rfl]
        refine place_spec S hP hn hk h f l ((l + r) / 2) (by omega) (by omega) (by omega) h4 fun i hi hik => ?_
        by_cases e2 : i = (l + r) / 2
        · subst e2; exact c
        · exact S.tr _ _ _ c (h _ _ (by omega) hik)
      | false =>
        dsimp only
        rw [if_neg (by simp)]
        have c' := S.flip hP hn hk (by omega) (by omega) c
        refine place_spec S hP hn hk h f ((l + r) / 2 + 1) r (by omega) (by omega) (by omega) (fun i hi => ?_) h5
        by_cases e2 : i = (l + r) / 2
        · subst e2; exact c'
        · exact S.tr _ _ _ (h i ((l + r) / 2) (by omega) (by omega)) c'
theorem bin_spec (S : Strict n lt) (hn : 0 < n) : ∀ (f k : Nat) (p : Array Nat), k + f = n → PP n p → Srt lt p k → Ask n lt (kas_bin f p k) (fun q => PP n q ∧ Srt lt q n)
  | 0, k, p, h1, h2, h3 => ⟨h2, by rw [← show k = n by omega]; exact h3⟩
  | f + 1, k, p, h1, h2, h3 => by
    unfold kas_bin
    have hs := h2.size
    refine ask_bind (ask_mono (fun l hl => ?_) (place_spec S h2 hn (by omega) h3 k 0 k (by omega) (by omega) (by omega) (fun i hi => by omega) fun i hi hik => by omega))
    obtain ⟨l1, l2, l3⟩ := hl
    refine bin_spec S hn f (k + 1) _ (by omega) (h2.bub _ _) fun i j hij hj => ?_
    rw [g_bub (by omega) l1, g_bub (by omega) l1]
    by_cases a1 : i = l
    · rw [if_pos a1, if_neg (by omega), if_pos ⟨by omega, by omega⟩]
      exact l3 _ (by omega) (by omega)
    · rw [if_neg a1]
      by_cases b1 : j = l
      · rw [if_pos b1, if_neg (by omega)]
        exact l2 _ (by omega)
      · rw [if_neg b1]
        by_cases a2 : l < i ∧ i ≤ k
        · rw [if_pos a2, if_pos ⟨by omega, by omega⟩]
          exact h3 _ _ (by omega) (by omega)
        · rw [if_neg a2]
          by_cases b2 : l < j ∧ j ≤ k
          · rw [if_pos b2]
            by_cases c : i = j - 1
            · omega
            · exact h3 _ _ (by omega) (by omega)
          · rw [if_neg b2]
            exact h3 _ _ (by omega) (by omega)
theorem sort_spec (S : Strict n lt) (hn : 0 < n) : Ask n lt (kas_sort n) (fun q => PP n q ∧ Srt lt q n) := by
  unfold kas_sort
  refine ask_bind (ask_mono (fun r hr => ?_) (count_spec S (show PP n (List.range n).toArray from Array.Perm.refl _) hn))
  obtain ⟨r1, r2, r3, r4⟩ := hr
  by_cases e : r.1 < n
  · rw [if_pos e]
    have : max r.1 1 = r.1 := by omega
    rw [this]
    exact bin_spec S hn _ _ _ (by omega) r3 r4
  · rw [if_neg e]
    exact ⟨r3, by rw [← show r.1 = n by omega]; exact r4⟩
end
end Mine

namespace Mine
open PySem PySem.W PyProof.Rows

abbrev T3 := Int × Int × Int
def dT (t : T3) : D := .tup [.int t.1, .int t.2.1, .int t.2.2]
/-- tuples of three ints, as they are compared -/
def ltT (x y : T3) : Bool := if x.1 = y.1 then (if x.2.1 = y.2.1 then decide (x.2.2 < y.2.2) else decide (x.2.1 < y.2.1)) else decide (x.1 < y.1)
theorem ltT_irr (x : T3) : ltT x x = false := by simp [ltT]
theorem ltT_tr (x y z : T3) (h1 : ltT x y = true) (h2 : ltT y z = true) : ltT x z = true := by
  unfold ltT at *
  repeat' split at h1
  all_goals repeat' split at h2
  all_goals repeat' split
  all_goals simp only [decide_eq_true_eq] at *
  all_goals omega
theorem ltT_tot (x y : T3) (h : x ≠ y) : ltT x y = true ∨ ltT y x = true := by
  obtain ⟨a, b, c⟩ := x
  obtain ⟨a', b', c'⟩ := y
  by_cases h1 : a = a'
  · subst h1
    by_cases h2 : b = b'
    · subst h2
      have h3 : c ≠ c' := fun e => h (by rw [e])
      simp only [ltT, if_true, decide_eq_true_eq]
      omega
    · have h2' : ¬ b' = b := fun e => h2 e.symm
      simp only [ltT, if_true, h2, h2', if_false, decide_eq_true_eq]
      omega
  · have h1' : ¬ a' = a := fun e => h1 e.symm
    simp only [ltT, h1, h1', if_false, decide_eq_true_eq]
    omega
/-- there is one sorted order -/
theorem sorted_one : ∀ {l l' : List T3}, l.Perm l' → l.Pairwise (fun x y => ltT x y = true) → l'.Pairwise (fun x y => ltT x y = true) → l = l'
  | [], l', h, _, _ => (List.Perm.nil_eq h)
  | a :: l, [], h, _, _ => by have := h.length_eq; simp at this
  | a :: l, b :: l', h, h1, h2 => by
    have e : a = b := by
      by_cases e : a = b
      · exact e
      · exfalso
        have ha : a ∈ l' := by
          have := h.mem_iff.mp (List.mem_cons_self (a := a) (l := l))
          exact (List.mem_cons.mp this).resolve_left e
        have hb : b ∈ l := by
          have := h.mem_iff.mpr (List.mem_cons_self (a := b) (l := l'))
          exact (List.mem_cons.mp this).resolve_left fun q => e q.symm
        have q1 := (List.pairwise_cons.mp h1).1 b hb
        have q2 := (List.pairwise_cons.mp h2).1 a ha
        have := ltT_tr _ _ _ q1 q2
        rw [ltT_irr] at this; cases this
    subst e
    rw [sorted_one ((List.perm_cons a).mp h) (List.pairwise_cons.mp h1).2 (List.pairwise_cons.mp h2).2]

theorem reps_pick {P : Addr → Prop} {h : Heap} {ds : List D} {vs : List Value} (r : RepsP P h ds vs) : ∀ (l : List Nat), (∀ i ∈ l, i < ds.length) → RepsP P h (l.map fun i => ds.getD i .none) (l.map fun i => vs.getD i Value.none)
  | [], _ => rfl
  | i :: l, hl => by
    have hi := hl i (by simp)
    obtain ⟨v, h1, h2⟩ := r.get (i := i) (d := ds.getD i .none) (by rw [List.getD_eq_getElem?_getD, List.getElem?_eq_getElem hi]; rfl)
    exact ⟨vs.getD i .none, _, rfl, by rw [List.getD_eq_getElem?_getD, h1]; exact h2, reps_pick r l fun j hj => hl j (by simp [hj])⟩

section
variable {prog : Program} {w : World} {A : Around} {E : Value → Shared → Prop} {s : Shared}

/-- two of them are compared -/
theorem trip_lt {P P' : Addr → Prop} {x y : T3} {u v : Value} {Q : Bool → Shared → Prop} (hx : RepP P s.heap (dT x) u) (hy : RepP P' s.heap (dT y) v) (h : Q (ltT x y) s) : wpAny (model prog w) A (keyLt' (tuples' true) u v) Q E s := by
  obtain ⟨_, a, us, n, rfl, _, g, ra⟩ := hx
  obtain ⟨_, b, ws, k, rfl, _, g', rb⟩ := hy
  obtain ⟨_, _, e1, ⟨t1, rfl⟩, _, _, rfl, ⟨t2, rfl⟩, _, _, rfl, ⟨t3, rfl⟩, rfl⟩ := ra
  obtain ⟨_, _, e2, ⟨u1, rfl⟩, _, _, rfl, ⟨u2, rfl⟩, _, _, rfl, ⟨u3, rfl⟩, rfl⟩ := rb
  have s1 : us.size = 3 := by rw [← Array.length_toList, e1]; rfl
  have s2 : ws.size = 3 := by rw [← Array.length_toList, e2]; rfl
  refine kat_lt g rfl g' rfl ?_
  rw [e1, e2, s1, s2]
  refine kat_cons (wpAny_eqBool_int (kat_go (fun q => kat_yes (kat_cons (wpAny_eqBool_int (kat_go (fun q2 => kat_yes (kat_cons (wpAny_eqBool_int (kat_go (fun q3 => kat_yes (kat_nil ?_)) (fun q3 => kat_no ?_))))) (fun q2 => kat_no ?_))))) (fun q => kat_no ?_)))
  · have q : x.1 = y.1 := by simpa using q
    have q2 : x.2.1 = y.2.1 := by simpa using q2
    have q3 : x.2.2 = y.2.2 := by simpa using q3
    have : ltT x y = decide (3 < 3) := by simp [ltT, q, q2, q3]
    rw [← this]; exact h
  · have q : x.1 = y.1 := by simpa using q
    have q2 : x.2.1 = y.2.1 := by simpa using q2
    refine kat_one _ _ (PyProof.Rows.lt_int ?_)
    show Q (decide (x.2.2 < y.2.2)) s
    have : ltT x y = decide (x.2.2 < y.2.2) := by simp [ltT, q, q2]
    rw [← this]; exact h
  · have q : x.1 = y.1 := by simpa using q
    have q2 : ¬ x.2.1 = y.2.1 := by simpa using q2
    refine kat_one _ _ (PyProof.Rows.lt_int ?_)
    show Q (decide (x.2.1 < y.2.1)) s
    have : ltT x y = decide (x.2.1 < y.2.1) := by simp [ltT, q, q2]
    rw [← this]; exact h
  · have q : ¬ x.1 = y.1 := by simpa using q
    refine oneLt_int ?_
    have : ltT x y = decide (x.1 < y.1) := by simp [ltT, q]
    rw [← this]; exact h

theorem trip_tups {P : Addr → Prop} {h : Heap} : ∀ {ts : List T3} {vs : List Value}, RepsP P h (ts.map dT) vs → ∃ fs, KatTups h vs fs ∧ fs.length = ts.length ∧ ∀ v ∈ fs, ∃ i t, v = Value.int i t
  | [], _, r => ⟨[], by rw [show _ = [] from r]; exact KatTups.nil, rfl, fun _ hv => nomatch hv⟩
  | t :: ts, _, ⟨v, r, e, ⟨_, a, us, n, e1, _, g, ra⟩, b⟩ => by
    obtain ⟨fs, h1, h2, h3⟩ := trip_tups b
    obtain ⟨_, _, e2, ⟨t1, rfl⟩, _⟩ := ra
    subst e; subst e1
    refine ⟨.int t.1 t1 :: fs, KatTups.cons g rfl rfl ?_ h1, by simp [h2], fun v hv => ?_⟩
    · rw [← Array.getElem?_toList, e2]; rfl
    · rcases List.mem_cons.mp hv with rfl | hv
      · exact ⟨_, _, rfl⟩
      · exact h3 v hv

theorem sorted_trip {P : Addr → Prop} {l : Addr} {vs : List Value} {ts : List T3} {Q : Value → Shared → Prop} (hl : s.heap.IsList l vs.toArray) (hr : RepsP P s.heap (ts.map dT) vs) (h64 : ts.length < 64) (hnd : ts.Nodup)
    (h : ∀ p : List Nat, p.Perm (List.range ts.length) → (p.map fun i => ts.getD i (0, 0, 0)).Pairwise (fun x y => ltT x y = true) → Q (.ref (s.heap.objs.size + 1)) { s with heap := sortedAll s.heap vs (p.map fun i => vs.getD i Value.none).toArray }) :
    wpAny (model prog w) A (call (.builtin "sorted") [.ref l]) Q E s := by
  have hlen : vs.length = ts.length := by rw [hr.length, List.length_map]
  refine Calls.call_function_entry kind_sorted plain_sorted entry_sorted (args_sorted1 _) ?_
  unfold Builtin.«sorted»
  refine wpAny_bind (m := checkCount "sorted" 1 1 _) (wpAny_pure ?_)
  refine wpAny_bind (collect_list hl ?_ (by rw [sizeLine_eq]; omega))
  refine wpAny_bind (wpAny_newList ?_ (by rw [sizeLine_eq]; omega))
  have hz : ((s.heap.push (seqObj "list" #[] 0)).update s.heap.objs.size (Obj.mapSeq (· ++ vs.toArray))).objs.size = s.heap.objs.size + 1 := by rw [Heap.size_update, size_push']
  have keep : ∀ b o, s.heap.get? b = some o → (((s.heap.push (seqObj "list" #[] 0)).update s.heap.objs.size (Obj.mapSeq (· ++ vs.toArray))).push (seqObj "list" vs.toArray 0)).get? b = some o := fun b o q => by
    have hlt : b < s.heap.objs.size := Heap.lt_size q
    refine Heap.get?_push_of_some _ ?_
    rw [Heap.get?_update_ne _ _ _ _ (Nat.ne_of_lt hlt)]
    exact Heap.get?_push_of_some _ q
  have hoL : (((s.heap.push (seqObj "list" #[] 0)).update s.heap.objs.size (Obj.mapSeq (· ++ vs.toArray))).push (seqObj "list" vs.toArray 0)).get? (s.heap.objs.size + 1) = some (seqObj "list" vs.toArray 0) := by rw [← hz]; exact Heap.get?_push_size _ rfl
  show wpAny _ _ _ _ _ { s with heap := ((s.heap.push (seqObj "list" #[] 0)).update s.heap.objs.size (Obj.mapSeq (· ++ vs.toArray))).push (seqObj "list" vs.toArray 0) }
  rw [hz]
  refine wpAny_bind (wpAny_holding (wpAny_call_entry slot_list_sort ⟨_, hoL, rfl⟩ entry_list_sort ?body (args_list_sort _)))
  case body =>
    -- the heap at the start
    have hQ : ∀ out : Array Value, sortedAll s.heap vs out = sortedHeap (((s.heap.push (seqObj "list" #[] 0)).update s.heap.objs.size (Obj.mapSeq (· ++ vs.toArray))).push (seqObj "list" vs.toArray 0)) (s.heap.objs.size + 1) vs out := fun _ => rfl
    simp only [hQ] at h
    have hgt : ∀ b o, s.heap.get? b = some o → b ≠ s.heap.objs.size + 1 := fun b o q => Nat.ne_of_lt (Nat.lt_succ_of_lt (Heap.lt_size q))
    generalize hH : ((s.heap.push (seqObj "list" #[] 0)).update s.heap.objs.size (Obj.mapSeq (· ++ vs.toArray))).push (seqObj "list" vs.toArray 0) = H at *
    generalize hA : s.heap.objs.size + 1 = a at *
    rw [list_sort_plain]
    refine wpAny_bind (listItems_at hoL rfl ?_)
    refine wpAny_bind (listUpdate_at hoL rfl ?_ (by rw [List.size_toArray, sizeLine_eq]; omega) (Nat.zero_le _))
    obtain ⟨e1, ho1⟩ : ∃ e1, (H.update a (Obj.mapSeq fun _ => (#[] : Array Value))).get? a = some (seqObj "list" #[] e1) := ⟨_, get?_update_seq hoL fun _ => #[]⟩
    refine wpAny_bind (seqEpoch_at ho1 rfl ?_)
    refine wpAny_bind (wpAny_newTuple ?_ (by show vs.length ≤ _; rw [sizeLine_eq]; omega))
    refine wpAny_bind (wpAny_newList ?_ (Nat.zero_le _))
    refine wpAny_holding ?_
    have ho6 : (((H.update a (Obj.mapSeq fun _ => (#[] : Array Value))).push (seqObj "tuple" vs.toArray 0)).push (seqObj "list" #[] 0)).get? a = some (seqObj "list" #[] e1) := Heap.get?_push_of_some _ (Heap.get?_push_of_some _ ho1)
    have keep6 : Ext s.heap (((H.update a (Obj.mapSeq fun _ => (#[] : Array Value))).push (seqObj "tuple" vs.toArray 0)).push (seqObj "list" #[] 0)) := fun b o q => by
      refine Heap.get?_push_of_some _ (Heap.get?_push_of_some _ ?_)
      rw [Heap.get?_update_ne _ _ _ _ (hgt b o q)]
      exact keep b o q
    show wpAny (model prog w) _ _ _ _ { s with heap := ((H.update a (Obj.mapSeq fun _ => (#[] : Array Value))).push (seqObj "tuple" vs.toArray 0)).push (seqObj "list" #[] 0) }
    dsimp only
    have hsh : ∀ out : Array Value, (((H.update a (Obj.mapSeq fun _ => (#[] : Array Value))).push (seqObj "tuple" vs.toArray 0)).push (seqObj "list" #[] 0)).update a (Obj.mapSeq fun _ => out) = sortedHeap H a vs out := fun _ => rfl
    generalize ((H.update a (Obj.mapSeq fun _ => (#[] : Array Value))).push (seqObj "tuple" vs.toArray 0)).push (seqObj "list" #[] 0) = H6 at ho6 keep6 hsh ⊢
    by_cases h2 : vs.toArray.size < 2
    · rw [if_pos h2, if_pos h2]
      refine wpAny_bind (wpAny_pure ?_)
      rw [StateT.run_pure]
      refine wpAny_bind (wpAny_pure ?_)
      dsimp only
      refine wpAny_bind (seqEpoch_at ho6 rfl ?_)
      have hout : (arrOf (SortSt.mk' general' (vs.toArray.zip vs.toArray) #[] 7 none)).map (·.2) = vs.toArray := by
        show (vs.toArray.zip vs.toArray).map (·.2) = vs.toArray
        apply Array.toList_inj.mp
        rw [Array.toList_map, Array.toList_zip]
        exact List.map_snd_zip (Nat.le_refl _)
      rw [hout]
      refine wpAny_bind (listUpdate_at ho6 rfl ?_ (Nat.zero_le _) (by rw [sizeLine_eq]; simp; omega))
      simp only [bne_self_eq_false, Bool.false_eq_true, if_false]
      refine wpAny_pure ⟨_, rfl, wpAny_pure ⟨_, rfl, ?_⟩⟩
      have hh := h (List.range ts.length) (List.Perm.refl _) (by
        rw [List.size_toArray] at h2
        match ts, hlen with
        | [], _ => simp
        | [t], _ => simp
        | t :: t' :: ts, hl => simp at hl; omega)
      rw [hsh]
      have : (List.map (fun i => vs.getD i Value.none) (List.range ts.length)) = vs := by
        rw [← hlen]
        refine List.ext_getElem (by simp) fun i h1 h2 => ?_
        simp [h2]
      rw [this] at hh
      exact hh
    · rw [if_neg h2, if_neg h2]
      rw [List.size_toArray] at h2
      obtain ⟨fs, t1, t2, t3⟩ := trip_tups (hr.ext keep6)
      refine wpAny_bind (kat_kind (T := .type "int") t1 (by omega) (fun v hv => ?_) (by decide) ?_)
      · obtain ⟨i, t, rfl⟩ := t3 v hv
        exact .now
      have S : Strict ts.length (fun i j => ltT (ts.getD i (0, 0, 0)) (ts.getD j (0, 0, 0))) := by
        refine ⟨fun i => ltT_irr _, fun i j k => ltT_tr _ _ _, fun i j hi hj hij => ltT_tot _ _ fun e => hij ?_⟩
        rw [List.getD_eq_getElem?_getD, List.getD_eq_getElem?_getD, List.getElem?_eq_getElem hi, List.getElem?_eq_getElem hj] at e
        exact (List.getElem_inj hnd).mp (by simpa using e)
      have sp := sort_spec S (by omega)
      rw [show (Value.type "int" != Value.type "tuple") = true by decide]
      refine wpAny_bind (wpAny_mono (kat_run (κ := tuples' true) (ks := vs) (vs := vs) (Q := fun st' s' => s' = { s with heap := H6 } ∧ ∃ p : Array Nat, PP ts.length p ∧ Srt (fun i j => ltT (ts.getD i (0, 0, 0)) (ts.getD j (0, 0, 0))) p ts.length ∧ arrOf st' = p.map (kas_item (vs.toArray.zip vs.toArray)) ∧ failedOf st' = none)
        (G := fun p s' => s' = { s with heap := H6 } ∧ PP ts.length p ∧ Srt (fun i j => ltT (ts.getD i (0, 0, 0)) (ts.getD j (0, 0, 0))) p ts.length) rfl (by omega) (by omega)
        (fun p st' s' a1 a2 a3 a4 => ⟨a4.1, p, a4.2.1, a4.2.2, a2, a3⟩) ?_) ?_ fun _ _ e => e)
      · rw [hlen]
        refine ask_wp (lt := fun i j => ltT (ts.getD i (0, 0, 0)) (ts.getD j (0, 0, 0))) (n := ts.length) (fun i j C hi hj hC => ?_) (ask_mono (fun p hp => ⟨rfl, hp⟩) sp)
        have pick : ∀ i, i < ts.length → RepP P H6 (dT (ts.getD i (0, 0, 0))) (vs.getD i Value.none) := fun i hi => by
          obtain ⟨v, q1, q2⟩ := (hr.ext keep6).get (i := i) (d := dT (ts.getD i (0, 0, 0))) (by rw [List.getElem?_map, List.getD_eq_getElem?_getD, List.getElem?_eq_getElem hi]; rfl)
          have q3 : vs.getD i Value.none = v := by rw [List.getD_eq_getElem?_getD, q1]; rfl
          rw [q3]; exact q2
        exact trip_lt (s := { s with heap := H6 }) (pick i hi) (pick j hj) hC
      · rintro ⟨⟨⟩, st'⟩ s' ⟨rfl, p, hp, hs, har, hf⟩
        dsimp only
        refine wpAny_bind (seqEpoch_at ho6 rfl ?_)
        rw [kat_snds rfl har]
        have hpl := hp.list
        refine wpAny_bind (listUpdate_at ho6 rfl ?_ (Nat.zero_le _) (by rw [List.size_toArray, List.length_map, hpl.length_eq, List.length_range, sizeLine_eq]; omega))
        rw [hf]
        simp only [bne_self_eq_false, Bool.false_eq_true, if_false]
        refine wpAny_pure ⟨_, rfl, wpAny_pure ⟨_, rfl, ?_⟩⟩
        rw [hsh]
        refine h p.toList hpl ?_
        rw [List.pairwise_map]
        refine List.pairwise_iff_getElem.mpr fun i j hi hj hij => ?_
        have hsz := hp.size
        rw [Array.length_toList] at hi hj
        have := hs i j hij (by omega)
        simp only [Array.getD_eq_getD_getElem?, Array.getElem?_eq_getElem hi, Array.getElem?_eq_getElem hj, Option.getD_some] at this
        simpa using this
end

section
variable {prog : Program} {w : World} {A : Around} {h : Heap} {env : Env}
theorem val_sorted {f : Str} {np pos : Pos} {e : Expr} {ts out : List T3} (g : Glb prog w A h env f (.builtin "sorted")) (x : Val prog w A h env e (.list (ts.map dT))) (h64 : ts.length < 64) (hp : out.Perm ts) (hs : out.Pairwise fun x y => ltT x y = true)
    (he : starEach (e :: []) env = (false, eval e env) :: starEach [] env := by rfl) : Val prog w A h env (.Call (.Name f np) [e] [] pos) (.list (out.map dT)) :=
  val_call_b g (vals_cons x vals_nil he) (fun s s₀ E vs e₁ k₁ => by
    rintro ⟨v, r, rfl, ⟨hle, a, vs, n, rfl, _, g, r'⟩, rfl⟩
    have hL : s.heap.IsList a vs.toList.toArray := ⟨_, g, rfl, n, rfl⟩
    have hnd : ts.Nodup := by
      refine hp.nodup_iff.mp (hs.imp fun {x y} hxy e => ?_)
      rw [e, ltT_irr] at hxy; cases hxy
    refine sorted_trip hL r' h64 hnd fun p hpp hps => ?_
    obtain ⟨c, hat⟩ := sortedAll_at s.heap vs.toList (p.map fun i => vs.toList.getD i Value.none).toArray
    have hx : Ext s.heap (sortedAll s.heap vs.toList (p.map fun i => vs.toList.getD i Value.none).toArray) := fun b o q => sortedAll_old q
    have hout : out = p.map fun i => ts.getD i (0, 0, 0) := by
      refine sorted_one (hp.trans ?_) hs hps
      have : ts = (List.range ts.length).map fun i => ts.getD i (0, 0, 0) := by
        refine List.ext_getElem (by simp) fun i h1 h2 => ?_
        simp [h1]
      refine (List.Perm.of_eq this).trans ?_
      exact (hpp.map _).symm
    refine ⟨⟨_, s.toks, rfl, hx⟩, by rw [List.length_map, hp.length_eq]; simpa using hle, _, _, c, rfl, .inr ?_, hat, ?_⟩
    · cases q : s₀.heap.get? (s.heap.objs.size + 1) with
      | none => rfl
      | some o => exact absurd (Heap.lt_size (keeps_ext k₁ _ _ q)) (Nat.not_lt_of_ge (Nat.le_succ _))
    · have := reps_pick (r'.ext hx) p (fun i hi => by
        have := hpp.mem_iff.mp hi
        simpa using this)
      rw [hout, List.map_map]
      have e : (p.map fun i => (ts.map dT).getD i .none) = p.map (dT ∘ fun i => ts.getD i (0, 0, 0)) := by
        refine List.map_congr_left fun i hi => ?_
        have hi := hpp.mem_iff.mp hi
        have hi : i < ts.length := by simpa using hi
        simp [hi]
      rw [← e]
      exact this) he
end
end Mine

namespace Mine

/-! what law works with, in plain lists -/
def numsL (script : List Int) : List Int := (script.take 8 ++ [1, 5, 9]).take (max 3 (script.take 8).length)
def abovL (ns : List Int) : List Int := 0 :: (List.range ns.length).map fun k => (ns.getD k 0).fmod ((k : Int) + 1)
def startL (ns : List Int) : List Int := (List.range ns.length).map fun k => ((ns.getD k 0).fdiv ((k : Int) + 1)).fmod ((k : Int) + 2)
def upsL (ab st : List Int) : List (List Int) := st.map (upL ab)
def downsL (ups : List (List Int)) : List (List Int) := ups.map List.reverse
def innerL (ups : List (List Int)) : List Int := ups.flatMap fun r => r.drop 1
def lowB (st inner : List Int) (i : Nat) : Bool := !decide (st.getD i 0 ∈ st.take i) && !decide (st.getD i 0 ∈ inner)
def lowestL (st inner : List Int) (ups : List (List Int)) : List (List Int) := ((List.range ups.length).filter (lowB st inner)).map fun i => ups.getD i []
def nodeL (ab st inner : List Int) : List Nat := (List.range ab.length).filter fun (n : Nat) => decide ((n : Int) ∈ st) || decide ((n : Int) ∈ inner)
def depthL (ab : List Int) (n : Nat) : Int := ((upL ab (n : Int)).length : Int)
def fallL (ab : List Int) (downs : List (List Int)) (nodes : List Nat) : List T3 := nodes.map fun (n : Nat) => (minI (hitsI (n : Int) downs), depthL ab n, (n : Int))
def riseL (ab : List Int) (lowest : List (List Int)) (nodes : List Nat) : List T3 := nodes.map fun (n : Nat) => (maxI (hitsI (n : Int) lowest), 0 - depthL ab n, (n : Int))
def bothL (downs ups : List (List Int)) : List (List Int) := [[9] ++ downs.getD 0 []] ++ downs.drop 1 ++ ups

/-- what the plain law has to say -/
structure Facts (ns ab st : List Int) (ups downs lowest : List (List Int)) (inner : List Int) (nodes : List Nat) (F R : List T3) : Prop where
  eab : ab = abovL ns
  est : st = startL ns
  eup : ups = upsL ab st
  edo : downs = downsL ups
  ein : inner = innerL ups
  elo : lowest = lowestL st inner ups
  eno : nodes = nodeL ab st inner
  lo : 3 ≤ ns.length
  hi : ns.length ≤ 8
  tree : Tree ab
  ins : ∀ x ∈ st, 0 ≤ x ∧ x.toNat < ab.length
  hitD : ∀ n ∈ nodes, hits (n : Int) downs ≠ []
  hitL : ∀ n ∈ nodes, hits (n : Int) lowest ≠ []
  fP : F.Perm (fallL ab downs nodes)
  fS : F.Pairwise fun x y => ltT x y = true
  rP : R.Perm (riseL ab lowest nodes)
  rS : R.Pairwise fun x y => ltT x y = true
  runD : c3Run downs [] = (some (F.map (·.2.2)), downs.map fun _ => [])
  runU : c3Run ups [] = (some (R.map (·.2.2)), ups.map fun _ => [])
  runL : c3Run lowest [] = (some (R.map (·.2.2)), lowest.map fun _ => [])
  dedD : dedupe downs.flatten = F.map (·.2.2)
  dedL : (dedupe lowest.flatten.reverse).reverse = R.map (·.2.2)
  bothN : 0 < maxI st → c3Run (bothL downs ups) [] = (none, downs ++ ups)
  bothS : ¬ 0 < maxI st → c3Run (bothL downs ups) [] = (some [9, 0], (ups ++ ups).map fun _ => [])

theorem ab_len (ns : List Int) : (abovL ns).length = ns.length + 1 := by simp [abovL]
theorem st_len (ns : List Int) : (startL ns).length = ns.length := by simp [startL]
theorem up_len (ab st : List Int) : (upsL ab st).length = st.length := by simp [upsL]
theorem total_le {k : Nat} : ∀ {rows : List (List Int)}, (∀ r ∈ rows, r.length ≤ k) → total rows ≤ rows.length * k
  | [], _ => by simp [total]
  | r :: rows, h => by
    have h1 := h r (by simp)
    have h2 := total_le (rows := rows) fun x hx => h x (by simp [hx])
    simp only [total, List.map_cons, List.sum_cons, List.length_cons] at h2 ⊢
    rw [Nat.succ_mul]
    omega
end Mine

namespace Mine
open PySem PySem.W PyProof.Rows PySem.Challenge

abbrev lawEnv (L : Addr) : Env := envOfC "law" (scopeOf 10) L 61 (.ref 60)
def st10 (i : Nat) : Stmt := (bodyOf 10).getD i (.Pass ⟨0, 0, 0, 0⟩)

def Has (ρ : List (Str × D)) (x : Str) (d : D) : Prop := ρ.lookup x = some d
def Off (ρ : List (Str × D)) (y : Str) : Prop := (ρ.map (·.1)).contains y = false
theorem Fm.get {env : Env} {h₀ : Heap} {s₀ s : Shared} {ρ : List (Str × D)} (F : Fm env h₀ s₀ s ρ) {x : Str} {d : D} (h : Has ρ x d) : Vr env s.heap x d := F.var x d (mem_of_lookup h)
theorem no_name {ρ : List (Str × D)} {y : Str} (h : Off ρ y) : ∀ p ∈ ρ, p.1 ≠ y := fun p hp e => by
  have : y ∈ ρ.map (·.1) := List.mem_map.mpr ⟨p, hp, e⟩
  have := List.contains_iff_mem.mpr this
  rw [show (ρ.map (·.1)).contains y = false from h] at this; cases this
theorem all_true {α : Type} (l : List α) (g : α → D) : D.list ((l.filter fun _ => true).map g) = .list (l.map g) := by rw [List.filter_eq_self.mpr fun _ _ => rfl]

section
variable {prog : Program} {w : World} {A : Around} {L : Addr} {h₀ : Heap} {s₀ s : Shared} {ρ : List (Str × D)} {E : Value → Shared → Prop} {Q : Flow → Shared → Prop}

theorem boot10 {h : Heap} (W : Wd h) {x : Str} {v : Value} (hm : (x, v) ∈ bootNames) (hx : (lawEnv L).kindOf x = some .globalImplicit) (hd : (x == ("__debug__" : Str)) = false) : Glb prog w A h (lawEnv L) x v := W.boot hm hx rfl rfl rfl hd

theorem st0 {script : List Int} (hh : A.handled = none) (W : Wd s.heap) (F : Fm (lawEnv L) h₀ s₀ s ρ) (v : Has ρ "script" (dInts script)) (hno : Off ρ "numbers")
    (h : ∀ s', Fm (lawEnv L) h₀ s₀ s' (("numbers", dInts (numsL script)) :: ρ) → Q .next s') : wpAny (model prog w) A (exec (st10 0) (lawEnv L)) Q E s := by
  have hk : (lawEnv L).scope.kind = .function := rfl
  have vs : ∀ p1 p2 p3 p4, Val prog w A s.heap (lawEnv L) (.Subscript (.Name "script" p1) (.Slice Option.none (some (.Constant (.int 8) 0 p2)) Option.none p3) p4) (dInts (script.take 8)) := fun p1 p2 p3 p4 => by
    have := val_upto (p := p3) (pos := p4) (val_var (prog := prog) (w := w) (A := A) (pos := p1) (F.get v) hk) (val_int (i := 8) (k := 0) (pos := p2)) (by omega)
    have e : D.list ((script.map D.int).take (8 : Int).toNat) = dInts (script.take 8) := by rw [dInts, List.map_take]; rfl
    rw [e] at this
    exact this
  have e : D.list (List.take (maxI [3, ((script.take 8).map D.int).length]).toNat ((script.take 8).map D.int ++ [.int 1, .int 5, .int 9])) = dInts (numsL script) := by
    have e1 : (maxI [3, (((script.take 8).map D.int).length : Int)]).toNat = max 3 (script.take 8).length := by
      rw [List.length_map]
      simp only [maxI, List.foldl_cons, List.foldl_nil]
      split <;> omega
    rw [e1, numsL, dInts, List.map_take (i := max _ _), List.map_append]
    rfl
  refine F.assign (d := dInts (numsL script)) (.inr ⟨by rfl, by rfl⟩) (no_name hno) ?_ h hk (by rfl)
  rw [← e]
  refine val_upto (val_cat (vs _ _ _ _) (val_list (vals_cons val_int (vals_cons val_int (vals_cons val_int vals_nil))) (by exact (by decide : 3 ≤ LIM))) ?_) (val_max2 hh (boot10 W (by simp [bootNames]) (by rfl) (by decide)) val_int (val_len (boot10 W (by simp [bootNames]) (by rfl) (by decide)) (vs _ _ _ _))) ?_
  · rw [List.length_map, List.length_take]
    show _ ≤ 1000
    simp only [List.length_cons, List.length_nil]
    omega
  · simp only [maxI, List.foldl_cons, List.foldl_nil]
    split <;> omega

/-- for k in range(len(x)) -/
theorem src10 {h : Heap} {x : Str} {d : List D} {n : Nat} {p1 p2 p3 p4 p5 : Pos} (hh : A.handled = none) (W : Wd h) (v : Val prog w A h (lawEnv L) (.Name x p3) (.list d)) (hl : d.length ≤ LIM) (hn : d.length = n) :
    Src prog w A h (lawEnv L) (.Call (.Name "range" p1) [.Call (.Name "len" p2) [.Name x p3] [] p4] [] p5) ((List.range n).map fun (i : Nat) => D.int (i : Int)) :=
  src_rangeN hh (boot10 W (by simp [bootNames]) (by rfl) (by decide)) (boot10 W (by simp [bootNames]) (by rfl) (by decide)) v hl hn

theorem int_get {l : List Int} {i : Nat} (hi : i < l.length) : (l.map D.int)[((i : Nat) : Int).toNat]? = some (.int (l.getD i 0)) := by
  rw [List.getElem?_map, Int.toNat_natCast, List.getD_eq_getElem?_getD, List.getElem?_eq_getElem hi]; rfl

theorem st1 {ns : List Int} (hh : A.handled = none) (W : Wd s.heap) (hl : ns.length ≤ 8) (F : Fm (lawEnv L) h₀ s₀ s ρ) (v : Has ρ "numbers" (dInts ns)) (hno : Off ρ "above")
    (h : ∀ s', Fm (lawEnv L) h₀ s₀ s' (("above", dInts (abovL ns)) :: ρ) → Q .next s') : wpAny (model prog w) A (exec (st10 1) (lawEnv L)) Q E s := by
  have hk : (lawEnv L).scope.kind = .function := rfl
  have hl' : ns.length ≤ LIM := Nat.le_trans hl (by decide)
  refine F.assign (d := dInts (abovL ns)) (.inr ⟨by rfl, by rfl⟩) (no_name hno) ?_ h hk (by rfl)
  have e : D.list ([.int 0] ++ ((List.range ns.length).filter fun _ => true).map fun k => D.int ((ns.getD k 0).fmod ((k : Int) + 1))) = dInts (abovL ns) := by
    rw [List.filter_eq_self.mpr fun _ _ => rfl, dInts, abovL, List.map_cons, List.map_map]; rfl
  rw [← e]
  refine val_cat (val_list (vals_cons val_int vals_nil) (by exact (by decide : 1 ≤ LIM))) ?_ ?_
  · refine val_compA (List.range ns.length) (fun (i : Nat) => D.int (i : Int)) (fun d => (deInt d).toNat) (fun a => by simp [deInt]) (fun _ => true) _ (fun i => [("k", .int (i : Int))]) (src10 hh W (val_var (F.get v) hk) (by simpa using hl') (by simp)) (cl := [("numbers", L + 1)]) (by rfl) (by simpa using hl') ?_ ?_ ?_
    · intro C a ha; exact bnd_name (by rfl) (by rfl)
    · intro C a h' ha hC hx hbd; exact tsts_nil
    · intro C a h' ha hC hp hx hbd
      exact val_mod (val_item (val_var (vr_free ((F.get v).ext hx) (by rfl) (by rfl) (by rfl)) rfl) (val_var (vr_bound hbd (.head _) (by rfl)) rfl) (by omega) (int_get (List.mem_range.mp ha))) (val_add (val_var (vr_bound hbd (.head _) (by rfl)) rfl) val_int) (by omega)
  · rw [List.filter_eq_self.mpr fun _ _ => rfl, List.length_map, List.length_range]
    show 1 + _ ≤ 1000
    omega

theorem st2 {ns : List Int} (hh : A.handled = none) (W : Wd s.heap) (hl : ns.length ≤ 8) (F : Fm (lawEnv L) h₀ s₀ s ρ) (v : Has ρ "numbers" (dInts ns)) (hno : Off ρ "starts")
    (h : ∀ s', Fm (lawEnv L) h₀ s₀ s' (("starts", dInts (startL ns)) :: ρ) → Q .next s') : wpAny (model prog w) A (exec (st10 2) (lawEnv L)) Q E s := by
  have hk : (lawEnv L).scope.kind = .function := rfl
  have hl' : ns.length ≤ LIM := Nat.le_trans hl (by decide)
  refine F.assign (d := dInts (startL ns)) (.inr ⟨by rfl, by rfl⟩) (no_name hno) ?_ h hk (by rfl)
  have e : D.list (((List.range ns.length).filter fun _ => true).map fun k => D.int (((ns.getD k 0).fdiv ((k : Int) + 1)).fmod ((k : Int) + 2))) = dInts (startL ns) := by
    rw [all_true, dInts, startL, List.map_map]; rfl
  rw [← e]
  refine val_compA (List.range ns.length) (fun (i : Nat) => D.int (i : Int)) (fun d => (deInt d).toNat) (fun a => by simp [deInt]) (fun _ => true) _ (fun i => [("k", .int (i : Int))]) (src10 hh W (val_var (F.get v) hk) (by simpa using hl') (by simp)) (cl := [("numbers", L + 1)]) (by rfl) (by simpa using hl') ?_ ?_ ?_
  · intro C a ha; exact bnd_name (by rfl) (by rfl)
  · intro C a h' ha hC hx hbd; exact tsts_nil
  · intro C a h' ha hC hp hx hbd
    have ha' := List.mem_range.mp ha
    exact val_mod (val_div (val_item (val_var (vr_free ((F.get v).ext hx) (by rfl) (by rfl) (by rfl)) rfl) (val_var (vr_bound hbd (.head _) (by rfl)) rfl) (by omega) (int_get ha')) (val_add (val_var (vr_bound hbd (.head _) (by rfl)) rfl) val_int) (by omega) (by omega)) (val_add (val_var (vr_bound hbd (.head _) (by rfl)) rfl) val_int) (by omega)

theorem st3 {ab st : List Int} (hh : A.handled = none) (hroom : A.depth < recursionLimit) (W : Wd s.heap) (ht : Tree ab) (hin : ∀ x ∈ st, 0 ≤ x ∧ x.toNat < ab.length) (hla : ab.length ≤ 9) (hl : st.length ≤ 8) (F : Fm (lawEnv L) h₀ s₀ s ρ) (v : Has ρ "starts" (dInts st)) (va : Has ρ "above" (dInts ab)) (hno : Off ρ "ups")
    (h : ∀ s', Fm (lawEnv L) h₀ s₀ s' (("ups", dWays (upsL ab st)) :: ρ) → Q .next s') : wpAny (model prog w) A (exec (st10 3) (lawEnv L)) Q E s := by
  have hk : (lawEnv L).scope.kind = .function := rfl
  have hl' : st.length ≤ LIM := Nat.le_trans hl (by decide)
  refine F.assign (d := dWays (upsL ab st)) (.inr ⟨by rfl, by rfl⟩) (no_name hno) ?_ h hk (by rfl)
  have e : D.list ((st.filter fun _ => true).map fun n => dInts (upL ab n)) = dWays (upsL ab st) := by
    rw [all_true, dWays, upsL, List.map_map]; rfl
  rw [← e]
  refine val_compA st D.int deInt (fun a => rfl) (fun _ => true) _ (fun n => [("node", .int n)]) (src_list hh (val_var (F.get v) hk)) (cl := [("above", L + 1 + 1)]) (by rfl) hl' ?_ ?_ ?_
  · intro C a ha; exact bnd_name (by rfl) (by rfl)
  · intro C a h' ha hC hx hbd; exact tsts_nil
  · intro C a h' ha hC hp hx hbd
    have W' := W.ext hx
    obtain ⟨o, pm, doc, ho, hd, hc⟩ := id W'.up
    exact val_fn (W'.def (by simp [defNames]) (by rfl) rfl rfl) ho hd (vals_cons (val_var (vr_bound hbd (.head _) (by rfl)) rfl) (vals_cons (val_var (vr_free ((F.get va).ext hx) (by rfl) (by rfl) (by rfl)) rfl) vals_nil)) (way_up W' hroom hh ht (hin a ha).1 (hin a ha).2 (by omega))

theorem st4 {ups : List (List Int)} (hh : A.handled = none) (W : Wd s.heap) (hl : ups.length ≤ 8) (F : Fm (lawEnv L) h₀ s₀ s ρ) (v : Has ρ "ups" (dWays ups)) (hno : Off ρ "downs")
    (h : ∀ s', Fm (lawEnv L) h₀ s₀ s' (("downs", dWays (downsL ups)) :: ρ) → Q .next s') : wpAny (model prog w) A (exec (st10 4) (lawEnv L)) Q E s := by
  have hk : (lawEnv L).scope.kind = .function := rfl
  have hl' : ups.length ≤ LIM := Nat.le_trans hl (by decide)
  refine F.assign (d := dWays (downsL ups)) (.inr ⟨by rfl, by rfl⟩) (no_name hno) ?_ h hk (by rfl)
  have e : D.list ((ups.filter fun _ => true).map fun r => .list (r.map D.int).reverse) = dWays (downsL ups) := by
    rw [all_true, dWays, downsL, List.map_map]
    refine congrArg D.list (List.map_congr_left fun r _ => ?_)
    show _ = dInts r.reverse
    rw [dInts, List.map_reverse]
  rw [← e]
  refine val_compA ups dInts deInts deInts_dInts (fun _ => true) _ (fun r => [("way", dInts r)]) (src_list hh (val_var (F.get v) hk)) (cl := []) (by rfl) hl' ?_ ?_ ?_
  · intro C a ha; exact bnd_name (by rfl) (by rfl)
  · intro C a h' ha hC hx hbd; exact tsts_nil
  · intro C a h' ha hC hp hx hbd
    exact val_rev (val_var (vr_bound (d := dInts a) hbd (.head _) (by rfl)) rfl) (val_neg val_int)

theorem flat_len {k : Nat} : ∀ {rows : List (List Int)}, (∀ r ∈ rows, r.length ≤ k) → (rows.flatMap fun r => r.map D.int).length ≤ rows.length * k
  | [], _ => by simp
  | r :: rows, h => by
    have h1 := h r (by simp)
    have h2 := flat_len (rows := rows) fun x hx => h x (by simp [hx])
    simp only [List.flatMap_cons, List.length_append, List.length_map, List.length_cons] at h2 ⊢
    rw [Nat.succ_mul]
    omega

theorem st5 {ups : List (List Int)} (hh : A.handled = none) (W : Wd s.heap) (hl : ups.length ≤ 8) (hr : ∀ r ∈ ups, r.length ≤ 9) (F : Fm (lawEnv L) h₀ s₀ s ρ) (v : Has ρ "ups" (dWays ups)) (hno : Off ρ "inner")
    (h : ∀ s', Fm (lawEnv L) h₀ s₀ s' (("inner", dInts (innerL ups)) :: ρ) → Q .next s') : wpAny (model prog w) A (exec (st10 5) (lawEnv L)) Q E s := by
  have hk : (lawEnv L).scope.kind = .function := rfl
  refine F.assign (d := dInts (innerL ups)) (.inr ⟨by rfl, by rfl⟩) (no_name hno) ?_ h hk (by rfl)
  have e : ((ups.map dInts).flatMap fun d => ((((deInts d).drop 1).map D.int).map fun e => e)) = (innerL ups).map D.int := by
    clear h hno v F hr hl
    induction ups with
    | nil => rfl
    | cons r ups ih =>
      rw [List.map_cons, List.flatMap_cons, ih, deInts_dInts, innerL, innerL, List.flatMap_cons, List.map_append, List.map_id']
  have e' : dInts (innerL ups) = .list ((ups.map dInts).flatMap fun d => ((((deInts d).drop 1).map D.int).map fun e => e)) := by rw [e]; rfl
  have mem : ∀ d ∈ ups.map dInts, ∃ a ∈ ups, d = dInts a := fun d hd => by obtain ⟨a, ha, q⟩ := List.mem_map.mp hd; exact ⟨a, ha, q.symm⟩
  rw [e']
  refine val_comp2 (fun d => ((deInts d).drop 1).map D.int) (fun e => e) (fun d => [("way", d)]) (fun e => [("node", e)]) (src_list hh (val_var (F.get v) hk)) (cl := []) (by rfl) ?_ ?_ ?_ ?_ ?_
  · have := flat_len (rows := ups.map fun r => r.drop 1) (k := 9) fun r hx => by
      obtain ⟨a, ha, rfl⟩ := List.mem_map.mp hx
      have := hr a ha
      simp; omega
    rw [e, innerL, List.length_map]
    have e2 : (ups.flatMap fun r => r.drop 1).length = ((ups.map fun r => r.drop 1).flatMap fun r => r.map D.int).length := by
      rw [List.length_flatMap, List.length_flatMap, List.map_map]
      congr 1
      refine List.map_congr_left fun r _ => ?_
      simp
    rw [e2]
    rw [List.length_map] at this
    show _ ≤ 1000
    omega
  · intro C d hd; exact bnd_name (by rfl) (by rfl)
  · intro C d h' hd hC hx hbd
    obtain ⟨a, ha, rfl⟩ := mem d hd
    refine src_list hh ?_
    rw [deInts_dInts, List.map_drop]
    exact val_from (val_var (vr_bound (d := dInts a) hbd (.head _) (by rfl)) rfl) val_int (by omega)
  · intro C d e hd he; exact bnd_name (by rfl) (by rfl)
  · intro C d e h' hd he hC hx hbd
    exact val_var (vr_bound hbd (.head _) (by rfl)) rfl

theorem val_take {h : Heap} {env : Env} {value up : Expr} {p pos : Pos} {l : List Int} {a : Nat} (x : Val prog w A h env value (dInts l)) (y : Val prog w A h env up (.int (a : Int))) : Val prog w A h env (.Subscript value (.Slice Option.none (some up) Option.none p) pos) (dInts (l.take a)) := by
  have := val_upto (p := p) (pos := pos) x y (by omega)
  have e : D.list ((l.map D.int).take (a : Int).toNat) = dInts (l.take a) := by rw [dInts, List.map_take]; rfl
  rw [e] at this
  exact this

theorem st6 {st inner : List Int} {ups : List (List Int)} (hh : A.handled = none) (W : Wd s.heap) (hl : ups.length ≤ 8) (hsl : st.length = ups.length) (F : Fm (lawEnv L) h₀ s₀ s ρ) (v : Has ρ "ups" (dWays ups)) (vs : Has ρ "starts" (dInts st)) (vi : Has ρ "inner" (dInts inner)) (hno : Off ρ "lowest")
    (h : ∀ s', Fm (lawEnv L) h₀ s₀ s' (("lowest", dWays (lowestL st inner ups)) :: ρ) → Q .next s') : wpAny (model prog w) A (exec (st10 6) (lawEnv L)) Q E s := by
  have hk : (lawEnv L).scope.kind = .function := rfl
  have hl' : ups.length ≤ LIM := Nat.le_trans hl (by decide)
  refine F.assign (d := dWays (lowestL st inner ups)) (.inr ⟨by rfl, by rfl⟩) (no_name hno) ?_ h hk (by rfl)
  have e : dWays (lowestL st inner ups) = .list (((List.range ups.length).filter (lowB st inner)).map fun i => dInts (ups.getD i [])) := by
    rw [dWays, lowestL, List.map_map]; rfl
  rw [e]
  refine val_compA (List.range ups.length) (fun (i : Nat) => D.int (i : Int)) (fun d => (deInt d).toNat) (fun a => by simp [deInt]) (lowB st inner) _ (fun i => [("i", .int (i : Int))]) (src10 hh W (val_var (F.get v) hk) (by simpa using hl') (by simp)) (cl := [("ups", L + 1 + 1 + 1 + 1), ("starts", L + 1 + 1 + 1), ("inner", L + 1 + 1 + 1 + 1 + 1 + 1)]) (by rfl) (by simpa using hl') ?_ ?_ ?_
  · intro C a ha; exact bnd_name (by rfl) (by rfl)
  · intro C a h' ha hC hx hbd
    have ha' := List.mem_range.mp ha
    have vS := (F.get vs).ext hx
    refine tsts_one (tst_and (tst_notIn (val_item (val_var (vr_free vS (by rfl) (by rfl) (by rfl)) rfl) (val_var (vr_bound hbd (.head _) (by rfl)) rfl) (by omega) (int_get (by omega))) (val_take (val_var (vr_free vS (by rfl) (by rfl) (by rfl)) rfl) (val_var (vr_bound hbd (.head _) (by rfl)) rfl)) (by rfl)) fun _ =>
      tst_notIn (val_item (val_var (vr_free vS (by rfl) (by rfl) (by rfl)) rfl) (val_var (vr_bound hbd (.head _) (by rfl)) rfl) (by omega) (int_get (by omega))) (val_var (vr_free ((F.get vi).ext hx) (by rfl) (by rfl) (by rfl)) rfl) (by rfl))
  · intro C a h' ha hC hp hx hbd
    have ha' := List.mem_range.mp ha
    exact val_item (val_var (vr_free ((F.get v).ext hx) (by rfl) (by rfl) (by rfl)) rfl) (val_var (vr_bound hbd (.head _) (by rfl)) rfl) (by omega) (way_get ha')
end
end Mine

namespace Mine
open PySem PySem.W PyProof.Rows PySem.Challenge

def deFst : D → Nat
  | .tup (.int i :: _) => i.toNat
  | _ => 0
def deT : D → T3
  | .tup [.int a, .int b, .int c] => (a, b, c)
  | _ => (0, 0, 0)
def dNode (ab : List Int) (n : Nat) : D := .tup [.int (n : Int), .int (depthL ab n)]

section
variable {prog : Program} {w : World} {A : Around} {L : Addr} {h₀ : Heap} {s₀ s : Shared} {ρ : List (Str × D)} {E : Value → Shared → Prop} {Q : Flow → Shared → Prop}

theorem st7 {ab st inner : List Int} (hh : A.handled = none) (hroom : A.depth < recursionLimit) (W : Wd s.heap) (ht : Tree ab) (hla : ab.length ≤ 9) (F : Fm (lawEnv L) h₀ s₀ s ρ) (va : Has ρ "above" (dInts ab)) (vs : Has ρ "starts" (dInts st)) (vi : Has ρ "inner" (dInts inner)) (hno : Off ρ "nodes")
    (h : ∀ s', Fm (lawEnv L) h₀ s₀ s' (("nodes", .list ((nodeL ab st inner).map (dNode ab))) :: ρ) → Q .next s') : wpAny (model prog w) A (exec (st10 7) (lawEnv L)) Q E s := by
  have hk : (lawEnv L).scope.kind = .function := rfl
  have hl' : ab.length ≤ LIM := Nat.le_trans hla (by decide)
  refine F.assign_compA (List.range ab.length) (fun (i : Nat) => D.int (i : Int)) (fun d => (deInt d).toNat) (fun a => by simp [deInt]) (fun (n : Nat) => decide ((n : Int) ∈ st) || decide ((n : Int) ∈ inner)) (dNode ab) (fun i => [("node", .int (i : Int))]) (by rfl) (no_name hno)
    (src10 hh W (val_var (F.get va) hk) (by simpa using hl') (by simp)) (cl := [("starts", L + 1 + 1 + 1), ("inner", L + 1 + 1 + 1 + 1 + 1 + 1), ("above", L + 1 + 1)]) (by rfl) (by simpa using hl') ?_ ?_ ?_ (by rfl) h hk
  · intro C a ha; exact bnd_name (by rfl) (by rfl)
  · intro C a h' ha hC hx hbd
    exact tsts_one (tst_or (tst_in (val_var (vr_bound hbd (.head _) (by rfl)) rfl) (val_var (vr_free ((F.get vs).ext hx) (by rfl) (by rfl) (by rfl)) rfl) (by rfl)) fun _ => tst_in (val_var (vr_bound hbd (.head _) (by rfl)) rfl) (val_var (vr_free ((F.get vi).ext hx) (by rfl) (by rfl) (by rfl)) rfl) (by rfl))
  · intro C a h' ha hC hp hx hbd
    have ha' := List.mem_range.mp ha
    have W' := W.ext hx
    obtain ⟨o, pm, doc, ho, hd, hc⟩ := id W'.up
    have e : (((upL ab (a : Int)).map D.int).length : Int) = depthL ab a := by rw [List.length_map]; rfl
    unfold dNode
    rw [← e]
    refine val_tuple (vals_cons (val_var (vr_bound hbd (.head _) (by rfl)) rfl) (vals_cons (val_len (W'.boot (v := .builtin "len") (by simp [bootNames]) (by rfl) rfl rfl rfl) (l := (upL ab (a : Int)).map D.int) ?_) vals_nil)) (by exact (by decide : 2 ≤ LIM))
    exact val_fn (W'.def (by simp [defNames]) (by rfl) rfl rfl) ho hd (vals_cons (val_var (vr_bound hbd (.head _) (by rfl)) rfl) (vals_cons (val_var (vr_free ((F.get va).ext hx) (by rfl) (by rfl) (by rfl)) rfl) vals_nil)) (way_up W' hroom hh ht (by omega) (by simpa using ha') (by omega))

theorem st8 {ab : List Int} {downs : List (List Int)} {nodes : List Nat} {FF : List T3} (hh : A.handled = none) (hroom : A.depth < recursionLimit) (W : Wd s.heap) (hn : nodes.length ≤ 9) (hd8 : downs.length ≤ 8) (hit : ∀ n ∈ nodes, hits (n : Int) downs ≠ []) (fP : FF.Perm (fallL ab downs nodes)) (fS : FF.Pairwise fun x y => ltT x y = true)
    (F : Fm (lawEnv L) h₀ s₀ s ρ) (vn : Has ρ "nodes" (.list (nodes.map (dNode ab)))) (vd : Has ρ "downs" (dWays downs)) (hno : Off ρ "falling")
    (h : ∀ s', Fm (lawEnv L) h₀ s₀ s' (("falling", .list (FF.map dT)) :: ρ) → Q .next s') : wpAny (model prog w) A (exec (st10 8) (lawEnv L)) Q E s := by
  have hk : (lawEnv L).scope.kind = .function := rfl
  refine F.assign (d := .list (FF.map dT)) (.inl (by rfl)) (no_name hno) ?_ h hk (by rfl)
  refine val_sorted (ts := fallL ab downs nodes) (boot10 W (by simp [bootNames]) (by rfl) (by decide)) ?_ (by rw [fallL, List.length_map]; omega) fP fS
  have e : D.list ((fallL ab downs nodes).map dT) = .list ((nodes.filter fun _ => true).map fun (n : Nat) => D.tup [.int (minI (hitsI (n : Int) downs)), .int (depthL ab n), .int (n : Int)]) := by
    rw [all_true, fallL, List.map_map]; rfl
  rw [e]
  refine val_compA nodes (dNode ab) deFst (fun n => by simp [deFst, dNode]) (fun _ => true) _ (fun n => [("node", .int (n : Int)), ("depth", .int (depthL ab n))]) (src_list hh (val_var (F.get vn) hk)) (cl := [("downs", L + 1 + 1 + 1 + 1 + 1)]) (by rfl) (by show _ ≤ 1000; omega) ?_ ?_ ?_
  · intro C a ha
    exact bnd_tuple (xs := [("node", _), ("depth", _)]) hh (fun x hx => by
      simp only [List.mem_cons, List.not_mem_nil, or_false] at hx
      rcases hx with rfl | rfl <;> rfl) rfl (by simp only [List.map_cons, List.map_nil]; decide) rfl
  · intro C a h' ha hC hx hbd; exact tsts_nil
  · intro C a h' ha hC hp hx hbd
    have W' := W.ext hx
    obtain ⟨o, pm, doc, ho, hd, hc⟩ := id W'.fst
    refine val_tuple (vals_cons (val_fn (W'.def (by simp [defNames]) (by rfl) rfl rfl) ho hd (vals_cons (val_var (vr_bound hbd (.head _) (by rfl)) rfl) (vals_cons (val_var (vr_free ((F.get vd).ext hx) (by rfl) (by rfl) (by rfl)) rfl) vals_nil)) (law_first W' hroom hh (Nat.le_trans hd8 (by decide)) (hit a ha))) (vals_cons (val_var (vr_bound hbd (.tail _ (.head _)) (by rfl)) rfl) (vals_cons (val_var (vr_bound hbd (.head _) (by rfl)) rfl) vals_nil))) (by exact (by decide : 3 ≤ LIM))

theorem st9 {ab : List Int} {lowest : List (List Int)} {nodes : List Nat} {R : List T3} (hh : A.handled = none) (hroom : A.depth < recursionLimit) (W : Wd s.heap) (hn : nodes.length ≤ 9) (hd8 : lowest.length ≤ 8) (hit : ∀ n ∈ nodes, hits (n : Int) lowest ≠ []) (fP : R.Perm (riseL ab lowest nodes)) (fS : R.Pairwise fun x y => ltT x y = true)
    (F : Fm (lawEnv L) h₀ s₀ s ρ) (vn : Has ρ "nodes" (.list (nodes.map (dNode ab)))) (vd : Has ρ "lowest" (dWays lowest)) (hno : Off ρ "rising")
    (h : ∀ s', Fm (lawEnv L) h₀ s₀ s' (("rising", .list (R.map dT)) :: ρ) → Q .next s') : wpAny (model prog w) A (exec (st10 9) (lawEnv L)) Q E s := by
  have hk : (lawEnv L).scope.kind = .function := rfl
  refine F.assign (d := .list (R.map dT)) (.inl (by rfl)) (no_name hno) ?_ h hk (by rfl)
  refine val_sorted (ts := riseL ab lowest nodes) (boot10 W (by simp [bootNames]) (by rfl) (by decide)) ?_ (by rw [riseL, List.length_map]; omega) fP fS
  have e : D.list ((riseL ab lowest nodes).map dT) = .list ((nodes.filter fun _ => true).map fun (n : Nat) => D.tup [.int (maxI (hitsI (n : Int) lowest)), .int (0 - depthL ab n), .int (n : Int)]) := by
    rw [all_true, riseL, List.map_map]; rfl
  rw [e]
  refine val_compA nodes (dNode ab) deFst (fun n => by simp [deFst, dNode]) (fun _ => true) _ (fun n => [("node", .int (n : Int)), ("depth", .int (depthL ab n))]) (src_list hh (val_var (F.get vn) hk)) (cl := [("lowest", L + 1 + 1 + 1 + 1 + 1 + 1 + 1)]) (by rfl) (by show _ ≤ 1000; omega) ?_ ?_ ?_
  · intro C a ha
    exact bnd_tuple (xs := [("node", _), ("depth", _)]) hh (fun x hx => by
      simp only [List.mem_cons, List.not_mem_nil, or_false] at hx
      rcases hx with rfl | rfl <;> rfl) rfl (by simp only [List.map_cons, List.map_nil]; decide) rfl
  · intro C a h' ha hC hx hbd; exact tsts_nil
  · intro C a h' ha hC hp hx hbd
    have W' := W.ext hx
    obtain ⟨o, pm, doc, ho, hd, hc⟩ := id W'.lst
    refine val_tuple (vals_cons (val_fn (W'.def (by simp [defNames]) (by rfl) rfl rfl) ho hd (vals_cons (val_var (vr_bound hbd (.head _) (by rfl)) rfl) (vals_cons (val_var (vr_free ((F.get vd).ext hx) (by rfl) (by rfl) (by rfl)) rfl) vals_nil)) (law_last W' hroom hh (Nat.le_trans hd8 (by decide)) (hit a ha))) (vals_cons (val_sub val_int (val_var (vr_bound hbd (.tail _ (.head _)) (by rfl)) rfl)) (vals_cons (val_var (vr_bound hbd (.head _) (by rfl)) rfl) vals_nil))) (by exact (by decide : 3 ≤ LIM))

theorem st10_ {FF : List T3} (hh : A.handled = none) (hn : FF.length ≤ 9) (F : Fm (lawEnv L) h₀ s₀ s ρ) (v : Has ρ "falling" (.list (FF.map dT))) (hno : Off ρ "due_down")
    (h : ∀ s', Fm (lawEnv L) h₀ s₀ s' (("due_down", dInts (FF.map (·.2.2))) :: ρ) → Q .next s') : wpAny (model prog w) A (exec (st10 10) (lawEnv L)) Q E s := by
  have hk : (lawEnv L).scope.kind = .function := rfl
  have e : dInts (FF.map (·.2.2)) = .list ((FF.filter fun _ => true).map fun t => D.int t.2.2) := by rw [all_true, dInts, List.map_map]; rfl
  rw [e] at h
  refine F.assign_compA FF dT deT (fun t => rfl) (fun _ => true) (fun t => D.int t.2.2) (fun t => [("place", .int t.1), ("depth", .int t.2.1), ("node", .int t.2.2)]) (by rfl) (no_name hno) (src_list hh (val_var (F.get v) hk)) (cl := []) (by rfl) (by show _ ≤ 1000; omega) ?_ ?_ ?_ (by rfl) h hk
  · intro C a ha
    exact bnd_tuple (xs := [("place", _), ("depth", _), ("node", _)]) hh (fun x hx => by
      simp only [List.mem_cons, List.not_mem_nil, or_false] at hx
      rcases hx with rfl | rfl | rfl <;> rfl) rfl (by simp only [List.map_cons, List.map_nil]; decide) rfl
  · intro C a h' ha hC hx hbd; exact tsts_nil
  · intro C a h' ha hC hp hx hbd
    exact val_var (vr_bound hbd (.tail _ (.tail _ (.head _))) (by rfl)) rfl
theorem st11 {R : List T3} (hh : A.handled = none) (hn : R.length ≤ 9) (F : Fm (lawEnv L) h₀ s₀ s ρ) (v : Has ρ "rising" (.list (R.map dT))) (hno : Off ρ "due_up")
    (h : ∀ s', Fm (lawEnv L) h₀ s₀ s' (("due_up", dInts (R.map (·.2.2))) :: ρ) → Q .next s') : wpAny (model prog w) A (exec (st10 11) (lawEnv L)) Q E s := by
  have hk : (lawEnv L).scope.kind = .function := rfl
  have e : dInts (R.map (·.2.2)) = .list ((R.filter fun _ => true).map fun t => D.int t.2.2) := by rw [all_true, dInts, List.map_map]; rfl
  rw [e] at h
  refine F.assign_compA R dT deT (fun t => rfl) (fun _ => true) (fun t => D.int t.2.2) (fun t => [("place", .int t.1), ("depth", .int t.2.1), ("node", .int t.2.2)]) (by rfl) (no_name hno) (src_list hh (val_var (F.get v) hk)) (cl := []) (by rfl) (by show _ ≤ 1000; omega) ?_ ?_ ?_ (by rfl) h hk
  · intro C a ha
    exact bnd_tuple (xs := [("place", _), ("depth", _), ("node", _)]) hh (fun x hx => by
      simp only [List.mem_cons, List.not_mem_nil, or_false] at hx
      rcases hx with rfl | rfl | rfl <;> rfl) rfl (by simp only [List.map_cons, List.map_nil]; decide) rfl
  · intro C a h' ha hC hx hbd; exact tsts_nil
  · intro C a h' ha hC hp hx hbd
    exact val_var (vr_bound hbd (.tail _ (.tail _ (.head _))) (by rfl)) rfl
theorem st12 {ups : List (List Int)} (hh : A.handled = none) (hl : ups.length ≤ 8) (F : Fm (lawEnv L) h₀ s₀ s ρ) (v : Has ρ "ups" (dWays ups)) (hno : Off ρ "empty")
    (h : ∀ s', Fm (lawEnv L) h₀ s₀ s' (("empty", dWays (ups.map fun _ => [])) :: ρ) → Q .next s') : wpAny (model prog w) A (exec (st10 12) (lawEnv L)) Q E s := by
  have hk : (lawEnv L).scope.kind = .function := rfl
  have e : dWays (ups.map fun _ => []) = .list ((ups.filter fun _ => true).map fun _ => D.list []) := by rw [all_true, dWays, List.map_map]; rfl
  rw [e] at h
  refine F.assign_compA ups dInts deInts deInts_dInts (fun _ => true) (fun _ => D.list []) (fun r => [("way", dInts r)]) (by rfl) (no_name hno) (src_list hh (val_var (F.get v) hk)) (cl := []) (by rfl) (by show _ ≤ 1000; omega) ?_ ?_ ?_ (by rfl) h hk
  · intro C a ha; exact bnd_name (by rfl) (by rfl)
  · intro C a h' ha hC hx hbd; exact tsts_nil
  · intro C a h' ha hC hp hx hbd
    exact val_list vals_nil (Nat.zero_le _)
end
end Mine

namespace Mine
open PySem PySem.W PyProof.Rows PySem.Challenge

theorem ok_ints (n : Nat) (l : List Int) : kqdOk (n + 1) (toDat (dInts l)) = true := by
  show (toDats (l.map D.int)).all (kqdOk n) = true
  rw [toDats_eq, List.map_map, List.all_map, List.all_eq_true]
  intro x _
  cases n <;> rfl
theorem ok_ways (n : Nat) (l : List (List Int)) : kqdOk (n + 2) (toDat (dWays l)) = true := by
  show (toDats (l.map dInts)).all (kqdOk (n + 1)) = true
  rw [toDats_eq, List.map_map, List.all_map, List.all_eq_true]
  intro x _
  exact ok_ints n x
theorem ok_told (l : List Int) (ws : List (List Int)) : kqdOk 8 (toDat (.tup [dInts l, dWays ws])) = true := by
  show ([toDat (dInts l), toDat (dWays ws)]).all (kqdOk 7) = true
  simp only [List.all_cons, List.all_nil, Bool.and_true, Bool.and_eq_true]
  exact ⟨ok_ints 6 l, ok_ways 5 ws⟩
theorem ok_pairs (l : List Int) : kqdOk 8 (toDat (.list (dPairs l))) = true := by
  show (toDats (dPairs l)).all (kqdOk 7) = true
  rw [toDats_eq, dPairs, List.map_map, List.all_map, List.all_eq_true]
  intro x _
  rfl
theorem ok_refused (ws : List (List Int)) : kqdOk 8 (toDat (.tup [.str "refused", dWays ws])) = true := by
  show ([Dat.str "refused", toDat (dWays ws)]).all (kqdOk 7) = true
  simp only [List.all_cons, List.all_nil, Bool.and_true, Bool.and_eq_true]
  exact ⟨by decide +kernel, ok_ways 5 ws⟩

section
variable {prog : Program} {w : World} {A : Around} {L : Addr} {h₀ : Heap} {s₀ s : Shared} {ρ : List (Str × D)} {E : Value → Shared → Prop} {Q : Flow → Shared → Prop}

/-- _law_merged(e) where nothing is refused -/
theorem val_merged {h : Heap} {e : Expr} {np pos : Pos} {ways rows' : List (List Int)} {out : List Int} (hh : A.handled = none) (hroom : A.depth + 1 < recursionLimit) (W : Wd h) (x : Val prog w A h (lawEnv L) e (dWays ways)) (hrun : c3Run ways [] = (some out, rows'))
    (hl : ∀ r ∈ ways, r.length ≤ 10) (hf : ways.length ≤ 16) (hl' : ∀ r ∈ rows', r.length ≤ LIM) (he : starEach (e :: []) (lawEnv L) = (false, eval e (lawEnv L)) :: starEach [] (lawEnv L) := by rfl) :
    Val prog w A h (lawEnv L) (.Call (.Name "_law_merged" np) [e] [] pos) (.tup [dInts out, dWays rows']) := by
  obtain ⟨o, pm, doc, ho, hd, hc⟩ := id W.mer
  have ht := total_le hl
  refine val_fn (W.def (by simp [defNames]) (by rfl) rfl rfl) ho hd (vals_cons x vals_nil he) (law_merged W hroom hh hrun (fun r hr => Nat.le_trans (hl r hr) (by decide)) (Nat.le_trans hf (by decide)) (by show _ ≤ 1000; omega) hl') he

theorem nil_rows {rows : List (List Int)} : ∀ r ∈ rows.map (fun _ => ([] : List Int)), r.length ≤ LIM := fun r hr => by
  obtain ⟨_, _, rfl⟩ := List.mem_map.mp hr
  exact Nat.zero_le _

theorem st13 {ups downs : List (List Int)} {dd du : List Int} (hh : A.handled = none) (hroom : A.depth + 1 < recursionLimit) (hu : A.units + 64 < cLine) (W : Wd s.heap) (hl : ups.length ≤ 8) (hr : ∀ r ∈ ups, r.length ≤ 9) (edo : downs = downsL ups)
    (rd : c3Run downs [] = (some dd, downs.map fun _ => [])) (ru : c3Run ups [] = (some du, ups.map fun _ => []))
    (F : Fm (lawEnv L) h₀ s₀ s ρ) (vd : Has ρ "downs" (dWays downs)) (vu : Has ρ "ups" (dWays ups)) (v1 : Has ρ "due_down" (dInts dd)) (v2 : Has ρ "due_up" (dInts du)) (v3 : Has ρ "empty" (dWays (ups.map fun _ => [])))
    (h : ∀ s', Fm (lawEnv L) h₀ s₀ s' ρ → Q .next s') : wpAny (model prog w) A (exec (st10 13) (lawEnv L)) Q E s := by
  have hk : (lawEnv L).scope.kind = .function := rfl
  have ee : (downs.map fun _ => ([] : List Int)) = ups.map fun _ => [] := by rw [edo, downsL, List.map_map]; rfl
  have hr' : ∀ r ∈ downs, r.length ≤ 10 := fun r hx => by
    rw [edo] at hx
    obtain ⟨a, ha, rfl⟩ := List.mem_map.mp hx
    have := hr a ha
    rw [List.length_reverse]; omega
  have hdl : downs.length ≤ 16 := by rw [edo, downsL, List.length_map]; omega
  rw [ee] at rd
  refine wpAny_If (Tst.use (b := false) ?_ (Ext.refl _) fun s' k e => wpAny_execs_nil (h s' (F.keeps k)))
  refine tst_or (p := false) (q := false) (tst_ne (a := .tup [dInts dd, dWays (ups.map fun _ => [])]) (val_merged hh hroom W (val_var (F.get vd) hk) rd hr' hdl nil_rows) (val_tuple (vals_cons (val_var (F.get v1) hk) (vals_cons (val_var (F.get v3) hk) vals_nil)) (by exact (by decide : 2 ≤ LIM))) (ok_told _ _) hu) fun _ => ?_
  exact tst_ne (a := .tup [dInts du, dWays (ups.map fun _ => [])]) (val_merged hh hroom W (val_var (F.get vu) hk) ru (fun r hx => Nat.le_succ_of_le (hr r hx)) (by omega) nil_rows) (val_tuple (vals_cons (val_var (F.get v2) hk) (vals_cons (val_var (F.get v3) hk) vals_nil)) (by exact (by decide : 2 ≤ LIM))) (ok_told _ _) hu

theorem st14 {lowest : List (List Int)} {du : List Int} (hh : A.handled = none) (hroom : A.depth + 1 < recursionLimit) (hu : A.units + 64 < cLine) (W : Wd s.heap) (hl : lowest.length ≤ 8) (hr : ∀ r ∈ lowest, r.length ≤ 9)
    (rl : c3Run lowest [] = (some du, lowest.map fun _ => []))
    (F : Fm (lawEnv L) h₀ s₀ s ρ) (vl : Has ρ "lowest" (dWays lowest)) (v2 : Has ρ "due_up" (dInts du))
    (h : ∀ s', Fm (lawEnv L) h₀ s₀ s' ρ → Q .next s') : wpAny (model prog w) A (exec (st10 14) (lawEnv L)) Q E s := by
  have hk : (lawEnv L).scope.kind = .function := rfl
  refine wpAny_If (Tst.use (b := false) ?_ (Ext.refl _) fun s' k e => wpAny_execs_nil (h s' (F.keeps k)))
  refine tst_ne (a := .tup [dInts du, dWays (lowest.map fun _ => [])]) (val_merged hh hroom W (val_var (F.get vl) hk) rl (fun r hx => Nat.le_succ_of_le (hr r hx)) (by omega) nil_rows) (val_tuple (vals_cons (val_var (F.get v2) hk) (vals_cons ?_ vals_nil)) (by exact (by decide : 2 ≤ LIM))) (ok_told _ _) hu
  have e : dWays (lowest.map fun _ => []) = .list ((lowest.filter fun _ => true).map fun _ => D.list []) := by rw [all_true, dWays, List.map_map]; rfl
  rw [e]
  refine val_compA lowest dInts deInts deInts_dInts (fun _ => true) (fun _ => D.list []) (fun r => [("way", dInts r)]) (src_list hh (val_var (F.get vl) hk)) (cl := []) (by rfl) (by show _ ≤ 1000; omega) ?_ ?_ ?_
  · intro C a ha; exact bnd_name (by rfl) (by rfl)
  · intro C a h' ha hC hx hbd; exact tsts_nil
  · intro C a h' ha hC hp hx hbd
    exact val_list vals_nil (Nat.zero_le _)

/-- [node for way in x for node in way] -/
theorem flat_eq (ways : List (List Int)) : ((ways.map dInts).flatMap fun d => ((deInts d).map D.int).map fun e => e) = ways.flatten.map D.int := by
  induction ways with
  | nil => rfl
  | cons r ways ih => rw [List.map_cons, List.flatMap_cons, ih, deInts_dInts, List.flatten_cons, List.map_append, List.map_id']
theorem flatten_len {k : Nat} {rows : List (List Int)} (h : ∀ r ∈ rows, r.length ≤ k) : rows.flatten.length ≤ rows.length * k := by
  have := flat_len h
  have e : (rows.flatMap fun r => r.map D.int).length = rows.flatten.length := by
    rw [List.length_flatMap, List.length_flatten]
    congr 1
    refine List.map_congr_left fun r _ => ?_
    simp
  omega
theorem val_flat {h : Heap} {x : Expr} {scope : Scope} {pos p1 p2 p3 p4 : Pos} {ways : List (List Int)} (hh : A.handled = none) (v : Val prog w A h (lawEnv L) x (dWays ways)) (hl : ways.length ≤ 8) (hr : ∀ r ∈ ways, r.length ≤ 9)
    (hclos : closureFor scope (lawEnv L) = pure []) (k1 : ∀ C, (compEnvC scope [] C (lawEnv L)).kindOf "way" = some .local) (k2 : ∀ C, (compEnvC scope [] C (lawEnv L)).kindOf "node" = some .local)
    (hcell : ∀ y ∈ scope.names, y.2 ≠ .cell) (hkind : scope.kind = .function) (hnames : ∀ y ∈ scope.names, y.2 = .local → scope.names.lookup y.1 = some .local) (hs : ∀ y, foldedSetIterable x (lawEnv L) y = pure y) :
    Val prog w A h (lawEnv L) (.ListComp (.Name "node" p1) [⟨.Name "way" p2, x, [], 0⟩, ⟨.Name "node" p3, .Name "way" p4, [], 0⟩] scope pos) (dInts ways.flatten) := by
  have e := flat_eq ways
  have e' : dInts ways.flatten = .list ((ways.map dInts).flatMap fun d => ((deInts d).map D.int).map fun e => e) := by rw [e]; rfl
  have mem : ∀ d ∈ ways.map dInts, ∃ a ∈ ways, d = dInts a := fun d hd => by obtain ⟨a, ha, q⟩ := List.mem_map.mp hd; exact ⟨a, ha, q.symm⟩
  rw [e']
  refine val_comp2 (fun d => (deInts d).map D.int) (fun e => e) (fun d => [("way", d)]) (fun e => [("node", e)]) (src_list hh v) (cl := []) hclos ?_ ?_ ?_ ?_ ?_ hcell hkind hnames hs
  · rw [e, List.length_map]
    have := flatten_len hr
    show _ ≤ 1000
    omega
  · intro C d hd; exact bnd_name (k1 C) hkind
  · intro C d h' hd hC hx hbd
    obtain ⟨a, ha, rfl⟩ := mem d hd
    refine src_list hh ?_
    rw [deInts_dInts]
    exact val_var (vr_bound (d := dInts a) hbd (.head _) (k1 C)) hkind
  · intro C d e hd he; exact bnd_name (k2 C) hkind
  · intro C d e h' hd he hC hx hbd
    exact val_var (vr_bound hbd (.head _) (k2 C)) hkind

/-- [(node, None) for node in x] -/
theorem val_due {h : Heap} {x : Expr} {scope : Scope} {pos p1 p2 p3 p4 : Pos} {k1 k2 : Nat} {l : List Int} (hh : A.handled = none) (v : Val prog w A h (lawEnv L) x (dInts l)) (hl : l.length ≤ LIM)
    (hclos : closureFor scope (lawEnv L) = pure []) (kn : ∀ C, (compEnvC scope [] C (lawEnv L)).kindOf "node" = some .local)
    (hcell : ∀ y ∈ scope.names, y.2 ≠ .cell) (hkind : scope.kind = .function) (hnames : ∀ y ∈ scope.names, y.2 = .local → scope.names.lookup y.1 = some .local) (hs : ∀ y, foldedSetIterable x (lawEnv L) y = pure y) :
    Val prog w A h (lawEnv L) (.ListComp (.Tuple [.Name "node" p1, .Constant .none k1 p2] k2 p3) [⟨.Name "node" p4, x, [], 0⟩] scope pos) (.list (dPairs l)) := by
  have e : D.list (dPairs l) = .list ((l.filter fun _ => true).map fun k => .tup [.int k, .none]) := by rw [all_true]; rfl
  rw [e]
  refine val_compA l D.int deInt (fun a => rfl) (fun _ => true) _ (fun n => [("node", .int n)]) (src_list hh v) (cl := []) hclos hl ?_ ?_ ?_ hcell hkind hnames hs
  · intro C a ha; exact bnd_name (kn C) hkind
  · intro C a h' ha hC hx hbd; exact tsts_nil
  · intro C a h' ha hC hp hx hbd
    exact val_tuple (vals_cons (val_var (vr_bound hbd (.head _) (kn C)) hkind) (vals_cons val_none vals_nil)) (by exact (by decide : 2 ≤ LIM))

theorem st15 {downs : List (List Int)} {dd : List Int} (hh : A.handled = none) (hroom : A.depth < recursionLimit) (hu : A.units + 64 < cLine) (W : Wd s.heap) (Dd : DedAt s.heap) (hl : downs.length ≤ 8) (hr : ∀ r ∈ downs, r.length ≤ 9) (hdl : dd.length ≤ LIM)
    (ded : dedupe downs.flatten = dd) (F : Fm (lawEnv L) h₀ s₀ s ρ) (vd : Has ρ "downs" (dWays downs)) (v1 : Has ρ "due_down" (dInts dd))
    (h : ∀ s', Fm (lawEnv L) h₀ s₀ s' ρ → Q .next s') : wpAny (model prog w) A (exec (st10 15) (lawEnv L)) Q E s := by
  have hk : (lawEnv L).scope.kind = .function := rfl
  have hfl := flatten_len hr
  refine wpAny_If (Tst.use (b := false) ?_ (Ext.refl _) fun s' k e => wpAny_execs_nil (h s' (F.keeps k)))
  refine tst_ne (a := .list (dPairs dd)) (ded ▸ val_dedItems (l := downs.flatten) hh hroom W Dd (by show _ ≤ 1000; omega) (boot10 W (by simp [bootNames]) (by rfl) (by decide)) (W.def (by simp [defNames]) (by rfl) rfl rfl)
    (val_flat hh (val_var (F.get vd) hk) hl hr (by rfl) (fun C => by rfl) (fun C => by rfl) (by decide) (by rfl) (by decide) (by intro _; rfl)) (by rfl) (by rfl)) ?_ (ok_pairs _) hu
  exact val_due hh (val_var (F.get v1) hk) hdl (by rfl) (fun C => by rfl) (by decide) (by rfl) (by decide) (by intro _; rfl)

theorem pairs_rev (l : List Int) : (dPairs l).reverse = dPairs l.reverse := by rw [dPairs, dPairs, List.map_reverse]
theorem st16 {lowest : List (List Int)} {du : List Int} (hh : A.handled = none) (hroom : A.depth < recursionLimit) (hu : A.units + 64 < cLine) (W : Wd s.heap) (Dd : DedAt s.heap) (hl : lowest.length ≤ 8) (hr : ∀ r ∈ lowest, r.length ≤ 9) (hdl : du.length ≤ LIM)
    (ded : (dedupe lowest.flatten.reverse).reverse = du) (F : Fm (lawEnv L) h₀ s₀ s ρ) (vd : Has ρ "lowest" (dWays lowest)) (v1 : Has ρ "due_up" (dInts du))
    (h : ∀ s', Fm (lawEnv L) h₀ s₀ s' ρ → Q .next s') : wpAny (model prog w) A (exec (st10 16) (lawEnv L)) Q E s := by
  have hk : (lawEnv L).scope.kind = .function := rfl
  have hfl := flatten_len hr
  have e : D.list (dPairs (dedupe lowest.flatten.reverse)).reverse = .list (dPairs du) := by rw [pairs_rev, ded]
  have er : D.list (lowest.flatten.map D.int).reverse = dInts lowest.flatten.reverse := by rw [dInts, List.map_reverse]
  refine wpAny_If (Tst.use (b := false) ?_ (Ext.refl _) fun s' k e => wpAny_execs_nil (h s' (F.keeps k)))
  refine tst_ne (a := .list (dPairs du)) (e ▸ val_rev (val_dedItems (l := lowest.flatten.reverse) hh hroom W Dd (by rw [List.length_reverse]; show _ ≤ 1000; omega) (boot10 W (by simp [bootNames]) (by rfl) (by decide)) (W.def (by simp [defNames]) (by rfl) rfl rfl)
    (er ▸ val_rev (val_flat hh (val_var (F.get vd) hk) hl hr (by rfl) (fun C => by rfl) (fun C => by rfl) (by decide) (by rfl) (by decide) (by intro _; rfl)) (val_neg val_int)) (by rfl) (by rfl)) (val_neg val_int)) ?_ (ok_pairs _) hu
  exact val_due hh (val_var (F.get v1) hk) hdl (by rfl) (fun C => by rfl) (by decide) (by rfl) (by decide) (by intro _; rfl)
end
end Mine

namespace Mine
open PySem PySem.W PyProof.Rows PySem.Challenge

theorem Fm.slots {env : Env} {h₀ h' : Heap} {s₀ s : Shared} {tk : Nat} {ρ : List (Str × D)} (F : Fm env h₀ s₀ s ρ) (hk : ∀ b o, b ≠ env.locals → s.heap.get? b = some o → h'.get? b = some o) (sm : s.heap.UpToSlots h') : Fm env h₀ s₀ { s with heap := h', toks := tk } ρ := by
  obtain ⟨⟨hs, tks, rfl⟩, ⟨m, fr⟩, ⟨cm, cl⟩, var⟩ := F
  have rr : ∀ {d : D} {v : Value}, Rep hs d v → Rep h' d v := fun r => r.dom.mono (fun a q => q.1) fun b o q e => hk b o (fun hm => by
    obtain ⟨o', vs, n, e1, e2⟩ := q.2.2
    rw [hm] at e1
    exact ns_noseq fr.ns _ _ _ e1 e2) e
  have hc : ∀ x c o, env.cells.lookup x = some c → hs.get? c = some o → h'.get? c = some o := fun x c o e g => hk c o (Nat.ne_of_gt (cl.above x c (mem_of_lookup e))) g
  have hcell : ∀ x c v, env.cells.lookup x = some c → hs.IsCell c v → h'.IsCell c v := fun x c v e ⟨o, g, d⟩ => ⟨o, hc x c o e g, d⟩
  refine ⟨⟨h', tk, rfl⟩, ⟨m, sm.ns fr.ns, fun b o e => ?_, fr.above⟩, ⟨cm, fun n c e => hcell n c _ e (cl.cell n c e), cl.apart, cl.above⟩, fun x d hx => ?_⟩
  · exact hk b o (Nat.ne_of_lt (Nat.lt_of_lt_of_le (Heap.lt_size e) fr.above)) (fr.keep b o e)
  · rcases var x d hx with ⟨hl, m₁, v₁, hn₁, hm₁, r₁⟩ | ⟨hl, c, v₁, hc', hv, r₁⟩
    · exact .inl ⟨hl, m₁, v₁, sm.ns hn₁, hm₁, rr r₁⟩
    · exact .inr ⟨hl, c, v₁, hc', hcell x c _ hc' hv, rr r₁⟩

section
variable {prog : Program} {w : World} {A : Around} {L : Addr} {h₀ : Heap} {s₀ s : Shared} {ρ : List (Str × D)} {E : Value → Shared → Prop} {Q : Flow → Shared → Prop}

theorem both_eq (downs ups : List (List Int)) (hd : 0 < downs.length) : D.list ([D.list ([.int 9] ++ (downs.getD 0 []).map D.int)] ++ (downs.map dInts).drop (1 : Int).toNat ++ ups.map dInts) = dWays (bothL downs ups) := by
  rw [dWays, bothL, List.map_append, List.map_append, List.map_drop]
  rfl
theorem both_len (downs ups : List (List Int)) (hd : 0 < downs.length) : (bothL downs ups).length = downs.length + ups.length := by
  simp only [bothL, List.length_append, List.length_drop, List.length_singleton]; omega
theorem both_rows {downs ups : List (List Int)} (h1 : ∀ r ∈ downs, r.length ≤ 9) (h2 : ∀ r ∈ ups, r.length ≤ 9) : ∀ r ∈ bothL downs ups, r.length ≤ 10 := fun r hr => by
  simp only [bothL, List.mem_append, List.mem_singleton] at hr
  rcases hr with (rfl | hr) | hr
  · rw [List.length_append, List.length_singleton]
    have : (downs.getD 0 []).length ≤ 9 := by
      cases downs with
      | nil => simp
      | cons a l => exact h1 a (by simp)
    omega
  · have := h1 r (List.mem_of_mem_drop hr); omega
  · have := h2 r hr; omega


theorem eval_merged {h : Heap} {e : Expr} {np pos : Pos} {d : D} {Q : Value → Shared → Prop} (W : Wd h) (hx : Ext h s.heap) (x : Val prog w A h (lawEnv L) e d) (k : ∀ v s₁, Keeps s s₁ → Rep s₁.heap d v → wpAny (model prog w) A (call (.ref 46) [v]) Q E s₁)
    (he : starEach (e :: []) (lawEnv L) = (false, eval e (lawEnv L)) :: starEach [] (lawEnv L) := by rfl) : wpAny (model prog w) A (eval (.Call (.Name "_law_merged" np) [e] [] pos) (lawEnv L)) Q E s := by
  obtain ⟨o, pm, doc, ho, hd', hc⟩ := id W.mer
  have g : Glb prog w A h (lawEnv L) "_law_merged" (.ref 46) := W.def (by simp [defNames]) (by rfl) rfl rfl
  refine wpAny_Call_ofName (g _ _ _ _ hx (callWith_def hd' ((vals_cons x vals_nil he).use hx fun vs s₁ k₁ e₁ r₁ => ⟨e₁ _ _ ho, ?_⟩) he))
  obtain ⟨v, r, rfl, rv, rfl⟩ := r₁
  exact k v s₁ k₁ rv.any

theorem st17 {ups downs rows' : List (List Int)} {d : D} (hh : A.handled = none) (hroom : A.depth + 1 < recursionLimit) (hfr : A.frames = some [lawEnv L]) (W₀ : Wd h₀) (hd : 0 < downs.length) (hd8 : downs.length ≤ 8) (hu8 : ups.length ≤ 8) (h9 : ∀ r ∈ downs, r.length ≤ 9) (h9' : ∀ r ∈ ups, r.length ≤ 9)
    (hrun : (∃ out, c3Run (bothL downs ups) [] = (some out, rows') ∧ d = .tup [dInts out, dWays rows']) ∨ (c3Run (bothL downs ups) [] = (none, rows') ∧ d = .tup [.str "refused", dWays rows'])) (hl' : ∀ r ∈ rows', r.length ≤ LIM)
    (F : Fm (lawEnv L) h₀ s₀ s ρ) (vd : Has ρ "downs" (dWays downs)) (vu : Has ρ "ups" (dWays ups)) (hno : Off ρ "both")
    (h : ∀ s', Fm (lawEnv L) h₀ s₀ s' (("both", d) :: ρ) → Q .next s') : wpAny (model prog w) A (exec (st10 17) (lawEnv L)) Q E s := by
  have hk : (lawEnv L).scope.kind = .function := rfl
  have W : Wd s.heap := W₀.ext F.ext
  have hnil : (downs.map dInts)[(0 : Int).toNat]? = some (dInts (downs.getD 0 [])) := by
    cases downs with
    | nil => simp at hd
    | cons a l => rfl
  have hb0 : (downs.getD 0 []).length ≤ 9 := by
    cases downs with
    | nil => simp
    | cons a l => exact h9 a (by simp)
  have hbl := both_len downs ups hd
  have hbr := both_rows h9 h9'
  have htot := total_le hbr
  have e := both_eq downs ups hd
  rcases hrun with ⟨out, hrun, rfl⟩ | ⟨hrun, rfl⟩
  · refine F.assign (d := .tup [dInts out, dWays rows']) (.inl (by rfl)) (no_name hno) ?_ h hk (by rfl)
    refine val_merged hh hroom W ?_ hrun hbr (by omega) hl'
    rw [← e]
    refine val_cat (val_cat (val_list (vals_cons (val_cat (val_list (vals_cons val_int vals_nil) (by exact (by decide : 1 ≤ LIM))) (val_item (val_var (F.get vd) hk) val_int (by omega) hnil) ?_) vals_nil) (by exact (by decide : 1 ≤ LIM))) (val_from (val_var (F.get vd) hk) val_int (by omega)) ?_) (val_var (F.get vu) hk) ?_
    · rw [List.length_map]; show 1 + _ ≤ 1000; omega
    · rw [List.length_drop, List.length_map]; show 1 + _ ≤ 1000; omega
    · rw [List.length_append, List.length_drop, List.length_map, List.length_map]; show 1 + _ + _ ≤ 1000; omega
  · refine wpAny_Assign_Name (eval_merged (d := dWays (bothL downs ups)) W (Ext.refl _) ?_ fun v s₁ k₁ rv => ?_) (by rfl)
    · rw [← e]
      refine val_cat (val_cat (val_list (vals_cons (val_cat (val_list (vals_cons val_int vals_nil) (by exact (by decide : 1 ≤ LIM))) (val_item (val_var (F.get vd) hk) val_int (by omega) hnil) ?_) vals_nil) (by exact (by decide : 1 ≤ LIM))) (val_from (val_var (F.get vd) hk) val_int (by omega)) ?_) (val_var (F.get vu) hk) ?_
      · rw [List.length_map]; show 1 + _ ≤ 1000; omega
      · rw [List.length_drop, List.length_map]; show 1 + _ ≤ 1000; omega
      · rw [List.length_append, List.length_drop, List.length_map, List.length_map]; show 1 + _ + _ ≤ 1000; omega
    · have F₁ := F.keeps k₁
      obtain ⟨m, fr⟩ := F₁.fr
      have hL0 : h₀.get? L = none := by
        cases e : h₀.get? L with
        | none => rfl
        | some o => exact absurd (Heap.lt_size e) (Nat.not_lt_of_ge fr.above)
      refine law_refused (lenv := lawEnv L) (Ll := L) W₀ F₁.ext hL0 hroom hh hfr rfl (by intro q; have q' : ScopeKind.function = ScopeKind.module := q; cases q') fr.ns hrun (fun r hr => Nat.le_trans (hbr r hr) (by decide)) (by rw [hbl]; show _ ≤ 1000; omega) (by show _ ≤ 1000; omega) hl' rv fun v' h' tk hkp sm rep => ?_
      exact (F₁.slots (tk := tk) hkp sm).store rep (.inl (by rfl)) hk (no_name hno) h


theorem st18_yes {st : List Int} {ups downs : List (List Int)} (hh : A.handled = none) (hu : A.units + 64 < cLine) (W : Wd s.heap) (hst : st ≠ []) (hpos : 0 < maxI st) (hd8 : downs.length ≤ 8) (hu8 : ups.length ≤ 8)
    (F : Fm (lawEnv L) h₀ s₀ s ρ) (vs : Has ρ "starts" (dInts st)) (vd : Has ρ "downs" (dWays downs)) (vu : Has ρ "ups" (dWays ups)) (vb : Has ρ "both" (.tup [.str "refused", dWays (downs ++ ups)]))
    (h : ∀ s', Fm (lawEnv L) h₀ s₀ s' ρ → Q (.ret (.bool true)) s') : wpAny (model prog w) A (exec (st10 18) (lawEnv L)) Q E s := by
  have hk : (lawEnv L).scope.kind = .function := rfl
  refine wpAny_If (Tst.use (tst_gt (val_max hh (boot10 W (by simp [bootNames]) (by rfl) (by decide)) (val_var (F.get vs) hk) hst) val_int) (Ext.refl _) fun s' k e => ?_)
  rw [decide_eq_true hpos, if_pos rfl]
  have F' := F.keeps k
  refine wpAny_execs_cons (wpAny_Return_some ?_)
  refine Val.use (val_eq (a := .tup [.str "refused", dWays (downs ++ ups)]) (val_var (F'.get vb) hk) (val_tuple (vals_cons val_str (vals_cons ?_ vals_nil)) (by exact (by decide : 2 ≤ LIM))) (ok_refused _) hu) (Ext.refl _) fun v s'' k'' e'' r => ?_
  · have e : dWays (downs ++ ups) = .list (downs.map dInts ++ ups.map dInts) := by rw [dWays, List.map_append]
    rw [e]
    exact val_cat (val_var (F'.get vd) hk) (val_var (F'.get vu) hk) (by rw [List.length_map, List.length_map]; show _ ≤ 1000; omega)
  · cases r
    exact h _ (F'.keeps k'')
theorem st18_no {st : List Int} (hh : A.handled = none) (W : Wd s.heap) (hst : st ≠ []) (hpos : ¬ 0 < maxI st)
    (F : Fm (lawEnv L) h₀ s₀ s ρ) (vs : Has ρ "starts" (dInts st)) (h : ∀ s', Fm (lawEnv L) h₀ s₀ s' ρ → Q .next s') : wpAny (model prog w) A (exec (st10 18) (lawEnv L)) Q E s := by
  have hk : (lawEnv L).scope.kind = .function := rfl
  refine wpAny_If (Tst.use (tst_gt (val_max hh (boot10 W (by simp [bootNames]) (by rfl) (by decide)) (val_var (F.get vs) hk) hst) val_int) (Ext.refl _) fun s' k e => ?_)
  rw [decide_eq_false hpos, if_neg (by simp)]
  exact wpAny_execs_nil (h _ (F.keeps k))
theorem st19 {ups : List (List Int)} (hu : A.units + 64 < cLine) (hu8 : ups.length ≤ 8)
    (F : Fm (lawEnv L) h₀ s₀ s ρ) (ve : Has ρ "empty" (dWays (ups.map fun _ => []))) (vb : Has ρ "both" (.tup [dInts [9, 0], dWays ((ups ++ ups).map fun _ => [])]))
    (h : ∀ s', Fm (lawEnv L) h₀ s₀ s' ρ → Q (.ret (.bool true)) s') : wpAny (model prog w) A (exec (st10 19) (lawEnv L)) Q E s := by
  have hk : (lawEnv L).scope.kind = .function := rfl
  refine wpAny_Return_some ?_
  refine Val.use (val_eq (a := .tup [dInts [9, 0], dWays ((ups ++ ups).map fun _ => [])]) (val_var (F.get vb) hk) (val_tuple (vals_cons (val_list (vals_cons val_int (vals_cons val_int vals_nil)) (by exact (by decide : 2 ≤ LIM))) (vals_cons ?_ vals_nil)) (by exact (by decide : 2 ≤ LIM))) (ok_told _ _) hu) (Ext.refl _) fun v s'' k'' e'' r => ?_
  · have e : dWays ((ups ++ ups).map fun _ => []) = .list ((ups.map fun _ => ([] : List Int)).map dInts ++ (ups.map fun _ => ([] : List Int)).map dInts) := by rw [dWays, List.map_append, List.map_append]
    rw [e]
    exact val_cat (val_var (F.get ve) hk) (val_var (F.get ve) hk) (by simp only [List.length_map]; show _ ≤ 1000; omega)
  · cases r
    exact h _ (F.keeps k'')
end
end Mine

namespace Mine
open PySem PySem.W PyProof.Rows PySem.Challenge

theorem upsL_rows {ab st : List Int} (ht : Tree ab) (hla : ab.length ≤ 9) (hin : ∀ x ∈ st, 0 ≤ x ∧ x.toNat < ab.length) : ∀ r ∈ upsL ab st, r.length ≤ 9 := fun r hr => by
  obtain ⟨x, hx, rfl⟩ := List.mem_map.mp hr
  have := upL_len ht x.toNat x (Nat.le_refl _) (hin x hx).2
  have := (hin x hx).2
  omega

section
variable {prog : Program} {w : World} {A : Around}

theorem law_fn {h : Heap} {script ns ab st : List Int} {ups downs lowest : List (List Int)} {inner : List Int} {nodes : List Nat} {FF R : List T3} (W : Wd h) (Dd : DedAt h) (hroom : A.depth + 2 < recursionLimit) (hh : A.handled = none) (hfr : A.frames = some []) (hu : A.units + 67 < cLine)
    (hns : ns = numsL script) (K : Facts ns ab st ups downs lowest inner nodes FF R) : Fn prog w A h 61 [dInts script] (.bool true) := by
  obtain ⟨o, pm, doc, ho, hd, hc⟩ := W.law
  have hab : ab.length ≤ 9 := by rw [K.eab, ab_len]; have := K.hi; omega
  have hst : st.length ≤ 8 := by rw [K.est, st_len]; exact K.hi
  have hst3 : 3 ≤ st.length := by rw [K.est, st_len]; exact K.lo
  have hup : ups.length = st.length := by rw [K.eup, up_len]
  have hup8 : ups.length ≤ 8 := by omega
  have hr : ∀ r ∈ ups, r.length ≤ 9 := by rw [K.eup]; exact upsL_rows K.tree hab K.ins
  have hdo : downs.length = ups.length := by rw [K.edo, downsL, List.length_map]
  have hrd : ∀ r ∈ downs, r.length ≤ 9 := fun r hx => by
    rw [K.edo] at hx
    obtain ⟨a, ha, rfl⟩ := List.mem_map.mp hx
    rw [List.length_reverse]; exact hr a ha
  have hlo : lowest.length ≤ 8 := by
    rw [K.elo, lowestL, List.length_map]
    have := List.length_filter_le (lowB st inner) (List.range ups.length)
    rw [List.length_range] at this
    omega
  have hrl : ∀ r ∈ lowest, r.length ≤ 9 := fun r hx => by
    rw [K.elo] at hx
    obtain ⟨i, hi, rfl⟩ := List.mem_map.mp hx
    have hi := List.mem_range.mp (List.mem_filter.mp hi).1
    rw [List.getD_eq_getElem?_getD, List.getElem?_eq_getElem hi]
    exact hr _ (List.getElem_mem hi)
  have hno : nodes.length ≤ 9 := by
    rw [K.eno, nodeL]
    refine Nat.le_trans (List.length_filter_le _ _) ?_
    rw [List.length_range]; exact hab
  have hF : FF.length ≤ 9 := by rw [K.fP.length_eq, fallL, List.length_map]; exact hno
  have hR : R.length ≤ 9 := by rw [K.rP.length_eq, riseL, List.length_map]; exact hno
  have hstn : st ≠ [] := fun e => by rw [e] at hst3; simp at hst3
  refine fn_call ["script"] ho hd W.lim hc (by omega) ?_ rfl (by decide) ?_ ?_ (by rfl) (by rfl) (by rfl)
  · intro vs hvs
    match vs, hvs with
    | [a], _ => rfl
  · intro L x hx
    rw [List.mem_singleton.mp hx]
    exact .inl (by rfl)
  · intro s₀ s L e lim F args
    have W₀ : Wd s₀.heap := W.ext e
    have D₀ : DedAt s₀.heap := Dd.ext e
    have hroom' : (A.deeper (lawEnv L)).depth + 1 < recursionLimit := by show A.depth + 1 + 1 < _; omega
    have hroom'' : (A.deeper (lawEnv L)).depth < recursionLimit := by omega
    have hh' : (A.deeper (lawEnv L)).handled = none := hh
    have hu' : (A.deeper (lawEnv L)).units + 64 < cLine := by show A.units + 3 + 64 < _; omega
    have hfr' : (A.deeper (lawEnv L)).frames = some [lawEnv L] := Around.frames_deeper hfr
    generalize A.deeper (lawEnv L) = A' at hroom' hroom'' hh' hu' hfr' ⊢
    have fin : ∀ {s' : Shared} {ρ : List (Str × D)}, Fm (lawEnv L) s₀.heap s₀ s' ρ → ∃ v, Flow.ret (.bool true) = .ret v ∧ (∃ h' tk, s' = { s₀ with heap := h', toks := tk } ∧ Ext s₀.heap h') ∧ RepP (fun x => s₀.heap.get? x = none) s'.heap (.bool true) v := fun F => by
      have hx := F.ext
      obtain ⟨⟨h1, tk1, rfl⟩, _⟩ := F
      exact ⟨_, rfl, ⟨h1, tk1, rfl, hx⟩, rfl⟩
    obtain rfl := hns
    refine wpAny_execs_cons (st0 hh' (W₀.ext F.ext) F rfl rfl fun s₁ F₁ => ?_)
    refine wpAny_execs_cons (st1 hh' (W₀.ext F₁.ext) K.hi F₁ rfl rfl fun s₂ F₂ => ?_)
    refine wpAny_execs_cons (st2 hh' (W₀.ext F₂.ext) K.hi F₂ rfl rfl fun s₃ F₃ => ?_)
    rw [← K.eab, ← K.est] at F₃
    refine wpAny_execs_cons (st3 hh' hroom'' (W₀.ext F₃.ext) K.tree K.ins hab hst F₃ rfl rfl rfl fun s₄ F₄ => ?_)
    rw [← K.eup] at F₄
    refine wpAny_execs_cons (st4 hh' (W₀.ext F₄.ext) hup8 F₄ rfl rfl fun s₅ F₅ => ?_)
    rw [← K.edo] at F₅
    refine wpAny_execs_cons (st5 hh' (W₀.ext F₅.ext) hup8 hr F₅ rfl rfl fun s₆ F₆ => ?_)
    rw [← K.ein] at F₆
    refine wpAny_execs_cons (st6 hh' (W₀.ext F₆.ext) hup8 hup.symm F₆ rfl rfl rfl rfl fun s₇ F₇ => ?_)
    rw [← K.elo] at F₇
    refine wpAny_execs_cons (st7 hh' hroom'' (W₀.ext F₇.ext) K.tree hab F₇ rfl rfl rfl rfl fun s₈ F₈ => ?_)
    rw [← K.eno] at F₈
    refine wpAny_execs_cons (st8 hh' hroom'' (W₀.ext F₈.ext) hno (by omega) K.hitD K.fP K.fS F₈ rfl rfl rfl fun s₉ F₉ => ?_)
    refine wpAny_execs_cons (st9 hh' hroom'' (W₀.ext F₉.ext) hno hlo K.hitL K.rP K.rS F₉ rfl rfl rfl fun t₀ G₀ => ?_)
    refine wpAny_execs_cons (st10_ hh' hF G₀ rfl rfl fun t₁ G₁ => ?_)
    refine wpAny_execs_cons (st11 hh' hR G₁ rfl rfl fun t₂ G₂ => ?_)
    refine wpAny_execs_cons (st12 hh' hup8 G₂ rfl rfl fun t₃ G₃ => ?_)
    refine wpAny_execs_cons (st13 hh' hroom' hu' (W₀.ext G₃.ext) hup8 hr K.edo K.runD K.runU G₃ rfl rfl rfl rfl rfl fun t₄ G₄ => ?_)
    refine wpAny_execs_cons (st14 hh' hroom' hu' (W₀.ext G₄.ext) hlo hrl K.runL G₄ rfl rfl fun t₅ G₅ => ?_)
    refine wpAny_execs_cons (st15 hh' hroom'' hu' (W₀.ext G₅.ext) (D₀.ext G₅.ext) (by omega) hrd (by rw [List.length_map]; show _ ≤ 1000; omega) K.dedD G₅ rfl rfl fun t₆ G₆ => ?_)
    refine wpAny_execs_cons (st16 hh' hroom'' hu' (W₀.ext G₆.ext) (D₀.ext G₆.ext) hlo hrl (by rw [List.length_map]; show _ ≤ 1000; omega) K.dedL G₆ rfl rfl fun t₇ G₇ => ?_)
    by_cases hpos : 0 < maxI st
    · refine wpAny_execs_cons (st17 hh' hroom' hfr' W₀ (by omega) (by omega) hup8 hrd hr (.inr ⟨K.bothN hpos, rfl⟩) (fun r hx => ?_) G₇ rfl rfl rfl fun t₈ G₈ => ?_)
      · rcases List.mem_append.mp hx with q | q
        · exact Nat.le_trans (hrd r q) (by decide)
        · exact Nat.le_trans (hr r q) (by decide)
      refine wpAny_execs_cons (st18_yes hh' hu' (W₀.ext G₈.ext) hstn hpos (by omega) hup8 G₈ rfl rfl rfl rfl fun t₉ G₉ => fin G₉)
    · refine wpAny_execs_cons (st17 hh' hroom' hfr' W₀ (by omega) (by omega) hup8 hrd hr (.inl ⟨_, K.bothS hpos, rfl⟩) nil_rows G₇ rfl rfl rfl fun t₈ G₈ => ?_)
      refine wpAny_execs_cons (st18_no hh' (W₀.ext G₈.ext) hstn hpos G₈ rfl fun t₉ G₉ => ?_)
      refine wpAny_execs_cons (st19 hu' hup8 G₉ rfl rfl fun u G => fin G)
end
end Mine

namespace Mine

/-! each once: the first time, the last time -/
theorem ddF_mem (acc : List Int) (k x : Int) : x ∈ ddF acc k ↔ x ∈ acc ∨ x = k := by
  unfold ddF
  split
  · exact ⟨.inl, fun h => h.elim id fun e => e ▸ (by assumption)⟩
  · simp
theorem dd_mem (x : Int) : ∀ (l acc : List Int), x ∈ l.foldl ddF acc ↔ x ∈ acc ∨ x ∈ l
  | [], acc => by simp
  | a :: l, acc => by
    rw [List.foldl_cons, dd_mem x l, ddF_mem, List.mem_cons, or_assoc]
theorem dedupe_mem {l : List Int} {x : Int} : x ∈ dedupe l ↔ x ∈ l := by unfold dedupe; rw [dd_mem]; simp
theorem ddF_nodup {acc : List Int} (k : Int) (h : acc.Nodup) : (ddF acc k).Nodup := by
  unfold ddF
  split
  · exact h
  · rename_i hk
    refine List.nodup_append.mpr ⟨h, by simp, fun a ha b hb e => ?_⟩
    rw [List.mem_singleton.mp hb] at e
    exact hk (e ▸ ha)
theorem dd_nodup : ∀ (l acc : List Int), acc.Nodup → (l.foldl ddF acc).Nodup
  | [], _, h => h
  | a :: l, acc, h => dd_nodup l _ (ddF_nodup a h)
theorem dedupe_nodup (l : List Int) : (dedupe l).Nodup := dd_nodup l [] List.nodup_nil
theorem dd_cons (c : Int) : ∀ (l acc : List Int), c ∉ acc → l.foldl ddF (c :: acc) = c :: (l.filter fun x => decide (x ≠ c)).foldl ddF acc
  | [], acc, _ => rfl
  | a :: l, acc, h => by
    by_cases e : a = c
    · subst e
      have h1 : ddF (a :: acc) a = a :: acc := by simp [ddF]
      have h2 : (List.filter (fun x => decide (x ≠ a)) (a :: l)) = l.filter fun x => decide (x ≠ a) := by simp
      rw [List.foldl_cons, h1, h2]
      exact dd_cons a l acc h
    · have h1 : ddF (c :: acc) a = c :: ddF acc a := by
        unfold ddF
        by_cases q : a ∈ acc
        · simp [q]
        · simp [q, e]
      have h2 : (List.filter (fun x => decide (x ≠ c)) (a :: l)) = a :: l.filter fun x => decide (x ≠ c) := by simp [e]
      rw [List.foldl_cons, h1, h2, List.foldl_cons]
      refine dd_cons c l _ fun q => ?_
      rcases (ddF_mem acc a c).mp q with q | q
      · exact h q
      · exact e q.symm
theorem dedupe_cons (c : Int) (l : List Int) : dedupe (c :: l) = c :: dedupe (l.filter fun x => decide (x ≠ c)) := by
  unfold dedupe
  have : ddF [] c = [c] := by simp [ddF]
  rw [List.foldl_cons, this]
  exact dd_cons c l [] (by simp)
/-- r behind l -/
theorem dd_append : ∀ (r acc : List Int), r.Nodup → r.foldl ddF acc = acc ++ r.filter fun x => decide (x ∉ acc)
  | [], acc, _ => by simp
  | a :: r, acc, h => by
    rw [List.nodup_cons] at h
    rw [List.foldl_cons, dd_append r _ h.2]
    by_cases q : a ∈ acc
    · have : ddF acc a = acc := by simp [ddF, q]
      rw [this, List.filter_cons_of_neg (by simpa using q)]
    · have : ddF acc a = acc ++ [a] := by simp [ddF, q]
      rw [this, List.filter_cons_of_pos (by simpa using q), List.append_assoc, List.singleton_append]
      congr 2
      refine List.filter_congr fun x hx => ?_
      have : x ≠ a := fun e => h.1 (e ▸ hx)
      simp [this]
theorem dedupe_append (l r : List Int) (h : r.Nodup) : dedupe (l ++ r) = dedupe l ++ r.filter fun x => decide (x ∉ l) := by
  unfold dedupe
  rw [List.foldl_append, dd_append r _ h]
  congr 1
  refine List.filter_congr fun x _ => ?_
  have := dedupe_mem (l := l) (x := x)
  unfold dedupe at this
  simp [this]

def kl : List Int → List Int
  | [] => []
  | c :: l => if c ∈ l then kl l else c :: kl l
theorem kl_mem {x : Int} : ∀ {l : List Int}, x ∈ kl l ↔ x ∈ l
  | [] => Iff.rfl
  | c :: l => by
    unfold kl
    split
    · rename_i h
      rw [kl_mem, List.mem_cons]
      exact ⟨.inr, fun q => q.elim (fun e => e ▸ h) id⟩
    · rw [List.mem_cons, List.mem_cons, kl_mem]
theorem kl_nodup : ∀ l : List Int, (kl l).Nodup
  | [] => List.nodup_nil
  | c :: l => by
    unfold kl
    split
    · exact kl_nodup l
    · rename_i h
      exact List.nodup_cons.mpr ⟨fun q => h (kl_mem.mp q), kl_nodup l⟩
theorem kl_rev : ∀ l : List Int, (dedupe l.reverse).reverse = kl l
  | [] => rfl
  | c :: l => by
    rw [List.reverse_cons, dedupe_snoc]
    unfold kl ddF
    rw [← kl_rev l]
    by_cases h : c ∈ l
    · rw [if_pos (dedupe_mem.mpr (List.mem_reverse.mpr h)), if_pos h]
    · rw [if_neg (fun q => h (List.mem_reverse.mp (dedupe_mem.mp q))), if_neg h, List.reverse_append]
      rfl
theorem kl_append : ∀ (r rest : List Int), r.Nodup → kl (r ++ rest) = (r.filter fun x => decide (x ∉ rest)) ++ kl rest
  | [], rest, _ => rfl
  | c :: r, rest, h => by
    rw [List.nodup_cons] at h
    rw [List.cons_append]
    unfold kl
    by_cases q : c ∈ rest
    · rw [if_pos (List.mem_append.mpr (.inr q)), kl_append r rest h.2, List.filter_cons_of_neg (by simpa using q)]
      cases r <;> cases rest <;> rfl
    · rw [if_neg (fun e => (List.mem_append.mp e).elim h.1 q), kl_append r rest h.2, List.filter_cons_of_pos (by simpa using q)]
      cases r <;> cases rest <;> rfl
/-- what stands later does not count -/
theorem kl_skip : ∀ (r rest : List Int), (∀ x ∈ r, x ∈ rest) → kl (r ++ rest) = kl rest
  | [], _, _ => rfl
  | c :: r, rest, h => by
    show (if c ∈ r ++ rest then kl (r ++ rest) else c :: kl (r ++ rest)) = _
    rw [if_pos (List.mem_append.mpr (.inr (h c (by simp)))), kl_skip r rest fun x hx => h x (by simp [hx])]

/-! one step of _c3_merge -/
theorem all_empty {rows : List (List Int)} (h : rows.all (fun r => r.isEmpty) = true) : rows = rows.map fun _ => [] := by
  rw [List.all_eq_true] at h
  refine (List.map_id rows).symm.trans (List.map_congr_left fun r hr => ?_)
  exact List.isEmpty_iff.mp (h r hr)
theorem not_all_empty {rows : List (List Int)} {r : List Int} (hr : r ∈ rows) (hn : r ≠ []) : rows.all (fun r => r.isEmpty) = false := by
  cases e : rows.all (fun r => r.isEmpty) with
  | false => rfl
  | true =>
    rw [List.all_eq_true] at e
    exact absurd (List.isEmpty_iff.mp (e r hr)) hn
theorem map_nil (rows rows' : List (List Int)) (h : rows.length = rows'.length) : (rows.map fun _ => ([] : List Int)) = rows'.map fun _ => [] := by
  rw [List.map_const', List.map_const', h]
theorem blk_iff {rows : List (List Int)} {c : Int} : blocked rows c = true ↔ ∃ r ∈ rows, c ∈ r.drop 1 := by
  unfold blocked
  rw [List.any_eq_true]
  simp
theorem blocked_no {rows : List (List Int)} {c : Int} (h : ∀ r ∈ rows, c ∉ r.drop 1) : blocked rows c = false := by
  cases e : blocked rows c with
  | false => rfl
  | true =>
    obtain ⟨r, hr, hc⟩ := blk_iff.mp e
    exact absurd hc (h r hr)
theorem strike_free {c : Int} {r : List Int} (h : c ∉ r) : strike c r = r := by
  cases r with
  | nil => rfl
  | cons a t =>
    show (if a = c then t else a :: t) = _
    rw [if_neg (fun e => h (by simp [e]))]
theorem strike_head (c : Int) (t : List Int) : strike c (c :: t) = t := by
  show (if c = c then t else c :: t) = _
  rw [if_pos rfl]

/-- the heads stand in rows -/
theorem heads_append (a b : List (List Int)) : heads (a ++ b) = heads a ++ heads b := by simp [heads]
theorem heads_cons (c : Int) (t : List Int) (b : List (List Int)) : heads ((c :: t) :: b) = c :: heads b := by simp [heads]
theorem heads_mem {rows : List (List Int)} {x : Int} : x ∈ heads rows ↔ ∃ t, (x :: t) ∈ rows := by
  unfold heads
  rw [List.mem_map]
  constructor
  · rintro ⟨r, hr, rfl⟩
    obtain ⟨h1, h2⟩ := List.mem_filter.mp hr
    cases r with
    | nil => simp at h2
    | cons a t => exact ⟨t, h1⟩
  · rintro ⟨t, h⟩
    exact ⟨x :: t, List.mem_filter.mpr ⟨h, rfl⟩, rfl⟩
/-- some first rows hold a free head, and no other -/
theorem pick_of {A B : List (List Int)} {c : Int} (hc : c ∈ heads A) (hf : blocked (A ++ B) c = false) (ho : ∀ x ∈ heads A, x ≠ c → blocked (A ++ B) x = true) : pick (A ++ B) = some c := by
  unfold pick
  rw [heads_append, List.find?_append]
  have : (heads A).find? (fun c => !blocked (A ++ B) c) = some c := by
    generalize heads A = l at hc ho
    induction l with
    | nil => cases hc
    | cons a l ih =>
      by_cases e : a = c
      · subst e
        rw [List.find?_cons_of_pos (by rw [hf]; rfl)]
      · rw [List.find?_cons_of_neg (by rw [ho a (by simp) e]; simp)]
        exact ih ((List.mem_cons.mp hc).resolve_left fun q => e q.symm) fun x hx => ho x (by simp [hx])
  rw [this]; rfl

/-! the ways down: what stands ahead of a node is the same in each -/
def PT (rows : List (List Int)) : Prop := ∀ w ∈ rows, ∀ w' ∈ rows, ∀ x a t a' t', w = a ++ x :: t → w' = a' ++ x :: t' → a = a'

theorem mem_split {x : Int} {l : List Int} (h : x ∈ l) : ∃ a t, l = a ++ x :: t := List.append_of_mem h

theorem down_run : ∀ (k : Nat) (rows : List (List Int)) (acc : List Int), total rows = k → PT rows → c3Run rows acc = (some (acc ++ dedupe rows.flatten), rows.map fun _ => []) := by
  intro k
  induction k using Nat.strongRecOn with
  | _ k ih =>
    intro rows acc hk hP
    cases hall : rows.all (fun r => r.isEmpty) with
    | true =>
      rw [c3Run_done hall]
      have e := all_empty hall
      have : rows.flatten = [] := by
        rw [List.all_eq_true] at hall
        exact List.flatten_eq_nil_iff.mpr fun r hr => List.isEmpty_iff.mp (hall r hr)
      rw [this, ← e]
      simp [dedupe]
    | false =>
      -- the first row that is not empty
      obtain ⟨E1, c, t, rest, hrows, hE⟩ : ∃ E1 c t rest, rows = E1 ++ (c :: t) :: rest ∧ ∀ r ∈ E1, r = [] := by
        clear ih hP hk
        induction rows with
        | nil => simp at hall
        | cons r rows ih =>
          cases r with
          | cons c t => exact ⟨[], c, t, rows, rfl, fun _ h => nomatch h⟩
          | nil =>
            rw [List.all_cons] at hall
            obtain ⟨E1, c, t, rest, e, hE⟩ := ih (by simpa using hall)
            exact ⟨[] :: E1, c, t, rest, by rw [e]; rfl, fun r hr => (List.mem_cons.mp hr).elim id (hE r)⟩
      have hmem : (c :: t) ∈ rows := by rw [hrows]; simp
      -- where it stands, it stands first
      have hfirst : ∀ r ∈ rows, c ∈ r → ∃ r', r = c :: r' ∧ c ∉ r' := fun r hr hc => by
        obtain ⟨a, u, e⟩ := mem_split hc
        have h0 := hP _ hmem r hr c [] t a u rfl e
        subst h0
        refine ⟨u, e, fun hu => ?_⟩
        obtain ⟨a2, u2, e2⟩ := mem_split hu
        have := hP r hr r hr c [] u (c :: a2) u2 e (by rw [e, e2]; rfl)
        cases this
      have hfree : blocked rows c = false := blocked_no fun r hr hc => by
        obtain ⟨r', e, hn⟩ := hfirst r hr (List.mem_of_mem_drop hc)
        rw [e] at hc
        exact hn hc
      have hpick : pick rows = some c := by
        unfold pick
        have hh : heads rows = c :: heads rest := by
          rw [hrows, heads_append, heads_cons]
          have : heads E1 = [] := by
            unfold heads
            rw [List.filter_eq_nil_iff.mpr fun r hr => by rw [hE r hr]; simp]
            rfl
          rw [this]; rfl
        rw [hh, List.find?_cons_of_pos (by rw [hfree]; rfl)]
      have hstr : ∀ r ∈ rows, strike c r = r.filter fun x => decide (x ≠ c) := fun r hr => by
        by_cases hc : c ∈ r
        · obtain ⟨r', e, hn⟩ := hfirst r hr hc
          rw [e, strike_head, List.filter_cons_of_neg (by simp), List.filter_eq_self.mpr]
          intro x hx
          exact decide_eq_true fun e => hn (e ▸ hx)
        · rw [strike_free hc, List.filter_eq_self.mpr]
          intro x hx
          exact decide_eq_true fun e => hc (e ▸ hx)
      have hlt := strike_total_lt c rows (pick_mem hpick)
      have hPT : PT (rows.map (strike c)) := fun w hw w' hw' x a u a' u' e e' => by
        obtain ⟨r, hr, rfl⟩ := List.mem_map.mp hw
        obtain ⟨r', hr', rfl⟩ := List.mem_map.mp hw'
        by_cases hc : c ∈ r <;> by_cases hc' : c ∈ r'
        · obtain ⟨q, eq, hn⟩ := hfirst r hr hc
          obtain ⟨q', eq', hn'⟩ := hfirst r' hr' hc'
          rw [eq, strike_head] at e
          rw [eq', strike_head] at e'
          have := hP r hr r' hr' x (c :: a) u (c :: a') u' (by rw [eq, e]; rfl) (by rw [eq', e']; rfl)
          exact (List.cons.inj this).2
        · obtain ⟨q, eq, hn⟩ := hfirst r hr hc
          rw [eq, strike_head] at e
          rw [strike_free hc'] at e'
          have := hP r hr r' hr' x (c :: a) u a' u' (by rw [eq, e]; rfl) e'
          exact absurd (by rw [e', ← this]; simp) hc'
        · obtain ⟨q', eq', hn'⟩ := hfirst r' hr' hc'
          rw [eq', strike_head] at e'
          rw [strike_free hc] at e
          have := hP r hr r' hr' x a u (c :: a') u' e (by rw [eq', e']; rfl)
          exact absurd (by rw [e, this]; simp) hc
        · rw [strike_free hc] at e
          rw [strike_free hc'] at e'
          exact hP r hr r' hr' x a u a' u' e e'
      rw [c3Run_some hall hpick, ih _ (hk ▸ hlt) _ _ rfl hPT]
      have hfl : (rows.map (strike c)).flatten = rows.flatten.filter fun x => decide (x ≠ c) := by
        rw [List.map_congr_left hstr, List.filter_flatten]
      have hc0 : rows.flatten = c :: (t ++ rest.flatten) := by
        rw [hrows, List.flatten_append, List.flatten_cons]
        rw [List.flatten_eq_nil_iff.mpr hE]
        rfl
      rw [hfl, hc0, dedupe_cons, List.filter_cons_of_neg (by simp), List.map_map]
      simp only [List.append_assoc, List.singleton_append]
      rfl
end Mine

namespace Mine

/-! the ways up: what stands behind a node is the same in each -/
def ST (rows : List (List Int)) : Prop := ∀ w ∈ rows, ∀ w' ∈ rows, ∀ x a t a' t', w = a ++ x :: t → w' = a' ++ x :: t' → t = t'

theorem ST.once {rows : List (List Int)} (h : ST rows) {w : List Int} (hw : w ∈ rows) {x : Int} {a t : List Int} (e : w = a ++ x :: t) : x ∉ t := fun hx => by
  obtain ⟨a2, t2, e2⟩ := mem_split hx
  have := h w hw w hw x a t (a ++ x :: a2) t2 e (by rw [e, e2]; simp)
  rw [this] at e2
  have := congrArg List.length e2
  simp at this
  omega

def keysOf (B : List (Bool × List Int)) : List (List Int) := (B.filter (·.1)).map (·.2)
theorem keysOf_mem {B : List (Bool × List Int)} {x : Int} : x ∈ (keysOf B).flatten ↔ ∃ v, (true, v) ∈ B ∧ x ∈ v := by
  unfold keysOf
  rw [List.mem_flatten]
  constructor
  · rintro ⟨v, hv, hx⟩
    obtain ⟨p, hp, rfl⟩ := List.mem_map.mp hv
    obtain ⟨h1, h2⟩ := List.mem_filter.mp hp
    refine ⟨p.2, ?_, hx⟩
    have : p = (true, p.2) := by rw [← h2]
    rw [← this]; exact h1
  · rintro ⟨v, hv, hx⟩
    exact ⟨v, List.mem_map.mpr ⟨(true, v), List.mem_filter.mpr ⟨hv, rfl⟩, rfl⟩, hx⟩

/-- the state: the rows A, of which r is worked at, and the rows B; a row of B with the flag was not touched -/
structure Upi (A : List (List Int)) (r : List Int) (B : List (Bool × List Int)) : Prop where
  cur : r ∈ A ∨ r = []
  st : ST (A ++ B.map (·.2))
  cover : ∀ w ∈ A ++ B.map (·.2), ∀ x ∈ w, x ∈ r ∨ x ∈ (keysOf B).flatten
  fresh : ∀ B1 v B2, B = B1 ++ (true, v) :: B2 → ∃ s v', v = s :: v' ∧ ∀ w ∈ A ++ B1.map (·.2), s ∉ w

theorem first_key : ∀ (B : List (Bool × List Int)), keysOf B ≠ [] → ∃ B1 v B2, B = B1 ++ (true, v) :: B2 ∧ keysOf B1 = []
  | [], h => absurd rfl h
  | (true, v) :: B, _ => ⟨[], v, B, rfl, rfl⟩
  | (false, v) :: B, h => by
    obtain ⟨B1, u, B2, e, h1⟩ := first_key B (by simpa [keysOf] using h)
    exact ⟨(false, v) :: B1, u, B2, by rw [e]; rfl, by simpa [keysOf] using h1⟩
theorem keysOf_append (a b : List (Bool × List Int)) : keysOf (a ++ b) = keysOf a ++ keysOf b := by simp [keysOf]

theorem strike_sub {c x : Int} {w : List Int} (h : x ∈ strike c w) : x ∈ w := by
  cases w with
  | nil => exact h
  | cons a t =>
    have h' : x ∈ (if a = c then t else a :: t) := h
    split at h'
    · exact List.mem_cons_of_mem _ h'
    · exact h'
theorem strike_suffix (c : Int) (w : List Int) : ∃ p, w = p ++ strike c w := by
  cases w with
  | nil => exact ⟨[], rfl⟩
  | cons a t =>
    by_cases h : a = c
    · subst h
      exact ⟨[a], by rw [strike_head]; rfl⟩
    · exact ⟨[], by show _ = (if a = c then t else a :: t); rw [if_neg h]⟩
theorem ST.strike {rows : List (List Int)} (h : ST rows) (c : Int) : ST (rows.map (strike c)) := fun w hw w' hw' x a t a' t' e e' => by
  obtain ⟨r, hr, rfl⟩ := List.mem_map.mp hw
  obtain ⟨r', hr', rfl⟩ := List.mem_map.mp hw'
  obtain ⟨p, ep⟩ := strike_suffix c r
  obtain ⟨p', ep'⟩ := strike_suffix c r'
  exact h r hr r' hr' x (p ++ a) t (p' ++ a') t' (by rw [List.append_assoc, ← e]; exact ep) (by rw [List.append_assoc, ← e']; exact ep')

theorem up_run : ∀ (k : Nat) (A : List (List Int)) (r : List Int) (B : List (Bool × List Int)) (acc : List Int), total (A ++ B.map (·.2)) + B.length = k → Upi A r B →
    c3Run (A ++ B.map (·.2)) acc = (some (acc ++ kl (r ++ (keysOf B).flatten)), (A ++ B.map (·.2)).map fun _ => []) := by
  intro k
  induction k using Nat.strongRecOn with
  | _ k ih =>
    intro A r B acc hk U
    -- all that is in r stands in a later row
    have move : (∀ x ∈ r, x ∈ (keysOf B).flatten) → c3Run (A ++ B.map (·.2)) acc = (some (acc ++ kl (r ++ (keysOf B).flatten)), (A ++ B.map (·.2)).map fun _ => []) := by
      intro hsub
      rw [kl_skip r _ hsub]
      by_cases hkB : keysOf B = []
      · have hnone : ∀ x, x ∉ (keysOf B).flatten := by rw [hkB]; simp
        have hall : (A ++ B.map (·.2)).all (fun r => r.isEmpty) = true := by
          rw [List.all_eq_true]
          intro w hw
          cases w with
          | nil => rfl
          | cons x u =>
            rcases U.cover _ hw x (by simp) with q | q
            · exact absurd (hsub x q) (hnone x)
            · exact absurd q (hnone x)
        rw [c3Run_done hall, hkB, ← all_empty hall]
        simp [kl]
      · obtain ⟨B1, v, B2, eB, hB1⟩ := first_key B hkB
        have eK : keysOf B = v :: keysOf B2 := by
          rw [eB, keysOf_append, hB1]; rfl
        have erows : A ++ B.map (·.2) = (A ++ B1.map (·.2) ++ [v]) ++ B2.map (·.2) := by rw [eB]; simp
        have U' : Upi (A ++ B1.map (·.2) ++ [v]) v B2 := by
          refine ⟨.inl (by simp), erows ▸ U.st, fun w hw x hx => ?_, fun B1' v' B2' e => ?_⟩
          · have hx' : x ∈ (keysOf B).flatten := by
              rcases U.cover w (erows ▸ hw) x hx with q | q
              · exact hsub x q
              · exact q
            rw [eK, List.flatten_cons, List.mem_append] at hx'
            exact hx'
          · obtain ⟨s, u, e1, e2⟩ := U.fresh (B1 ++ (true, v) :: B1') v' B2' (by rw [eB, e]; simp)
            refine ⟨s, u, e1, fun w hw => e2 w ?_⟩
            simpa using hw
        have := ih (total ((A ++ B1.map (·.2) ++ [v]) ++ B2.map (·.2)) + B2.length) (by rw [← erows, ← hk, eB]; simp; omega) _ v B2 acc rfl U'
        rw [← erows] at this
        rw [this, eK, List.flatten_cons]
    cases r with
    | nil => exact move fun x hx => nomatch hx
    | cons c t =>
      by_cases hcB : c ∈ (keysOf B).flatten
      · refine move fun x hx => ?_
        rcases List.mem_cons.mp hx with rfl | hx
        · exact hcB
        · obtain ⟨v, hv, hcv⟩ := keysOf_mem.mp hcB
          obtain ⟨a, u, e⟩ := mem_split hcv
          have hr : (c :: t) ∈ A := U.cur.resolve_right (by simp)
          have : t = u := U.st (c :: t) (List.mem_append_left _ hr) v (List.mem_append_right _ (List.mem_map.mpr ⟨_, hv, rfl⟩)) c [] t a u rfl e
          subst this
          exact keysOf_mem.mpr ⟨v, hv, by rw [e]; simp [hx]⟩
      · -- the next node
        have hr : (c :: t) ∈ A := U.cur.resolve_right (by simp)
        have hrr : (c :: t) ∈ A ++ B.map (·.2) := List.mem_append_left _ hr
        have hct : c ∉ t := U.st.once hrr (a := []) rfl
        have hfree : ∀ w ∈ A ++ B.map (·.2), c ∉ w.drop 1 := fun w hw hc => by
          cases w with
          | nil => simp at hc
          | cons y u =>
            have hc : c ∈ u := hc
            have hyc : y ≠ c := fun e => U.st.once hw (a := []) (x := y) (t := u) rfl (e ▸ hc)
            rcases U.cover _ hw y (by simp) with q | q
            · have hyt : y ∈ t := (List.mem_cons.mp q).resolve_left hyc
              obtain ⟨b, b', e⟩ := mem_split hyt
              have := U.st _ hw _ hrr y [] u (c :: b) b' rfl (by rw [e]; rfl)
              rw [this] at hc
              exact hct (by rw [e]; simp [hc])
            · obtain ⟨v, hv, hyv⟩ := keysOf_mem.mp q
              obtain ⟨b, b', e⟩ := mem_split hyv
              have := U.st _ hw v (List.mem_append_right _ (List.mem_map.mpr ⟨_, hv, rfl⟩)) y [] u b b' rfl e
              rw [this] at hc
              exact hcB (keysOf_mem.mpr ⟨v, hv, by rw [e]; simp [hc]⟩)
        have hpick : pick (A ++ B.map (·.2)) = some c := by
          refine pick_of (heads_mem.mpr ⟨t, hr⟩) (blocked_no hfree) fun x hx hxc => ?_
          obtain ⟨u, hu⟩ := heads_mem.mp hx
          rcases U.cover _ (List.mem_append_left _ hu) x (by simp) with q | q
          · exact blk_iff.mpr ⟨_, hrr, (List.mem_cons.mp q).resolve_left hxc⟩
          · obtain ⟨v, hv, hxv⟩ := keysOf_mem.mp q
            obtain ⟨B1, B2, eB⟩ := List.append_of_mem hv
            obtain ⟨s, v', e1, e2⟩ := U.fresh B1 v B2 eB
            have hxs : x ≠ s := fun e => e2 _ (List.mem_append_left _ hu) (by rw [e]; simp)
            rw [e1] at hxv
            exact blk_iff.mpr ⟨v, List.mem_append_right _ (List.mem_map.mpr ⟨_, hv, rfl⟩), by rw [e1]; exact (List.mem_cons.mp hxv).resolve_left hxs⟩
        have hall : (A ++ B.map (·.2)).all (fun r => r.isEmpty) = false := not_all_empty hrr (by simp)
        have hlt := strike_total_lt c _ (pick_mem hpick)
        have hnot : ∀ w ∈ A ++ B.map (·.2), c ∉ strike c w := fun w hw hc => by
          have hf := hfree w hw
          cases w with
          | nil => exact absurd hc (by simp [strike])
          | cons a u =>
            by_cases e : a = c
            · subst e
              rw [strike_head] at hc
              exact hf hc
            · have hc' : c ∈ (if a = c then u else a :: u) := hc
              rw [if_neg e] at hc'
              rcases List.mem_cons.mp hc' with q | q
              · exact e q.symm
              · exact hf q
        have hkey : ∀ v, (true, v) ∈ B → strike c v = v := fun v hv => strike_free fun q => hcB (keysOf_mem.mpr ⟨v, hv, q⟩)
        have erows : (A ++ B.map (·.2)).map (strike c) = A.map (strike c) ++ (B.map fun p => (p.1, strike c p.2)).map (·.2) := by
          rw [List.map_append, List.map_map, List.map_map]; rfl
        have ekeys : keysOf (B.map fun p => (p.1, strike c p.2)) = keysOf B := by
          unfold keysOf
          rw [List.filter_map, List.map_map]
          have : ((fun x : Bool × List Int => x.1) ∘ fun p : Bool × List Int => (p.1, strike c p.2)) = fun p => p.1 := rfl
          rw [this]
          refine List.map_congr_left fun p hp => ?_
          obtain ⟨h1, h2⟩ := List.mem_filter.mp hp
          have : p = (true, p.2) := by rw [← h2]
          exact hkey p.2 (this ▸ h1)
        have U' : Upi (A.map (strike c)) t (B.map fun p => (p.1, strike c p.2)) := by
          refine ⟨.inl (List.mem_map.mpr ⟨_, hr, strike_head c t⟩), erows ▸ U.st.strike c, fun w hw x hx => ?_, fun B1 v B2 e => ?_⟩
          · rw [← erows] at hw
            obtain ⟨w₀, hw₀, rfl⟩ := List.mem_map.mp hw
            rw [ekeys]
            rcases U.cover w₀ hw₀ x (strike_sub hx) with q | q
            · rcases List.mem_cons.mp q with rfl | q
              · exact absurd hx (hnot w₀ hw₀)
              · exact .inl q
            · exact .inr q
          · obtain ⟨B1₀, Br, eB, e1, e2⟩ := List.map_eq_append_iff.mp e
            obtain ⟨p, B2₀, e3, e4, e5⟩ := List.map_eq_cons_iff.mp e2
            have hp1 : p.1 = true := (Prod.mk.inj e4).1
            have hp2 : strike c p.2 = v := (Prod.mk.inj e4).2
            have hpp : p = (true, p.2) := by rw [← hp1]
            have hpB : (true, p.2) ∈ B := by rw [eB, e3, ← hpp]; simp
            have hv : v = p.2 := by rw [← hp2, hkey p.2 hpB]
            obtain ⟨s, v', f1, f2⟩ := U.fresh B1₀ p.2 B2₀ (by rw [eB, e3, ← hpp])
            refine ⟨s, v', by rw [hv, f1], fun w hw hs => ?_⟩
            rw [← e1, List.map_map] at hw
            rcases List.mem_append.mp hw with q | q
            · obtain ⟨w₀, hw₀, rfl⟩ := List.mem_map.mp q
              exact f2 w₀ (List.mem_append_left _ hw₀) (strike_sub hs)
            · obtain ⟨p₀, hp₀, rfl⟩ := List.mem_map.mp q
              exact f2 p₀.2 (List.mem_append_right _ (List.mem_map.mpr ⟨p₀, hp₀, rfl⟩)) (strike_sub hs)
        have := ih (total (A.map (strike c) ++ (B.map fun p => (p.1, strike c p.2)).map (·.2)) + (B.map fun p => (p.1, strike c p.2)).length) (by rw [← erows, List.length_map, ← hk]; omega) _ t _ (acc ++ [c]) rfl U'
        rw [c3Run_some hall hpick, erows, this, ekeys, ← erows, List.map_map]
        have ek : kl (c :: t ++ (keysOf B).flatten) = c :: kl (t ++ (keysOf B).flatten) := by
          show (if c ∈ t ++ (keysOf B).flatten then kl (t ++ (keysOf B).flatten) else c :: kl (t ++ (keysOf B).flatten)) = _
          rw [if_neg fun q => (List.mem_append.mp q).elim hct hcB]
        rw [ek, List.append_assoc]
        rfl
end Mine

namespace Mine

/-! the ways of the tree -/
def Nd (ab : List Int) (x : Int) : Prop := 0 ≤ x ∧ x.toNat < ab.length

theorem Nd.par {ab : List Int} (ht : Tree ab) {x : Int} (h : Nd ab x) (hx : 0 < x) : Nd ab (ab.getD x.toNat 0) ∧ ab.getD x.toNat 0 < x := by
  have := ht x.toNat (by omega) h.2
  have h2 := h.2
  exact ⟨⟨this.1, by omega⟩, by omega⟩
/-- the way up from x, with its head -/
theorem up_cons {ab : List Int} (ht : Tree ab) {x : Int} (h : Nd ab x) : (x = 0 ∧ upL ab x = [x]) ∨ (0 < x ∧ upL ab x = x :: upL ab (ab.getD x.toNat 0)) := by
  by_cases hx : 0 < x
  · exact .inr ⟨hx, upL_pos ht hx h.2⟩
  · have h1 := h.1
    exact .inl ⟨by omega, upL_zero (by omega)⟩
theorem up_head {ab : List Int} (ht : Tree ab) {x : Int} (h : Nd ab x) : ∃ t, upL ab x = x :: t := by
  rcases up_cons ht h with ⟨_, e⟩ | ⟨_, e⟩
  · exact ⟨_, e⟩
  · exact ⟨_, e⟩
/-- what stands in a way from some node on is that node's way -/
theorem up_split {ab : List Int} (ht : Tree ab) : ∀ (k : Nat) {x y : Int} {a t : List Int}, x.toNat ≤ k → Nd ab x → upL ab x = a ++ y :: t → Nd ab y ∧ y :: t = upL ab y ∧ (a ≠ [] → y < x) := by
  intro k
  induction k with
  | zero =>
    intro x y a t hk h e
    have h1 := h.1
    rw [upL_zero (by omega)] at e
    cases a with
    | nil =>
      obtain ⟨rfl, rfl⟩ := List.cons.inj e
      exact ⟨h, (upL_zero (by omega)).symm, fun q => absurd rfl q⟩
    | cons b a => simp at e
  | succ k ih =>
    intro x y a t hk h e
    cases a with
    | nil =>
      obtain ⟨u, eu⟩ := up_head ht h
      have e' := e
      rw [eu] at e'
      obtain ⟨rfl, rfl⟩ := List.cons.inj e'
      exact ⟨h, eu.symm, fun q => absurd rfl q⟩
    | cons b a =>
      rcases up_cons ht h with ⟨_, e0⟩ | ⟨hx, e0⟩
      · rw [e0] at e; simp at e
      · rw [e0] at e
        obtain ⟨p1, p2⟩ := h.par ht hx
        have e' := (List.cons.inj e).2
        have h1 := p1.1
        obtain ⟨q1, q2, q3⟩ := ih (by omega) p1 e'
        refine ⟨q1, q2, fun _ => ?_⟩
        by_cases ha : a = []
        · subst ha
          obtain ⟨u, eu⟩ := up_head ht p1
          rw [eu] at e'
          rw [← (List.cons.inj e').1]; exact p2
        · exact Int.lt_trans (q3 ha) p2
theorem up_at {ab : List Int} (ht : Tree ab) {x y : Int} {a t : List Int} (h : Nd ab x) (e : upL ab x = a ++ y :: t) : Nd ab y ∧ y :: t = upL ab y ∧ (a ≠ [] → y < x) := up_split ht x.toNat (Nat.le_refl _) h e
theorem up_mem {ab : List Int} (ht : Tree ab) {x y : Int} (h : Nd ab x) (hy : y ∈ upL ab x) : Nd ab y ∧ ∃ a, upL ab x = a ++ upL ab y := by
  obtain ⟨a, t, e⟩ := mem_split hy
  obtain ⟨h1, h2, _⟩ := up_at ht h e
  exact ⟨h1, a, by rw [e, h2]⟩
theorem up_self {ab : List Int} (ht : Tree ab) {x : Int} (h : Nd ab x) : x ∈ upL ab x := by
  obtain ⟨t, e⟩ := up_head ht h
  rw [e]; simp
theorem up_trans {ab : List Int} (ht : Tree ab) {x y z : Int} (h : Nd ab x) (hy : y ∈ upL ab x) (hz : z ∈ upL ab y) : z ∈ upL ab x := by
  obtain ⟨_, a, e⟩ := up_mem ht h hy
  rw [e]; simp [hz]
theorem up_drop {ab : List Int} (ht : Tree ab) {x y : Int} (h : Nd ab x) (hy : y ∈ (upL ab x).drop 1) : y ∈ upL ab x ∧ y < x := by
  obtain ⟨t, e⟩ := up_head ht h
  rw [e] at hy
  have hy : y ∈ t := hy
  obtain ⟨a, u, e2⟩ := mem_split hy
  exact ⟨by rw [e]; simp [hy], (up_at ht h (a := x :: a) (by rw [e, e2]; rfl)).2.2 (by simp)⟩
theorem up_or {ab : List Int} (ht : Tree ab) {x y : Int} (h : Nd ab x) (hy : y ∈ upL ab x) : y = x ∨ y ∈ (upL ab x).drop 1 := by
  obtain ⟨t, e⟩ := up_head ht h
  rw [e] at hy ⊢
  exact List.mem_cons.mp hy
theorem up_root {ab : List Int} (ht : Tree ab) : ∀ (k : Nat) {x : Int}, x.toNat ≤ k → Nd ab x → (0 : Int) ∈ upL ab x := by
  intro k
  induction k with
  | zero =>
    intro x hk h
    have h1 := h.1
    have : x = 0 := by omega
    subst this
    exact up_self ht h
  | succ k ih =>
    intro x hk h
    rcases up_cons ht h with ⟨rfl, e⟩ | ⟨hx, e⟩
    · exact up_self ht h
    · obtain ⟨p1, p2⟩ := h.par ht hx
      have h1 := p1.1
      rw [e]
      exact List.mem_cons_of_mem _ (ih (by omega) p1)
theorem up_dec {ab : List Int} (ht : Tree ab) : ∀ (k : Nat) {x : Int}, x.toNat ≤ k → Nd ab x → (upL ab x).Pairwise fun y z => (upL ab z).length < (upL ab y).length := by
  intro k
  induction k with
  | zero =>
    intro x hk h
    have h1 := h.1
    rw [upL_zero (by omega)]
    exact List.pairwise_singleton _ _
  | succ k ih =>
    intro x hk h
    rcases up_cons ht h with ⟨_, e⟩ | ⟨hx, e⟩
    · rw [e]; exact List.pairwise_singleton _ _
    · obtain ⟨p1, p2⟩ := h.par ht hx
      have h1 := p1.1
      rw [e]
      refine List.pairwise_cons.mpr ⟨fun y hy => ?_, ih (by omega) p1⟩
      obtain ⟨_, a, e2⟩ := up_mem ht p1 hy
      rw [e, e2, List.length_cons, List.length_append]
      omega
theorem up_nodup {ab : List Int} (ht : Tree ab) {x : Int} (h : Nd ab x) : (upL ab x).Nodup :=
  (up_dec ht x.toNat (Nat.le_refl _) h).imp fun {a b} hab e => by rw [e] at hab; exact Nat.lt_irrefl _ hab

theorem ups_ST {ab st : List Int} (ht : Tree ab) (hin : ∀ x ∈ st, Nd ab x) {rows : List (List Int)} (hr : ∀ r ∈ rows, r ∈ upsL ab st) : ST rows := fun w hw w' hw' x a t a' t' e e' => by
  obtain ⟨s, hs, rfl⟩ := List.mem_map.mp (hr w hw)
  obtain ⟨s', hs', rfl⟩ := List.mem_map.mp (hr w' hw')
  have h1 := (up_at ht (hin s hs) e).2.1
  have h2 := (up_at ht (hin s' hs') e').2.1
  rw [← h2] at h1
  exact (List.cons.inj h1).2
theorem downs_PT {ab st : List Int} (ht : Tree ab) (hin : ∀ x ∈ st, Nd ab x) : PT (downsL (upsL ab st)) := fun w hw w' hw' x a t a' t' e e' => by
  obtain ⟨r, hr, rfl⟩ := List.mem_map.mp hw
  obtain ⟨r', hr', rfl⟩ := List.mem_map.mp hw'
  have e1 : r = t.reverse ++ x :: a.reverse := by
    have := congrArg List.reverse e
    simpa using this
  have e2 : r' = t'.reverse ++ x :: a'.reverse := by
    have := congrArg List.reverse e'
    simpa using this
  have := ups_ST ht hin (rows := upsL ab st) (fun _ h => h) r hr r' hr' x _ _ _ _ e1 e2
  simpa using this

/-! the lowest ways -/
theorem getD_mem {l : List Int} {i : Nat} (hi : i < l.length) : l.getD i 0 ∈ l := by
  rw [List.getD_eq_getElem?_getD, List.getElem?_eq_getElem hi]; exact List.getElem_mem hi
theorem ups_get {ab st : List Int} {i : Nat} (hi : i < st.length) : (upsL ab st).getD i [] = upL ab (st.getD i 0) := by
  unfold upsL
  rw [List.getD_eq_getElem?_getD, List.getElem?_map, List.getD_eq_getElem?_getD, List.getElem?_eq_getElem hi]; rfl
theorem first_at : ∀ (l : List Int) (x : Int), x ∈ l → ∃ i, i < l.length ∧ l.getD i 0 = x ∧ x ∉ l.take i
  | a :: l, x, h => by
    by_cases e : a = x
    · exact ⟨0, by simp, by simpa using e, by simp⟩
    · obtain ⟨i, h1, h2, h3⟩ := first_at l x ((List.mem_cons.mp h).resolve_left fun q => e q.symm)
      refine ⟨i + 1, by simpa using h1, by simpa using h2, ?_⟩
      rw [List.take_succ_cons, List.mem_cons, not_or]
      exact ⟨fun q => e q.symm, h3⟩
theorem inner_mem {ups : List (List Int)} {x : Int} : x ∈ innerL ups ↔ ∃ r ∈ ups, x ∈ r.drop 1 := by unfold innerL; rw [List.mem_flatMap]

theorem low_cover {ab st : List Int} (ht : Tree ab) (hin : ∀ x ∈ st, Nd ab x) : ∀ (k : Nat) (s : Int), ab.length - s.toNat ≤ k → s ∈ st → ∃ l, l < st.length ∧ lowB st (innerL (upsL ab st)) l = true ∧ s ∈ upL ab (st.getD l 0) := by
  intro k
  induction k with
  | zero =>
    intro s hk hs
    have := (hin s hs).2
    omega
  | succ k ih =>
    intro s hk hs
    by_cases h : s ∈ innerL (upsL ab st)
    · obtain ⟨r, hr, hx⟩ := inner_mem.mp h
      obtain ⟨s', hs', rfl⟩ := List.mem_map.mp hr
      obtain ⟨h1, h2⟩ := up_drop ht (hin s' hs') hx
      have n1 := (hin s hs).1
      have n2 := (hin s' hs').2
      obtain ⟨l, q1, q2, q3⟩ := ih s' (by omega) hs'
      exact ⟨l, q1, q2, up_trans ht (hin _ (getD_mem q1)) q3 h1⟩
    · obtain ⟨i, h1, h2, h3⟩ := first_at st s hs
      refine ⟨i, h1, ?_, ?_⟩
      · unfold lowB
        rw [h2]
        simp [h3, h]
      · rw [h2]; exact up_self ht (hin s hs)

/-- a lowest start stands in no way ahead of its own -/
theorem low_fresh {ab st : List Int} (ht : Tree ab) (hin : ∀ x ∈ st, Nd ab x) {i j : Nat} (hi : i < st.length) (hj : j < i) (hb : lowB st (innerL (upsL ab st)) i = true) : st.getD i 0 ∉ (upsL ab st).getD j [] := fun hm => by
  unfold lowB at hb
  simp only [Bool.and_eq_true, Bool.not_eq_true', decide_eq_false_iff_not] at hb
  rw [ups_get (by omega)] at hm
  have hjm : st.getD j 0 ∈ st := getD_mem (by omega)
  rcases up_or ht (hin _ hjm) hm with q | q
  · refine hb.1 ?_
    rw [q]
    refine List.mem_iff_getElem.mpr ⟨j, by rw [List.length_take]; omega, ?_⟩
    rw [List.getElem_take, List.getD_eq_getElem?_getD, List.getElem?_eq_getElem (by omega)]
    rfl
  · exact hb.2 (inner_mem.mpr ⟨_, List.mem_map.mpr ⟨_, hjm, rfl⟩, q⟩)

/-- the merge of some of the ways up, the lowest among them -/
theorem up_all {ab st : List Int} (ht : Tree ab) (hin : ∀ x ∈ st, Nd ab x) (is : List Nat) (flag : Nat → Bool) (hp : is.Pairwise (· < ·)) (hl : ∀ i ∈ is, i < st.length) (hf : ∀ i ∈ is, flag i = true → lowB st (innerL (upsL ab st)) i = true)
    (hc : ∀ i ∈ is, ∃ l ∈ is, flag l = true ∧ st.getD i 0 ∈ upL ab (st.getD l 0)) :
    c3Run (is.map fun i => (upsL ab st).getD i []) [] = (some (kl ((is.filter flag).map fun i => (upsL ab st).getD i []).flatten), (is.map fun i => (upsL ab st).getD i []).map fun _ => []) := by
  have e1 : (is.map fun i => (flag i, (upsL ab st).getD i [])).map (·.2) = is.map fun i => (upsL ab st).getD i [] := by rw [List.map_map]; rfl
  have e2 : keysOf (is.map fun i => (flag i, (upsL ab st).getD i [])) = (is.filter flag).map fun i => (upsL ab st).getD i [] := by
    unfold keysOf
    rw [List.filter_map, List.map_map]; rfl
  have U : Upi [] [] (is.map fun i => (flag i, (upsL ab st).getD i [])) := by
    refine ⟨.inr rfl, ?_, fun w hw x hx => .inr ?_, fun B1 v B2 e => ?_⟩
    · rw [List.nil_append, e1]
      refine ups_ST ht hin fun r hr => ?_
      obtain ⟨i, hi, rfl⟩ := List.mem_map.mp hr
      rw [ups_get (hl i hi)]
      exact List.mem_map.mpr ⟨_, getD_mem (hl i hi), rfl⟩
    · rw [List.nil_append, e1] at hw
      obtain ⟨i, hi, rfl⟩ := List.mem_map.mp hw
      obtain ⟨l, h1, h2, h3⟩ := hc i hi
      refine keysOf_mem.mpr ⟨(upsL ab st).getD l [], List.mem_map.mpr ⟨l, h1, by rw [h2]⟩, ?_⟩
      rw [ups_get (hl i hi)] at hx
      rw [ups_get (hl l h1)]
      exact up_trans ht (hin _ (getD_mem (hl l h1))) h3 hx
    · obtain ⟨l1, l2, eI, q1, q2⟩ := List.map_eq_append_iff.mp e
      obtain ⟨i, l3, q3, q4, q5⟩ := List.map_eq_cons_iff.mp q2
      obtain ⟨f1, f2⟩ := Prod.mk.inj q4
      have hi : i ∈ is := by rw [eI, q3]; simp
      have hin' : Nd ab (st.getD i 0) := hin _ (getD_mem (hl i hi))
      obtain ⟨t, et⟩ := up_head ht hin'
      refine ⟨st.getD i 0, t, by rw [← f2, ups_get (hl i hi), et], fun w hw => ?_⟩
      rw [List.nil_append, ← q1, List.map_map] at hw
      obtain ⟨j, hj, rfl⟩ := List.mem_map.mp hw
      have hji : j < i := by
        rw [eI, q3] at hp
        exact (List.pairwise_append.mp hp).2.2 j hj i (by simp)
      exact low_fresh ht hin (hl i hi) hji (hf i hi f1)
  have := up_run _ [] [] _ [] rfl U
  rw [List.nil_append, e1, e2] at this
  rw [this, List.nil_append, List.nil_append]
end Mine

namespace Mine

/-! least and greatest -/
theorem fold_min : ∀ (l : List Int) (a : Int), (l.foldl (fun m x => if x < m then x else m) a = a ∨ l.foldl (fun m x => if x < m then x else m) a ∈ l) ∧ l.foldl (fun m x => if x < m then x else m) a ≤ a ∧ ∀ y ∈ l, l.foldl (fun m x => if x < m then x else m) a ≤ y
  | [], a => ⟨.inl rfl, Int.le_refl _, fun _ h => nomatch h⟩
  | b :: l, a => by
    obtain ⟨h1, h2, h3⟩ := fold_min l (if b < a then b else a)
    rw [List.foldl_cons]
    refine ⟨?_, ?_, fun y hy => ?_⟩
    · rcases h1 with h | h
      · rw [h]
        split
        · exact .inr (by simp)
        · exact .inl rfl
      · exact .inr (by simp [h])
    · refine Int.le_trans h2 ?_
      split <;> omega
    · rcases List.mem_cons.mp hy with rfl | hy
      · refine Int.le_trans h2 ?_
        split <;> omega
      · exact h3 y hy
theorem fold_max : ∀ (l : List Int) (a : Int), (l.foldl (fun m x => if m < x then x else m) a = a ∨ l.foldl (fun m x => if m < x then x else m) a ∈ l) ∧ a ≤ l.foldl (fun m x => if m < x then x else m) a ∧ ∀ y ∈ l, y ≤ l.foldl (fun m x => if m < x then x else m) a
  | [], a => ⟨.inl rfl, Int.le_refl _, fun _ h => nomatch h⟩
  | b :: l, a => by
    obtain ⟨h1, h2, h3⟩ := fold_max l (if a < b then b else a)
    rw [List.foldl_cons]
    refine ⟨?_, ?_, fun y hy => ?_⟩
    · rcases h1 with h | h
      · rw [h]
        split
        · exact .inr (by simp)
        · exact .inl rfl
      · exact .inr (by simp [h])
    · refine Int.le_trans ?_ h2
      split <;> omega
    · rcases List.mem_cons.mp hy with rfl | hy
      · refine Int.le_trans ?_ h2
        split <;> omega
      · exact h3 y hy
theorem minI_eq {l : List Int} {m : Int} (h1 : m ∈ l) (h2 : ∀ y ∈ l, m ≤ y) : minI l = m := by
  cases l with
  | nil => cases h1
  | cons a l =>
    obtain ⟨q1, q2, q3⟩ := fold_min l a
    have e : minI (a :: l) = l.foldl (fun m x => if x < m then x else m) a := rfl
    rw [e]
    have hle : l.foldl (fun m x => if x < m then x else m) a ≤ m := by
      rcases List.mem_cons.mp h1 with rfl | h
      · exact q2
      · exact q3 m h
    have hge : m ≤ l.foldl (fun m x => if x < m then x else m) a := by
      rcases q1 with q | q
      · rw [q]; exact h2 a (by simp)
      · exact h2 _ (by simp [q])
    omega
theorem maxI_mem {l : List Int} (h : l ≠ []) : maxI l ∈ l := by
  cases l with
  | nil => exact absurd rfl h
  | cons a l =>
    obtain ⟨q1, q2, q3⟩ := fold_max l a
    have e : maxI (a :: l) = l.foldl (fun m x => if m < x then x else m) a := rfl
    rw [e]
    rcases q1 with q | q
    · rw [q]; simp
    · simp [q]
theorem maxI_ge {l : List Int} {y : Int} (h : y ∈ l) : y ≤ maxI l := by
  cases l with
  | nil => cases h
  | cons a l =>
    obtain ⟨q1, q2, q3⟩ := fold_max l a
    have e : maxI (a :: l) = l.foldl (fun m x => if m < x then x else m) a := rfl
    rw [e]
    rcases List.mem_cons.mp h with rfl | h
    · exact q2
    · exact q3 y h
theorem maxI_eq {l : List Int} {m : Int} (h1 : m ∈ l) (h2 : ∀ y ∈ l, y ≤ m) : maxI l = m := by
  have a1 := maxI_ge h1
  have a2 := h2 _ (maxI_mem (l := l) (fun e => by rw [e] at h1; cases h1))
  omega

/-! where a node stands -/
theorem hits_mem {x : Int} {ways : List (List Int)} {i : Nat} : i ∈ hits x ways ↔ i < ways.length ∧ x ∈ ways.getD i [] := by
  unfold hits
  rw [List.mem_filter, List.mem_range, decide_eq_true_eq]
theorem hitsI_mem {x : Int} {ways : List (List Int)} {z : Int} : z ∈ hitsI x ways ↔ ∃ i : Nat, z = (i : Int) ∧ i < ways.length ∧ x ∈ ways.getD i [] := by
  unfold hitsI
  rw [List.mem_map]
  constructor
  · rintro ⟨i, hi, rfl⟩
    exact ⟨i, rfl, hits_mem.mp hi⟩
  · rintro ⟨i, rfl, h⟩
    exact ⟨i, hits_mem.mpr h, rfl⟩
theorem getD_pre {pre : List (List Int)} {r : List Int} {rows : List (List Int)} {i : Nat} (h : i < pre.length) : (pre ++ r :: rows).getD i [] ∈ pre := by
  rw [List.getD_eq_getElem?_getD, List.getElem?_append_left h, List.getElem?_eq_getElem h]
  exact List.getElem_mem h
theorem getD_at (pre : List (List Int)) (r : List Int) (rows : List (List Int)) : (pre ++ r :: rows).getD pre.length [] = r := by
  rw [List.getD_eq_getElem?_getD, List.getElem?_append_right (Nat.le_refl _)]
  simp
theorem getD_post {pre : List (List Int)} {r : List Int} {rows : List (List Int)} {i : Nat} (h : pre.length < i) (hl : i < (pre ++ r :: rows).length) : (pre ++ r :: rows).getD i [] ∈ rows := by
  rw [List.getD_eq_getElem?_getD, List.getElem?_append_right (by omega)]
  obtain ⟨k, hk⟩ : ∃ k, i - pre.length = k + 1 := ⟨i - pre.length - 1, by omega⟩
  rw [hk, List.getElem?_cons_succ]
  rw [List.length_append, List.length_cons] at hl
  rw [List.getElem?_eq_getElem (by omega)]
  exact List.getElem_mem _
theorem fst_at {pre : List (List Int)} {r : List Int} {rows : List (List Int)} {x : Int} (hx : x ∈ r) (hn : x ∉ pre.flatten) : minI (hitsI x (pre ++ r :: rows)) = (pre.length : Int) := by
  refine minI_eq (hitsI_mem.mpr ⟨pre.length, rfl, by simp, by rw [getD_at]; exact hx⟩) fun y hy => ?_
  obtain ⟨i, rfl, h1, h2⟩ := hitsI_mem.mp hy
  by_cases h : i < pre.length
  · exact absurd (List.mem_flatten.mpr ⟨_, getD_pre h, h2⟩) hn
  · omega
theorem lst_at {pre : List (List Int)} {r : List Int} {rows : List (List Int)} {x : Int} (hx : x ∈ r) (hn : x ∉ rows.flatten) : maxI (hitsI x (pre ++ r :: rows)) = (pre.length : Int) := by
  refine maxI_eq (hitsI_mem.mpr ⟨pre.length, rfl, by simp, by rw [getD_at]; exact hx⟩) fun y hy => ?_
  obtain ⟨i, rfl, h1, h2⟩ := hitsI_mem.mp hy
  by_cases h : pre.length < i
  · exact absurd (List.mem_flatten.mpr ⟨_, getD_post h h1, h2⟩) hn
  · omega

/-! the sorted order -/
theorem fall_sorted (dep : Int → Int) (downs : List (List Int)) (hd : ∀ r ∈ downs, r.Pairwise fun x y => dep x < dep y) :
    ∀ (rows pre : List (List Int)), downs = pre ++ rows → ((dedupe pre.flatten).map fun x => ((minI (hitsI x downs), dep x, x) : T3)).Pairwise (fun x y => ltT x y = true) → (∀ x ∈ dedupe pre.flatten, minI (hitsI x downs) < (pre.length : Int)) →
      ((dedupe downs.flatten).map fun x => ((minI (hitsI x downs), dep x, x) : T3)).Pairwise fun x y => ltT x y = true
  | [], pre, e, h1, h2 => by
    rw [List.append_nil] at e
    rw [← e] at h1
    exact h1
  | r :: rows, pre, e, h1, h2 => by
    have hr : r ∈ downs := by rw [e]; simp
    have hpw := hd r hr
    have hnd : r.Nodup := hpw.imp fun {a b} hab q => by rw [q] at hab; exact Int.lt_irrefl _ hab
    have ef : dedupe (pre ++ [r]).flatten = dedupe pre.flatten ++ r.filter fun x => decide (x ∉ pre.flatten) := by
      rw [List.flatten_append, List.flatten_cons, List.flatten_nil, List.append_nil, dedupe_append _ _ hnd]
    have hnew : ∀ x ∈ r.filter (fun x => decide (x ∉ pre.flatten)), minI (hitsI x downs) = (pre.length : Int) := fun x hx => by
      obtain ⟨q1, q2⟩ := List.mem_filter.mp hx
      rw [e]
      exact fst_at q1 (by simpa using q2)
    refine fall_sorted dep downs hd rows (pre ++ [r]) (by rw [e]; simp) ?_ ?_
    · rw [ef, List.map_append, List.pairwise_append]
      refine ⟨h1, ?_, fun x hx y hy => ?_⟩
      · rw [List.pairwise_map]
        refine (List.Pairwise.filter _ hpw).imp_of_mem fun {x y} hx hy hxy => ?_
        rw [hnew x hx, hnew y hy]
        have hne : ¬ dep x = dep y := by omega
        simp only [ltT, if_true, hne, if_false, decide_eq_true_eq]
        exact hxy
      · obtain ⟨x', hx', rfl⟩ := List.mem_map.mp hx
        obtain ⟨y', hy', rfl⟩ := List.mem_map.mp hy
        have q1 := h2 x' hx'
        have q2 := hnew y' hy'
        have hne : ¬ minI (hitsI x' downs) = minI (hitsI y' downs) := by omega
        simp only [ltT, hne, if_false, decide_eq_true_eq]
        omega
    · intro x hx
      rw [ef, List.mem_append] at hx
      rw [List.length_append, List.length_singleton]
      rcases hx with hx | hx
      · have := h2 x hx; omega
      · rw [hnew x hx]; omega

theorem rise_sorted (dep : Int → Int) (low : List (List Int)) (hd : ∀ r ∈ low, r.Pairwise fun x y => dep y < dep x) :
    ∀ (rows pre : List (List Int)), low = pre ++ rows → ((kl rows.flatten).map fun x => ((maxI (hitsI x low), 0 - dep x, x) : T3)).Pairwise (fun x y => ltT x y = true) ∧ ∀ x ∈ kl rows.flatten, (pre.length : Int) ≤ maxI (hitsI x low)
  | [], pre, e => ⟨List.Pairwise.nil, fun _ h => nomatch h⟩
  | r :: rows, pre, e => by
    have hr : r ∈ low := by rw [e]; simp
    have hpw := hd r hr
    have hnd : r.Nodup := hpw.imp fun {a b} hab q => by rw [q] at hab; exact Int.lt_irrefl _ hab
    have ef : kl (r :: rows).flatten = (r.filter fun x => decide (x ∉ rows.flatten)) ++ kl rows.flatten := by
      rw [List.flatten_cons, kl_append _ _ hnd]
    have hnew : ∀ x ∈ r.filter (fun x => decide (x ∉ rows.flatten)), maxI (hitsI x low) = (pre.length : Int) := fun x hx => by
      obtain ⟨q1, q2⟩ := List.mem_filter.mp hx
      rw [e]
      exact lst_at q1 (by simpa using q2)
    obtain ⟨h1, h2⟩ := rise_sorted dep low hd rows (pre ++ [r]) (by rw [e]; simp)
    rw [List.length_append, List.length_singleton] at h2
    rw [ef]
    refine ⟨?_, fun x hx => ?_⟩
    · rw [List.map_append, List.pairwise_append]
      refine ⟨?_, h1, fun x hx y hy => ?_⟩
      · rw [List.pairwise_map]
        refine (List.Pairwise.filter _ hpw).imp_of_mem fun {x y} hx hy hxy => ?_
        rw [hnew x hx, hnew y hy]
        have hne : ¬ (0 - dep x = 0 - dep y) := by omega
        simp only [ltT, if_true, hne, if_false, decide_eq_true_eq]
        omega
      · obtain ⟨x', hx', rfl⟩ := List.mem_map.mp hx
        obtain ⟨y', hy', rfl⟩ := List.mem_map.mp hy
        have q1 := hnew x' hx'
        have q2 := h2 y' hy'
        have hne : ¬ maxI (hitsI x' low) = maxI (hitsI y' low) := by omega
        simp only [ltT, hne, if_false, decide_eq_true_eq]
        omega
    · rcases List.mem_append.mp hx with hx | hx
      · rw [hnew x hx]; exact Int.le_refl _
      · have := h2 x hx; omega

/-- the same members, each once -/
theorem perm_of {α : Type} : ∀ {l l' : List α}, l.Nodup → l'.Nodup → (∀ x, x ∈ l ↔ x ∈ l') → l.Perm l'
  | [], l', _, _, h => by
    cases l' with
    | nil => exact List.Perm.refl _
    | cons a l' => exact absurd ((h a).mpr (by simp)) (by simp)
  | a :: l, l', h1, h2, h => by
    obtain ⟨b, t, e⟩ := List.append_of_mem ((h a).mp (by simp))
    subst e
    rw [List.nodup_cons] at h1
    have h2' : (a :: (b ++ t)).Nodup := (List.perm_middle.nodup_iff).mp h2
    rw [List.nodup_cons] at h2'
    refine (List.Perm.cons a (perm_of h1.2 h2'.2 fun x => ?_)).trans List.perm_middle.symm
    constructor
    · intro hx
      have := (h x).mp (List.mem_cons_of_mem _ hx)
      have hxa : x ≠ a := fun q => h1.1 (q ▸ hx)
      simp only [List.mem_append, List.mem_cons] at this ⊢
      rcases this with q | q | q
      · exact .inl q
      · exact absurd q hxa
      · exact .inr q
    · intro hx
      have hxa : x ≠ a := fun q => h2'.1 (q ▸ hx)
      have := (h x).mpr (by simp only [List.mem_append, List.mem_cons] at hx ⊢; rcases hx with q | q; exact .inl q; exact .inr (.inr q))
      exact (List.mem_cons.mp this).resolve_left hxa
end Mine

namespace Mine

theorem nums_len (script : List Int) : 3 ≤ (numsL script).length ∧ (numsL script).length ≤ 8 := by
  unfold numsL
  rw [List.length_take, List.length_append, List.length_take]
  simp only [List.length_cons, List.length_nil]
  omega
theorem ab_tree (ns : List Int) : Tree (abovL ns) := fun i h0 hi => by
  rw [ab_len] at hi
  obtain ⟨k, rfl⟩ : ∃ k, i = k + 1 := ⟨i - 1, by omega⟩
  have e : (abovL ns).getD (k + 1) 0 = (ns.getD k 0).fmod ((k : Int) + 1) := by
    unfold abovL
    rw [List.getD_cons_succ, List.getD_eq_getElem?_getD, List.getElem?_map, List.getElem?_range (by omega)]
    rfl
  rw [e]
  have h1 := Int.fmod_nonneg_of_pos (ns.getD k 0) (b := (k : Int) + 1) (by omega)
  have h2 := Int.fmod_lt_of_pos (ns.getD k 0) (b := (k : Int) + 1) (by omega)
  exact ⟨h1, by omega⟩
theorem st_ins (ns : List Int) : ∀ x ∈ startL ns, Nd (abovL ns) x := fun x hx => by
  obtain ⟨k, hk, rfl⟩ := List.mem_map.mp hx
  have hk := List.mem_range.mp hk
  have h1 := Int.fmod_nonneg_of_pos ((ns.getD k 0).fdiv ((k : Int) + 1)) (b := (k : Int) + 2) (by omega)
  have h2 := Int.fmod_lt_of_pos ((ns.getD k 0).fdiv ((k : Int) + 1)) (b := (k : Int) + 2) (by omega)
  refine ⟨h1, ?_⟩
  rw [ab_len]
  omega

theorem hits_ne {x : Int} {ways : List (List Int)} (h : x ∈ ways.flatten) : hits x ways ≠ [] := fun e => by
  obtain ⟨r, hr, hx⟩ := List.mem_flatten.mp h
  obtain ⟨i, hi, rfl⟩ := List.mem_iff_getElem.mp hr
  have : i ∈ hits x ways := hits_mem.mpr ⟨hi, by rw [List.getD_eq_getElem?_getD, List.getElem?_eq_getElem hi]; exact hx⟩
  rw [e] at this
  cases this

section
variable {ab st : List Int}
theorem ups_mem (ht : Tree ab) (hin : ∀ x ∈ st, Nd ab x) {x : Int} : x ∈ (upsL ab st).flatten ↔ x ∈ st ∨ x ∈ innerL (upsL ab st) := by
  rw [List.mem_flatten]
  constructor
  · rintro ⟨r, hr, hx⟩
    obtain ⟨s, hs, rfl⟩ := List.mem_map.mp hr
    rcases up_or ht (hin s hs) hx with rfl | q
    · exact .inl hs
    · exact .inr (inner_mem.mpr ⟨_, hr, q⟩)
  · rintro (h | h)
    · exact ⟨_, List.mem_map.mpr ⟨x, h, rfl⟩, up_self ht (hin x h)⟩
    · obtain ⟨r, hr, hx⟩ := inner_mem.mp h
      exact ⟨r, hr, List.mem_of_mem_drop hx⟩
theorem downs_mem (ups : List (List Int)) {x : Int} : x ∈ (downsL ups).flatten ↔ x ∈ ups.flatten := by
  rw [List.mem_flatten, List.mem_flatten]
  constructor
  · rintro ⟨r, hr, hx⟩
    obtain ⟨u, hu, rfl⟩ := List.mem_map.mp hr
    exact ⟨u, hu, List.mem_reverse.mp hx⟩
  · rintro ⟨u, hu, hx⟩
    exact ⟨u.reverse, List.mem_map.mpr ⟨u, hu, rfl⟩, List.mem_reverse.mpr hx⟩
theorem low_sub (ht : Tree ab) {r : List Int} (h : r ∈ lowestL st (innerL (upsL ab st)) (upsL ab st)) : r ∈ upsL ab st := by
  obtain ⟨i, hi, rfl⟩ := List.mem_map.mp h
  have hi := List.mem_range.mp (List.mem_filter.mp hi).1
  rw [List.getD_eq_getElem?_getD, List.getElem?_eq_getElem hi]
  exact List.getElem_mem hi
theorem low_mem (ht : Tree ab) (hin : ∀ x ∈ st, Nd ab x) {x : Int} : x ∈ (lowestL st (innerL (upsL ab st)) (upsL ab st)).flatten ↔ x ∈ (upsL ab st).flatten := by
  rw [List.mem_flatten, List.mem_flatten]
  constructor
  · rintro ⟨r, hr, hx⟩
    exact ⟨r, low_sub ht hr, hx⟩
  · rintro ⟨r, hr, hx⟩
    obtain ⟨s, hs, rfl⟩ := List.mem_map.mp hr
    obtain ⟨l, h1, h2, h3⟩ := low_cover ht hin _ s (Nat.le_refl _) hs
    refine ⟨(upsL ab st).getD l [], List.mem_map.mpr ⟨l, List.mem_filter.mpr ⟨List.mem_range.mpr (by rw [up_len]; exact h1), h2⟩, rfl⟩, ?_⟩
    rw [ups_get h1]
    exact up_trans ht (hin _ (getD_mem h1)) h3 hx
theorem node_nd (ht : Tree ab) (hin : ∀ x ∈ st, Nd ab x) {x : Int} (h : x ∈ (upsL ab st).flatten) : Nd ab x := by
  obtain ⟨r, hr, hx⟩ := List.mem_flatten.mp h
  obtain ⟨s, hs, rfl⟩ := List.mem_map.mp hr
  exact (up_mem ht (hin s hs) hx).1
theorem nodes_mem (ht : Tree ab) (hin : ∀ x ∈ st, Nd ab x) {x : Int} : x ∈ (nodeL ab st (innerL (upsL ab st))).map (fun (n : Nat) => (n : Int)) ↔ x ∈ (upsL ab st).flatten := by
  rw [List.mem_map]
  constructor
  · rintro ⟨n, hn, rfl⟩
    have := (List.mem_filter.mp hn).2
    simp only [Bool.or_eq_true, decide_eq_true_eq] at this
    exact (ups_mem ht hin).mpr this
  · intro h
    have nd := node_nd ht hin h
    have h0 := nd.1
    refine ⟨x.toNat, List.mem_filter.mpr ⟨List.mem_range.mpr nd.2, ?_⟩, by omega⟩
    have e : ((x.toNat : Nat) : Int) = x := by omega
    rw [e]
    simpa using (ups_mem ht hin).mp h
theorem nodes_nodup (ab st inner : List Int) : ((nodeL ab st inner).map fun (n : Nat) => (n : Int)).Nodup := by
  unfold nodeL
  refine List.pairwise_map.mpr ((List.Pairwise.filter _ List.nodup_range).imp fun {a b} h e => h (by omega))

theorem run_ups (ht : Tree ab) (hin : ∀ x ∈ st, Nd ab x) : c3Run (upsL ab st) [] = (some (kl (lowestL st (innerL (upsL ab st)) (upsL ab st)).flatten), (upsL ab st).map fun _ => []) := by
  have h := up_all ht hin (List.range st.length) (lowB st (innerL (upsL ab st))) List.pairwise_lt_range (fun i hi => List.mem_range.mp hi) (fun _ _ h => h) (fun i hi => by
    obtain ⟨l, h1, h2, h3⟩ := low_cover ht hin _ _ (Nat.le_refl _) (getD_mem (List.mem_range.mp hi))
    exact ⟨l, List.mem_range.mpr h1, h2, h3⟩)
  have e : ((List.range st.length).map fun i => (upsL ab st).getD i []) = upsL ab st := by
    rw [← up_len ab st]
    refine List.ext_getElem (by simp) fun i h1 h2 => ?_
    simp [h2]
  rw [e] at h
  rw [h]
  unfold lowestL
  rw [up_len]
theorem run_low (ht : Tree ab) (hin : ∀ x ∈ st, Nd ab x) : c3Run (lowestL st (innerL (upsL ab st)) (upsL ab st)) [] = (some (kl (lowestL st (innerL (upsL ab st)) (upsL ab st)).flatten), (lowestL st (innerL (upsL ab st)) (upsL ab st)).map fun _ => []) := by
  have h := up_all ht hin ((List.range (upsL ab st).length).filter (lowB st (innerL (upsL ab st)))) (fun _ => true) (List.Pairwise.filter _ List.pairwise_lt_range) (fun i hi => by
    have := List.mem_range.mp (List.mem_filter.mp hi).1
    rw [up_len] at this
    exact this) (fun i hi _ => (List.mem_filter.mp hi).2) (fun i hi => by
    have hr := List.mem_range.mp (List.mem_filter.mp hi).1
    rw [up_len] at hr
    exact ⟨i, hi, rfl, up_self ht (hin _ (getD_mem hr))⟩)
  rw [List.filter_eq_self.mpr fun _ _ => rfl] at h
  exact h

theorem nine_free (ht : Tree ab) (hin : ∀ x ∈ st, Nd ab x) (hl : ab.length ≤ 9) : ∀ r ∈ downsL (upsL ab st) ++ upsL ab st, (9 : Int) ∉ r := fun r hr h9 => by
  have : (9 : Int) ∈ (upsL ab st).flatten := by
    rcases List.mem_append.mp hr with q | q
    · exact (downs_mem _).mp (List.mem_flatten.mpr ⟨r, q, h9⟩)
    · exact List.mem_flatten.mpr ⟨r, q, h9⟩
  have := (node_nd ht hin this).2
  omega
theorem both_first (ht : Tree ab) (hin : ∀ x ∈ st, Nd ab x) (hl : ab.length ≤ 9) (hn : 0 < st.length) : c3Run (bothL (downsL (upsL ab st)) (upsL ab st)) [] = c3Run (downsL (upsL ab st) ++ upsL ab st) [9] := by
  have h9 := nine_free ht hin hl
  have hdl : (downsL (upsL ab st)).length = st.length := by rw [downsL, List.length_map, up_len]
  generalize upsL ab st = ups at *
  generalize hD : downsL ups = downs at *
  cases downs with
  | nil => simp at hdl; omega
  | cons d0 dr =>
    have eb : bothL (d0 :: dr) ups = (9 :: d0) :: (dr ++ ups) := by simp [bothL]
    have hfree : blocked ((9 :: d0) :: (dr ++ ups)) 9 = false := blocked_no fun r hr hx => by
      rcases List.mem_cons.mp hr with rfl | hr
      · exact h9 d0 (by simp) hx
      · exact h9 r (by simp only [List.cons_append, List.mem_cons]; exact .inr hr) (List.mem_of_mem_drop hx)
    have hpick : pick ((9 :: d0) :: (dr ++ ups)) = some 9 := by
      unfold pick
      rw [heads_cons, List.find?_cons_of_pos (by rw [hfree]; rfl)]
    rw [eb, c3Run_some (by rw [List.all_cons]; rfl) hpick, List.map_cons, strike_head]
    have : (dr ++ ups).map (strike 9) = dr ++ ups := by
      refine (List.map_congr_left fun r hr => strike_free (h9 r ?_)).trans (List.map_id _)
      simp only [List.cons_append, List.mem_cons]; exact .inr hr
    rw [this]
    rfl

theorem both_none (ht : Tree ab) (hin : ∀ x ∈ st, Nd ab x) (hl : ab.length ≤ 9) (hn : 0 < st.length) (hpos : 0 < maxI st) : c3Run (bothL (downsL (upsL ab st)) (upsL ab st)) [] = (none, downsL (upsL ab st) ++ upsL ab st) := by
  rw [both_first ht hin hl hn]
  have hm : maxI st ∈ st := maxI_mem fun e => by rw [e] at hn; simp at hn
  have hup : ∀ s ∈ st, upL ab s ∈ downsL (upsL ab st) ++ upsL ab st := fun s hs => List.mem_append_right _ (List.mem_map.mpr ⟨s, hs, rfl⟩)
  have hdo : ∀ s ∈ st, (upL ab s).reverse ∈ downsL (upsL ab st) ++ upsL ab st := fun s hs => List.mem_append_left _ (List.mem_map.mpr ⟨_, List.mem_map.mpr ⟨s, hs, rfl⟩, rfl⟩)
  have h0 : blocked (downsL (upsL ab st) ++ upsL ab st) 0 = true := by
    refine blk_iff.mpr ⟨_, hup _ hm, ?_⟩
    rcases up_or ht (hin _ hm) (up_root ht _ (Nat.le_refl _) (hin _ hm)) with q | q
    · omega
    · exact q
  refine c3Run_none (not_all_empty (hup _ hm) ?_) ?_
  · obtain ⟨t, e⟩ := up_head ht (hin _ hm)
    rw [e]; simp
  · unfold pick
    refine List.find?_eq_none.mpr fun x hx => ?_
    have : blocked (downsL (upsL ab st) ++ upsL ab st) x = true := by
      obtain ⟨t, hr⟩ := heads_mem.mp hx
      rcases List.mem_append.mp hr with q | q
      · obtain ⟨u, hu, e⟩ := List.mem_map.mp q
        obtain ⟨s, hs, rfl⟩ := List.mem_map.mp hu
        have e1 : upL ab s = t.reverse ++ x :: [] := by
          have := congrArg List.reverse e
          simpa using this
        obtain ⟨nd, e2, _⟩ := up_at ht (hin s hs) e1
        rcases up_cons ht nd with ⟨rfl, _⟩ | ⟨hx0, e3⟩
        · exact h0
        · rw [e3] at e2
          have e4 := (List.cons.inj e2).2
          obtain ⟨t', e5⟩ := up_head ht (nd.par ht hx0).1
          rw [e5] at e4; cases e4
      · obtain ⟨s, hs, e⟩ := List.mem_map.mp q
        obtain ⟨t', e'⟩ := up_head ht (hin s hs)
        have hsx : s = x := by
          rw [e'] at e
          exact (List.cons.inj e).1
        subst hsx
        rcases up_cons ht (hin s hs) with ⟨rfl, _⟩ | ⟨hx0, e3⟩
        · exact h0
        · refine blk_iff.mpr ⟨_, hdo s hs, ?_⟩
          obtain ⟨t', e5⟩ := up_head ht ((hin s hs).par ht hx0).1
          rw [e3, e5, List.reverse_cons, List.reverse_cons]
          cases t'.reverse with
          | nil => simp
          | cons a l => simp
    simp [this]
theorem both_some (ht : Tree ab) (hin : ∀ x ∈ st, Nd ab x) (hl : ab.length ≤ 9) (hn : 0 < st.length) (hpos : ¬ 0 < maxI st) : c3Run (bothL (downsL (upsL ab st)) (upsL ab st)) [] = (some [9, 0], (upsL ab st ++ upsL ab st).map fun _ => []) := by
  rw [both_first ht hin hl hn]
  have hz : ∀ s ∈ st, s = 0 := fun s hs => by
    have h1 := maxI_ge hs
    have h2 := (hin s hs).1
    omega
  have hu : ∀ r ∈ upsL ab st, r = [0] := fun r hr => by
    obtain ⟨s, hs, rfl⟩ := List.mem_map.mp hr
    rw [hz s hs]
    exact upL_zero (Int.le_refl _)
  have hr : ∀ r ∈ downsL (upsL ab st) ++ upsL ab st, r = [0] := fun r hx => by
    rcases List.mem_append.mp hx with q | q
    · obtain ⟨u, hu', rfl⟩ := List.mem_map.mp q
      rw [hu u hu']; rfl
    · exact hu r q
  have hlen : (downsL (upsL ab st) ++ upsL ab st).length = (upsL ab st ++ upsL ab st).length := by
    rw [List.length_append, List.length_append, downsL, List.length_map]
  have hpos' : 0 < (downsL (upsL ab st) ++ upsL ab st).length := by
    rw [List.length_append, up_len]; omega
  rw [← map_nil _ _ hlen]
  generalize downsL (upsL ab st) ++ upsL ab st = rows at hr hpos' ⊢
  have hfree : blocked rows 0 = false := blocked_no fun r hx h => by rw [hr r hx] at h; cases h
  cases rows with
  | nil => simp at hpos'
  | cons r rows =>
    have e0 := hr r (by simp)
    subst e0
    have hpick : pick ([0] :: rows) = some 0 := by
      unfold pick
      rw [heads_cons, List.find?_cons_of_pos (by rw [hfree]; rfl)]
    have hst : ([0] :: rows).map (strike 0) = ([0] :: rows).map fun _ => [] := List.map_congr_left fun r hx => by rw [hr r hx]; rfl
    rw [c3Run_some (by rw [List.all_cons]; rfl) hpick, hst, c3Run_done]
    · rfl
    · rw [List.all_eq_true]
      intro r hx
      obtain ⟨_, _, rfl⟩ := List.mem_map.mp hx
      rfl
end

theorem facts (script : List Int) : ∃ ab st ups downs lowest inner nodes F R, Facts (numsL script) ab st ups downs lowest inner nodes F R := by
  obtain ⟨h3, h8⟩ := nums_len script
  generalize numsL script = ns at *
  have ht := ab_tree ns
  have hin := st_ins ns
  have hab : (abovL ns).length ≤ 9 := by rw [ab_len]; omega
  have hst : 0 < (startL ns).length := by rw [st_len]; omega
  generalize eab : abovL ns = ab at ht hin hab
  generalize est : startL ns = st at hin hst
  have hdec : ∀ r ∈ upsL ab st, r.Pairwise fun y z => (upL ab z).length < (upL ab y).length := fun r hr => by
    obtain ⟨s, hs, rfl⟩ := List.mem_map.mp hr
    exact up_dec ht _ (Nat.le_refl _) (hin s hs)
  have hnod : ∀ n ∈ nodeL ab st (innerL (upsL ab st)), (n : Int) ∈ (upsL ab st).flatten := fun n hn => (nodes_mem ht hin).mp (List.mem_map.mpr ⟨n, hn, rfl⟩)
  have e1 : ∀ (g : Int → Int) (h : Int → Int) (l : List Int), (l.map fun x => ((g x, h x, x) : T3)).map (·.2.2) = l := fun g h l => by
    rw [List.map_map]
    exact (List.map_congr_left fun _ _ => rfl).trans (List.map_id _)
  refine ⟨ab, st, upsL ab st, downsL (upsL ab st), lowestL st (innerL (upsL ab st)) (upsL ab st), innerL (upsL ab st), nodeL ab st (innerL (upsL ab st)),
    (dedupe (downsL (upsL ab st)).flatten).map fun x => (minI (hitsI x (downsL (upsL ab st))), ((upL ab x).length : Int), x),
    (kl (lowestL st (innerL (upsL ab st)) (upsL ab st)).flatten).map fun x => (maxI (hitsI x (lowestL st (innerL (upsL ab st)) (upsL ab st))), 0 - ((upL ab x).length : Int), x),
    ⟨eab.symm, est.symm, rfl, rfl, rfl, rfl, rfl, h3, h8, ht, hin, ?_, ?_, ?_, ?_, ?_, ?_, ?_, ?_, ?_, ?_, ?_, ?_, ?_⟩⟩
  · exact fun n hn => hits_ne ((downs_mem _).mpr (hnod n hn))
  · exact fun n hn => hits_ne ((low_mem ht hin).mpr (hnod n hn))
  · have e : fallL ab (downsL (upsL ab st)) (nodeL ab st (innerL (upsL ab st))) = ((nodeL ab st (innerL (upsL ab st))).map fun (n : Nat) => (n : Int)).map fun x => ((minI (hitsI x (downsL (upsL ab st))), ((upL ab x).length : Int), x) : T3) := by
      unfold fallL; rw [List.map_map]; rfl
    rw [e]
    refine List.Perm.map _ (perm_of (dedupe_nodup _) (nodes_nodup _ _ _) fun x => ?_)
    rw [dedupe_mem, downs_mem, nodes_mem ht hin]
  · refine fall_sorted (fun x => ((upL ab x).length : Int)) (downsL (upsL ab st)) (fun r hr => ?_) (downsL (upsL ab st)) [] rfl (by simp [dedupe]) (by simp [dedupe])
    obtain ⟨u, hu, rfl⟩ := List.mem_map.mp hr
    rw [List.pairwise_reverse]
    exact (hdec u hu).imp fun {a b} h => by omega
  · have e : riseL ab (lowestL st (innerL (upsL ab st)) (upsL ab st)) (nodeL ab st (innerL (upsL ab st))) = ((nodeL ab st (innerL (upsL ab st))).map fun (n : Nat) => (n : Int)).map fun x => ((maxI (hitsI x (lowestL st (innerL (upsL ab st)) (upsL ab st))), 0 - ((upL ab x).length : Int), x) : T3) := by
      unfold riseL; rw [List.map_map]; rfl
    rw [e]
    refine List.Perm.map _ (perm_of (kl_nodup _) (nodes_nodup _ _ _) fun x => ?_)
    rw [kl_mem, low_mem ht hin, nodes_mem ht hin]
  · exact (rise_sorted (fun x => ((upL ab x).length : Int)) _ (fun r hr => (hdec r (low_sub ht hr)).imp fun {a b} h => by omega) _ [] rfl).1
  · rw [e1 (fun x => minI (hitsI x (downsL (upsL ab st)))) (fun x => ((upL ab x).length : Int))]
    have := down_run _ (downsL (upsL ab st)) [] rfl (downs_PT ht hin)
    rw [this, List.nil_append]
  · rw [e1 (fun x => maxI (hitsI x (lowestL st (innerL (upsL ab st)) (upsL ab st)))) (fun x => 0 - ((upL ab x).length : Int))]
    exact run_ups ht hin
  · rw [e1 (fun x => maxI (hitsI x (lowestL st (innerL (upsL ab st)) (upsL ab st)))) (fun x => 0 - ((upL ab x).length : Int))]
    exact run_low ht hin
  · exact (e1 (fun x => minI (hitsI x (downsL (upsL ab st)))) (fun x => ((upL ab x).length : Int)) _).symm
  · rw [e1 (fun x => maxI (hitsI x (lowestL st (innerL (upsL ab st)) (upsL ab st)))) (fun x => 0 - ((upL ab x).length : Int))]
    exact kl_rev _
  · exact fun h => both_none ht hin hab hst h
  · exact fun h => both_some ht hin hab hst h
end Mine

namespace Mine
open PySem PySem.W PyProof.Rows
set_option maxRecDepth 100000 in
set_option maxHeartbeats 8000000 in
open_top hd for PySem.Challenge.rw_ny0022_01
end Mine

namespace Mine
open PySem PySem.W PyProof.Rows PySem.Challenge

theorem fnAt_of {K : Frag} {h : Heap} (X : K.In h) {a c : Addr} {i : Nat} {name : Str} {o : Obj} {pm doc : Value} (e : K.lookup a = some o) (hd : o.data = .func (Calls.docDef name (paramsOf i) (bodyOf i) (scopeOf i) pm (.ref c) doc)) (hc : codeIn K (.ref c) name = true) : FnAt h a i name (.ref c) :=
  ⟨o, pm, doc, X _ _ e, hd, codeRec_of X hc⟩

theorem names_of {K : Frag} {h : Heap} {mg mb : Str → Option Value} (X : K.In h) (hg : h.Ns mainGlobals mg) (hb : ∀ x : Str, x ≠ "__name__" → mb x = bootBuiltins x) (hB : h.Ns builtinsNs mb)
    (h1 : ∀ p ∈ defNames, nsIn K mainGlobals p.1 = some (some p.2)) (h2 : ∀ p ∈ bootNames, nsIn K mainGlobals p.1 = some none ∧ p.1 ≠ "__name__" ∧ bootBuiltins p.1 = some p.2) :
    ∃ mg mb, h.Ns mainGlobals mg ∧ h.Ns builtinsNs mb ∧ (∀ x v, (x, v) ∈ defNames → mg x = some v) ∧ ∀ x v, (x, v) ∈ bootNames → mg x = none ∧ mb x = some v :=
  ⟨mg, mb, hg, hB, fun x v hx => mg_of X hg (h1 _ hx), fun x v hx => ⟨mg_none_of X hg (h2 _ hx).1, (hb x (h2 _ hx).2.1).trans (h2 _ hx).2.2⟩⟩

theorem boots : ∀ p ∈ bootNames, p.1 ≠ ("__name__" : Str) ∧ bootBuiltins p.1 = some p.2 := by
  intro p hp
  simp only [bootNames, List.mem_cons, List.not_mem_nil, or_false] at hp
  rcases hp with rfl | rfl | rfl | rfl | rfl | rfl | rfl | rfl | rfl
  all_goals exact ⟨by decide, by first | rfl | kernel_rfl | decide +kernel⟩
theorem defs_in (P : Params) : ∀ p ∈ defNames, nsIn (hd.heap_39 P) mainGlobals p.1 = some (some p.2) := by
  intro p hp
  simp only [defNames, List.mem_cons, List.not_mem_nil, or_false] at hp
  rcases hp with rfl | rfl | rfl | rfl | rfl | rfl
  all_goals rfl
theorem boots_in (P : Params) : ∀ p ∈ bootNames, nsIn (hd.heap_39 P) mainGlobals p.1 = some none := by
  intro p hp
  simp only [bootNames, List.mem_cons, List.not_mem_nil, or_false] at hp
  rcases hp with rfl | rfl | rfl | rfl | rfl | rfl | rfl | rfl | rfl
  all_goals rfl

theorem wd_of {P : Params} {h : Heap} {mg mb : Str → Option Value} (X : (hd.heap_39 P).In h) (hg : h.Ns mainGlobals mg) (hb : ∀ x : Str, x ≠ "__name__" → mb x = bootBuiltins x) (hB : h.Ns builtinsNs mb) (hl : h.NoLimit) : Wd h :=
  ⟨hl, names_of X hg hb hB (defs_in P) (fun p hp => ⟨boots_in P p hp, boots p hp⟩), fnAt_of X (o := _) rfl rfl rfl, fnAt_of X (o := _) rfl rfl rfl, fnAt_of X (o := _) rfl rfl rfl, fnAt_of X (o := _) rfl rfl rfl, fnAt_of X (o := _) rfl rfl rfl, fnAt_of X (o := _) rfl rfl rfl⟩
theorem ded_of {P : Params} {h : Heap} (X : (hd.heap_39 P).In h) : DedAt h :=
  ⟨_, _, _, _, _, X 27 _ rfl, rfl, codeRec_of X rfl, X 20 _ rfl⟩

theorem well_ints {P : Params} {h : Heap} {R : WRecords} : ∀ {xs : List WData} {vs : List Value}, WShape.hasItems R xs .int = true → WellAll P h vs xs → ∃ l : List Int, xs = l.map WData.int ∧ Reps h (l.map D.int) vs
  | [], _, _, .nil => ⟨[], rfl, rfl⟩
  | x :: xs, _, hi, .cons a b => by
    simp only [WShape.hasItems, Bool.and_eq_true] at hi
    obtain ⟨l, rfl, r⟩ := well_ints hi.2 b
    obtain ⟨i, rfl⟩ := hasW_int hi.1
    cases a
    exact ⟨i :: l, rfl, _, _, rfl, ⟨_, rfl⟩, r⟩

theorem post_true {args args' : List WData} : rw_ny0022_01.row.claim.post args (.bool true) args' = true := by
  show (WShape.has [] (.bool true) .bool && WTm.holds [] (.eq .res (.lit (.bool true))) { args := args, res := some (.bool true), after := args' }) = true
  simp [WTm.holds, WTm.value, W.same, WShape.has, WShape.arms]
theorem pre_len {script : List Int} (h : rw_ny0022_01.row.toRowW.pre.holds [] { args := [.list (script.map WData.int)] } = true) : script.length ≤ 63 := by
  have h' : (WTm.and (.not (.lt (.lit (.int 63)) (.len (.arg 0)))) (.lit (.bool true))).holds [] { args := [.list (script.map WData.int)] } = true := h
  have h1 := (holds_andW h').1
  simp [WTm.holds, WTm.value, W.less?] at h1
  rw [show W.Num.less? (.int 63) (.int (script.length : Int)) = some (decide ((63 : Int) < (script.length : Int))) from rfl] at h1
  by_cases h2 : (63 : Int) < (script.length : Int)
  · rw [decide_eq_true h2] at h1
    exact absurd h1 (by simp)
  · omega

theorem join (facts : ∀ script : List Int, ∃ ab st ups downs lowest inner nodes F R, Facts (numsL script) ab st ups downs lowest inner nodes F R) : rw_ny0022_01.Holds := by
  refine hd ?_
  intro w s₀ s₁ mg mb G Y fa o pm cd doc dV kV ho hdd hcd hD hmg hg args vals as hpre hlay hrd hwl hlo
  have KX : (hd.heap_39 w.params).In s₁.heap := kIn_of Y
  have T := G.T
  have W : Wd s₁.heap := wd_of KX T.g T.builtins T.b T.nolimit
  have Dd : DedAt s₁.heap := ded_of KX
  have hfa : fa = 61 := by
    have h1 := mg_of (n := "law") (v := .ref 61) KX T.g (by rfl)
    have h2 : mg (PySem.Str.ofString "law") = some (.ref fa) := hmg
    rw [h1] at h2
    cases h2
    rfl
  subst hfa
  obtain ⟨hs, hp⟩ := pre_splitW hpre
  obtain ⟨d, r, rfl, hs1, hs2⟩ := hasAllW_cons hs
  obtain rfl := hasAllW_nil hs2
  obtain ⟨xs, rfl, hs3⟩ := hasW_list hs1
  cases hwl with
  | cons hw1 hw2 =>
    cases hw2
    cases hw1 with
    | @list a vs xs hget hall =>
      obtain ⟨script, rfl, rr⟩ := well_ints hs3 hall
      have hlen : script.length ≤ 63 := by
        exact pre_len hp
      have rep : Reps s₁.heap [dInts script] [.ref a] := ⟨_, [], rfl, ⟨by rw [List.length_map]; show _ ≤ 1000; omega, a, _, 0, rfl, trivial, hget, by simpa using rr⟩, rfl⟩
      obtain ⟨ab, st, ups, downs, lowest, inner, nodes, F, R, K⟩ := facts script
      have fn := law_fn (prog := pw_ny0022_01) (w := w) (A := callerA) W Dd (by decide) rfl rfl (by decide) rfl K
      refine wpAny_mono (fn s₁ (fun _ _ => False) [.ref a] (Ext.refl _) rep) (fun v s' q => ?_) fun _ _ e => e.elim
      obtain ⟨⟨h', tk, rfl, hx⟩, rv⟩ := q
      cases rv
      refine GoodW.toG ⟨.inl ⟨_, .bool true, [], rfl, fun cls => rfl, .bool true, post_true, fun _ => ⟨List.nodup_nil, fun a ha => nomatch ha⟩⟩, hx, rfl, hg⟩
end Mine

theorem PySem.Challenge.cw_ny0022_01_holds : PySem.Challenge.rw_ny0022_01.Holds := by
  exact Mine.join Mine.facts
