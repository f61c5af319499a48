import PyProof.Rows.All
import Wide.All
import OpenK.AllK
import Wide.FinOn
import PySem.Challenge.RW_op0023_01
set_option Elab.async false

section
open PySem PySem.W PyProof.Rows
set_option autoImplicit false
set_option linter.unusedVariables false
namespace Mine

/-- what is known for good of some objects -/
abbrev Map := Addr → Option Obj

def upd (g : Map) (a : Addr) (o : Obj) : Map := fun b => if b = a then some o else g b

/-- the heap grows, and what is known for good with it -/
structure Gr (g : Map) (h : Heap) (g' : Map) (h' : Heap) : Prop where
  heap : ∀ b o, h.get? b = some o → h'.get? b = some o
  sub : ∀ b o, g b = some o → g' b = some o
  new : ∀ b o, g' b = some o → g b = some o ∨ h.get? b = none
  now : ∀ b o, g' b = some o → h'.get? b = some o

theorem Gr.refl {g : Map} {h : Heap} (hs : ∀ b o, g b = some o → h.get? b = some o) : Gr g h g h :=
  ⟨fun _ _ e => e, fun _ _ e => e, fun _ _ e => .inl e, hs⟩

theorem Gr.trans {g₁ g₂ g₃ : Map} {h₁ h₂ h₃ : Heap} (a : Gr g₁ h₁ g₂ h₂) (b : Gr g₂ h₂ g₃ h₃) : Gr g₁ h₁ g₃ h₃ :=
  ⟨fun x o e => b.heap x o (a.heap x o e), fun x o e => b.sub x o (a.sub x o e),
   fun x o e => by
    rcases b.new x o e with q | q
    · exact a.new x o q
    · right
      cases k : h₁.get? x with
      | none => rfl
      | some o' => exact absurd (a.heap x o' k) (by rw [q]; intro z; cases z),
   b.now⟩

theorem Gr.of_heap {g : Map} {h h' : Heap} (hs : ∀ b o, g b = some o → h.get? b = some o) (hk : ∀ b o, h.get? b = some o → h'.get? b = some o) : Gr g h g h' :=
  ⟨hk, fun _ _ e => e, fun _ _ e => .inl e, fun b o e => hk b o (hs b o e)⟩

/-- a new object is laid down for good -/
theorem Gr.freeze {g g' : Map} {h h' : Heap} {a : Addr} {o : Obj} (G : Gr g h g' h') (hn : h.get? a = none) (ho : h'.get? a = some o) (hg : g' a = none) : Gr g h (upd g' a o) h' :=
  ⟨G.heap, fun b o' e => by
    unfold upd
    by_cases hb : b = a
    · subst hb; rw [G.sub _ _ e] at hg; cases hg
    · rw [if_neg hb]; exact G.sub b o' e,
   fun b o' e => by
    unfold upd at e
    by_cases hb : b = a
    · subst hb; exact .inr hn
    · rw [if_neg hb] at e; exact G.new b o' e,
   fun b o' e => by
    unfold upd at e
    by_cases hb : b = a
    · subst hb; rw [if_pos rfl] at e; cases e; exact ho
    · rw [if_neg hb] at e; exact G.now b o' e⟩

theorem upd_self (g : Map) (a : Addr) (o : Obj) : upd g a o a = some o := if_pos rfl
theorem upd_sub {g : Map} {a : Addr} {o : Obj} (hg : g a = none) : ∀ b o', g b = some o' → upd g a o b = some o' := fun b o' e => by
  unfold upd
  by_cases hb : b = a
  · subst hb; rw [hg] at e; cases e
  · rw [if_neg hb]; exact e

/-- what is said of a value stays so while all grows -/
def Mono {α : Type} (P : Map → Heap → α → Prop) : Prop := ∀ g h g' h' v, Gr g h g' h' → P g h v → P g' h' v

section
variable {prog : Program} {w : World} {A : Around}

/-- the tree ends in a value of which P holds, in every state that has grown out of this one; it changes nothing that stood -/
def Ev (prog : Program) (w : World) (A : Around) {α : Type} (g : Map) (h : Heap) (t : Sem α) (P : Map → Heap → α → Prop) : Prop :=
  ∀ (s : Shared) (g₁ : Map) (Q : α → Shared → Prop) (E : Value → Shared → Prop), Gr g h g₁ s.heap →
    (∀ v g' h' tk, Gr g₁ s.heap g' h' → P g' h' v → Q v { s with heap := h', toks := tk }) → wpAny (model prog w) A t Q E s

/-- the same, and the value is a new list -/
def EvN (prog : Program) (w : World) (A : Around) (g : Map) (h : Heap) (t : Sem Value) (R : Map → Heap → List Value → Prop) : Prop :=
  ∀ (s : Shared) (g₁ : Map) (Q : Value → Shared → Prop) (E : Value → Shared → Prop), Gr g h g₁ s.heap →
    (∀ a vs n g' h' tk, Gr g₁ s.heap g' h' → s.heap.get? a = none → g' a = none → h'.get? a = some (seqObj "list" vs.toArray n) → R g' h' vs → Q (.ref a) { s with heap := h', toks := tk }) →
    wpAny (model prog w) A t Q E s

theorem Ev.weaken {α : Type} {g : Map} {h : Heap} {t : Sem α} {P P' : Map → Heap → α → Prop} (e : Ev prog w A g h t P) (hp : ∀ g' h' v, Gr g h g' h' → P g' h' v → P' g' h' v) : Ev prog w A g h t P' :=
  fun s g₁ Q E G k => e s g₁ Q E G fun v g' h' tk G' p => k v g' h' tk G' (hp g' h' v (G.trans G') p)
theorem Ev.grow {α : Type} {g g' : Map} {h h' : Heap} {t : Sem α} {P : Map → Heap → α → Prop} (e : Ev prog w A g h t P) (G : Gr g h g' h') : Ev prog w A g' h' t P :=
  fun s g₁ Q E G₁ k => e s g₁ Q E (G.trans G₁) k
theorem EvN.grow {g g' : Map} {h h' : Heap} {t : Sem Value} {R : Map → Heap → List Value → Prop} (e : EvN prog w A g h t R) (G : Gr g h g' h') : EvN prog w A g' h' t R :=
  fun s g₁ Q E G₁ k => e s g₁ Q E (G.trans G₁) k
theorem EvN.weaken {g : Map} {h : Heap} {t : Sem Value} {R R' : Map → Heap → List Value → Prop} (e : EvN prog w A g h t R) (hp : ∀ g' h' v, Gr g h g' h' → R g' h' v → R' g' h' v) : EvN prog w A g h t R' :=
  fun s g₁ Q E G k => e s g₁ Q E G fun a vs n g' h' tk G' h1 h2 h3 p => k a vs n g' h' tk G' h1 h2 h3 (hp g' h' vs (G.trans G') p)

theorem Ev.bind {α β : Type} {g : Map} {h : Heap} {t : Sem α} {f : α → Sem β} {P : Map → Heap → α → Prop} {P' : Map → Heap → β → Prop} (e : Ev prog w A g h t P)
    (k : ∀ v g' h', Gr g h g' h' → P g' h' v → Ev prog w A g' h' (f v) P') : Ev prog w A g h (t >>= f) P' :=
  fun s g₁ Q E G q => wpAny_bind (e s g₁ _ _ G fun v g' h' tk G' p => k v g' h' (G.trans G') p _ g' Q E (Gr.refl G'.now) fun v' g'' h'' tk' G'' p' => q v' g'' h'' tk' (G'.trans G'') p')
theorem Ev.pure {α : Type} {g : Map} {h : Heap} {v : α} {P : Map → Heap → α → Prop} (hp : P g h v) (hm : Mono P) : Ev prog w A g h (pure v) P :=
  fun s g₁ Q E G q => wpAny_pure (q v g₁ s.heap s.toks (Gr.refl G.now) (hm _ _ _ _ _ G hp))

/-- kinds of values -/
def isI (i : Int) : Map → Heap → Value → Prop := fun _ _ v => ∃ t, v = .int i t
def isV (u : Value) : Map → Heap → Value → Prop := fun _ _ v => v = u
def isB (b : Bool) : Map → Heap → Bool → Prop := fun _ _ v => v = b
def ILv (g : Map) (ns : List Int) (v : Value) : Prop := ∃ a vs n, v = .ref a ∧ g a = some (seqObj "list" vs.toArray n) ∧ IntsAre vs ns
def IL (ns : List Int) : Map → Heap → Value → Prop := fun g _ v => ILv g ns v
inductive ILs (g : Map) : List Value → List (List Int) → Prop where
  | nil : ILs g [] []
  | cons {v : Value} {ns : List Int} {vs : List Value} {nss : List (List Int)} (hd : ILv g ns v) (tl : ILs g vs nss) : ILs g (v :: vs) (ns :: nss)
def LL (nss : List (List Int)) : Map → Heap → Value → Prop := fun g _ v => ∃ a vs n, v = .ref a ∧ g a = some (seqObj "list" vs.toArray n) ∧ ILs g vs nss

theorem mono_isI (i : Int) : Mono (isI i) := fun _ _ _ _ _ _ p => p
theorem mono_isV (u : Value) : Mono (isV u) := fun _ _ _ _ _ _ p => p
theorem mono_isB (b : Bool) : Mono (isB b) := fun _ _ _ _ _ _ p => p
theorem mono_IL (ns : List Int) : Mono (IL ns) := fun _ _ _ _ _ G ⟨a, vs, n, e, ha, hi⟩ => ⟨a, vs, n, e, G.sub _ _ ha, hi⟩
theorem ILs.mono {g g' : Map} (hs : ∀ b o, g b = some o → g' b = some o) : ∀ {vs : List Value} {nss : List (List Int)}, ILs g vs nss → ILs g' vs nss
  | _, _, .nil => .nil
  | _, _, .cons ⟨a, us, n, e, ha, hi⟩ tl => .cons ⟨a, us, n, e, hs _ _ ha, hi⟩ (tl.mono hs)
theorem mono_LL (nss : List (List Int)) : Mono (LL nss) := fun _ _ _ _ _ G ⟨a, vs, n, e, ha, hi⟩ => ⟨a, vs, n, e, G.sub _ _ ha, hi.mono G.sub⟩
theorem ILs.length {g : Map} : ∀ {vs : List Value} {nss : List (List Int)}, ILs g vs nss → vs.length = nss.length
  | _, _, .nil => rfl
  | _, _, .cons _ tl => by rw [List.length_cons, List.length_cons, tl.length]

theorem EvN.ints {g : Map} {h : Heap} {t : Sem Value} {ns : List Int} (e : EvN prog w A g h t (fun _ _ vs => IntsAre vs ns)) : Ev prog w A g h t (IL ns) :=
  fun s g₁ Q E G k => e s g₁ Q E G fun a vs n g' h' tk G' h1 h2 h3 p => k _ (upd g' a _) h' tk (G'.freeze h1 h3 h2) ⟨a, vs, n, rfl, upd_self _ _ _, p⟩
theorem EvN.lists {g : Map} {h : Heap} {t : Sem Value} {nss : List (List Int)} (e : EvN prog w A g h t (fun g' _ vs => ILs g' vs nss)) : Ev prog w A g h t (LL nss) :=
  fun s g₁ Q E G k => e s g₁ Q E G fun a vs n g' h' tk G' h1 h2 h3 p => k _ (upd g' a _) h' tk (G'.freeze h1 h3 h2) ⟨a, vs, n, rfl, upd_self _ _ _, p.mono (upd_sub h2)⟩
end
end Mine
end

section
open PySem PySem.W PyProof.Rows
set_option autoImplicit false
set_option linter.unusedVariables false
namespace Mine

/-- the names of the top that the text reads -/
structure Bs (hb : Heap) (mg mb : Str → Option Value) : Prop where
  g : hb.Ns mainGlobals mg
  b : hb.Ns builtinsNs mb
  nolimit : hb.NoLimit

section
variable {prog : Program} {w : World} {A : Around} {g : Map} {h : Heap} {env : Env}

theorem Ev.of {α : Type} {t : Sem α} {P : Map → Heap → α → Prop}
    (H : ∀ (s : Shared) (g₁ : Map) (Q : α → Shared → Prop) (E : Value → Shared → Prop), Gr g h g₁ s.heap → (∀ v tk, P g₁ s.heap v → Q v { s with toks := tk }) → wpAny (model prog w) A t Q E s) : Ev prog w A g h t P :=
  fun s g₁ Q E G k => H s g₁ Q E G fun v tk p => k v g₁ s.heap tk (Gr.refl G.now) p

/-- names -/
theorem ev_local {x : Str} {pos : Pos} {m : Str → Option Value} {v : Value} {P : Map → Heap → Value → Prop} (hns : h.Ns env.locals m) (hv : m x = some v) (hP : P g h v) (hm : Mono P)
    (hk : env.scope.kind = .function := by rfl) (hl : env.kindOf x = some .local := by rfl) (hd : (x == ("__debug__" : Str)) = false := by decide) : Ev prog w A g h (eval (.Name x pos) env) P :=
  Ev.of fun s g₁ Q E G k => wpAny_Name (wpAny_loadName_local hk hl (hns.keeps G.heap) hv (k v s.toks (hm _ _ _ _ _ G hP))) hd
theorem ev_cell {x : Str} {pos : Pos} {c : Addr} {v : Value} {P : Map → Heap → Value → Prop} (hc : env.cells.lookup x = some c) (hv : h.IsCell c (some v)) (hP : P g h v) (hm : Mono P)
    (hk : env.scope.kind = .function := by rfl) (hl : env.kindOf x = some .cell := by rfl) (hd : (x == ("__debug__" : Str)) = false := by decide) : Ev prog w A g h (eval (.Name x pos) env) P :=
  Ev.of fun s g₁ Q E G k => wpAny_Name (wpAny_loadName_cell hk hl hc (hv.keeps G.heap) (k v s.toks (hm _ _ _ _ _ G hP))) hd
theorem ev_global {x : Str} {pos : Pos} {mg : Str → Option Value} {v : Value} (hg : h.Ns env.globals mg) (hv : mg x = some v)
    (hk : env.scope.kind = .function := by rfl) (hl : env.kindOf x = some .globalImplicit := by rfl) (hd : (x == ("__debug__" : Str)) = false := by decide) : Ev prog w A g h (eval (.Name x pos) env) (isV v) :=
  Ev.of fun s g₁ Q E G k => Calls.Name_function_global hk hl (Calls.loadGlobal_global (hg.keeps G.heap) hv (k v s.toks rfl)) hd
theorem ev_builtin {x : Str} {pos : Pos} {mg mb : Str → Option Value} {v : Value} (hg : h.Ns env.globals mg) (hn : mg x = none) (hb : h.Ns env.builtins mb) (hv : mb x = some v)
    (hk : env.scope.kind = .function := by rfl) (hl : env.kindOf x = some .globalImplicit := by rfl) (hd : (x == ("__debug__" : Str)) = false := by decide) : Ev prog w A g h (eval (.Name x pos) env) (isV v) :=
  Ev.of fun s g₁ Q E G k => Calls.Name_function_global hk hl (Calls.loadGlobal_builtin (hg.keeps G.heap) hn (hb.keeps G.heap) hv (k v s.toks rfl)) hd

/-- constants -/
theorem ev_int {i : Int} {k : Nat} {pos : Pos} : Ev prog w A g h (eval (.Constant (.int i) k pos) env) (isI i) :=
  Ev.of fun s g₁ Q E G q => wpAny_Constant_int (q _ _ ⟨_, rfl⟩)
theorem ev_bool {b : Bool} {k : Nat} {pos : Pos} : Ev prog w A g h (eval (.Constant (.bool b) k pos) env) (isV (.bool b)) :=
  Ev.of fun s g₁ Q E G q => wpAny_pure (q _ _ rfl)

/-- two operands -/
theorem ev_binop {l r : Expr} {op : Operator} {pos : Pos} {P₁ P₂ P : Map → Heap → Value → Prop} (m₁ : Mono P₁) (hl : Ev prog w A g h (eval l env) P₁) (hr : Ev prog w A g h (eval r env) P₂)
    (hop : ∀ a b g' h', Gr g h g' h' → P₁ g' h' a → P₂ g' h' b → Ev prog w A g' h' (binaryOp op a b) P) : Ev prog w A g h (eval (.BinOp l op r pos) env) P :=
  fun s g₁ Q E G k => wpAny_BinOp (hl s g₁ _ _ G fun a g₂ h₂ tk₂ G₂ p₁ => hr _ g₂ _ _ (G.trans G₂) fun b g₃ h₃ tk₃ G₃ p₂ =>
    hop a b g₃ h₃ ((G.trans G₂).trans G₃) (m₁ _ _ _ _ _ G₃ p₁) p₂ _ g₃ _ _ (Gr.refl G₃.now) fun v g₄ h₄ tk₄ G₄ p => k v g₄ h₄ tk₄ ((G₂.trans G₃).trans G₄) p)
theorem ev_cmp {l r : Expr} {op : CmpOp} {pos : Pos} {P₁ P₂ P : Map → Heap → Value → Prop} (m₁ : Mono P₁) (hl : Ev prog w A g h (eval l env) P₁) (hr : Ev prog w A g h (eval r env) P₂)
    (hop : ∀ a b g' h', Gr g h g' h' → P₁ g' h' a → P₂ g' h' b → Ev prog w A g' h' (compareOp op a b) P) (hm : behindInMarks op r = false := by with_unfolding_all rfl) :
    Ev prog w A g h (eval (.Compare l [op] [r] pos) env) P :=
  fun s g₁ Q E G k => wpAny_Compare1 (hl s g₁ _ _ G fun a g₂ h₂ tk₂ G₂ p₁ => hr _ g₂ _ _ (G.trans G₂) fun b g₃ h₃ tk₃ G₃ p₂ =>
    hop a b g₃ h₃ ((G.trans G₂).trans G₃) (m₁ _ _ _ _ _ G₃ p₁) p₂ _ g₃ _ _ (Gr.refl G₃.now) fun v g₄ h₄ tk₄ G₄ p => k v g₄ h₄ tk₄ ((G₂.trans G₃).trans G₄) p) hm
theorem ev_test {l r : Expr} {op : CmpOp} {pos : Pos} {whole : Sem Value} {P₁ P₂ : Map → Heap → Value → Prop} {c : Bool} (m₁ : Mono P₁) (hl : Ev prog w A g h (eval l env) P₁) (hr : Ev prog w A g h (eval r env) P₂)
    (hop : ∀ a b g' h', Gr g h g' h' → P₁ g' h' a → P₂ g' h' b → Ev prog w A g' h' (compareOp op a b) (isV (.bool c))) (hm : behindInMarks op r = false := by with_unfolding_all rfl) :
    Ev prog w A g h (isTrue (.Compare l [op] [r] pos) env whole) (isB c) :=
  fun s g₁ Q E G k => wpAny_isTrue_Compare1 (hl s g₁ _ _ G fun a g₂ h₂ tk₂ G₂ p₁ => hr _ g₂ _ _ (G.trans G₂) fun b g₃ h₃ tk₃ G₃ p₂ =>
    hop a b g₃ h₃ ((G.trans G₂).trans G₃) (m₁ _ _ _ _ _ G₃ p₁) p₂ _ g₃ _ _ (Gr.refl G₃.now) fun v g₄ h₄ tk₄ G₄ p => by
      cases p; exact wpAny_truthy_bool (k c g₄ h₄ tk₄ ((G₂.trans G₃).trans G₄) rfl)) hm

theorem op_add {a b : Value} {x y : Int} (ha : isI x g h a) (hb : isI y g h b) : Ev prog w A g h (binaryOp .Add a b) (isI (x + y)) := by
  obtain ⟨t, rfl⟩ := ha; obtain ⟨u, rfl⟩ := hb
  exact Ev.of fun s g₁ Q E G k => P.add_int (k _ _ ⟨_, rfl⟩)
theorem op_sub {a b : Value} {x y : Int} (ha : isI x g h a) (hb : isI y g h b) : Ev prog w A g h (binaryOp .Sub a b) (isI (x - y)) := by
  obtain ⟨t, rfl⟩ := ha; obtain ⟨u, rfl⟩ := hb
  exact Ev.of fun s g₁ Q E G k => P.sub_int (k _ _ ⟨_, rfl⟩)
theorem op_mod {a b : Value} {x y : Int} (ha : isI x g h a) (hb : isI y g h b) (hy : y ≠ 0) : Ev prog w A g h (binaryOp .Mod a b) (isI (x.fmod y)) := by
  obtain ⟨t, rfl⟩ := ha; obtain ⟨u, rfl⟩ := hb
  exact Ev.of fun s g₁ Q E G k => mod_int hy (k _ _ ⟨_, rfl⟩)
theorem op_mul {a b : Value} {x y : Int} (ha : isI x g h a) (hb : isI y g h b) (hm : IntMulOk x y) : Ev prog w A g h (binaryOp .Mult a b) (isI (x * y)) := by
  obtain ⟨t, rfl⟩ := ha; obtain ⟨u, rfl⟩ := hb
  exact Ev.of fun s g₁ Q E G k => P.mul_int (k _ _ ⟨_, rfl⟩) hm
theorem op_subB {p q : Bool} : Ev prog w A g h (binaryOp .Sub (.bool p) (.bool q)) (isI ((if p then 1 else 0) - (if q then 1 else 0))) :=
  Ev.of fun s g₁ Q E G k => sub_bool (k _ (s.toks + 1) ⟨s.toks, by cases p <;> cases q <;> rfl⟩)
theorem op_eq {a b : Value} {x y : Int} (ha : isI x g h a) (hb : isI y g h b) : Ev prog w A g h (compareOp .Eq a b) (isV (.bool (x == y))) := by
  obtain ⟨t, rfl⟩ := ha; obtain ⟨u, rfl⟩ := hb
  exact Ev.of fun s g₁ Q E G k => P.eq_int (k _ s.toks rfl)
theorem op_ne {a b : Value} {x y : Int} (ha : isI x g h a) (hb : isI y g h b) : Ev prog w A g h (compareOp .NotEq a b) (isV (.bool (x != y))) := by
  obtain ⟨t, rfl⟩ := ha; obtain ⟨u, rfl⟩ := hb
  exact Ev.of fun s g₁ Q E G k => P.ne_int (k _ s.toks rfl)
theorem op_lt {a b : Value} {x y : Int} (ha : isI x g h a) (hb : isI y g h b) : Ev prog w A g h (compareOp .Lt a b) (isV (.bool (decide (x < y)))) := by
  obtain ⟨t, rfl⟩ := ha; obtain ⟨u, rfl⟩ := hb
  exact Ev.of fun s g₁ Q E G k => P.lt_int (k _ s.toks rfl)
theorem op_gt {a b : Value} {x y : Int} (ha : isI x g h a) (hb : isI y g h b) : Ev prog w A g h (compareOp .Gt a b) (isV (.bool (decide (x > y)))) := by
  obtain ⟨t, rfl⟩ := ha; obtain ⟨u, rfl⟩ := hb
  exact Ev.of fun s g₁ Q E G k => P.gt_int (k _ s.toks rfl)

/-- an item of a list -/
theorem ev_sub {value slice : Expr} {pos : Pos} {P₁ P : Map → Heap → Value → Prop} {k : Int} (m₁ : Mono P₁) (hl : Ev prog w A g h (eval value env) P₁) (hi : Ev prog w A g h (eval slice env) (isI k))
    (hget : ∀ o g' h', Gr g h g' h' → P₁ g' h' o → ∃ a items x, o = .ref a ∧ h'.IsList a items ∧ 0 ≤ k ∧ k < 2 ^ 63 ∧ items[k.toNat]? = some x ∧ P g' h' x)
    (hs : ∀ a u, subscripted slice false (.ref a) (.int k u) = operate [.ref a, .int k u] (getItem (.ref a) (.int k u)) := by intro _ _; with_unfolding_all rfl) :
    Ev prog w A g h (eval (.Subscript value slice pos) env) P :=
  fun s g₁ Q E G q => Subscript_ (hl s g₁ _ _ G fun o g₂ h₂ tk₂ G₂ p₁ => hi _ g₂ _ _ (G.trans G₂) fun i g₃ h₃ tk₃ G₃ p₂ => by
    obtain ⟨u, rfl⟩ := p₂
    obtain ⟨a, items, x, rfl, hL, h0, h1, hx, hp⟩ := hget o g₃ h₃ ((G.trans G₂).trans G₃) (m₁ _ _ _ _ _ G₃ p₁)
    exact tail_any hL.typeIs slot_list_getitem.lookup (wpAny_getItem_list hL h0 h1 hx (q x g₃ h₃ tk₃ (G₂.trans G₃) hp)) (hs a u))

theorem IntsAre.item {vs : List Value} {ns : List Int} (hi : IntsAre vs ns) {k : Nat} {i : Int} (hk : ns[k]? = some i) : ∃ t, vs[k]? = some (.int i t) := hi.get k i hk
theorem ILs.item {g : Map} : ∀ {vs : List Value} {nss : List (List Int)}, ILs g vs nss → ∀ {k : Nat} {ns : List Int}, nss[k]? = some ns → ∃ v, vs[k]? = some v ∧ ILv g ns v
  | _, _, .nil, k, ns, e => by cases e
  | _, _, .cons hd tl, 0, ns, e => by cases e; exact ⟨_, rfl, hd⟩
  | _, _, .cons hd tl, k + 1, ns, e => by
    obtain ⟨v, h1, h2⟩ := tl.item (k := k) (ns := ns) e
    exact ⟨v, h1, h2⟩
theorem listAt {g : Map} {h : Heap} {a : Addr} {vs : List Value} {n : Nat} (hs : ∀ b o, g b = some o → h.get? b = some o) (ha : g a = some (seqObj "list" vs.toArray n)) : h.IsList a vs.toArray :=
  ⟨_, hs _ _ ha, rfl, n, rfl⟩

theorem ev_item {value slice : Expr} {pos : Pos} {ns : List Int} {k : Int} {x : Int} (hl : Ev prog w A g h (eval value env) (IL ns)) (hi : Ev prog w A g h (eval slice env) (isI k))
    (h0 : 0 ≤ k) (h1 : k < 2 ^ 63) (hx : ns[k.toNat]? = some x)
    (hs : ∀ a u, subscripted slice false (.ref a) (.int k u) = operate [.ref a, .int k u] (getItem (.ref a) (.int k u)) := by intro _ _; with_unfolding_all rfl) :
    Ev prog w A g h (eval (.Subscript value slice pos) env) (isI x) :=
  ev_sub (mono_IL ns) hl hi (fun o g' h' G' p => by
    obtain ⟨a, vs, n, rfl, ha, hI⟩ := p
    obtain ⟨t, ht⟩ := IntsAre.item hI hx
    exact ⟨a, vs.toArray, _, rfl, listAt G'.now ha, h0, h1, by simpa using ht, t, rfl⟩) hs
theorem ev_itemL {value slice : Expr} {pos : Pos} {nss : List (List Int)} {k : Int} {ns : List Int} (hl : Ev prog w A g h (eval value env) (LL nss)) (hi : Ev prog w A g h (eval slice env) (isI k))
    (h0 : 0 ≤ k) (h1 : k < 2 ^ 63) (hx : nss[k.toNat]? = some ns)
    (hs : ∀ a u, subscripted slice false (.ref a) (.int k u) = operate [.ref a, .int k u] (getItem (.ref a) (.int k u)) := by intro _ _; with_unfolding_all rfl) :
    Ev prog w A g h (eval (.Subscript value slice pos) env) (IL ns) :=
  ev_sub (mono_LL nss) hl hi (fun o g' h' G' p => by
    obtain ⟨a, vs, n, rfl, ha, hI⟩ := p
    obtain ⟨v, hv, hp⟩ := hI.item hx
    exact ⟨a, vs.toArray, _, rfl, listAt G'.now ha, h0, h1, by simpa using hv, hp⟩) hs

/-- a built-in called with one argument or two -/
theorem ev_call1 {x : Str} {np pos : Pos} {e : Expr} {id : String} {P₁ P : Map → Heap → Value → Prop} (hn : Ev prog w A g h (eval (.Name x np) env) (isV (.builtin id))) (he : Ev prog w A g h (eval e env) P₁)
    (hc : ∀ a g' h', Gr g h g' h' → P₁ g' h' a → Ev prog w A g' h' (call (.builtin id) [a]) P) (hs : starEach [e] env = [(false, eval e env)] := by rfl) :
    Ev prog w A g h (eval (.Call (.Name x np) [e] [] pos) env) P :=
  fun s g₁ Q E G q => Call_ (hn s g₁ _ _ G fun f g₂ h₂ tk₂ G₂ p => by
    cases p
    exact callWith_builtin1 (spliced_more (he _ g₂ _ _ (G.trans G₂) fun a g₃ h₃ tk₃ G₃ p₁ => spliced_none (hc a g₃ h₃ ((G.trans G₂).trans G₃) p₁ _ g₃ _ _ (Gr.refl G₃.now) fun v g₄ h₄ tk₄ G₄ p => q v g₄ h₄ tk₄ ((G₂.trans G₃).trans G₄) p)) hs) hs)
theorem ev_call2 {x : Str} {np pos : Pos} {e e' : Expr} {id : String} {P₁ P₂ P : Map → Heap → Value → Prop} (m₁ : Mono P₁) (hn : Ev prog w A g h (eval (.Name x np) env) (isV (.builtin id))) (he : Ev prog w A g h (eval e env) P₁)
    (he' : Ev prog w A g h (eval e' env) P₂) (hc : ∀ a b g' h', Gr g h g' h' → P₁ g' h' a → P₂ g' h' b → Ev prog w A g' h' (call (.builtin id) [a, b]) P)
    (hs : starEach [e, e'] env = [(false, eval e env), (false, eval e' env)] := by rfl) (hs' : starEach [e'] env = [(false, eval e' env)] := by rfl) :
    Ev prog w A g h (eval (.Call (.Name x np) [e, e'] [] pos) env) P :=
  fun s g₁ Q E G q => Call_ (hn s g₁ _ _ G fun f g₂ h₂ tk₂ G₂ p => by
    cases p
    have hs2 : starEach [e, e'] env = (false, eval e env) :: starEach [e'] env := by rw [hs, hs']
    exact callWith_builtin1 (spliced_more (he _ g₂ _ _ (G.trans G₂) fun a g₃ h₃ tk₃ G₃ p₁ => spliced_more (he' _ g₃ _ _ ((G.trans G₂).trans G₃) fun b g₄ h₄ tk₄ G₄ p₂ => spliced_none
      (hc a b g₄ h₄ (((G.trans G₂).trans G₃).trans G₄) (m₁ _ _ _ _ _ G₄ p₁) p₂ _ g₄ _ _ (Gr.refl G₄.now) fun v g₅ h₅ tk₅ G₅ p => q v g₅ h₅ tk₅ (((G₂.trans G₃).trans G₄).trans G₅) p)) hs') hs2) hs2 (by rw [hs']; rfl))
end
end Mine
end

section
open PySem PySem.W PyProof.Rows
set_option autoImplicit false
set_option linter.unusedVariables false
namespace Mine

theorem isList_up {h h' : Heap} {a : Addr} {items : Array Value} (hl : h.IsList a items) (hk : ∀ b o, h.get? b = some o → h'.get? b = some o) : h'.IsList a items := hl.at fun o e => hk _ _ e
/-- a list of so many items -/
def Lst (vs : List Value) : Map → Heap → Value → Prop := fun g _ v => ∃ a n, v = .ref a ∧ g a = some (seqObj "list" vs.toArray n)
theorem ILv.lst {g : Map} {ns : List Int} {v : Value} (h : ILv g ns v) : ∃ a vs n, v = .ref a ∧ g a = some (seqObj "list" vs.toArray n) ∧ IntsAre vs ns := h
theorem size_push (h : Heap) (o : Obj) : (h.push o).objs.size = h.objs.size + 1 := Heap.size_push h o
theorem get_new (h : Heap) : h.get? h.objs.size = none := Heap.get?_none_of_le (Nat.le_refl _)
theorem get_new1 (h : Heap) : h.get? (h.objs.size + 1) = none := Heap.get?_none_of_le (Nat.le_succ _)

section
variable {prog : Program} {w : World} {A : Around} {g : Map} {h : Heap} {env : Env}

theorem g_new {g : Map} {h : Heap} (hs : ∀ b o, g b = some o → h.get? b = some o) {a : Addr} (ha : h.get? a = none) : g a = none := by
  cases k : g a with
  | none => rfl
  | some o => rw [hs _ _ k] at ha; cases ha

/-- one new list at the heap's end -/
theorem EvN.push1 {t : Sem Value} {R : Map → Heap → List Value → Prop}
    (H : ∀ (s : Shared) (g₁ : Map) (Q : Value → Shared → Prop) (E : Value → Shared → Prop), Gr g h g₁ s.heap → (∀ vs, (∀ h', R g₁ h' vs) → Q (.ref s.heap.objs.size) { s with heap := s.heap.push { cls := .type "list", data := .seq vs.toArray } }) → wpAny (model prog w) A t Q E s) : EvN prog w A g h t R :=
  fun s g₁ Q E G k => H s g₁ Q E G fun vs hR => by
    have hk : ∀ b o, s.heap.get? b = some o → (s.heap.push { cls := .type "list", data := .seq vs.toArray }).get? b = some o := fun b o e => Heap.get?_push_of_some _ e
    exact k s.heap.objs.size vs 0 g₁ _ s.toks (Gr.of_heap G.now hk) (get_new _) (g_new G.now (get_new _)) (Heap.get?_push_size _ rfl) (hR _)

/-- len -/
theorem cl_len {a : Addr} {items : Array Value} (hl : h.IsList a items) (hz : (items.size : Int) < 2 ^ 63) : Ev prog w A g h (call (.builtin "len") [.ref a]) (isI items.size) :=
  Ev.of fun s g₁ Q E G k => Calls.call_len_list (isList_up hl G.heap) hz (k _ _ ⟨_, rfl⟩)

/-- sum -/
theorem cl_sum {a : Addr} {vs : List Value} {ns : List Int} (hh : A.handled = none) (hl : h.IsList a vs.toArray) (hi : IntsAre vs ns) : Ev prog w A g h (call (.builtin "sum") [.ref a]) (isI ns.sum) :=
  fun s g₁ Q E G k => by
    have hL := isList_up hl G.heap
    obtain ⟨xs, hx⟩ := hi.allInts.items
    rw [hx] at hL
    refine sum_intListG hh hL fun h' tk t' hk => k _ g₁ h' tk (Gr.of_heap G.now hk) ⟨t', ?_⟩
    have e1 : numsOf vs.toArray.toList = ns := by rw [show vs.toArray.toList = vs from rfl, hi.numsOf]
    rw [hx, nums_intItems] at e1
    rw [preSum_eq, List.take_of_length_le (by simp), e1]

/-- min of two -/
theorem cl_min {a b : Value} {x y : Int} (hh : A.handled = none) (ha : isI x g h a) (hb : isI y g h b) : Ev prog w A g h (call (.builtin "min") [a, b]) (isI (if y < x then y else x)) := by
  obtain ⟨t, rfl⟩ := ha; obtain ⟨u, rfl⟩ := hb
  exact fun s g₁ Q E G k => min_two_ints hh fun h' tk hk => k _ g₁ h' tk (Gr.of_heap G.now hk) (by split; exact ⟨_, rfl⟩; exact ⟨_, rfl⟩)

/-- two lists in a row -/
theorem op_addL {a b : Addr} {vs ws : List Value} {n m : Nat} (ha : h.get? a = some (seqObj "list" vs.toArray n)) (hb : h.get? b = some (seqObj "list" ws.toArray m)) (hz : vs.length + ws.length ≤ 1000) :
    EvN prog w A g h (binaryOp .Add (.ref a) (.ref b)) (fun _ _ us => us = vs ++ ws) :=
  EvN.push1 fun s g₁ Q E G k => P.add_list (items := vs.toArray) (items2 := ws.toArray) (n := n) (n2 := m) (G.heap _ _ ha) (G.heap _ _ hb)
    (by have := k (vs ++ ws) (fun _ => rfl); simpa using this) (by simp only [List.size_toArray]; rw [sizeLine_eq]; omega)

/-- how often an int stands in a list of ints -/
theorem cl_count {a : Addr} {x : Value} {vs : List Value} {ns : List Int} {k : Int} (hl : h.IsList a vs.toArray) (hi : IntsAre vs ns) (hx : isI k g h x) : Ev prog w A g h (call (.builtin "list.count") [.ref a, x]) (isI (ns.count k : Nat)) := by
  obtain ⟨t, rfl⟩ := hx
  exact Ev.of fun s g₁ Q E G q => count_list_ints (isList_up hl G.heap) hi (q _ _ ⟨_, rfl⟩)

/-- not in -/
theorem op_notIn {a : Addr} {x : Value} {vs : List Value} {ns : List Int} {k : Int} (hl : h.IsList a vs.toArray) (hi : IntsAre vs ns) (hx : isI k g h x) : Ev prog w A g h (compareOp .NotIn x (.ref a)) (isV (.bool (!(ns.any (· == k))))) := by
  obtain ⟨t, rfl⟩ := hx
  refine Ev.of fun s g₁ Q E G q => SeqAt.notIn_listAt (isInt k) (isList_up hl G.heap) (fun y hy => (eq_isInt k t hi y (by simpa using hy)).at _ _) ?_
  have e : vs.toArray.any (isInt k) = ns.any (· == k) := by rw [← Array.any_toList]; exact any_isInt k hi
  rw [e]
  exact q _ s.toks rfl

/-- a range -/
def isR (a b : Int) : Map → Heap → Value → Prop := fun _ h v => ∃ r t u z, v = .ref r ∧ IsRange h r a b 1 t u z
theorem mono_isR (a b : Int) : Mono (isR a b) := fun g h g' h' v G ⟨r, t, u, z, e, p⟩ => ⟨r, t, u, z, e, G.heap _ _ p⟩
theorem cl_range1 {x : Value} {n : Int} (hx : isI n g h x) : Ev prog w A g h (call (.type "range") [x]) (isR 0 n) := by
  obtain ⟨t, rfl⟩ := hx
  exact fun s g₁ Q E G k => call_range_1 (k _ g₁ _ _ (Gr.of_heap G.now fun b o e => Heap.get?_push_of_some _ e) ⟨_, _, _, _, rfl, Heap.get?_push_size _ rfl⟩)
theorem cl_range2 {x y : Value} {a n : Int} (hx : isI a g h x) (hy : isI n g h y) : Ev prog w A g h (call (.type "range") [x, y]) (isR a n) := by
  obtain ⟨t, rfl⟩ := hx; obtain ⟨u, rfl⟩ := hy
  exact fun s g₁ Q E G k => call_range_2 (k _ g₁ _ _ (Gr.of_heap G.now fun b o e => Heap.get?_push_of_some _ e) ⟨_, _, _, _, rfl, Heap.get?_push_size _ rfl⟩)
end
end Mine
end

section
open PySem PySem.W PyProof.Rows
set_option autoImplicit false
set_option linter.unusedVariables false
namespace Mine

def nilP : Map → Heap → List Value → Prop := fun _ _ vs => vs = []
def consP (P₁ : Map → Heap → Value → Prop) (P₂ : Map → Heap → List Value → Prop) : Map → Heap → List Value → Prop := fun g h vs => ∃ v r, vs = v :: r ∧ P₁ g h v ∧ P₂ g h r
theorem mono_nilP : Mono nilP := fun _ _ _ _ _ _ p => p
theorem mono_consP {P₁ : Map → Heap → Value → Prop} {P₂ : Map → Heap → List Value → Prop} (m₁ : Mono P₁) (m₂ : Mono P₂) : Mono (consP P₁ P₂) := fun _ _ _ _ _ G ⟨v, r, e, p, q⟩ => ⟨v, r, e, m₁ _ _ _ _ _ G p, m₂ _ _ _ _ _ G q⟩
def partP (lo : Option Int) : Map → Heap → Value → Prop := fun _ _ v => IsPart v lo
theorem mono_partP (lo : Option Int) : Mono (partP lo) := fun _ _ _ _ _ _ p => p

section
variable {prog : Program} {w : World} {A : Around} {g : Map} {h : Heap} {env : Env}

theorem spl_nil {pos : Pos} : Ev prog w A g h (spliced (backTo pos (starEach [] env))) nilP := Ev.of fun s g₁ Q E G k => spliced_none (k _ s.toks rfl)
theorem spl_cons {pos : Pos} {e : Expr} {rest : List Expr} {P₁ : Map → Heap → Value → Prop} {P₂ : Map → Heap → List Value → Prop} (m₁ : Mono P₁) (he : Ev prog w A g h (eval e env) P₁)
    (hr : Ev prog w A g h (spliced (backTo pos (starEach rest env))) P₂) (hs : starEach (e :: rest) env = (false, eval e env) :: starEach rest env := by rfl) :
    Ev prog w A g h (spliced (backTo pos (starEach (e :: rest) env))) (consP P₁ P₂) :=
  fun s g₁ Q E G k => spliced_more (he s g₁ _ _ G fun v g₂ h₂ tk₂ G₂ p₁ => hr _ g₂ _ _ (G.trans G₂) fun r g₃ h₃ tk₃ G₃ p₂ => k _ g₃ h₃ tk₃ (G₂.trans G₃) ⟨v, r, rfl, m₁ _ _ _ _ _ G₃ p₁, p₂⟩) hs

/-- a list display -/
theorem ev_list {elts : List Expr} {pos : Pos} {P : Map → Heap → List Value → Prop} (mP : Mono P) (he : Ev prog w A g h (spliced (backTo pos (starEach elts env))) P) (hz : ∀ g' h' vs, P g' h' vs → vs.length ≤ 1000) :
    EvN prog w A g h (eval (.List elts pos) env) P :=
  fun s g₁ Q E G k => wpAny_List (he s g₁ _ _ G fun vs g₂ h₂ tk₂ G₂ p => ⟨Nat.le_trans (hz _ _ _ p) (by rw [sizeLine_eq]; omega), by
    have hk : ∀ b o, h₂.get? b = some o → (h₂.push { cls := .type "list", data := .seq vs.toArray }).get? b = some o := fun b o e => Heap.get?_push_of_some _ e
    have hn : s.heap.get? h₂.objs.size = none := by
      cases q : s.heap.get? h₂.objs.size with
      | none => rfl
      | some o => have := G₂.heap _ _ q; rw [get_new] at this; cases this
    exact k h₂.objs.size vs 0 g₂ _ tk₂ (G₂.trans (Gr.of_heap G₂.now hk)) hn (g_new G₂.now (get_new _)) (Heap.get?_push_size _ rfl) (mP _ _ _ _ _ (Gr.of_heap G₂.now hk) p)⟩)

/-- a tuple display -/
def TupOf (P : Map → Heap → List Value → Prop) : Map → Heap → Value → Prop := fun g h v => ∃ a vs, v = .ref a ∧ g a = some (seqObj "tuple" vs.toArray 0) ∧ P g h vs
theorem mono_TupOf {P : Map → Heap → List Value → Prop} (m : Mono P) : Mono (TupOf P) := fun _ _ _ _ _ G ⟨a, vs, e, ha, p⟩ => ⟨a, vs, e, G.sub _ _ ha, m _ _ _ _ _ G p⟩
theorem ev_tuple {elts : List Expr} {k : Nat} {pos : Pos} {P : Map → Heap → List Value → Prop} (mP : Mono P) (he : Ev prog w A g h (spliced (backTo pos (starEach elts env))) P) (hz : ∀ g' h' vs, P g' h' vs → vs.length ≤ 1000) :
    Ev prog w A g h (eval (.Tuple elts k pos) env) (TupOf P) :=
  fun s g₁ Q E G q => wpAny_Tuple (he s g₁ _ _ G fun vs g₂ h₂ tk₂ G₂ p => ⟨Nat.le_trans (hz _ _ _ p) (by rw [sizeLine_eq]; omega), by
    have hk : ∀ b o, h₂.get? b = some o → (h₂.push { cls := .type "tuple", data := .seq vs.toArray }).get? b = some o := fun b o e => Heap.get?_push_of_some _ e
    have hn : s.heap.get? h₂.objs.size = none := by
      cases q : s.heap.get? h₂.objs.size with
      | none => rfl
      | some o => have := G₂.heap _ _ q; rw [get_new] at this; cases this
    have hg : g₂ h₂.objs.size = none := g_new G₂.now (get_new _)
    have hup : Gr g₂ h₂ (upd g₂ h₂.objs.size (seqObj "tuple" vs.toArray 0)) (h₂.push { cls := .type "tuple", data := .seq vs.toArray }) := (Gr.of_heap G₂.now hk).freeze (get_new _) (Heap.get?_push_size _ rfl) hg
    exact q _ _ _ tk₂ (G₂.trans hup) ⟨_, vs, rfl, upd_self _ _ _, mP _ _ _ _ _ hup p⟩⟩)

/-- a slice of a list -/
theorem part_none : Ev prog w A g h (evalPart none env) (partP none) := Ev.of fun s g₁ Q E G k => wpAny_pure (k _ s.toks IsPart.none)
theorem part_some {e : Expr} {i : Int} (he : Ev prog w A g h (eval e env) (isI i)) : Ev prog w A g h (evalPart (some e) env) (partP (some i)) :=
  fun s g₁ Q E G k => he s g₁ _ _ G fun v g' h' tk G' p => k v g' h' tk G' (by obtain ⟨t, rfl⟩ := p; exact IsPart.int i t)
theorem ev_slice {value : Expr} {lower upper : Option Expr} {p pos : Pos} {P : Map → Heap → Value → Prop} {lo hi : Option Int} {vs : List Value} (mP : Mono P) (hv : Ev prog w A g h (eval value env) P)
    (hl : Ev prog w A g h (evalPart lower env) (partP lo)) (hu : Ev prog w A g h (evalPart upper env) (partP hi))
    (hP : ∀ o g' h', Gr g h g' h' → P g' h' o → ∃ a, o = .ref a ∧ h'.IsList a vs.toArray) (hz : vs.length ≤ 1000)
    (ht : ∀ o r, letTemporaryGo value o r = pure () := by intro _ _; rfl) :
    EvN prog w A g h (eval (.Subscript value (.Slice lower upper none p) pos) env) (fun _ _ us => us = (slicePick vs.toArray lo hi none).toList) :=
  fun s g₁ Q E G k => wpAny_Subscript_list_slice (hv s g₁ _ _ G fun o g₂ h₂ tk₂ G₂ p₁ => hl _ g₂ _ _ (G.trans G₂) fun vl g₃ h₃ tk₃ G₃ p₂ => hu _ g₃ _ _ ((G.trans G₂).trans G₃) fun vu g₄ h₄ tk₄ G₄ p₃ => by
    obtain ⟨a, rfl, hL⟩ := hP o g₄ h₄ (((G.trans G₂).trans G₃).trans G₄) (mP _ _ _ _ _ (G₃.trans G₄) p₁)
    refine ⟨a, vs.toArray, lo, hi, rfl, hL, by rw [List.size_toArray, sizeLine_eq]; omega, p₂, p₃, ?_⟩
    have hk : ∀ b o, h₄.get? b = some o → ((h₄.push { cls := .type "slice", data := .fields #[vl, vu, .none] }).push { cls := .type "list", data := .seq (slicePick vs.toArray lo hi none) }).get? b = some o := fun b o e => Heap.get?_push_of_some _ (Heap.get?_push_of_some _ e)
    have hn : s.heap.get? (h₄.objs.size + 1) = none := by
      cases q : s.heap.get? (h₄.objs.size + 1) with
      | none => rfl
      | some o => have := ((G₂.trans G₃).trans G₄).heap _ _ q; rw [get_new1] at this; cases this
    have hq := Heap.get?_push_size (h₄.push { cls := .type "slice", data := .fields #[vl, vu, .none] }) (o := seqObj "list" (slicePick vs.toArray lo hi none) 0) rfl
    rw [size_push] at hq
    exact k (h₄.objs.size + 1) _ 0 g₄ _ tk₄ (((G₂.trans G₃).trans G₄).trans (Gr.of_heap G₄.now hk)) hn (g_new G₄.now (get_new1 _)) (by rw [Array.toArray_toList]; exact hq) rfl) ht

theorem pick_upto (vs : List Value) {y : Int} (hy : 0 ≤ y) : (slicePick vs.toArray none (some y) none).toList = vs.take y.toNat := by
  have e : sliceBounds none (some y) none vs.toArray.size = (((0 : Nat) : Int), ((min y.toNat vs.toArray.size : Nat) : Int), 1) := by
    simp only [sliceBounds, Option.getD_none, show (1 : Int) > 0 by decide, if_true, if_neg (show ¬ (y < 0) by omega)]
    congr 1
    congr 1
    omega
  rw [kmk_pick_nat _ e]
  show (vs.drop 0).take (min y.toNat vs.toArray.size - 0) = _
  rw [List.drop_zero, Nat.sub_zero, List.size_toArray, kmk_take_min]
theorem pick_from (vs : List Value) {x : Int} (hx : 0 ≤ x) : (slicePick vs.toArray (some x) none none).toList = vs.drop x.toNat := by
  have e : sliceBounds (some x) none none vs.toArray.size = (((min x.toNat vs.toArray.size : Nat) : Int), ((vs.toArray.size : Nat) : Int), 1) := by
    simp only [sliceBounds, Option.getD_none, show (1 : Int) > 0 by decide, if_true, if_neg (show ¬ (x < 0) by omega)]
    congr 1
    omega
  rw [kmk_pick_nat _ e]
  show (vs.drop (min x.toNat vs.toArray.size)).take (vs.toArray.size - min x.toNat vs.toArray.size) = _
  rw [List.size_toArray, kmk_drop_min, List.take_of_length_le (by rw [List.length_drop]; omega)]
theorem pick_run (vs : List Value) {x y : Int} (hx : 0 ≤ x) (hy : 0 ≤ y) : (slicePick vs.toArray (some x) (some y) none).toList = (vs.drop x.toNat).take (y.toNat - x.toNat) := by
  have e : sliceBounds (some x) (some y) none vs.toArray.size = (((min x.toNat vs.toArray.size : Nat) : Int), ((min y.toNat vs.toArray.size : Nat) : Int), 1) := by
    simp only [sliceBounds, Option.getD_none, show (1 : Int) > 0 by decide, if_true, if_neg (show ¬ (x < 0) by omega), if_neg (show ¬ (y < 0) by omega)]
    congr 1
    · omega
    · congr 1
      omega
  rw [kmk_pick_nat _ e]
  show (vs.drop (min x.toNat vs.toArray.size)).take (min y.toNat vs.toArray.size - min x.toNat vs.toArray.size) = _
  rw [List.size_toArray, kmk_drop_min]
  rw [← kmk_take_min (vs.drop x.toNat) (y.toNat - x.toNat), List.length_drop]
  congr 1
  omega

/-- the mirror of a list -/
theorem ev_rev {value st : Expr} {p pos : Pos} {P : Map → Heap → Value → Prop} {vs : List Value} (mP : Mono P) (hv : Ev prog w A g h (eval value env) P) (hst : Ev prog w A g h (eval st env) (isI (-1)))
    (hP : ∀ o g' h', Gr g h g' h' → P g' h' o → ∃ a, o = .ref a ∧ h'.IsList a vs.toArray) (hz : vs.length ≤ 1000)
    (ht : ∀ o r, letTemporaryGo value o r = pure () := by intro _ _; rfl) :
    EvN prog w A g h (eval (.Subscript value (.Slice none none (some st) p) pos) env) (fun _ _ us => us = vs.reverse) :=
  fun s g₁ Q E G k => wpAny_Subscript_Slice_step (T := "list") list_getitem_lookup (hv s g₁ _ _ G fun o g₂ h₂ tk₂ G₂ p₁ => wpAny_Slice (evalPart_none_step (evalPart_none_step (evalPart_some_step (hst _ g₂ _ _ (G.trans G₂) fun vk g₄ h₄ tk₄ G₄ p₃ => by
    obtain ⟨a, rfl, hL⟩ := hP o g₄ h₄ ((G.trans G₂).trans G₄) (mP _ _ _ _ _ G₄ p₁)
    obtain ⟨t, rfl⟩ := p₃
    refine ⟨(hL.push _).typeIs, wpAny_getItem_list_slice (lo := none) (hi := none) (st := some (-1)) (hL.push _) (Heap.IsSliceOf.new ..) .none .none (.int _ _) (by simp) ?_ (by rw [List.size_toArray, sizeLine_eq]; omega)⟩
    rw [Heap.size_push, krv_pick]
    have hk : ∀ b o, h₄.get? b = some o → ((h₄.push { cls := .type "slice", data := .fields #[.none, .none, .int (-1) t] }).push { cls := .type "list", data := .seq vs.toArray.toList.reverse.toArray }).get? b = some o := fun b o e => Heap.get?_push_of_some _ (Heap.get?_push_of_some _ e)
    have hn : s.heap.get? (h₄.objs.size + 1) = none := by
      cases q : s.heap.get? (h₄.objs.size + 1) with
      | none => rfl
      | some o => have := (G₂.trans G₄).heap _ _ q; rw [get_new1] at this; cases this
    have hq := Heap.get?_push_size (h₄.push { cls := .type "slice", data := .fields #[.none, .none, .int (-1) t] }) (o := seqObj "list" vs.reverse.toArray 0) rfl
    rw [size_push] at hq
    exact k (h₄.objs.size + 1) _ 0 g₄ _ tk₄ ((G₂.trans G₄).trans (Gr.of_heap G₄.now hk)) hn (g_new G₄.now (get_new1 _)) hq rfl))))) ht
theorem ev_neg {x : Expr} {pos : Pos} {i : Int} (hx : Ev prog w A g h (eval x env) (isI i)) : Ev prog w A g h (eval (.UnaryOp .USub x pos) env) (isI (-i)) :=
  fun s g₁ Q E G k => by
    show wpAny _ _ (eval x env >>= fun v => standAt pos >>= fun _ => holding [v] (unaryOp .USub v)) _ _ _
    refine wpAny_bind (hx s g₁ _ _ G fun v g' h' tk G' p => wpAny_bind (wpAny_standAt (wpAny_holding ?_)))
    obtain ⟨t, rfl⟩ := p
    exact P.neg_int (k _ g' h' _ G' ⟨_, rfl⟩)

/-- calls -/
theorem ev_call {x : Str} {np pos : Pos} {e : Expr} {rest : List Expr} {id : String} {P₁ : Map → Heap → List Value → Prop} {P : Map → Heap → Value → Prop} (hn : Ev prog w A g h (eval (.Name x np) env) (isV (.builtin id)))
    (he : Ev prog w A g h (spliced (backTo pos (starEach (e :: rest) env))) P₁) (hc : ∀ vs g' h', Gr g h g' h' → P₁ g' h' vs → Ev prog w A g' h' (call (.builtin id) vs) P)
    (hs : starEach (e :: rest) env = (false, eval e env) :: starEach rest env := by rfl) (hp : (backTo pos (starEach rest env)).any (·.1) = false := by rfl) :
    Ev prog w A g h (eval (.Call (.Name x np) (e :: rest) [] pos) env) P :=
  fun s g₁ Q E G q => Call_ (hn s g₁ _ _ G fun f g₂ h₂ tk₂ G₂ p => by
    cases p
    exact callWith_builtin1 (he _ g₂ _ _ (G.trans G₂) fun vs g₃ h₃ tk₃ G₃ p₁ => hc vs g₃ h₃ ((G.trans G₂).trans G₃) p₁ _ g₃ _ _ (Gr.refl G₃.now) fun v g₄ h₄ tk₄ G₄ p => q v g₄ h₄ tk₄ ((G₂.trans G₃).trans G₄) p) hs hp)
theorem ev_callT {x : Str} {np pos : Pos} {e : Expr} {rest : List Expr} {T : String} {P₁ : Map → Heap → List Value → Prop} {P : Map → Heap → Value → Prop} (hn : Ev prog w A g h (eval (.Name x np) env) (isV (.type T)))
    (he : Ev prog w A g h (spliced (backTo pos (starEach (e :: rest) env))) P₁) (hc : ∀ vs g' h', Gr g h g' h' → P₁ g' h' vs → Ev prog w A g' h' (call (.type T) vs) P)
    (hs : starEach (e :: rest) env = (false, eval e env) :: starEach rest env := by rfl) (hp : (backTo pos (starEach rest env)).any (·.1) = false := by rfl) :
    Ev prog w A g h (eval (.Call (.Name x np) (e :: rest) [] pos) env) P :=
  fun s g₁ Q E G q => Call_ (hn s g₁ _ _ G fun f g₂ h₂ tk₂ G₂ p => by
    cases p
    exact callWith_type1 (he _ g₂ _ _ (G.trans G₂) fun vs g₃ h₃ tk₃ G₃ p₁ => hc vs g₃ h₃ ((G.trans G₂).trans G₃) p₁ _ g₃ _ _ (Gr.refl G₃.now) fun v g₄ h₄ tk₄ G₄ p => q v g₄ h₄ tk₄ ((G₂.trans G₃).trans G₄) p) hs hp)
theorem ev_callD {x : Str} {np pos : Pos} {e : Expr} {rest : List Expr} {f : Addr} {o : Obj} {fd : FuncData} {P₁ : Map → Heap → List Value → Prop} {P : Map → Heap → Value → Prop} (hn : Ev prog w A g h (eval (.Name x np) env) (isV (.ref f)))
    (ho : h.get? f = some o) (hd : o.data = .func fd)
    (he : Ev prog w A g h (spliced (backTo pos (starEach (e :: rest) env))) P₁) (hc : ∀ vs g' h', Gr g h g' h' → P₁ g' h' vs → Ev prog w A g' h' (call (.ref f) vs) P)
    (hs : starEach (e :: rest) env = (false, eval e env) :: starEach rest env := by rfl) :
    Ev prog w A g h (eval (.Call (.Name x np) (e :: rest) [] pos) env) P :=
  fun s g₁ Q E G q => Call_ (hn s g₁ _ _ G fun f g₂ h₂ tk₂ G₂ p => by
    cases p
    exact callWith_def hd (he _ g₂ _ _ (G.trans G₂) fun vs g₃ h₃ tk₃ G₃ p₁ => ⟨((G.trans G₂).trans G₃).heap _ _ ho, hc vs g₃ h₃ ((G.trans G₂).trans G₃) p₁ _ g₃ _ _ (Gr.refl G₃.now) fun v g₄ h₄ tk₄ G₄ p => q v g₄ h₄ tk₄ ((G₂.trans G₃).trans G₄) p⟩) hs)

theorem EvN.of_new {t : Sem Value} {R : Map → Heap → List Value → Prop} {g₁ : Map} {s : Shared} {h₀ : Heap} (e : EvN prog w A g₁ s.heap t R) (hk : ∀ b o, h₀.get? b = some o → s.heap.get? b = some o) (hs : ∀ b o, g₁ b = some o → s.heap.get? b = some o)
    {Q : Value → Shared → Prop} {E : Value → Shared → Prop}
    (k : ∀ a vs n g' h' tk, Gr g₁ s.heap g' h' → h₀.get? a = none → g' a = none → h'.get? a = some (seqObj "list" vs.toArray n) → R g' h' vs → Q (.ref a) { s with heap := h', toks := tk }) : wpAny (model prog w) A t Q E s :=
  e s g₁ Q E (Gr.refl hs) fun a vs n g' h' tk G h1 h2 h3 p => k a vs n g' h' tk G (by
    cases q : h₀.get? a with
    | none => rfl
    | some o => rw [hk _ _ q] at h1; cases h1) h2 h3 p
theorem ev_callN {x : Str} {np pos : Pos} {e : Expr} {rest : List Expr} {id : String} {P₁ : Map → Heap → List Value → Prop} {R : Map → Heap → List Value → Prop} (hn : Ev prog w A g h (eval (.Name x np) env) (isV (.builtin id)))
    (he : Ev prog w A g h (spliced (backTo pos (starEach (e :: rest) env))) P₁) (hc : ∀ vs g' h', Gr g h g' h' → P₁ g' h' vs → EvN prog w A g' h' (call (.builtin id) vs) R)
    (hs : starEach (e :: rest) env = (false, eval e env) :: starEach rest env := by rfl) (hp : (backTo pos (starEach rest env)).any (·.1) = false := by rfl) :
    EvN prog w A g h (eval (.Call (.Name x np) (e :: rest) [] pos) env) R :=
  fun s g₁ Q E G q => Call_ (hn s g₁ _ _ G fun f g₂ h₂ tk₂ G₂ p => by
    cases p
    exact callWith_builtin1 (he _ g₂ _ _ (G.trans G₂) fun vs g₃ h₃ tk₃ G₃ p₁ => EvN.of_new (h₀ := s.heap) (s := { s with heap := h₃, toks := tk₃ }) (hc vs g₃ h₃ ((G.trans G₂).trans G₃) p₁) (G₂.trans G₃).heap G₃.now
      fun a us n g₄ h₄ tk₄ G₄ h1 h2 h3 p => q a us n g₄ h₄ tk₄ ((G₂.trans G₃).trans G₄) h1 h2 h3 p) hs hp)
theorem ev_binopN {l r : Expr} {op : Operator} {pos : Pos} {P₁ P₂ : Map → Heap → Value → Prop} {R : Map → Heap → List Value → Prop} (m₁ : Mono P₁) (hl : Ev prog w A g h (eval l env) P₁) (hr : Ev prog w A g h (eval r env) P₂)
    (hop : ∀ a b g' h', Gr g h g' h' → P₁ g' h' a → P₂ g' h' b → EvN prog w A g' h' (binaryOp op a b) R) : EvN prog w A g h (eval (.BinOp l op r pos) env) R :=
  fun s g₁ Q E G q => wpAny_BinOp (hl s g₁ _ _ G fun a g₂ h₂ tk₂ G₂ p₁ => hr _ g₂ _ _ (G.trans G₂) fun b g₃ h₃ tk₃ G₃ p₂ =>
    EvN.of_new (h₀ := s.heap) (s := { s with heap := h₃, toks := tk₃ }) (hop a b g₃ h₃ ((G.trans G₂).trans G₃) (m₁ _ _ _ _ _ G₃ p₁) p₂) (G₂.trans G₃).heap G₃.now
      fun a us n g₄ h₄ tk₄ G₄ h1 h2 h3 p => q a us n g₄ h₄ tk₄ ((G₂.trans G₃).trans G₄) h1 h2 h3 p)
end
end Mine
end

section
open PySem PySem.W PyProof.Rows
set_option autoImplicit false
set_option linter.unusedVariables false
namespace Mine
open PySem.SeqAt

def dI (ns : List Int) : PyData := .list (ns.map .int)
theorem eqvAll_ints : ∀ (ns ms : List Int), PyData.eqvAll (ns.map .int) (ms.map .int) = decide (ns = ms)
  | [], [] => by simp [PyData.eqvAll]
  | [], _ :: _ => by simp [PyData.eqvAll]
  | _ :: _, [] => by simp [PyData.eqvAll]
  | a :: ns, b :: ms => by
    simp only [List.map_cons, PyData.eqvAll, PyData.eqv, eqvAll_ints ns ms]
    by_cases h : a = b
    · subst h; simp
    · simp [h]
theorem eqv_ints (ns ms : List Int) : PyData.eqv (dI ns) (dI ms) = decide (ns = ms) := by
  unfold dI; rw [PyData.eqv]; exact eqvAll_ints ns ms
theorem eqvAll_lists : ∀ (ns ms : List (List Int)), PyData.eqvAll (ns.map dI) (ms.map dI) = decide (ns = ms)
  | [], [] => by simp [PyData.eqvAll]
  | [], _ :: _ => by simp [PyData.eqvAll]
  | _ :: _, [] => by simp [PyData.eqvAll]
  | a :: ns, b :: ms => by
    simp only [List.map_cons, PyData.eqvAll, eqv_ints, eqvAll_lists ns ms]
    by_cases h : a = b
    · subst h; simp
    · simp [h]
theorem canLay_ints : ∀ ns : List Int, PyData.canLayAll0 (ns.map .int) = true
  | [] => by simp [PyData.canLayAll0]
  | a :: ns => by simp [PyData.canLayAll0, PyData.canLay0, canLay_ints ns]
theorem depth_ints : ∀ ns : List Int, PyData.depthAll (ns.map .int) ≤ 1
  | [] => by simp [PyData.depthAll]
  | a :: ns => by
    have := depth_ints ns
    simp only [List.map_cons, PyData.depthAll, PyData.depth]; omega
theorem canLay_dI (ns : List Int) : (dI ns).canLay0 = true := by unfold dI; rw [PyData.canLay0]; exact canLay_ints ns
theorem depth_dI (ns : List Int) : (dI ns).depth ≤ 2 := by unfold dI; rw [PyData.depth]; have := depth_ints ns; omega
theorem canLay_lists : ∀ ns : List (List Int), PyData.canLayAll0 (ns.map dI) = true
  | [] => by simp [PyData.canLayAll0]
  | a :: ns => by simp [PyData.canLayAll0, canLay_dI a, canLay_lists ns]
theorem depth_lists : ∀ ns : List (List Int), PyData.depthAll (ns.map dI) ≤ 2
  | [] => by simp [PyData.depthAll]
  | a :: ns => by
    have := depth_lists ns
    have := depth_dI a
    simp only [List.map_cons, PyData.depthAll]; omega
theorem shaped_dI (ns : List Int) : shaped (dI ns) = true := by
  unfold shaped; rw [canLay_dI, Bool.true_and]; exact decide_eq_true (Nat.le_trans (depth_dI ns) (by decide))
theorem shaped_lists (nss : List (List Int)) : shaped (.list (nss.map dI)) = true := by
  unfold shaped
  rw [PyData.canLay0, canLay_lists, Bool.true_and, PyData.depth]
  have := depth_lists nss
  exact decide_eq_true (by omega)

theorem readsInts {h : Heap} : ∀ {vs : List Value} {ns : List Int}, IntsAre vs ns → ReadsAll h vs (ns.map .int) []
  | _, _, .nil => ReadsAll.nil
  | _, _, .cons n t r => ReadsAll.cons (Reads.int n t) (readsInts r)
theorem readsIL {g : Map} {h : Heap} (hs : ∀ b o, g b = some o → h.get? b = some o) {ns : List Int} {v : Value} (hv : ILv g ns v) : ∃ as, Reads h v (dI ns) as := by
  obtain ⟨a, vs, n, rfl, ha, hI⟩ := hv
  exact ⟨_, reads_list_at (hs _ _ ha) rfl rfl (readsInts hI)⟩
theorem readsILs {g : Map} {h : Heap} (hs : ∀ b o, g b = some o → h.get? b = some o) : ∀ {vs : List Value} {nss : List (List Int)}, ILs g vs nss → ∃ as, ReadsAll h vs (nss.map dI) as
  | _, _, .nil => ⟨_, ReadsAll.nil⟩
  | _, _, .cons hd tl => by
    obtain ⟨as, r⟩ := readsIL hs hd
    obtain ⟨bs, q⟩ := readsILs hs tl
    exact ⟨_, ReadsAll.cons r q⟩

section
variable {prog : Program} {w : World} {A : Around} {g : Map} {h : Heap} {env : Env}

theorem eqAtIL {s : Shared} (hs : ∀ b o, g b = some o → s.heap.get? b = some o) {ns ms : List Int} {v u : Value} (hv : ILv g ns v) (hu : ILv g ms u) (hr : A.units + 2 < cLine) : EqAt A s v u (decide (ns = ms)) := by
  obtain ⟨as, ra⟩ := readsIL hs hv
  obtain ⟨bs, rb⟩ := readsIL hs hu
  rw [← eqv_ints]
  refine eqAt_reads _ _ A s v u as bs ra rb (canLay_dI _) (canLay_dI _) ?_
  have := depth_dI ns
  omega

/-- the methods of a list that only look -/
theorem ev_meth {o e : Expr} {name : Str} {apos pos : Pos} {id : String} {pl : Sem Bool} {P₁ : Map → Heap → Value → Prop} {P₂ P : Map → Heap → Value → Prop} (m₁ : Mono P₁)
    (slot : Slot "list" name id) (hty : typeOf (.builtin id) = pure (.type "method_descriptor"))
    (ho : Ev prog w A g h (eval o env) P₁) (hP : ∀ v g' h', P₁ g' h' v → (∀ b o, g' b = some o → h'.get? b = some o) → ∃ a vs n, v = .ref a ∧ h'.get? a = some (seqObj "list" vs n))
    (he : Ev prog w A g h (eval e env) P₂) (hc : ∀ v u g' h', Gr g h g' h' → P₁ g' h' v → P₂ g' h' u → Ev prog w A g' h' (call (.builtin id) [v, u]) P)
    (hx : eval (.Call (.Attribute o name apos) [e] [] pos) env = (do
      let ov ← eval o env
      standAt apos.atName
      let (f, first) ← holding [ov] (getMethod ov name pl)
      callWith pos f first (backTo pos (starEach [e] env)) []) := by rfl) (hs : starEach [e] env = [(false, eval e env)] := by rfl) :
    Ev prog w A g h (eval (.Call (.Attribute o name apos) [e] [] pos) env) P :=
  fun s g₁ Q E G q => MethodCall_ (pl := pl) (ho s g₁ _ _ G fun v g₂ h₂ tk₂ G₂ p₁ => by
    obtain ⟨a, vs, n, rfl, ha⟩ := hP v g₂ h₂ p₁ G₂.now
    refine getMethod_builtin ⟨_, ha, rfl⟩ PySem.F.plainAttrs_list slot hty (fun b e => by cases e; exact ⟨_, ha, rfl⟩) ?_
    exact callWith_method1 (spliced_more (he _ g₂ _ _ (G.trans G₂) fun u g₃ h₃ tk₃ G₃ p₂ => spliced_none (hc _ _ g₃ h₃ ((G.trans G₂).trans G₃) (m₁ _ _ _ _ _ G₃ p₁) p₂ _ g₃ _ _ (Gr.refl G₃.now)
      fun v g₄ h₄ tk₄ G₄ p => q v g₄ h₄ tk₄ ((G₂.trans G₃).trans G₄) p)) hs) hs) hx

theorem IL.at {g : Map} {h : Heap} {ns : List Int} {v : Value} (p : IL ns g h v) (hs : ∀ b o, g b = some o → h.get? b = some o) : ∃ a vs n, v = .ref a ∧ h.get? a = some (seqObj "list" vs n) := by
  obtain ⟨a, vs, n, rfl, ha, _⟩ := p
  exact ⟨a, _, n, rfl, hs _ _ ha⟩
theorem LL.at {g : Map} {h : Heap} {nss : List (List Int)} {v : Value} (p : LL nss g h v) (hs : ∀ b o, g b = some o → h.get? b = some o) : ∃ a vs n, v = .ref a ∧ h.get? a = some (seqObj "list" vs n) := by
  obtain ⟨a, vs, n, rfl, ha, _⟩ := p
  exact ⟨a, _, n, rfl, hs _ _ ha⟩

/-- the items that are like this one -/
noncomputable def likeB (g : Map) (m : List Int) (v : Value) : Bool := by
  classical exact decide (ILv g m v)
theorem countP_like {g : Map} (m : List Int) (hfun : ∀ v ns ms, ILv g ns v → ILv g ms v → ns = ms) : ∀ {vs : List Value} {nss : List (List Int)}, ILs g vs nss → vs.countP (likeB g m) = nss.count m
  | _, _, .nil => rfl
  | _, _, .cons (ns := ns) hd tl => by
    rw [List.countP_cons, List.count_cons, countP_like m hfun tl]
    congr 1
    unfold likeB
    by_cases e : ns = m
    · subst e; simp [hd]
    · have : ¬ ILv g m _ := fun q => e (hfun _ _ _ hd q)
      simp [this, e]
theorem IntsAre.det : ∀ {vs : List Value} {ns ms : List Int}, IntsAre vs ns → IntsAre vs ms → ns = ms
  | _, _, _, .nil, .nil => rfl
  | _, _, _, .cons n t a, b => by
    cases b with
    | cons m u b => rw [IntsAre.det a b]
theorem ILv.det {g : Map} {v : Value} {ns ms : List Int} (a : ILv g ns v) (b : ILv g ms v) : ns = ms := by
  obtain ⟨x, vs, n, rfl, hx, hI⟩ := a
  obtain ⟨y, us, k, e, hy, hJ⟩ := b
  cases e
  rw [hx] at hy
  have e1 : vs.toArray = us.toArray := by
    have := congrArg Obj.data (Option.some.inj hy)
    exact (Data.seq.inj this).1
  have e2 : vs = us := by simpa using e1
  subst e2
  exact IntsAre.det hI hJ
theorem ILs.mem {g : Map} : ∀ {vs : List Value} {nss : List (List Int)}, ILs g vs nss → ∀ v ∈ vs, ∃ ns, ns ∈ nss ∧ ILv g ns v
  | _, _, .nil, v, hv => by cases hv
  | _, _, .cons hd tl, v, hv => by
    rcases List.mem_cons.mp hv with rfl | hv
    · exact ⟨_, .head _, hd⟩
    · obtain ⟨ns, h1, h2⟩ := tl.mem v hv
      exact ⟨ns, .tail _ h1, h2⟩
theorem eqAt_like {s : Shared} (hs : ∀ b o, g b = some o → s.heap.get? b = some o) {vs : List Value} {nss : List (List Int)} (hL : ILs g vs nss) {m : List Int} {u : Value} (hu : ILv g m u) (hr : A.units + 2 < cLine) :
    ∀ y ∈ vs, EqAt A s y u (likeB g m y) := fun y hy => by
  obtain ⟨ns, h1, h2⟩ := hL.mem y hy
  have e : likeB g m y = decide (ns = m) := by
    unfold likeB
    by_cases e : ns = m
    · subst e; simp [h2]
    · have : ¬ ILv g m y := fun q => e (h2.det q)
      simp [this, e]
  rw [e]
  exact eqAtIL hs h2 hu hr

/-- how often a list of ints stands in a list of such -/
theorem cl_countL {v u : Value} {nss : List (List Int)} {m : List Int} (hv : LL nss g h v) (hu : IL m g h u) (hr : A.units + 8 < cLine) : Ev prog w A g h (call (.builtin "list.count") [v, u]) (isI (nss.count m : Nat)) := by
  obtain ⟨a, vs, n, rfl, ha, hL⟩ := hv
  refine Ev.of fun s g₁ Q E G q => ?_
  have ha' := G.now _ _ (G.sub _ _ ha)
  have hL' := hL.mono G.sub
  refine call_meets PySem.F.slot_list_count ⟨_, ha', rfl⟩ PySem.F.entry_list_count (PySem.F.args_list_count_2 _ _) (list_countAt a vs.toArray n none #[] u (likeB g₁ m)) ⟨ha', fun y hy => ?_, ?_⟩
  · exact eqAt_like G.now hL' (mono_IL m _ _ _ _ _ G hu) (by show A.units + 1 + 2 < cLine; omega) y (by simpa using hy)
  · show Q (.int (vs.toArray.toList.countP (likeB g₁ m) : Nat) _) _
    have := countP_like m (fun v ns ms a b => ILv.det a b) hL'
    rw [show vs.toArray.toList = vs from rfl, this]
    exact q _ _ ⟨_, rfl⟩
/-- == and != of lists of ints -/
theorem op_eqL {v u : Value} {ns ms : List Int} (hv : IL ns g h v) (hu : IL ms g h u) (hr : A.units + 64 < cLine) : Ev prog w A g h (compareOp .Eq v u) (isV (.bool (decide (ns = ms)))) := by
  refine Ev.of fun s g₁ Q E G q => ?_
  obtain ⟨as, ra⟩ := readsIL G.now (mono_IL ns _ _ _ _ _ G hv)
  obtain ⟨bs, rb⟩ := readsIL G.now (mono_IL ms _ _ _ _ _ G hu)
  exact eq_dataH ra rb (shaped_dI _) (shaped_dI _) hr (by rw [eqv_ints]; exact q _ s.toks rfl)
end
end Mine
end

section
open PySem PySem.W PyProof.Rows
set_option autoImplicit false
set_option linter.unusedVariables false
namespace Mine

inductive F2 {α β : Type} (R : α → β → Prop) : List α → List β → Prop where
  | nil : F2 R [] []
  | cons {a : α} {b : β} {as : List α} {bs : List β} : R a b → F2 R as bs → F2 R (a :: as) (b :: bs)
theorem F2.length {α β : Type} {R : α → β → Prop} : ∀ {as : List α} {bs : List β}, F2 R as bs → as.length = bs.length
  | _, _, .nil => rfl
  | _, _, .cons _ t => by rw [List.length_cons, List.length_cons, t.length]
theorem F2.mono {α β : Type} {R R' : α → β → Prop} (hr : ∀ a b, R a b → R' a b) : ∀ {as : List α} {bs : List β}, F2 R as bs → F2 R' as bs
  | _, _, .nil => .nil
  | _, _, .cons h t => .cons (hr _ _ h) (t.mono hr)
theorem F2.snoc {α β : Type} {R : α → β → Prop} {a : α} {b : β} (h : R a b) : ∀ {as : List α} {bs : List β}, F2 R as bs → F2 R (as ++ [a]) (bs ++ [b])
  | _, _, .nil => .cons h .nil
  | _, _, .cons h' t => .cons h' (t.snoc h)
theorem F2.append {α β : Type} {R : α → β → Prop} : ∀ {as : List α} {bs : List β} {as' : List α} {bs' : List β}, F2 R as bs → F2 R as' bs' → F2 R (as ++ as') (bs ++ bs')
  | _, _, _, _, .nil, h => h
  | _, _, _, _, .cons h t, q => .cons h (t.append q)
theorem F2.get {α β : Type} {R : α → β → Prop} : ∀ {as : List α} {bs : List β}, F2 R as bs → ∀ (i : Nat) (a : α), as[i]? = some a → ∃ b, bs[i]? = some b ∧ R a b
  | _, _, .nil, i, a, e => by simp at e
  | _, _, .cons h t, 0, a, e => by simp at e; subst e; exact ⟨_, rfl, h⟩
  | _, _, .cons h t, i + 1, a, e => by
    obtain ⟨b, h1, h2⟩ := t.get i a (by simpa using e)
    exact ⟨b, by simpa using h1, h2⟩
theorem F2.ints {vs : List Value} {ns : List Int} (hI : F2 (fun v i => ∃ t, v = Value.int i t) vs ns) : IntsAre vs ns := by
  induction hI with
  | nil => exact .nil
  | cons h t ih => obtain ⟨u, rfl⟩ := h; exact .cons _ u ih
theorem IntsAre.f2 : ∀ {vs : List Value} {ns : List Int}, IntsAre vs ns → F2 (fun v i => ∃ t, v = Value.int i t) vs ns
  | _, _, .nil => .nil
  | _, _, .cons n t r => .cons ⟨t, rfl⟩ (IntsAre.f2 r)
theorem F2.lists {g : Map} {vs : List Value} {nss : List (List Int)} (hI : F2 (fun v ns => ILv g ns v) vs nss) : ILs g vs nss := by
  induction hI with
  | nil => exact .nil
  | cons h t ih => exact .cons h ih
theorem ILs.f2 {g : Map} : ∀ {vs : List Value} {nss : List (List Int)}, ILs g vs nss → F2 (fun v ns => ILv g ns v) vs nss
  | _, _, .nil => .nil
  | _, _, .cons h r => .cons h (ILs.f2 r)

/-- a kind of value, by what is known for good -/
def MonoM {α : Type} (R : Map → α → Value → Prop) : Prop := ∀ g g' a v, (∀ b o, g b = some o → g' b = some o) → R g a v → R g' a v
def kI : Map → Int → Value → Prop := fun _ i v => ∃ t, v = .int i t
theorem mono_kI : MonoM kI := fun _ _ _ _ _ p => p
theorem mono_ILv : MonoM ILv := fun _ _ _ _ hs ⟨a, vs, n, e, ha, hi⟩ => ⟨a, vs, n, e, hs _ _ ha, hi⟩

section
variable {prog : Program} {w : World} {A : Around} {g : Map} {h : Heap} {env : Env}

/-- to go over the value meets these items, one after the other -/
def Walk (prog : Program) (w : World) (A : Around) {α : Type} (R : Map → α → Value → Prop) (items : List α) (g : Map) (h : Heap) (v : Value) : Prop :=
  ∀ (s : Shared) (g₁ : Map) (Q : Value → Shared → Prop) (E : Value → Shared → Prop), Gr g h g₁ s.heap →
    (∀ I fp P St h', Walks prog w A I fp [I] items.length P St → St 0 h' → (∀ b o, s.heap.get? b = some o → h'.get? b = some o) → (∀ b ∈ fp, b < h'.objs.size) → s.heap.get? I = none →
      (∀ i u, i < items.length → P i u → ∃ a, items[i]? = some a ∧ R g₁ a u) → (∀ i h, St i h → ∃ o, h.get? I = some o) → (∀ b ∈ fp, b ≠ I → ∃ o, g₁ b = some o) → Q (.ref I) { s with heap := h' }) → wpAny (model prog w) A (pyIter v) Q E s

theorem Walk.list {α : Type} {R : Map → α → Value → Prop} (mR : MonoM R) {items : List α} {a : Addr} {vs : List Value} {n : Nat} (hh : A.handled = none) (hl : g a = some (seqObj "list" vs.toArray n)) (hR : F2 (fun v x => R g x v) vs items) : Walk prog w A R items g h (.ref a) :=
  fun s g₁ Q E G k => by
    have hL := listAt G.now (G.sub _ _ hl)
    refine wpAny_pyIter_list hL ?_
    obtain ⟨ol, hol, _⟩ := id hL
    have hne : a ≠ s.heap.objs.size := Nat.ne_of_lt (Heap.lt_size hol)
    have hW := Walks.list (prog := prog) (w := w) hh s.heap.objs.size a hne vs.toArray
    have e : vs.toArray.size = items.length := by rw [List.size_toArray]; exact hR.length
    rw [e] at hW
    refine k _ _ _ _ _ hW ⟨⟨_, Heap.get?_push_size _ rfl, rfl, rfl⟩, hL.push _⟩ (fun b o e => Heap.get?_push_of_some _ e) ?_ ?_ ?_ ?_ ?_
    · intro b hb
      rw [size_push]
      rcases List.mem_cons.mp hb with rfl | hb
      · exact Nat.lt_succ_self _
      · rw [List.mem_singleton.mp hb]; exact Nat.lt_succ_of_lt (Heap.lt_size hol)
    · exact get_new _
    · intro i u _ hu
      obtain ⟨x, h1, h2⟩ := hR.get i u (by simpa using hu)
      exact ⟨x, h1, mR _ _ _ _ G.sub h2⟩
    · rintro i h ⟨⟨o, ho, _⟩, _⟩
      exact ⟨o, ho⟩
    · intro b hb hw
      rcases List.mem_cons.mp hb with q | hb
      · exact absurd q hw
      · rw [List.mem_singleton.mp hb]; exact ⟨_, G.sub _ _ hl⟩

/-- the ints from a on, n of them -/
def intsF (a : Int) (n : Nat) : List Int := (List.range n).map fun (i : Nat) => a + (i : Int)
theorem intsF_length (a : Int) (n : Nat) : (intsF a n).length = n := by simp [intsF]
theorem intsF_get (a : Int) (n i : Nat) (hi : i < n) : (intsF a n)[i]? = some (a + i) := by simp [intsF, hi]

theorem Walk.range {a b : Int} {v : Value} (hh : A.handled = none) (hr : isR a b g h v) (hs : Builtin.Range.small a b 1 = true) (hn : Builtin.Range.rangeSize a b 1 = ((b - a).toNat : Nat)) : Walk prog w A kI (intsF a (b - a).toNat) g h v :=
  fun s g₁ Q E G k => by
    obtain ⟨r, t, u, z, rfl, hR⟩ := hr
    refine wpAny_pyIter_range (G.heap _ _ hR) hs ?_
    rw [hn]
    have hW := Walks.range (prog := prog) (w := w) hh s.heap.objs.size a 1 (b - a).toNat
    rw [← intsF_length a (b - a).toNat] at hW
    refine k _ _ _ _ _ hW (by simpa [intsF_length] using Heap.get?_push_size s.heap rfl) (fun b o e => Heap.get?_push_of_some _ e) ?_ ?_ ?_ ?_ ?_
    · intro b hb; rw [List.mem_singleton.mp hb, size_push]; exact Nat.lt_succ_self _
    · exact get_new _
    · intro i u hi hu
      rw [intsF_length] at hi
      obtain ⟨t, rfl⟩ := hu
      exact ⟨_, intsF_get _ _ _ hi, t, by rw [Int.mul_one]⟩
    · intro i h st
      exact ⟨_, st⟩
    · intro b hb hw; exact absurd (List.mem_singleton.mp hb) hw
end
end Mine
end

section
open PySem PySem.W PyProof.Rows
set_option autoImplicit false
set_option linter.unusedVariables false
namespace Mine

theorem Gr.keepNone {g g' : Map} {h h' : Heap} (G : Gr g h g' h') {a : Addr} {o : Obj} (hg : g a = none) (ho : h.get? a = some o) : g' a = none := by
  cases k : g' a with
  | none => rfl
  | some o' =>
    rcases G.new _ _ k with q | q
    · rw [hg] at q; cases q
    · rw [ho] at q; cases q
/-- an object that is not known for good is changed -/
theorem Gr.butE {g g' : Map} {h h' h'' : Heap} {a : Addr} (G : Gr g h g' h') (hs : ∀ b o, b ≠ a → h'.get? b = some o → h''.get? b = some o) (ha : h.get? a = none) (hg : g' a = none) : Gr g h g' h'' :=
  ⟨fun b o e => by
    have hb : b ≠ a := fun q => by rw [q, ha] at e; cases e
    exact hs b o hb (G.heap b o e), G.sub, G.new,
   fun b o e => by
    have hb : b ≠ a := fun q => by rw [q, hg] at e; cases e
    exact hs b o hb (G.now b o e)⟩
theorem Gr.but {g g' : Map} {h h' h'' : Heap} {a : Addr} (G : Gr g h g' h') (hs : Heap.SameBut a h' h'') (ha : h.get? a = none) (hg : g' a = none) : Gr g h g' h'' := G.butE hs.extBut ha hg
theorem Gr.butAll {g g' : Map} {h h' h'' : Heap} {wr : List Addr} (G : Gr g h g' h') (hs : ∀ b o, b ∉ wr → h'.get? b = some o → h''.get? b = some o) (ha : ∀ b ∈ wr, h.get? b = none) (hg : ∀ b ∈ wr, g' b = none) : Gr g h g' h'' :=
  ⟨fun b o e => hs b o (fun q => by rw [ha b q] at e; cases e) (G.heap b o e), G.sub, G.new, fun b o e => hs b o (fun q => by rw [hg b q] at e; cases e) (G.now b o e)⟩

section
variable {prog : Program} {w : World} {A : Around} {g : Map} {h : Heap} {env : Env}

/-- the tests of a comprehension -/
abbrev testsT (ifs : List Expr) (env : Env) : Sem Bool :=
  forIn ifs true fun c r => if r = true then do let ok ← isTrue c env (eval c env); pure (ForInStep.yield ok) else pure (ForInStep.yield r)
theorem tests_nil : Ev prog w A g h (testsT [] env) (isB true) := Ev.of fun s g₁ Q E G k => wpAny_pure (k true s.toks rfl)
theorem tests_one {c : Expr} {b : Bool} (hc : Ev prog w A g h (isTrue c env (eval c env)) (isB b)) : Ev prog w A g h (testsT [c] env) (isB b) :=
  fun s g₁ Q E G k => by
    unfold testsT
    rw [List.forIn_cons]
    simp only [if_true]
    refine wpAny_bind (wpAny_bind (hc s g₁ _ _ G fun v g' h' tk G' p => ?_))
    cases p
    refine wpAny_pure ?_
    exact wpAny_pure (k _ g' h' tk G' rfl)

/-- the loop of a comprehension; what comes behind it is left open -/
theorem comp_core {α β : Type} {elt iter : Expr} {x : Str} {px pos : Pos} {ifs : List Expr} {scope : Scope} {cl : List (Str × Addr)} {items : List α} {R : Map → α → Value → Prop} {test : α → Bool} {out : α → β} {S : Map → β → Value → Prop}
    (hclos : closureFor scope env = pure cl) (hcell : ∀ y ∈ scope.names, y.2 ≠ .cell) (hkind : scope.kind = .function)
    (hnames : ∀ y ∈ scope.names, y.2 = .local → scope.names.lookup y.1 = some .local) (hx : scope.names.lookup x = some .local)
    (mR : MonoM R) (mS : MonoM S) (hiter : Ev prog w A g h (eval iter env) (Walk prog w A R items)) (hz : items.length ≤ 1000)
    (hbody : ∀ a ∈ items, ∀ C m g' h' v, Gr g h g' h' → h'.Ns C m → m x = some v → R g' a v →
      Ev prog w A g' h' (testsT ifs (compEnvC scope cl C env)) (isB (test a)) ∧ (test a = true → Ev prog w A g' h' (eval elt (compEnvC scope cl C env)) (fun g _ v => S g (out a) v)))
    {s : Shared} {g₀ : Map} {Q : Value → Shared → Prop} {E : Value → Shared → Prop} {use : Option (Value → Sem Unit)} {cpos : Pos} (G : Gr g h g₀ s.heap)
    (k : ∀ D C ys n g' h' tk m, Gr g₀ s.heap g' h' → s.heap.get? D = none → g' D = none → s.heap.get? C = none → g' C = none → D ≠ C → h'.get? D = some (seqObj "list" (ys : List Value).toArray n) → h'.Ns C m →
      F2 (fun v b => S g' b v) ys ((items.filter test).map out) → compPost (model prog w) A E use Q (.ref D) C (.ok .next) { s with heap := h', toks := tk })
    (hs : ∀ x, foldedSetIterable iter env x = pure x := by intro _; rfl) :
    wpAny (model prog w) A (comprehension (.ListComp elt [⟨.Name x px, iter, ifs, 0⟩] scope pos) scope env cpos (newList []) false (eval iter env) use) Q E s := by
    refine wpAny_comprehension_free (use := use) rfl hs hclos hkind hnames (hiter s g₀ _ _ G fun v g₁ h₁ tk₁ G₁ hw => hw _ g₁ _ _ (Gr.refl G₁.now) fun I fp P St h₂ W st hk₂ hfp hwr0 hP hStw0 _ => ?_)
    refine wpAny_newObj_type (wpAny_newFunctionEnv hcell (by intro y hy; simp at hy) (fun h₄ hns hsb => ?_) hkind)
    dsimp only at hns hsb hk₂ hwr0 ⊢
    have hwr : ∀ b ∈ [I], h₁.get? b = none := fun b hb => by rw [List.mem_singleton.mp hb]; exact hwr0
    have hStw : ∀ i h, St i h → ∀ b ∈ [I], ∃ o, h.get? b = some o := fun i h st b hb => by rw [List.mem_singleton.mp hb]; exact hStw0 i h st
    generalize hH3 : h₂.push { cls := .type "list", dict := none, data := .seq ([] : List Value).toArray } = H3 at hns hsb ⊢
    have hC : H3.objs.size = h₂.objs.size + 1 := by rw [← hH3, size_push]
    have hDC : h₂.objs.size ≠ H3.objs.size := by rw [hC]; exact Nat.ne_of_lt (Nat.lt_succ_self _)
    have old : ∀ b o, h₂.get? b = some o → h₄.get? b = some o := fun b o e => by
      have hb : b < h₂.objs.size := Heap.lt_size e
      exact hsb.extBut b o (by rw [hC]; exact Nat.ne_of_lt (Nat.lt_succ_of_lt hb)) (Heap.get?_push_of_some _ (hH3 ▸ Heap.get?_push_of_some _ e))
    have hD₁ : h₁.get? h₂.objs.size = none := by
      cases q : h₁.get? h₂.objs.size with
      | none => rfl
      | some o => have := hk₂ _ _ q; rw [get_new] at this; cases this
    have hC₁ : h₁.get? H3.objs.size = none := by
      cases q : h₁.get? H3.objs.size with
      | none => rfl
      | some o => have := hk₂ _ _ q; rw [hC, get_new1] at this; cases this
    have hgD : g₁ h₂.objs.size = none := g_new G₁.now hD₁
    have hgC : g₁ H3.objs.size = none := g_new G₁.now hC₁
    have hgw : ∀ b ∈ [I], g₁ b = none := fun b hb => g_new G₁.now (hwr b hb)
    have hDf : h₂.objs.size ∉ fp := fun hm => Nat.lt_irrefl _ (hfp _ hm)
    have hCf : H3.objs.size ∉ fp := fun hm => by have := hfp _ hm; rw [hC] at this; exact Nat.lt_irrefl _ (Nat.lt_of_succ_lt this)
    have hDw : h₂.objs.size ∉ [I] := fun hm => hDf (W.sub _ hm)
    have hCw : H3.objs.size ∉ [I] := fun hm => hCf (W.sub _ hm)
    have hD₄ : h₄.get? h₂.objs.size = some (seqObj "list" ([] : List Value).toArray 0) := hsb.extBut _ _ hDC (Heap.get?_push_of_some _ (hH3 ▸ Heap.get?_push_size _ rfl))
    have st₄ : St 0 h₄ := W.frame _ _ _ st fun b _ o e => old b o e
    have Gs : Gr g₁ h₁ g₁ h₄ := Gr.of_heap G₁.now fun b o e => old b o (hk₂ b o e)
    have loop : ∀ s₅ : Shared, s₅ = { s with heap := h₄, toks := tk₁ + ([] : List (Str × Value)).length } →
        codeAny (model prog w) A (.compLoop (.ListComp elt [⟨.Name x px, iter, ifs, 0⟩] scope pos) 0 (.ref I) (.ref h₂.objs.size) (compEnvC scope cl H3.objs.size env))
          (compPost (model prog w) A E use Q (.ref h₂.objs.size) H3.objs.size) s₅ := by
      rintro s₅ rfl
      refine codeAny_compLoop_tests
        (fun j s' => ∃ i h' tk' m' ys n g', s' = { s with heap := h', toks := tk' } ∧ j = items.length + 1 - i ∧ i ≤ items.length ∧ St i h' ∧ Gr g₁ h₁ g' h' ∧ g' h₂.objs.size = none ∧ g' H3.objs.size = none ∧ (∀ b ∈ [I], g' b = none) ∧
          h'.get? h₂.objs.size = some (seqObj "list" (ys : List Value).toArray n) ∧ h'.Ns H3.objs.size m' ∧ F2 (fun v b => S g' b v) ys (((items.take i).filter test).map out)) ?_ (items.length + 1)
        ⟨0, h₄, _, _, [], 0, g₁, rfl, rfl, Nat.zero_le _, st₄, Gs, hgD, hgC, hgw, hD₄, hns, by simpa using F2.nil⟩
      rintro j s' ⟨i, h', tk', m', ys, n, g', rfl, rfl, hi, st', G', gD', gC', gw', hD', hn', hF⟩
      by_cases hlt : i < items.length
      · refine W.item i _ _ _ hlt st' fun v h₅ tk₅ hPv st₅ hk₅ => ?_
        dsimp only at hk₅ ⊢
        obtain ⟨a, ha, hRa⟩ := hP i v hlt hPv
        have ham : a ∈ items := List.mem_of_getElem? ha
        have G₅ : Gr g₁ h₁ g' h₅ := G'.butAll hk₅ hwr gw'
        obtain ⟨oC, _, _, hoC, _⟩ := id hn'
        refine wpAny_assign_Name (wpAny_storeName_local (lookup_relabel_local hx) (hn'.at' fun o e => hk₅ _ o hCw e) (fun h₆ hn₆ hs₆ => ?_) (by simp [compEnvC, relabel, hkind]))
        dsimp only [compEnvC] at hn₆ hs₆ ⊢
        have G₆ : Gr g₁ h₁ g' h₆ := G₅.but hs₆ hC₁ gC'
        have st₆ : St (i + 1) h₆ := W.frame _ _ _ st₅ fun b hb o e => hs₆.extBut b o (fun q => hCf (q ▸ hb)) e
        have hD₆ : h₆.get? h₂.objs.size = some (seqObj "list" ys.toArray n) := by rw [hs₆.2 _ hDC]; exact hk₅ _ _ hDw hD'
        obtain ⟨oC6, _, _, hoC6, _⟩ := id hn₆
        obtain ⟨ht, he⟩ := hbody a ham H3.objs.size _ g' h₆ v ((G.trans G₁).trans G₆) hn₆ (by simp) (mR _ _ _ _ G'.sub hRa)
        refine ht _ g' _ _ (Gr.refl G₆.now) fun ok g₇ h₇ tk₇ G₇ p₇ => ?_
        have gD₇ : g₇ h₂.objs.size = none := G₇.keepNone gD' hD₆
        have gC₇ : g₇ H3.objs.size = none := G₇.keepNone gC' hoC6
        have gw₇ : ∀ b ∈ [I], g₇ b = none := fun b hb => by obtain ⟨o, ho⟩ := hStw _ _ st₆ b hb; exact G₇.keepNone (gw' b hb) ho
        have st₇ : St (i + 1) h₇ := W.frame _ _ _ st₆ fun b _ o e => G₇.heap b o e
        have etake : items.take (i + 1) = items.take i ++ [a] := by rw [List.take_add_one, ha]; rfl
        cases p₇
        dsimp only
        cases hta : test a with
        | false =>
          simp only [Bool.false_eq_true, if_false]
          refine ⟨items.length + 1 - (i + 1), by omega, i + 1, h₇, tk₇, _, ys, n, g₇, rfl, rfl, hlt, st₇, G₆.trans G₇, gD₇, gC₇, gw₇, G₇.heap _ _ hD₆, hn₆.keeps G₇.heap, ?_⟩
          rw [etake, List.filter_append, List.map_append]
          simp only [List.filter_cons, hta, Bool.false_eq_true, if_false, List.filter_nil, List.map_nil, List.append_nil]
          exact hF.mono fun _ _ q => mS _ _ _ _ G₇.sub q
        | true =>
          simp only [if_true]
          refine he hta _ g₇ _ _ G₇ fun y g₈ h₈ tk₈ G₈ p₈ => ?_
          obtain ⟨oC7, _, _, hoC7, _⟩ := id (hn₆.keeps G₇.heap)
          have gD₈ : g₈ h₂.objs.size = none := G₈.keepNone gD₇ (G₇.heap _ _ hD₆)
          have gC₈ : g₈ H3.objs.size = none := G₈.keepNone gC₇ hoC7
          have gw₈ : ∀ b ∈ [I], g₈ b = none := fun b hb => by obtain ⟨o, ho⟩ := hStw _ _ st₇ b hb; exact G₈.keepNone (gw₇ b hb) ho
          have hD₈ : h₈.get? h₂.objs.size = some (seqObj "list" ys.toArray n) := G₈.heap _ _ (G₇.heap _ _ hD₆)
          have hys : ys.length ≤ items.length := by
            rw [hF.length, List.length_map]
            exact Nat.le_trans (List.length_filter_le _ _) (by rw [List.length_take]; omega)
          refine wpAny_list_append_plain (items := ys.toArray) ⟨n, hD₈⟩ (fun h₉ hl₉ hs₉ => ?_) (by rw [List.size_toArray, sizeLine_eq]; omega)
          obtain ⟨n', hl₉⟩ := hl₉
          have G₉ : Gr g₁ h₁ g₈ h₉ := ((G₆.trans G₇).trans G₈).but hs₉ hD₁ gD₈
          refine ⟨items.length + 1 - (i + 1), by omega, i + 1, h₉, tk₈, _, ys ++ [y], n', g₈, rfl, rfl, hlt, ?_, G₉, gD₈, gC₈, gw₈, by simpa using hl₉, ((hn₆.keeps G₇.heap).keeps G₈.heap).sameBut hs₉ (Ne.symm hDC), ?_⟩
          · exact W.frame _ _ _ st₇ fun b hb o e => hs₉.extBut b o (fun q => hDf (q ▸ hb)) (G₈.heap b o e)
          · rw [etake, List.filter_append, List.map_append]
            simp only [List.filter_cons, hta, if_true, List.filter_nil, List.map_cons, List.map_nil]
            exact F2.snoc (R := fun v b => S g₈ b v) p₈ (hF.mono fun _ _ q => mS _ _ _ _ (fun b o e => G₈.sub b o (G₇.sub b o e)) q)
      · have hin : i = items.length := by omega
        subst hin
        refine W.done _ _ _ st' fun h₅ tk₅ hk₅ => ?_
        dsimp only at hk₅ ⊢
        have G₅ : Gr g₁ h₁ g' h₅ := G'.butAll hk₅ hwr gw'
        have none₁ : ∀ a, h₁.get? a = none → s.heap.get? a = none := fun a ha => by
          cases q : s.heap.get? a with
          | none => rfl
          | some o => have := G₁.heap _ _ q; rw [ha] at this; cases this
        exact k _ _ ys n g' h₅ tk₅ m' (G₁.trans G₅) (none₁ _ hD₁) gD' (none₁ _ hC₁) gC' hDC (hk₅ _ _ hDw hD') (hn'.at' fun o e => hk₅ _ o hCw e) (by rw [List.take_length] at hF; exact hF)
    exact codeAny_compStart_list (loop _ rfl) (W.self 0 _ _ _ st₄ (loop _ rfl))

theorem ev_comp {α β : Type} {elt iter : Expr} {x : Str} {px pos : Pos} {ifs : List Expr} {scope : Scope} {cl : List (Str × Addr)} {items : List α} {R : Map → α → Value → Prop} {test : α → Bool} {out : α → β} {S : Map → β → Value → Prop}
    (hclos : closureFor scope env = pure cl) (hcell : ∀ y ∈ scope.names, y.2 ≠ .cell) (hkind : scope.kind = .function)
    (hnames : ∀ y ∈ scope.names, y.2 = .local → scope.names.lookup y.1 = some .local) (hx : scope.names.lookup x = some .local)
    (mR : MonoM R) (mS : MonoM S) (hiter : Ev prog w A g h (eval iter env) (Walk prog w A R items)) (hz : items.length ≤ 1000)
    (hbody : ∀ a ∈ items, ∀ C m g' h' v, Gr g h g' h' → h'.Ns C m → m x = some v → R g' a v →
      Ev prog w A g' h' (testsT ifs (compEnvC scope cl C env)) (isB (test a)) ∧ (test a = true → Ev prog w A g' h' (eval elt (compEnvC scope cl C env)) (fun g _ v => S g (out a) v)))
    (hs : ∀ x, foldedSetIterable iter env x = pure x := by intro _; rfl) :
    EvN prog w A g h (eval (.ListComp elt [⟨.Name x px, iter, ifs, 0⟩] scope pos) env) (fun g _ vs => F2 (fun v b => S g b v) vs ((items.filter test).map out)) :=
  fun s g₀ Q E G k => by
    rw [eval_ListComp]
    refine comp_core hclos hcell hkind hnames hx mR mS hiter hz hbody G (fun D C ys n g' h' tk m G' hD gD hC gC hDC hl hn hF => ?_) hs
    refine ⟨m, hn, fun h₆ hs₆ => ?_⟩
    exact k D ys n g' h₆ tk (G'.but hs₆ hC gC) hD gD (by rw [hs₆.2 _ hDC]; exact hl) hF
end
end Mine
end

section
open PySem PySem.W PyProof.Rows
set_option autoImplicit false
set_option linter.unusedVariables false
namespace Mine

def updS (m : Str → Option Value) (x : Str) (v : Value) : Str → Option Value := fun y => if y = x then some v else m y

/-- the frame of a running def: since its call all has grown from (g₀, h₀); W: the lists of its own that may yet change -/
structure Fm (g₀ : Map) (h₀ : Heap) (env : Env) (m cm : Str → Option Value) (W : List (Addr × Obj)) (g : Map) (h : Heap) : Prop where
  gr : Gr g₀ h₀ g h
  ns : h.Ns env.locals m
  nl : h₀.get? env.locals = none
  gl : g env.locals = none
  cells : ∀ n c, env.cells.lookup n = some c → h.IsCell c (cm n) ∧ g c = none ∧ c ≠ env.locals ∧ h₀.get? c = none
  apart : ∀ n n' c, env.cells.lookup n = some c → env.cells.lookup n' = some c → n = n'
  led : ∀ p ∈ W, h.get? p.1 = some p.2 ∧ g p.1 = none ∧ p.1 ≠ env.locals ∧ (∀ n c, env.cells.lookup n = some c → c ≠ p.1) ∧ h₀.get? p.1 = none
  nd : W.Pairwise fun x y => x.1 ≠ y.1

namespace Fm
variable {g₀ g g' : Map} {h₀ h h' : Heap} {env : Env} {m cm : Str → Option Value} {W : List (Addr × Obj)}

theorem now (F : Fm g₀ h₀ env m cm W g h) : ∀ b o, g b = some o → h.get? b = some o := F.gr.now
theorem grow (F : Fm g₀ h₀ env m cm W g h) (G : Gr g h g' h') : Fm g₀ h₀ env m cm W g' h' where
  gr := F.gr.trans G
  ns := F.ns.keeps G.heap
  nl := F.nl
  gl := by obtain ⟨o, _, _, ho, _⟩ := F.ns; exact G.keepNone F.gl ho
  cells := fun n c e => by
    obtain ⟨⟨o, ho, hd⟩, h2, h3, h4⟩ := F.cells n c e
    exact ⟨⟨o, G.heap _ _ ho, hd⟩, G.keepNone h2 ho, h3, h4⟩
  apart := F.apart
  led := fun p hp => by
    obtain ⟨h1, h2, h3, h4, h5⟩ := F.led p hp
    exact ⟨G.heap _ _ h1, G.keepNone h2 h1, h3, h4, h5⟩
  nd := F.nd

theorem store (F : Fm g₀ h₀ env m cm W g h) {x : Str} {v : Value} (hn : h'.Ns env.locals (updS m x v)) (hs : Heap.SameBut env.locals h h') : Fm g₀ h₀ env (updS m x v) cm W g h' where
  gr := F.gr.but hs F.nl F.gl
  ns := hn
  nl := F.nl
  gl := F.gl
  cells := fun n c e => by
    obtain ⟨⟨o, ho, hd⟩, h2, h3, h4⟩ := F.cells n c e
    exact ⟨⟨o, by rw [hs.2 _ h3]; exact ho, hd⟩, h2, h3, h4⟩
  apart := F.apart
  led := fun p hp => by
    obtain ⟨h1, h2, h3, h4, h5⟩ := F.led p hp
    exact ⟨by rw [hs.2 _ h3]; exact h1, h2, h3, h4, h5⟩
  nd := F.nd

theorem storeCell (F : Fm g₀ h₀ env m cm W g h) {x : Str} {v : Value} {c : Addr} (hc : env.cells.lookup x = some c) (hn : h'.IsCell c (some v)) (hs : Heap.SameBut c h h') : Fm g₀ h₀ env m (updS cm x v) W g h' := by
  obtain ⟨⟨oc, hoc, hdc⟩, c2, c3, c4⟩ := F.cells x c hc
  exact {
    gr := F.gr.but hs c4 c2
    ns := F.ns.sameBut hs (Ne.symm c3)
    nl := F.nl
    gl := F.gl
    cells := fun n c' e => by
      obtain ⟨⟨o, ho, hd⟩, h2, h3, h4⟩ := F.cells n c' e
      refine ⟨?_, h2, h3, h4⟩
      by_cases hx : n = x
      · subst hx
        rw [hc] at e; cases e
        unfold updS; rw [if_pos rfl]; exact hn
      · have hcc : c' ≠ c := fun q => hx (F.apart n x c (q ▸ e) hc)
        unfold updS; rw [if_neg hx]; exact ⟨o, by rw [hs.2 _ hcc]; exact ho, hd⟩
    apart := F.apart
    led := fun p hp => by
      obtain ⟨h1, h2, h3, h4, h5⟩ := F.led p hp
      exact ⟨by rw [hs.2 _ (Ne.symm (h4 x c hc))]; exact h1, h2, h3, h4, h5⟩
    nd := F.nd }

/-- a new object of its own -/
theorem add (F : Fm g₀ h₀ env m cm W g h) (G : Gr g h g' h') {a : Addr} {o : Obj} (hn : h.get? a = none) (hg : g' a = none) (ho : h'.get? a = some o) : Fm g₀ h₀ env m cm ((a, o) :: W) g' h' := by
  have F' := F.grow G
  have ne : ∀ b p, h.get? b = some p → b ≠ a := fun b p e q => by rw [q, hn] at e; cases e
  exact {
    gr := F'.gr, ns := F'.ns, nl := F'.nl, gl := F'.gl, cells := F'.cells, apart := F'.apart
    led := fun p hp => by
      rcases List.mem_cons.mp hp with rfl | hp
      · obtain ⟨oL, _, _, hL, _⟩ := F.ns
        refine ⟨ho, hg, Ne.symm (ne _ _ hL), fun n c e => ?_, ?_⟩
        · obtain ⟨⟨o, hc, hd⟩, _⟩ := F.cells n c e
          exact ne _ _ hc
        · show h₀.get? a = none
          cases q : h₀.get? a with
          | none => rfl
          | some o' => have := F.gr.heap _ _ q; rw [hn] at this; cases this
      · exact F'.led p hp
    nd := List.Pairwise.cons (fun p hp => Ne.symm (ne _ _ (F.led p hp).1)) F.nd }

/-- it will not change any more -/
theorem freeze {a : Addr} {o : Obj} (F : Fm g₀ h₀ env m cm ((a, o) :: W) g h) : Fm g₀ h₀ env m cm W (upd g a o) h := by
  obtain ⟨h1, h2, h3, h4, h5⟩ := F.led (a, o) (.head _)
  have none' : ∀ b, b ≠ a → g b = none → upd g a o b = none := fun b hb e => by unfold upd; rw [if_neg hb]; exact e
  exact {
    gr := F.gr.freeze h5 h1 h2, ns := F.ns, nl := F.nl, gl := none' _ (Ne.symm h3) F.gl
    cells := fun n c e => by
      obtain ⟨c1, c2, c3, c4⟩ := F.cells n c e
      exact ⟨c1, none' _ (h4 n c e) c2, c3, c4⟩
    apart := F.apart
    led := fun p hp => by
      obtain ⟨l1, l2, l3, l4, l5⟩ := F.led p (.tail _ hp)
      exact ⟨l1, none' _ (Ne.symm ((List.pairwise_cons.mp F.nd).1 p hp)) l2, l3, l4, l5⟩
    nd := (List.pairwise_cons.mp F.nd).2 }
theorem freeze_sub {a : Addr} {o : Obj} (F : Fm g₀ h₀ env m cm ((a, o) :: W) g h) : ∀ b o', g b = some o' → upd g a o b = some o' := upd_sub (F.led (a, o) (.head _)).2.1

/-- one of its own objects is changed -/
theorem changeE {W₁ W₂ : List (Addr × Obj)} {a : Addr} {o o' : Obj} (F : Fm g₀ h₀ env m cm (W₁ ++ (a, o) :: W₂) g h) (hs : ∀ b o, b ≠ a → h.get? b = some o → h'.get? b = some o) (ho : h'.get? a = some o') : Fm g₀ h₀ env m cm (W₁ ++ (a, o') :: W₂) g h' := by
  have hm : (a, o) ∈ W₁ ++ (a, o) :: W₂ := List.mem_append_right _ (.head _)
  obtain ⟨h1, h2, h3, h4, h5⟩ := F.led (a, o) hm
  have nd := List.pairwise_append.mp F.nd
  exact {
    gr := F.gr.butE hs h5 h2, ns := F.ns.at' (fun o e => hs _ o (Ne.symm h3) e), nl := F.nl, gl := F.gl
    cells := fun n c e => by
      obtain ⟨⟨oc, hoc, hd⟩, c2, c3, c4⟩ := F.cells n c e
      exact ⟨⟨oc, hs _ _ (h4 n c e) hoc, hd⟩, c2, c3, c4⟩
    apart := F.apart
    led := fun p hp => by
      have other : ∀ q ∈ W₁ ++ (a, o) :: W₂, q.1 ≠ a → h'.get? q.1 = some q.2 ∧ g q.1 = none ∧ q.1 ≠ env.locals ∧ (∀ n c, env.cells.lookup n = some c → c ≠ q.1) ∧ h₀.get? q.1 = none := fun q hq hne => by
        obtain ⟨l1, l2, l3, l4, l5⟩ := F.led q hq
        exact ⟨hs _ _ hne l1, l2, l3, l4, l5⟩
      rcases List.mem_append.mp hp with hp | hp
      · exact other p (List.mem_append_left _ hp) (nd.2.2 p hp (a, o) (.head _))
      · rcases List.mem_cons.mp hp with rfl | hp
        · exact ⟨ho, h2, h3, h4, h5⟩
        · exact other p (List.mem_append_right _ (.tail _ hp)) (Ne.symm ((List.pairwise_cons.mp nd.2.1).1 p hp))
    nd := List.pairwise_append.mpr ⟨nd.1, List.pairwise_cons.mpr ⟨(List.pairwise_cons.mp nd.2.1).1, (List.pairwise_cons.mp nd.2.1).2⟩, fun x hx y hy => by
      rcases List.mem_cons.mp hy with rfl | hy
      · exact nd.2.2 x hx (a, o) (.head _)
      · exact nd.2.2 x hx y (.tail _ hy)⟩ }
theorem change {W₁ W₂ : List (Addr × Obj)} {a : Addr} {o o' : Obj} (F : Fm g₀ h₀ env m cm (W₁ ++ (a, o) :: W₂) g h) (hs : Heap.SameBut a h h') (ho : h'.get? a = some o') : Fm g₀ h₀ env m cm (W₁ ++ (a, o') :: W₂) g h' := F.changeE hs.extBut ho
theorem addNow (F : Fm g₀ h₀ env m cm W g h) {a : Addr} {o : Obj} (ho : h.get? a = some o) (hg : g a = none) (hl : a ≠ env.locals) (hc : ∀ n c, env.cells.lookup n = some c → c ≠ a) (hw : ∀ p ∈ W, p.1 ≠ a) (h0 : h₀.get? a = none) :
    Fm g₀ h₀ env m cm ((a, o) :: W) g h where
  gr := F.gr
  ns := F.ns
  nl := F.nl
  gl := F.gl
  cells := F.cells
  apart := F.apart
  led := fun p hp => by
    rcases List.mem_cons.mp hp with rfl | hp
    · exact ⟨ho, hg, hl, hc, h0⟩
    · exact F.led p hp
  nd := List.Pairwise.cons (fun p hp => Ne.symm (hw p hp)) F.nd
theorem drop {p : Addr × Obj} (F : Fm g₀ h₀ env m cm (p :: W) g h) : Fm g₀ h₀ env m cm W g h where
  gr := F.gr
  ns := F.ns
  nl := F.nl
  gl := F.gl
  cells := F.cells
  apart := F.apart
  led := fun q hq => F.led q (.tail _ hq)
  nd := (List.pairwise_cons.mp F.nd).2
/-- an object that nothing here knows of is changed -/
theorem otherE (F : Fm g₀ h₀ env m cm W g h) {a : Addr} (hs : ∀ b o, b ≠ a → h.get? b = some o → h'.get? b = some o) (hg : g a = none) (hl : a ≠ env.locals) (hc : ∀ n c, env.cells.lookup n = some c → c ≠ a) (hw : ∀ p ∈ W, p.1 ≠ a) (h0 : h₀.get? a = none) :
    Fm g₀ h₀ env m cm W g h' where
  gr := F.gr.butE hs h0 hg
  ns := F.ns.at' fun o e => hs _ o (Ne.symm hl) e
  nl := F.nl
  gl := F.gl
  cells := fun n c e => by
    obtain ⟨⟨oc, hoc, hd⟩, c2, c3, c4⟩ := F.cells n c e
    exact ⟨⟨oc, hs _ _ (hc n c e) hoc, hd⟩, c2, c3, c4⟩
  apart := F.apart
  led := fun p hp => by
    obtain ⟨l1, l2, l3, l4, l5⟩ := F.led p hp
    exact ⟨hs _ _ (hw p hp) l1, l2, l3, l4, l5⟩
  nd := F.nd
theorem other (F : Fm g₀ h₀ env m cm W g h) {a : Addr} (hs : Heap.SameBut a h h') (hg : g a = none) (hl : a ≠ env.locals) (hc : ∀ n c, env.cells.lookup n = some c → c ≠ a) (hw : ∀ p ∈ W, p.1 ≠ a) (h0 : h₀.get? a = none) :
    Fm g₀ h₀ env m cm W g h' := F.otherE hs.extBut hg hl hc hw h0
theorem at_ {a : Addr} {o : Obj} (F : Fm g₀ h₀ env m cm W g h) (hm : (a, o) ∈ W) : h.get? a = some o := (F.led _ hm).1
end Fm

section
variable {prog : Program} {w : World} {A : Around} {g₀ g : Map} {h₀ : Heap} {env : Env} {m cm : Str → Option Value} {W : List (Addr × Obj)} {s : Shared} {E : Value → Shared → Prop} {Q : Flow → Shared → Prop} {rest : List Stmt}

/-- names of the frame -/
theorem Fm.loc {h : Heap} (F : Fm g₀ h₀ env m cm W g h) {x : Str} {pos : Pos} {v : Value} {P : Map → Heap → Value → Prop} (hv : m x = some v) (hP : P g h v) (hm : Mono P)
    (hk : env.scope.kind = .function := by rfl) (hl : env.kindOf x = some .local := by rfl) (hd : (x == ("__debug__" : Str)) = false := by decide) : Ev prog w A g h (eval (.Name x pos) env) P :=
  ev_local F.ns hv hP hm hk hl hd
theorem Fm.cel {h : Heap} (F : Fm g₀ h₀ env m cm W g h) {x : Str} {pos : Pos} {c : Addr} {v : Value} {P : Map → Heap → Value → Prop} (hc : env.cells.lookup x = some c) (hv : cm x = some v) (hP : P g h v) (hm : Mono P)
    (hk : env.scope.kind = .function := by rfl) (hl : env.kindOf x = some .cell := by rfl) (hd : (x == ("__debug__" : Str)) = false := by decide) : Ev prog w A g h (eval (.Name x pos) env) P :=
  ev_cell hc (hv ▸ (F.cells x c hc).1) hP hm hk hl hd

/-- storing -/
theorem Fm.st {x : Str} {v : Value} {Q : Unit → Shared → Prop} (F : Fm g₀ h₀ env m cm W g s.heap) (k : ∀ h' tk, Fm g₀ h₀ env (updS m x v) cm W g h' → Q () { s with heap := h', toks := tk })
    (hk : env.scope.kind = .function := by rfl) (hl : env.kindOf x = some .local := by rfl) : wpAny (model prog w) A (storeName env x v) Q E s :=
  wpAny_storeName_local hl F.ns (fun h' hn hs => k h' _ (F.store hn hs)) (by rw [hk]; rfl)
theorem Fm.stc {x : Str} {v : Value} {c : Addr} {Q : Unit → Shared → Prop} (F : Fm g₀ h₀ env m cm W g s.heap) (hc : env.cells.lookup x = some c) (k : ∀ h' tk, Fm g₀ h₀ env m (updS cm x v) W g h' → Q () { s with heap := h', toks := tk })
    (hk : env.scope.kind = .function := by rfl) (hl : env.kindOf x = some .cell := by rfl) : wpAny (model prog w) A (storeName env x v) Q E s :=
  wpAny_storeName_cell hk hl hc (F.cells x c hc).1 fun h' hn hs => k h' s.toks (F.storeCell hc hn hs)

theorem ex_assign {x : Str} {px pos : Pos} {e : Expr} {P : Map → Heap → Value → Prop} (F : Fm g₀ h₀ env m cm W g s.heap) (he : Ev prog w A g s.heap (eval e env) P)
    (k : ∀ v g' h' h'' tk, (∀ b o, g b = some o → g' b = some o) → P g' h' v → Fm g₀ h₀ env (updS m x v) cm W g' h'' → wpAny (model prog w) A (execs rest env) Q E { s with heap := h'', toks := tk })
    (hk : env.scope.kind = .function := by rfl) (hl : env.kindOf x = some .local := by rfl) (hs : swapsWith e (some (.Name x px)) pos.line env = pure false := by rfl) :
    wpAny (model prog w) A (execs (.Assign [.Name x px] e pos :: rest) env) Q E s :=
  wpAny_execs_cons (wpAny_Assign_Name (he s g _ _ (Gr.refl F.now) fun v g' h' tk G p => (F.grow G).st (s := { s with heap := h', toks := tk }) (fun h'' tk' F' => k v g' h' h'' tk' G.sub p F') hk hl) hs)
theorem ex_assignC {x : Str} {px pos : Pos} {e : Expr} {c : Addr} {P : Map → Heap → Value → Prop} (F : Fm g₀ h₀ env m cm W g s.heap) (hc : env.cells.lookup x = some c) (he : Ev prog w A g s.heap (eval e env) P)
    (k : ∀ v g' h' h'' tk, (∀ b o, g b = some o → g' b = some o) → P g' h' v → Fm g₀ h₀ env m (updS cm x v) W g' h'' → wpAny (model prog w) A (execs rest env) Q E { s with heap := h'', toks := tk })
    (hk : env.scope.kind = .function := by rfl) (hl : env.kindOf x = some .cell := by rfl) (hs : swapsWith e (some (.Name x px)) pos.line env = pure false := by rfl) :
    wpAny (model prog w) A (execs (.Assign [.Name x px] e pos :: rest) env) Q E s :=
  wpAny_execs_cons (wpAny_Assign_Name (he s g _ _ (Gr.refl F.now) fun v g' h' tk G p => (F.grow G).stc (s := { s with heap := h', toks := tk }) hc (fun h'' tk' F' => k v g' h' h'' tk' G.sub p F') hk hl) hs)
theorem ex_assignN {x : Str} {px pos : Pos} {e : Expr} {R : Map → Heap → List Value → Prop} (F : Fm g₀ h₀ env m cm W g s.heap) (he : EvN prog w A g s.heap (eval e env) R)
    (k : ∀ a vs n g' h' h'' tk, (∀ b o, g b = some o → g' b = some o) → R g' h' vs → Fm g₀ h₀ env (updS m x (.ref a)) cm ((a, seqObj "list" vs.toArray n) :: W) g' h'' → wpAny (model prog w) A (execs rest env) Q E { s with heap := h'', toks := tk })
    (hk : env.scope.kind = .function := by rfl) (hl : env.kindOf x = some .local := by rfl) (hs : swapsWith e (some (.Name x px)) pos.line env = pure false := by rfl) :
    wpAny (model prog w) A (execs (.Assign [.Name x px] e pos :: rest) env) Q E s :=
  wpAny_execs_cons (wpAny_Assign_Name (he s g _ _ (Gr.refl F.now) fun a vs n g' h' tk G h1 h2 h3 p => (F.add G h1 h2 h3).st (s := { s with heap := h', toks := tk }) (fun h'' tk' F' => k a vs n g' h' h'' tk' G.sub p F') hk hl) hs)

/-- a comprehension stored under a name of the frame, on one line -/
theorem ex_comp {α β : Type} {elt iter : Expr} {x y : Str} {px py pos spos : Pos} {ifs : List Expr} {scope : Scope} {cl : List (Str × Addr)} {items : List α} {R : Map → α → Value → Prop} {test : α → Bool} {out : α → β} {S : Map → β → Value → Prop}
    (F : Fm g₀ h₀ env m cm W g s.heap)
    (hclos : closureFor scope env = pure cl) (hcell : ∀ y ∈ scope.names, y.2 ≠ .cell) (hkind : scope.kind = .function)
    (hnames : ∀ y ∈ scope.names, y.2 = .local → scope.names.lookup y.1 = some .local) (hx : scope.names.lookup x = some .local)
    (mR : MonoM R) (mS : MonoM S) (hiter : Ev prog w A g s.heap (eval iter env) (Walk prog w A R items)) (hz : items.length ≤ 1000)
    (hbody : ∀ a ∈ items, ∀ C m g' h' v, Gr g s.heap g' h' → h'.Ns C m → m x = some v → R g' a v →
      Ev prog w A g' h' (testsT ifs (compEnvC scope cl C env)) (isB (test a)) ∧ (test a = true → Ev prog w A g' h' (eval elt (compEnvC scope cl C env)) (fun g _ v => S g (out a) v)))
    (k : ∀ a vs n g' h'' tk, (∀ b o, g b = some o → g' b = some o) → F2 (fun v b => S g' b v) vs ((items.filter test).map out) → Fm g₀ h₀ env (updS m y (.ref a)) cm ((a, seqObj "list" vs.toArray n) :: W) g' h'' →
      wpAny (model prog w) A (execs rest env) Q E { s with heap := h'', toks := tk })
    (hsw : swapsWith (.ListComp elt [⟨.Name x px, iter, ifs, 0⟩] scope pos) (some (.Name y py)) spos.line env = pure true)
    (hk : env.scope.kind = .function := by rfl) (hl : env.kindOf y = some .local := by rfl)
    (hs : ∀ x, foldedSetIterable iter env x = pure x := by intro _; rfl) :
    wpAny (model prog w) A (execs (.Assign [.Name y py] (.ListComp elt [⟨.Name x px, iter, ifs, 0⟩] scope pos) spos :: rest) env) Q E s := by
  refine wpAny_execs_cons ?_
  rw [exec_Assign_Name_used _ _ _ _ hsw]
  refine wpAny_bind (wpAny_standAt (wpAny_bind ?_))
  show wpAny _ A (do let _ ← comprehension (.ListComp elt [⟨.Name x px, iter, ifs, 0⟩] scope pos) scope env _ (newList []) false (eval iter env) (some (assign (.Name y py) env))) _ _ s
  refine wpAny_bind (comp_core hclos hcell hkind hnames hx mR mS hiter hz hbody (Gr.refl F.now) (fun D C ys n g' h' tk mC G' hD gD hC gC hDC hlD hnC hF => ?_) hs)
  show wpAny _ A (assign (.Name y py) env (.ref D)) _ _ _
  have hLC : env.locals ≠ C := by rintro rfl; obtain ⟨o, _, _, ho, _⟩ := F.ns; rw [hC] at ho; cases ho
  have F₁ := F.add G' hD gD hlD
  have neC : ∀ b p, s.heap.get? b = some p → b ≠ C := fun b p e q => by rw [q, hC] at e; cases e
  refine wpAny_assign_Name (wpAny_storeName_local hl F₁.ns (fun h₂ hn₂ hs₂ => ?_) (by rw [hk]; rfl))
  have F₂ := F₁.store hn₂ hs₂
  refine ⟨mC, hnC.sameBut hs₂ (Ne.symm hLC), fun h₃ hs₃ => wpAny_pure (wpAny_pure (k D ys n g' h₃ _ G'.sub hF (F₂.other hs₃ gC (Ne.symm hLC) (fun n c e => ?_) (fun p hp => ?_) ?_)))⟩
  · obtain ⟨⟨o, ho, _⟩, _⟩ := F.cells n c e
    exact neC _ _ ho
  · rcases List.mem_cons.mp hp with rfl | hp
    · exact hDC
    · exact neC _ _ (F.led p hp).1
  · cases q : h₀.get? C with
    | none => rfl
    | some o => have := F.gr.heap _ _ q; rw [hC] at this; cases this
end
end Mine
end

section
open PySem PySem.W PyProof.Rows
set_option autoImplicit false
set_option linter.unusedVariables false
namespace Mine

section
variable {prog : Program} {w : World} {A : Around} {g₀ g : Map} {h₀ : Heap} {env : Env} {m cm : Str → Option Value} {W : List (Addr × Obj)} {s : Shared} {E : Value → Shared → Prop} {Q : Flow → Shared → Prop} {rest : List Stmt}

/-- what follows behind a statement of a block -/
def thenK (prog : Program) (w : World) (A : Around) (env : Env) (rest : List Stmt) (Q : Flow → Shared → Prop) (E : Value → Shared → Prop) : Flow → Shared → Prop
  | .next, s' => wpAny (model prog w) A (execs rest env) Q E s'
  | .brk, s' => Q .brk s'
  | .cont, s' => Q .cont s'
  | .ret v, s' => Q (.ret v) s'
theorem ex_cons {st : Stmt} (h : wpAny (model prog w) A (exec st env) (thenK prog w A env rest Q E) E s) : wpAny (model prog w) A (execs (st :: rest) env) Q E s :=
  wpAny_execs_cons (wpAny_mono h (fun f s' hf => by cases f <;> exact hf) fun _ _ x => x)

theorem ex_if {test : Expr} {body orelse : List Stmt} {pos : Pos} {c : Bool} (F : Fm g₀ h₀ env m cm W g s.heap) (ht : Ev prog w A g s.heap (isTrue test env (eval test env)) (isB c))
    (k : ∀ g' h' tk, (∀ b o, g b = some o → g' b = some o) → Fm g₀ h₀ env m cm W g' h' → wpAny (model prog w) A (execs (if c = true then body else orelse) env) (thenK prog w A env rest Q E) E { s with heap := h', toks := tk }) :
    wpAny (model prog w) A (execs (.If test body orelse pos :: rest) env) Q E s :=
  ex_cons (wpAny_If (ht s g _ _ (Gr.refl F.now) fun b g' h' tk G p => by
    cases p
    have := k g' h' tk G.sub (F.grow G)
    cases c with
    | true => exact this
    | false => exact this))
theorem ex_return {e : Expr} {pos : Pos} {P : Map → Heap → Value → Prop} (F : Fm g₀ h₀ env m cm W g s.heap) (he : Ev prog w A g s.heap (eval e env) P)
    (k : ∀ v g' h' tk, (∀ b o, g b = some o → g' b = some o) → P g' h' v → Fm g₀ h₀ env m cm W g' h' → Q (.ret v) { s with heap := h', toks := tk }) :
    wpAny (model prog w) A (execs (.Return (some e) pos :: rest) env) Q E s :=
  wpAny_execs_cons (wpAny_Return_some (he s g _ _ (Gr.refl F.now) fun v g' h' tk G p => k v g' h' tk G.sub p (F.grow G)))

theorem ex_expr {e : Expr} {pos : Pos} {P : Map → Heap → Value → Prop} (F : Fm g₀ h₀ env m cm W g s.heap) (he : Ev prog w A g s.heap (eval e env) P)
    (k : ∀ g' h' tk, (∀ b o, g b = some o → g' b = some o) → Fm g₀ h₀ env m cm W g' h' → wpAny (model prog w) A (execs rest env) Q E { s with heap := h', toks := tk })
    (hi : interactive env = false := by rfl) (hs : swapsWith e none pos.line env = pure false := by rfl) : wpAny (model prog w) A (execs (.Expr e pos :: rest) env) Q E s :=
  ex_cons (wpAny_Expr_any (he s g _ _ (Gr.refl F.now) fun v g' h' tk G p => k g' h' tk G.sub (F.grow G)) hi hs)
theorem ev_str {g : Map} {h : Heap} {x : Str} {k : Nat} {pos : Pos} : Ev prog w A g h (eval (.Constant (.str x) k pos) env) (fun _ _ _ => True) :=
  Ev.of fun s g₁ Q E G q => wpAny_mkText (q _ _ trivial)

/-- a loop over items that are known for good -/
theorem ex_for {α : Type} {target iter : Expr} {body : List Stmt} {pos : Pos} {items : List α} {R : Map → α → Value → Prop} (mR : MonoM R) (F : Fm g₀ h₀ env m cm W g s.heap)
    (hiter : Ev prog w A g s.heap (eval iter env) (Walk prog w A R items)) (stM stC : (Str → Option Value) → Value → (Str → Option Value))
    (hst : ∀ (m₁ cm₁ : Str → Option Value) (W₁ : List (Addr × Obj)) (g₁ : Map) (s₁ : Shared) (v : Value) (Q' : Unit → Shared → Prop) (E' : Value → Shared → Prop), Fm g₀ h₀ env m₁ cm₁ W₁ g₁ s₁.heap →
      (∀ h' tk, Fm g₀ h₀ env (stM m₁ v) (stC cm₁ v) W₁ g₁ h' → Q' () { s₁ with heap := h', toks := tk }) → wpAny (model prog w) A (assign target env v) Q' E' s₁)
    (J : Nat → (Str → Option Value) → (Str → Option Value) → List (Addr × Obj) → Map → Prop)
    (j0 : ∀ g', (∀ b o, g b = some o → g' b = some o) → J 0 m cm W g')
    (turn : ∀ i a v m₁ cm₁ W₁ g₁ h₁ tk I oI E', items[i]? = some a → R g₁ a v → (∀ b o, g b = some o → g₁ b = some o) → J i m₁ cm₁ W₁ g₁ → Fm g₀ h₀ env (stM m₁ v) (stC cm₁ v) ((I, oI) :: W₁) g₁ h₁ →
      wpAny (model prog w) A (execs body env) (fun f s₂ => match f with
        | .next | .cont => ∃ m₂ cm₂ W₂ g₂ h₂ tk₂, s₂ = { s with heap := h₂, toks := tk₂ } ∧ (∀ b o, g₁ b = some o → g₂ b = some o) ∧ Fm g₀ h₀ env m₂ cm₂ ((I, oI) :: W₂) g₂ h₂ ∧ J (i + 1) m₂ cm₂ W₂ g₂
        | .brk => wpAny (model prog w) A (execs rest env) Q E s₂
        | .ret v => Q (.ret v) s₂) E' { s with heap := h₁, toks := tk })
    (done : ∀ m₁ cm₁ W₁ g₁ h₁ tk, (∀ b o, g b = some o → g₁ b = some o) → J items.length m₁ cm₁ W₁ g₁ → Fm g₀ h₀ env m₁ cm₁ W₁ g₁ h₁ → wpAny (model prog w) A (execs rest env) Q E { s with heap := h₁, toks := tk })
    (hs : ∀ x, foldedSetIterable iter env x = pure x := by intro _; rfl) (ht : ∀ it v, letOwnedTupleGo target it v = pure () := by intro _ _; rfl) :
    wpAny (model prog w) A (execs (.For target iter body [] pos :: rest) env) Q E s := by
  refine wpAny_execs_cons (wpAny_For (hiter s g _ _ (Gr.refl F.now) fun v g₁ h₁ tk₁ G₁ hw => hw _ g₁ _ _ (Gr.refl G₁.now) fun I fp P St h₂ Wk st hk₂ hfp hI hP hSt hgf => ?_) hs)
  dsimp only at hk₂ hI ⊢
  obtain ⟨oI₀, hoI₀⟩ := hSt _ _ st
  have F₂ : Fm g₀ h₀ env m cm ((I, oI₀) :: W) g₁ h₂ := (F.grow G₁).add (Gr.of_heap G₁.now hk₂) hI (g_new G₁.now hI) hoI₀
  refine codeAny_forLoop
    (fun j s' => ∃ i m' cm' W' g' h' tk' oI, s' = { s with heap := h', toks := tk' } ∧ j = items.length + 1 - i ∧ i ≤ items.length ∧ St i h' ∧ (∀ b o, g₁ b = some o → g' b = some o) ∧ Fm g₀ h₀ env m' cm' ((I, oI) :: W') g' h' ∧ J i m' cm' W' g') ?_ (items.length + 1)
    ⟨0, m, cm, W, g₁, h₂, tk₁, oI₀, rfl, rfl, Nat.zero_le _, st, fun _ _ e => e, F₂, j0 g₁ G₁.sub⟩ (ht _)
  rintro j s' ⟨i, m', cm', W', g', h', tk', oI, rfl, rfl, hi, st', hsub, F', hJ⟩
  by_cases hlt : i < items.length
  · refine Wk.item i _ _ _ hlt st' fun v h₅ tk₅ hPv st₅ hk₅ => ?_
    dsimp only at hk₅ ⊢
    obtain ⟨a, ha, hRa⟩ := hP i v hlt hPv
    obtain ⟨oI₅, hoI₅⟩ := hSt _ _ st₅
    have F₅ : Fm g₀ h₀ env m' cm' ((I, oI₅) :: W') g' h₅ := Fm.changeE (W₁ := []) F' (fun b o hb e => hk₅ b o (by simpa using hb) e) hoI₅
    refine hst m' cm' _ g' { s with heap := h₅, toks := tk₅ } v _ _ F₅ fun h₆ tk₆ F₆ => ?_
    have st₆ : St (i + 1) h₆ := Wk.frame _ _ _ st₅ fun b hb o e => by
      by_cases hbI : b = I
      · subst hbI
        rw [hoI₅] at e; cases e
        exact F₆.at_ (.head _)
      · obtain ⟨o', ho'⟩ := hgf b hb hbI
        have h1 := F₅.now _ _ (hsub _ _ ho')
        rw [e] at h1; cases h1
        exact F₆.now _ _ (hsub _ _ ho')
    refine wpAny_mono (turn i a v m' cm' W' g' h₆ tk₆ I oI₅ _ ha (mR _ _ _ _ hsub hRa) (fun b o e => hsub _ _ (G₁.sub _ _ e)) hJ F₆) (fun f s₂ hf => ?_) fun _ _ x => x
    have fin : (∃ m₂ cm₂ W₂ g₂ h₂ tk₂, s₂ = { s with heap := h₂, toks := tk₂ } ∧ (∀ b o, g' b = some o → g₂ b = some o) ∧ Fm g₀ h₀ env m₂ cm₂ ((I, oI₅) :: W₂) g₂ h₂ ∧ J (i + 1) m₂ cm₂ W₂ g₂) →
        ∃ j, j < items.length + 1 - i ∧ ∃ i m' cm' W' g' h' tk' oI, s₂ = { s with heap := h', toks := tk' } ∧ j = items.length + 1 - i ∧ i ≤ items.length ∧ St i h' ∧ (∀ b o, g₁ b = some o → g' b = some o) ∧ Fm g₀ h₀ env m' cm' ((I, oI) :: W') g' h' ∧ J i m' cm' W' g' := by
      rintro ⟨m₂, cm₂, W₂, g₂, h₂, tk₂, rfl, hsub₂, Fm₂, hJ₂⟩
      refine ⟨items.length + 1 - (i + 1), by omega, i + 1, m₂, cm₂, W₂, g₂, h₂, tk₂, oI₅, rfl, rfl, hlt, ?_, fun b o e => hsub₂ _ _ (hsub _ _ e), Fm₂, hJ₂⟩
      exact Wk.frame _ _ _ st₆ fun b hb o e => by
        by_cases hbI : b = I
        · subst hbI
          rw [F₆.at_ (.head _)] at e; cases e
          exact Fm₂.at_ (.head _)
        · obtain ⟨o', ho'⟩ := hgf b hb hbI
          have h1 := F₆.now _ _ (hsub _ _ ho')
          rw [e] at h1; cases h1
          exact Fm₂.now _ _ (hsub₂ _ _ (hsub _ _ ho'))
    cases f with
    | next => exact fin hf
    | cont => exact fin hf
    | brk => exact hf
    | ret v => exact hf
  · have hin : i = items.length := by omega
    subst hin
    refine Wk.done _ _ _ st' fun h₅ tk₅ hk₅ => ?_
    dsimp only at hk₅ ⊢
    refine wpAny_execs_nil ?_
    have F₅ : Fm g₀ h₀ env m' cm' W' g' h₅ := F'.drop.otherE (fun b o hb e => hk₅ b o (by simpa using hb) e) (F'.led _ (.head _)).2.1 (F'.led _ (.head _)).2.2.1 (F'.led _ (.head _)).2.2.2.1 (fun p hp => Ne.symm ((List.pairwise_cons.mp F'.nd).1 p hp)) (F'.led _ (.head _)).2.2.2.2
    exact done m' cm' W' g' h₅ tk₅ (fun b o e => hsub _ _ (G₁.sub _ _ e)) hJ F₅

/-- the target is a name of the frame -/
theorem st_name {x : Str} {px : Pos} (hk : env.scope.kind = .function := by rfl) (hl : env.kindOf x = some .local := by rfl) :
    ∀ (m₁ cm₁ : Str → Option Value) (W₁ : List (Addr × Obj)) (g₁ : Map) (s₁ : Shared) (v : Value) (Q' : Unit → Shared → Prop) (E' : Value → Shared → Prop), Fm g₀ h₀ env m₁ cm₁ W₁ g₁ s₁.heap →
      (∀ h' tk, Fm g₀ h₀ env (updS m₁ x v) cm₁ W₁ g₁ h' → Q' () { s₁ with heap := h', toks := tk }) → wpAny (model prog w) A (assign (.Name x px) env v) Q' E' s₁ :=
  fun m₁ cm₁ W₁ g₁ s₁ v Q' E' F k => wpAny_assign_Name (F.st k hk hl)
theorem st_cell {x : Str} {px : Pos} {c : Addr} (hc : env.cells.lookup x = some c) (hk : env.scope.kind = .function := by rfl) (hl : env.kindOf x = some .cell := by rfl) :
    ∀ (m₁ cm₁ : Str → Option Value) (W₁ : List (Addr × Obj)) (g₁ : Map) (s₁ : Shared) (v : Value) (Q' : Unit → Shared → Prop) (E' : Value → Shared → Prop), Fm g₀ h₀ env m₁ cm₁ W₁ g₁ s₁.heap →
      (∀ h' tk, Fm g₀ h₀ env m₁ (updS cm₁ x v) W₁ g₁ h' → Q' () { s₁ with heap := h', toks := tk }) → wpAny (model prog w) A (assign (.Name x px) env v) Q' E' s₁ :=
  fun m₁ cm₁ W₁ g₁ s₁ v Q' E' F k => wpAny_assign_Name (F.stc hc k hk hl)
end

section
variable {prog : Program} {w : World} {A : Around} {g : Map} {h : Heap}

/-- a def without captured names -/
theorem ev_def {f : Addr} {o : Obj} {fd : FuncData} {body : List Stmt} {vals : List Value} {binds : List (Str × Value)} {P : Map → Heap → Value → Prop} (hf : h.get? f = some o) (hd : o.data = .func fd) (hbody : fd.body = .stmts body)
    (hlim : h.NoLimit) (hcd : h.CodeRec fd.code fd.qualname) (hroom : A.depth < recursionLimit) (hbind : bindArgs fd ⟨vals, []⟩ = pure binds) (hcl : fd.closure = [])
    (hcell : ∀ x ∈ fd.scope.names, x.2 ≠ .cell) (hloc : ∀ x ∈ binds, fd.scope.names.lookup x.1 = some .local)
    (hb : ∀ (s : Shared) (g₁ : Map) (L : Addr) (h₁ : Heap) (tk : Nat) (Q' : Flow → Shared → Prop) (E' : Value → Shared → Prop), Gr g h g₁ s.heap → Fm g₁ s.heap (callEnv fd L f) (fun x => binds.reverse.lookup x) (fun _ => none) [] g₁ h₁ →
      (∀ v g' h' tk', Gr g₁ s.heap g' h' → P g' h' v → Q' (.ret v) { s with heap := h', toks := tk' }) → wpAny (model prog w) (A.deeper (callEnv fd L f)) (execs body (callEnv fd L f)) Q' E' { s with heap := h₁, toks := tk })
    (hco : fd.scope.isCoroutine = false := by rfl) (hgen : fd.scope.isGenerator = false := by rfl) (hk : fd.scope.kind = .function := by rfl) : Ev prog w A g h (call (.ref f) vals) P :=
  fun s g₁ Q E G k => wpAny_call (codeAny_call_def hroom (G.heap _ _ hf) hd (hlim.keeps G.heap) (hcd.keeps G.heap) hbody (BindsTo.of_eq hbind) hcell hloc (fun h₁ hns hkp => by
    have hLs : s.heap.get? s.heap.objs.size = none := get_new _
    refine hb s g₁ s.heap.objs.size h₁ _ _ _ G ?_ fun v g' h' tk' G' p => k v g' h' tk' G' p
    exact {
      gr := Gr.of_heap G.now hkp, ns := hns, nl := hLs, gl := g_new G.now hLs
      cells := fun n c e => by
        have e' : (fd.closure).lookup n = some c := e
        rw [hcl] at e'; cases e'
      apart := fun n n' c e => by
        have e' : (fd.closure).lookup n = some c := e
        rw [hcl] at e'; cases e'
      led := fun p hp => by cases hp
      nd := .nil }) hco hgen hk)

/-- a def with captured names -/
theorem ev_defC {f : Addr} {o : Obj} {fd : FuncData} {body : List Stmt} {vals : List Value} {binds : List (Str × Value)} {P : Map → Heap → Value → Prop} (hf : h.get? f = some o) (hd : o.data = .func fd) (hbody : fd.body = .stmts body)
    (hlim : h.NoLimit) (hcd : h.CodeRec fd.code fd.qualname) (hroom : A.depth < recursionLimit) (hbind : bindArgs fd ⟨vals, []⟩ = pure binds) (hcl : fd.closure = [])
    (hkind : ∀ n, ∀ x ∈ binds, fd.scope.names.lookup x.1 = some .local ∨ (fd.scope.names.lookup x.1 = some .cell ∧ ((cellsFrom n fd.scope.names []).lookup x.1).isSome = true))
    (hb : ∀ (s : Shared) (g₁ : Map) (L : Addr) (h₁ : Heap) (tk : Nat) (Q' : Flow → Shared → Prop) (E' : Value → Shared → Prop), Gr g h g₁ s.heap → 
      Fm g₁ s.heap (callEnvC fd L f) (bindL (callEnvC fd L f).kindOf binds fun _ => none) (bindC (callEnvC fd L f).kindOf binds fun _ => none) [] g₁ h₁ →
      (∀ v g' h' tk', Gr g₁ s.heap g' h' → P g' h' v → Q' (.ret v) { s with heap := h', toks := tk' }) → wpAny (model prog w) (A.deeper (callEnvC fd L f)) (execs body (callEnvC fd L f)) Q' E' { s with heap := h₁, toks := tk })
    (hco : fd.scope.isCoroutine = false := by rfl) (hgen : fd.scope.isGenerator = false := by rfl) (hk : fd.scope.kind = .function := by rfl) : Ev prog w A g h (call (.ref f) vals) P :=
  fun s g₁ Q E G k => wpAny_call (codeAny_call_cells hroom (G.heap _ _ hf) hd (hlim.keeps G.heap) (hcd.keeps G.heap) hbody hbind hcl (hkind _) (fun s₁ X => by
    obtain ⟨h₁, tk, rfl, hkp⟩ := X.toInCall.done
    have hLs : s.heap.get? s.heap.objs.size = none := get_new _
    refine hb s g₁ s.heap.objs.size h₁ tk _ _ G ?_ fun v g' h' tk' G' p => k v g' h' tk' G' p
    have above : ∀ n c, (callEnvC fd s.heap.objs.size f).cells.lookup n = some c → s.heap.objs.size < c := fun n c e => X.above n c (mem_of_lookup e)
    exact {
      gr := Gr.of_heap G.now hkp, ns := X.toInCall.ns, nl := hLs, gl := g_new G.now hLs
      cells := fun n c e => by
        have hc : s.heap.get? c = none := Heap.get?_none_of_le (Nat.le_of_lt (above n c e))
        exact ⟨X.cell n c e, g_new G.now hc, Nat.ne_of_gt (above n c e), hc⟩
      apart := fun n n' c e e' => name_of_addr X.apart (mem_of_lookup e) (mem_of_lookup e')
      led := fun p hp => by cases hp
      nd := .nil }) hco hgen hk)
end
end Mine
end

section
open PySem PySem.W PyProof.Rows
set_option autoImplicit false
set_option linter.unusedVariables false
namespace Mine

/-- the parts of a def -/
def fnName : Stmt → Str
  | .FunctionDef n _ _ _ _ _ _ _ _ _ => n
  | _ => Str.empty
def fnArgs : Stmt → Arguments
  | .FunctionDef _ a _ _ _ _ _ _ _ _ => a
  | _ => ⟨[], [], none, [], [], none, []⟩
def fnBody : Stmt → List Stmt
  | .FunctionDef _ _ b _ _ _ _ _ _ _ => b
  | _ => []
def fnScope : Stmt → Scope
  | .FunctionDef _ _ _ _ _ _ s _ _ _ => s
  | _ => default
def top (i : Nat) : Stmt := PySem.Challenge.pw_op0023_01.main.body.getD i (.Pass default)
/-- the function that a def of the text leaves; the other parts are of no weight -/
def fdOf (st : Stmt) (qual : Str) (doc pm : Value) (an : Option Addr) (cd ct : Value) : FuncData :=
  { name := fnName st, qualname := qual, params := fnArgs st, body := .stmts (fnBody st), scope := fnScope st, globals := mainGlobals, closure := [], defaults := .none, kwdefaults := .none, doc := doc, pyModule := pm, annotations := an, code := cd, closureTuple := ct, builtins := builtinsNs }

/-- a def of the text stands at this place -/
def FnIs (hb : Heap) (f : Addr) (st : Stmt) (qual : Str) : Prop := ∃ o doc pm an cd ct, hb.get? f = some o ∧ o.data = .func (fdOf st qual doc pm an cd ct) ∧ hb.CodeRec cd qual

/-- the top, as the text leaves it -/
structure Tp (hb : Heap) (mg mb : Str → Option Value) : Prop where
  g : hb.Ns mainGlobals mg
  b : hb.Ns builtinsNs mb
  nolimit : hb.NoLimit
  len : mg "len" = none ∧ mb "len" = some (.builtin "len")
  range : mg "range" = none ∧ mb "range" = some (.type "range")
  sorted : mg "sorted" = none ∧ mb "sorted" = some (.builtin "sorted")
  sum : mg "sum" = none ∧ mb "sum" = some (.builtin "sum")
  min : mg "min" = none ∧ mb "min" = some (.builtin "min")
  list : mg "list" = none ∧ mb "list" = some (.type "list")
  enum : mg "enumerate" = none ∧ mb "enumerate" = some (.type "enumerate")
  obj : mg "object" = none ∧ mb "object" = some (.type "object")
  tuple : mg "tuple" = none ∧ mb "tuple" = some (.type "tuple")
  index : mg "IndexError" = none ∧ mb "IndexError" = some (.type "IndexError")
  value : mg "ValueError" = none ∧ mb "ValueError" = some (.type "ValueError")
  gSorted : mg "sorted_list_difference" = some (.ref 71)
  gUnord : mg "unorderable_list_difference" = some (.ref 78)
  gCmp : mg "three_way_cmp" = some (.ref 85)
  gMis : mg "_Mismatch" = some (.ref 156)
  gCount : mg "_count_diff_all_purpose" = some (.ref 166)
  gTies : mg "_law_ties" = some (.ref 171)
  gCould : mg "_law_could" = some (.ref 176)
  fSorted : FnIs hb 71 (top 3) "sorted_list_difference"
  fUnord : FnIs hb 78 (top 4) "unorderable_list_difference"
  fCmp : FnIs hb 85 (top 5) "three_way_cmp"
  fCount : FnIs hb 166 (top 8) "_count_diff_all_purpose"
  fTies : FnIs hb 171 (top 10) "_law_ties"
  fCould : FnIs hb 176 (top 11) "_law_could"

section
variable {prog : Program} {w : World} {A : Around} {g : Map} {h hb : Heap} {mg mb : Str → Option Value}

theorem cmp_fn (T : Tp hb mg mb) (hbase : ∀ b o, hb.get? b = some o → h.get? b = some o) {a b : Value} {x y : Int} (ha : isI x g h a) (hb' : isI y g h b) (hroom : A.depth < recursionLimit) :
    Ev prog w A g h (call (.ref 85) [a, b]) (isI ((if x > y then 1 else 0) - (if x < y then 1 else 0))) := by
  obtain ⟨o, doc, pm, an, cd, ct, ho, hd, hcd⟩ := T.fCmp
  refine ev_def (binds := [(Str.ofString "x", a), (Str.ofString "y", b)]) (hbase _ _ ho) hd rfl (T.nolimit.keeps hbase) (hcd.keeps hbase) hroom rfl rfl (by show ∀ x ∈ (fnScope (top 5)).names, x.2 ≠ .cell; decide) (locs rfl) ?_
  intro s g₁ L h₁ tk Q' E' G F k
  refine ex_expr F ev_str fun g₂ h₂ tk₂ hs₂ F₂ => ?_
  have ex (p : Pos) := F₂.loc (prog := prog) (w := w) (A := A.deeper (callEnv (fdOf (top 5) "three_way_cmp" doc pm an cd ct) L 85)) (x := "x") (pos := p) (v := a) rfl ha (mono_isI x)
  have ey (p : Pos) := F₂.loc (prog := prog) (w := w) (A := A.deeper (callEnv (fdOf (top 5) "three_way_cmp" doc pm an cd ct) L 85)) (x := "y") (pos := p) (v := b) rfl hb' (mono_isI y)
  refine ex_return (P := isI ((if x > y then 1 else 0) - (if x < y then 1 else 0))) F₂ (ev_binop (mono_isV _) (ev_cmp (mono_isI x) (ex _) (ey _) fun _ _ _ _ _ p q => op_gt p q) (ev_cmp (mono_isI x) (ex _) (ey _) fun _ _ _ _ _ p q => op_lt p q) fun u v g' h' _ p q => ?_) fun v g' h' tk' _ p F' => k v g' h' tk' F'.gr p
  cases p; cases q
  simpa using op_subB (p := decide (x > y)) (q := decide (x < y))
end
end Mine
end

section
open PySem PySem.W PyProof.Rows
set_option autoImplicit false
set_option linter.unusedVariables false
namespace Mine

section
variable {prog : Program} {w : World} {A : Around} {g : Map} {h hb : Heap} {env : Env} {mg mb : Str → Option Value}

theorem nm_b {x : Str} {v : Value} {pos : Pos} (T : Tp hb mg mb) (hbase : ∀ b o, hb.get? b = some o → h.get? b = some o) (hx : mg x = none ∧ mb x = some v)
    (hk : env.scope.kind = .function := by rfl) (hl : env.kindOf x = some .globalImplicit := by rfl) (eg : env.globals = mainGlobals := by rfl) (eb : env.builtins = builtinsNs := by rfl) (hd : (x == ("__debug__" : Str)) = false := by decide) :
    Ev prog w A g h (eval (.Name x pos) env) (isV v) := ev_builtin (eg ▸ T.g.keeps hbase) hx.1 (eb ▸ T.b.keeps hbase) hx.2 hk hl hd
theorem nm_g {x : Str} {v : Value} {pos : Pos} (T : Tp hb mg mb) (hbase : ∀ b o, hb.get? b = some o → h.get? b = some o) (hx : mg x = some v)
    (hk : env.scope.kind = .function := by rfl) (hl : env.kindOf x = some .globalImplicit := by rfl) (eg : env.globals = mainGlobals := by rfl) (hd : (x == ("__debug__" : Str)) = false := by decide) :
    Ev prog w A g h (eval (.Name x pos) env) (isV v) := ev_global (eg ▸ T.g.keeps hbase) hx hk hl hd

theorem new_of_size {h h' : Heap} {g' : Map} {a : Addr} (ha : h.objs.size ≤ a) : h.get? a = none := Heap.get?_none_of_le ha
theorem cl_sorted {a : Addr} {vs : List Value} {ns : List Int} (hl : h.IsList a vs.toArray) (hI : IntsAre vs ns) (hz : vs.length < 64) :
    EvN prog w A g h (call (.builtin "sorted") [.ref a]) (fun _ _ us => ∃ ns', IntsAre us ns' ∧ ns'.Perm ns ∧ ns'.Pairwise (· ≤ ·)) :=
  fun s g₁ Q E G k => sorted_ints (isList_up hl G.heap) hI hz fun out ns' a1 a2 a3 => by
    obtain ⟨e, he⟩ := sortedAll_at s.heap vs out
    have hn : s.heap.get? (s.heap.objs.size + 1) = none := get_new1 _
    exact k (s.heap.objs.size + 1) out.toList e g₁ _ s.toks (Gr.of_heap G.now fun _ _ => sortedAll_old) hn (g_new G.now hn) (by rw [Array.toArray_toList]; exact he) ⟨ns', a1, a2, a3⟩
theorem cl_sortedR {a : Addr} {vs : List Value} {ns : List Int} (hl : h.IsList a vs.toArray) (hI : IntsAre vs ns) (hz : vs.length < 64) :
    EvN prog w A g h (call (.builtin "sorted") [.ref a] [(Str.ofString "reverse", .bool true)]) (fun _ _ us => ∃ ns', IntsAre us ns' ∧ ns'.Perm ns ∧ ns'.Pairwise (· ≥ ·)) :=
  fun s g₁ Q E G k => sorted_ints_rev (isList_up hl G.heap) hI hz fun out ns' a1 a2 a3 => by
    obtain ⟨e, he⟩ := sortedAll_at s.heap vs out
    have hn : s.heap.get? (s.heap.objs.size + 1) = none := get_new1 _
    exact k (s.heap.objs.size + 1) out.toList e g₁ _ s.toks (Gr.of_heap G.now fun _ _ => sortedAll_old) hn (g_new G.now hn) (by rw [Array.toArray_toList]; exact he) ⟨ns', a1, a2, a3⟩

/-- f(e, reverse=True) -/
theorem ev_callKw {x : Str} {np pos kp : Pos} {ck : Nat} {cp : Pos} {e : Expr} {id : String} {P : Map → Heap → Value → Prop} {R : Map → Heap → List Value → Prop} (hn : Ev prog w A g h (eval (.Name x np) env) (isV (.builtin id)))
    (he : Ev prog w A g h (eval e env) P) (hc : ∀ v g' h', Gr g h g' h' → P g' h' v → EvN prog w A g' h' (call (.builtin id) [v] [(Str.ofString "reverse", .bool true)]) R)
    (hs : starEach [e] env = [(false, eval e env)] := by rfl) :
    EvN prog w A g h (eval (.Call (.Name x np) [e] [⟨some (Str.ofString "reverse"), .Constant (.bool true) ck cp, kp⟩] pos) env) R :=
  fun s g₁ Q E G q => wpAny_Call_ofName (hn s g₁ _ _ G fun f g₂ h₂ tk₂ G₂ p => by
    cases p
    refine callWith_kw (spliced_more (he _ g₂ _ _ (G.trans G₂) fun v g₃ h₃ tk₃ G₃ p₁ => spliced_none ?_) hs) (by rw [hs]; rfl) (by rw [hs]; rfl) rfl rfl
    show wpAny _ _ (evalAll [do let v ← eval (.Constant (.bool true) ck cp) env; standAt pos; pure v]) _ _ _
    unfold evalAll
    refine wpAny_bind (wpAny_bind (wpAny_pure (wpAny_bind (wpAny_standAt (wpAny_pure ?_)))))
    refine wpAny_bind (wpAny_holding (wpAny_pure (wpAny_pure ?_)))
    exact EvN.of_new (h₀ := s.heap) (s := { s with heap := h₃, toks := tk₃ }) (hc v g₃ h₃ ((G.trans G₂).trans G₃) p₁) (G₂.trans G₃).heap G₃.now fun a us n g₄ h₄ tk₄ G₄ h1 h2 h3 p => q a us n g₄ h₄ tk₄ ((G₂.trans G₃).trans G₄) h1 h2 h3 p)
end
end Mine
end

section
open PySem PySem.W PyProof.Rows
set_option autoImplicit false
set_option linter.unusedVariables false
namespace Mine

theorem small_up {a b : Int} (ha : -1000 ≤ a) (ha' : a < 1000) (hb : -1000 ≤ b) (hb' : b < 1000) : Builtin.Range.small a b 1 = true := by
  have e := rangeSize_nat a b
  unfold Builtin.Range.small Builtin.Range.rangeFitsLong
  rw [e]
  simp only [Bool.and_eq_true, decide_eq_true_eq, Bool.or_eq_true, beq_iff_eq]
  refine ⟨⟨⟨⟨⟨?_, ?_⟩, ⟨?_, ?_⟩⟩, ⟨?_, ?_⟩⟩, ⟨?_, ?_⟩⟩, ?_⟩ <;> first | omega | (right; simp; omega)

/-- what _law_could asks: k greatest ones are more than they can have -/
def minP (k x : Int) : Int := if k < x then k else x
def givenF (fl : List Int) (k : Nat) : Int := (k : Int) * ((k : Int) - 1) + ((fl.drop k).map (minP k)).sum
def tooMuch (fl : List Int) (k : Nat) : Bool := decide ((fl.take k).sum > givenF fl k)
def couldF (fl ws : List Int) : Bool := (List.range (fl.length + 1)).all (fun k => !tooMuch fl k) && (ws.sum.fmod 2 == 0)
end Mine
end

section
open PySem PySem.W PyProof.Rows
set_option autoImplicit false
set_option linter.unusedVariables false
namespace Mine

section
variable {prog : Program} {w : World} {A : Around} {g : Map} {h hb : Heap} {env : Env} {mg mb : Str → Option Value}

theorem EvN.ev {t : Sem Value} {R : Map → Heap → List Value → Prop} {P : Map → Heap → Value → Prop} (e : EvN prog w A g h t R)
    (hP : ∀ a vs n g' h', g' a = none → R g' h' vs → P (upd g' a (seqObj "list" vs.toArray n)) h' (.ref a)) : Ev prog w A g h t P :=
  fun s g₁ Q E G k => e s g₁ Q E G fun a vs n g' h' tk G' h1 h2 h3 p => k _ (upd g' a _) h' tk (G'.freeze h1 h3 h2) (hP a vs n g' h' h2 p)
theorem EvN.walk {α : Type} {t : Sem Value} {R : Map → α → Value → Prop} {items : List α} (mR : MonoM R) (hh : A.handled = none) (e : EvN prog w A g h t (fun g' _ us => F2 (fun v x => R g' x v) us items)) : Ev prog w A g h t (Walk prog w A R items) :=
  e.ev fun a vs n g' h' hg hF => Walk.list mR hh (upd_self _ _ _) (hF.mono fun _ _ q => mR _ _ _ _ (upd_sub hg) q)
theorem Ev.walkI {t : Sem Value} {ns : List Int} (hh : A.handled = none) (e : Ev prog w A g h t (IL ns)) : Ev prog w A g h t (Walk prog w A kI ns) :=
  e.weaken fun g' h' v _ p => by
    obtain ⟨a, vs, n, rfl, ha, hI⟩ := p
    exact Walk.list mono_kI hh ha (IntsAre.f2 hI)
theorem Ev.walkL {t : Sem Value} {nss : List (List Int)} (hh : A.handled = none) (e : Ev prog w A g h t (LL nss)) : Ev prog w A g h t (Walk prog w A ILv nss) :=
  e.weaken fun g' h' v _ p => by
    obtain ⟨a, vs, n, rfl, ha, hI⟩ := p
    exact Walk.list mono_ILv hh ha (ILs.f2 hI)

/-- a comprehension without tests -/
theorem ev_map {α β : Type} {elt iter : Expr} {x : Str} {px pos : Pos} {scope : Scope} {cl : List (Str × Addr)} {items : List α} {R : Map → α → Value → Prop} (out : α → β) {S : Map → β → Value → Prop}
    (hclos : closureFor scope env = pure cl) (hcell : ∀ y ∈ scope.names, y.2 ≠ .cell) (hkind : scope.kind = .function)
    (hnames : ∀ y ∈ scope.names, y.2 = .local → scope.names.lookup y.1 = some .local) (hx : scope.names.lookup x = some .local)
    (mR : MonoM R) (mS : MonoM S) (hiter : Ev prog w A g h (eval iter env) (Walk prog w A R items)) (hz : items.length ≤ 1000)
    (hbody : ∀ a ∈ items, ∀ C m g' h' v, Gr g h g' h' → h'.Ns C m → m x = some v → R g' a v → Ev prog w A g' h' (eval elt (compEnvC scope cl C env)) (fun g _ v => S g (out a) v))
    (hs : ∀ x, foldedSetIterable iter env x = pure x := by intro _; rfl) :
    EvN prog w A g h (eval (.ListComp elt [⟨.Name x px, iter, [], 0⟩] scope pos) env) (fun g _ vs => F2 (fun v b => S g b v) vs (items.map out)) := by
  have e : (items.filter fun _ => true).map out = items.map out := by rw [List.filter_eq_self.mpr fun _ _ => rfl]
  rw [← e]
  exact ev_comp hclos hcell hkind hnames hx mR mS hiter hz (fun a ha C m g' h' v G hn hm hR => ⟨tests_nil, fun _ => hbody a ha C m g' h' v G hn hm hR⟩) hs
theorem EvN.f2I {t : Sem Value} {ns : List Int} (e : EvN prog w A g h t (fun g _ vs => F2 (fun v b => kI g b v) vs ns)) : Ev prog w A g h t (IL ns) := (e.weaken fun _ _ _ _ q => q.ints).ints
theorem EvN.f2L {t : Sem Value} {nss : List (List Int)} (e : EvN prog w A g h t (fun g _ vs => F2 (fun v b => ILv g b v) vs nss)) : Ev prog w A g h t (LL nss) := (e.weaken fun _ _ _ _ q => q.lists).lists
theorem EvN.eqI {t : Sem Value} {us : List Value} {ns : List Int} (hI : IntsAre us ns) (e : EvN prog w A g h t (fun _ _ vs => vs = us)) : Ev prog w A g h t (IL ns) := (e.weaken fun _ _ _ _ q => by rw [q]; exact hI).ints

/-- parts of a list that is known -/
theorem ev_slFrom {value e : Expr} {p pos : Pos} {a : Addr} {vs : List Value} {n : Nat} {i : Int} (hv : Ev prog w A g h (eval value env) (isV (.ref a))) (ha : h.IsList a vs.toArray) (he : Ev prog w A g h (eval e env) (isI i)) (h0 : 0 ≤ i) (hz : vs.length ≤ 1000)
    (ht : ∀ o r, letTemporaryGo value o r = pure () := by intro _ _; rfl) :
    EvN prog w A g h (eval (.Subscript value (.Slice (some e) none none p) pos) env) (fun _ _ us => us = vs.drop i.toNat) :=
  (ev_slice (mono_isV _) hv (part_some he) part_none (fun o g' h' G q => ⟨a, q, isList_up ha G.heap⟩) hz ht).weaken fun g' h' us _ q => by rw [q, pick_from _ h0]
theorem ev_slUpto {value e : Expr} {p pos : Pos} {a : Addr} {vs : List Value} {n : Nat} {i : Int} (hv : Ev prog w A g h (eval value env) (isV (.ref a))) (ha : h.IsList a vs.toArray) (he : Ev prog w A g h (eval e env) (isI i)) (h0 : 0 ≤ i) (hz : vs.length ≤ 1000)
    (ht : ∀ o r, letTemporaryGo value o r = pure () := by intro _ _; rfl) :
    EvN prog w A g h (eval (.Subscript value (.Slice none (some e) none p) pos) env) (fun _ _ us => us = vs.take i.toNat) :=
  (ev_slice (mono_isV _) hv part_none (part_some he) (fun o g' h' G q => ⟨a, q, isList_up ha G.heap⟩) hz ht).weaken fun g' h' us _ q => by rw [q, pick_upto _ h0]
theorem ev_slRun {value e e' : Expr} {p pos : Pos} {a : Addr} {vs : List Value} {n : Nat} {i j : Int} (hv : Ev prog w A g h (eval value env) (isV (.ref a))) (ha : h.IsList a vs.toArray) (he : Ev prog w A g h (eval e env) (isI i)) (he' : Ev prog w A g h (eval e' env) (isI j)) (h0 : 0 ≤ i) (h1 : 0 ≤ j) (hz : vs.length ≤ 1000)
    (ht : ∀ o r, letTemporaryGo value o r = pure () := by intro _ _; rfl) :
    EvN prog w A g h (eval (.Subscript value (.Slice (some e) (some e') none p) pos) env) (fun _ _ us => us = (vs.drop i.toNat).take (j.toNat - i.toNat)) :=
  (ev_slice (mono_isV _) hv (part_some he) (part_some he') (fun o g' h' G q => ⟨a, q, isList_up ha G.heap⟩) hz ht).weaken fun g' h' us _ q => by rw [q, pick_run _ h0 h1]

/-- len(e) -/
theorem ev_len {e : Expr} {np pos : Pos} {P : Map → Heap → Value → Prop} {n : Nat} (T : Tp hb mg mb) (hbase : ∀ b o, hb.get? b = some o → h.get? b = some o) (he : Ev prog w A g h (eval e env) P)
    (hP : ∀ v g' h', Gr g h g' h' → P g' h' v → ∃ a items, v = .ref a ∧ h'.IsList a items ∧ items.size = n) (hn : n ≤ 1000)
    (hk : env.scope.kind = .function := by rfl) (hl : env.kindOf "len" = some .globalImplicit := by rfl) (eg : env.globals = mainGlobals := by rfl) (eb : env.builtins = builtinsNs := by rfl)
    (hs : starEach [e] env = [(false, eval e env)] := by rfl) : Ev prog w A g h (eval (.Call (.Name "len" np) [e] [] pos) env) (isI n) :=
  ev_call1 (nm_b T hbase T.len hk hl eg eb) he (fun v g' h' G p => by
    obtain ⟨a, items, rfl, hL, hn'⟩ := hP v g' h' G p
    rw [← hn']
    exact cl_len hL (by rw [hn']; omega)) hs
theorem ev_lenI {e : Expr} {np pos : Pos} {ns : List Int} (T : Tp hb mg mb) (hbase : ∀ b o, hb.get? b = some o → h.get? b = some o) (he : Ev prog w A g h (eval e env) (IL ns)) (hn : ns.length ≤ 1000)
    (hk : env.scope.kind = .function := by rfl) (hl : env.kindOf "len" = some .globalImplicit := by rfl) (eg : env.globals = mainGlobals := by rfl) (eb : env.builtins = builtinsNs := by rfl)
    (hs : starEach [e] env = [(false, eval e env)] := by rfl) : Ev prog w A g h (eval (.Call (.Name "len" np) [e] [] pos) env) (isI ns.length) :=
  ev_len T hbase he (fun v g' h' G p => by
    obtain ⟨a, vs, n, rfl, ha, hI⟩ := p
    exact ⟨a, _, rfl, listAt G.now ha, by rw [List.size_toArray, hI.length]⟩) hn hk hl eg eb hs
theorem ev_lenL {e : Expr} {np pos : Pos} {nss : List (List Int)} (T : Tp hb mg mb) (hbase : ∀ b o, hb.get? b = some o → h.get? b = some o) (he : Ev prog w A g h (eval e env) (LL nss)) (hn : nss.length ≤ 1000)
    (hk : env.scope.kind = .function := by rfl) (hl : env.kindOf "len" = some .globalImplicit := by rfl) (eg : env.globals = mainGlobals := by rfl) (eb : env.builtins = builtinsNs := by rfl)
    (hs : starEach [e] env = [(false, eval e env)] := by rfl) : Ev prog w A g h (eval (.Call (.Name "len" np) [e] [] pos) env) (isI nss.length) :=
  ev_len T hbase he (fun v g' h' G p => by
    obtain ⟨a, vs, n, rfl, ha, hI⟩ := p
    exact ⟨a, _, rfl, listAt G.now ha, by rw [List.size_toArray, hI.length]⟩) hn hk hl eg eb hs
/-- range(e), to go over it -/
theorem ev_range1 {e : Expr} {np pos : Pos} {n : Int} (T : Tp hb mg mb) (hbase : ∀ b o, hb.get? b = some o → h.get? b = some o) (hh : A.handled = none) (he : Ev prog w A g h (eval e env) (isI n)) (h0 : -1000 ≤ n) (h1 : n < 1000)
    (hk : env.scope.kind = .function := by rfl) (hl : env.kindOf "range" = some .globalImplicit := by rfl) (eg : env.globals = mainGlobals := by rfl) (eb : env.builtins = builtinsNs := by rfl)
    (hs : starEach [e] env = [(false, eval e env)] := by rfl) : Ev prog w A g h (eval (.Call (.Name "range" np) [e] [] pos) env) (Walk prog w A kI (intsF 0 n.toNat)) :=
  (ev_callT (nm_b T hbase T.range hk hl eg eb) (spl_cons (mono_isI n) he spl_nil hs) (fun vs g' h' G p => by
    obtain ⟨v, r, rfl, p, q⟩ := p
    cases q
    exact cl_range1 p) hs rfl).weaken fun g' h' v G p => by
      have := Walk.range (prog := prog) (w := w) hh p (small_up (by omega) (by omega) h0 h1) (rangeSize_nat _ _)
      rwa [Int.sub_zero] at this
theorem ev_range2 {e e' : Expr} {np pos : Pos} {m n : Int} (T : Tp hb mg mb) (hbase : ∀ b o, hb.get? b = some o → h.get? b = some o) (hh : A.handled = none) (he : Ev prog w A g h (eval e env) (isI m)) (he' : Ev prog w A g h (eval e' env) (isI n)) (h0 : -1000 ≤ n) (h1 : n < 1000) (h2 : -1000 ≤ m) (h3 : m < 1000)
    (hk : env.scope.kind = .function := by rfl) (hl : env.kindOf "range" = some .globalImplicit := by rfl) (eg : env.globals = mainGlobals := by rfl) (eb : env.builtins = builtinsNs := by rfl)
    (hs : starEach [e, e'] env = (false, eval e env) :: starEach [e'] env := by rfl) (hs' : starEach [e'] env = [(false, eval e' env)] := by rfl) : Ev prog w A g h (eval (.Call (.Name "range" np) [e, e'] [] pos) env) (Walk prog w A kI (intsF m (n - m).toNat)) :=
  (ev_callT (nm_b T hbase T.range hk hl eg eb) (spl_cons (mono_isI m) he (spl_cons (mono_isI n) he' spl_nil hs') hs) (fun vs g' h' G p => by
    obtain ⟨v, r, rfl, p, q⟩ := p
    obtain ⟨v', r', rfl, p', q'⟩ := q
    cases q'
    exact cl_range2 p p') hs (by rw [hs']; rfl)).weaken fun g' h' v G p => Walk.range hh p (small_up h2 h3 h0 h1) (rangeSize_nat _ _)
/-- sum(e) -/
theorem ev_sum {e : Expr} {np pos : Pos} {ns : List Int} (T : Tp hb mg mb) (hbase : ∀ b o, hb.get? b = some o → h.get? b = some o) (hh : A.handled = none) (he : Ev prog w A g h (eval e env) (IL ns))
    (hk : env.scope.kind = .function := by rfl) (hl : env.kindOf "sum" = some .globalImplicit := by rfl) (eg : env.globals = mainGlobals := by rfl) (eb : env.builtins = builtinsNs := by rfl)
    (hs : starEach [e] env = [(false, eval e env)] := by rfl) : Ev prog w A g h (eval (.Call (.Name "sum" np) [e] [] pos) env) (isI ns.sum) :=
  ev_call1 (nm_b T hbase T.sum hk hl eg eb) he (fun v g' h' G p => by
    obtain ⟨a, vs, n, rfl, ha, hI⟩ := p
    exact cl_sum hh (listAt G.now ha) hI) hs
end
end Mine
end

section
open PySem PySem.W PyProof.Rows
set_option autoImplicit false
set_option linter.unusedVariables false
namespace Mine

section
variable {prog : Program} {w : World} {A : Around} {g : Map} {h hb : Heap} {mg mb : Str → Option Value}

abbrev eCould (doc pm : Value) (an : Option Addr) (cd ct : Value) (L : Addr) : Env := callEnvC (fdOf (top 11) "_law_could" doc pm an cd ct) L 176

theorem could_fn (T : Tp hb mg mb) (hbase : ∀ b o, hb.get? b = some o → h.get? b = some o) {v : Value} {ws : List Int} (hv : IL ws g h v) (hz : ws.length ≤ 60) (hh : A.handled = none) (hroom : A.depth + 1 < recursionLimit) :
    Ev prog w A g h (call (.ref 176) [v]) (fun _ _ u => ∃ fl, fl.Perm ws ∧ fl.Pairwise (· ≥ ·) ∧ u = .bool (couldF fl ws)) := by
  obtain ⟨o, doc, pm, an, cd, ct, ho, hd, hcd⟩ := T.fCould
  refine ev_defC (binds := [(Str.ofString "wishes", v)]) (hbase _ _ ho) hd rfl (T.nolimit.keeps hbase) (hcd.keeps hbase) (by omega) rfl rfl (kindsX rfl) ?_
  intro s g₁ L h₁ tk Q' E' G F k
  have hb₁ : ∀ b o, hb.get? b = some o → h₁.get? b = some o := fun b o e => F.gr.heap _ _ (G.heap _ _ (hbase _ _ e))
  have hv₁ : ILv g₁ ws v := mono_IL ws _ _ _ _ _ G hv
  -- falling = sorted(wishes, reverse=True)
  refine ex_assign (P := fun g' _ u => ∃ fl, fl.Perm ws ∧ fl.Pairwise (· ≥ ·) ∧ ILv g' fl u) F
    ((ev_callKw (P := IL ws) (R := fun _ _ us => ∃ ns', IntsAre us ns' ∧ ns'.Perm ws ∧ ns'.Pairwise (· ≥ ·)) (nm_b T hb₁ T.sorted) (F.loc (v := v) rfl hv₁ (mono_IL ws)) fun u g' h' G' p => ?_).ev fun a vs n g' h' hg hR => ?_) fun u g₂ h₂' h₂ tk₂ hs₂ pF F₂ => ?_
  · obtain ⟨a, vs, n, rfl, ha, hI⟩ := p
    exact cl_sortedR (listAt G'.now ha) hI (by have := hI.length; omega)
  · obtain ⟨ns', h1, h2, h3⟩ := hR
    exact ⟨ns', h2, h3, a, vs, n, rfl, upd_self _ _ _, h1⟩
  obtain ⟨fl, hperm, hpw, hfl⟩ := pF
  have hlen : fl.length = ws.length := hperm.length_eq
  have hv₂ : ILv g₂ ws v := mono_ILv _ _ _ _ hs₂ hv₁
  -- the loop
  have hb₂ : ∀ b o, hb.get? b = some o → h₂.get? b = some o := fun b o e => F₂.gr.heap _ _ (G.heap _ _ (hbase _ _ e))
  refine ex_for mono_kI F₂ (ev_range1 T hb₂ hh (ev_binop (mono_isI _) (ev_lenI (ns := fl) T hb₂ (F₂.loc (v := u) rfl hfl (mono_IL fl)) (by omega)) ev_int fun _ _ _ _ _ p q => op_add p q) (by omega) (by omega))
    (fun m _ => m) (fun cm x => updS cm "k" x) (st_cell (c := L + 1) rfl) (fun i m _ _ _ => m "falling" = some u ∧ m "wishes" = some v ∧ ∀ j, j < i → tooMuch fl j = false) (fun g' _ => ⟨rfl, rfl, fun j hj => by omega⟩) ?_ ?_
  · intro i a kv m₁ cm₁ W₁ g₃ h₃ tk₃ I oI E₁ ha hkv hs₃ hJ F₃
    have hi : i < (fl.length : Int).toNat + 1 := by
      have := (List.getElem?_eq_some_iff.mp ha).1
      rw [intsF_length] at this
      omega
    have hik : a = (i : Int) := by
      rw [intsF_get _ _ _ (by omega)] at ha
      simpa using (Option.some.inj ha).symm
    subst hik
    obtain ⟨hmF, hmW, hno⟩ := hJ
    obtain ⟨af, vf, nf, rfl, haf, hIf⟩ := mono_ILv _ _ _ _ hs₃ hfl
    have hb₃ : ∀ b o, hb.get? b = some o → h₃.get? b = some o := fun b o e => F₃.gr.heap _ _ (G.heap _ _ (hbase _ _ e))
    have hLf : h₃.IsList af vf.toArray := listAt F₃.now haf
    have nF (p : Pos) := F₃.loc (prog := prog) (w := w) (A := A.deeper (eCould doc pm an cd ct L)) (x := "falling") (pos := p) (v := .ref af) hmF (P := isV (.ref af)) rfl (mono_isV _)
    have nK (p : Pos) := F₃.cel (prog := prog) (w := w) (A := A.deeper (eCould doc pm an cd ct L)) (x := "k") (pos := p) (c := L + 1) (v := kv) rfl rfl (P := isI i) hkv (mono_isI _)
    have hvl : vf.length = fl.length := hIf.length
    -- given = ..
    refine ex_assign (P := isI (givenF fl i)) F₃ ?e fun gv g₄ h₄' h₄ tk₄ hs₄ pG F₄ => ?_
    case e =>
      refine ev_binop (mono_isI _) (ev_binop (mono_isI (i : Int)) (nK _) (ev_binop (mono_isI (i : Int)) (nK _) ev_int fun _ _ _ _ _ p q => op_sub p q) fun _ _ _ _ _ p q => op_mul p q (IntMulOk.of_left (intBits_le_64 (by omega) (by omega)))) ?_ fun _ _ _ _ _ p q => op_add p q
      refine ev_sum (ns := (fl.drop i).map (minP i)) T hb₃ hh (EvN.f2I ?_)
      refine ev_map (items := fl.drop i) (minP i) (cl := [(Str.ofString "k", L + 1)]) rfl (by decide) rfl (by decide) rfl mono_kI mono_kI ?_ (by rw [List.length_drop]; omega) fun x hx C mC g' h' u G' hn hu hR => ?_
      · refine Ev.walkI hh (EvN.eqI (us := vf.drop i) (hIf.drop _) ?_)
        simpa using ev_slFrom (n := nf) (nF _) hLf (nK _) (by omega) (by omega)
      · have hb' : ∀ b o, hb.get? b = some o → h'.get? b = some o := fun b o e => G'.heap _ _ (hb₃ _ _ e)
        refine ev_call2 (mono_isI x) (nm_b T hb' T.min) (ev_local hn hu hR (mono_isI x)) (ev_cell (c := L + 1) (v := kv) rfl ((F₃.cells "k" (L + 1) rfl).1.keeps G'.heap) hkv (mono_isI (i : Int))) fun _ _ _ _ _ p q => ?_
        exact cl_min hh p q
    -- if three_way_cmp(sum(falling[:k]), given) == 1
    have hb₄ : ∀ b o, hb.get? b = some o → h₄.get? b = some o := fun b o e => F₄.gr.heap _ _ (G.heap _ _ (hbase _ _ e))
    have hLf₄ : h₄.IsList af vf.toArray := listAt F₄.now (hs₄ _ _ haf)
    have nF₄ (p : Pos) := F₄.loc (prog := prog) (w := w) (A := A.deeper (eCould doc pm an cd ct L)) (x := "falling") (pos := p) (v := .ref af) hmF (P := isV (.ref af)) rfl (mono_isV _)
    have nK₄ (p : Pos) := F₄.cel (prog := prog) (w := w) (A := A.deeper (eCould doc pm an cd ct L)) (x := "k") (pos := p) (c := L + 1) (v := kv) rfl rfl (P := isI i) hkv (mono_isI _)
    obtain ⟨oc, docc, pmc, anc, cdc, ctc, hoc, hdc, hcdc⟩ := T.fCmp
    refine ex_if (c := tooMuch fl i) F₄ ?t fun g₅ h₅ tk₅ hs₅ F₅ => ?_
    case t =>
      refine ev_test (P₁ := isI ((if (fl.take i).sum > givenF fl i then 1 else 0) - (if (fl.take i).sum < givenF fl i then 1 else 0))) (P₂ := isI 1) (mono_isI _) ?_ ev_int fun a b g' h' G' p q => ?_
      · refine ev_callD (P₁ := consP (isI (fl.take i).sum) (consP (isI (givenF fl i)) nilP)) (nm_g T hb₄ T.gCmp) (hb₄ _ _ hoc) hdc (spl_cons (mono_isI _) ?_ (spl_cons (mono_isI _) (F₄.loc (v := gv) rfl pG (mono_isI _)) spl_nil)) fun vs g' h' G' p => ?_
        · refine ev_sum T hb₄ hh (EvN.eqI (us := vf.take i) (hIf.take _) ?_)
          simpa using ev_slUpto (n := nf) (nF₄ _) hLf₄ (nK₄ _) (by omega) (by omega)
        · obtain ⟨x, r, rfl, p1, y, r', rfl, p2, p3⟩ := p
          cases p3
          exact cmp_fn T (fun b o e => G'.heap _ _ (hb₄ _ _ e)) p1 p2 hroom
      · refine (op_eq p q).weaken fun g'' h'' u _ e => ?_
        rw [e]
        unfold tooMuch isV
        congr 1
        by_cases h1 : (fl.take i).sum > givenF fl i
        · rw [if_pos h1, if_neg (by omega), decide_eq_true h1]; rfl
        · rw [if_neg h1, decide_eq_false h1]
          by_cases h2 : (fl.take i).sum < givenF fl i
          · rw [if_pos h2]; rfl
          · rw [if_neg h2]; rfl
    cases hc : tooMuch fl i with
    | true =>
      simp only [if_true]
      refine ex_return (P := isV (.bool false)) F₅ ev_bool fun u g₆ h₆ tk₆ _ p F₆ => ?_
      cases p
      refine k _ g₆ h₆ tk₆ F₆.gr ⟨fl, hperm, hpw, ?_⟩
      have : couldF fl ws = false := by
        unfold couldF
        rw [Bool.and_eq_false_iff]
        left
        rw [List.all_eq_false]
        exact ⟨i, List.mem_range.mpr (by omega), by simp [hc]⟩
      rw [this]
    | false =>
      simp only [Bool.false_eq_true, if_false]
      refine wpAny_execs_nil (wpAny_execs_nil ?_)
      refine ⟨_, _, W₁, g₅, h₅, tk₅, rfl, fun b o e => hs₅ _ _ (hs₄ _ _ e), F₅, ?_, ?_, fun j hj => ?_⟩
      · exact hmF
      · exact hmW
      · by_cases hji : j = i
        · subst hji; exact hc
        · exact hno j (by omega)
  · intro m₁ cm₁ W₁ g₃ h₃ tk₃ hs₃ hJ F₃
    obtain ⟨hmF, hmW, hno⟩ := hJ
    have hb₃ : ∀ b o, hb.get? b = some o → h₃.get? b = some o := fun b o e => F₃.gr.heap _ _ (G.heap _ _ (hbase _ _ e))
    have hv₃ : ILv g₃ ws v := mono_ILv _ _ _ _ hs₃ hv₂
    refine ex_return (P := isV (.bool (ws.sum.fmod 2 == 0))) F₃ ?e fun u g₆ h₆ tk₆ _ p F₆ => ?_
    case e =>
      refine ev_cmp (mono_isI _) (ev_binop (mono_isI _) (ev_sum T hb₃ hh (F₃.loc (v := v) hmW hv₃ (mono_IL ws))) ev_int fun _ _ _ _ _ p q => op_mod p q (by omega)) ev_int fun _ _ _ _ _ p q => op_eq p q
    cases p
    refine k _ g₆ h₆ tk₆ F₆.gr ⟨fl, hperm, hpw, ?_⟩
    have : (List.range (fl.length + 1)).all (fun k => !tooMuch fl k) = true := by
      rw [List.all_eq_true]
      intro j hj
      have := List.mem_range.mp hj
      rw [hno j (by rw [intsF_length]; omega)]; rfl
    unfold couldF
    rw [this, Bool.true_and]
end
end Mine
end

section
open PySem PySem.W PyProof.Rows
set_option autoImplicit false
set_option linter.unusedVariables false
namespace Mine
open PySem.SeqAt

section
variable {prog : Program} {w : World} {A : Around} {s : Shared} {E : Value → Shared → Prop}

/-- remove takes the first item that is like x -/
theorem rm_loop {l : Addr} {n : Nat} {x : Value} {e : Value → Bool} (vs : List Value) (post : List Value) : ∀ (todo pre : List Value) (v : Value), vs = pre ++ todo ++ v :: post → (∀ y ∈ todo, e y = false) → e v = true → vs.length ≤ 1000 →
    Meets (Builtin.«list.remove.loop» ⟨[.ref l, x, rawInt (pre.length : Nat)], []⟩)
      (fun A R s => s.heap.get? l = some (seqObj "list" vs.toArray n) ∧ (∀ y ∈ vs, EqAt A.in1 s y x (e y)) ∧ R (.ok (.ret .none)) { s with heap := s.heap.update l (Obj.mapSeq fun xs => xs.eraseIdxIfInBounds (pre ++ todo).length) })
  | [], pre, v, hv, _, hit, hz => by
    intro prog w A R s h
    obtain ⟨hp, g, d, tk, os⟩ := s; obtain ⟨hl, he, h⟩ := h
    have hlt : pre.length < vs.length := by rw [hv]; simp
    have hi : vs.toArray[((pre.length : Nat) : Int).toNat]? = some v := by rw [hv]; simp
    have hsz : vs.toArray.size ≤ sizeLine := by rw [List.size_toArray, sizeLine_eq]; omega
    have hs2 : (vs.toArray.eraseIdxIfInBounds ((pre.length : Nat) : Int).toNat).size ≤ sizeLine + 1 := Nat.le_trans (size_eraseIdxIfInBounds_le _ _) (Nat.le_succ_of_le hsz)
    wp_walk using AutoSeq1.wpAny_loadPart' hl
    rw [hi]
    refine wpAny_bind (he v (by rw [hv]; simp) prog w _ _ ?_)
    rw [hit]
    simp only [if_true]
    refine wpAny_bind (listUpdate_at hl rfl ?_ hsz hs2)
    wp_walk
    simpa using h
  | y :: todo, pre, v, hv, hno, hit, hz => by
    intro prog w A R s h
    have ih := rm_loop (l := l) (n := n) (x := x) (e := e) vs post todo (pre ++ [y]) v (by rw [hv]; simp) (fun z hm => hno z (.tail _ hm)) hit hz
    obtain ⟨hp, g, d, tk, os⟩ := s; obtain ⟨hl, he, h⟩ := h
    have hi : vs.toArray[((pre.length : Nat) : Int).toNat]? = some y := by rw [hv]; simp
    have hc : ((pre.length : Nat) : Int) + 1 = (((pre ++ [y]).length : Nat) : Int) := by simp
    wp_walk using AutoSeq1.wpAny_loadPart' hl
    rw [hi]
    refine wpAny_bind (he y (by rw [hv]; simp) prog w _ _ ?_)
    rw [hno y (.head _)]
    wp_walk
    rw [hc]
    exact ⟨plainId_quiet MeetsSeq.plain_remove_loop _, codeAny_builtin MeetsSeq.entry_remove_loop (by
      rw [Around.under_plainId MeetsSeq.plain_remove_loop _]
      exact ih prog w A R _ ⟨hl, he, by simpa using h⟩)⟩
theorem rm_meets {l : Addr} {n : Nat} {x : Value} {e : Value → Bool} {pre post : List Value} {v : Value} (hno : ∀ y ∈ pre, e y = false) (hit : e v = true) (hz : (pre ++ v :: post).length ≤ 1000) :
    Meets (Builtin.«list.remove» ⟨[.ref l, x], []⟩)
      (fun A R s => s.heap.get? l = some (seqObj "list" (pre ++ v :: post).toArray n) ∧ (∀ y ∈ pre ++ v :: post, EqAt A.in1 s y x (e y)) ∧ R (.ok (.ret .none)) { s with heap := s.heap.update l (Obj.mapSeq fun xs => xs.eraseIdxIfInBounds pre.length) }) := by
  intro prog w A R s h
  obtain ⟨hp, g, d, tk, os⟩ := s; obtain ⟨hl, he, h⟩ := h
  wp_walk using AutoSeq1.wpAny_loadPart' hl
  exact ⟨plainId_quiet MeetsSeq.plain_remove_loop _, codeAny_builtin MeetsSeq.entry_remove_loop (by
    rw [Around.under_plainId MeetsSeq.plain_remove_loop _]
    exact rm_loop _ post pre [] v rfl hno hit hz prog w A R _ ⟨hl, he, by simpa using h⟩)⟩

theorem mapSeq_erase (pre post : List Value) (v : Value) (n : Nat) : Obj.mapSeq (fun xs => xs.eraseIdxIfInBounds pre.length) (seqObj "list" (pre ++ v :: post).toArray n) = seqObj "list" (pre ++ post).toArray (n + 1) := by
  have e : (pre ++ v :: post).toArray.eraseIdxIfInBounds pre.length = (pre ++ post).toArray := by
    have hlt : pre.length < (pre ++ v :: post).toArray.size := by simp
    unfold Array.eraseIdxIfInBounds
    rw [dif_pos hlt]
    rw [List.eraseIdx_toArray]
    congr 1
    rw [List.eraseIdx_append_of_length_le (Nat.le_refl _), Nat.sub_self]; rfl
  show (⟨_, _, Data.seq ((pre ++ v :: post).toArray.eraseIdxIfInBounds pre.length) (if ((pre ++ v :: post).toArray.eraseIdxIfInBounds pre.length).size == (pre ++ v :: post).toArray.size then n else n + 1), _⟩ : Obj) = _
  rw [e]
  simp
theorem cl_remove {l : Addr} {n : Nat} {x : Value} {e : Value → Bool} {pre post : List Value} {v : Value} {Q : Value → Shared → Prop} (hl : s.heap.get? l = some (seqObj "list" (pre ++ v :: post).toArray n))
    (hno : ∀ y ∈ pre, e y = false) (hit : e v = true) (he : ∀ y ∈ pre ++ v :: post, EqAt A.in1 s y x (e y)) (hz : (pre ++ v :: post).length ≤ 1000)
    (k : ∀ h', Heap.SameBut l s.heap h' → h'.get? l = some (seqObj "list" (pre ++ post).toArray (n + 1)) → Q .none { s with heap := h' }) : wpAny (model prog w) A (call (.builtin "list.remove") [.ref l, x]) Q E s := by
  refine call_meets PySem.F.slot_list_remove ⟨_, hl, rfl⟩ PySem.F.entry_list_remove (PySem.F.args_list_remove_2 _ _) (rm_meets hno hit hz) ⟨hl, he, ?_⟩
  refine k _ (Heap.SameBut.update ..) ?_
  rw [Heap.get?_update_self _ hl (by rw [mapSeq_erase]; rfl), mapSeq_erase]

theorem cl_pop {l : Addr} {n : Nat} {vs : List Value} {v : Value} {Q : Value → Shared → Prop} (hl : s.heap.get? l = some (seqObj "list" (vs ++ [v]).toArray n)) (hz : (vs ++ [v]).length ≤ 1000)
    (k : ∀ h', Heap.SameBut l s.heap h' → h'.get? l = some (seqObj "list" vs.toArray (n + 1)) → Q v { s with heap := h' }) : wpAny (model prog w) A (call (.builtin "list.pop") [.ref l]) Q E s := by
  refine PyProof.Rows.Copied.pop_at (its := (vs ++ [v]).toArray) (n := n) (y := v) hl (by simp) (fun h' hs hg => k h' hs ?_) (by rw [List.size_toArray, sizeLine_eq]; omega)
  simpa using hg
theorem cl_append {l : Addr} {n : Nat} {vs : List Value} {v : Value} {Q : Value → Shared → Prop} (hl : s.heap.get? l = some (seqObj "list" vs.toArray n)) (hz : vs.length ≤ 1000)
    (k : ∀ h' n', Heap.SameBut l s.heap h' → h'.get? l = some (seqObj "list" (vs ++ [v]).toArray n') → Q .none { s with heap := h' }) : wpAny (model prog w) A (call (.builtin "list.append") [.ref l, v]) Q E s :=
  wpAny_list_append_plain (items := vs.toArray) ⟨n, hl⟩ (fun h' hp hs => by
    obtain ⟨n', hp⟩ := hp
    exact k h' n' hs (by simpa using hp)) (by rw [List.size_toArray, sizeLine_eq]; omega)
theorem cl_extend {l b : Addr} {n m : Nat} {vs us : List Value} {Q : Value → Shared → Prop} (hl : s.heap.get? l = some (seqObj "list" vs.toArray n)) (hb : s.heap.get? b = some (seqObj "list" us.toArray m)) (hz : vs.length + us.length ≤ 1000)
    (k : ∀ h' n', Heap.SameBut l s.heap h' → h'.get? l = some (seqObj "list" (vs ++ us).toArray n') → Q .none { s with heap := h' }) : wpAny (model prog w) A (call (.builtin "list.extend") [.ref l, .ref b]) Q E s := by
  have hsz : vs.toArray.size + us.toArray.size ≤ sizeLine := by rw [List.size_toArray, List.size_toArray, sizeLine_eq]; omega
  refine call_meets PySem.F.slot_list_extend ⟨_, hl, rfl⟩ PySem.F.entry_list_extend (PySem.F.args_list_extend_2 _ _) (AutoSeq1.list_extend_list_list_0 l vs.toArray n b us.toArray m ?_ (by omega) (by omega)) ⟨hl, hb, ?_⟩
  · have : Builtin.List.listTooLong (vs.toArray.size + us.toArray.size) = false := by
      unfold Builtin.List.listTooLong
      simp only [List.size_toArray]
      exact decide_eq_false (by rw [sizeLine_eq]; omega)
    rw [this]; simp
  · refine k _ (if (vs.toArray ++ us.toArray).size == vs.toArray.size then n else n + 1) (Heap.SameBut.update ..) ?_
    have e : (vs ++ us).toArray = vs.toArray ++ us.toArray := by simp
    rw [e]
    exact get?_update_seq hl (· ++ us.toArray)
end
end Mine
end

section
open PySem PySem.W PyProof.Rows
set_option autoImplicit false
set_option linter.unusedVariables false
namespace Mine
open PySem.SeqAt

section
variable {prog : Program} {w : World} {A : Around} {g₀ g : Map} {h₀ : Heap} {env : Env} {m cm : Str → Option Value} {W : List (Addr × Obj)} {s : Shared} {E : Value → Shared → Prop} {Q : Flow → Shared → Prop} {rest : List Stmt}

/-- a statement x.name(e) of a list -/
theorem ex_meth1 {o e : Expr} {name : Str} {apos epos pos : Pos} {id : String} {pl : Sem Bool} {P : Map → Heap → Value → Prop} {a : Addr} {vs : Array Value} {n : Nat} (F : Fm g₀ h₀ env m cm W g s.heap)
    (slot : Slot "list" name id) (hty : typeOf (.builtin id) = pure (.type "method_descriptor"))
    (ho : Ev prog w A g s.heap (eval o env) (isV (.ref a))) (ha : s.heap.get? a = some (seqObj "list" vs n)) (he : Ev prog w A g s.heap (eval e env) P)
    (k : ∀ v g' h' tk, (∀ b o, g b = some o → g' b = some o) → P g' h' v → Fm g₀ h₀ env m cm W g' h' → h'.get? a = some (seqObj "list" vs n) →
      wpAny (model prog w) A (call (.builtin id) [.ref a, v]) (fun _ s' => wpAny (model prog w) A (execs rest env) Q E s') E { s with heap := h', toks := tk })
    (hx : eval (.Call (.Attribute o name apos) [e] [] epos) env = (do
      let ov ← eval o env
      standAt apos.atName
      let (f, first) ← holding [ov] (getMethod ov name pl)
      callWith epos f first (backTo epos (starEach [e] env)) []) := by rfl) (hs : starEach [e] env = [(false, eval e env)] := by rfl)
    (hi : interactive env = false := by rfl) (hsw : swapsWith (.Call (.Attribute o name apos) [e] [] epos) none pos.line env = pure false := by rfl) :
    wpAny (model prog w) A (execs (.Expr (.Call (.Attribute o name apos) [e] [] epos) pos :: rest) env) Q E s :=
  ex_cons (wpAny_Expr_any (MethodCall_ (pl := pl) (ho s g _ _ (Gr.refl F.now) fun v g₂ h₂ tk₂ G₂ p₁ => by
    cases p₁
    have ha₂ := G₂.heap _ _ ha
    refine getMethod_builtin ⟨_, ha₂, rfl⟩ PySem.F.plainAttrs_list slot hty (fun b e => by cases e; exact ⟨_, ha₂, rfl⟩) ?_
    exact callWith_method1 (spliced_more (he _ g₂ _ _ G₂ fun u g₃ h₃ tk₃ G₃ p₂ => spliced_none (k u g₃ h₃ tk₃ (G₂.trans G₃).sub p₂ (F.grow (G₂.trans G₃)) (G₃.heap _ _ ha₂))) hs) hs) hx) hi hsw)

/-- y = x.pop() -/
theorem ex_pop {o : Expr} {y : Str} {py apos epos pos : Pos} {pl : Sem Bool} {a : Addr} {vs : List Value} {v : Value} {n : Nat} {W₁ W₂ : List (Addr × Obj)} (F : Fm g₀ h₀ env m cm (W₁ ++ (a, seqObj "list" (vs ++ [v]).toArray n) :: W₂) g s.heap) (hz : (vs ++ [v]).length ≤ 1000)
    (ho : Ev prog w A g s.heap (eval o env) (isV (.ref a)))
    (k : ∀ g' h' tk, (∀ b o, g b = some o → g' b = some o) → Fm g₀ h₀ env (updS m y v) cm (W₁ ++ (a, seqObj "list" vs.toArray (n + 1)) :: W₂) g' h' → wpAny (model prog w) A (execs rest env) Q E { s with heap := h', toks := tk })
    (hk : env.scope.kind = .function := by rfl) (hl : env.kindOf y = some .local := by rfl)
    (hx : eval (.Call (.Attribute o (Str.ofString "pop") apos) [] [] epos) env = (do
      let ov ← eval o env
      standAt apos.atName
      let (f, first) ← holding [ov] (getMethod ov (Str.ofString "pop") pl)
      callWith epos f first (backTo epos (starEach [] env)) []) := by rfl)
    (hs : swapsWith (.Call (.Attribute o (Str.ofString "pop") apos) [] [] epos) (some (.Name y py)) pos.line env = pure false := by rfl) :
    wpAny (model prog w) A (execs (.Assign [.Name y py] (.Call (.Attribute o (Str.ofString "pop") apos) [] [] epos) pos :: rest) env) Q E s :=
  ex_cons (wpAny_Assign_Name (MethodCall_ (pl := pl) (ho s g _ _ (Gr.refl F.now) fun v' g₂ h₂ tk₂ G₂ p₁ => by
    cases p₁
    have F₂ := F.grow G₂
    have ha₂ := F₂.at_ (List.mem_append_right _ (.head _))
    refine getMethod_builtin ⟨_, ha₂, rfl⟩ PySem.F.plainAttrs_list PySem.F.slot_list_pop PySem.F.type_list_pop (fun b e => by cases e; exact ⟨_, ha₂, rfl⟩) ?_
    refine callWith_method0 (cl_pop (s := { s with heap := h₂, toks := tk₂ }) ha₂ hz fun h₃ hs₃ hg₃ => ?_)
    exact (F₂.change hs₃ hg₃).st (s := { s with heap := h₃, toks := tk₂ }) (fun h₄ tk₄ F₄ => k g₂ h₄ tk₄ G₂.sub F₄) hk hl) hx) hs)

/-- try: body, which does not raise -/
theorem ex_try {body : List Stmt} {hd : ExceptHandler} {hs : List ExceptHandler} {pos : Pos}
    (k : ∀ E', wpAny (model prog w) A (execs body env) (thenK prog w A env [] (thenK prog w A env rest Q E) E) E' s) : wpAny (model prog w) A (execs (.Try body (hd :: hs) [] [] pos :: rest) env) Q E s :=
  ex_cons (wpAny_Try_except (wpAny_mono (k _) (fun f s' hf => by cases f <;> exact hf) fun _ _ x => x))

/-- while on a list's items -/
theorem test_list {e : Expr} {a : Addr} {vs : List Value} {n : Nat} {h : Heap} (he : Ev prog w A g h (eval e env) (isV (.ref a))) (ha : h.get? a = some (seqObj "list" vs.toArray n)) (hz : vs.length ≤ 1000)
    (hx : isTrue e env (eval e env) = (do let v ← eval e env; standAt e.pos; holding [v] (truthy v)) := by rfl) : Ev prog w A g h (isTrue e env (eval e env)) (isB (!vs.isEmpty)) :=
  fun s g₁ Q E G k => wpAny_isTrue_value (he s g₁ _ _ G fun v g' h' tk G' p => by
    cases p
    refine wpAny_truthy_list (items := vs.toArray) ⟨_, G'.heap _ _ (G.heap _ _ ha), rfl, n, rfl⟩ (by simp only [List.size_toArray]; omega) ?_
    have e : vs.toArray.isEmpty = vs.isEmpty := by simp
    rw [e]
    exact k _ g' h' _ G' rfl) hx
end

/-- what is left when all of these are taken out, the last one first -/
def takeOut (as : List (List Int)) : List (List Int) → List (List Int)
  | [] => as
  | e :: r => (takeOut as r).erase e
/-- each finds one to take -/
def canTake (as : List (List Int)) : List (List Int) → Prop
  | [] => True
  | e :: r => e ∈ takeOut as r ∧ canTake as r

theorem ILs.split {g : Map} : ∀ {vs : List Value} {nss : List (List Int)} {m : List Int}, ILs g vs nss → m ∈ nss → ∃ pre v post npre npost, vs = pre ++ v :: post ∧ nss = npre ++ m :: npost ∧ m ∉ npre ∧ ILs g pre npre ∧ ILv g m v ∧ ILs g post npost ∧ nss.erase m = npre ++ npost
  | _, _, m, .nil, hm => by cases hm
  | _, _, m, .cons (v := v) (ns := ns) (vs := vs) (nss := nss) hd tl, hm => by
    by_cases e : ns = m
    · subst e
      exact ⟨[], v, vs, [], nss, rfl, rfl, by simp, .nil, hd, tl, by simp⟩
    · have hm' : m ∈ nss := by
        rcases List.mem_cons.mp hm with q | q
        · exact absurd q.symm e
        · exact q
      obtain ⟨pre, u, post, npre, npost, h1, h2, h3, h4, h5, h6, h7⟩ := tl.split hm'
      refine ⟨v :: pre, u, post, ns :: npre, npost, by rw [h1]; rfl, by rw [h2]; rfl, ?_, .cons hd h4, h5, h6, ?_⟩
      · intro q
        rcases List.mem_cons.mp q with q | q
        · exact e q.symm
        · exact h3 q
      · rw [List.erase_cons_tail (by simpa using e), h7]; rfl
theorem ILs.append {g : Map} : ∀ {vs us : List Value} {nss mss : List (List Int)}, ILs g vs nss → ILs g us mss → ILs g (vs ++ us) (nss ++ mss)
  | _, _, _, _, .nil, h => h
  | _, _, _, _, .cons hd tl, h => .cons hd (tl.append h)
theorem ILs.last {g : Map} : ∀ {vs : List Value} {nss : List (List Int)}, ILs g vs nss → vs ≠ [] → ∃ us v mss m, vs = us ++ [v] ∧ nss = mss ++ [m] ∧ ILs g us mss ∧ ILv g m v
  | _, _, .nil, hne => absurd rfl hne
  | _, _, .cons (v := v) (ns := ns) hd .nil, _ => ⟨[], v, [], ns, rfl, rfl, .nil, hd⟩
  | _, _, .cons (v := v) (ns := ns) hd (.cons (v := v') (vs := vs') hd' tl), _ => by
    obtain ⟨us, u, mss, m, h1, h2, h3, h4⟩ := ILs.last (.cons hd' tl) (by simp)
    exact ⟨v :: us, u, ns :: mss, m, by rw [h1]; rfl, by rw [h2]; rfl, .cons hd h3, h4⟩
end Mine
end

section
open PySem PySem.W PyProof.Rows
set_option autoImplicit false
set_option linter.unusedVariables false
namespace Mine
open PySem.SeqAt

theorem takeOut_snoc (m : List Int) : ∀ (r as : List (List Int)), takeOut as (r ++ [m]) = takeOut (as.erase m) r
  | [], as => rfl
  | e :: r, as => by show (takeOut as (r ++ [m])).erase e = (takeOut (as.erase m) r).erase e; rw [takeOut_snoc m r as]
theorem canTake_snoc (m : List Int) : ∀ (r as : List (List Int)), canTake as (r ++ [m]) → m ∈ as ∧ canTake (as.erase m) r
  | [], as, h => ⟨h.1, trivial⟩
  | e :: r, as, h => by
    have h1 : e ∈ takeOut as (r ++ [m]) := h.1
    rw [takeOut_snoc] at h1
    obtain ⟨h3, h4⟩ := canTake_snoc m r as h.2
    exact ⟨h3, h1, h4⟩

section
variable {prog : Program} {w : World} {A : Around} {env : Env} {s : Shared} {E : Value → Shared → Prop} {Q : Flow → Shared → Prop} {rest : List Stmt}
theorem Ev.go {α : Type} {g : Map} {t : Sem α} {P : Map → Heap → α → Prop} {Q : α → Shared → Prop} (e : Ev prog w A g s.heap t P) (hn : ∀ b o, g b = some o → s.heap.get? b = some o)
    (k : ∀ v g' h' tk, Gr g s.heap g' h' → P g' h' v → Q v { s with heap := h', toks := tk }) : wpAny (model prog w) A t Q E s := e s g Q E (Gr.refl hn) k
/-- behind a turn of a while -/
def loopK (I : Nat → Shared → Prop) (n : Nat) (Q : Flow → Shared → Prop) (N : Shared → Prop) : Flow → Shared → Prop
  | .next, s' => ∃ j, j < n ∧ I j s'
  | .cont, s' => ∃ j, j < n ∧ I j s'
  | .brk, s' => N s'
  | .ret v, s' => Q (.ret v) s'
theorem ex_while {test : Expr} {body : List Stmt} {pos : Pos} (I : Nat → Shared → Prop)
    (turn : ∀ n s', I n s' → ∀ E', wpAny (model prog w) A (isTrue test env (eval test env)) (fun b s₂ => if b = true then wpAny (model prog w) A (execs body env) (loopK I n Q (fun s₃ => wpAny (model prog w) A (execs rest env) Q E s₃)) E' s₂
      else wpAny (model prog w) A (execs rest env) Q E s₂) E' s') (n : Nat) (h : I n s) : wpAny (model prog w) A (execs (.While test body [] pos :: rest) env) Q E s :=
  ex_cons (wpAny_While (codeAny_whileLoop I (fun n s' hI => wpAny_mono (turn n s' hI _) (fun b s₂ hb => by
    cases b with
    | true => exact wpAny_mono hb (fun f s₃ hf => by cases f <;> exact hf) fun _ _ x => x
    | false => exact wpAny_execs_nil hb) fun _ _ x => x) n h))
end

section
variable {prog : Program} {w : World} {A : Around} {hb : Heap} {mg mb : Str → Option Value}

theorem unord_fn (T : Tp hb mg mb) {s : Shared} {g : Map} {ae aa : Addr} {ves vas : List Value} {ne na : Nat} {es as : List (List Int)} {Q : Value → Shared → Prop} {E : Value → Shared → Prop}
    (hs : ∀ b o, g b = some o → s.heap.get? b = some o) (hbase : ∀ b o, hb.get? b = some o → g b = some o)
    (hae : s.heap.get? ae = some (seqObj "list" ves.toArray ne)) (haa : s.heap.get? aa = some (seqObj "list" vas.toArray na)) (gae : g ae = none) (gaa : g aa = none) (hne : ae ≠ aa)
    (hes : ILs g ves es) (has : ILs g vas as) (hcan : canTake as es) (hz : ves.length ≤ 100) (hz' : vas.length ≤ 100) (hu : A.units + 20 < cLine) (hroom : A.depth < recursionLimit)
    (k : ∀ at_ am vas' na' nm g' h' tk, Gr g (hideAll s.heap [ae, aa]) g' h' → g' at_ = some (seqObj "tuple" [Value.ref am, Value.ref aa].toArray 0) → g' am = some (seqObj "list" ([] : List Value).toArray nm) →
      h'.get? aa = some (seqObj "list" (vas' : List Value).toArray na') → g' aa = none → ILs g' vas' (takeOut as es) → Q (.ref at_) { s with heap := h', toks := tk }) :
    wpAny (model prog w) A (call (.ref 78) [.ref ae, .ref aa]) Q E s := by
  obtain ⟨o, doc, pm, an, cd, ct, ho, hd, hcd⟩ := T.fUnord
  have hbs : ∀ b o, hb.get? b = some o → s.heap.get? b = some o := fun b o e => hs _ _ (hbase _ _ e)
  have sub₀ : ∀ b o, (hideAll s.heap [ae, aa]).get? b = some o → s.heap.get? b = some o := fun b o e => of_hideAll _ e
  have get₀ : ∀ b o, s.heap.get? b = some o → b ≠ ae → b ≠ aa → (hideAll s.heap [ae, aa]).get? b = some o := fun b o e h1 h2 => hideAll_get _ e (by simp [h1, h2])
  have g_get₀ : ∀ b o, g b = some o → (hideAll s.heap [ae, aa]).get? b = some o := fun b o e => get₀ b o (hs _ _ e) (fun q => by rw [q, gae] at e; cases e) (fun q => by rw [q, gaa] at e; cases e)
  refine wpAny_call (codeAny_call_def (binds := [(Str.ofString "expected", .ref ae), (Str.ofString "actual", .ref aa)]) hroom (hbs _ _ ho) hd (T.nolimit.keeps hbs) (hcd.keeps hbs) rfl (BindsTo.of_eq rfl) (by show ∀ x ∈ (fnScope (top 4)).names, x.2 ≠ .cell; decide) (locs rfl) (fun h₁ hns hkp => ?_))
  -- the frame
  have hLs : s.heap.get? s.heap.objs.size = none := get_new _
  have neL : ∀ b o, s.heap.get? b = some o → b ≠ s.heap.objs.size := fun b o e q => by rw [q, hLs] at e; cases e
  have F₁ : Fm g (hideAll s.heap [ae, aa]) (callEnv (fdOf (top 4) "unorderable_list_difference" doc pm an cd ct) s.heap.objs.size 78) (fun x => [(Str.ofString "expected", Value.ref ae), (Str.ofString "actual", Value.ref aa)].reverse.lookup x) (fun _ => none)
      [(ae, seqObj "list" ves.toArray ne), (aa, seqObj "list" vas.toArray na)] g h₁ := {
    gr := Gr.of_heap g_get₀ fun b o e => hkp _ _ (sub₀ _ _ e)
    ns := hns
    nl := by
      show (hideAll s.heap [ae, aa]).get? s.heap.objs.size = none
      cases q : (hideAll s.heap [ae, aa]).get? s.heap.objs.size with
      | none => rfl
      | some o => have := sub₀ _ _ q; rw [hLs] at this; cases this
    gl := g_new hs hLs
    cells := fun n c e => by cases e
    apart := fun n n' c e => by cases e
    led := fun p hp => by
      rcases List.mem_cons.mp hp with rfl | hp
      · exact ⟨hkp _ _ hae, gae, neL _ _ hae, fun n c e => (by cases e), hideAll_none _ (by simp)⟩
      · rw [List.mem_singleton.mp hp]
        exact ⟨hkp _ _ haa, gaa, neL _ _ haa, fun n c e => (by cases e), hideAll_none _ (by simp)⟩
    nd := by simp [hne] }
  refine ex_expr F₁ ev_str fun g₂ h₂ tk₂ hs₂ F₂ => ?_
  refine ex_assignN (R := nilP) F₂ (ev_list mono_nilP spl_nil fun _ _ vs p => by rw [p]; simp) fun am vs₀ nm g₃ h₃' h₃ tk₃ hs₃ pn F₃ => ?_
  cases pn
  have sub₃ : ∀ b o, g b = some o → g₃ b = some o := fun b o e => hs₃ _ _ (hs₂ _ _ e)
  refine ex_while (fun j s' => ∃ h' tk' g' m' ves' es' ne' vas' as' na', s' = { s with heap := h', toks := tk' } ∧ j = ves'.length + 1 ∧ (∀ b o, g₃ b = some o → g' b = some o) ∧ m' "expected" = some (.ref ae) ∧ m' "actual" = some (.ref aa) ∧ m' "missing" = some (.ref am) ∧
      Fm g (hideAll s.heap [ae, aa]) (callEnv (fdOf (top 4) "unorderable_list_difference" doc pm an cd ct) s.heap.objs.size 78) m' (fun _ => none) [(am, seqObj "list" ([] : List Value).toArray nm), (ae, seqObj "list" (ves' : List Value).toArray ne'), (aa, seqObj "list" (vas' : List Value).toArray na')] g' h' ∧
      ILs g' ves' es' ∧ ILs g' vas' as' ∧ canTake as' es' ∧ takeOut as' es' = takeOut as es ∧ ves'.length ≤ 100 ∧ vas'.length ≤ 100) ?_ (ves.length + 1)
    ⟨h₃, tk₃, g₃, _, ves, es, ne, vas, as, na, rfl, rfl, fun _ _ e => e, rfl, rfl, rfl, F₃, hes.mono sub₃, has.mono sub₃, hcan, rfl, hz, hz'⟩
  rintro j s' ⟨h', tk', g', m', ves', es', ne', vas', as', na', rfl, rfl, hsub, mE, mA, mM, F, hes', has', hcan', htk, hz1, hz2⟩ E'
  have haE : h'.get? ae = some (seqObj "list" ves'.toArray ne') := F.at_ (by simp)
  refine Ev.go (P := isB (!ves'.isEmpty)) (test_list (a := ae) (n := ne') (F.loc (v := .ref ae) mE rfl (mono_isV _)) haE (by omega)) F.now fun b g₄ h₄ tk₄ G₄ pb => ?_
  cases pb
  have F₄ := F.grow G₄
  cases hemp : ves'.isEmpty with
  | true =>
    simp only [Bool.not_true, Bool.false_eq_true, if_false]
    have hv0 : ves' = [] := List.isEmpty_iff.mp hemp
    subst hv0
    cases hes' with
    | nil =>
    refine ex_return (P := TupOf (consP (isV (.ref am)) (consP (isV (.ref aa)) nilP))) F₄ (ev_tuple (mono_consP (mono_isV _) (mono_consP (mono_isV _) mono_nilP))
      (spl_cons (mono_isV _) (F₄.loc (v := .ref am) mM rfl (mono_isV _)) (spl_cons (mono_isV _) (F₄.loc (v := .ref aa) mA rfl (mono_isV _)) spl_nil)) ?_) fun u g₅ h₅ tk₅ hs₅ pu F₅ => ?_
    · rintro g' h' vs ⟨a, r, rfl, _, b, r', rfl, _, p⟩
      cases p; simp
    · obtain ⟨at_, vs, rfl, hat, x, r, rfl, p1, y, r', rfl, p2, p3⟩ := pu
      cases p1; cases p2; cases p3
      have F₆ := F₅.freeze
      refine k at_ am vas' na' nm _ h₅ tk₅ F₆.gr (F₅.freeze_sub _ _ hat) (upd_self _ _ _) (F₆.at_ (by simp)) (F₆.led _ (List.mem_cons_of_mem _ (List.mem_singleton.mpr rfl))).2.1 ?_
      rw [← htk]
      exact has'.mono fun b o e => F₅.freeze_sub _ _ (hs₅ _ _ (G₄.sub _ _ e))
  | false =>
    simp only [Bool.not_false, if_true]
    have hv0 : ves' ≠ [] := fun q => by rw [q] at hemp; cases hemp
    obtain ⟨us, v, mss, mm, rfl, rfl, hus, hv⟩ := hes'.last hv0
    refine ex_pop (W₁ := [(am, _)]) (W₂ := [(aa, _)]) F₄ (by omega) (F₄.loc (v := .ref ae) mE rfl (mono_isV _)) fun g₅ h₅ tk₅ hs₅ F₅ => ?_
    refine ex_try fun E'' => ?_
    obtain ⟨hmem, hcan2⟩ := canTake_snoc _ _ _ hcan'
    have sub₅ : ∀ b o, g' b = some o → g₅ b = some o := fun b o e => hs₅ _ _ (G₄.sub _ _ e)
    have hv₅ : ILv g₅ mm v := mono_ILv _ _ _ _ sub₅ hv
    refine ex_meth1 (a := aa) (P := fun g _ u => u = v ∧ ILv g mm u) F₅ PySem.F.slot_list_remove PySem.F.type_list_remove (F₅.loc (v := .ref aa) mA rfl (mono_isV _)) (F₅.at_ (List.mem_append_right _ (.tail _ (.head _))))
      (F₅.loc (v := v) rfl ⟨rfl, hv₅⟩ (fun g h g' h' u G p => ⟨p.1, mono_ILv _ _ _ _ G.sub p.2⟩)) fun u g₆ h₆ tk₆ hs₆ pu F₆ ha₆ => ?_
    obtain ⟨rfl, hu⟩ := pu
    have sub₆ : ∀ b o, g' b = some o → g₆ b = some o := fun b o e => hs₆ _ _ (sub₅ _ _ e)
    have has₆ := has'.mono sub₆
    obtain ⟨pre, x, post, npre, npost, rfl, rfl, hnot, hpre, hx, hpost, herase⟩ := has₆.split hmem
    refine cl_remove (n := na') (e := likeB g₆ mm) (pre := pre) (post := post) (v := x) ha₆ (fun y hy => ?_) ?_ (fun y hy => ?_) (by omega) fun h₇ hs₇ hg₇ => ?_
    · obtain ⟨ns, h1, h2⟩ := hpre.mem y hy
      have : ¬ ILv g₆ mm y := fun q => hnot ((h2.det q) ▸ h1)
      unfold likeB; simp [this]
    · unfold likeB; simp [hx]
    · exact eqAt_like F₆.now has₆ hu (by show A.units + 3 + 1 + 2 < cLine; omega) y hy
    · have F₇ := Fm.change (W₁ := [(am, _), (ae, _)]) (W₂ := []) F₆ hs₇ hg₇
      refine wpAny_execs_nil (wpAny_execs_nil (wpAny_execs_nil ?_))
      refine ⟨us.length + 1, by simp, h₇, tk₆, g₆, _, us, mss, _, pre ++ post, npre ++ npost, _, rfl, rfl, fun b o e => sub₆ _ _ (hsub _ _ e), ?_, ?_, ?_, F₇, hus.mono sub₆, hpre.append hpost, ?_, ?_, ?_, ?_⟩
      · exact mE
      · exact mA
      · exact mM
      · rw [← herase]; exact hcan2
      · rw [← htk, takeOut_snoc, herase]
      · simp at hz1; omega
      · simp at hz2 ⊢; omega
end
end Mine
end

section
open PySem PySem.W PyProof.Rows
set_option autoImplicit false
set_option linter.unusedVariables false
namespace Mine

/-- the tree of questions, answered by an order -/
def kRun {α : Type} (lt : Nat → Nat → Bool) : KasT α → α
  | .ret a => a
  | .ask i j k => kRun lt (k (lt i j))
theorem kRun_bind {α β : Type} (lt : Nat → Nat → Bool) (f : α → KasT β) : ∀ t : KasT α, kRun lt (t.bind f) = kRun lt (f (kRun lt t))
  | .ret a => rfl
  | .ask i j k => kRun_bind lt f (k (lt i j))
theorem kRun_wp {α : Type} {lt : Nat → Nat → Bool} {cmp : Nat → Nat → (Bool → Shared → Prop) → Shared → Prop} {s : Shared} (hc : ∀ i j C, C (lt i j) s → cmp i j C s) : ∀ (t : KasT α) {Q : α → Shared → Prop}, Q (kRun lt t) s → t.kasWp cmp Q s
  | .ret a, Q, h => h
  | .ask i j k, Q, h => hc i j _ (kRun_wp hc (k (lt i j)) h)

section
variable (key : Nat → Int)
def kK (p : Array Nat) (i : Nat) : Int := key (p.getD i 0)
def kLt (i j : Nat) : Bool := decide (key i < key j)
def SrtTo (p : Array Nat) (k : Nat) : Prop := ∀ i j, i < j → j < k → kK key p i < kK key p j
def DecTo (p : Array Nat) (k : Nat) : Prop := ∀ i j, i < j → j < k → kK key p j < kK key p i
variable {key}

theorem kK_bubble {p : Array Nat} {src d : Nat} (hs : src < p.size) (hd : d ≤ src) (k : Nat) :
    kK key (bubble p src d) k = if k = src - d then kK key p src else if src - d < k ∧ k ≤ src then kK key p (k - 1) else kK key p k := by
  have e := getElem?_bubble hs d hd k
  unfold kK
  rw [Array.getD_eq_getD_getElem?, e]
  by_cases h1 : k = src - d
  · simp [h1, Array.getD_eq_getD_getElem?]
  · by_cases h2 : src - d < k ∧ k ≤ src
    · simp [h1, h2, Array.getD_eq_getD_getElem?]
    · simp [h1, h2, Array.getD_eq_getD_getElem?]
theorem kK_rev {p : Array Nat} {i j : Nat} (hj : j ≤ p.size) (k : Nat) : kK key (kas_rev p i j) k = if i ≤ k ∧ k < j then kK key p (i + j - 1 - k) else kK key p k := by
  have e := getElem?_mirror_all (i := i) hj k
  unfold kK kas_rev
  rw [Array.getD_eq_getD_getElem?, e]
  by_cases h1 : i ≤ k ∧ k < j
  · simp [h1, Array.getD_eq_getD_getElem?]
  · simp [h1, Array.getD_eq_getD_getElem?]

/-- an upward run goes on -/
theorem asc_spec (p : Array Nat) (hinj : ∀ i j, i < p.size → j < p.size → kK key p i = kK key p j → i = j) : ∀ (f n : Nat), 1 ≤ n → n + f ≤ p.size → SrtTo key p n →
    n ≤ kRun (kLt key) (kas_asc p f n) ∧ kRun (kLt key) (kas_asc p f n) ≤ n + f ∧ SrtTo key p (kRun (kLt key) (kas_asc p f n)) ∧
      (kRun (kLt key) (kas_asc p f n) = n + f ∨ kK key p (kRun (kLt key) (kas_asc p f n)) < kK key p (kRun (kLt key) (kas_asc p f n) - 1))
  | 0, n, h1, hz, hs => ⟨Nat.le_refl _, Nat.le_refl _, hs, .inl rfl⟩
  | f + 1, n, h1, hz, hs => by
    have e : kRun (kLt key) (kas_asc p (f + 1) n) = kRun (kLt key) (if kLt key (p.getD n 0) (p.getD (n - 1) 0) = true then .ret n else kas_asc p f (n + 1)) := rfl
    rw [e]
    by_cases hc : kLt key (p.getD n 0) (p.getD (n - 1) 0) = true
    · rw [if_pos hc]
      show n ≤ n ∧ n ≤ n + (f + 1) ∧ SrtTo key p n ∧ (n = n + (f + 1) ∨ kK key p n < kK key p (n - 1))
      exact ⟨Nat.le_refl _, by omega, hs, .inr (of_decide_eq_true hc)⟩
    · rw [if_neg hc]
      have hc' : ¬ (kK key p n < kK key p (n - 1)) := fun q => hc (decide_eq_true q)
      have hs' : SrtTo key p (n + 1) := by
        intro i j hij hj
        by_cases hjn : j < n
        · exact hs i j hij hjn
        · have hj' : j = n := by omega
          subst hj'
          have hne : kK key p (j - 1) ≠ kK key p j := fun q => by have := hinj _ _ (by omega) (by omega) q; omega
          by_cases hi : i = j - 1
          · subst hi; omega
          · have := hs i (j - 1) (by omega) (by omega); omega
      obtain ⟨a, b, c, d⟩ := asc_spec p hinj f (n + 1) (by omega) (by omega) hs'
      exact ⟨by omega, by omega, c, d.imp (fun e => by omega) fun e => e⟩

/-- a downward run -/
theorem desc_spec (p : Array Nat) (hinj : ∀ i j, i < p.size → j < p.size → kK key p i = kK key p j → i = j) : ∀ (f n : Nat), 1 ≤ n → n + f ≤ p.size → DecTo key p n →
    ∃ m, kRun (kLt key) (kas_desc f p n 0) = (p, m, 0) ∧ n ≤ m ∧ m ≤ n + f ∧ DecTo key p m
  | 0, n, h1, hz, hs => ⟨n, rfl, Nat.le_refl _, Nat.le_refl _, hs⟩
  | f + 1, n, h1, hz, hs => by
    unfold kas_desc
    simp only [kRun]
    by_cases hc : kLt key (p.getD n 0) (p.getD (n - 1) 0) = true
    · rw [if_pos hc, if_neg (by omega)]
      have hc' : kK key p n < kK key p (n - 1) := of_decide_eq_true hc
      have hs' : DecTo key p (n + 1) := by
        intro i j hij hj
        by_cases hjn : j < n
        · exact hs i j hij hjn
        · have hj' : j = n := by omega
          subst hj'
          by_cases hi : i = j - 1
          · subst hi; exact hc'
          · have := hs i (j - 1) (by omega) (by omega); omega
      obtain ⟨m, a, b, c, d⟩ := desc_spec p hinj f (n + 1) (by omega) (by omega) hs'
      exact ⟨m, a, by omega, by omega, d⟩
    · rw [if_neg hc]
      simp only [kRun]
      have hc' : ¬ (kK key p n < kK key p (n - 1)) := fun q => hc (decide_eq_true q)
      have hne : kK key p (n - 1) ≠ kK key p n := fun q => by have := hinj _ _ (by omega) (by omega) q; omega
      have hd : kLt key (p.getD (n - 1) 0) (p.getD n 0) = true := decide_eq_true (by show kK key p (n - 1) < kK key p n; omega)
      rw [if_pos hd]
      exact ⟨n, rfl, Nat.le_refl _, by omega, hs⟩

/-- the place of an item among the sorted ones below it -/
theorem place_spec (p : Array Nat) (k : Nat) (hk : k < p.size) (hinj : ∀ i j, i < p.size → j < p.size → kK key p i = kK key p j → i = j) (hs : SrtTo key p k) : ∀ (f l r : Nat), l ≤ r → r ≤ k → r - l ≤ f → (∀ i, i < l → kK key p i < kK key p k) → (∀ i, r ≤ i → i < k → kK key p k < kK key p i) →
    kRun (kLt key) (kas_place p k f l r) ≤ k ∧ (∀ i, i < kRun (kLt key) (kas_place p k f l r) → kK key p i < kK key p k) ∧ (∀ i, kRun (kLt key) (kas_place p k f l r) ≤ i → i < k → kK key p k < kK key p i)
  | 0, l, r, h1, h2, h3, hl, hr => by
    show l ≤ k ∧ (∀ i, i < l → _) ∧ (∀ i, l ≤ i → _)
    have : l = r := by omega
    subst this
    exact ⟨h2, hl, hr⟩
  | f + 1, l, r, h1, h2, h3, hl, hr => by
    unfold kas_place
    by_cases hlr : l ≥ r
    · rw [if_pos hlr]
      have : l = r := by omega
      subst this
      exact ⟨h2, hl, hr⟩
    · rw [if_neg hlr]
      simp only [kRun]
      have hm1 : l ≤ (l + r) / 2 := by omega
      have hm2 : (l + r) / 2 < r := by omega
      by_cases hc : kLt key (p.getD k 0) (p.getD ((l + r) / 2) 0) = true
      · rw [if_pos hc]
        have hc' : kK key p k < kK key p ((l + r) / 2) := of_decide_eq_true hc
        refine place_spec p k hk hinj hs f l ((l + r) / 2) hm1 (by omega) (by omega) hl fun i hi hik => ?_
        by_cases q : i = (l + r) / 2
        · subst q; exact hc'
        · have := hs ((l + r) / 2) i (by omega) hik; omega
      · rw [if_neg hc]
        have hc' : ¬ (kK key p k < kK key p ((l + r) / 2)) := fun q => hc (decide_eq_true q)
        have hne : kK key p ((l + r) / 2) ≠ kK key p k := fun q => by have := hinj _ _ (by omega) hk q; omega
        refine place_spec p k hk hinj hs f ((l + r) / 2 + 1) r (by omega) h2 (by omega) (fun i hi => ?_) hr
        by_cases q : i = (l + r) / 2
        · subst q; omega
        · have := hs i ((l + r) / 2) (by omega) (by omega); omega

/-- p is an order of the first n places -/
structure Ord (key : Nat → Int) (n : Nat) (p : Array Nat) : Prop where
  perm : p.toList.Perm (List.range n)
theorem Ord.size {n : Nat} {p : Array Nat} (h : Ord key n p) : p.size = n := by have := h.perm.length_eq; simpa using this
theorem Ord.inj {n : Nat} {p : Array Nat} (h : Ord key n p) (hk : ∀ i j, i < n → j < n → key i = key j → i = j) : ∀ i j, i < p.size → j < p.size → kK key p i = kK key p j → i = j := fun i j hi hj e => by
  have nd : p.toList.Nodup := h.perm.nodup_iff.mpr List.nodup_range
  have mem : ∀ i (hi : i < p.size), p.getD i 0 < n ∧ p.getD i 0 = p.toList[i]'(by simpa using hi) := fun i hi => by
    have e1 : p.getD i 0 = p[i] := by simp [Array.getD, hi]
    have : p[i] ∈ p.toList := by simp
    exact ⟨by rw [e1]; exact List.mem_range.mp (h.perm.mem_iff.mp this), by rw [e1]; simp⟩
  have e2 := hk _ _ (mem i hi).1 (mem j hj).1 e
  rw [(mem i hi).2, (mem j hj).2] at e2
  exact (List.getElem_inj nd).mp e2
theorem Ord.bubble {n : Nat} {p : Array Nat} (h : Ord key n p) (src d : Nat) : Ord key n (bubble p src d) := ⟨(Array.perm_iff_toList_perm.mp (bubble_perm p src d)).trans h.perm⟩
theorem Ord.rev {n : Nat} {p : Array Nat} (h : Ord key n p) (i j : Nat) : Ord key n (kas_rev p i j) := ⟨(Array.perm_iff_toList_perm.mp (mirror_perm p i j _)).trans h.perm⟩

theorem bin_spec (n : Nat) (hk : ∀ i j, i < n → j < n → key i = key j → i = j) : ∀ (f k : Nat) (p : Array Nat), k + f = n → Ord key n p → SrtTo key p k → Ord key n (kRun (kLt key) (kas_bin f p k)) ∧ SrtTo key (kRun (kLt key) (kas_bin f p k)) n
  | 0, k, p, hn, ho, hs => by
    have : k = n := by omega
    subst this
    exact ⟨ho, hs⟩
  | f + 1, k, p, hn, ho, hs => by
    unfold kas_bin
    rw [kRun_bind]
    have hkz : k < p.size := by rw [ho.size]; omega
    obtain ⟨h1, h2, h3⟩ := place_spec p k hkz (ho.inj hk) hs k 0 k (Nat.zero_le _) (Nat.le_refl _) (by omega) (fun i hi => by omega) (fun i hi hik => by omega)
    refine bin_spec n hk f (k + 1) _ (by omega) (ho.bubble _ _) ?_
    generalize kRun (kLt key) (kas_place p k k 0 k) = l at h1 h2 h3
    intro i j hij hj
    rw [kK_bubble hkz (by omega), kK_bubble hkz (by omega)]
    have e : k - (k - l) = l := by omega
    rw [e]
    by_cases i1 : i = l
    · rw [if_pos i1, if_neg (by omega), if_pos (by omega)]
      exact h3 _ (by omega) (by omega)
    · rw [if_neg i1]
      by_cases i2 : l < i ∧ i ≤ k
      · rw [if_pos i2, if_neg (by omega), if_pos (by omega)]
        exact hs _ _ (by omega) (by omega)
      · rw [if_neg i2]
        by_cases j1 : j = l
        · rw [if_pos j1]; exact h2 _ (by omega)
        · rw [if_neg j1]
          by_cases j2 : l < j ∧ j ≤ k
          · rw [if_pos j2]
            by_cases q : i = j - 1
            · omega
            · exact hs _ _ (by omega) (by omega)
          · rw [if_neg j2]; exact hs _ _ (by omega) (by omega)

theorem sort_spec (n : Nat) (h2 : 2 ≤ n) (hk : ∀ i j, i < n → j < n → key i = key j → i = j) : Ord key n (kRun (kLt key) (kas_sort n)) ∧ SrtTo key (kRun (kLt key) (kas_sort n)) n := by
  have ho : Ord key n (List.toArray (List.range n)) := ⟨List.Perm.refl _⟩
  have hz : (List.toArray (List.range n)).size = n := ho.size
  have hs1 : SrtTo key (List.toArray (List.range n)) 1 := fun i j hij hj => by omega
  have count : ∃ m p, kRun (kLt key) (kas_count n (List.toArray (List.range n))) = (m, p) ∧ 1 ≤ m ∧ m ≤ n ∧ Ord key n p ∧ SrtTo key p m := by
    unfold kas_count
    rw [kRun_bind]
    obtain ⟨a, b, c, d⟩ := asc_spec (List.toArray (List.range n)) (ho.inj hk) (n - 1) 1 (Nat.le_refl _) (by omega) hs1
    generalize kRun (kLt key) (kas_asc (List.toArray (List.range n)) (n - 1) 1) = r at a b c d
    by_cases hr : (r == n) = true
    · rw [if_pos hr]
      exact ⟨r, _, rfl, a, by omega, ho, c⟩
    · rw [if_neg hr]
      have hrn : r ≠ n := fun q => hr (by simp [q])
      by_cases h1 : r > 1
      · rw [if_pos h1]
        simp only [kRun]
        have : kLt key ((List.toArray (List.range n)).getD 0 0) ((List.toArray (List.range n)).getD (r - 1) 0) = true := decide_eq_true (c 0 (r - 1) (by omega) (by omega))
        rw [if_pos this]
        exact ⟨r, _, rfl, a, by omega, ho, c⟩
      · rw [if_neg h1]
        have hr1 : r = 1 := by omega
        subst hr1
        have d' := d.resolve_left (by omega)
        unfold kas_descPart
        rw [kRun_bind]
        have hd2 : DecTo key (List.toArray (List.range n)) 2 := fun i j hij hj => by
          have hi : i = 0 := by omega
          have hj' : j = 1 := by omega
          subst hi; subst hj'
          exact d'
        obtain ⟨m, e1, e2, e3, e4⟩ := desc_spec (List.toArray (List.range n)) (ho.inj hk) (n - 2) 2 (by omega) (by omega) hd2
        rw [e1]
        dsimp only
        rw [if_neg (by omega)]
        unfold kas_tail3
        rw [kRun_bind]
        have ho' := ho.rev 0 m
        have hs' : SrtTo key (kas_rev (List.toArray (List.range n)) 0 m) m := by
          intro i j hij hj
          rw [kK_rev (by omega), kK_rev (by omega), if_pos (by omega), if_pos (by omega)]
          exact e4 _ _ (by omega) (by omega)
        obtain ⟨a', b', c', _⟩ := asc_spec (kas_rev (List.toArray (List.range n)) 0 m) (ho'.inj hk) (n - m) m (by omega) (by rw [ho'.size]; omega) hs'
        exact ⟨_, _, rfl, by omega, by omega, ho', c'⟩
  obtain ⟨m, p, e, h1, hm, hop, hsp⟩ := count
  unfold kas_sort
  rw [kRun_bind, e]
  dsimp only
  by_cases hlt : m < n
  · rw [if_pos hlt]
    have : max m 1 = m := by omega
    rw [this]
    exact bin_spec n hk (n - m) m p (by omega) hop hsp
  · rw [if_neg hlt]
    have : m = n := by omega
    subst this
    exact ⟨hop, hsp⟩
end
end Mine
end

section
open PySem PySem.W PyProof.Rows
set_option autoImplicit false
set_option linter.unusedVariables false
namespace Mine

/-- whatever the answers, only places below n are asked for, and the end is such -/
def Safe {α : Type} (n : Nat) : KasT α → (α → Prop) → Prop
  | .ret a, R => R a
  | .ask i j k, R => i < n ∧ j < n ∧ ∀ b, Safe n (k b) R
theorem Safe.bind {α β : Type} {n : Nat} {f : α → KasT β} {R : α → Prop} {R' : β → Prop} : ∀ {t : KasT α}, Safe n t R → (∀ a, R a → Safe n (f a) R') → Safe n (t.bind f) R'
  | .ret a, h, hf => hf a h
  | .ask i j k, h, hf => ⟨h.1, h.2.1, fun b => Safe.bind (h.2.2 b) hf⟩
theorem safe_wp {α : Type} {n : Nat} {R : α → Prop} {lt : Nat → Nat → Bool} {cmp : Nat → Nat → (Bool → Shared → Prop) → Shared → Prop} {s : Shared} (hc : ∀ i j C, i < n → j < n → C (lt i j) s → cmp i j C s) : ∀ (t : KasT α) {Q : α → Shared → Prop}, Safe n t R → Q (kRun lt t) s → t.kasWp cmp Q s
  | .ret a, Q, _, h => h
  | .ask i j k, Q, hsafe, h => hc i j _ hsafe.1 hsafe.2.1 (safe_wp hc (k (lt i j)) (hsafe.2.2 _) h)

section
variable {key : Nat → Int} {n : Nat}
theorem Ord.lt {p : Array Nat} (h : Ord key n p) (hn : 0 < n) (i : Nat) : p.getD i 0 < n := by
  by_cases hi : i < p.size
  · have e1 : p.getD i 0 = p[i] := by simp [Array.getD, hi]
    have : p[i] ∈ p.toList := by simp
    rw [e1]; exact List.mem_range.mp (h.perm.mem_iff.mp this)
  · have e1 : p.getD i 0 = 0 := by simp [Array.getD, hi]
    rw [e1]; exact hn
theorem safe_asc {p : Array Nat} (ho : Ord key n p) (hn : 0 < n) : ∀ f m, Safe n (kas_asc p f m) (fun _ => True)
  | 0, m => trivial
  | f + 1, m => ⟨ho.lt hn _, ho.lt hn _, fun b => by
    cases b with
    | true => exact trivial
    | false => exact safe_asc ho hn f (m + 1)⟩
theorem safe_desc (hn : 0 < n) : ∀ f (p : Array Nat) m q, Ord key n p → Safe n (kas_desc f p m q) (fun r => Ord key n r.1)
  | 0, p, m, q, ho => ho
  | f + 1, p, m, q, ho => ⟨ho.lt hn _, ho.lt hn _, fun b => by
    cases b with
    | true =>
      show Safe n (if q > 0 then kas_desc f (kas_rev p (m - (q + 1)) m) (m + 1) 0 else kas_desc f p (m + 1) 0) _
      split
      · exact safe_desc hn f _ _ _ (ho.rev _ _)
      · exact safe_desc hn f _ _ _ ho
    | false =>
      refine ⟨ho.lt hn _, ho.lt hn _, fun d => ?_⟩
      cases d with
      | true => exact ho
      | false => exact safe_desc hn f _ _ _ ho⟩
theorem safe_tail3 (hn : 0 < n) {p : Array Nat} (ho : Ord key n p) (m nrem : Nat) : Safe n (kas_tail3 m nrem p) (fun r => Ord key n r.2) :=
  Safe.bind (safe_asc (ho.rev 0 m) hn _ _) fun _ _ => ho.rev 0 m
theorem safe_descPart (hn : 0 < n) {p : Array Nat} (ho : Ord key n p) (m nrem : Nat) : Safe n (kas_descPart m nrem p) (fun r => Ord key n r.2) :=
  Safe.bind (safe_desc hn _ p _ _ ho) fun r hr => by
    split
    · exact safe_tail3 hn (hr.rev _ _) _ _
    · exact safe_tail3 hn hr _ _
theorem safe_count (hn : 0 < n) {p : Array Nat} (ho : Ord key n p) (nrem : Nat) : Safe n (kas_count nrem p) (fun r => Ord key n r.2) :=
  Safe.bind (safe_asc ho hn _ _) fun m _ => by
    split
    · exact ho
    · split
      · refine ⟨ho.lt hn _, ho.lt hn _, fun c => ?_⟩
        cases c with
        | true => exact ho
        | false => exact safe_descPart hn (ho.rev _ _) _ _
      · exact safe_descPart hn ho _ _
theorem safe_place (hn : 0 < n) {p : Array Nat} (ho : Ord key n p) (k : Nat) : ∀ f l r, Safe n (kas_place p k f l r) (fun _ => True)
  | 0, l, r => trivial
  | f + 1, l, r => by
    unfold kas_place
    split
    · exact trivial
    · refine ⟨ho.lt hn _, ho.lt hn _, fun c => ?_⟩
      cases c with
      | true => exact safe_place hn ho k f _ _
      | false => exact safe_place hn ho k f _ _
theorem safe_bin (hn : 0 < n) : ∀ f (p : Array Nat) k, Ord key n p → Safe n (kas_bin f p k) (fun r => Ord key n r)
  | 0, p, k, ho => ho
  | f + 1, p, k, ho => Safe.bind (safe_place hn ho k _ _ _) fun l _ => safe_bin hn f _ _ (ho.bubble _ _)
theorem safe_sort (hn : 0 < n) : Safe n (kas_sort n) (fun r => Ord key n r) :=
  Safe.bind (safe_count hn ⟨List.Perm.refl _⟩ _) fun r hr => by
    split
    · exact safe_bin hn _ _ _ hr
    · exact hr
end
end Mine
end

section
open PySem PySem.W PyProof.Rows
set_option autoImplicit false
set_option linter.unusedVariables false
namespace Mine
open PySem.SeqAt MeetsSeq MeetsSeq2 MeetsSeq3 AutoSeq1 SeqRoads2

/-- pairs, as the order of lists sees them -/
def pLt (w k w' k' : Int) : Bool := decide (w < w') || (w == w' && decide (k < k'))

section
variable {l b : Addr} {w k w' k' : Int} {t u t' u' : Tok} {n n' : Nat} {xs ys : Array Value}

/-- both lists have so many items, all alike from here on: none is less -/
theorem lt_end {i : Nat} (h1 : xs.size = i) (h2 : ys.size = i) : Meets (Builtin.«list.__eq__.loop» ⟨[.ref l, .ref b, rawInt i, rawInt 0], []⟩)
    (fun A R s => s.heap.get? l = some (seqObj "list" xs n) ∧ s.heap.get? b = some (seqObj "list" ys n') ∧ R (.ok (.ret (.bool false))) s) := by
  intro prog wd A R s h
  obtain ⟨hp, g, d, tk, os⟩ := s; obtain ⟨hl, hb, h⟩ := h
  wp_walk using wpAny_loadPart' hl, wpAny_loadPart' hb
  have e1 : xs[((i : Nat) : Int).toNat]? = none := by simp; omega
  have e2 : ys[((i : Nat) : Int).toNat]? = none := by simp; omega
  rw [e1, e2]
  wp_walk using wpAny_loadPart' hl, wpAny_loadPart' hb
  show R (.ok (.ret (.bool (decide (xs.size < ys.size))))) _
  rw [h1, h2, decide_eq_false (Nat.lt_irrefl _)]
  exact h
theorem lt_step {i : Nat} {S : Bool} (hx : xs[i]? = some (.int k u)) (hy : ys[i]? = some (.int k' u'))
    (ih : Meets (Builtin.«list.__eq__.loop» ⟨[.ref l, .ref b, rawInt (i + 1 : Nat), rawInt 0], []⟩)
      (fun A R s => s.heap.get? l = some (seqObj "list" xs n) ∧ s.heap.get? b = some (seqObj "list" ys n') ∧ R (.ok (.ret (.bool S))) s)) :
    Meets (Builtin.«list.__eq__.loop» ⟨[.ref l, .ref b, rawInt i, rawInt 0], []⟩)
      (fun A R s => s.heap.get? l = some (seqObj "list" xs n) ∧ s.heap.get? b = some (seqObj "list" ys n') ∧ R (.ok (.ret (.bool (decide (k < k') || (k == k' && S))))) s) := by
  intro prog wd A R s h
  obtain ⟨hp, g, d, tk, os⟩ := s; obtain ⟨hl, hb, h⟩ := h
  wp_walk using wpAny_loadPart' hl, wpAny_loadPart' hb
  have e1 : xs[((i : Nat) : Int).toNat]? = some (.int k u) := by simpa using hx
  have e2 : ys[((i : Nat) : Int).toNat]? = some (.int k' u') := by simpa using hy
  rw [e1, e2]
  refine wpAny_bind (EqAt.int_int k u k' u' prog wd _ _ ?_)
  by_cases hk : k = k'
  · subst hk
    have hc : ((i : Nat) : Int) + 1 = ((i + 1 : Nat) : Int) := by push_cast; rfl
    simp only [beq_self_eq_true, if_true]
    wp_walk
    rw [hc]
    refine ⟨plainId_quiet plain_eq_loop _, codeAny_builtin entry_eq_loop ?_⟩
    rw [Around.under_plainId plain_eq_loop _]
    exact ih prog wd A R _ ⟨hl, hb, by simpa using h⟩
  · have hk' : (k == k') = false := by simpa using hk
    rw [hk'] at h ⊢
    wp_walk using wpAny_loadPart' hl, wpAny_loadPart' hb
    rw [e1, e2]
    refine wpAny_bind (P.lt_int ?_)
    wp_walk
    simpa using h

theorem lt_pairs (h1 : xs.size = 2) (h2 : ys.size = 2) (x0 : xs[0]? = some (.int w t)) (x1 : xs[1]? = some (.int k u)) (y0 : ys[0]? = some (.int w' t')) (y1 : ys[1]? = some (.int k' u')) :
    Meets (Builtin.«list.__lt__» ⟨[.ref l, .ref b], []⟩)
      (fun A R s => s.heap.get? l = some (seqObj "list" xs n) ∧ s.heap.get? b = some (seqObj "list" ys n') ∧ R (.ok (.ret (.bool (decide (w < w') || (w == w' && (decide (k < k') || (k == k' && false))))))) s) := by
  intro prog wd A R s h
  have st := lt_step (l := l) (b := b) (n := n) (n' := n') (i := 0) x0 y0 (lt_step (i := 1) x1 y1 (lt_end (i := 2) h1 h2)) prog wd A R s h
  obtain ⟨hp, g, d, tk, os⟩ := s; obtain ⟨hl, hb, h⟩ := h
  have f3 := AutoSeq1.sub_list_list
  wp_walk using wpAny_loadPart' hl, wpAny_loadPart' hb
  refine ⟨plainId_quiet plain_eq_loop _, codeAny_builtin entry_eq_loop ?_⟩
  rw [Around.under_plainId plain_eq_loop _]
  exact st
end
end Mine
end

section
open PySem PySem.W PyProof.Rows
set_option autoImplicit false
set_option linter.unusedVariables false
set_option maxRecDepth 20000
namespace Mine
open PySem.SeqAt

/-- pairs [wish, person], ordered by wish, then by person -/
def pKey : List Int → Int
  | [w, k] => w * 8 + k
  | _ => 0
def isPair (ns : List Int) : Prop := ∃ w k, ns = [w, k] ∧ 0 ≤ k ∧ k < 8
theorem pKey_inj {a b : List Int} (ha : isPair a) (hb : isPair b) (e : pKey a = pKey b) : a = b := by
  obtain ⟨w, k, rfl, h1, h2⟩ := ha
  obtain ⟨w', k', rfl, h3, h4⟩ := hb
  simp only [pKey] at e
  have : w = w' := by omega
  subst this
  have : k = k' := by omega
  subst this
  rfl
theorem pKey_lt {w k w' k' : Int} (h1 : 0 ≤ k) (h2 : k < 8) (h3 : 0 ≤ k') (h4 : k' < 8) : (decide (w < w') || (w == w' && (decide (k < k') || (k == k' && false)))) = decide (w * 8 + k < w' * 8 + k') := by
  rw [Bool.eq_iff_iff]
  simp only [Bool.or_eq_true, Bool.and_eq_true, decide_eq_true_eq, beq_iff_eq, Bool.false_eq_true, and_false, or_false]
  omega

section
variable {prog : Program} {w : World} {A : Around} {s : Shared} {E : Value → Shared → Prop}

theorem keyLt_pairs {g : Map} (hs : ∀ b o, g b = some o → s.heap.get? b = some o) {x y : Value} {a b : List Int} (hx : ILv g a x) (hy : ILv g b y) (ha : isPair a) (hb : isPair b) (hu : A.units < cLine) {Q : Bool → Shared → Prop} (q : Q (decide (pKey a < pKey b)) s) :
    wpAny (model prog w) A (keyLt' oneType' x y) Q E s := by
  obtain ⟨ax, vx, nx, rfl, gx, hIx⟩ := hx
  obtain ⟨ay, vy, ny, rfl, gy, hIy⟩ := hy
  obtain ⟨w₁, k₁, rfl, h1, h2⟩ := ha
  obtain ⟨w₂, k₂, rfl, h3, h4⟩ := hb
  cases hIx with
  | cons _ t r =>
  cases r with
  | cons _ u r =>
  cases r
  cases hIy with
  | cons _ t' r =>
  cases r with
  | cons _ u' r =>
  cases r
  rw [keyLt'_oneType, oneLt'_eq]
  simp only [if_true]
  refine wpAny_bind (wpAny_cRoomFor hu ?_)
  refine wpAny_bind (wpAny_callSpecialIfBound?_slot ⟨_, hs _ _ gx, rfl⟩ PySem.F.slot_list_lt (call_meets PySem.F.slot_list_lt ⟨_, hs _ _ gx, rfl⟩ PySem.F.entry_list_lt (PySem.F.args_list_lt_2 _ _)
    (lt_pairs (w := w₁) (k := k₁) (w' := w₂) (k' := k₂) (t := t) (u := u) (t' := t') (u' := u') rfl rfl rfl rfl rfl rfl) ⟨hs _ _ gx, hs _ _ gy, ?_⟩))
  refine wpAny_truthy_bool ?_
  rw [pKey_lt h1 h2 h3 h4]
  exact q

theorem zip_self {α : Type} : ∀ vs : List α, vs.zip vs = vs.map fun v => (v, v)
  | [] => rfl
  | v :: vs => by rw [List.zip_cons_cons, zip_self vs]; rfl
theorem pairs_rev (vs : List Value) : (vs.toArray.zip vs.toArray).reverse = pairsOf vs.reverse := by
  unfold pairsOf
  have e : ∀ us : List Value, us.toArray.zip us.toArray = (us.map fun v => (v, v)).toArray := fun us => by rw [List.zip_toArray, zip_self]
  rw [e, e, List.reverse_toArray, List.map_reverse]
theorem ILs.getD {g : Map} : ∀ {vs : List Value} {nss : List (List Int)}, ILs g vs nss → ∀ i, i < vs.length → ILv g (nss.getD i []) (vs.getD i .none)
  | _, _, .nil, i, hi => by simp at hi
  | _, _, .cons hd tl, 0, hi => by simpa using hd
  | _, _, .cons hd tl, i + 1, hi => by simpa using tl.getD i (by simpa using hi)
theorem ILs.map {g : Map} {vs : List Value} {nss : List (List Int)} (hL : ILs g vs nss) : ∀ is : List Nat, (∀ i ∈ is, i < vs.length) → ILs g (is.map fun i => vs.getD i .none) (is.map fun i => nss.getD i [])
  | [], _ => .nil
  | i :: is, h => .cons (hL.getD i (h i (.head _))) (hL.map is fun j hj => h j (.tail _ hj))
theorem ILs.reverse {g : Map} {vs : List Value} {nss : List (List Int)} (hL : ILs g vs nss) : ILs g vs.reverse nss.reverse := by
  induction hL with
  | nil => exact .nil
  | cons hd tl ih => rw [List.reverse_cons, List.reverse_cons]; exact ih.append (.cons hd .nil)
theorem map_getD_range {α : Type} (d : α) (l : List α) : (List.range l.length).map (fun i => l.getD i d) = l := by
  apply List.ext_getElem
  · simp
  · intro i h1 h2; simp [List.getD_eq_getElem?_getD, h2]

/-- the sort of a list of such pairs, from the greatest down -/
theorem sort_pairs {g : Map} (hs : ∀ b o, g b = some o → s.heap.get? b = some o) {a : Addr} {vs : List Value} {nss : List (List Int)} {n : Nat} {P : PySem.Fin → Shared → Prop} (ho : s.heap.get? a = some (seqObj "list" vs.toArray n)) (hga : g a = none)
    (hL : ILs g vs nss) (hp : ∀ ns ∈ nss, isPair ns) (hnd : nss.Nodup) (h64 : vs.length < 64) (hu : A.units < cLine)
    (h : ∀ (out : List Value) (mss : List (List Int)), ILs g out mss → mss.Perm nss → mss.Pairwise (fun x y => pKey y < pKey x) → P (.done (.ret .none)) { s with heap := sortedHeap s.heap a vs out.toArray }) :
    wpAny (model prog w) A (Builtin.«list.sort» ⟨[.ref a], [(Str.ofString "reverse", .bool true)]⟩) P E s := by
  rw [list_sort_rev]
  have ha : a < s.heap.objs.size := Heap.lt_size ho
  refine wpAny_bind (listItems_at ho rfl ?_)
  refine wpAny_bind (listUpdate_at ho rfl ?_)
  obtain ⟨e1, ho1⟩ : ∃ e1, (s.heap.update a (Obj.mapSeq fun _ => #[])).get? a = some (seqObj "list" #[] e1) := ⟨_, get?_update_seq ho (fun _ => #[])⟩
  refine wpAny_bind (seqEpoch_at ho1 rfl ?_)
  refine wpAny_bind (wpAny_newTuple ?_)
  refine wpAny_bind (wpAny_newList ?_)
  refine wpAny_holding ?_
  generalize hH : ((s.heap.update a (Obj.mapSeq fun _ => #[])).push (seqObj "tuple" vs.toArray 0)).push (seqObj "list" #[] 0) = H
  have ho6 : H.get? a = some (seqObj "list" #[] e1) := by
    rw [← hH, Heap.get?_push_ne _ _ _ (by rw [size_push', Heap.size_update]; exact Nat.ne_of_lt (Nat.lt_succ_of_lt ha)), Heap.get?_push_ne _ _ _ (by rw [Heap.size_update]; exact Nat.ne_of_lt ha)]
    exact ho1
  have hs6 : ∀ b o, g b = some o → H.get? b = some o := fun b o e => by
    have hb : b ≠ a := fun q => by rw [q, hga] at e; cases e
    rw [← hH]
    refine Heap.get?_push_of_some _ (Heap.get?_push_of_some _ ?_)
    rw [Heap.get?_update_ne _ _ _ _ hb]
    exact hs _ _ e
  have fin : ∀ out : List Value, sortedHeap s.heap a vs out.toArray = H.update a (Obj.mapSeq fun _ => out.toArray) := fun out => by rw [← hH]; rfl
  show wpAny (model prog w) A _ P E { s with heap := H }
  dsimp only
  simp only [if_true]
  refine wpAny_bind (wpAny_rule ?_)
  by_cases h2 : vs.toArray.size < 2
  · rw [if_pos h2, if_pos h2]
    refine wpAny_bind (wpAny_pure ?_)
    rw [StateT.run_pure]
    refine wpAny_bind (wpAny_pure ?_)
    dsimp only
    refine wpAny_bind (seqEpoch_at ho6 rfl ?_)
    have eout : (Array.map (fun x => x.snd) (arrOf (SortSt.mk' general' (vs.toArray.zip vs.toArray).reverse #[] 7 none))).reverse = vs.toArray := by
      show (Array.map (fun x => x.snd) (vs.toArray.zip vs.toArray).reverse).reverse = vs.toArray
      rw [pairs_rev]; unfold pairsOf; rw [List.zip_toArray, zip_self]; simp [Function.comp_def]
    rw [eout]
    refine wpAny_bind (listUpdate_at ho6 rfl ?_ (by show 0 ≤ _; omega) (by rw [List.size_toArray, sizeLine_eq]; omega))
    simp only [bne_self_eq_false, Bool.false_eq_true, if_false]
    have hq := h vs nss hL (List.Perm.refl _) (by
      have hlen : nss.length < 2 := by rw [← hL.length]; simpa using h2
      match nss, hlen with
      | [], _ => exact .nil
      | [x], _ => exact List.pairwise_singleton _ _)
    rw [fin] at hq
    exact wpAny_pure hq
  · rw [if_neg h2, if_neg h2]
    have hn2 : 2 ≤ vs.length := by rw [List.size_toArray] at h2; omega
    refine wpAny_bind (kas_kind (T := .type "list") hn2 ?_ rfl rfl ?_)
    · intro v hv A' Q' E' s' hk q
      obtain ⟨ns, _, b, us, m, rfl, hb, _⟩ := hL.mem v hv
      exact wpAny_typeOf (T := "list") ⟨_, hk _ _ (hs6 _ _ hb), rfl⟩ q
    · have hLr := hL.reverse
      have hlr : nss.reverse.length = vs.length := by rw [List.length_reverse, hL.length]
      have hkey : ∀ i j, i < vs.length → j < vs.length → pKey (nss.reverse.getD i []) = pKey (nss.reverse.getD j []) → i = j := fun i j hi hj e => by
        have mem : ∀ i (hi : i < vs.length), nss.reverse.getD i [] ∈ nss.reverse ∧ nss.reverse.getD i [] = nss.reverse[i]'(by rw [hlr]; exact hi) := fun i hi => by
          have e1 : nss.reverse.getD i [] = nss.reverse[i]'(by rw [hlr]; exact hi) := by rw [List.getD_eq_getElem?_getD, List.getElem?_eq_getElem (by rw [hlr]; exact hi)]; rfl
          exact ⟨by rw [e1]; exact List.getElem_mem _, e1⟩
        have e2 := pKey_inj (hp _ (List.mem_reverse.mp (mem i hi).1)) (hp _ (List.mem_reverse.mp (mem j hj).1)) e
        rw [(mem i hi).2, (mem j hj).2] at e2
        exact (List.getElem_inj ((List.reverse_perm nss).nodup_iff.mpr hnd)).mp e2
      obtain ⟨hOrd, hSrt⟩ := sort_spec (key := fun i => pKey (nss.reverse.getD i [])) vs.length hn2 hkey
      have hsafe := safe_sort (key := fun i => pKey (nss.reverse.getD i [])) (n := vs.length) (by omega)
      generalize hpp : kRun (kLt fun i => pKey (nss.reverse.getD i [])) (kas_sort vs.length) = pp at hOrd hSrt
      have run := kas_runs (prog := prog) (w := w) (A := A) (E := E) (κ := oneType') (it := pairsOf vs.reverse) (n := vs.length) (s := { s with heap := H })
        (Q := fun _ st' s' => s' = { s with heap := H } ∧ arrOf st' = pp.map (kas_item (pairsOf vs.reverse)) ∧ failedOf st' = none) (G := fun p' s' => s' = { s with heap := H } ∧ p' = pp) hn2 h64
        (fun p' st' s' h1 h2 h3 h4 => ⟨h4.1, by rw [h2, h4.2], h3⟩)
        (safe_wp (lt := kLt fun i => pKey (nss.reverse.getD i [])) (fun i j C hi hj hC => ?_) _ hsafe ⟨rfl, hpp⟩)
      · have hst : kas_st oneType' (pairsOf vs.reverse) (List.toArray (List.range vs.length)) = SortSt.mk' oneType' (vs.toArray.zip vs.toArray).reverse #[] 7 none := by
          unfold kas_st
          have : vs.length = (pairsOf vs.reverse).size := by rw [pairsOf_size, List.length_reverse]
          rw [this, kas_range, pairs_rev]
        rw [hst] at run
        refine wpAny_bind (wpAny_mono run ?_ fun _ _ x => x)
        rintro ⟨⟨⟩, st'⟩ s' ⟨rfl, harr, hf⟩
        dsimp only
        refine wpAny_bind (seqEpoch_at ho6 rfl ?_)
        have eout : (Array.map (fun x => x.snd) (arrOf st')).reverse = ((pp.toList.map fun i => vs.reverse.getD i Value.none).reverse).toArray := by
          rw [harr]
          have : ∀ i, (kas_item (pairsOf vs.reverse) i).snd = vs.reverse.getD i Value.none := fun i => by rw [kas_item_eq]
          apply Array.toList_inj.mp
          simp [Array.toList_map, this]
        dsimp only at harr hf eout ⊢
        rw [eout]
        have hlt : ∀ i ∈ pp.toList, i < vs.reverse.length := fun i hi => by rw [List.length_reverse]; exact List.mem_range.mp (hOrd.perm.mem_iff.mp hi)
        have hppl : pp.toList.length = vs.length := by rw [hOrd.perm.length_eq]; simp
        refine wpAny_bind (listUpdate_at ho6 rfl ?_ (by show 0 ≤ _; omega) (by rw [List.size_toArray, List.length_reverse, List.length_map, hppl, sizeLine_eq]; omega))
        rw [hf]
        simp only [bne_self_eq_false, Bool.false_eq_true, if_false]
        have hq := h ((pp.toList.map fun i => vs.reverse.getD i Value.none).reverse) ((pp.toList.map fun i => nss.reverse.getD i []).reverse) (hLr.map _ hlt).reverse ?_ ?_
        · rw [fin] at hq
          exact wpAny_pure hq
        · refine (List.reverse_perm _).trans ?_
          have := hOrd.perm.map fun i => nss.reverse.getD i []
          rw [← hlr, map_getD_range] at this
          exact this.trans (List.reverse_perm _)
        · rw [List.pairwise_reverse, List.pairwise_map, List.pairwise_iff_getElem]
          intro i j hi hj hij
          have := hSrt i j hij (by rw [← hppl]; exact hj)
          have e : ∀ k (hk : k < pp.toList.length), pp.getD k 0 = pp.toList[k] := fun k hk => by
            have hk' : k < pp.size := by simpa using hk
            simp [Array.getD, hk']
          unfold kK at this
          rw [e i hi, e j hj] at this
          exact this
      · unfold kas_cmp
        rw [kas_item_eq, kas_item_eq]
        have hi' : i < vs.reverse.length := by rw [List.length_reverse]; exact hi
        have hj' : j < vs.reverse.length := by rw [List.length_reverse]; exact hj
        have mem : ∀ i, i < vs.length → isPair (nss.reverse.getD i []) := fun i hi => by
          have e1 : nss.reverse.getD i [] = nss.reverse[i]'(by rw [hlr]; exact hi) := by rw [List.getD_eq_getElem?_getD, List.getElem?_eq_getElem (by rw [hlr]; exact hi)]; rfl
          exact hp _ (List.mem_reverse.mp (by rw [e1]; exact List.getElem_mem _))
        exact keyLt_pairs (g := g) hs6 (hLr.getD i hi') (hLr.getD j hj') (mem i hi) (mem j hj) hu hC
end
end Mine
end

section
open PySem PySem.W PyProof.Rows
set_option autoImplicit false
set_option linter.unusedVariables false
set_option maxRecDepth 20000
namespace Mine
open PySem.SeqAt

section
variable {prog : Program} {w : World} {A : Around} {g : Map} {h : Heap}

theorem cl_sortedP {a : Addr} {vs : List Value} {nss : List (List Int)} {n : Nat} (ha : g a = some (seqObj "list" vs.toArray n)) (hL : ILs g vs nss) (hp : ∀ ns ∈ nss, isPair ns) (hnd : nss.Nodup) (h64 : vs.length < 64) (hu : A.units + 4 < cLine) :
    EvN prog w A g h (call (.builtin "sorted") [.ref a] [(Str.ofString "reverse", .bool true)]) (fun g' _ us => ∃ mss, ILs g' us mss ∧ mss.Perm nss ∧ mss.Pairwise (fun x y => pKey y < pKey x)) :=
  fun s g₁ Q E G k => by
    have hl : s.heap.IsList a vs.toArray := listAt G.now (G.sub _ _ ha)
    refine call_function_entry_kw kind_sorted plain_sorted entry_sorted (args_sorted_rev _ _) ?_
    unfold Builtin.«sorted»
    refine wpAny_bind (m := checkCount "sorted" 1 1 _) (wpAny_pure ?_)
    refine wpAny_bind (collect_list hl ?_)
    refine wpAny_bind (wpAny_newList ?_)
    have hsz : ((s.heap.push (seqObj "list" #[] 0)).update s.heap.objs.size (Obj.mapSeq (· ++ vs.toArray))).objs.size = s.heap.objs.size + 1 := by
      rw [Heap.size_update, size_push']
    have hoL : (((s.heap.push (seqObj "list" #[] 0)).update s.heap.objs.size (Obj.mapSeq (· ++ vs.toArray))).push (seqObj "list" vs.toArray 0)).get? (s.heap.objs.size + 1) = some (seqObj "list" vs.toArray 0) := by
      rw [← hsz]; exact Heap.get?_push_size _ rfl
    show wpAny _ _ _ _ _ { s with heap := ((s.heap.push (seqObj "list" #[] 0)).update s.heap.objs.size (Obj.mapSeq (· ++ vs.toArray))).push (seqObj "list" vs.toArray 0) }
    rw [hsz]
    have hn1 : s.heap.get? (s.heap.objs.size + 1) = none := get_new1 _
    have keep : ∀ b o, s.heap.get? b = some o → (((s.heap.push (seqObj "list" #[] 0)).update s.heap.objs.size (Obj.mapSeq (· ++ vs.toArray))).push (seqObj "list" vs.toArray 0)).get? b = some o := fun b o e => by
      have hb : b < s.heap.objs.size := Heap.lt_size e
      refine Heap.get?_push_of_some _ ?_
      rw [Heap.get?_update_ne _ _ _ _ (Nat.ne_of_lt hb)]
      exact Heap.get?_push_of_some _ e
    refine wpAny_bind (wpAny_holding (wpAny_call_entry_kw slot_list_sort ⟨_, hoL, rfl⟩ entry_list_sort (sort_pairs (g := g₁) (fun b o e => keep _ _ (G.now _ _ e)) hoL (g_new G.now hn1) (hL.mono G.sub) hp hnd h64 (by show A.units + 1 + 1 < cLine; omega) fun out mss h1 h2 h3 => ⟨_, rfl, ?_⟩) (args_list_sort_rev _ _)))
    refine wpAny_pure ⟨_, rfl, ?_⟩
    obtain ⟨e, he⟩ := sortedAll_at s.heap vs out.toArray
    exact k (s.heap.objs.size + 1) out e g₁ _ s.toks (Gr.of_heap G.now fun _ _ => sortedAll_old) hn1 (g_new G.now hn1) he ⟨mss, h1, h2, h3⟩
end

/-- a called def has changed two lists of the frame's own -/
theorem Fm.called {g₀ g g' : Map} {h₀ h h' : Heap} {env : Env} {m cm : Str → Option Value} {W : List (Addr × Obj)} {ae aa : Addr} {oe oa oa' : Obj} (F : Fm g₀ h₀ env m cm ((ae, oe) :: (aa, oa) :: W) g h) (G : Gr g (hideAll h [ae, aa]) g' h') (hg : g' aa = none) (ha : h'.get? aa = some oa') :
    Fm g₀ h₀ env m cm ((aa, oa') :: W) g' h' := by
  obtain ⟨e1, e2, e3, e4, e5⟩ := F.led (ae, oe) (.head _)
  obtain ⟨a1, a2, a3, a4, a5⟩ := F.led (aa, oa) (.tail _ (.head _))
  have up : ∀ b o, h.get? b = some o → b ≠ ae → b ≠ aa → (hideAll h [ae, aa]).get? b = some o := fun b o e q1 q2 => hideAll_get _ e (by simp [q1, q2])
  have nd := List.pairwise_cons.mp F.nd
  have nd2 := List.pairwise_cons.mp nd.2
  have up₀ : ∀ b o, h₀.get? b = some o → (hideAll h [ae, aa]).get? b = some o := fun b o e => up b o (F.gr.heap _ _ e) (fun q => by subst q; rw [e5] at e; cases e) (fun q => by subst q; rw [a5] at e; cases e)
  obtain ⟨oL, esL, epL, hL, rL⟩ := F.ns
  have hLh := up _ _ hL (Ne.symm e3) (Ne.symm a3)
  exact {
    gr := ⟨fun b o e => G.heap _ _ (up₀ b o e), fun b o e => G.sub _ _ (F.gr.sub _ _ e), fun b o e => by
      rcases G.new b o e with q | q
      · exact F.gr.new b o q
      · right
        cases z : h₀.get? b with
        | none => rfl
        | some o' => exact absurd (up₀ _ _ z) (by rw [q]; intro y; cases y), G.now⟩
    ns := ⟨oL, esL, epL, G.heap _ _ hLh, rL⟩
    nl := F.nl
    gl := G.keepNone F.gl hLh
    cells := fun n c e => by
      obtain ⟨⟨oc, hoc, hd⟩, c2, c3, c4⟩ := F.cells n c e
      have := up _ _ hoc (e4 n c e) (a4 n c e)
      exact ⟨⟨oc, G.heap _ _ this, hd⟩, G.keepNone c2 this, c3, c4⟩
    apart := F.apart
    led := fun p hp => by
      rcases List.mem_cons.mp hp with rfl | hp
      · exact ⟨ha, hg, a3, a4, a5⟩
      · obtain ⟨l1, l2, l3, l4, l5⟩ := F.led p (.tail _ (.tail _ hp))
        have := up _ _ l1 (Ne.symm (nd.1 p (.tail _ hp))) (Ne.symm (nd2.1 p hp))
        exact ⟨G.heap _ _ this, G.keepNone l2 this, l3, l4, l5⟩
    nd := List.pairwise_cons.mpr ⟨fun p hp => nd2.1 p hp, nd2.2⟩ }
end Mine
end

section
open PySem PySem.W PyProof.Rows
set_option autoImplicit false
set_option linter.unusedVariables false
namespace Mine

/-- what a waiting one wishes yet, and who it is -/
def fW (p : List Int) : Int := p.getD 0 0
def fK (p : List Int) : Int := p.getD 1 0
def decP (p : List Int) : List Int := [fW p - 1, fK p]
def calledF (r : List (List Int)) (w0 : Int) : List (List Int) := (r.take w0.toNat).filter fun p => decide (fW p > 0)
def stepW (f : List Int) (r : List (List Int)) : List (List Int) := takeOut (f :: r) (f :: calledF r (fW f)) ++ (calledF r (fW f)).map decP
def stepT (f : List Int) (r : List (List Int)) : List (List Int) := (calledF r (fW f)).map fun p => [fK f, fK p]
inductive Run : Nat → List (List Int) → List (List Int) → Prop where
  | nil (W : List (List Int)) : Run 0 W []
  | step {n : Nat} {W : List (List Int)} {f : List Int} {r T : List (List Int)} : (f :: r).Perm W → (f :: r).Pairwise (fun x y => pKey y < pKey x) → Run n (stepW f r) T → Run (n + 1) W (stepT f r ++ T)

structure OkW (W : List (List Int)) : Prop where
  pair : ∀ p ∈ W, ∃ w k, p = [w, k] ∧ 0 ≤ w ∧ 0 ≤ k ∧ k < 8
  nd : (W.map fK).Nodup

theorem OkW.isPair {W : List (List Int)} (h : OkW W) : ∀ p ∈ W, isPair p := fun p hp => by
  obtain ⟨w, k, e, h1, h2, h3⟩ := h.pair p hp
  exact ⟨w, k, e, h2, h3⟩
theorem nodup_of_map {α β : Type} (f : α → β) : ∀ {l : List α}, (l.map f).Nodup → l.Nodup
  | [], _ => List.nodup_nil
  | a :: l, h => by
    rw [List.map_cons, List.nodup_cons] at h
    rw [List.nodup_cons]
    exact ⟨fun q => h.1 (List.mem_map_of_mem q), nodup_of_map f h.2⟩
theorem OkW.nodup {W : List (List Int)} (h : OkW W) : W.Nodup := nodup_of_map fK h.nd
theorem OkW.perm {W S : List (List Int)} (h : OkW W) (p : S.Perm W) : OkW S :=
  ⟨fun x hx => h.pair x (p.mem_iff.mp hx), ((p.map fK).nodup_iff).mpr h.nd⟩
theorem inj_of_nodup_map {α β : Type} (f : α → β) : ∀ {l : List α}, (l.map f).Nodup → ∀ x ∈ l, ∀ y ∈ l, f x = f y → x = y
  | [], _, x, hx, _, _, _ => by cases hx
  | a :: l, h, x, hx, y, hy, e => by
    rw [List.map_cons, List.nodup_cons] at h
    rcases List.mem_cons.mp hx with rfl | hx
    · rcases List.mem_cons.mp hy with rfl | hy
      · rfl
      · exact absurd (e ▸ List.mem_map_of_mem hy) h.1
    · rcases List.mem_cons.mp hy with rfl | hy
      · rename_i hx'
        exact absurd (e ▸ List.mem_map_of_mem hx') h.1
      · exact inj_of_nodup_map f h.2 x hx y hy e

theorem takeOut_filter {as : List (List Int)} (hn : as.Nodup) : ∀ {es : List (List Int)}, es.Nodup → (∀ e ∈ es, e ∈ as) → takeOut as es = as.filter (fun x => !es.elem x) ∧ canTake as es
  | [], _, _ => ⟨by rw [List.filter_eq_self.mpr (by intro x _; rfl)]; rfl, trivial⟩
  | e :: es, hd, hm => by
    rw [List.nodup_cons] at hd
    obtain ⟨h1, h2⟩ := takeOut_filter hn hd.2 (fun x hx => hm x (.tail _ hx))
    refine ⟨?_, ?_, h2⟩
    · show (takeOut as es).erase e = _
      rw [h1, List.Nodup.erase_eq_filter (hn.filter _), List.filter_filter]
      congr 1
      funext x
      rw [List.elem_cons]
      by_cases q : x = e
      · subst q; simp
      · have : (x == e) = false := by simpa using q
        rw [this]
        simp [q]
    · rw [h1, List.mem_filter]
      refine ⟨hm e (.head _), ?_⟩
      have : es.elem e = false := by simpa [List.elem_eq_mem] using hd.1
      rw [this]; rfl

theorem called_sub (r : List (List Int)) (w : Int) : (calledF r w).Sublist r := (List.filter_sublist).trans (List.take_sublist _ _)
theorem nodup_cons_called {f : List Int} {r : List (List Int)} (h : (f :: r).Nodup) (w : Int) : (f :: calledF r w).Nodup := by
  rw [List.nodup_cons] at h ⊢
  exact ⟨fun q => h.1 ((called_sub r w).subset q), (called_sub r w).nodup h.2⟩
theorem sub_cons_called (f : List Int) (r : List (List Int)) (w : Int) : ∀ e ∈ f :: calledF r w, e ∈ f :: r := fun e he => by
  rcases List.mem_cons.mp he with rfl | he
  · exact .head _
  · exact .tail _ ((called_sub r w).subset he)
/-- those that stay as they were -/
def stayF (f : List Int) (r : List (List Int)) : List (List Int) := r.filter fun x => !(calledF r (fW f)).elem x
theorem stepW_eq {f : List Int} {r : List (List Int)} (h : (f :: r).Nodup) : stepW f r = stayF f r ++ (calledF r (fW f)).map decP := by
  unfold stepW
  rw [(takeOut_filter h (nodup_cons_called h _) (sub_cons_called f r _)).1]
  congr 1
  rw [List.nodup_cons] at h
  have e1 : (!(f :: calledF r (fW f)).elem f) = false := by simp
  rw [List.filter_cons_of_neg (by rw [e1]; decide)]
  unfold stayF
  refine List.filter_congr fun x hx => ?_
  have : (x == f) = false := by
    have : x ≠ f := fun q => h.1 (q ▸ hx)
    simpa using this
  rw [List.elem_cons, this]
theorem canTake_step {f : List Int} {r : List (List Int)} (h : (f :: r).Nodup) : canTake (f :: r) (f :: calledF r (fW f)) := (takeOut_filter h (nodup_cons_called h _) (sub_cons_called f r _)).2

theorem filter_perm {α : Type} [BEq α] [LawfulBEq α] : ∀ {r c : List α}, c.Sublist r → r.Nodup → (r.filter (fun x => !c.elem x) ++ c).Perm r
  | _, _, .slnil, _ => .refl _
  | a :: r, c, .cons _ hs, hn => by
    rw [List.nodup_cons] at hn
    have : c.elem a = false := by
      have : a ∉ c := fun q => hn.1 (hs.subset q)
      simpa [List.elem_eq_mem] using this
    rw [List.filter_cons_of_pos (by rw [this]; rfl)]
    exact (filter_perm hs hn.2).cons a
  | a :: r, _, .cons_cons (l₁ := c) _ hs, hn => by
    rw [List.nodup_cons] at hn
    rw [List.filter_cons_of_neg (by simp)]
    have e : r.filter (fun x => !(a :: c).elem x) = r.filter (fun x => !c.elem x) := by
      refine List.filter_congr fun x hx => ?_
      have : (x == a) = false := by
        have : x ≠ a := fun q => hn.1 (q ▸ hx)
        simpa using this
      rw [List.elem_cons, this]
    rw [e]
    exact List.perm_middle.trans ((filter_perm hs hn.2).cons a)
theorem stay_perm {f : List Int} {r : List (List Int)} (h : r.Nodup) : (stayF f r ++ calledF r (fW f)).Perm r := by unfold stayF; exact filter_perm (called_sub r (fW f)) h

theorem map_fK_dec (l : List (List Int)) : (l.map decP).map fK = l.map fK := by rw [List.map_map]; exact List.map_congr_left fun p _ => rfl
theorem stepW_keys {f : List Int} {r : List (List Int)} (h : (f :: r).Nodup) : ((stepW f r).map fK).Perm (r.map fK) := by
  rw [stepW_eq h, List.map_append, map_fK_dec, ← List.map_append]
  exact (stay_perm (List.nodup_cons.mp h).2).map _
theorem OkW.step {f : List Int} {r : List (List Int)} (h : OkW (f :: r)) : OkW (stepW f r) where
  pair := fun p hp => by
    rw [stepW_eq h.nodup, List.mem_append] at hp
    rcases hp with hp | hp
    · exact h.pair p (.tail _ (List.mem_filter.mp hp).1)
    · obtain ⟨q, hq, rfl⟩ := List.mem_map.mp hp
      obtain ⟨w, k, rfl, h1, h2, h3⟩ := h.pair q (.tail _ ((called_sub _ _).subset hq))
      have : (0 : Int) < w := by
        have := (List.mem_filter.mp hq).2
        exact of_decide_eq_true this
      exact ⟨w - 1, k, rfl, by omega, h2, h3⟩
  nd := ((stepW_keys h.nodup).nodup_iff).mpr (by have := h.nd; rw [List.map_cons, List.nodup_cons] at this; exact this.2)
theorem stepW_length {f : List Int} {r : List (List Int)} (h : OkW (f :: r)) : (stepW f r).length = r.length := by
  have := (stepW_keys h.nodup).length_eq
  simpa using this
end Mine
end

section
open PySem PySem.W PyProof.Rows
set_option autoImplicit false
set_option linter.unusedVariables false
namespace Mine

theorem F2.drop {α β : Type} {R : α → β → Prop} : ∀ {as : List α} {bs : List β} (n : Nat), F2 R as bs → F2 R (as.drop n) (bs.drop n)
  | _, _, 0, h => h
  | _, _, n + 1, .nil => .nil
  | _, _, n + 1, .cons _ t => t.drop n
theorem F2.take {α β : Type} {R : α → β → Prop} : ∀ {as : List α} {bs : List β} (n : Nat), F2 R as bs → F2 R (as.take n) (bs.take n)
  | _, _, 0, h => .nil
  | _, _, n + 1, .nil => .nil
  | _, _, n + 1, .cons h t => .cons h (t.take n)

section
variable {prog : Program} {w : World} {A : Around} {g₀ g : Map} {h₀ : Heap} {env : Env} {m cm : Str → Option Value} {W : List (Addr × Obj)} {s : Shared} {E : Value → Shared → Prop}

/-- x, y = t, of a tuple of two -/
theorem asg_pair {x y : Str} {px py tp : Pos} {kk : Nat} {t : Addr} {u v : Value} {Q : Unit → Shared → Prop} (F : Fm g₀ h₀ env m cm W g s.heap) (hh : A.handled = none) (ht : g t = some (seqObj "tuple" [u, v].toArray 0))
    (k : ∀ h' tk, Fm g₀ h₀ env (updS (updS m x u) y v) cm W g h' → Q () { s with heap := h', toks := tk })
    (hk : env.scope.kind = .function := by rfl) (hl : env.kindOf x = some .local := by rfl) (hl' : env.kindOf y = some .local := by rfl) :
    wpAny (model prog w) A (assign (.Tuple [.Name x px, .Name y py] kk tp) env (.ref t)) Q E s := by
  show wpAny _ A (do standAt tp; unpack (.ref t) (assignEach [.Name x px, .Name y py] env)) _ _ _
  refine wpAny_bind (wpAny_standAt ?_)
  show wpAny _ A (do let items ← holding [.ref t] (unpackItems (.ref t) 2 none); assignInOrder [assign (.Name x px) env, assign (.Name y py) env] items) _ _ _
  refine wpAny_bind (wpAny_holding (unpackItems_tuple (items := #[u, v]) hh ⟨_, F.now _ _ ht, rfl, 0, rfl⟩ fun h' he => ?_))
  have hnew : s.heap.get? s.heap.objs.size = none := get_new _
  have F₁ : Fm g₀ h₀ env m cm W g h' := F.otherE (a := s.heap.objs.size) he (g_new F.now hnew) (fun q => by obtain ⟨o, _, _, ho, _⟩ := F.ns; rw [← q, hnew] at ho; cases ho)
    (fun n c e q => by obtain ⟨⟨o, ho, _⟩, _⟩ := F.cells n c e; rw [q, hnew] at ho; cases ho) (fun p hp q => by have := (F.led p hp).1; rw [q, hnew] at this; cases this) (by
      cases q : h₀.get? s.heap.objs.size with
      | none => rfl
      | some o => have := F.gr.heap _ _ q; rw [hnew] at this; cases this)
  show wpAny _ A (do holding [v] (assign (.Name x px) env u); assignInOrder [assign (.Name y py) env] [v]) _ _ _
  refine wpAny_bind (wpAny_holding (wpAny_assign_Name (F₁.st (s := { s with heap := h' }) (fun h₂ tk₂ F₂ => ?_) hk hl)))
  show wpAny _ A (do holding [] (assign (.Name y py) env v); pure ()) _ _ _
  refine wpAny_bind (wpAny_holding (wpAny_assign_Name (F₂.st (s := { s with heap := h₂, toks := tk₂ }) (fun h₃ tk₃ F₃ => ?_) hk hl')))
  exact wpAny_pure (k _ _ F₃)
end

/-- all as they begin to wait -/
def startW (ws : List Int) : List (List Int) := (intsF 0 ws.length).map fun k => [ws.getD k.toNat 0, k]

theorem okStart {ws : List Int} (hz : ws.length ≤ 7) (h0 : ∀ x ∈ ws, 0 ≤ x) : OkW (startW ws) where
  pair := fun p hp => by
    obtain ⟨k, hk, rfl⟩ := List.mem_map.mp hp
    obtain ⟨i, hi, rfl⟩ := List.mem_map.mp hk
    have hi' := List.mem_range.mp hi
    refine ⟨_, _, rfl, ?_, by omega, by omega⟩
    have : ((0 : Int) + (i : Int)).toNat = i := by omega
    rw [this, List.getD_eq_getElem?_getD, List.getElem?_eq_getElem hi']
    exact h0 _ (List.getElem_mem _)
  nd := by
    have e : (startW ws).map fK = (List.range ws.length).map fun (i : Nat) => (0 : Int) + (i : Int) := by
      unfold startW intsF
      rw [List.map_map, List.map_map]
      exact List.map_congr_left fun i _ => rfl
    rw [e]
    exact List.Pairwise.map (R := fun a b : Nat => a ≠ b) _ (fun a b hab q => hab (by omega)) List.nodup_range
theorem startW_length (ws : List Int) : (startW ws).length = ws.length := by unfold startW; rw [List.length_map, intsF_length]

section
variable {prog : Program} {w : World} {A : Around} {g : Map} {h hb : Heap} {mg mb : Str → Option Value}
abbrev eTies (doc pm : Value) (an : Option Addr) (cd ct : Value) (L : Addr) : Env := callEnvC (fdOf (top 10) "_law_ties" doc pm an cd ct) L 171

theorem ties_fn (T : Tp hb mg mb) (hbase : ∀ b o, hb.get? b = some o → g b = some o) {v : Value} {ws : List Int} (hv : IL ws g h v) (hz : ws.length ≤ 7) (h0 : ∀ x ∈ ws, 0 ≤ x) (hh : A.handled = none) (hroom : A.depth + 1 < recursionLimit) (hu : A.units + 100 < cLine) :
    Ev prog w A g h (call (.ref 171) [v]) (fun g' h' u => ∃ T, LL T g' h' u ∧ Run ws.length (startW ws) T) := by
  obtain ⟨o, doc, pm, an, cd, ct, ho, hd, hcd⟩ := T.fTies
  intro s g₁ Q E G k
  have hbs : ∀ b o, hb.get? b = some o → s.heap.get? b = some o := fun b o e => G.now _ _ (G.sub _ _ (hbase _ _ e))
  revert k
  refine (?_ : Ev prog w A g₁ s.heap (call (.ref 171) [v]) _) s g₁ Q E (Gr.refl G.now)
  refine ev_defC (binds := [(Str.ofString "wishes", v)]) (hbs _ _ ho) hd rfl (T.nolimit.keeps hbs) (hcd.keeps hbs) (by omega) rfl rfl (kindsX rfl) ?_
  intro s' g₂ L h₂ tk Q' E' G' F k
  have hv₂ : ILv g₂ ws v := mono_IL ws _ _ _ _ _ (G.trans G') hv
  have hb₂ : ∀ b o, hb.get? b = some o → g₂ b = some o := fun b o e => G'.sub _ _ (G.sub _ _ (hbase _ _ e))
  have hbh₂ : ∀ b o, hb.get? b = some o → h₂.get? b = some o := fun b o e => F.now _ _ (hb₂ _ _ e)
  have nW (p : Pos) := F.cel (prog := prog) (w := w) (A := A.deeper (eTies doc pm an cd ct L)) (x := "wishes") (pos := p) (c := L + 1) (v := v) rfl rfl (P := IL ws) hv₂ (mono_IL ws)
  -- waiting
  refine ex_comp (S := ILv) (R := kI) (items := intsF 0 ws.length) (test := fun _ => true) (out := fun k => [ws.getD k.toNat 0, k]) (cl := [(Str.ofString "wishes", L + 1)]) F rfl (by decide) rfl (by decide) rfl mono_kI mono_ILv ?_ (by rw [intsF_length]; omega) ?_ ?_ rfl
  · exact ev_range1 (n := (ws.length : Int)) T hbh₂ hh (ev_lenI (ns := ws) T hbh₂ (nW _) (by omega)) (by omega) (by omega)
  · intro a ha C mC g' h' u G' hn hu' hR
    refine ⟨tests_nil, fun _ => ?_⟩
    obtain ⟨i, hi, rfl⟩ := List.mem_map.mp ha
    have hi' := List.mem_range.mp hi
    have hval : ws[((0 : Int) + (i : Int)).toNat]? = some (ws.getD ((0 : Int) + (i : Int)).toNat 0) := by
      have : ((0 : Int) + (i : Int)).toNat = i := by omega
      rw [this, List.getD_eq_getElem?_getD, List.getElem?_eq_getElem hi']; rfl
    refine EvN.ints ((ev_list (P := consP (isI (ws.getD ((0 : Int) + (i : Int)).toNat 0)) (consP (isI ((0 : Int) + (i : Int))) nilP)) (mono_consP (mono_isI _) (mono_consP (mono_isI _) mono_nilP)) (spl_cons (mono_isI _) ?_ (spl_cons (mono_isI _) (ev_local hn hu' hR (mono_isI _)) spl_nil)) ?_).weaken ?_)
    · refine ev_item (ns := ws) (k := (0 : Int) + (i : Int)) (ev_cell (c := L + 1) (v := v) rfl ((F.cells "wishes" (L + 1) rfl).1.keeps G'.heap) (mono_ILv _ _ _ _ G'.sub hv₂) (mono_IL ws)) (ev_local hn hu' hR (mono_isI _)) (by omega) (by omega) hval
    · rintro g' h' vs ⟨a, r, rfl, _, b, r', rfl, _, p⟩
      cases p; simp
    · rintro g' h' vs _ ⟨a, r, rfl, ⟨t, rfl⟩, b, r', rfl, ⟨t', rfl⟩, p⟩
      cases p
      exact .cons _ t (.cons _ t' .nil)
  · intro aw vw nw g₃ h₃ tk₃ hs₃ hF F₃
    have e : (intsF 0 ws.length).filter (fun _ => true) = intsF 0 ws.length := List.filter_eq_self.mpr fun _ _ => rfl
    rw [e] at hF
    have F₄ := F₃.freeze
    have hF₄ : ILs (upd g₃ aw (seqObj "list" vw.toArray nw)) vw (startW ws) := (F2.lists hF).mono F₃.freeze_sub
    have hs₄ : ∀ b o, g₂ b = some o → upd g₃ aw (seqObj "list" vw.toArray nw) b = some o := fun b o e => F₃.freeze_sub _ _ (hs₃ _ _ e)
    have haw₄ : upd g₃ aw (seqObj "list" vw.toArray nw) aw = some (seqObj "list" vw.toArray nw) := upd_self _ _ _
    generalize upd g₃ aw (seqObj "list" vw.toArray nw) = g₄ at F₄ hF₄ hs₄ haw₄
    -- ties = []
    refine ex_assignN (R := nilP) F₄ (ev_list mono_nilP spl_nil fun _ _ vs p => by rw [p]; simp) fun at_ vs₀ nt g₅ h₅' h₅ tk₅ hs₅ pn F₅ => ?_
    cases pn
    have hv₅ : ILv g₅ ws v := mono_ILv _ _ _ _ (fun b o e => hs₅ _ _ (hs₄ _ _ e)) hv₂
    -- the loop
    refine ex_for (items := ws) mono_kI F₅ (Ev.walkI hh (F₅.cel (x := "wishes") (c := L + 1) (v := v) rfl rfl (P := IL ws) hv₅ (mono_IL ws))) (fun m x => updS m "_" x) (fun cm _ => cm) st_name
      (fun i m cm W g => ∃ aw vw nw at_ vt nt Wi Ti, m "waiting" = some (.ref aw) ∧ m "ties" = some (.ref at_) ∧ W = [(at_, seqObj "list" (vt : List Value).toArray nt)] ∧ g aw = some (seqObj "list" (vw : List Value).toArray nw) ∧ ILs g vw Wi ∧ ILs g vt Ti ∧
        OkW Wi ∧ Wi.length + i = ws.length ∧ Ti.length ≤ 7 * i ∧ ∀ n T', Run n Wi T' → Run (i + n) (startW ws) (Ti ++ T')) ?_ ?_ ?_
    · intro g' hs'
      refine ⟨aw, vw, nw, at_, [], nt, startW ws, [], rfl, rfl, rfl, hs' _ _ (hs₅ _ _ haw₄), (hF₄.mono hs₅).mono hs', .nil, okStart hz h0, by rw [startW_length]; omega, by simp, fun n T' q => by simpa using q⟩
    · intro i a xv m₁ cm₁ W₁ g₆ h₆ tk₆ I oI E₁ ha hxv hs₆ hJ F₆
      obtain ⟨aw, vw, nw, at_, vt, nt, Wi, Ti, mW, mT, rfl, haw, hWi, hTi, ok, hlen, hTl, hrun⟩ := hJ
      have hiz : i < ws.length := (List.getElem?_eq_some_iff.mp ha).1
      have hvl := hWi.length
      have sub₂₆ : ∀ b o, hb.get? b = some o → g₆ b = some o := fun b o e => hs₆ _ _ (hs₅ _ _ (hs₄ _ _ (hb₂ _ _ e)))
      -- waiting = sorted(waiting, reverse=True)
      refine ex_assignN (R := fun g' _ us => ∃ mss, ILs g' us mss ∧ mss.Perm Wi ∧ mss.Pairwise (fun x y => pKey y < pKey x)) F₆
        (ev_callKw (P := isV (.ref aw)) (nm_b T (fun b o e => F₆.now _ _ (sub₂₆ _ _ e)) T.sorted) (F₆.loc (v := .ref aw) mW rfl (mono_isV _)) fun u g' h' G' p => ?_) fun as vs ns g₇ h₇' h₇ tk₇ hs₇ pS F₇ => ?_
      · cases p
        exact cl_sortedP (G'.sub _ _ haw) (hWi.mono G'.sub) ok.isPair ok.nodup (by omega) (by show A.units + 3 + 4 < cLine; omega)
      obtain ⟨mss, hS, hperm, hpw⟩ := pS
      have hSl := hS.length
      have hpl := hperm.length_eq
      obtain ⟨f, r, rfl⟩ : ∃ f r, mss = f :: r := by
        cases mss with
        | nil => simp at hpl; omega
        | cons f r => exact ⟨f, r, rfl⟩
      have okS : OkW (f :: r) := ok.perm hperm
      have has₇ : h₇.get? as = some (seqObj "list" vs.toArray ns) := F₇.at_ (.head _)
      obtain ⟨wf, kf, rfl, hw0, hk0, hk8⟩ := okS.pair f (.head _)
      -- first = waiting[0]
      refine ex_assignC (x := "first") (c := L + 2) (P := IL [wf, kf]) F₇ rfl (ev_sub (k := 0) (mono_isV (.ref as)) (F₇.loc (v := .ref as) rfl rfl (mono_isV _)) ev_int fun o g' h' G' p => ?_) fun vf g₈ h₈' h₈ tk₈ hs₈ pf F₈ => ?_
      · cases p
        obtain ⟨x, hx, hp⟩ := (hS.mono G'.sub).item (k := 0) (ns := [wf, kf]) rfl
        exact ⟨as, vs.toArray, x, rfl, ⟨_, G'.heap _ _ has₇, rfl, ns, rfl⟩, by omega, by omega, by simpa using hx, hp⟩
      have has₈ : h₈.get? as = some (seqObj "list" vs.toArray ns) := F₈.at_ (.head _)
      have hS₈ := hS.mono hs₈
      -- called
      refine ex_comp (S := ILv) (R := ILv) (items := r.take wf.toNat) (test := fun p => decide (fW p > 0)) (out := fun p => p) (cl := []) F₈ rfl (by decide) rfl (by decide) rfl mono_ILv mono_ILv ?_ ?_ ?_ ?_ rfl
      · refine EvN.walk mono_ILv hh ((ev_slRun (i := 1) (j := wf + 1) (n := ns) (F₈.loc (v := .ref as) rfl rfl (mono_isV _)) ⟨_, has₈, rfl, ns, rfl⟩ ev_int (ev_binop (mono_isI _) (ev_item (ns := [wf, kf]) (k := 0) (x := wf) (F₈.cel (x := "first") (c := L + 2) (v := vf) rfl rfl pf (mono_IL _)) ev_int (by omega) (by omega) rfl) ev_int fun _ _ _ _ _ p q => op_add p q) (by omega) (by omega) (by omega)).weaken fun g' h' us G' e => ?_)
        rw [e]
        have := (((hS₈.mono G'.sub).f2).drop 1).take ((wf + 1).toNat - (1 : Int).toNat)
        have e1 : (wf + 1).toNat - (1 : Int).toNat = wf.toNat := by omega
        rw [e1] at this ⊢
        exact this
      · rw [List.length_take]; simp at hSl hpl; omega
      · intro p hp C mC g' h' u G' hn hu' hR
        have hpS : p ∈ [wf, kf] :: r := .tail _ (List.mem_of_mem_take hp)
        obtain ⟨wp, kp, rfl, _, _, _⟩ := okS.pair p hpS
        refine ⟨tests_one ?_, fun _ => ev_local hn hu' hR (mono_IL _)⟩
        exact ev_test (mono_isI wp) (ev_item (ns := [wp, kp]) (k := 0) (x := wp) (ev_local hn hu' hR (mono_IL _)) ev_int (by omega) (by omega) rfl) ev_int fun _ _ _ _ _ p q => op_gt p q
      · intro ac vc nc g₉ h₉ tk₉ hs₉ hC F₉
        have F₁₀ := F₉.freeze
        have hs₁₀ : ∀ b o, g₉ b = some o → upd g₉ ac (seqObj "list" vc.toArray nc) b = some o := F₉.freeze_sub
        have hac : upd g₉ ac (seqObj "list" vc.toArray nc) ac = some (seqObj "list" vc.toArray nc) := upd_self _ _ _
        have hC₁₀ : ILs (upd g₉ ac (seqObj "list" vc.toArray nc)) vc (calledF r wf) := by
          rw [List.map_id' ] at hC
          exact (F2.lists hC).mono hs₁₀
        generalize upd g₉ ac (seqObj "list" vc.toArray nc) = g₁₀ at F₁₀ hs₁₀ hac hC₁₀
        have up₁₀ : ∀ b o, g₈ b = some o → g₁₀ b = some o := fun b o e => hs₁₀ _ _ (hs₉ _ _ e)
        have hcl : (calledF r wf).length ≤ r.length := (called_sub r wf).length_le
        have hvcl := hC₁₀.length
        obtain ⟨ou, docu, pmu, anu, cdu, ctu, hou, hdu, hcdu⟩ := T.fUnord
        have hb₁₀ : ∀ b o, hb.get? b = some o → g₁₀ b = some o := fun b o e => up₁₀ _ _ (hs₈ _ _ (hs₇ _ _ (sub₂₆ _ _ e)))
        -- missing, waiting = unorderable_list_difference([first] + called, waiting)
        refine ex_cons (Assign_Tuple (Call_ ((nm_g T (fun b o e => F₁₀.now _ _ (hb₁₀ _ _ e)) T.gUnord) _ g₁₀ _ _ (Gr.refl F₁₀.now) fun fv g₁₁ h₁₁ tk₁₁ G₁₁ pfv => ?_)))
        cases pfv
        have F₁₁ := F₁₀.grow G₁₁
        have hac₁₁ := G₁₁.sub _ _ hac
        have hC₁₁ := hC₁₀.mono G₁₁.sub
        have pf₁₁ : ILv g₁₁ [wf, kf] vf := mono_ILv _ _ _ _ (fun b o e => G₁₁.sub _ _ (up₁₀ _ _ e)) pf
        refine callWith_def hdu (spliced_more (EvN.of_new (h₀ := h₁₁) (s := { s' with heap := h₁₁, toks := tk₁₁ }) (g₁ := g₁₁) (R := fun g _ us => ILs g us ([wf, kf] :: calledF r wf)) ?_ (fun _ _ e => e) F₁₁.now fun ae ve ne g₁₂ h₁₂ tk₁₂ G₁₂ hn₁₂ hg₁₂ hae he => ?_))
        · refine ev_binopN (P₁ := LL [[wf, kf]]) (P₂ := isV (.ref ac)) (mono_LL _) (EvN.lists ((ev_list (P := consP (IL [wf, kf]) nilP) (mono_consP (mono_IL _) mono_nilP) (spl_cons (mono_IL _) (F₁₁.cel (x := "first") (c := L + 2) (v := vf) rfl rfl pf₁₁ (mono_IL _)) spl_nil) ?_).weaken ?_)) (F₁₁.loc (v := .ref ac) rfl rfl (mono_isV _)) fun x y g' h' G' p q => ?_
          · rintro g' h' vs ⟨a, r, rfl, _, p⟩
            cases p; simp
          · rintro g' h' vs _ ⟨a, r, rfl, q, p⟩
            cases p
            exact .cons q .nil
          · obtain ⟨b, us, n, rfl, hb', hI⟩ := p
            cases q
            refine (op_addL (G'.now _ _ hb') (G'.now _ _ (G'.sub _ _ hac₁₁)) (by have := hI.length; simp at hSl hpl this; omega)).weaken fun g'' h'' us' G'' e => ?_
            rw [e]
            exact (hI.mono G''.sub).append ((hC₁₁.mono G'.sub).mono G''.sub)
        have F₁₂ := F₁₁.add G₁₂ hn₁₂ hg₁₂ hae
        refine spliced_more ((F₁₂.loc (x := "waiting") (v := .ref as) rfl rfl (mono_isV _)) _ g₁₂ _ _ (Gr.refl F₁₂.now) fun u g₁₃ h₁₃ tk₁₃ G₁₃ p₁₃ => ?_)
        cases p₁₃
        have F₁₃ := F₁₂.grow G₁₃
        have up₁₃ : ∀ b o, g₁₀ b = some o → g₁₃ b = some o := fun b o e => G₁₃.sub _ _ (G₁₂.sub _ _ (G₁₁.sub _ _ e))
        have led₁ := F₁₃.led _ (.head _)
        have led₂ := F₁₃.led _ (.tail _ (.head _))
        refine spliced_none ⟨F₁₃.now _ _ (up₁₃ _ _ (hb₁₀ _ _ hou)), ?_⟩
        have hel := he.length
        refine unord_fn (s := { s' with heap := h₁₃, toks := tk₁₃ }) T F₁₃.now (fun b o e => up₁₃ _ _ (hb₁₀ _ _ e)) led₁.1 led₂.1 led₁.2.1 led₂.2.1 ((List.pairwise_cons.mp F₁₃.nd).1 _ (.head _)) (he.mono G₁₃.sub) (hS₈.mono fun b o e => up₁₃ _ _ (up₁₀ _ _ e)) (canTake_step okS.nodup) ?_ ?_ ?_ ?_ fun at₂ am vas' na' nm g₁₄ h₁₄ tk₁₄ G₁₄ hat ham has₁₄ gas₁₄ hrest => ?_
        · simp at hSl hpl hel; omega
        · omega
        · show A.units + 3 + 20 < cLine; omega
        · show A.depth + 1 < recursionLimit; omega
        have F₁₄ := F₁₃.called G₁₄ gas₁₄ has₁₄
        refine asg_pair (s := { s' with heap := h₁₄, toks := tk₁₄ }) F₁₄ hh hat fun h₁₅ tk₁₅ F₁₅ => ?_
        have up₁₄ : ∀ b o, g₁₀ b = some o → g₁₄ b = some o := fun b o e => G₁₄.sub _ _ (up₁₃ _ _ e)
        have pf₁₄ : ILv g₁₄ [wf, kf] vf := mono_ILv _ _ _ _ (fun b o e => up₁₄ _ _ (up₁₀ _ _ e)) pf
        have hC₁₄ := hC₁₀.mono up₁₄
        have hac₁₄ := up₁₄ _ _ hac
        have hTi₁₄ := hTi.mono fun b o e => up₁₄ _ _ (up₁₀ _ _ (hs₈ _ _ (hs₇ _ _ e)))
        have hTil := hTi₁₄.length
        -- ties.extend(..)
        refine ex_meth1 (a := at_) (P := LL (stepT [wf, kf] r)) F₁₅ PySem.F.slot_list_extend PySem.F.type_list_extend (F₁₅.loc (v := .ref at_) mT rfl (mono_isV _)) (F₁₅.at_ (.tail _ (.tail _ (.head _)))) ?_ fun u g₁₆ h₁₆ tk₁₆ hs₁₆ pu F₁₆ ha₁₆ => ?_
        · refine ev_binop (P₁ := LL (stepT [wf, kf] r)) (P₂ := LL []) (mono_LL _) (EvN.f2L ?_) (EvN.f2L ?_) fun x y g' h' G' p q => ?_
          · refine ev_map (items := calledF r wf) (R := ILv) (S := ILv) (fun p => [fK [wf, kf], fK p]) (cl := [(Str.ofString "first", L + 2)]) rfl (by decide) rfl (by decide) rfl mono_ILv mono_ILv (Ev.walkL hh (F₁₅.loc (v := .ref ac) rfl ⟨ac, vc, nc, rfl, hac₁₄, hC₁₄⟩ (mono_LL _))) (by simp at hSl hpl; omega) fun p hp C mC g' h' u G' hn hu' hR => ?_
            obtain ⟨wp, kp, rfl, _, _, _⟩ := okS.pair p (.tail _ ((called_sub _ _).subset hp))
            refine EvN.ints ((ev_list (P := consP (isI kf) (consP (isI kp) nilP)) (mono_consP (mono_isI _) (mono_consP (mono_isI _) mono_nilP)) (spl_cons (mono_isI _) ?_ (spl_cons (mono_isI _) ?_ spl_nil)) ?_).weaken ?_)
            · exact ev_item (ns := [wf, kf]) (k := 1) (x := kf) (ev_cell (c := L + 2) (v := vf) rfl ((F₁₅.cells "first" (L + 2) rfl).1.keeps G'.heap) (mono_ILv _ _ _ _ G'.sub pf₁₄) (mono_IL _)) ev_int (by omega) (by omega) rfl
            · exact ev_item (ns := [wp, kp]) (k := 1) (x := kp) (ev_local hn hu' hR (mono_IL _)) ev_int (by omega) (by omega) rfl
            · rintro g' h' vs ⟨a, r, rfl, _, b, r', rfl, _, p⟩
              cases p; simp
            · rintro g' h' vs _ ⟨a, r, rfl, ⟨t, rfl⟩, b, r', rfl, ⟨t', rfl⟩, p⟩
              cases p
              exact .cons _ t (.cons _ t' .nil)
          · refine ev_map (items := ([] : List (List Int))) (R := ILv) (S := ILv) (fun p => p) (cl := []) rfl (by decide) rfl (by decide) rfl mono_ILv mono_ILv (Ev.walkL hh (F₁₅.loc (v := .ref am) rfl ⟨am, [], nm, rfl, ham, .nil⟩ (mono_LL _))) (by simp) fun p hp => by cases hp
          · obtain ⟨b, us, n, rfl, hb', hI⟩ := p
            obtain ⟨b', us', n', rfl, hb'', hI'⟩ := q
            cases hI'
            refine EvN.lists ((op_addL (G'.now _ _ hb') (G'.now _ _ hb'') (by have := hI.length; have e2 : (stepT [wf, kf] r).length = (calledF r wf).length := List.length_map _; simp at hSl hpl ⊢; omega)).weaken fun g'' h'' us' G'' e => ?_)
            rw [e, List.append_nil]
            exact hI.mono G''.sub
        obtain ⟨au, vu, nu, rfl, hau, hIu⟩ := pu
        have hul := hIu.length
        have hstl : (stepT [wf, kf] r).length = (calledF r wf).length := List.length_map _
        refine cl_extend ha₁₆ (F₁₆.now _ _ hau) (by simp at hSl hpl; omega) fun h₁₇ nt' hs₁₇ hg₁₇ => ?_
        have F₁₇ := Fm.change (W₁ := [(as, _), (I, _)]) (W₂ := []) F₁₆ hs₁₇ hg₁₇
        -- waiting = waiting + ..
        refine ex_assign (P := LL (stepW [wf, kf] r)) F₁₇ ?_ fun wv g₁₈ h₁₈' h₁₈ tk₁₈ hs₁₈ pw F₁₈ => ?_
        · refine ev_binop (P₁ := isV (.ref as)) (P₂ := LL ((calledF r wf).map decP)) (mono_isV _) (F₁₇.loc (v := .ref as) rfl rfl (mono_isV _)) (EvN.f2L ?_) fun x y g' h' G' p q => ?_
          · refine ev_map (items := calledF r wf) (R := ILv) (S := ILv) decP (cl := []) rfl (by decide) rfl (by decide) rfl mono_ILv mono_ILv (Ev.walkL hh (F₁₇.loc (v := .ref ac) rfl ⟨ac, vc, nc, rfl, hs₁₆ _ _ hac₁₄, hC₁₄.mono hs₁₆⟩ (mono_LL _))) (by simp at hSl hpl; omega) fun p hp C mC g' h' u G' hn hu' hR => ?_
            obtain ⟨wp, kp, rfl, _, _, _⟩ := okS.pair p (.tail _ ((called_sub _ _).subset hp))
            refine EvN.ints ((ev_list (P := consP (isI (wp - 1)) (consP (isI kp) nilP)) (mono_consP (mono_isI _) (mono_consP (mono_isI _) mono_nilP)) (spl_cons (mono_isI _) (ev_binop (mono_isI wp) (ev_item (ns := [wp, kp]) (k := 0) (x := wp) (ev_local hn hu' hR (mono_IL _)) ev_int (by omega) (by omega) rfl) ev_int fun _ _ _ _ _ p q => op_sub p q) (spl_cons (mono_isI _) ?_ spl_nil)) ?_).weaken ?_)
            · exact ev_item (ns := [wp, kp]) (k := 1) (x := kp) (ev_local hn hu' hR (mono_IL _)) ev_int (by omega) (by omega) rfl
            · rintro g' h' vs ⟨a, r, rfl, _, b, r', rfl, _, p⟩
              cases p; simp
            · rintro g' h' vs _ ⟨a, r, rfl, ⟨t, rfl⟩, b, r', rfl, ⟨t', rfl⟩, p⟩
              cases p
              exact .cons _ t (.cons _ t' .nil)
          · cases p
            obtain ⟨b', us', n', rfl, hb'', hI'⟩ := q
            have hrl := hrest.length
            have hul' := hI'.length
            have hstepl := stepW_length okS
            unfold stepW at hstepl
            rw [List.length_append] at hstepl
            refine EvN.lists ((op_addL (G'.heap _ _ (F₁₇.at_ (.head _))) (G'.now _ _ hb'') (by show vas'.length + us'.length ≤ 1000; simp [fW] at hSl hpl hstepl hrl hul'; omega)).weaken fun g'' h'' us'' G'' e => ?_)
            rw [e]
            exact (hrest.mono fun b o e => G''.sub _ _ (G'.sub _ _ (hs₁₆ _ _ e))).append (hI'.mono G''.sub)
        obtain ⟨aw', vw', nw', rfl, haw', hIw⟩ := pw
        refine wpAny_execs_nil ?_
        refine ⟨_, _, _, g₁₈, h₁₈, tk₁₈, rfl, ?_, F₁₈.drop, aw', vw', nw', at_, vt ++ vu, nt', stepW [wf, kf] r, Ti ++ stepT [wf, kf] r, rfl, ?_, rfl, haw', hIw, ?_, okS.step, ?_, ?_, ?_⟩
        · exact fun b o e => hs₁₈ _ _ (hs₁₆ _ _ (up₁₄ _ _ (up₁₀ _ _ (hs₈ _ _ (hs₇ _ _ e)))))
        · exact mT
        · exact ((hTi₁₄.mono hs₁₆).append hIu).mono hs₁₈
        · rw [stepW_length okS]; simp at hpl; omega
        · rw [List.length_append, hstl]; simp at hSl hpl; omega
        · intro n T' hr
          have := hrun (n + 1) _ (.step hperm hpw hr)
          rw [List.append_assoc]
          have e : i + 1 + n = i + (n + 1) := by omega
          rw [e]; exact this
    · intro m₁ cm₁ W₁ g₆ h₆ tk₆ hs₆ hJ F₆
      obtain ⟨aw, vw, nw, at_, vt, nt, Wi, Ti, mW, mT, rfl, haw, hWi, hTi, ok, hlen, hTl, hrun⟩ := hJ
      have F₇ := F₆.freeze
      refine ex_return (P := isV (.ref at_)) F₇ (F₇.loc (v := .ref at_) mT rfl (mono_isV _)) fun u g₈ h₈ tk₈ hs₈ p F₈ => ?_
      cases p
      refine k _ g₈ h₈ tk₈ F₈.gr ⟨Ti, ⟨at_, vt, nt, rfl, hs₈ _ _ (upd_self _ _ _), (hTi.mono F₆.freeze_sub).mono hs₈⟩, ?_⟩
      have := hrun 0 [] (.nil _)
      simpa using this
end
end Mine
end

section
open PySem PySem.W PyProof.Rows
set_option autoImplicit false
set_option linter.unusedVariables false
namespace Mine

section
variable {prog : Program} {w : World} {A : Around} {g₀ g : Map} {h₀ : Heap} {s : Shared} {E : Value → Shared → Prop}

/-- a frame's own names only: what is captured is left out -/
abbrev ownE (env : Env) : Env := { env with cells := [] }

/-- the loop of one clause of a comprehension -/
theorem cl_loop {α : Type} {elt : Expr} {gens : List Comprehension} {scope : Scope} {pos : Pos} {d : Nat} {x : Str} {px p : Pos} {I : Addr} {acc : Value} {cenv : Env} {body : Sem PySem.Fin} {m cm : Str → Option Value} {W : List (Addr × Obj)} {oI : Obj} {items : List α} {R : Map → α → Value → Prop}
    {fp : List Addr} {P : Nat → Value → Prop} {St : Nat → Heap → Prop} {RR : Result → Shared → Prop}
    (ht : compTurn (.ListComp elt gens scope pos) d (.ref I) acc cenv = (standAt p >>= fun _ => pyNext (.ref I) >>= fun r => match r with
      | none => pure (.done .next)
      | some v => letOwnedTupleGo (.Name x px) (.ref I) v >>= fun _ => assign (.Name x px) cenv v >>= fun _ => body))
    (mR : MonoM R) (F : Fm g₀ h₀ (ownE cenv) m cm ((I, oI) :: W) g s.heap) (Wk : Walks prog w A I fp [I] items.length P St) (st : St 0 s.heap)
    (hP : ∀ i u, i < items.length → P i u → ∃ a, items[i]? = some a ∧ R g a u) (hSt : ∀ i h, St i h → ∃ o, h.get? I = some o) (hgf : ∀ b ∈ fp, b ≠ I → ∃ o, g b = some o)
    (hk : cenv.scope.kind = .function) (hl : cenv.kindOf x = some .local)
    (J : Nat → (Str → Option Value) → List (Addr × Obj) → Map → Prop) (j0 : J 0 m W g)
    (turn : ∀ i a v m₁ W₁ g₁ h₁ tk oI E', items[i]? = some a → R g₁ a v → (∀ b o, g b = some o → g₁ b = some o) → J i m₁ W₁ g₁ → Fm g₀ h₀ (ownE cenv) (updS m₁ x v) cm ((I, oI) :: W₁) g₁ h₁ →
      wpAny (model prog w) A body (fun fin s₂ => fin = .again (.compLoop (.ListComp elt gens scope pos) d (.ref I) acc cenv) ∧ ∃ m₂ W₂ g₂ h₂ tk₂, s₂ = { s with heap := h₂, toks := tk₂ } ∧ (∀ b o, g₁ b = some o → g₂ b = some o) ∧ Fm g₀ h₀ (ownE cenv) m₂ cm ((I, oI) :: W₂) g₂ h₂ ∧ J (i + 1) m₂ W₂ g₂) E' { s with heap := h₁, toks := tk })
    (done : ∀ m₁ W₁ g₁ h₁ tk, (∀ b o, g b = some o → g₁ b = some o) → J items.length m₁ W₁ g₁ → Fm g₀ h₀ (ownE cenv) m₁ cm W₁ g₁ h₁ → RR (.ok .next) { s with heap := h₁, toks := tk }) :
    codeAny (model prog w) A (.compLoop (.ListComp elt gens scope pos) d (.ref I) acc cenv) RR s := by
  refine codeAny_loop rfl (fun j s' => ∃ i m' W' g' h' tk' oI, s' = { s with heap := h', toks := tk' } ∧ j = items.length + 1 - i ∧ i ≤ items.length ∧ St i h' ∧ (∀ b o, g b = some o → g' b = some o) ∧ Fm g₀ h₀ (ownE cenv) m' cm ((I, oI) :: W') g' h' ∧ J i m' W' g') ?_ (items.length + 1)
    ⟨0, m, W, g, s.heap, s.toks, oI, rfl, rfl, Nat.zero_le _, st, fun _ _ e => e, F, j0⟩
  rintro j s' ⟨i, m', W', g', h', tk', oI', rfl, rfl, hi, st', hsub, F', hJ⟩
  show wpAny _ A ((compTurn (.ListComp elt gens scope pos) d (.ref I) acc cenv).onRaise (fun x => do noteFrame x cenv; theTreesLotGoes x)) _ _ _
  refine wpAny_noted ?_
  rw [ht]
  refine wpAny_bind (wpAny_standAt (wpAny_bind ?_))
  by_cases hlt : i < items.length
  · refine Wk.item i _ _ _ hlt st' fun v h₅ tk₅ hPv st₅ hk₅ => ?_
    dsimp only at hk₅ ⊢
    obtain ⟨a, ha, hRa⟩ := hP i v hlt hPv
    obtain ⟨oI₅, hoI₅⟩ := hSt _ _ st₅
    have F₅ : Fm g₀ h₀ (ownE cenv) m' cm ((I, oI₅) :: W') g' h₅ := Fm.changeE (W₁ := []) F' (fun b o hb e => hk₅ b o (by simpa using hb) e) hoI₅
    refine wpAny_bind (wpAny_pure (wpAny_bind (wpAny_assign_Name (wpAny_storeName_local hl (m := m') F₅.ns (fun h₆ hn₆ hs₆ => ?_) (by rw [hk]; rfl)))))
    have F₆ : Fm g₀ h₀ (ownE cenv) (updS m' x v) cm ((I, oI₅) :: W') g' h₆ := F₅.store hn₆ hs₆
    dsimp only
    have st₆ : St (i + 1) h₆ := Wk.frame _ _ _ st₅ fun b hb o e => by
      by_cases hbI : b = I
      · subst hbI
        rw [hoI₅] at e; cases e
        exact F₆.at_ (.head _)
      · obtain ⟨o', ho'⟩ := hgf b hb hbI
        have h1 := F₅.now _ _ (hsub _ _ ho')
        rw [e] at h1; cases h1
        exact F₆.now _ _ (hsub _ _ ho')
    refine wpAny_mono (turn i a v m' W' g' h₆ _ oI₅ _ ha (mR _ _ _ _ hsub hRa) hsub hJ F₆) (fun fin s₂ hf => ?_) fun _ _ x => x
    obtain ⟨rfl, m₂, W₂, g₂, h₂, tk₂, rfl, hsub₂, Fm₂, hJ₂⟩ := hf
    refine ⟨rfl, items.length + 1 - (i + 1), by omega, i + 1, m₂, W₂, g₂, h₂, tk₂, oI₅, rfl, rfl, hlt, ?_, fun b o e => hsub₂ _ _ (hsub _ _ e), Fm₂, hJ₂⟩
    exact Wk.frame _ _ _ st₆ fun b hb o e => by
      by_cases hbI : b = I
      · subst hbI
        rw [F₆.at_ (.head _)] at e; cases e
        exact Fm₂.at_ (.head _)
      · obtain ⟨o', ho'⟩ := hgf b hb hbI
        have h1 := F₆.now _ _ (hsub _ _ ho')
        rw [e] at h1; cases h1
        exact Fm₂.now _ _ (hsub₂ _ _ (hsub _ _ ho'))
  · have hin : i = items.length := by omega
    subst hin
    refine Wk.done _ _ _ st' fun h₅ tk₅ hk₅ => ?_
    dsimp only at hk₅ ⊢
    have F₅ : Fm g₀ h₀ (ownE cenv) m' cm W' g' h₅ := F'.drop.otherE (fun b o hb e => hk₅ b o (by simpa using hb) e) (F'.led _ (.head _)).2.1 (F'.led _ (.head _)).2.2.1 (F'.led _ (.head _)).2.2.2.1 (fun p hp => Ne.symm ((List.pairwise_cons.mp F'.nd).1 p hp)) (F'.led _ (.head _)).2.2.2.2
    exact wpAny_pure (done m' W' g' h₅ tk₅ hsub hJ F₅)

theorem compTurn_two0 (elt i1 i2 t1 t2 : Expr) (scope : Scope) (pos : Pos) (it acc : Value) (env : Env) :
    compTurn (.ListComp elt [⟨t1, i1, [], 0⟩, ⟨t2, i2, [], 0⟩] scope pos) 0 it acc env = (standAt i1.pos >>= fun _ => pyNext it >>= fun r => match r with
      | none => pure (.done .next)
      | some v => letOwnedTupleGo t1 it v >>= fun _ => assign t1 env v >>= fun _ =>
        (eval i2 env >>= fun x => standAt i2.pos >>= fun _ => foldedSetIterable i2 env x >>= fun x => holding [x] (pyIter x) >>= fun it2 => runOwn (.compStart (.ListComp elt [⟨t1, i1, [], 0⟩, ⟨t2, i2, [], 0⟩] scope pos) 1 it2 acc env) env >>= fun _ =>
          again (.compLoop (.ListComp elt [⟨t1, i1, [], 0⟩, ⟨t2, i2, [], 0⟩] scope pos) 0 it acc env))) := by rfl
theorem compTurn_two1 (elt i1 i2 t1 t2 : Expr) (scope : Scope) (pos : Pos) (it acc : Value) (env : Env) :
    compTurn (.ListComp elt [⟨t1, i1, [], 0⟩, ⟨t2, i2, [], 0⟩] scope pos) 1 it acc env = (standAt i2.pos >>= fun _ => pyNext it >>= fun r => match r with
      | none => pure (.done .next)
      | some v => letOwnedTupleGo t2 it v >>= fun _ => assign t2 env v >>= fun _ =>
        (eval elt env >>= fun x => call (.builtin "list.append") [acc, x] >>= fun _ => pure ()) >>= fun _ =>
          again (.compLoop (.ListComp elt [⟨t1, i1, [], 0⟩, ⟨t2, i2, [], 0⟩] scope pos) 1 it acc env)) := by rfl
theorem compStart_two1 {elt i1 i2 t1 t2 : Expr} {scope : Scope} {pos : Pos} {it acc : Value} {env : Env} {R : Result → Shared → Prop}
    (h0 : codeAny (model prog w) A (.compLoop (.ListComp elt [⟨t1, i1, [], 0⟩, ⟨t2, i2, [], 0⟩] scope pos) 1 it acc env) R s)
    (h : wpAny (model prog w) A (pyIter it) (fun it' s' => codeAny (model prog w) A (.compLoop (.ListComp elt [⟨t1, i1, [], 0⟩, ⟨t2, i2, [], 0⟩] scope pos) 1 it' acc env) R s')
      (notedBy (model prog w) A env fun x s' => R (.error x) s') s) :
    codeAny (model prog w) A (.compStart (.ListComp elt [⟨t1, i1, [], 0⟩, ⟨t2, i2, [], 0⟩] scope pos) 1 it acc env) R s := by
  refine codeAny_of_tree ?_
  show wpAny _ _ ((compStart (.ListComp elt [⟨t1, i1, [], 0⟩, ⟨t2, i2, [], 0⟩] scope pos) 1 it acc env).onRaise (fun x => do noteFrame x env; standAt theWindowsPlace)) _ _ s
  refine wpAny_notedAt ?_
  unfold compStart
  show wpAny _ _ (ask >>= _) _ _ s
  refine wpAny_bind (wpAny_askSetting (wpAny_ite ?_))
  split
  · first
      | exact wpAny_bind (wpAny_pure (wpAny_pure (And.intro rfl h0)))
      | exact wpAny_pure (And.intro rfl h0)
  · refine wpAny_bind (wpAny_rule ?_)
    show wpAny _ _ (standAt i2.pos >>= _) _ _ s
    exact wpAny_bind (wpAny_standAt (wpAny_bind (wpAny_mono h (fun it' s' h' => wpAny_pure (And.intro rfl h')) fun _ _ x => x)))
end
end Mine
end

section
open PySem PySem.W PyProof.Rows
set_option autoImplicit false
set_option linter.unusedVariables false
namespace Mine

section
variable {prog : Program} {w : World} {A : Around} {g : Map} {h : Heap} {env : Env}

theorem comp2_core {α β γ : Type} {elt iter iter2 : Expr} {x y : Str} {px py pos : Pos} {scope : Scope} {cl : List (Str × Addr)} {items : List α} {R : Map → α → Value → Prop} (items2 : α → List β) {R2 : Map → β → Value → Prop} {out : α → β → γ} {S : Map → γ → Value → Prop}
    (hclos : closureFor scope env = pure cl) (hcell : ∀ y ∈ scope.names, y.2 ≠ .cell) (hkind : scope.kind = .function)
    (hnames : ∀ y ∈ scope.names, y.2 = .local → scope.names.lookup y.1 = some .local) (hx : scope.names.lookup x = some .local) (hy : scope.names.lookup y = some .local) (hxy : x ≠ y)
    (mR : MonoM R) (mR2 : MonoM R2) (mS : MonoM S) (hiter : Ev prog w A g h (eval iter env) (Walk prog w A R items)) (hz : ∀ i, ((items.take i).flatMap fun a => (items2 a).map (out a)).length ≤ 500) (hz2 : ∀ a ∈ items, (items2 a).length ≤ 400)
    (hiter2 : ∀ a ∈ items, ∀ C m g' h' v, Gr g h g' h' → h'.Ns C m → m x = some v → R g' a v → Ev prog w A g' h' (eval iter2 (compEnvC scope cl C env)) (Walk prog w A R2 (items2 a)))
    (hbody : ∀ a ∈ items, ∀ b ∈ items2 a, ∀ C m g' h' v u, Gr g h g' h' → h'.Ns C m → m x = some v → m y = some u → R g' a v → R2 g' b u →
      Ev prog w A g' h' (eval elt (compEnvC scope cl C env)) (fun g _ v => S g (out a b) v))
    {s : Shared} {g₀ : Map} {Q : Value → Shared → Prop} {E : Value → Shared → Prop} {use : Option (Value → Sem Unit)} {cpos : Pos} (G : Gr g h g₀ s.heap)
    (k : ∀ D C ys n g' h' tk m, Gr g₀ s.heap g' h' → s.heap.get? D = none → g' D = none → s.heap.get? C = none → g' C = none → D ≠ C → h'.get? D = some (seqObj "list" (ys : List Value).toArray n) → h'.Ns C m →
      F2 (fun v b => S g' b v) ys (items.flatMap fun a => (items2 a).map (out a)) → compPost (model prog w) A E use Q (.ref D) C (.ok .next) { s with heap := h', toks := tk })
    (hs : ∀ x, foldedSetIterable iter env x = pure x := by intro _; rfl) (hs2 : ∀ C x, foldedSetIterable iter2 (compEnvC scope cl C env) x = pure x := by intro _ _; rfl) :
    wpAny (model prog w) A (comprehension (.ListComp elt [⟨.Name x px, iter, [], 0⟩, ⟨.Name y py, iter2, [], 0⟩] scope pos) scope env cpos (newList []) false (eval iter env) use) Q E s := by
  refine wpAny_comprehension_free (use := use) rfl hs hclos hkind hnames (hiter s g₀ _ _ G fun v g₁ h₁ tk₁ G₁ hw => hw _ g₁ _ _ (Gr.refl G₁.now) fun I fp P St h₂ W st hk₂ hfp hwr0 hP hStw0 hgf => ?_)
  refine wpAny_newObj_type (wpAny_newFunctionEnv hcell (by intro y hy; simp at hy) (fun h₄ hns hsb => ?_) hkind)
  dsimp only at hns hsb hk₂ hwr0 ⊢
  generalize hH3 : h₂.push { cls := .type "list", dict := none, data := .seq ([] : List Value).toArray } = H3 at hns hsb ⊢
  have hC : H3.objs.size = h₂.objs.size + 1 := by rw [← hH3, size_push]
  have hDC : h₂.objs.size ≠ H3.objs.size := by rw [hC]; exact Nat.ne_of_lt (Nat.lt_succ_self _)
  have old : ∀ b o, h₂.get? b = some o → h₄.get? b = some o := fun b o e => by
    have hb : b < h₂.objs.size := Heap.lt_size e
    exact hsb.extBut b o (by rw [hC]; exact Nat.ne_of_lt (Nat.lt_succ_of_lt hb)) (Heap.get?_push_of_some _ (hH3 ▸ Heap.get?_push_of_some _ e))
  have hD₁ : h₁.get? h₂.objs.size = none := by
    cases q : h₁.get? h₂.objs.size with
    | none => rfl
    | some o => have := hk₂ _ _ q; rw [get_new] at this; cases this
  have hC₁ : h₁.get? H3.objs.size = none := by
    cases q : h₁.get? H3.objs.size with
    | none => rfl
    | some o => have := hk₂ _ _ q; rw [hC, get_new1] at this; cases this
  have hD₄ : h₄.get? h₂.objs.size = some (seqObj "list" ([] : List Value).toArray 0) := hsb.extBut _ _ hDC (Heap.get?_push_of_some _ (hH3 ▸ Heap.get?_push_size _ rfl))
  have st₄ : St 0 h₄ := W.frame _ _ _ st fun b _ o e => old b o e
  obtain ⟨oI₀, hoI₀⟩ := hStw0 _ _ st
  have hI₂ : I < h₂.objs.size := Heap.lt_size hoI₀
  have F₄ : Fm g₁ h₁ (ownE (compEnvC scope cl H3.objs.size env)) (fun x => ([] : List (Str × Value)).reverse.lookup x) (fun _ => none) [(I, oI₀), (h₂.objs.size, seqObj "list" ([] : List Value).toArray 0)] g₁ h₄ := {
    gr := Gr.of_heap G₁.now fun b o e => old b o (hk₂ b o e)
    ns := hns
    nl := hC₁
    gl := g_new G₁.now hC₁
    cells := fun n c e => by cases e
    apart := fun n n' c e => by cases e
    led := fun p hp => by
      rcases List.mem_cons.mp hp with rfl | hp
      · exact ⟨old _ _ hoI₀, g_new G₁.now hwr0, by show I ≠ H3.objs.size; rw [hC]; exact Nat.ne_of_lt (Nat.lt_succ_of_lt hI₂), fun n c e => (by cases e), hwr0⟩
      · rw [List.mem_singleton.mp hp]
        exact ⟨hD₄, g_new G₁.now hD₁, hDC, fun n c e => (by cases e), hD₁⟩
    nd := by
      refine List.pairwise_cons.mpr ⟨fun p hp => ?_, List.pairwise_singleton _ _⟩
      rw [List.mem_singleton.mp hp]
      exact Nat.ne_of_lt hI₂ }
  have hlx : (compEnvC scope cl H3.objs.size env).kindOf x = some .local := lookup_relabel_local hx
  have hly : (compEnvC scope cl H3.objs.size env).kindOf y = some .local := lookup_relabel_local hy
  have hke : (compEnvC scope cl H3.objs.size env).scope.kind = .function := by simp [compEnvC, relabel, hkind]
  have none₁ : ∀ a, h₁.get? a = none → s.heap.get? a = none := fun a ha => by
    cases q : s.heap.get? a with
    | none => rfl
    | some o => have := G₁.heap _ _ q; rw [ha] at this; cases this
  have loop : ∀ s₅ : Shared, s₅ = { s with heap := h₄, toks := tk₁ + ([] : List (Str × Value)).length } →
      codeAny (model prog w) A (.compLoop (.ListComp elt [⟨.Name x px, iter, [], 0⟩, ⟨.Name y py, iter2, [], 0⟩] scope pos) 0 (.ref I) (.ref h₂.objs.size) (compEnvC scope cl H3.objs.size env))
        (compPost (model prog w) A E use Q (.ref h₂.objs.size) H3.objs.size) s₅ := by
    rintro s₅ rfl
    refine cl_loop (x := x) (px := px) (g₀ := g₁) (h₀ := h₁) (compTurn_two0 ..) mR F₄ W st₄ hP hStw0 hgf hke hlx
      (fun i m W g => ∃ ys n, W = [(h₂.objs.size, seqObj "list" (ys : List Value).toArray n)] ∧ F2 (fun v b => S g b v) ys ((items.take i).flatMap fun a => (items2 a).map (out a)))
      ⟨[], 0, rfl, by simpa using F2.nil⟩ ?_ ?_
    · rintro i a v m₁ W₁ g₅ h₅ tk₅ oI E' ha hRa hs₅ ⟨ys, n, rfl, hF⟩ F₅
      have ham : a ∈ items := List.mem_of_getElem? ha
      have etake : items.take (i + 1) = items.take i ++ [a] := by rw [List.take_add_one, ha]; rfl
      have Gg : Gr g h g₅ h₅ := (G.trans G₁).trans F₅.gr
      have mx : updS m₁ x v x = some v := if_pos rfl
      refine wpAny_bind ((hiter2 a ham H3.objs.size _ g₅ h₅ v Gg F₅.ns mx hRa) _ g₅ _ _ (Gr.refl F₅.now) fun u g₆ h₆ tk₆ G₆ hw₂ => ?_)
      refine wpAny_bind (wpAny_standAt (wpAny_bind (wpAny_of_eq (hs2 _ _) (wpAny_bind (wpAny_holding (hw₂ _ g₆ _ _ (Gr.refl G₆.now) fun I2 fp2 P2 St2 h₇ Wk2 st2 hk₇ hfp2 hI2 hP2 hSt2 hgf2 => ?_))))))
      dsimp only at hk₇ hI2 ⊢
      obtain ⟨oI2, hoI2⟩ := hSt2 _ _ st2
      have F₇ := (F₅.grow G₆).add (Gr.of_heap G₆.now hk₇) hI2 (g_new G₆.now hI2) hoI2
      have inner : ∀ s₈ : Shared, s₈ = { s with heap := h₇, toks := tk₆ } → ∀ RR : Result → Shared → Prop,
          (∀ m₂ W₂ g₂ h₂' tk₂, (∀ b o, g₆ b = some o → g₂ b = some o) → (∃ ys' n', W₂ = [(I, oI), (h₂.objs.size, seqObj "list" (ys' : List Value).toArray n')] ∧ m₂ x = some v ∧ F2 (fun v b => S g₂ b v) ys' (((items.take i).flatMap fun a => (items2 a).map (out a)) ++ ((items2 a).take (items2 a).length).map (out a))) →
            Fm g₁ h₁ (ownE (compEnvC scope cl H3.objs.size env)) m₂ (fun _ => none) W₂ g₂ h₂' → RR (.ok .next) { s with heap := h₂', toks := tk₂ }) →
          codeAny (model prog w) A (.compLoop (.ListComp elt [⟨.Name x px, iter, [], 0⟩, ⟨.Name y py, iter2, [], 0⟩] scope pos) 1 (.ref I2) (.ref h₂.objs.size) (compEnvC scope cl H3.objs.size env)) RR s₈ := by
        rintro s₈ rfl RR hdone
        refine cl_loop (x := y) (px := py) (g₀ := g₁) (h₀ := h₁) (compTurn_two1 ..) mR2 F₇ Wk2 st2 hP2 hSt2 hgf2 hke hly
          (fun j m W g => ∃ ys' n', W = [(I, oI), (h₂.objs.size, seqObj "list" (ys' : List Value).toArray n')] ∧ m x = some v ∧ F2 (fun v b => S g b v) ys' (((items.take i).flatMap fun a => (items2 a).map (out a)) ++ ((items2 a).take j).map (out a)))
          ⟨ys, n, rfl, mx, ?_⟩ ?_ hdone
        · rw [List.take_zero, List.map_nil, List.append_nil]
          exact hF.mono fun _ _ q => mS _ _ _ _ G₆.sub q
        · rintro j b u m₂ W₂ g₈ h₈ tk₈ oI2' E'' hb hRb hs₈ ⟨ys', n', rfl, mx₂, hF'⟩ F₈
          have hbm : b ∈ items2 a := List.mem_of_getElem? hb
          have etake2 : (items2 a).take (j + 1) = (items2 a).take j ++ [b] := by rw [List.take_add_one, hb]; rfl
          have hRa₈ : R g₈ a v := mR _ _ _ _ (fun b o e => hs₈ _ _ (G₆.sub _ _ e)) hRa
          have mx₃ : updS m₂ y u x = some v := by unfold updS; rw [if_neg hxy]; exact mx₂
          refine wpAny_bind (wpAny_bind ((hbody a ham b hbm H3.objs.size _ g₈ h₈ v u ((G.trans G₁).trans F₈.gr) F₈.ns mx₃ (if_pos rfl) hRa₈ hRb) _ g₈ _ _ (Gr.refl F₈.now) fun z g₉ h₉ tk₉ G₉ pz => ?_))
          have F₉ := F₈.grow G₉
          have hlen := hF'.length
          have hl1 := hz i
          have hl2 : ((items2 a).take j).length ≤ 400 := Nat.le_trans (by rw [List.length_take]; omega) (hz2 a ham)
          have hD₉ : h₉.get? h₂.objs.size = some (seqObj "list" ys'.toArray n') := F₉.at_ (.tail _ (.tail _ (.head _)))
          refine wpAny_bind (cl_append (s := { s with heap := h₉, toks := tk₉ }) hD₉ (by rw [hlen, List.length_append, List.length_map]; omega) fun h' n'' hs' hg' => ?_)
          have F' := Fm.change (W₁ := [(I2, oI2'), (I, oI)]) (W₂ := []) F₉ hs' hg'
          refine wpAny_pure (wpAny_pure ⟨rfl, _, _, g₉, h', tk₉, rfl, G₉.sub, F', ys' ++ [z], n'', rfl, mx₃, ?_⟩)
          rw [etake2, List.map_append, ← List.append_assoc]
          exact F2.snoc (R := fun v b => S g₉ b v) pz (hF'.mono fun _ _ q => mS _ _ _ _ G₉.sub q)
      have fin : ∀ m₂ W₂ g₂ h₂' tk₂, (∀ b o, g₆ b = some o → g₂ b = some o) → (∃ ys' n', W₂ = [(I, oI), (h₂.objs.size, seqObj "list" (ys' : List Value).toArray n')] ∧ m₂ x = some v ∧ F2 (fun v b => S g₂ b v) ys' (((items.take i).flatMap fun a => (items2 a).map (out a)) ++ ((items2 a).take (items2 a).length).map (out a))) →
            Fm g₁ h₁ (ownE (compEnvC scope cl H3.objs.size env)) m₂ (fun _ => none) W₂ g₂ h₂' → ∃ m₃ W₃ g₃ h₃ tk₃, ({ s with heap := h₂', toks := tk₂ } : Shared) = { s with heap := h₃, toks := tk₃ } ∧ (∀ b o, g₅ b = some o → g₃ b = some o) ∧ Fm g₁ h₁ (ownE (compEnvC scope cl H3.objs.size env)) m₃ (fun _ => none) ((I, oI) :: W₃) g₃ h₃ ∧
              ∃ ys n, W₃ = [(h₂.objs.size, seqObj "list" (ys : List Value).toArray n)] ∧ F2 (fun v b => S g₃ b v) ys ((items.take (i + 1)).flatMap fun a => (items2 a).map (out a)) := by
        rintro m₂ W₂ g₂ h₂' tk₂ hs₂ ⟨ys', n', rfl, mx₂, hF'⟩ F₂
        refine ⟨m₂, _, g₂, h₂', tk₂, rfl, fun b o e => hs₂ _ _ (G₆.sub _ _ e), F₂, ys', n', rfl, ?_⟩
        rw [etake, List.flatMap_append, List.flatMap_singleton]
        rwa [List.take_length] at hF'
      refine wpAny_bind (wpAny_runOwn ?_)
      exact compStart_two1 (inner _ rfl _ fun m₂ W₂ g₂ h₂' tk₂ a1 a2 a3 => wpAny_pure ⟨rfl, fin m₂ W₂ g₂ h₂' tk₂ a1 a2 a3⟩) (Wk2.self 0 _ _ _ st2 (inner _ rfl _ fun m₂ W₂ g₂ h₂' tk₂ a1 a2 a3 => wpAny_pure ⟨rfl, fin m₂ W₂ g₂ h₂' tk₂ a1 a2 a3⟩))
    · rintro m₁ W₁ g₅ h₅ tk₅ hs₅ ⟨ys, n, rfl, hF⟩ F₅
      have led := F₅.led _ (.head _)
      exact k _ _ ys n g₅ h₅ tk₅ m₁ (G₁.trans F₅.gr) (none₁ _ hD₁) led.2.1 (none₁ _ hC₁) F₅.gl hDC led.1 F₅.ns (by rw [List.take_length] at hF; exact hF)
  exact codeAny_compStart_list (loop _ rfl) (W.self 0 _ _ _ st₄ (loop _ rfl))
end
end Mine
end

section
open PySem PySem.W PyProof.Rows
set_option autoImplicit false
set_option linter.unusedVariables false
namespace Mine

section
variable {prog : Program} {w : World} {A : Around}

theorem ev_comp2 {g : Map} {h : Heap} {env : Env} {α β γ : Type} {elt iter iter2 : Expr} {x y : Str} {px py pos : Pos} {scope : Scope} {cl : List (Str × Addr)} {items : List α} {R : Map → α → Value → Prop} (items2 : α → List β) {R2 : Map → β → Value → Prop} {out : α → β → γ} {S : Map → γ → Value → Prop}
    (hclos : closureFor scope env = pure cl) (hcell : ∀ y ∈ scope.names, y.2 ≠ .cell) (hkind : scope.kind = .function)
    (hnames : ∀ y ∈ scope.names, y.2 = .local → scope.names.lookup y.1 = some .local) (hx : scope.names.lookup x = some .local) (hy : scope.names.lookup y = some .local) (hxy : x ≠ y)
    (mR : MonoM R) (mR2 : MonoM R2) (mS : MonoM S) (hiter : Ev prog w A g h (eval iter env) (Walk prog w A R items)) (hz : ∀ i, ((items.take i).flatMap fun a => (items2 a).map (out a)).length ≤ 500) (hz2 : ∀ a ∈ items, (items2 a).length ≤ 400)
    (hiter2 : ∀ a ∈ items, ∀ C m g' h' v, Gr g h g' h' → h'.Ns C m → m x = some v → R g' a v → Ev prog w A g' h' (eval iter2 (compEnvC scope cl C env)) (Walk prog w A R2 (items2 a)))
    (hbody : ∀ a ∈ items, ∀ b ∈ items2 a, ∀ C m g' h' v u, Gr g h g' h' → h'.Ns C m → m x = some v → m y = some u → R g' a v → R2 g' b u →
      Ev prog w A g' h' (eval elt (compEnvC scope cl C env)) (fun g _ v => S g (out a b) v))
    (hs : ∀ x, foldedSetIterable iter env x = pure x := by intro _; rfl) (hs2 : ∀ C x, foldedSetIterable iter2 (compEnvC scope cl C env) x = pure x := by intro _ _; rfl) :
    EvN prog w A g h (eval (.ListComp elt [⟨.Name x px, iter, [], 0⟩, ⟨.Name y py, iter2, [], 0⟩] scope pos) env) (fun g _ vs => F2 (fun v b => S g b v) vs (items.flatMap fun a => (items2 a).map (out a))) :=
  fun s g₀ Q E G k => by
    rw [eval_ListComp]
    refine comp2_core items2 hclos hcell hkind hnames hx hy hxy mR mR2 mS hiter hz hz2 hiter2 hbody G (fun D C ys n g' h' tk m G' hD gD hC gC hDC hl hn hF => ?_) hs hs2
    refine ⟨m, hn, fun h₆ hs₆ => ?_⟩
    exact k D ys n g' h₆ tk (G'.but hs₆ hC gC) hD gD (by rw [hs₆.2 _ hDC]; exact hl) hF

theorem ex_comp2 {g₀ g : Map} {h₀ : Heap} {env : Env} {m cm : Str → Option Value} {W : List (Addr × Obj)} {s : Shared} {E : Value → Shared → Prop} {Q : Flow → Shared → Prop} {rest : List Stmt}
    {α β γ : Type} {elt iter iter2 : Expr} {x y z : Str} {px py pz pos spos : Pos} {scope : Scope} {cl : List (Str × Addr)} {items : List α} {R : Map → α → Value → Prop} (items2 : α → List β) {R2 : Map → β → Value → Prop} {out : α → β → γ} {S : Map → γ → Value → Prop}
    (F : Fm g₀ h₀ env m cm W g s.heap)
    (hclos : closureFor scope env = pure cl) (hcell : ∀ y ∈ scope.names, y.2 ≠ .cell) (hkind : scope.kind = .function)
    (hnames : ∀ y ∈ scope.names, y.2 = .local → scope.names.lookup y.1 = some .local) (hx : scope.names.lookup x = some .local) (hy : scope.names.lookup y = some .local) (hxy : x ≠ y)
    (mR : MonoM R) (mR2 : MonoM R2) (mS : MonoM S) (hiter : Ev prog w A g s.heap (eval iter env) (Walk prog w A R items)) (hz : ∀ i, ((items.take i).flatMap fun a => (items2 a).map (out a)).length ≤ 500) (hz2 : ∀ a ∈ items, (items2 a).length ≤ 400)
    (hiter2 : ∀ a ∈ items, ∀ C m g' h' v, Gr g s.heap g' h' → h'.Ns C m → m x = some v → R g' a v → Ev prog w A g' h' (eval iter2 (compEnvC scope cl C env)) (Walk prog w A R2 (items2 a)))
    (hbody : ∀ a ∈ items, ∀ b ∈ items2 a, ∀ C m g' h' v u, Gr g s.heap g' h' → h'.Ns C m → m x = some v → m y = some u → R g' a v → R2 g' b u →
      Ev prog w A g' h' (eval elt (compEnvC scope cl C env)) (fun g _ v => S g (out a b) v))
    (k : ∀ a vs n g' h'' tk, (∀ b o, g b = some o → g' b = some o) → F2 (fun v b => S g' b v) vs (items.flatMap fun a => (items2 a).map (out a)) → Fm g₀ h₀ env (updS m z (.ref a)) cm ((a, seqObj "list" vs.toArray n) :: W) g' h'' →
      wpAny (model prog w) A (execs rest env) Q E { s with heap := h'', toks := tk })
    (hsw : swapsWith (.ListComp elt [⟨.Name x px, iter, [], 0⟩, ⟨.Name y py, iter2, [], 0⟩] scope pos) (some (.Name z pz)) spos.line env = pure true)
    (hk : env.scope.kind = .function := by rfl) (hl : env.kindOf z = some .local := by rfl)
    (hs : ∀ x, foldedSetIterable iter env x = pure x := by intro _; rfl) (hs2 : ∀ C x, foldedSetIterable iter2 (compEnvC scope cl C env) x = pure x := by intro _ _; rfl) :
    wpAny (model prog w) A (execs (.Assign [.Name z pz] (.ListComp elt [⟨.Name x px, iter, [], 0⟩, ⟨.Name y py, iter2, [], 0⟩] scope pos) spos :: rest) env) Q E s := by
  refine wpAny_execs_cons ?_
  rw [exec_Assign_Name_used _ _ _ _ hsw]
  refine wpAny_bind (wpAny_standAt (wpAny_bind ?_))
  show wpAny _ A (do let _ ← comprehension (.ListComp elt [⟨.Name x px, iter, [], 0⟩, ⟨.Name y py, iter2, [], 0⟩] scope pos) scope env _ (newList []) false (eval iter env) (some (assign (.Name z pz) env))) _ _ s
  refine wpAny_bind (comp2_core items2 hclos hcell hkind hnames hx hy hxy mR mR2 mS hiter hz hz2 hiter2 hbody (Gr.refl F.now) (fun D C ys n g' h' tk mC G' hD gD hC gC hDC hlD hnC hF => ?_) hs hs2)
  show wpAny _ A (assign (.Name z pz) env (.ref D)) _ _ _
  have hLC : env.locals ≠ C := by rintro rfl; obtain ⟨o, _, _, ho, _⟩ := F.ns; rw [hC] at ho; cases ho
  have F₁ := F.add G' hD gD hlD
  have neC : ∀ b p, s.heap.get? b = some p → b ≠ C := fun b p e q => by rw [q, hC] at e; cases e
  refine wpAny_assign_Name (wpAny_storeName_local hl F₁.ns (fun h₂ hn₂ hs₂ => ?_) (by rw [hk]; rfl))
  have F₂ := F₁.store hn₂ hs₂
  refine ⟨mC, hnC.sameBut hs₂ (Ne.symm hLC), fun h₃ hs₃ => wpAny_pure (wpAny_pure (k D ys n g' h₃ _ G'.sub hF (F₂.other hs₃ gC (Ne.symm hLC) (fun n c e => ?_) (fun p hp => ?_) ?_)))⟩
  · obtain ⟨⟨o, ho, _⟩, _⟩ := F.cells n c e
    exact neC _ _ ho
  · rcases List.mem_cons.mp hp with rfl | hp
    · exact hDC
    · exact neC _ _ (F.led p hp).1
  · cases q : h₀.get? C with
    | none => rfl
    | some o => have := F.gr.heap _ _ q; rw [hC] at this; cases this
end
end Mine
end

section
open PySem PySem.W PyProof.Rows
set_option autoImplicit false
set_option linter.unusedVariables false
set_option maxRecDepth 100000
namespace Mine

def clsBody : Stmt → List Stmt
  | .ClassDef _ _ _ b _ _ _ _ _ _ _ => b
  | _ => []
def newSt : Stmt := (clsBody (top 6)).getD 4 (.Pass default)
/-- one of the text's class of triples -/
def misObj (vs : List Value) (dx : Addr) : Obj := { cls := .ref 156, dict := some dx, data := .seq vs.toArray 0 }

/-- what the class of triples answers when it is looked at -/
structure MisOk (K : Frag) : Prop where
  reads : readsIn K 156 (.type "type") = true
  found : findCls K (.ref 156) (.type "type") "__new__" = some (.get (.builtin "staticmethod.__get__") (.ref 157) .none (.ref 156))
  recd : ∃ rest, recIn K 157 "staticmethod" = some (.ref 103 :: rest)
  tnew : findCls K (.type "tuple") (.type "type") "__new__" = some (.val (.builtin "tuple.__new__"))
  obj : ∃ oc od cd sl, K.lookup 156 = some ⟨oc, od, .cls cd, sl⟩ ∧ cd.hasDel = false
  call : ∀ S, peek K S (specialOf (.ref 156) "__call__") = some (some (.builtin "type.__call__"))
  typ : ∀ S, peek K S (isInstance (.ref 156) (.type "type")) = some true
  isT : ∀ S, peek K S (isType (.ref 156)) = some true
  mro : ∀ S, peek K S (mroOf (.ref 156)) = some [.ref 156, .type "tuple", .type "object"]
  made : ∀ S, peek K S (Bind.madeBy (.ref 156)) = some none
  here : ∀ S, peek K S (Bind.madeHere "tuple.__new__" (.ref 156)) = some ()
  init : ∀ S, peek K S (typeLookup (.ref 156) "__init__") = some (some (.builtin "object.__init__"))
  new : ∀ S, peek K S (typeLookup (.ref 156) "__new__") = some (some (.ref 157))
  subT : ∀ S, peek K S (isSubtype (.ref 156) (.type "tuple")) = some true
  subO : ∀ S, peek K S (isSubtype (.ref 156) (.type "object")) = some true
  self : ∀ S, peek K S (isSubtype (.ref 156) (.ref 156)) = some true
  chk : ∀ S a, peek K S (checkBuiltinCall "tuple.__new__" ⟨[.ref 156, a], []⟩) = some ()
  keep : keepIn K (.ref 156) = true
def Tm (hb : Heap) : Prop := ∃ K : Frag, K.In hb ∧ MisOk K ∧ FnIs hb 103 newSt "Mismatch.__new__"

section
variable {prog : Program} {w : World} {A : Around} {E : Value → Shared → Prop} {s : Shared} {K : Frag} {name : Str} {v : Value}

theorem methodT {T : String} {pl : Sem Bool} {Q : Value × List Value → Shared → Prop} (X : K.In s.heap) (ht : typeOf (.type T) = pure (.type "type")) (hs : Manifest.isStub T = false)
    (e : findCls K (.type T) (.type "type") name = some (.val v)) (hh : handedIn v = true) (h : Q (v, []) { s with toks := s.toks + 1 }) : wpAny (model prog w) A (getMethod (.type T) name pl) Q E s := by
  have hstub : opaqueClassAbove (.type T) = pure none := by unfold opaqueClassAbove; dsimp only; rw [hs]; rfl
  have L0 : Looks (model prog w) s.heap (typeOf (.type T)) (.type "type") := Looks.of_pure ht
  have hg : findIn K (.type "type") "__getattribute__" = some (some (.builtin "type.__getattribute__")) := type_tga
  unfold getMethod specialOf
  refine wpAny_bind (wpAny_bind (L0.here ((looks_findIn X hg).here ?_)))
  dsimp only
  rw [if_pos canon_tga]
  refine wpAny_bind (wpAny_mono (Q := fun v => Q (v, [])) (E := E) ?_ (fun _ _ z => wpAny_pure z) fun _ _ z => z)
  have LO : Looks (model prog w) s.heap (opaqueClassAbove (.type T)) none := Looks.of_pure hstub
  refine cls_open X LO L0 hg (looks_hook X (r := none) (by rfl)) (by show subIn K _ _ = _; rfl) e
    (wpAny_pure (by show wpAny _ _ (handedOut v) _ _ _; rw [handedOut_of hh]; exact wpAny_pure h))

theorem looks_peek {α : Type} {h : Heap} {t : Sem α} {r : α} (X : K.In h) (e : ∀ S, peek K S t = some r) : Looks (model prog w) h t r := Looks.of_peek X (e _)

/-- tuple.__new__(the class, a tuple) -/
theorem cl_tnew {t : Addr} {vs : List Value} {Q : Value → Shared → Prop} (X : K.In s.heap) (M : MisOk K) (ht : s.heap.get? t = some (seqObj "tuple" vs.toArray 0)) (hz : vs.length ≤ 100)
    (k : ∀ x dx h', (∀ b o, s.heap.get? b = some o → h'.get? b = some o) → s.heap.get? x = none → h'.get? x = some (misObj vs dx) → Q (.ref x) { s with heap := h' }) :
    wpAny (model prog w) A (call (.builtin "tuple.__new__") [.ref 156, .ref t]) Q E s := by
  refine wpAny_call (codeAny_call_builtin_at (Code.quiet_builtin _ (by decide +kernel)) F.entry_tuple_new ?_)
  refine (looks_peek X (fun S => M.chk S (.ref t))).here ?_
  unfold Builtin.«tuple.__new__»
  dsimp only
  refine wpAny_bind ((looks_peek X M.isT).here ?_)
  simp only [Bool.not_true, Bool.false_eq_true, if_false]
  refine wpAny_bind ((looks_peek X M.subT).here ?_)
  simp only [Bool.not_true, Bool.false_eq_true, if_false]
  refine wpAny_bind ((looks_peek X M.here).here ?_)
  refine wpAny_bind ((looks_peek X M.init).here ?_)
  rw [if_pos (by decide)]
  refine wpAny_bind (m := noKeywords "tuple" _) (wpAny_pure ?_)
  refine wpAny_bind (m := checkCount "tuple" 0 1 _) (wpAny_pure ?_)
  rw [if_neg (by decide)]
  refine wpAny_bind (wpAny_collect_seq t (T := "tuple") (items := vs.toArray) (n := 0) (.inr rfl) ht rfl rfl (fun h₁ hk₁ => ?_) (by rw [List.size_toArray, sizeLine_eq]; omega))
  refine wpAny_bind (wpAny_pure ?_)
  obtain ⟨oc, od, cd, sl, ho, hdel⟩ := M.obj
  have hC₁ := hk₁ _ _ (X _ _ ho)
  refine wpAny_bind (wpAny_alloc (wpAny_bind ?_))
  unfold newObj
  dsimp only
  rw [if_neg (by simp only [List.size_toArray, sizeLine_eq]; omega)]
  unfold newObjAsIs classHasDel
  refine wpAny_bind (wpAny_alloc (wpAny_bind (wpAny_bind (wpAny_load (Heap.get?_push_of_some _ (Heap.get?_push_of_some _ hC₁)) (wpAny_pure ?_)))))
  rw [hdel]
  refine wpAny_pure (wpAny_pure ?_)
  dsimp only
  have hsz : (h₁.push { cls := .type "dict", data := .dict #[] }).objs.size = h₁.objs.size + 1 := size_push ..
  have hnew : s.heap.get? (h₁.objs.size + 1) = none := by
    cases q : s.heap.get? (h₁.objs.size + 1) with
    | none => rfl
    | some o => have := hk₁ _ _ q; rw [get_new1] at this; cases this
  have hat : ((h₁.push { cls := .type "dict", data := .dict #[] }).push (misObj vs h₁.objs.size)).get? (h₁.objs.size + 1) = some (misObj vs h₁.objs.size) := by
    rw [← hsz]; exact Heap.get?_push_size _ rfl
  rw [hsz]
  exact k (h₁.objs.size + 1) h₁.objs.size _ (fun b o e => Heap.get?_push_of_some _ (Heap.get?_push_of_some _ (hk₁ _ _ e))) hnew hat
end
end Mine
end

section
open PySem PySem.W PyProof.Rows
set_option autoImplicit false
set_option linter.unusedVariables false
set_option maxRecDepth 100000
namespace Mine

def isMis (vs : List Value) : Map → Heap → Value → Prop := fun g _ v => ∃ x dx, v = .ref x ∧ g x = some (misObj vs dx)
theorem mono_isMis (vs : List Value) : Mono (isMis vs) := fun _ _ _ _ _ G ⟨x, dx, e, h⟩ => ⟨x, dx, e, G.sub _ _ h⟩

section
variable {prog : Program} {w : World} {A : Around} {g : Map} {h hb : Heap} {mg mb : Str → Option Value}

/-- T.name(..) of a built-in type -/
theorem ev_methT {env : Env} {K : Frag} {o e : Expr} {rest : List Expr} {name : Str} {apos pos : Pos} {T id : String} {pl : Sem Bool} {P₁ : Map → Heap → List Value → Prop} {P : Map → Heap → Value → Prop} (X : K.In h) (ho : Ev prog w A g h (eval o env) (isV (.type T)))
    (ht : typeOf (.type T) = pure (.type "type")) (hst : Manifest.isStub T = false) (hf : findCls K (.type T) (.type "type") name = some (.val (.builtin id))) (hh : handedIn (.builtin id) = true)
    (he : ∀ g' h', Gr g h g' h' → Ev prog w A g' h' (spliced (backTo pos (starEach (e :: rest) env))) P₁) (hc : ∀ vs g' h', Gr g h g' h' → P₁ g' h' vs → Ev prog w A g' h' (call (.builtin id) vs) P)
    (hx : eval (.Call (.Attribute o name apos) (e :: rest) [] pos) env = (do
      let ov ← eval o env
      standAt apos.atName
      let (f, first) ← holding [ov] (getMethod ov name pl)
      callWith pos f first (backTo pos (starEach (e :: rest) env)) []) := by rfl) (hs : starEach (e :: rest) env = (false, eval e env) :: starEach rest env := by rfl) (hp : (backTo pos (starEach rest env)).any (·.1) = false := by rfl) :
    Ev prog w A g h (eval (.Call (.Attribute o name apos) (e :: rest) [] pos) env) P :=
  fun s g₁ Q E G q => MethodCall_ (pl := pl) (ho s g₁ _ _ G fun v g₂ h₂ tk₂ G₂ p₁ => by
    cases p₁
    refine methodT (s := { s with heap := h₂, toks := tk₂ }) (X.keeps fun b o e => G₂.heap _ _ (G.heap _ _ e)) ht hst hf hh ?_
    exact callWith_builtin1 (he g₂ h₂ (G.trans G₂) _ g₂ _ _ (Gr.refl G₂.now) fun vs g₃ h₃ tk₃ G₃ p₂ => hc vs g₃ h₃ ((G.trans G₂).trans G₃) p₂ _ g₃ _ _ (Gr.refl G₃.now) fun v g₄ h₄ tk₄ G₄ p => q v g₄ h₄ tk₄ ((G₂.trans G₃).trans G₄) p) hs hp) hx

/-- the class's own __new__ -/
theorem new_fn (T : Tp hb mg mb) (Tm' : Tm hb) (hbase : ∀ b o, hb.get? b = some o → h.get? b = some o) {a b c : Value} (hroom : A.depth < recursionLimit) :
    Ev prog w A g h (call (.ref 103) [.ref 156, a, b, c]) (isMis [a, b, c]) := by
  obtain ⟨K, X, M, o, doc, pm, an, cd, ct, ho, hd, hcd⟩ := Tm'
  refine ev_def (binds := [(Str.ofString "_cls", .ref 156), (Str.ofString "actual", a), (Str.ofString "expected", b), (Str.ofString "value", c)]) (hbase _ _ ho) hd rfl (T.nolimit.keeps hbase) (hcd.keeps hbase) hroom rfl rfl (by show ∀ x ∈ (fnScope newSt).names, x.2 ≠ .cell; decide) (locs rfl) ?_
  intro s g₁ L h₁ tk Q' E' G F k
  refine ex_expr F ev_str fun g₂ h₂ tk₂ hs₂ F₂ => ?_
  refine ex_return (P := isMis [a, b, c]) F₂ ?_ fun v g' h' tk' _ p F' => k v g' h' tk' F'.gr p
  have hb₂ : ∀ b o, hb.get? b = some o → h₂.get? b = some o := fun b o e => F₂.gr.heap _ _ (G.heap _ _ (hbase _ _ e))
  refine ev_methT (P₁ := consP (isV (.ref 156)) (consP (TupOf (consP (isV a) (consP (isV b) (consP (isV c) nilP)))) nilP)) (X.keeps hb₂) (nm_b T hb₂ T.tuple) (by kernel_rfl) (by kernel_rfl) M.tnew (by kernel_rfl) (fun g₄ h₄ G₄ => ?_) fun vs g₅ h₅ G₅ p₅ => ?_
  · have F₄ := F₂.grow G₄
    refine spl_cons (mono_isV _) (F₄.loc (x := "_cls") (v := .ref 156) rfl rfl (mono_isV _)) ?_
    refine spl_cons (mono_TupOf (mono_consP (mono_isV _) (mono_consP (mono_isV _) (mono_consP (mono_isV _) mono_nilP)))) ?_ spl_nil
    refine ev_tuple (mono_consP (mono_isV _) (mono_consP (mono_isV _) (mono_consP (mono_isV _) mono_nilP))) ?_ ?_
    · refine spl_cons (mono_isV _) (F₄.loc (x := "actual") (v := a) rfl rfl (mono_isV _)) ?_
      refine spl_cons (mono_isV _) (F₄.loc (x := "expected") (v := b) rfl rfl (mono_isV _)) ?_
      exact spl_cons (mono_isV _) (F₄.loc (x := "value") (v := c) rfl rfl (mono_isV _)) spl_nil
    · rintro g' h' vs ⟨_, _, rfl, _, _, _, rfl, _, _, _, rfl, _, p⟩
      cases p; simp
  · obtain ⟨_, _, rfl, p1, tv, _, rfl, ⟨t, us, rfl, ht, _, _, rfl, q1, _, _, rfl, q2, _, _, rfl, q3, q4⟩, p3⟩ := p₅
    cases p1; cases q1; cases q2; cases q3; cases q4; cases p3
    intro s₆ g₆ Q E G₆ q
    refine cl_tnew (s := s₆) (X.keeps fun b o e => G₆.heap _ _ (G₅.heap _ _ (hb₂ _ _ e))) M (G₆.now _ _ (G₆.sub _ _ ht)) (by simp) fun x dx h₇ hk₇ hn₇ hx₇ => ?_
    have G₇ : Gr g₆ s₆.heap (upd g₆ x (misObj [a, b, c] dx)) h₇ := (Gr.of_heap G₆.now hk₇).freeze hn₇ hx₇ (g_new G₆.now hn₇)
    exact q _ _ h₇ s₆.toks G₇ ⟨x, dx, rfl, upd_self _ _ _⟩

/-- the class is called -/
theorem mis_call (T : Tp hb mg mb) (Tm' : Tm hb) (hbase : ∀ b o, hb.get? b = some o → h.get? b = some o) {a b c : Value} (hroom : A.depth + 1 < recursionLimit) :
    Ev prog w A g h (call (.ref 156) [a, b, c]) (isMis [a, b, c]) := by
  have hfn := fun (A : Around) g h (hbase : ∀ b o, hb.get? b = some o → h.get? b = some o) hroom => new_fn (prog := prog) (w := w) (A := A) (g := g) (h := h) T Tm' hbase (a := a) (b := b) (c := c) hroom
  obtain ⟨K, X, M, _⟩ := Tm'
  obtain ⟨oc, od, cd, sl, ho, hdel⟩ := M.obj
  obtain ⟨rest, hrec⟩ := M.recd
  intro s g₁ Q E G q
  have hbs : ∀ b o, hb.get? b = some o → s.heap.get? b = some o := fun b o e => G.heap _ _ (hbase _ _ e)
  have Xs : K.In s.heap := X.keeps hbs
  have hC := Xs _ _ ho
  refine wpAny_call (codeAny_of_tree ?_)
  show wpAny _ _ (callAny (.ref 156) _) _ _ _
  refine nd_load hC ?_
  show wpAny _ _ (callAny.viaDunder (.ref 156) _) _ _ _
  unfold callAny.viaDunder
  refine wpAny_bind ((looks_peek Xs M.call).here ?_)
  dsimp only
  rw [tc_bind]
  refine wpAny_bind (wpAny_pure (wpAny_bind (wpAny_pure ?_)))
  refine wpAny_pure (a := PySem.Fin.again (.call (.builtin "type.__call__") ⟨[.ref 156, a, b, c], []⟩)) (And.intro rfl ?_)
  refine codeAny_call_builtin_at (Code.quiet_builtin _ (by decide +kernel)) entry_typeCall (check_slot tc_kind tc_split (looks_peek Xs M.typ) (tc_args _ _ _) ?_)
  unfold Builtin.«type.__call__»
  dsimp only
  rw [if_neg (by decide)]
  refine wpAny_bind ((looks_peek Xs M.mro).here ?_)
  rw [if_neg (by decide)]
  refine wpAny_bind ((looks_peek Xs M.made).here ?_)
  dsimp only
  refine wpAny_bind (cls_bind Xs M.reads M.found (wpAny_call (sm_get (s := { s with toks := s.toks + 1 }) Xs hrec (handed_on (by kernel_rfl) ?_))))
  refine wpAny_bind (wpAny_holding (hfn _ g₁ s.heap hbs ?hr { s with toks := s.toks + 1 } g₁ _ _ (Gr.refl G.now) fun v g₂ h₂ tk₂ G₂ p₂ => ?_))
  case hr =>
    have : (Code.builtin "type.__call__" ⟨[.ref 156, a, b, c], []⟩).weight = 1 := by kernel_rfl
    show A.depth + (Code.builtin "type.__call__" ⟨[.ref 156, a, b, c], []⟩).weight < _
    rw [this]; exact hroom
  obtain ⟨x, dx, rfl, hx⟩ := p₂
  have X₂ : K.In h₂ := Xs.keeps G₂.heap
  have hxh : h₂.get? x = some (misObj [a, b, c] dx) := G₂.now _ _ hx
  have t1 : Looks (model prog w) h₂ (typeOf (.ref x)) (.ref 156) := (Looks.ld hxh).andThen .now
  unfold isInstance callSpecial? specialOf
  refine wpAny_bind (wpAny_bind (t1.here ((looks_peek X₂ M.self).here ?_)))
  simp only [Bool.not_true, Bool.false_eq_true, if_false]
  refine wpAny_bind (wpAny_holding (wpAny_bind (wpAny_bind (t1.here ((looks_peek X₂ M.init).here ?_)))))
  dsimp only
  refine wpAny_holding (wpAny_bind ?_)
  have b1 : Looks (model prog w) h₂ (bindSpecial (.builtin "object.__init__") (.ref x)) (.builtin "object.__init__", [.ref x]) := Looks.of_pure (oi_bind (.ref x))
  refine b1.here ?_
  refine wpAny_bind (wpAny_call ?_)
  have t2 : Looks (model prog w) h₂ (isInstance (.ref x) (.type "object")) true := t1.andThen (looks_peek X₂ M.subO)
  have e1 : argsOk "object.__init__" ⟨[.ref x, a, b, c], []⟩ := by unfold argsOk; kernel_rfl
  refine codeAny_call_builtin oi_plain entry_oi (@check_slot (model prog w) _ _ _ "object.__init__" "object" "__init__" (.ref x) [a, b, c] [] _ oi_kind oi_split t2 e1 ?_)
  unfold Builtin.«object.__init__»
  dsimp only
  refine wpAny_bind (t1.here (wpAny_bind ((looks_peek X₂ M.init).here (wpAny_bind ((looks_peek X₂ M.made).here ?_)))))
  dsimp only
  rw [if_neg (by decide), if_neg (by decide)]
  refine wpAny_pure ?_
  dsimp only
  refine wpAny_pure (wpAny_pure ?_)
  exact q _ g₂ h₂ tk₂ G₂ ⟨x, dx, rfl, hx⟩
end
end Mine
end

section
open PySem PySem.W PyProof.Rows
set_option autoImplicit false
set_option linter.unusedVariables false
set_option maxRecDepth 100000
namespace Mine
open PySem.SeqAt

/-- an object of the plainest kind -/
def nulObj : Obj := { cls := .type "object", dict := none, data := .plain }
theorem mro_object : mroOf (.type "object") = pure [.type "object"] := by kernel_rfl
theorem lookup_object_new : typeLookup (.type "object") "__new__" = pure (some (.builtin "object.__new__")) := by rw [typeLookup_type, builtinLookup_eq_fast]; kernel_rfl
theorem called_object : TypeCalled "object" "object.__new__" "object.__init__" :=
  ⟨by decide +kernel, by decide +kernel, ⟨_, _, mro_object⟩, madeBy_type mro_object lookup_object_new (by decide +kernel), by decide +kernel, by rw [isSubtype_type]; kernel_rfl, PySem.F.slot_object_init⟩

section
variable {prog : Program} {w : World} {A : Around} {g : Map} {h : Heap} {s : Shared} {E : Value → Shared → Prop}

theorem meets_object_new : Meets (Builtin.«object.__new__» ⟨[.type "object"], []⟩) (fun _ R s => R (.ok (.ret (.ref s.heap.objs.size))) { s with heap := s.heap.push nulObj }) :=
  .of_wp fun prog w A R s h => by
    have e1 : isType (.type "object") = pure true := by kernel_rfl
    have e2 : Bind.madeHere "object.__new__" (.type "object") = pure () := by kernel_rfl
    unfold Builtin.«object.__new__»
    dsimp only
    refine wpAny_bind (wpAny_of_eq e1 ?_)
    simp only [Bool.not_true, Bool.false_eq_true, if_false]
    rw [if_neg (by decide +kernel)]
    refine wpAny_bind (wpAny_of_eq e2 ?_)
    rw [if_neg (by decide)]
    rw [if_neg (by decide +kernel)]
    refine wpAny_bind (wpAny_pure ?_)
    refine wpAny_bind (wpAny_newObj_type ?_ trivial)
    rw [if_neg (by decide +kernel)]
    exact wpAny_pure ⟨_, rfl, h⟩
theorem cl_object : Ev prog w A g h (call (.type "object") []) (fun g _ v => ∃ a, v = .ref a ∧ g a = some nulObj) :=
  fun s g₁ Q E G k => by
    refine callType_meets (Q₁ := fun obj s₁ => obj = .ref s.heap.objs.size ∧ s₁ = { s with heap := s.heap.push nulObj }) called_object (by kernel_rfl) (by kernel_rfl) PySem.F.entry_object_new PySem.F.entry_object_init meets_object_new ⟨rfl, rfl⟩ ?_
    rintro _ _ ⟨rfl, rfl⟩
    have hat : (s.heap.push nulObj).get? s.heap.objs.size = some nulObj := Heap.get?_push_size _ rfl
    refine ⟨⟨_, hat, rfl⟩, oi_args _, _, Meets.of_wp (S := fun _ R s => R (.ok (.ret .none)) s) (fun prog w A R s h => by rw [oi_run]; exact wpAny_pure ⟨_, rfl, h⟩), rfl, ?_⟩
    exact k _ (upd g₁ s.heap.objs.size nulObj) _ s.toks ((Gr.of_heap G.now fun b o e => Heap.get?_push_of_some _ e).freeze (get_new _) hat (g_new G.now (get_new _))) ⟨_, rfl, upd_self _ _ _⟩

/-- NULL == an int -/
theorem int_eq_nul (b : Int) (u : Tok) (l : Addr) : Meets (Builtin.«int.__eq__» ⟨[.int b u, .ref l], []⟩) (fun _ R s => s.heap.get? l = some nulObj ∧ R (.ok (.ret .notImplemented)) s) := by
  intro prog w A R s h
  obtain ⟨hp, g, d, tk, os⟩ := s; obtain ⟨ho, h⟩ := h
  have hT : Shared.TypeIs ⟨hp, g, d, tk, os⟩ (.ref l) "object" := ⟨_, ho, rfl⟩
  wp_walk using wpAny_loadPart' ho, wpAny_typeOf hT
  exact h
theorem obj_eq_int (b : Int) (u : Tok) (l : Addr) : Meets (Builtin.«object.__eq__» ⟨[.ref l, .int b u], []⟩) (fun _ R s => s.heap.get? l = some nulObj ∧ R (.ok (.ret .notImplemented)) s) := by
  intro prog w A R s h
  obtain ⟨hp, g, d, tk, os⟩ := s; obtain ⟨ho, h⟩ := h
  wp_walk
  exact h
theorem op_eqNul {l : Addr} {b : Int} {v : Value} (hl : g l = some nulObj) (hv : isI b g h v) (hu : A.units < cLine) : Ev prog w A g h (compareOp .Eq (.ref l) v) (isV (.bool false)) := by
  obtain ⟨u, rfl⟩ := hv
  refine Ev.of fun s g₁ Q E G q => ?_
  have ho := G.now _ _ (G.sub _ _ hl)
  have ha : s.TypeIs (.ref l) "object" := ⟨_, ho, rfl⟩
  have h1 := PySem.F.slot_object_eq
  have h2 := PySem.F.slot_int_eq_refl
  show wpAny _ A (richCompare .Eq _ _) Q E s
  rcases hi : cmpInfo CmpOp.Eq with ⟨sym, f, r⟩
  rw [hi] at h1 h2
  simp only [richCompare, hi, ha.oneThing_none]
  try with_reducible refine wpAny_holding ?_
  refine wpAny_bind (wpAny_cRoomFor_or (.inr hu) ?_)
  refine wpAny_bind (wpAny_typeOf ha (wpAny_bind (wpAny_typeOf (typeIs_int s b u) ?_)))
  rw [if_pos (by decide)]
  refine wpAny_bind (wpAny_of_eq PySem.F.sub_int_object ?_)
  simp only [if_true, Bool.not_true, Bool.false_eq_true, if_false]
  refine wpAny_bind (m := tryCompare _ _ _) (wpAny_tryCompare_declines (typeIs_int s b u) h2 (call_meets PySem.F.slot_int_eq_refl (typeIs_int s b u) PySem.F.entry_int_eq (PySem.F.args_int_eq_2 _ _) (int_eq_nul b u l) ⟨ho, rfl, ?_⟩))
  refine wpAny_bind (m := tryCompare _ _ _) (wpAny_tryCompare_declines ha h1 (call_meets PySem.F.slot_object_eq ha PySem.F.entry_object_eq (PySem.F.args_object_eq_2 _ _) (obj_eq_int b u l) ⟨ho, rfl, ?_⟩))
  exact wpAny_bind (wpAny_rule (wpAny_bind (wpAny_pure (wpAny_pure (q _ s.toks rfl)))))
end
end Mine
end

section
open PySem PySem.W PyProof.Rows
set_option autoImplicit false
set_option linter.unusedVariables false
set_option maxRecDepth 100000
namespace Mine

section
variable {g₀ g g' : Map} {h₀ h h' : Heap} {env : Env} {m cm : Str → Option Value} {W : List (Addr × Obj)}

theorem Fm.fresh (F : Fm g₀ h₀ env m cm W g h) {a : Addr} (hn : h.get? a = none) : g a = none ∧ a ≠ env.locals ∧ (∀ n c, env.cells.lookup n = some c → c ≠ a) ∧ (∀ p ∈ W, p.1 ≠ a) ∧ h₀.get? a = none := by
  refine ⟨g_new F.now hn, fun q => ?_, fun n c e q => ?_, fun p hp q => ?_, ?_⟩
  · obtain ⟨o, _, _, ho, _⟩ := F.ns
    rw [← q, hn] at ho; cases ho
  · obtain ⟨⟨o, ho, _⟩, _⟩ := F.cells n c e
    rw [q, hn] at ho; cases ho
  · have := (F.led p hp).1
    rw [q, hn] at this; cases this
  · cases q : h₀.get? a with
    | none => rfl
    | some o => have := F.gr.heap _ _ q; rw [hn] at this; cases this
/-- two new objects of its own -/
theorem Fm.add2 (F : Fm g₀ h₀ env m cm W g h) (hk : ∀ b o, h.get? b = some o → h'.get? b = some o) {a b : Addr} {oa ob : Obj} (ha : h.get? a = none) (hb : h.get? b = none) (hab : a ≠ b) (hoa : h'.get? a = some oa) (hob : h'.get? b = some ob) :
    Fm g₀ h₀ env m cm ((a, oa) :: (b, ob) :: W) g h' := by
  have f := F.fresh ha
  have F₁ := F.add (Gr.of_heap F.now hk) hb (F.fresh hb).1 hob
  exact F₁.addNow hoa f.1 f.2.1 f.2.2.1 (fun p hp => by
    rcases List.mem_cons.mp hp with rfl | hp
    · exact Ne.symm hab
    · exact f.2.2.2.1 p hp) f.2.2.2.2
/-- two of its own objects are changed -/
theorem Fm.change2 {a b : Addr} {oa ob oa' ob' : Obj} (F : Fm g₀ h₀ env m cm ((a, oa) :: (b, ob) :: W) g h) (hs : ∀ x o, x ≠ a → x ≠ b → h.get? x = some o → h'.get? x = some o) (hoa : h'.get? a = some oa') (hob : h'.get? b = some ob') :
    Fm g₀ h₀ env m cm ((a, oa') :: (b, ob') :: W) g h' := by
  obtain ⟨a1, a2, a3, a4, a5⟩ := F.led (a, oa) (.head _)
  obtain ⟨b1, b2, b3, b4, b5⟩ := F.led (b, ob) (.tail _ (.head _))
  have nd := List.pairwise_cons.mp F.nd
  have nd2 := List.pairwise_cons.mp nd.2
  exact {
    gr := ⟨fun x o e => hs x o (fun q => by rw [q, a5] at e; cases e) (fun q => by rw [q, b5] at e; cases e) (F.gr.heap x o e), F.gr.sub, F.gr.new, fun x o e => hs x o (fun q => by rw [q, a2] at e; cases e) (fun q => by rw [q, b2] at e; cases e) (F.gr.now x o e)⟩
    ns := F.ns.at' (fun o e => hs _ o (Ne.symm a3) (Ne.symm b3) e), nl := F.nl, gl := F.gl
    cells := fun n c e => by
      obtain ⟨⟨oc, hoc, hd⟩, c2, c3, c4⟩ := F.cells n c e
      exact ⟨⟨oc, hs _ _ (a4 n c e) (b4 n c e) hoc, hd⟩, c2, c3, c4⟩
    apart := F.apart
    led := fun p hp => by
      rcases List.mem_cons.mp hp with rfl | hp
      · exact ⟨hoa, a2, a3, a4, a5⟩
      rcases List.mem_cons.mp hp with rfl | hp
      · exact ⟨hob, b2, b3, b4, b5⟩
      · obtain ⟨l1, l2, l3, l4, l5⟩ := F.led p (.tail _ (.tail _ hp))
        exact ⟨hs _ _ (Ne.symm (nd.1 p (.tail _ hp))) (Ne.symm (nd2.1 p hp)) l1, l2, l3, l4, l5⟩
    nd := by
      refine List.pairwise_cons.mpr ⟨fun p hp => ?_, List.pairwise_cons.mpr ⟨fun p hp => nd2.1 p hp, nd2.2⟩⟩
      rcases List.mem_cons.mp hp with rfl | hp
      · exact nd.1 (b, ob) (.head _)
      · exact nd.1 p (.tail _ hp) }
end

section
variable {prog : Program} {w : World} {A : Around} {g₀ g : Map} {h₀ : Heap} {env : Env} {m cm : Str → Option Value} {W : List (Addr × Obj)} {s : Shared} {E : Value → Shared → Prop}

theorem asg_pairH {x y : Str} {px py tp : Pos} {kk : Nat} {t : Addr} {u v : Value} {Q : Unit → Shared → Prop} (F : Fm g₀ h₀ env m cm W g s.heap) (hh : A.handled = none) (ht : IsTup s.heap t #[u, v])
    (k : ∀ h' tk, Fm g₀ h₀ env (updS (updS m x u) y v) cm W g h' → Q () { s with heap := h', toks := tk })
    (hk : env.scope.kind = .function := by rfl) (hl : env.kindOf x = some .local := by rfl) (hl' : env.kindOf y = some .local := by rfl) :
    wpAny (model prog w) A (assign (.Tuple [.Name x px, .Name y py] kk tp) env (.ref t)) Q E s := by
  show wpAny _ A (do standAt tp; unpack (.ref t) (assignEach [.Name x px, .Name y py] env)) _ _ _
  refine wpAny_bind (wpAny_standAt ?_)
  show wpAny _ A (do let items ← holding [.ref t] (unpackItems (.ref t) 2 none); assignInOrder [assign (.Name x px) env, assign (.Name y py) env] items) _ _ _
  refine wpAny_bind (wpAny_holding (unpackItems_tuple (items := #[u, v]) hh ht fun h' he => ?_))
  have f := F.fresh (get_new s.heap)
  have F₁ : Fm g₀ h₀ env m cm W g h' := F.otherE (a := s.heap.objs.size) he f.1 f.2.1 f.2.2.1 f.2.2.2.1 f.2.2.2.2
  show wpAny _ A (do holding [v] (assign (.Name x px) env u); assignInOrder [assign (.Name y py) env] [v]) _ _ _
  refine wpAny_bind (wpAny_holding (wpAny_assign_Name (F₁.st (s := { s with heap := h' }) (fun h₂ tk₂ F₂ => ?_) hk hl)))
  show wpAny _ A (do holding [] (assign (.Name y py) env v); pure ()) _ _ _
  refine wpAny_bind (wpAny_holding (wpAny_assign_Name (F₂.st (s := { s with heap := h₂, toks := tk₂ }) (fun h₃ tk₃ F₃ => ?_) hk hl')))
  exact wpAny_pure (k _ _ F₃)

variable {Q : Flow → Shared → Prop} {rest : List Stmt} {hb : Heap} {mg mb : Str → Option Value}

/-- for x, y in enumerate(l), where l may change on the way but not in its length -/
theorem ex_forEnum {x y : Str} {px py tp np cp pos : Pos} {kk : Nat} {le : Expr} {body : List Stmt} {l : Addr} {n : Nat} (T : Tp hb mg mb) (hbase : ∀ b o, hb.get? b = some o → s.heap.get? b = some o) (hh : A.handled = none)
    (F : Fm g₀ h₀ env m cm W g s.heap) (hle : Ev prog w A g s.heap (eval le env) (isV (.ref l)))
    (J : Nat → (Str → Option Value) → List (Addr × Obj) → Map → Prop)
    (hJ : ∀ i m W g, J i m W g → ∃ vs nv, (l, seqObj "list" (vs : List Value).toArray nv) ∈ W ∧ vs.length = n)
    (j0 : ∀ g', (∀ b o, g b = some o → g' b = some o) → J 0 m W g')
    (turn : ∀ i t v vs nv m₁ W₁ g₁ h₁ tk e oe it oit E', i < n → (l, seqObj "list" (vs : List Value).toArray nv) ∈ W₁ → vs[i]? = some v → (∀ b o, g b = some o → g₁ b = some o) → J i m₁ W₁ g₁ → Fm g₀ h₀ env (updS (updS m₁ x (.int i t)) y v) cm ((e, oe) :: (it, oit) :: W₁) g₁ h₁ →
      wpAny (model prog w) A (execs body env) (fun f s₂ => match f with
        | .next | .cont => ∃ m₂ W₂ g₂ h₂ tk₂, s₂ = { s with heap := h₂, toks := tk₂ } ∧ (∀ b o, g₁ b = some o → g₂ b = some o) ∧ Fm g₀ h₀ env m₂ cm ((e, oe) :: (it, oit) :: W₂) g₂ h₂ ∧ J (i + 1) m₂ W₂ g₂
        | .brk => wpAny (model prog w) A (execs rest env) Q E s₂
        | .ret v => Q (.ret v) s₂) E' { s with heap := h₁, toks := tk })
    (done : ∀ m₁ W₁ g₁ h₁ tk, (∀ b o, g b = some o → g₁ b = some o) → J n m₁ W₁ g₁ → Fm g₀ h₀ env m₁ cm W₁ g₁ h₁ → wpAny (model prog w) A (execs rest env) Q E { s with heap := h₁, toks := tk })
    (hk : env.scope.kind = .function := by rfl) (hl : env.kindOf "enumerate" = some .globalImplicit := by rfl) (eg : env.globals = mainGlobals := by rfl) (eb : env.builtins = builtinsNs := by rfl)
    (hx : env.kindOf x = some .local := by rfl) (hy : env.kindOf y = some .local := by rfl)
    (hs : starEach [le] env = [(false, eval le env)] := by rfl) (hfs : ∀ x, foldedSetIterable (.Call (.Name "enumerate" np) [le] [] cp) env x = pure x := by intro _; rfl) :
    wpAny (model prog w) A (execs (.For (.Tuple [.Name x px, .Name y py] kk tp) (.Call (.Name "enumerate" np) [le] [] cp) body [] pos :: rest) env) Q E s := by
  refine wpAny_execs_cons (wpAny_For ?_ hfs)
  refine Call_ ((nm_b T hbase T.enum hk hl eg eb) s g _ _ (Gr.refl F.now) fun f g₂ h₂ tk₂ G₂ p => ?_)
  cases p
  refine callWith_type1 (spliced_more (hle _ g₂ _ _ G₂ fun v g₃ h₃ tk₃ G₃ p₁ => spliced_none ?_) hs) hs rfl
  cases p₁
  have F₃ := F.grow (G₂.trans G₃)
  have hJ0 := j0 g₃ (G₂.trans G₃).sub
  obtain ⟨vs₀, nv₀, hm₀, hn₀⟩ := hJ _ _ _ _ hJ0
  refine call_enumerate_list (s := { s with heap := h₃, toks := tk₃ }) (items := vs₀.toArray) ⟨_, F₃.at_ hm₀, rfl, nv₀, rfl⟩ fun h₄ he₄ hit₄ hsz₄ hk₄ => ?_
  dsimp only at he₄ hit₄ hsz₄ hk₄ ⊢
  obtain ⟨oit, hoit, hci, hdi⟩ := id hit₄
  have hei : h₃.objs.size + 1 ≠ h₃.objs.size := Nat.succ_ne_self _
  have F₄ := F₃.add2 hk₄ (get_new1 h₃) (get_new h₃) hei he₄ hoit
  refine wpAny_pyIter_enum he₄ ?_
  generalize h₃.objs.size + 1 = e at he₄ F₄ hei ⊢
  generalize h₃.objs.size = it at he₄ hit₄ hoit F₄ hei ⊢
  refine codeAny_forLoop_any (fun j s' => ∃ i m' W' g' h' tk' oe oit old, s' = { s with heap := h', toks := tk' } ∧ j = n + 1 - i ∧ i ≤ n ∧ IsEnum h' e it i old ∧ h'.IsListIter it l i ∧ (∀ b o, g₃ b = some o → g' b = some o) ∧ Fm g₀ h₀ env m' cm ((e, oe) :: (it, oit) :: W') g' h' ∧ J i m' W' g') ?_ (n + 1)
    ⟨0, m, W, g₃, h₄, tk₃, _, oit, _, rfl, rfl, Nat.zero_le _, he₄, hit₄, fun _ _ e => e, F₄, hJ0⟩
  rintro j s' ⟨i, m', W', g', h', tk', oe, oit', old, rfl, rfl, hi, he', hit', hsub, F', hJ'⟩
  obtain ⟨vs, nv, hm, hn⟩ := hJ _ _ _ _ hJ'
  have hlist : h'.IsList l vs.toArray := ⟨_, F'.at_ (.tail _ (.tail _ hm)), rfl, nv, rfl⟩
  by_cases hlt : i < n
  · obtain ⟨v, hv⟩ : ∃ v, vs[i]? = some v := ⟨_, List.getElem?_eq_getElem (by omega)⟩
    refine wpAny_pyNext_enum_item (s := { s with heap := h', toks := tk' }) he' hit' hlist (by simpa using hv) hei fun h₅ heo hit₅ htup hsz₅ hk₅ => ?_
    dsimp only at heo hit₅ htup hsz₅ hk₅ ⊢
    obtain ⟨oit₅, hoit₅, hci₅, hdi₅⟩ := id hit₅
    have F₅ := F'.change2 hk₅ heo hoit₅
    have hTe : h'.objs.size ≠ e := Nat.ne_of_gt (Heap.lt_size he')
    refine wpAny_letOwnedTupleGo_enum (s := { s with heap := h₅, toks := tk' + 1 }) heo fun h₆ he₆ hs₆ => ?_
    dsimp only at hs₆ ⊢
    have F₆ := Fm.change (W₁ := []) F₅ hs₆ he₆
    have hit₆ : h₆.get? it = some oit₅ := (hs₆.2 it (Ne.symm hei)).trans hoit₅
    have htup₆ : IsTup h₆ h'.objs.size #[.int i tk', v] := ⟨_, (hs₆.2 _ hTe).trans htup, rfl, 0, rfl⟩
    refine asg_pairH (s := { s with heap := h₆, toks := tk' + 1 }) F₆ hh htup₆ (fun h₇ tk₇ F₇ => ?_) hk hx hy
    refine wpAny_mono (turn i tk' v vs nv m' W' g' h₇ tk₇ e _ it oit₅ _ hlt hm hv (fun b o e => hsub _ _ ((G₂.trans G₃).sub _ _ e)) hJ' F₇) (fun f s₂ hf => ?_) fun _ _ x => x
    have fin : ∀ oe₆, h₆.get? e = some oe₆ → (∃ m₂ W₂ g₂ h₂ tk₂, s₂ = { s with heap := h₂, toks := tk₂ } ∧ (∀ b o, g' b = some o → g₂ b = some o) ∧ Fm g₀ h₀ env m₂ cm ((e, oe₆) :: (it, oit₅) :: W₂) g₂ h₂ ∧ J (i + 1) m₂ W₂ g₂) →
        ∃ j, j < n + 1 - i ∧ ∃ i m' W' g' h' tk' oe oit old, s₂ = { s with heap := h', toks := tk' } ∧ j = n + 1 - i ∧ i ≤ n ∧ IsEnum h' e it i old ∧ h'.IsListIter it l i ∧ (∀ b o, g₃ b = some o → g' b = some o) ∧ Fm g₀ h₀ env m' cm ((e, oe) :: (it, oit) :: W') g' h' ∧ J i m' W' g' := by
      rintro oe₆ hoe₆ ⟨m₂, W₂, g₂, h₈, tk₂, rfl, hsub₂, F₈, hJ₂⟩
      cases Option.some.inj (he₆.symm.trans hoe₆)
      exact ⟨n + 1 - (i + 1), by omega, i + 1, m₂, W₂, g₂, h₈, tk₂, _, oit₅, v, rfl, rfl, hlt, F₈.at_ (.head _), ⟨oit₅, F₈.at_ (.tail _ (.head _)), hci₅, hdi₅⟩, fun b o e => hsub₂ _ _ (hsub _ _ e), F₈, hJ₂⟩
    cases f with
    | next => exact fin _ he₆ hf
    | cont => exact fin _ he₆ hf
    | brk => exact hf
    | ret v => exact hf
  · have hin : i = n := by omega
    subst hin
    refine wpAny_pyNext_enum_end (s := { s with heap := h', toks := tk' }) hh he' hit' hlist (by simp; omega) fun h₅ hk₅ => ?_
    dsimp only at hk₅ ⊢
    refine wpAny_execs_nil ?_
    have led := F'.led _ (.tail _ (.head _))
    have F₅ : Fm g₀ h₀ env m' cm W' g' h₅ := F'.drop.drop.otherE hk₅ led.2.1 led.2.2.1 led.2.2.2.1 (fun p hp => Ne.symm ((List.pairwise_cons.mp (List.pairwise_cons.mp F'.nd).2).1 p hp)) led.2.2.2.2
    exact done m' W' g' h₅ tk' (fun b o e => hsub _ _ ((G₂.trans G₃).sub _ _ e)) hJ' F₅
end
end Mine
end

section
open PySem PySem.W PyProof.Rows
set_option autoImplicit false
set_option linter.unusedVariables false
set_option maxRecDepth 100000
namespace Mine
open PySem.SeqAt

section
variable {prog : Program} {w : World} {A : Around} {s : Shared} {E : Value → Shared → Prop}

theorem cl_setItem {l : Addr} {vs : List Value} {n : Nat} {k : Int} {t : Tok} {v : Value} {Q : Unit → Shared → Prop} (ho : s.heap.get? l = some (seqObj "list" vs.toArray n)) (h0 : 0 ≤ k) (hn : k < vs.length) (hz : vs.length ≤ 1000)
    (hQ : ∀ h' n', h'.get? l = some (seqObj "list" (vs.set k.toNat v).toArray n') → Heap.SameBut l s.heap h' → Q () { s with heap := h' }) :
    wpAny (model prog w) A (setItem (.ref l) (.int k t) v) Q E s := by
  have hl : s.heap.IsList l vs.toArray := ⟨_, ho, rfl, n, rfl⟩
  unfold setItem
  try with_reducible refine wpAny_holding ?_
  first | refine wpAny_bind (wpAny_pure ?_) | skip
  refine wpAny_bind (wpAny_sequenceKey hl.typeIs (by decide) ?_)
  refine wpAny_bind (wpAny_callSpecial?_slot (name := Str.ofString "__setitem__") hl.typeIs slot_list_setitem
    (wpAny_call_entry slot_list_setitem hl.typeIs entry_list_setitem ?_ (args_list_setitem _ _ _)))
  show wpAny _ _ (Builtin.List.listSubscript? (.int k t) >>= _) _ _ s
  refine wpAny_bind (wpAny_listSubscript_int (fitsIndex_of h0 (by omega)) ?_)
  obtain ⟨j, rfl⟩ := Int.eq_ofNat_of_zero_le h0
  have hj : j < vs.toArray.size := by simp; omega
  have hx' : vs.toArray[j]? = some vs.toArray[j] := Array.getElem?_eq_getElem hj
  show wpAny _ _ ((seqItemAt l j >>= fun r => pure (r.map (j, ·))) >>= _) _ _ s
  refine wpAny_bind (wpAny_bind (wpAny_seqItemAt ho rfl (wpAny_pure ?_)))
  rw [hx']
  show wpAny _ _ (setSeqItemAt l j v >>= _) _ _ s
  have hfin := get?_update_seq ho (·.setIfInBounds j v)
  have e : vs.toArray.setIfInBounds j v = (vs.set j v).toArray := by simp
  rw [e] at hfin
  refine wpAny_bind (wpAny_setSeqItemAt ho rfl ?_)
  first
    | exact wpAny_bind (wpAny_pure (wpAny_pure ⟨.none, rfl, wpAny_pure (hQ _ _ hfin (Heap.SameBut.update ..))⟩))
    | exact wpAny_pure ⟨.none, rfl, wpAny_pure (hQ _ _ hfin (Heap.SameBut.update ..))⟩

variable {g₀ g : Map} {h₀ : Heap} {env : Env} {m cm : Str → Option Value} {W : List (Addr × Obj)} {Q : Flow → Shared → Prop} {rest : List Stmt}

/-- l[i] = e -/
theorem ex_setItem {o i e : Expr} {p pos : Pos} {l : Addr} {vs : List Value} {n : Nat} {k : Int} {v : Value} {W₁ W₂ : List (Addr × Obj)} (F : Fm g₀ h₀ env m cm (W₁ ++ (l, seqObj "list" vs.toArray n) :: W₂) g s.heap)
    (he : Ev prog w A g s.heap (eval e env) (isV v)) (ho : Ev prog w A g s.heap (eval o env) (isV (.ref l))) (hi : Ev prog w A g s.heap (eval i env) (isI k)) (h0 : 0 ≤ k) (hn : k < vs.length) (hz : vs.length ≤ 1000)
    (kk : ∀ g' h' tk n', (∀ b o, g b = some o → g' b = some o) → Fm g₀ h₀ env m cm (W₁ ++ (l, seqObj "list" (vs.set k.toNat v).toArray n') :: W₂) g' h' → wpAny (model prog w) A (execs rest env) Q E { s with heap := h', toks := tk })
    (hs : swapsWith e (some (.Subscript o i p)) pos.line env = pure false := by rfl) :
    wpAny (model prog w) A (execs (.Assign [.Subscript o i p] e pos :: rest) env) Q E s :=
  wpAny_execs_cons (wpAny_Assign_Subscript (he s g _ _ (Gr.refl F.now) fun v' g₂ h₂ tk₂ G₂ p₂ => ho _ g₂ _ _ G₂ fun o' g₃ h₃ tk₃ G₃ p₃ => hi _ g₃ _ _ (G₂.trans G₃) fun i' g₄ h₄ tk₄ G₄ p₄ => by
    cases p₂; cases p₃
    obtain ⟨t, rfl⟩ := p₄
    have F₄ := F.grow ((G₂.trans G₃).trans G₄)
    refine cl_setItem (s := { s with heap := h₄, toks := tk₄ }) (F₄.at_ (List.mem_append_right _ (.head _))) h0 hn hz fun h' n' hl' hs' => ?_
    exact kk g₄ h' tk₄ n' ((G₂.trans G₃).trans G₄).sub (F₄.change hs' hl')) hs)

/-- x += e, of ints -/
theorem ex_aug {x : Str} {px pos : Pos} {e : Expr} {i j : Int} {v : Value} (F : Fm g₀ h₀ env m cm W g s.heap) (hm : m x = some v) (hv : isI i g s.heap v) (he : Ev prog w A g s.heap (eval e env) (isI j))
    (k : ∀ v' g' h' tk, (∀ b o, g b = some o → g' b = some o) → (∃ t, v' = .int (i + j) t) → Fm g₀ h₀ env (updS m x v') cm W g' h' → wpAny (model prog w) A (execs rest env) Q E { s with heap := h', toks := tk })
    (hk : env.scope.kind = .function := by rfl) (hl : env.kindOf x = some .local := by rfl) :
    wpAny (model prog w) A (execs (.AugAssign (.Name x px) .Add e pos :: rest) env) Q E s := by
  obtain ⟨t, rfl⟩ := hv
  refine wpAny_execs_cons (wpAny_AugAssign_Name (wpAny_loadName_local hk hl F.ns hm (he s g _ _ (Gr.refl F.now) fun v g₂ h₂ tk₂ G₂ p₂ => ?_)))
  obtain ⟨u, rfl⟩ := p₂
  refine AutoIntOps.iadd_0 ?_
  exact (F.grow G₂).st (s := { s with heap := h₂, toks := tk₂ + 1 }) (fun h' tk' F' => k _ g₂ h' tk' G₂.sub ⟨_, rfl⟩ F') hk hl

/-- x = y = e -/
theorem ex_two {x y : Str} {px py pos : Pos} {e : Expr} {P : Map → Heap → Value → Prop} (F : Fm g₀ h₀ env m cm W g s.heap) (he : Ev prog w A g s.heap (eval e env) P)
    (k : ∀ v g' h' h'' tk, (∀ b o, g b = some o → g' b = some o) → P g' h' v → Fm g₀ h₀ env (updS (updS m x v) y v) cm W g' h'' → wpAny (model prog w) A (execs rest env) Q E { s with heap := h'', toks := tk })
    (hk : env.scope.kind = .function := by rfl) (hl : env.kindOf x = some .local := by rfl) (hl' : env.kindOf y = some .local := by rfl) :
    wpAny (model prog w) A (execs (.Assign [.Name x px, .Name y py] e pos :: rest) env) Q E s :=
  wpAny_execs_cons (wpAny_Assign_two (he s g _ _ (Gr.refl F.now) fun v g' h' tk G p => wpAny_assign_Name ((F.grow G).st (s := { s with heap := h', toks := tk }) (fun h₂ tk₂ F₂ => wpAny_assign_Name (F₂.st (s := { s with heap := h₂, toks := tk₂ }) (fun h₃ tk₃ F₃ => k v g' h' h₃ tk₃ G.sub p F₃) hk hl')) hk hl)))
end
end Mine
end

section
open PySem PySem.W PyProof.Rows
set_option autoImplicit false
set_option linter.unusedVariables false
set_option maxRecDepth 100000
namespace Mine
open PySem.SeqAt

section
variable {prog : Program} {w : World} {A : Around} {s : Shared} {E : Value → Shared → Prop}
variable {g₀ g : Map} {h₀ : Heap} {env : Env} {m cm : Str → Option Value} {W : List (Addr × Obj)} {Q : Flow → Shared → Prop} {rest : List Stmt}

theorem asg_rev {x y : Str} {t : Addr} {u v : Value} {Q : Unit → Shared → Prop} (F : Fm g₀ h₀ env m cm W g s.heap) (hh : A.handled = none) (ht : IsTup s.heap t #[u, v])
    (k : ∀ h' tk, Fm g₀ h₀ env (updS (updS m y v) x u) cm W g h' → Q () { s with heap := h', toks := tk })
    (hk : env.scope.kind = .function := by rfl) (hl : env.kindOf x = some .local := by rfl) (hl' : env.kindOf y = some .local := by rfl) :
    wpAny (model prog w) A (unpackItems (.ref t) [x, y].length none) (fun items s₂ => wpAny (model prog w) A (assignInOrder ([x, y].reverse.map fun n => bindName env n) items.reverse) Q E s₂) E s := by
  refine unpackItems_tuple (items := #[u, v]) hh ht fun h' he => ?_
  have f := F.fresh (get_new s.heap)
  have F₁ : Fm g₀ h₀ env m cm W g h' := F.otherE (a := s.heap.objs.size) he f.1 f.2.1 f.2.2.1 f.2.2.2.1 f.2.2.2.2
  show wpAny _ A (do holding [u] (bindName env y v); assignInOrder [bindName env x] [u]) _ _ _
  refine wpAny_bind (wpAny_holding (bindName_ (F₁.st (s := { s with heap := h' }) (fun h₂ tk₂ F₂ => ?_) hk hl')))
  show wpAny _ A (do holding [] (bindName env x u); pure ()) _ _ _
  refine wpAny_bind (wpAny_holding (bindName_ (F₂.st (s := { s with heap := h₂, toks := tk₂ }) (fun h₃ tk₃ F₃ => ?_) hk hl)))
  exact wpAny_pure (k _ _ F₃)

/-- x, y = e₁, e₂ -/
theorem ex_swap {x y : Str} {px py tp vp pos : Pos} {k1 k2 : Nat} {e₁ e₂ : Expr} {P₁ P₂ : Map → Heap → Value → Prop} (m₁ : Mono P₁) (F : Fm g₀ h₀ env m cm W g s.heap) (hh : A.handled = none) (h1 : Ev prog w A g s.heap (eval e₁ env) P₁) (h2 : Ev prog w A g s.heap (eval e₂ env) P₂)
    (k : ∀ u v g' h' h'' tk, (∀ b o, g b = some o → g' b = some o) → P₁ g' h' u → P₂ g' h' v → Fm g₀ h₀ env (updS (updS m y v) x u) cm W g' h'' → wpAny (model prog w) A (execs rest env) Q E { s with heap := h'', toks := tk })
    (hk : env.scope.kind = .function := by rfl) (hl : env.kindOf x = some .local := by rfl) (hl' : env.kindOf y = some .local := by rfl)
    (hs : swapsWithSole [.Tuple [.Name x px, .Name y py] k1 tp] (.Tuple [e₁, e₂] k2 vp) pos.line env = pure false := by rfl)
    (hw : swappedStores [.Tuple [.Name x px, .Name y py] k1 tp] (.Tuple [e₁, e₂] k2 vp) env = pure (some [x, y]) := by rfl)
    (hst : starEach [e₁, e₂] env = (false, eval e₁ env) :: starEach [e₂] env := by rfl) (hst' : starEach [e₂] env = [(false, eval e₂ env)] := by rfl) :
    wpAny (model prog w) A (execs (.Assign [.Tuple [.Name x px, .Name y py] k1 tp] (.Tuple [e₁, e₂] k2 vp) pos :: rest) env) Q E s := by
  refine wpAny_execs_cons (Assign_Tuple_swapped (names := [x, y]) (wpAny_Tuple ?_) hs hw)
  refine spliced_more (h1 s g _ _ (Gr.refl F.now) fun u g₂ h₂ tk₂ G₂ p₂ => spliced_more (h2 _ g₂ _ _ G₂ fun v g₃ h₃ tk₃ G₃ p₃ => spliced_none ?_) hst') hst
  refine ⟨by simp [sizeLine_eq], ?_⟩
  have F₃ := F.grow (G₂.trans G₃)
  have F₄ := F₃.grow (Gr.of_heap F₃.now fun b o e => Heap.get?_push_of_some { cls := .type "tuple", data := .seq [u, v].toArray } e)
  refine asg_rev (s := { s with heap := _, toks := tk₃ }) F₄ hh ⟨_, Heap.get?_push_size _ rfl, rfl, 0, rfl⟩ (fun h₅ tk₅ F₅ => ?_) hk hl hl'
  exact k u v g₃ h₃ h₅ tk₅ (G₂.trans G₃).sub (m₁ _ _ _ _ _ G₃ p₂) p₃ F₅
/-- the same, of two new lists -/
theorem ex_swapN {x y : Str} {px py tp vp pos : Pos} {k1 k2 : Nat} {e₁ e₂ : Expr} {vs₁ vs₂ : List Value} (F : Fm g₀ h₀ env m cm W g s.heap) (hh : A.handled = none) (h1 : EvN prog w A g s.heap (eval e₁ env) (fun _ _ us => us = vs₁)) (h2 : EvN prog w A g s.heap (eval e₂ env) (fun _ _ us => us = vs₂))
    (k : ∀ a₁ n₁ a₂ n₂ g' h' tk, (∀ b o, g b = some o → g' b = some o) → Fm g₀ h₀ env (updS (updS m y (.ref a₂)) x (.ref a₁)) cm ((a₂, seqObj "list" vs₂.toArray n₂) :: (a₁, seqObj "list" vs₁.toArray n₁) :: W) g' h' → wpAny (model prog w) A (execs rest env) Q E { s with heap := h', toks := tk })
    (hk : env.scope.kind = .function := by rfl) (hl : env.kindOf x = some .local := by rfl) (hl' : env.kindOf y = some .local := by rfl)
    (hs : swapsWithSole [.Tuple [.Name x px, .Name y py] k1 tp] (.Tuple [e₁, e₂] k2 vp) pos.line env = pure false := by rfl)
    (hw : swappedStores [.Tuple [.Name x px, .Name y py] k1 tp] (.Tuple [e₁, e₂] k2 vp) env = pure (some [x, y]) := by rfl)
    (hst : starEach [e₁, e₂] env = (false, eval e₁ env) :: starEach [e₂] env := by rfl) (hst' : starEach [e₂] env = [(false, eval e₂ env)] := by rfl) :
    wpAny (model prog w) A (execs (.Assign [.Tuple [.Name x px, .Name y py] k1 tp] (.Tuple [e₁, e₂] k2 vp) pos :: rest) env) Q E s := by
  refine wpAny_execs_cons (Assign_Tuple_swapped (names := [x, y]) (wpAny_Tuple ?_) hs hw)
  refine spliced_more (h1 s g _ _ (Gr.refl F.now) fun a₁ us₁ n₁ g₂ h₂ tk₂ G₂ hn₂ hg₂ ha₂ p₂ => ?_) hst
  cases p₂
  have F₂ := F.add G₂ hn₂ hg₂ ha₂
  refine spliced_more (h2 { s with heap := h₂, toks := tk₂ } g₂ _ _ G₂ fun a₂ us₂ n₂ g₃ h₃ tk₃ G₃ hn₃ hg₃ ha₃ p₃ => spliced_none ?_) hst'
  cases p₃
  refine ⟨by simp [sizeLine_eq], ?_⟩
  have F₃ := F₂.add G₃ hn₃ hg₃ ha₃
  have F₄ := F₃.grow (Gr.of_heap F₃.now fun b o e => Heap.get?_push_of_some { cls := .type "tuple", data := .seq [Value.ref a₁, Value.ref a₂].toArray } e)
  refine asg_rev (s := { s with heap := _, toks := tk₃ }) F₄ hh ⟨_, Heap.get?_push_size _ rfl, rfl, 0, rfl⟩ (fun h₅ tk₅ F₅ => ?_) hk hl hl'
  exact k a₁ n₁ a₂ n₂ g₃ h₅ tk₅ (G₂.trans G₃).sub F₅
end

section
variable {prog : Program} {w : World} {A : Around} {g : Map} {h hb : Heap} {env : Env} {mg mb : Str → Option Value}
theorem cl_list {a : Addr} {vs : List Value} {n : Nat} (ha : h.get? a = some (seqObj "list" vs.toArray n)) (hz : vs.length ≤ 1000) : EvN prog w A g h (call (.type "list") [.ref a]) (fun _ _ us => us = vs) :=
  fun s g₁ Q E G k => call_list_seq a (T := "list") (items := vs.toArray) (n := n) (.inl rfl) (G.heap _ _ ha) rfl rfl (fun h' c' hk hg =>
    k s.heap.objs.size vs c' g₁ h' s.toks (Gr.of_heap G.now hk) (get_new _) (g_new G.now (get_new _)) hg rfl) (by rw [List.size_toArray, sizeLine_eq]; omega)
theorem ev_callTN {x : Str} {np pos : Pos} {e : Expr} {rest : List Expr} {T : String} {P₁ : Map → Heap → List Value → Prop} {R : Map → Heap → List Value → Prop} (hn : Ev prog w A g h (eval (.Name x np) env) (isV (.type T)))
    (he : Ev prog w A g h (spliced (backTo pos (starEach (e :: rest) env))) P₁) (hc : ∀ vs g' h', Gr g h g' h' → P₁ g' h' vs → EvN prog w A g' h' (call (.type T) vs) R)
    (hs : starEach (e :: rest) env = (false, eval e env) :: starEach rest env := by rfl) (hp : (backTo pos (starEach rest env)).any (·.1) = false := by rfl) :
    EvN prog w A g h (eval (.Call (.Name x np) (e :: rest) [] pos) env) R :=
  fun s g₁ Q E G q => Call_ (hn s g₁ _ _ G fun f g₂ h₂ tk₂ G₂ p => by
    cases p
    exact callWith_type1 (he _ g₂ _ _ (G.trans G₂) fun vs g₃ h₃ tk₃ G₃ p₁ => EvN.of_new (h₀ := s.heap) (s := { s with heap := h₃, toks := tk₃ }) (hc vs g₃ h₃ ((G.trans G₂).trans G₃) p₁) (G₂.trans G₃).heap G₃.now
      fun a us n g₄ h₄ tk₄ G₄ h1 h2 h3 p => q a us n g₄ h₄ tk₄ ((G₂.trans G₃).trans G₄) h1 h2 h3 p) hs hp)
theorem ev_callT0 {x : Str} {np pos : Pos} {T : String} {P : Map → Heap → Value → Prop} (hn : Ev prog w A g h (eval (.Name x np) env) (isV (.type T)))
    (hc : ∀ g' h', Gr g h g' h' → Ev prog w A g' h' (call (.type T) []) P) : Ev prog w A g h (eval (.Call (.Name x np) [] [] pos) env) P :=
  fun s g₁ Q E G q => Call_ (hn s g₁ _ _ G fun f g₂ h₂ tk₂ G₂ p => by
    cases p
    exact PySem.callWith_type rfl (evalArgs_nil3 (hc g₂ h₂ (G.trans G₂) _ g₂ _ _ (Gr.refl G₂.now) fun v g₄ h₄ tk₄ G₄ p => q v g₄ h₄ tk₄ (G₂.trans G₄) p)))
/-- a class of the text is called -/
theorem ev_callC {K : Frag} {x : Str} {np pos : Pos} {e : Expr} {rest : List Expr} {f : Addr} {P₁ : Map → Heap → List Value → Prop} {P : Map → Heap → Value → Prop} (X : K.In h) (hkp : keepIn K (.ref f) = true) (hn : Ev prog w A g h (eval (.Name x np) env) (isV (.ref f)))
    (he : Ev prog w A g h (spliced (backTo pos (starEach (e :: rest) env))) P₁) (hc : ∀ vs g' h', Gr g h g' h' → P₁ g' h' vs → Ev prog w A g' h' (call (.ref f) vs) P)
    (hs : starEach (e :: rest) env = (false, eval e env) :: starEach rest env := by rfl) (hp : (backTo pos (starEach rest env)).any (·.1) = false := by rfl) :
    Ev prog w A g h (eval (.Call (.Name x np) (e :: rest) [] pos) env) P :=
  fun s g₁ Q E G q => Call_ (hn s g₁ _ _ G fun f g₂ h₂ tk₂ G₂ p => by
    cases p
    exact callWith_K X hkp (he _ g₂ _ _ (G.trans G₂) fun vs g₃ h₃ tk₃ G₃ p₁ => ⟨X.keeps ((G.trans G₂).trans G₃).heap, hc vs g₃ h₃ ((G.trans G₂).trans G₃) p₁ _ g₃ _ _ (Gr.refl G₃.now) fun v g₄ h₄ tk₄ G₄ p => q v g₄ h₄ tk₄ ((G₂.trans G₃).trans G₄) p⟩) hs hp)
/-- is -/
theorem op_isRef {a b : Addr} {o : Obj} (ha : g a = some o) (hb' : g b = some o) (hnt : o.cls ≠ .type "tuple") : Ev prog w A g h (compareOp .Is (.ref a) (.ref b)) (isV (.bool (a == b))) := by
  refine Ev.of fun s g₁ Q E G q => ?_
  show wpAny _ A (isSame (.ref a) (.ref b) >>= fun x => pure (Value.bool x)) _ _ _
  by_cases hab : a = b
  · subst hab
    exact wpAny_bind (wpAny_isSame_ref_self (wpAny_pure (q _ s.toks (by simp [isV]))))
  · refine wpAny_bind (wpAny_isSame_ref_other hab (G.now _ _ (G.sub _ _ ha)) (G.now _ _ (G.sub _ _ hb')) hnt (wpAny_pure (q _ s.toks ?_)))
    have : (a == b) = false := by simpa using hab
    rw [this]; rfl
theorem op_isInt {b : Addr} {v : Value} {i : Int} (hv : isI i g h v) : Ev prog w A g h (compareOp .Is v (.ref b)) (isV (.bool false)) := by
  obtain ⟨t, rfl⟩ := hv
  refine Ev.of fun s g₁ Q E G q => ?_
  exact wpAny_bind (m := isSame (.int i t) (.ref b)) (wpAny_of_eq (a := false) rfl (wpAny_pure (q _ s.toks rfl)))
end
end Mine
end

section
open PySem PySem.W PyProof.Rows
set_option autoImplicit false
set_option linter.unusedVariables false
namespace Mine

/-- the items that were not yet seen -/
def maskF (es seen : List Int) : List (Option Int) := es.map fun e => if e ∈ seen then none else some e
def wipe1 (e : Int) (o : Option Int) : Option Int := if o = some e then none else o
/-- the first k of them looked at, each e wiped out -/
def wipeF (e : Int) (l : List (Option Int)) (k : Nat) : List (Option Int) := (l.take k).map (wipe1 e) ++ l.drop k
def tell1 (as bs : List Int) : Nat → List (Int × Int × Int)
  | 0 => []
  | i + 1 => tell1 as bs i ++ (match as[i]? with
    | some e => if e ∈ as.take i then [] else if (as.count e : Int) ≠ (bs.count e : Int) then [((as.count e : Int), (bs.count e : Int), e)] else []
    | none => [])
def tell2 (as bs : List Int) : Nat → List (Int × Int × Int)
  | 0 => []
  | i + 1 => tell2 as bs i ++ (match bs[i]? with
    | some e => if e ∈ as ++ bs.take i then [] else [(0, (bs.count e : Int), e)]
    | none => [])
def toldF (as bs : List Int) : List (Int × Int × Int) := tell1 as bs as.length ++ tell2 as bs bs.length

theorem maskF_length (es seen : List Int) : (maskF es seen).length = es.length := List.length_map _
theorem maskF_get (es seen : List Int) (i : Nat) (e : Int) (h : es[i]? = some e) : (maskF es seen)[i]? = some (if e ∈ seen then none else some e) := by
  unfold maskF; rw [List.getElem?_map, h]; rfl
theorem maskF_congr {es s₁ s₂ : List Int} (h : ∀ x, x ∈ s₁ ↔ x ∈ s₂) : maskF es s₁ = maskF es s₂ := by
  unfold maskF
  refine List.map_congr_left fun e _ => ?_
  by_cases q : e ∈ s₁
  · rw [if_pos q, if_pos ((h e).mp q)]
  · rw [if_neg q, if_neg fun r => q ((h e).mpr r)]
theorem wipeF_length (e : Int) (l : List (Option Int)) (k : Nat) : (wipeF e l k).length = l.length := by
  unfold wipeF
  rw [List.length_append, List.length_map, ← List.length_append, List.take_append_drop]
theorem wipeF_zero (e : Int) (l : List (Option Int)) : wipeF e l 0 = l := rfl
theorem wipeF_at (e : Int) (l : List (Option Int)) (k : Nat) : (wipeF e l k)[k]? = l[k]? := by
  unfold wipeF
  by_cases hk : k < l.length
  · rw [List.getElem?_append_right (by rw [List.length_map, List.length_take]; omega), List.length_map, List.length_take, List.getElem?_drop]
    congr 1; omega
  · rw [List.getElem?_eq_none (by rw [List.length_append, List.length_map, List.length_take, List.length_drop]; omega), List.getElem?_eq_none (by omega)]
theorem wipeF_miss {e : Int} {l : List (Option Int)} {k : Nat} {o : Option Int} (h : l[k]? = some o) (hne : o ≠ some e) : wipeF e l (k + 1) = wipeF e l k := by
  have hk : k < l.length := (List.getElem?_eq_some_iff.mp h).1
  have e1 : l.take (k + 1) = l.take k ++ [o] := by rw [List.take_add_one, h]; rfl
  have e2 : l.drop k = o :: l.drop (k + 1) := by
    rw [List.drop_eq_getElem_cons hk]
    congr 1
    exact Option.some.inj (by rw [← List.getElem?_eq_getElem hk]; exact h)
  unfold wipeF
  rw [e1, e2, List.map_append, List.append_assoc]
  congr 1
  show [wipe1 e o] ++ _ = _
  unfold wipe1
  rw [if_neg hne]; rfl
theorem wipeF_hit {e : Int} {l : List (Option Int)} {k : Nat} (h : l[k]? = some (some e)) : wipeF e l (k + 1) = (wipeF e l k).set k none := by
  have hk : k < l.length := (List.getElem?_eq_some_iff.mp h).1
  have e1 : l.take (k + 1) = l.take k ++ [some e] := by rw [List.take_add_one, h]; rfl
  have e2 : l.drop k = some e :: l.drop (k + 1) := by
    rw [List.drop_eq_getElem_cons hk]
    congr 1
    exact Option.some.inj (by rw [← List.getElem?_eq_getElem hk]; exact h)
  unfold wipeF
  rw [e1, e2, List.map_append, List.append_assoc, List.set_append_right _ _ (by rw [List.length_map, List.length_take]; omega)]
  congr 1
  have : k - ((l.take k).map (wipe1 e)).length = 0 := by rw [List.length_map, List.length_take]; omega
  rw [this]
  show [wipe1 e (some e)] ++ _ = _
  unfold wipe1
  rw [if_pos rfl]; rfl
/-- nothing to wipe in the first i -/
theorem wipeF_skip {e : Int} {l : List (Option Int)} : ∀ {i : Nat}, (∀ j o, j < i → l[j]? = some o → o ≠ some e) → i ≤ l.length → wipeF e l i = l
  | 0, _, _ => rfl
  | i + 1, h, hi => by
    have hl : l[i]? = some l[i] := List.getElem?_eq_getElem (by omega)
    rw [wipeF_miss hl (h i _ (Nat.lt_succ_self _) hl)]
    exact wipeF_skip (fun j o hj => h j o (by omega)) (by omega)
theorem count_skip {e : Int} {l : List (Option Int)} : ∀ {i : Nat}, (∀ j o, j < i → l[j]? = some o → o ≠ some e) → i ≤ l.length → (l.take i).count (some e) = 0
  | 0, _, _ => by simp
  | i + 1, h, hi => by
    have hl : l[i]? = some l[i] := List.getElem?_eq_getElem (by omega)
    have e1 : l.take (i + 1) = l.take i ++ [l[i]] := by rw [List.take_add_one, hl]; rfl
    rw [e1, List.count_append, count_skip (fun j o hj => h j o (by omega)) (by omega)]
    have := h i _ (Nat.lt_succ_self _) hl
    simp [this]
theorem count_step {l : List (Option Int)} {k : Nat} {o x : Option Int} (h : l[k]? = some o) : (l.take (k + 1)).count x = (l.take k).count x + (if o = x then 1 else 0) := by
  have e1 : l.take (k + 1) = l.take k ++ [o] := by rw [List.take_add_one, h]; rfl
  rw [e1, List.count_append]
  by_cases q : o = x
  · subst q; simp
  · simp [q]
theorem wipeF_mask {es seen : List Int} {e : Int} : wipeF e (maskF es seen) es.length = maskF es (seen ++ [e]) := by
  unfold wipeF
  rw [← maskF_length es seen, List.take_length, List.drop_length, List.append_nil]
  unfold maskF
  rw [List.map_map]
  refine List.map_congr_left fun x _ => ?_
  show wipe1 e (if x ∈ seen then none else some x) = _
  unfold wipe1
  by_cases q : x ∈ seen
  · rw [if_pos q, if_neg (by simp), if_pos (List.mem_append_left _ q)]
  · rw [if_neg q]
    by_cases r : x = e
    · subst r; rw [if_pos rfl, if_pos (by simp)]
    · rw [if_neg (by simpa using r), if_neg (by simp [q, r])]
theorem count_mask {seen : List Int} {e : Int} (h : e ∉ seen) : ∀ es : List Int, (maskF es seen).count (some e) = es.count e
  | [] => rfl
  | x :: es => by
    show (((if x ∈ seen then none else some x) :: maskF es seen).count (some e)) = _
    rw [List.count_cons, List.count_cons, count_mask h es]
    congr 1
    by_cases r : x = e
    · subst r; simp [h]
    · by_cases q : x ∈ seen <;> simp [q, r]
theorem mask_unseen {as : List Int} {i : Nat} {e : Int} (hn : e ∉ as.take i) : ∀ j o, j < i → (maskF as (as.take i))[j]? = some o → o ≠ some e := by
  intro j o hj ho q
  subst q
  unfold maskF at ho
  rw [List.getElem?_map] at ho
  cases hx : as[j]? with
  | none => rw [hx] at ho; cases ho
  | some x =>
    rw [hx] at ho
    simp only [Option.map_some, Option.some.injEq] at ho
    have hm : x ∈ as.take i := List.mem_of_getElem? (i := j) (by rw [List.getElem?_take, if_pos hj]; exact hx)
    rw [if_pos hm] at ho; cases ho
theorem mask_unseen2 {as bs : List Int} {i : Nat} {e : Int} : ∀ j o, j < i → (maskF bs (as ++ bs.take i))[j]? = some o → o ≠ some e := by
  intro j o hj ho q
  subst q
  unfold maskF at ho
  rw [List.getElem?_map] at ho
  cases hx : bs[j]? with
  | none => rw [hx] at ho; cases ho
  | some x =>
    rw [hx] at ho
    simp only [Option.map_some, Option.some.injEq] at ho
    have hm : x ∈ bs.take i := List.mem_of_getElem? (i := j) (by rw [List.getElem?_take, if_pos hj]; exact hx)
    rw [if_pos (List.mem_append_right _ hm)] at ho; cases ho
theorem take_snoc {as : List Int} {i : Nat} {e : Int} (h : as[i]? = some e) : as.take (i + 1) = as.take i ++ [e] := by rw [List.take_add_one, h]; rfl
end Mine
end

section
open PySem PySem.W PyProof.Rows
set_option autoImplicit false
set_option linter.unusedVariables false
set_option maxRecDepth 100000
namespace Mine

/-- an int, or NULL -/
def kO (nul : Addr) (v : Value) (o : Option Int) : Prop := match o with
  | some i => ∃ t, v = .int i t
  | none => v = .ref nul
theorem F2.set {α β : Type} {R : α → β → Prop} {a : α} {b : β} (h : R a b) : ∀ {as : List α} {bs : List β} (k : Nat), F2 R as bs → F2 R (as.set k a) (bs.set k b)
  | _, _, _, .nil => .nil
  | _, _, 0, .cons _ t => .cons h t
  | _, _, k + 1, .cons h' t => .cons h' (t.set h k)
theorem updS_self (m : Str → Option Value) (x : Str) (v : Value) : updS m x v x = some v := if_pos rfl
theorem updS_ne (m : Str → Option Value) {x y : Str} (v : Value) (h : y ≠ x) : updS m x v y = m y := if_neg h

section
variable {prog : Program} {w : World} {A : Around} {g₀ g : Map} {h₀ hb : Heap} {env : Env} {m cm : Str → Option Value} {W₁ W₂ : List (Addr × Obj)} {s : Shared} {E : Value → Shared → Prop} {Q : Flow → Shared → Prop} {rest : List Stmt} {mg mb : Str → Option Value}

/-- the test v == elem -/
theorem op_eqO {h : Heap} {nul : Addr} {u v : Value} {o : Option Int} {e : Int} (gN : g nul = some nulObj) (ho : kO nul u o) (hv : isI e g h v) (hu : A.units < cLine) : Ev prog w A g h (compareOp .Eq u v) (isV (.bool (decide (o = some e)))) := by
  cases o with
  | none =>
    cases ho
    exact (op_eqNul gN hv hu).weaken fun _ _ _ _ q => by rw [q]; rfl
  | some i =>
    refine (op_eq (x := i) (y := e) ho hv).weaken fun _ _ _ _ q => ?_
    rw [q]
    show Value.bool (i == e) = Value.bool (decide (some i = some e))
    congr 1
    by_cases z : i = e
    · subst z; simp
    · simp [z]

/-- for j in range(i, lim): if ls[j] == elem: cn += 1; ls[j] = NULL -/
theorem wipe_loop {ls cn lim : Str} {p1 p2 p3 p4 p5 p6 p7 p8 p9 p10 p11 p12 p13 p14 p15 p16 p17 p18 p19 p20 : Pos} {c1 : Nat} {l nul : Addr} {vs : List Value} {n : Nat} {lo : List (Option Int)} {i : Nat} {e : Int} {t0 t1 t2 t3 : Tok}
    (T : Tp hb mg mb) (hbase : ∀ b o, hb.get? b = some o → g b = some o) (hh : A.handled = none) (hu : A.units < cLine)
    (F : Fm g₀ h₀ env m cm (W₁ ++ (l, seqObj "list" vs.toArray n) :: W₂) g s.heap)
    (hls : m ls = some (.ref l)) (hcn : m cn = some (.int 0 t0)) (hlim : m lim = some (.int lo.length t1)) (hi : m "i" = some (.int i t2)) (hel : m "elem" = some (.int e t3)) (hN : m "NULL" = some (.ref nul)) (gN : g nul = some nulObj)
    (hvs : F2 (kO nul) vs lo) (hskip : ∀ j o, j < i → lo[j]? = some o → o ≠ some e) (hi' : i ≤ lo.length) (hz : lo.length ≤ 500)
    (k : ∀ m' vs' n' g' h' tk, (∀ b o, g b = some o → g' b = some o) → (∀ x : Str, x ≠ "j" → x ≠ cn → m' x = m x) → (∃ t, m' cn = some (.int (lo.count (some e) : Nat) t)) → F2 (kO nul) vs' (wipeF e lo lo.length) →
      Fm g₀ h₀ env m' cm (W₁ ++ (l, seqObj "list" (vs' : List Value).toArray n') :: W₂) g' h' → wpAny (model prog w) A (execs rest env) Q E { s with heap := h', toks := tk })
    (hk : env.scope.kind = .function := by rfl) (hr : env.kindOf "range" = some .globalImplicit := by rfl) (eg : env.globals = mainGlobals := by rfl) (eb : env.builtins = builtinsNs := by rfl)
    (kj : env.kindOf "j" = some .local := by rfl) (kls : env.kindOf ls = some .local := by rfl) (kcn : env.kindOf cn = some .local := by rfl) (klim : env.kindOf lim = some .local := by rfl) (ki : env.kindOf "i" = some .local := by rfl) (ke : env.kindOf "elem" = some .local := by rfl) (kN : env.kindOf "NULL" = some .local := by rfl)
    (d1 : ls ≠ "j" := by decide) (d2 : ls ≠ cn := by decide) (d3 : (cn : Str) ≠ "j" := by decide) (d4 : cn ≠ "elem" := by decide) (d5 : cn ≠ "NULL" := by decide) (d6 : (ls == ("__debug__" : Str)) = false := by decide) (d7 : (lim == ("__debug__" : Str)) = false := by decide) :
    wpAny (model prog w) A (execs (.For (.Name "j" p1) (.Call (.Name "range" p2) [.Name "i" p3, .Name lim p4] [] p5) [.If (.Compare (.Subscript (.Name ls p6) (.Name "j" p7) p8) [.Eq] [.Name "elem" p9] p10) [.AugAssign (.Name cn p11) .Add (.Constant (.int 1) c1 p12) p13, .Assign [.Subscript (.Name ls p14) (.Name "j" p15) p16] (.Name "NULL" p17) p18] [] p19] [] p20 :: rest) env) Q E s := by
  have hbh : ∀ b o, hb.get? b = some o → s.heap.get? b = some o := fun b o e => F.now _ _ (hbase _ _ e)
  refine ex_for (items := intsF i (lo.length - i)) mono_kI F ?_ (fun m x => updS m "j" x) (fun cm _ => cm) (st_name hk kj)
    (fun q m' cm' W' g' => cm' = cm ∧ ∃ vs' n' c, W' = W₁ ++ (l, seqObj "list" (vs' : List Value).toArray n') :: W₂ ∧ F2 (kO nul) vs' (wipeF e lo (i + q)) ∧ m' cn = some (.int ((lo.take (i + q)).count (some e) : Nat) c) ∧ ∀ x : Str, x ≠ "j" → x ≠ cn → m' x = m x) ?_ ?_ ?_ (by intro _; rfl)
  · have := ev_range2 (env := env) (A := A) (w := w) (prog := prog) (g := g) (e := .Name "i" p3) (e' := .Name lim p4) (np := p2) (pos := p5) (m := (i : Int)) (n := (lo.length : Int)) T hbh hh (F.loc hi ⟨_, rfl⟩ (mono_isI _) hk ki) (F.loc hlim ⟨_, rfl⟩ (mono_isI _) hk klim d7) (by omega) (by omega) (by omega) (by omega) hk hr eg eb rfl rfl
    have e1 : ((lo.length : Int) - (i : Int)).toNat = lo.length - i := by omega
    rwa [e1] at this
  · intro g' hs'
    refine ⟨rfl, vs, n, t0, rfl, ?_, ?_, fun x _ _ => rfl⟩
    · rw [Nat.add_zero, wipeF_skip hskip hi']; exact hvs
    · rw [Nat.add_zero, count_skip hskip hi']; exact hcn
  · rintro q a v m₁ cm₁ W' g₁ h₁ tk I oI E' ha hv hs₁ ⟨rfl, vs', n', c, rfl, hF, hcnt, hm⟩ F₁
    have hq : q < lo.length - i := by
      have := (List.getElem?_eq_some_iff.mp ha).1
      rwa [intsF_length] at this
    have haq : a = (i : Int) + (q : Int) := by
      rw [intsF_get _ _ _ hq] at ha
      exact (Option.some.inj ha).symm
    subst haq
    obtain ⟨o, ho⟩ : ∃ o, lo[i + q]? = some o := ⟨_, List.getElem?_eq_getElem (by omega)⟩
    have hlen : vs'.length = lo.length := by rw [hF.length, wipeF_length]
    obtain ⟨u, hu'⟩ : ∃ u, vs'[i + q]? = some u := ⟨_, List.getElem?_eq_getElem (by omega)⟩
    obtain ⟨o', ho', hku⟩ := hF.get (i + q) u hu'
    rw [wipeF_at, ho] at ho'
    cases ho'
    have hl₁ : h₁.get? l = some (seqObj "list" vs'.toArray n') := F₁.at_ (.tail _ (List.mem_append_right _ (.head _)))
    have nls (p : Pos) := F₁.loc (prog := prog) (w := w) (A := A) (x := ls) (pos := p) (v := .ref l) (by rw [updS_ne _ _ d1, hm _ d1 d2]; exact hls) (P := isV (.ref l)) rfl (mono_isV _) hk kls d6
    have nj (p : Pos) := F₁.loc (prog := prog) (w := w) (A := A) (x := "j") (pos := p) (v := v) (updS_self _ _ _) (P := isI ((i : Int) + (q : Int))) hv (mono_isI _) hk kj
    have gN₁ := hs₁ _ _ gN
    refine ex_if (c := decide (o = some e)) F₁ ?t fun g₂ h₂ tk₂ hs₂ F₂ => ?_
    case t =>
      refine ev_test (P₁ := fun _ _ z => kO nul z o) (P₂ := isI e) (fun _ _ _ _ _ _ z => z) ?_ (F₁.loc (x := "elem") (by rw [updS_ne _ _ (by decide), hm _ (by decide) (Ne.symm d4)]; exact hel) ⟨_, rfl⟩ (mono_isI _) hk ke) fun x y g' h' G' p r => ?_
      · refine ev_sub (P₁ := isV (.ref l)) (k := (i : Int) + (q : Int)) (mono_isV _) (nls _) (nj _) fun z g' h' G' p => ?_
        cases p
        refine ⟨l, vs'.toArray, u, rfl, ⟨_, G'.heap _ _ hl₁, rfl, n', rfl⟩, by omega, by omega, ?_, hku⟩
        have : ((i : Int) + (q : Int)).toNat = i + q := by omega
        rw [this]; simpa using hu'
      · exact op_eqO (G'.sub _ _ gN₁) p r hu
    have hcount := count_step (x := some e) ho
    by_cases hoe : o = some e
    · rw [decide_eq_true hoe]
      simp only [if_true]
      subst hoe
      refine ex_aug (x := cn) (i := ((lo.take (i + q)).count (some e) : Nat)) (j := 1) F₂ (by rw [updS_ne _ _ d3]; exact hcnt) ⟨_, rfl⟩ ev_int (fun v' g₃ h₃ tk₃ hs₃ hv' F₃ => ?_) hk kcn
      obtain ⟨t', rfl⟩ := hv'
      refine ex_setItem (W₁ := (I, oI) :: W₁) (W₂ := W₂) (l := l) (vs := vs') (k := (i : Int) + (q : Int)) (v := .ref nul) F₃ (F₃.loc (x := "NULL") (by rw [updS_ne _ _ (Ne.symm d5), updS_ne _ _ (by decide), hm _ (by decide) (Ne.symm d5)]; exact hN) rfl (mono_isV _) hk kN)
        (F₃.loc (x := ls) (by rw [updS_ne _ _ d2, updS_ne _ _ d1, hm _ d1 d2]; exact hls) rfl (mono_isV _) hk kls d6) (F₃.loc (x := "j") (v := v) (by rw [updS_ne _ _ (Ne.symm d3)]; exact updS_self _ _ _) hv (mono_isI _) hk kj) (by omega) (by omega) (by omega) (fun g₄ h₄ tk₄ n₄ hs₄ F₄ => ?_) rfl
      refine wpAny_execs_nil (wpAny_execs_nil ?_)
      refine ⟨_, _, _, g₄, h₄, tk₄, rfl, fun b o z => hs₄ _ _ (hs₃ _ _ (hs₂ _ _ z)), F₄, rfl, _, n₄, t', rfl, ?_, ?_, ?_⟩
      · rw [← Nat.add_assoc, wipeF_hit ho]
        have : ((i : Int) + (q : Int)).toNat = i + q := by omega
        rw [this]
        exact hF.set (R := kO nul) (show kO nul (.ref nul) none from rfl) (i + q)
      · rw [← Nat.add_assoc, hcount, if_pos rfl]
        rw [updS_self]
        push_cast; rfl
      · intro x hx1 hx2
        rw [updS_ne _ _ hx2, updS_ne _ _ hx1]
        exact hm x hx1 hx2
    · rw [decide_eq_false hoe]
      simp only [Bool.false_eq_true, if_false]
      refine wpAny_execs_nil (wpAny_execs_nil ?_)
      refine ⟨_, _, _, g₂, h₂, tk₂, rfl, hs₂, F₂, rfl, vs', n', c, rfl, ?_, ?_, ?_⟩
      · rw [← Nat.add_assoc, wipeF_miss ho hoe]; exact hF
      · rw [← Nat.add_assoc, hcount, if_neg hoe, updS_ne _ _ d3]; exact hcnt
      · intro x hx1 hx2
        rw [updS_ne _ _ hx1]
        exact hm x hx1 hx2
  · rintro m₁ cm₁ W' g₁ h₁ tk hs₁ ⟨rfl, vs', n', c, rfl, hF, hcnt, hm⟩ F₁
    rw [intsF_length] at hF hcnt
    have e1 : i + (lo.length - i) = lo.length := by omega
    rw [e1] at hF hcnt
    rw [List.take_length] at hcnt
    exact k m₁ vs' n' g₁ h₁ tk hs₁ hm ⟨c, hcnt⟩ hF F₁
end
end Mine
end

section
open PySem PySem.W PyProof.Rows
set_option autoImplicit false
set_option linter.unusedVariables false
set_option maxRecDepth 100000
namespace Mine

theorem list_inj {h : Heap} {a : Addr} {vs us : List Value} {n k : Nat} (h1 : h.get? a = some (seqObj "list" vs.toArray n)) (h2 : h.get? a = some (seqObj "list" us.toArray k)) : vs = us := by
  rw [h1] at h2
  have := congrArg Obj.data (Option.some.inj h2)
  have e : vs.toArray = us.toArray := (Data.seq.inj this).1
  simpa using e

section
variable {prog : Program} {w : World} {A : Around} {g₀ g : Map} {h₀ hb : Heap} {env : Env} {m cm : Str → Option Value} {W₁ W₂ : List (Addr × Obj)} {s : Shared} {E : Value → Shared → Prop} {Q : Flow → Shared → Prop} {rest : List Stmt} {mg mb : Str → Option Value}

/-- for j, other in enumerate(ls): if other == elem: cn += 1; ls[j] = NULL -/
theorem wipe_enum {ls cn ot : Str} {p1 p2 p3 p4 p5 p6 p7 p9 p10 p11 p12 p13 p14 p15 p16 p17 p18 p19 p20 : Pos} {c1 c2 : Nat} {l nul : Addr} {vs : List Value} {n : Nat} {lo : List (Option Int)} {e : Int} {t0 t3 : Tok}
    (T : Tp hb mg mb) (hbase : ∀ b o, hb.get? b = some o → g b = some o) (hh : A.handled = none) (hu : A.units < cLine)
    (F : Fm g₀ h₀ env m cm (W₁ ++ (l, seqObj "list" vs.toArray n) :: W₂) g s.heap)
    (hls : m ls = some (.ref l)) (hcn : m cn = some (.int 0 t0)) (hel : m "elem" = some (.int e t3)) (hN : m "NULL" = some (.ref nul)) (gN : g nul = some nulObj)
    (hvs : F2 (kO nul) vs lo) (hz : lo.length ≤ 500)
    (k : ∀ m' vs' n' g' h' tk, (∀ b o, g b = some o → g' b = some o) → (∀ x : Str, x ≠ "j" → x ≠ ot → x ≠ cn → m' x = m x) → (∃ t, m' cn = some (.int (lo.count (some e) : Nat) t)) → F2 (kO nul) vs' (wipeF e lo lo.length) →
      Fm g₀ h₀ env m' cm (W₁ ++ (l, seqObj "list" (vs' : List Value).toArray n') :: W₂) g' h' → wpAny (model prog w) A (execs rest env) Q E { s with heap := h', toks := tk })
    (hk : env.scope.kind = .function := by rfl) (hr : env.kindOf "enumerate" = some .globalImplicit := by rfl) (eg : env.globals = mainGlobals := by rfl) (eb : env.builtins = builtinsNs := by rfl)
    (kj : env.kindOf "j" = some .local := by rfl) (kot : env.kindOf ot = some .local := by rfl) (kls : env.kindOf ls = some .local := by rfl) (kcn : env.kindOf cn = some .local := by rfl) (ke : env.kindOf "elem" = some .local := by rfl) (kN : env.kindOf "NULL" = some .local := by rfl)
    (d1 : ls ≠ "j" := by decide) (d2 : ls ≠ cn := by decide) (d3 : (cn : Str) ≠ "j" := by decide) (d4 : cn ≠ "elem" := by decide) (d5 : cn ≠ "NULL" := by decide) (d6 : (ls == ("__debug__" : Str)) = false := by decide) (d8 : ls ≠ ot := by decide) (d9 : cn ≠ ot := by decide) (d10 : ot ≠ "j" := by decide) (d11 : ot ≠ "elem" := by decide) (d12 : ot ≠ "NULL" := by decide) (d13 : (ot == ("__debug__" : Str)) = false := by decide) :
    wpAny (model prog w) A (execs (.For (.Tuple [.Name "j" p1, .Name ot p2] c2 p3) (.Call (.Name "enumerate" p4) [.Name ls p5] [] p6) [.If (.Compare (.Name ot p7) [.Eq] [.Name "elem" p9] p10) [.AugAssign (.Name cn p11) .Add (.Constant (.int 1) c1 p12) p13, .Assign [.Subscript (.Name ls p14) (.Name "j" p15) p16] (.Name "NULL" p17) p18] [] p19] [] p20 :: rest) env) Q E s := by
  have hbh : ∀ b o, hb.get? b = some o → s.heap.get? b = some o := fun b o e => F.now _ _ (hbase _ _ e)
  refine ex_forEnum (l := l) (n := lo.length) T hbh hh F (F.loc (x := ls) hls rfl (mono_isV _) hk kls d6)
    (fun q m' W' g' => ∃ vs' n' c, W' = W₁ ++ (l, seqObj "list" (vs' : List Value).toArray n') :: W₂ ∧ F2 (kO nul) vs' (wipeF e lo q) ∧ m' cn = some (.int ((lo.take q).count (some e) : Nat) c) ∧ ∀ x : Str, x ≠ "j" → x ≠ ot → x ≠ cn → m' x = m x) ?_ ?_ ?_ ?_ hk hr eg eb kj kot rfl (by intro _; rfl)
  · rintro i m' W' g' ⟨vs', n', c, rfl, hF, _⟩
    exact ⟨vs', n', List.mem_append_right _ (.head _), by rw [hF.length, wipeF_length]⟩
  · intro g' hs'
    exact ⟨vs, n, t0, rfl, by rw [wipeF_zero]; exact hvs, by rw [List.take_zero]; exact hcn, fun x _ _ _ => rfl⟩
  · rintro q t u vs₁ nv m₁ W' g₁ h₁ tk ee oe it oit E' hq hmem hu' hs₁ ⟨vs', n', c, rfl, hF, hcnt, hm⟩ F₁
    have hl₁ : h₁.get? l = some (seqObj "list" vs'.toArray n') := F₁.at_ (.tail _ (.tail _ (List.mem_append_right _ (.head _))))
    rw [list_inj (F₁.at_ (.tail _ (.tail _ hmem))) hl₁] at hu'
    obtain ⟨o, ho⟩ : ∃ o, lo[q]? = some o := ⟨_, List.getElem?_eq_getElem (by omega)⟩
    have hlen : vs'.length = lo.length := by rw [hF.length, wipeF_length]
    obtain ⟨o', ho', hku⟩ := hF.get q u hu'
    rw [wipeF_at, ho] at ho'
    cases ho'
    have gN₁ := hs₁ _ _ gN
    refine ex_if (c := decide (o = some e)) F₁ ?t fun g₂ h₂ tk₂ hs₂ F₂ => ?_
    case t =>
      refine ev_test (P₁ := fun _ _ z => kO nul z o) (P₂ := isI e) (fun _ _ _ _ _ _ z => z) (F₁.loc (x := ot) (updS_self _ _ _) hku (fun _ _ _ _ _ _ z => z) hk kot d13) (F₁.loc (x := "elem") (by rw [updS_ne _ _ (Ne.symm d11), updS_ne _ _ (by decide), hm _ (by decide) (Ne.symm d11) (Ne.symm d4)]; exact hel) ⟨_, rfl⟩ (mono_isI _) hk ke) fun x y g' h' G' p r => ?_
      exact op_eqO (G'.sub _ _ gN₁) p r hu
    have hcount := count_step (x := some e) ho
    by_cases hoe : o = some e
    · rw [decide_eq_true hoe]
      simp only [if_true]
      subst hoe
      refine ex_aug (x := cn) (i := ((lo.take q).count (some e) : Nat)) (j := 1) F₂ (by rw [updS_ne _ _ d9, updS_ne _ _ d3]; exact hcnt) ⟨_, rfl⟩ ev_int (fun v' g₃ h₃ tk₃ hs₃ hv' F₃ => ?_) hk kcn
      obtain ⟨t', rfl⟩ := hv'
      refine ex_setItem (W₁ := (ee, oe) :: (it, oit) :: W₁) (W₂ := W₂) (l := l) (vs := vs') (k := (q : Int)) (v := .ref nul) F₃ (F₃.loc (x := "NULL") (by rw [updS_ne _ _ (Ne.symm d5), updS_ne _ _ (Ne.symm d12), updS_ne _ _ (by decide), hm _ (by decide) (Ne.symm d12) (Ne.symm d5)]; exact hN) rfl (mono_isV _) hk kN)
        (F₃.loc (x := ls) (by rw [updS_ne _ _ d2, updS_ne _ _ d8, updS_ne _ _ d1, hm _ d1 d8 d2]; exact hls) rfl (mono_isV _) hk kls d6) (F₃.loc (x := "j") (v := .int q t) (by rw [updS_ne _ _ (Ne.symm d3), updS_ne _ _ (Ne.symm d10)]; exact updS_self _ _ _) ⟨_, rfl⟩ (mono_isI _) hk kj) (by omega) (by omega) (by omega) (fun g₄ h₄ tk₄ n₄ hs₄ F₄ => ?_) rfl
      refine wpAny_execs_nil (wpAny_execs_nil ?_)
      refine ⟨_, _, g₄, h₄, tk₄, rfl, fun b o z => hs₄ _ _ (hs₃ _ _ (hs₂ _ _ z)), F₄, _, n₄, t', rfl, ?_, ?_, ?_⟩
      · rw [wipeF_hit ho]
        exact hF.set (R := kO nul) (show kO nul (.ref nul) none from rfl) q
      · rw [hcount, if_pos rfl]
        rw [updS_self]
        push_cast; rfl
      · intro x hx1 hx2 hx3
        rw [updS_ne _ _ hx3, updS_ne _ _ hx2, updS_ne _ _ hx1]
        exact hm x hx1 hx2 hx3
    · rw [decide_eq_false hoe]
      simp only [Bool.false_eq_true, if_false]
      refine wpAny_execs_nil (wpAny_execs_nil ?_)
      refine ⟨_, _, g₂, h₂, tk₂, rfl, hs₂, F₂, vs', n', c, rfl, ?_, ?_, ?_⟩
      · rw [wipeF_miss ho hoe]; exact hF
      · rw [hcount, if_neg hoe, updS_ne _ _ d9, updS_ne _ _ d3]; exact hcnt
      · intro x hx1 hx2 hx3
        rw [updS_ne _ _ hx2, updS_ne _ _ hx1]
        exact hm x hx1 hx2 hx3
  · rintro m₁ W' g₁ h₁ tk hs₁ ⟨vs', n', c, rfl, hF, hcnt, hm⟩ F₁
    rw [List.take_length] at hcnt
    exact k m₁ vs' n' g₁ h₁ tk hs₁ hm ⟨c, hcnt⟩ hF F₁
end
end Mine
end

section
open PySem PySem.W PyProof.Rows
set_option autoImplicit false
set_option linter.unusedVariables false
set_option maxRecDepth 100000
namespace Mine

/-- a triple of the class -/
def kM : Map → (Int × Int × Int) → Value → Prop := fun g x v => ∃ a dx t u q, v = .ref a ∧ g a = some (misObj [.int x.1 t, .int x.2.1 u, .int x.2.2 q] dx)
theorem mono_kM : MonoM kM := fun g g' x v hs ⟨a, dx, t, u, q, e, h⟩ => ⟨a, dx, t, u, q, e, hs _ _ h⟩

/-- what the names of the def stand for -/
structure NmC (mm : Str → Option Value) (as_ at_ ar nul : Addr) (la lb : Nat) (tm tn : Tok) : Prop where
  nS : mm "s" = some (.ref as_)
  nT : mm "t" = some (.ref at_)
  nM : mm "m" = some (.int la tm)
  nN : mm "n" = some (.int lb tn)
  nNul : mm "NULL" = some (.ref nul)
  nRes : mm "result" = some (.ref ar)
theorem NmC.other {m m' : Str → Option Value} {as_ at_ ar nul : Addr} {la lb : Nat} {tm tn : Tok} (h : NmC m as_ at_ ar nul la lb tm tn) (hm : ∀ x : Str, x = "s" ∨ x = "t" ∨ x = "m" ∨ x = "n" ∨ x = "NULL" ∨ x = "result" → m' x = m x) : NmC m' as_ at_ ar nul la lb tm tn :=
  ⟨by rw [hm _ (by simp)]; exact h.nS, by rw [hm _ (by simp)]; exact h.nT, by rw [hm _ (by simp)]; exact h.nM, by rw [hm _ (by simp)]; exact h.nN, by rw [hm _ (by simp)]; exact h.nNul, by rw [hm _ (by simp)]; exact h.nRes⟩

section
variable {prog : Program} {w : World} {A : Around} {g : Map} {h hb : Heap} {mg mb : Str → Option Value}
abbrev eCount (doc pm : Value) (an : Option Addr) (cd ct : Value) (L : Addr) : Env := callEnv (fdOf (top 8) "_count_diff_all_purpose" doc pm an cd ct) L 166

theorem count_fn (T : Tp hb mg mb) (Tm' : Tm hb) (hbase : ∀ b o, hb.get? b = some o → g b = some o) {v u : Value} {as bs : List Int} (hv : IL as g h v) (hu : IL bs g h u) (hza : as.length ≤ 100) (hzb : bs.length ≤ 100)
    (hh : A.handled = none) (hroom : A.depth + 2 < recursionLimit) (hun : A.units + 100 < cLine) :
    Ev prog w A g h (call (.ref 166) [v, u]) (fun g' _ r => ∃ a vs n, r = .ref a ∧ g' a = some (seqObj "list" vs.toArray n) ∧ F2 (fun v x => kM g' x v) vs (toldF as bs)) := by
  obtain ⟨o, doc, pm, an, cd, ct, ho, hd, hcd⟩ := T.fCount
  obtain ⟨K, X, M, hfn⟩ := id Tm'
  intro s g₁ Q E G k
  have hbs : ∀ b o, hb.get? b = some o → s.heap.get? b = some o := fun b o e => G.now _ _ (G.sub _ _ (hbase _ _ e))
  revert k
  refine (?_ : Ev prog w A g₁ s.heap (call (.ref 166) [v, u]) _) s g₁ Q E (Gr.refl G.now)
  refine ev_def (binds := [(Str.ofString "actual", v), (Str.ofString "expected", u)]) (hbs _ _ ho) hd rfl (T.nolimit.keeps hbs) (hcd.keeps hbs) (by omega) rfl rfl (by show ∀ x ∈ (fnScope (top 8)).names, x.2 ≠ .cell; decide) (locs rfl) ?_
  intro s' g₂ L h₂ tk Q' E' G' F k
  have hv₂ : ILv g₂ as v := mono_IL as _ _ _ _ _ (G.trans G') hv
  have hu₂ : ILv g₂ bs u := mono_IL bs _ _ _ _ _ (G.trans G') hu
  have hb₂ : ∀ b o, hb.get? b = some o → g₂ b = some o := fun b o e => G'.sub _ _ (G.sub _ _ (hbase _ _ e))
  refine ex_expr F ev_str fun g₃ h₃ tk₃ hs₃ F₃ => ?_
  obtain ⟨av, vv, nv, rfl, hav, hIv⟩ := mono_ILv _ _ _ _ hs₃ hv₂
  obtain ⟨au, vu, nu, rfl, hau, hIu⟩ := mono_ILv _ _ _ _ hs₃ hu₂
  have hb₃ : ∀ b o, hb.get? b = some o → g₃ b = some o := fun b o e => hs₃ _ _ (hb₂ _ _ e)
  have hvl : vv.length = as.length := hIv.length
  have hul : vu.length = bs.length := hIu.length
  -- s, t = list(actual), list(expected)
  refine ex_swapN (vs₁ := vv) (vs₂ := vu) F₃ hh ?_ ?_ fun as_ ns at_ nt g₄ h₄ tk₄ hs₄ F₄ => ?_
  · refine ev_callTN (P₁ := consP (isV (.ref av)) nilP) (nm_b T (fun b o e => F₃.now _ _ (hb₃ _ _ e)) T.list) (spl_cons (mono_isV _) (F₃.loc (x := "actual") (v := .ref av) rfl rfl (mono_isV _)) spl_nil) fun us g' h' G' p => ?_
    obtain ⟨_, _, rfl, p, q⟩ := p
    cases p; cases q
    exact cl_list (G'.now _ _ (G'.sub _ _ hav)) (by omega)
  · refine ev_callTN (P₁ := consP (isV (.ref au)) nilP) (nm_b T (fun b o e => F₃.now _ _ (hb₃ _ _ e)) T.list) (spl_cons (mono_isV _) (F₃.loc (x := "expected") (v := .ref au) rfl rfl (mono_isV _)) spl_nil) fun us g' h' G' p => ?_
    obtain ⟨_, _, rfl, p, q⟩ := p
    cases p; cases q
    exact cl_list (G'.now _ _ (G'.sub _ _ hau)) (by omega)
  have hb₄ : ∀ b o, hb.get? b = some o → g₄ b = some o := fun b o e => hs₄ _ _ (hb₃ _ _ e)
  -- m, n = len(s), len(t)
  refine ex_swap (P₁ := isI as.length) (P₂ := isI bs.length) (mono_isI _) F₄ hh ?_ ?_ fun lm ln g₅ h₅' h₅ tk₅ hs₅ pm_ pn_ F₅ => ?_
  · refine ev_len (P := isV (.ref as_)) T (fun b o e => F₄.now _ _ (hb₄ _ _ e)) (F₄.loc (x := "s") (v := .ref as_) rfl rfl (mono_isV _)) (fun z g' h' G' p => ?_) (by omega)
    cases p
    exact ⟨as_, _, rfl, ⟨_, G'.heap _ _ (F₄.at_ (.tail _ (.head _))), rfl, _, rfl⟩, by simpa using hvl⟩
  · refine ev_len (P := isV (.ref at_)) T (fun b o e => F₄.now _ _ (hb₄ _ _ e)) (F₄.loc (x := "t") (v := .ref at_) rfl rfl (mono_isV _)) (fun z g' h' G' p => ?_) (by omega)
    cases p
    exact ⟨at_, _, rfl, ⟨_, G'.heap _ _ (F₄.at_ (.head _)), rfl, _, rfl⟩, by simpa using hul⟩
  obtain ⟨tm, rfl⟩ := pm_
  obtain ⟨tn, rfl⟩ := pn_
  have hb₅ : ∀ b o, hb.get? b = some o → g₅ b = some o := fun b o e => hs₅ _ _ (hb₄ _ _ e)
  -- NULL = object()
  refine ex_assign (P := fun g _ v => ∃ a, v = .ref a ∧ g a = some nulObj) F₅ (ev_callT0 (nm_b T (fun b o e => F₅.now _ _ (hb₅ _ _ e)) T.obj) fun _ _ _ => cl_object) fun z g₆ h₆' h₆ tk₆ hs₆ pz F₆ => ?_
  obtain ⟨nul, rfl, gN⟩ := pz
  -- result = []
  refine ex_assignN (R := nilP) F₆ (ev_list mono_nilP spl_nil fun _ _ vs p => by rw [p]; simp) fun ar vs₀ nr g₇ h₇' h₇ tk₇ hs₇ pn F₇ => ?_
  cases pn
  have gN₇ := hs₇ _ _ gN
  have hb₇ : ∀ b o, hb.get? b = some o → g₇ b = some o := fun b o e => hs₇ _ _ (hs₆ _ _ (hb₅ _ _ e))
  have kOI : ∀ {us : List Value} {ns : List Int}, IntsAre us ns → F2 (kO nul) us (maskF ns []) := by
    intro us ns hI
    induction hI with
    | nil => exact .nil
    | cons n t _ ih => exact .cons ⟨t, by simp⟩ ih
  -- the first loop
  refine ex_forEnum (l := as_) (n := as.length) T (fun b o e => F₇.now _ _ (hb₇ _ _ e)) hh F₇ (F₇.loc (x := "s") (v := .ref as_) rfl rfl (mono_isV _))
    (fun i m W g => ∃ vr nr vt nt vs ns, W = [(ar, seqObj "list" (vr : List Value).toArray nr), (at_, seqObj "list" (vt : List Value).toArray nt), (as_, seqObj "list" (vs : List Value).toArray ns)] ∧ F2 (kO nul) vs (maskF as (as.take i)) ∧ F2 (kO nul) vt (maskF bs (as.take i)) ∧ F2 (fun v x => kM g x v) vr (tell1 as bs i) ∧ (tell1 as bs i).length ≤ i ∧ NmC m as_ at_ ar nul as.length bs.length tm tn) ?_ ?_ ?_ ?_
  · rintro i m W g ⟨vr, nr, vt, nt, vs, ns, rfl, hF, _⟩
    exact ⟨vs, ns, .tail _ (.tail _ (.head _)), by rw [hF.length, maskF_length]⟩
  · intro g' hs'
    exact ⟨[], nr, vu, nt, vv, ns, rfl, kOI hIv, kOI hIu, .nil, Nat.le_refl _, ⟨rfl, rfl, rfl, rfl, rfl, rfl⟩⟩
  · rintro i t x vs₁ nv₁ m₁ W₁ g₈ h₈ tk₈ e oe it oit E₁ hi hmem hx hs₈ ⟨vr, nr, vt, nt, vs, ns, rfl, hFs, hFt, hFr, hrl, nm⟩ F₈
    have hls : h₈.get? as_ = some (seqObj "list" vs.toArray ns) := F₈.at_ (.tail _ (.tail _ (.tail _ (.tail _ (.head _)))))
    rw [list_inj (F₈.at_ (.tail _ (.tail _ hmem))) hls] at hx
    have hai : as[i]? = some as[i] := List.getElem?_eq_getElem hi
    obtain ⟨ox, hox, hkx⟩ := hFs.get i x hx
    rw [maskF_get _ _ _ _ hai] at hox
    have gN₈ := hs₈ _ _ gN₇
    have hb₈ : ∀ b o, hb.get? b = some o → g₈ b = some o := fun b o z => hs₈ _ _ (hb₇ _ _ z)
    have nm₈ : NmC (updS (updS m₁ "i" (.int i t)) "elem" x) as_ at_ ar nul as.length bs.length tm tn := nm.other fun y hy => by
      rw [updS_ne _ _ (by rcases hy with rfl | rfl | rfl | rfl | rfl | rfl <;> decide), updS_ne _ _ (by rcases hy with rfl | rfl | rfl | rfl | rfl | rfl <;> decide)]
    by_cases hseen : as[i] ∈ as.take i
    · -- seen before
      rw [if_pos hseen] at hox
      cases hox
      cases hkx
      refine ex_if (c := true) F₈ ?t fun g₉ h₉ tk₉ hs₉ F₉ => ?_
      case t =>
        refine ev_test (mono_isV (.ref nul)) (F₈.loc (x := "elem") (v := .ref nul) rfl rfl (mono_isV _)) (F₈.loc (x := "NULL") (v := .ref nul) nm₈.nNul rfl (mono_isV _)) fun a b g' h' G' p q => ?_
        cases p; cases q
        exact (op_isRef (G'.sub _ _ gN₈) (G'.sub _ _ gN₈) (by decide)).weaken fun _ _ _ _ z => by rw [z]; simp [isV]
      simp only [if_true]
      refine wpAny_execs_cons (wpAny_Continue ?_)
      have etake : ∀ y, y ∈ as.take (i + 1) ↔ y ∈ as.take i := fun y => by
        rw [take_snoc hai, List.mem_append, List.mem_singleton]
        exact ⟨fun z => z.elim id fun z => z ▸ hseen, .inl⟩
      have etell : tell1 as bs (i + 1) = tell1 as bs i := by
        show tell1 as bs i ++ _ = _
        rw [hai]; simp only [if_pos hseen, List.append_nil]
      refine ⟨_, _, g₉, h₉, tk₉, rfl, hs₉, F₉, vr, nr, vt, nt, vs, ns, rfl, ?_, ?_, ?_, ?_, nm₈⟩
      · rw [maskF_congr etake]; exact hFs
      · rw [maskF_congr etake]; exact hFt
      · rw [etell]; exact hFr.mono fun _ _ z => mono_kM _ _ _ _ hs₉ z
      · rw [etell]; omega
    · -- not seen before
      rw [if_neg hseen] at hox
      cases hox
      obtain ⟨tx, rfl⟩ := hkx
      generalize hae : as[i] = a at hai hseen F₈ nm₈ hx
      refine ex_if (c := false) F₈ ?t fun g₉ h₉ tk₉ hs₉ F₉ => ?_
      case t =>
        refine ev_test (mono_isI a) (F₈.loc (x := "elem") (v := .int a tx) rfl ⟨_, rfl⟩ (mono_isI _)) (F₈.loc (x := "NULL") (v := .ref nul) nm₈.nNul rfl (mono_isV _)) fun a b g' h' G' p q => ?_
        cases q
        exact op_isInt p
      simp only [Bool.false_eq_true, if_false]
      refine wpAny_execs_nil ?_
      -- cnt_s = cnt_t = 0
      refine ex_two (P := isI 0) F₉ ev_int fun z g₁₀ h₁₀' h₁₀ tk₁₀ hs₁₀ pz F₁₀ => ?_
      obtain ⟨t0, rfl⟩ := pz
      have up₁₀ : ∀ b o, g₈ b = some o → g₁₀ b = some o := fun b o z => hs₁₀ _ _ (hs₉ _ _ z)
      -- the loop over s
      refine wipe_loop (ls := "s") (cn := "cnt_s") (lim := "m") (W₁ := [(e, oe), (it, oit), (ar, _), (at_, _)]) (W₂ := []) (l := as_) (nul := nul) (lo := maskF as (as.take i)) (i := i) (e := a) T (fun b o z => up₁₀ _ _ (hb₈ _ _ z)) hh (by show A.units + 3 < cLine; omega) F₁₀ nm₈.nS rfl
        (by rw [maskF_length]; exact nm₈.nM) rfl rfl nm₈.nNul (up₁₀ _ _ gN₈) hFs (mask_unseen hseen) (by rw [maskF_length]; omega) (by rw [maskF_length]; omega) fun m₁₁ vs₁₁ n₁₁ g₁₁ h₁₁ tk₁₁ hs₁₁ hm₁₁ hc₁₁ hF₁₁ F₁₁ => ?_
      rw [maskF_length, wipeF_mask] at hF₁₁
      rw [count_mask hseen] at hc₁₁
      obtain ⟨tcs, hcs⟩ := hc₁₁
      have nm₁₁ : NmC m₁₁ as_ at_ ar nul as.length bs.length tm tn := nm₈.other fun y hy => by
        rw [hm₁₁ y (by rcases hy with rfl | rfl | rfl | rfl | rfl | rfl <;> decide) (by rcases hy with rfl | rfl | rfl | rfl | rfl | rfl <;> decide), updS_ne _ _ (by rcases hy with rfl | rfl | rfl | rfl | rfl | rfl <;> decide), updS_ne _ _ (by rcases hy with rfl | rfl | rfl | rfl | rfl | rfl <;> decide)]
      have up₁₁ : ∀ b o, g₈ b = some o → g₁₁ b = some o := fun b o z => hs₁₁ _ _ (up₁₀ _ _ z)
      -- the loop over t
      refine wipe_enum (ls := "t") (cn := "cnt_t") (ot := "other_elem") (W₁ := [(e, oe), (it, oit), (ar, _)]) (W₂ := [(as_, _)]) (l := at_) (nul := nul) (lo := maskF bs (as.take i)) (e := a) T (fun b o z => up₁₁ _ _ (hb₈ _ _ z)) hh (by show A.units + 3 < cLine; omega) F₁₁ nm₁₁.nT
        (by rw [hm₁₁ _ (by decide) (by decide)]; rfl) (by rw [hm₁₁ _ (by decide) (by decide)]; rfl) nm₁₁.nNul (up₁₁ _ _ gN₈) hFt (by rw [maskF_length]; omega) fun m₁₂ vt₁₂ n₁₂ g₁₂ h₁₂ tk₁₂ hs₁₂ hm₁₂ hc₁₂ hF₁₂ F₁₂ => ?_
      rw [maskF_length, wipeF_mask] at hF₁₂
      rw [count_mask hseen] at hc₁₂
      obtain ⟨tct, hct⟩ := hc₁₂
      have nm₁₂ : NmC m₁₂ as_ at_ ar nul as.length bs.length tm tn := nm₁₁.other fun y hy => by
        rw [hm₁₂ y (by rcases hy with rfl | rfl | rfl | rfl | rfl | rfl <;> decide) (by rcases hy with rfl | rfl | rfl | rfl | rfl | rfl <;> decide) (by rcases hy with rfl | rfl | rfl | rfl | rfl | rfl <;> decide)]
      have hcs₁₂ : m₁₂ "cnt_s" = some (.int (as.count a : Nat) tcs) := by rw [hm₁₂ _ (by decide) (by decide) (by decide)]; exact hcs
      have hel₁₂ : m₁₂ "elem" = some (.int a tx) := by rw [hm₁₂ _ (by decide) (by decide) (by decide), hm₁₁ _ (by decide) (by decide)]; rfl
      have up₁₂ : ∀ b o, g₈ b = some o → g₁₂ b = some o := fun b o z => hs₁₂ _ _ (up₁₁ _ _ z)
      refine ex_if (c := ((as.count a : Nat) : Int) != ((bs.count a : Nat) : Int)) F₁₂ (ev_test (mono_isI _) (F₁₂.loc (x := "cnt_s") hcs₁₂ ⟨_, rfl⟩ (mono_isI _)) (F₁₂.loc (x := "cnt_t") hct ⟨_, rfl⟩ (mono_isI _)) fun _ _ _ _ _ p q => op_ne p q) fun g₁₃ h₁₃ tk₁₃ hs₁₃ F₁₃ => ?_
      have up₁₃ : ∀ b o, g₈ b = some o → g₁₃ b = some o := fun b o z => hs₁₃ _ _ (up₁₂ _ _ z)
      by_cases hne : ((as.count a : Nat) : Int) = ((bs.count a : Nat) : Int)
      · have etell : tell1 as bs (i + 1) = tell1 as bs i := by
          show tell1 as bs i ++ _ = _
          rw [hai]; simp only [if_neg hseen, hne, ne_eq, not_true_eq_false, if_false, List.append_nil]
        rw [show (((as.count a : Nat) : Int) != ((bs.count a : Nat) : Int)) = false by simpa using hne]
        simp only [Bool.false_eq_true, if_false]
        refine wpAny_execs_nil (wpAny_execs_nil ?_)
        refine ⟨_, _, g₁₃, h₁₃, tk₁₃, rfl, up₁₃, F₁₃, vr, nr, vt₁₂, n₁₂, vs₁₁, n₁₁, rfl, ?_, ?_, ?_, ?_, nm₁₂⟩
        · rw [take_snoc hai]; exact hF₁₁
        · rw [take_snoc hai]; exact hF₁₂
        · rw [etell]; exact hFr.mono fun _ _ z => mono_kM _ _ _ _ up₁₃ z
        · rw [etell]; omega
      · have etell : tell1 as bs (i + 1) = tell1 as bs i ++ [((as.count a : Int), (bs.count a : Int), a)] := by
          show tell1 as bs i ++ _ = _
          rw [hai]; simp only [if_neg hseen, ne_eq, hne, not_false_eq_true, if_true]
        rw [show (((as.count a : Nat) : Int) != ((bs.count a : Nat) : Int)) = true by simpa using hne]
        simp only [if_true]
        have hb₁₃ : ∀ b o, hb.get? b = some o → h₁₃.get? b = some o := fun b o z => F₁₃.now _ _ (up₁₃ _ _ (hb₈ _ _ z))
        refine ex_assign (P := isMis [.int (as.count a : Nat) tcs, .int (bs.count a : Nat) tct, .int a tx]) F₁₃ ?d fun z g₁₄ h₁₄' h₁₄ tk₁₄ hs₁₄ pz F₁₄ => ?_
        case d =>
          refine ev_callC (P₁ := consP (isV (.int (as.count a : Nat) tcs)) (consP (isV (.int (bs.count a : Nat) tct)) (consP (isV (.int a tx)) nilP))) (X.keeps hb₁₃) M.keep (nm_g T hb₁₃ T.gMis) (spl_cons (mono_isV _) (F₁₃.loc (x := "cnt_s") hcs₁₂ rfl (mono_isV _)) (spl_cons (mono_isV _) (F₁₃.loc (x := "cnt_t") hct rfl (mono_isV _)) (spl_cons (mono_isV _) (F₁₃.loc (x := "elem") hel₁₂ rfl (mono_isV _)) spl_nil))) fun us g' h' G' p => ?_
          obtain ⟨_, _, rfl, p1, _, _, rfl, p2, _, _, rfl, p3, p4⟩ := p
          cases p1; cases p2; cases p3; cases p4
          exact mis_call T Tm' (fun b o z => G'.heap _ _ (hb₁₃ _ _ z)) (by show A.depth + 1 + 1 < recursionLimit; omega)
        obtain ⟨xm, dxm, rfl, hxm⟩ := pz
        refine ex_meth1 (a := ar) (P := isV (.ref xm)) F₁₄ PySem.F.slot_list_append PySem.F.type_list_append (F₁₄.loc (x := "result") (v := .ref ar) nm₁₂.nRes rfl (mono_isV _)) (F₁₄.at_ (.tail _ (.tail _ (.head _)))) (F₁₄.loc (x := "diff") (v := .ref xm) rfl rfl (mono_isV _)) fun z g₁₅ h₁₅ tk₁₅ hs₁₅ pz F₁₅ ha₁₅ => ?_
        cases pz
        have hvrl := hFr.length
        refine cl_append ha₁₅ (by omega) fun h₁₆ nr' hs₁₆ hg₁₆ => ?_
        have F₁₆ := Fm.change (W₁ := [(e, oe), (it, oit)]) (W₂ := [(at_, _), (as_, _)]) F₁₅ hs₁₆ hg₁₆
        refine wpAny_execs_nil (wpAny_execs_nil ?_)
        have up₁₅ : ∀ b o, g₈ b = some o → g₁₅ b = some o := fun b o z => hs₁₅ _ _ (hs₁₄ _ _ (up₁₃ _ _ z))
        refine ⟨_, _, g₁₅, h₁₆, tk₁₅, rfl, up₁₅, F₁₆, vr ++ [.ref xm], nr', vt₁₂, n₁₂, vs₁₁, n₁₁, rfl, ?_, ?_, ?_, ?_, ?_⟩
        · rw [take_snoc hai]; exact hF₁₁
        · rw [take_snoc hai]; exact hF₁₂
        · rw [etell]
          exact (hFr.mono fun _ _ z => mono_kM _ _ _ _ up₁₅ z).snoc (R := fun v x => kM g₁₅ x v) ⟨xm, dxm, tcs, tct, tx, rfl, hs₁₅ _ _ hxm⟩
        · rw [etell, List.length_append]; simp; omega
        · exact nm₁₂.other fun y hy => by
            rw [updS_ne _ _ (by rcases hy with rfl | rfl | rfl | rfl | rfl | rfl <;> decide)]
  · rintro m₁ W₁ g₈ h₈ tk₈ hs₈ ⟨vr, nr, vt, nt, vs, ns, rfl, hFs, hFt, hFr, hrl, nm⟩ F₈
    rw [List.take_length] at hFt
    have gN₈ := hs₈ _ _ gN₇
    have hb₈ : ∀ b o, hb.get? b = some o → g₈ b = some o := fun b o z => hs₈ _ _ (hb₇ _ _ z)
    -- the second loop
    refine ex_forEnum (l := at_) (n := bs.length) T (fun b o e => F₈.now _ _ (hb₈ _ _ e)) hh F₈ (F₈.loc (x := "t") (v := .ref at_) nm.nT rfl (mono_isV _))
      (fun i m W g => ∃ vr nr vt nt, W = [(ar, seqObj "list" (vr : List Value).toArray nr), (at_, seqObj "list" (vt : List Value).toArray nt), (as_, seqObj "list" (vs : List Value).toArray ns)] ∧ F2 (kO nul) vt (maskF bs (as ++ bs.take i)) ∧ F2 (fun v x => kM g x v) vr (tell1 as bs as.length ++ tell2 as bs i) ∧ (tell2 as bs i).length ≤ i ∧ NmC m as_ at_ ar nul as.length bs.length tm tn) ?_ ?_ ?_ ?_
    · rintro i m W g ⟨vr, nr, vt, nt, rfl, hF, _⟩
      exact ⟨vt, nt, .tail _ (.head _), by rw [hF.length, maskF_length]⟩
    · intro g' hs'
      refine ⟨vr, nr, vt, nt, rfl, ?_, ?_, Nat.le_refl _, nm⟩
      · rw [List.take_zero, List.append_nil]; exact hFt
      · show F2 _ _ (_ ++ [])
        rw [List.append_nil]
        exact hFr.mono fun _ _ z => mono_kM _ _ _ _ hs' z
    · rintro i t x vs₁ nv₁ m₂ W₂ g₉ h₉ tk₉ e oe it oit E₁ hi hmem hx hs₉ ⟨vr, nr, vt, nt, rfl, hFt, hFr, hrl2, nm⟩ F₉
      have hlt : h₉.get? at_ = some (seqObj "list" vt.toArray nt) := F₉.at_ (.tail _ (.tail _ (.tail _ (.head _))))
      rw [list_inj (F₉.at_ (.tail _ (.tail _ hmem))) hlt] at hx
      have hai : bs[i]? = some bs[i] := List.getElem?_eq_getElem hi
      obtain ⟨ox, hox, hkx⟩ := hFt.get i x hx
      rw [maskF_get _ _ _ _ hai] at hox
      have gN₉ := hs₉ _ _ gN₈
      have hb₉ : ∀ b o, hb.get? b = some o → g₉ b = some o := fun b o z => hs₉ _ _ (hb₈ _ _ z)
      have nm₉ : NmC (updS (updS m₂ "i" (.int i t)) "elem" x) as_ at_ ar nul as.length bs.length tm tn := nm.other fun y hy => by
        rw [updS_ne _ _ (by rcases hy with rfl | rfl | rfl | rfl | rfl | rfl <;> decide), updS_ne _ _ (by rcases hy with rfl | rfl | rfl | rfl | rfl | rfl <;> decide)]
      have esnoc : as ++ bs.take (i + 1) = (as ++ bs.take i) ++ [bs[i]] := by rw [take_snoc hai, List.append_assoc]
      by_cases hseen : bs[i] ∈ as ++ bs.take i
      · rw [if_pos hseen] at hox
        cases hox
        cases hkx
        refine ex_if (c := true) F₉ ?t fun g₁₀ h₁₀ tk₁₀ hs₁₀ F₁₀ => ?_
        case t =>
          refine ev_test (mono_isV (.ref nul)) (F₉.loc (x := "elem") (v := .ref nul) rfl rfl (mono_isV _)) (F₉.loc (x := "NULL") (v := .ref nul) nm₉.nNul rfl (mono_isV _)) fun a b g' h' G' p q => ?_
          cases p; cases q
          exact (op_isRef (G'.sub _ _ gN₉) (G'.sub _ _ gN₉) (by decide)).weaken fun _ _ _ _ z => by rw [z]; simp [isV]
        simp only [if_true]
        refine wpAny_execs_cons (wpAny_Continue ?_)
        have emem : ∀ y, y ∈ as ++ bs.take (i + 1) ↔ y ∈ as ++ bs.take i := fun y => by
          rw [esnoc, List.mem_append, List.mem_singleton]
          exact ⟨fun z => z.elim id fun z => z ▸ hseen, .inl⟩
        have etell : tell2 as bs (i + 1) = tell2 as bs i := by
          show tell2 as bs i ++ _ = _
          rw [hai]; simp only [if_pos hseen, List.append_nil]
        refine ⟨_, _, g₁₀, h₁₀, tk₁₀, rfl, hs₁₀, F₁₀, vr, nr, vt, nt, rfl, ?_, ?_, ?_, nm₉⟩
        · rw [maskF_congr emem]; exact hFt
        · rw [etell]; exact hFr.mono fun _ _ z => mono_kM _ _ _ _ hs₁₀ z
        · rw [etell]; omega
      · rw [if_neg hseen] at hox
        cases hox
        obtain ⟨tx, rfl⟩ := hkx
        generalize hae : bs[i] = a at hai hseen F₉ nm₉ hx esnoc
        refine ex_if (c := false) F₉ ?t fun g₁₀ h₁₀ tk₁₀ hs₁₀ F₁₀ => ?_
        case t =>
          refine ev_test (mono_isI a) (F₉.loc (x := "elem") (v := .int a tx) rfl ⟨_, rfl⟩ (mono_isI _)) (F₉.loc (x := "NULL") (v := .ref nul) nm₉.nNul rfl (mono_isV _)) fun a b g' h' G' p q => ?_
          cases q
          exact op_isInt p
        simp only [Bool.false_eq_true, if_false]
        refine wpAny_execs_nil ?_
        -- cnt_t = 0
        refine ex_assign (P := isI 0) F₁₀ ev_int fun z g₁₁ h₁₁' h₁₁ tk₁₁ hs₁₁ pz F₁₁ => ?_
        obtain ⟨t0, rfl⟩ := pz
        have up₁₁ : ∀ b o, g₉ b = some o → g₁₁ b = some o := fun b o z => hs₁₁ _ _ (hs₁₀ _ _ z)
        refine wipe_loop (ls := "t") (cn := "cnt_t") (lim := "n") (W₁ := [(e, oe), (it, oit), (ar, _)]) (W₂ := [(as_, _)]) (l := at_) (nul := nul) (lo := maskF bs (as ++ bs.take i)) (i := i) (e := a) T (fun b o z => up₁₁ _ _ (hb₉ _ _ z)) hh (by show A.units + 3 < cLine; omega) F₁₁ nm₉.nT rfl
          (by rw [maskF_length]; exact nm₉.nN) rfl rfl nm₉.nNul (up₁₁ _ _ gN₉) hFt mask_unseen2 (by rw [maskF_length]; omega) (by rw [maskF_length]; omega) fun m₁₂ vt₁₂ n₁₂ g₁₂ h₁₂ tk₁₂ hs₁₂ hm₁₂ hc₁₂ hF₁₂ F₁₂ => ?_
        rw [maskF_length, wipeF_mask] at hF₁₂
        rw [count_mask hseen] at hc₁₂
        obtain ⟨tct, hct⟩ := hc₁₂
        have nm₁₂ : NmC m₁₂ as_ at_ ar nul as.length bs.length tm tn := nm₉.other fun y hy => by
          rw [hm₁₂ y (by rcases hy with rfl | rfl | rfl | rfl | rfl | rfl <;> decide) (by rcases hy with rfl | rfl | rfl | rfl | rfl | rfl <;> decide), updS_ne _ _ (by rcases hy with rfl | rfl | rfl | rfl | rfl | rfl <;> decide)]
        have hel₁₂ : m₁₂ "elem" = some (.int a tx) := by rw [hm₁₂ _ (by decide) (by decide)]; rfl
        have up₁₂ : ∀ b o, g₉ b = some o → g₁₂ b = some o := fun b o z => hs₁₂ _ _ (up₁₁ _ _ z)
        have etell : tell2 as bs (i + 1) = tell2 as bs i ++ [(0, (bs.count a : Int), a)] := by
          show tell2 as bs i ++ _ = _
          rw [hai]; simp only [if_neg hseen]
        have hb₁₂ : ∀ b o, hb.get? b = some o → h₁₂.get? b = some o := fun b o z => F₁₂.now _ _ (up₁₂ _ _ (hb₉ _ _ z))
        refine ex_assign (P := fun g h v => ∃ tz, isMis [.int 0 tz, .int (bs.count a : Nat) tct, .int a tx] g h v) F₁₂ ?d fun z g₁₄ h₁₄' h₁₄ tk₁₄ hs₁₄ pz F₁₄ => ?_
        case d =>
          refine ev_callC (P₁ := consP (isI 0) (consP (isV (.int (bs.count a : Nat) tct)) (consP (isV (.int a tx)) nilP))) (X.keeps hb₁₂) M.keep (nm_g T hb₁₂ T.gMis) (spl_cons (mono_isI _) ev_int (spl_cons (mono_isV _) (F₁₂.loc (x := "cnt_t") hct rfl (mono_isV _)) (spl_cons (mono_isV _) (F₁₂.loc (x := "elem") hel₁₂ rfl (mono_isV _)) spl_nil))) fun us g' h' G' p => ?_
          obtain ⟨_, _, rfl, ⟨tz, rfl⟩, _, _, rfl, p2, _, _, rfl, p3, p4⟩ := p
          cases p2; cases p3; cases p4
          exact (mis_call T Tm' (fun b o z => G'.heap _ _ (hb₁₂ _ _ z)) (by show A.depth + 1 + 1 < recursionLimit; omega)).weaken fun _ _ _ _ z => ⟨tz, z⟩
        obtain ⟨tz, xm, dxm, rfl, hxm⟩ := pz
        refine ex_meth1 (a := ar) (P := isV (.ref xm)) F₁₄ PySem.F.slot_list_append PySem.F.type_list_append (F₁₄.loc (x := "result") (v := .ref ar) nm₁₂.nRes rfl (mono_isV _)) (F₁₄.at_ (.tail _ (.tail _ (.head _)))) (F₁₄.loc (x := "diff") (v := .ref xm) rfl rfl (mono_isV _)) fun z g₁₅ h₁₅ tk₁₅ hs₁₅ pz F₁₅ ha₁₅ => ?_
        cases pz
        have hvrl := hFr.length
        refine cl_append ha₁₅ (by rw [hvrl, List.length_append]; omega) fun h₁₆ nr' hs₁₆ hg₁₆ => ?_
        have F₁₆ := Fm.change (W₁ := [(e, oe), (it, oit)]) (W₂ := [(at_, _), (as_, _)]) F₁₅ hs₁₆ hg₁₆
        refine wpAny_execs_nil ?_
        have up₁₅ : ∀ b o, g₉ b = some o → g₁₅ b = some o := fun b o z => hs₁₅ _ _ (hs₁₄ _ _ (up₁₂ _ _ z))
        refine ⟨_, _, g₁₅, h₁₆, tk₁₅, rfl, up₁₅, F₁₆, vr ++ [.ref xm], nr', vt₁₂, n₁₂, rfl, ?_, ?_, ?_, ?_⟩
        · rw [esnoc]; exact hF₁₂
        · rw [etell, ← List.append_assoc]
          exact (hFr.mono fun _ _ z => mono_kM _ _ _ _ up₁₅ z).snoc (R := fun v x => kM g₁₅ x v) ⟨xm, dxm, tz, tct, tx, rfl, hs₁₅ _ _ hxm⟩
        · rw [etell, List.length_append]; simp; omega
        · exact nm₁₂.other fun y hy => by
            rw [updS_ne _ _ (by rcases hy with rfl | rfl | rfl | rfl | rfl | rfl <;> decide)]
    · rintro m₂ W₂ g₉ h₉ tk₉ hs₉ ⟨vr, nr, vt, nt, rfl, hFt, hFr, hrl2, nm⟩ F₉
      have F₁₀ := F₉.freeze
      refine ex_return (P := isV (.ref ar)) F₁₀ (F₁₀.loc (x := "result") (v := .ref ar) nm.nRes rfl (mono_isV _)) fun z g₁₁ h₁₁ tk₁₁ hs₁₁ p F₁₁ => ?_
      cases p
      exact k _ g₁₁ h₁₁ tk₁₁ F₁₁.gr ⟨ar, vr, nr, rfl, hs₁₁ _ _ (upd_self _ _ _), hFr.mono fun _ _ z => mono_kM _ _ _ _ hs₁₁ (mono_kM _ _ _ _ F₉.freeze_sub z)⟩
end
end Mine
end

section
open PySem PySem.W PyProof.Rows
set_option autoImplicit false
set_option linter.unusedVariables false
set_option maxRecDepth 100000
namespace Mine

/-- a new IndexError, no traceback yet; its context -/
def Fresh (oe : Obj) (c : Value) : Prop := oe.cls = .type "IndexError" ∧ ∃ vs, oe.data = .fields vs ∧ vs[1]? = some .none ∧ vs[2]? = some c
def ExcAt (h : Heap) (e : Addr) (c : Value) : Prop := ∃ oe, h.get? e = some oe ∧ Fresh oe c
/-- nothing is handled, or an exception without a context -/
def CtxOk (A : Around) (h : Heap) : Prop := A.handled = none ∨ ∃ e1, A.handled = some (.ref e1) ∧ ∃ o1 vs1, h.get? e1 = some o1 ∧ o1.data = .fields vs1 ∧ vs1[2]? = some .none

section
variable {prog : Program} {w : World} {A : Around} {s : Shared} {E : Value → Shared → Prop}
theorem entry_unchain : entryFor table "proto.unchain" = some Builtin.«proto.unchain» := entryFor_of_tree (by kernel_rfl)
theorem plain_unchain : plainId "proto.unchain" = true := by decide +kernel

theorem raiseIx {α : Type} {msg : String} {Q : α → Shared → Prop} (hc : CtxOk A s.heap)
    (k : ∀ h' tk e c, (∀ b o, s.heap.get? b = some o → h'.get? b = some o) → s.heap.get? e = none → ExcAt h' e c → (A.handled = none → c = .none) → E (.ref e) { s with heap := h', toks := tk }) : wpAny (model prog w) A (raiseErrorWords "IndexError" msg : Sem α) Q E s := by
  rcases hc with hh | ⟨e1, hh, o1, vs1, he1, hd1, hv1⟩
  · refine wpAny_raiseErrorWords plainExc_IndexError hh fun h' tk e hN => ?_
    obtain ⟨ob, t, ho, hcl, hd⟩ := hN.there
    exact k h' tk e .none hN.keeps hN.new ⟨ob, ho, hcl, _, hd, rfl, rfl⟩ fun _ => rfl
  · have hp := plainExc_IndexError
    unfold raiseErrorWords
    refine wpAny_bind (wpAny_mkText (wpAny_bind ?_))
    unfold newExc newTuple
    refine wpAny_bind (wpAny_newObj_type ?_)
    refine wpAny_bind (m := firstArgMember _ _) (wpAny_of_eq (a := Value.none) (by simp only [firstArgMember, hp.first]; rfl) ?_)
    rw [hp.own]
    refine wpAny_newObj_type ?_
    unfold raiseNew
    refine wpAny_bind (wpAny_handled ?_)
    rw [hh]
    dsimp only
    have hlt : e1 < s.heap.objs.size := Heap.lt_size he1
    generalize hT : ({ cls := Value.type "tuple", data := Data.seq #[Value.str (Str.ofString msg) s.toks] } : Obj) = oT
    have hsz : (s.heap.push oT).objs.size = s.heap.objs.size + 1 := size_push ..
    rw [hsz]
    have hne : e1 ≠ s.heap.objs.size + 1 := Nat.ne_of_lt (Nat.lt_succ_of_lt hlt)
    rw [if_pos (by simpa using hne)]
    generalize hO : ({ cls := Value.type "IndexError", data := _ } : Obj) = oE
    have hE : ((s.heap.push oT).push oE).get? (s.heap.objs.size + 1) = some oE := by rw [← hsz]; exact Heap.get?_push_size _ (by rw [← hO]; rfl)
    have hk : ∀ b o, s.heap.get? b = some o → ((s.heap.push oT).push oE).get? b = some o := fun b o z => Heap.get?_push_of_some _ (Heap.get?_push_of_some _ z)
    refine wpAny_bind (wpAny_holding (wpAny_runValue (codeAny_builtin entry_unchain ?_)))
    unfold Builtin.«proto.unchain»
    dsimp only
    refine wpAny_bind (wpAny_field (hk _ _ he1) hd1 hv1 ?_)
    rw [if_pos (by decide)]
    refine wpAny_pure ?_
    dsimp only
    have hdE : oE.data = .fields #[.ref s.heap.objs.size, .none, .none, .none, .bool false, .none] := by rw [← hO]; rfl
    refine wpAny_bind ?_
    show wpAny _ _ (setField (.ref (s.heap.objs.size + 1)) 2 (.ref e1)) _ _ _
    refine wpAny_setField hE hdE (by simp) (wpAny_throw ?_)
    have hd' := Obj.data_mapFields hdE (·.setIfInBounds 2 (Value.ref e1))
    refine k _ _ _ (.ref e1) (fun b o z => ?_) (get_new1 _) ⟨_, Heap.get?_update_self _ hE (Obj.isFreed_of_fields hd'), (Obj.cls_mapFields ..).trans (by rw [← hO]), _, hd', by rfl, by rfl⟩ (fun q => by rw [hh] at q; cases q)
    rw [Heap.get?_update_ne _ _ _ _ (fun q => by rw [q, get_new1] at z; cases z)]
    exact hk _ _ z
end
end Mine
end

section
open PySem PySem.W PyProof.Rows
set_option autoImplicit false
set_option linter.unusedVariables false
set_option maxRecDepth 100000
namespace Mine
open PySem.SeqAt

section
variable {prog : Program} {w : World} {A : Around} {s : Shared} {E : Value → Shared → Prop}

theorem getIx {l : Addr} {vs : List Value} {n : Nat} {k : Int} {t : Tok} {Q : Value → Shared → Prop} (ho : s.heap.get? l = some (seqObj "list" vs.toArray n)) (h0 : 0 ≤ k) (hn : (vs.length : Int) ≤ k) (hz : k < 1000) (hc : CtxOk A s.heap)
    (kE : ∀ h' tk e c, (∀ b o, s.heap.get? b = some o → h'.get? b = some o) → s.heap.get? e = none → ExcAt h' e c → (A.handled = none → c = .none) → E (.ref e) { s with heap := h', toks := tk }) :
    wpAny (model prog w) A (getItem (.ref l) (.int k t)) Q E s := by
  have hl : s.heap.IsList l vs.toArray := ⟨_, ho, rfl, n, rfl⟩
  unfold getItem
  try with_reducible refine wpAny_holding ?_
  first | refine wpAny_bind (wpAny_pure ?_) | skip
  refine wpAny_bind (wpAny_sequenceKey hl.typeIs (by decide) ?_)
  refine wpAny_bind (wpAny_callSpecial?_slot (name := Str.ofString "__getitem__") hl.typeIs slot_list_getitem
    (wpAny_call_entry slot_list_getitem hl.typeIs entry_list_getitem ?_ (args_list_getitem _ _)))
  show wpAny _ _ (Builtin.List.listSubscript? (.int k t) >>= _) _ _ s
  refine wpAny_bind (wpAny_listSubscript_int (fitsIndex_of h0 (by omega)) ?_)
  obtain ⟨j, rfl⟩ := Int.eq_ofNat_of_zero_le h0
  have hx' : vs.toArray[j]? = none := by simp; omega
  show wpAny _ _ ((seqItemAt l j >>= fun r => pure (r.map (j, ·))) >>= _) _ _ s
  refine wpAny_bind (wpAny_bind (wpAny_seqItemAt ho rfl (wpAny_pure ?_)))
  rw [hx']
  dsimp only [Option.map]
  exact wpAny_bind (wpAny_rule (wpAny_bind (raiseIx (A := A.in1) hc kE)))
end
end Mine
end

section
open PySem PySem.W PyProof.Rows
set_option autoImplicit false
set_option linter.unusedVariables false
set_option maxRecDepth 100000
namespace Mine

namespace Fm
variable {g₀ g g' : Map} {h₀ h h' : Heap} {env : Env} {m cm : Str → Option Value} {W W' : List (Addr × Obj)}
/-- its locals (slots alone) and some of its own objects are changed at once -/
theorem multi (F : Fm g₀ h₀ env m cm W g h) (hW : W'.map (·.1) = W.map (·.1)) (keep : ∀ b o, b ≠ env.locals → b ∉ W.map (·.1) → h.get? b = some o → h'.get? b = some o)
    (hn : h'.Ns env.locals m) (ho : ∀ p ∈ W', h'.get? p.1 = some p.2) : Fm g₀ h₀ env m cm W' g h' where
  gr := F.gr.butAll (wr := env.locals :: W.map (·.1)) (fun b o hb e => keep b o (fun q => hb (q ▸ .head _)) (fun q => hb (.tail _ q)) e)
    (fun b hb => by
      rcases List.mem_cons.mp hb with rfl | hb
      · exact F.nl
      · obtain ⟨p, hp, rfl⟩ := List.mem_map.mp hb
        exact (F.led p hp).2.2.2.2)
    (fun b hb => by
      rcases List.mem_cons.mp hb with rfl | hb
      · exact F.gl
      · obtain ⟨p, hp, rfl⟩ := List.mem_map.mp hb
        exact (F.led p hp).2.1)
  ns := hn
  nl := F.nl
  gl := F.gl
  cells := fun n c e => by
    obtain ⟨⟨o, hc, hd⟩, h2, h3, h4⟩ := F.cells n c e
    exact ⟨⟨o, keep _ _ h3 (fun q => by
      obtain ⟨p, hp, q⟩ := List.mem_map.mp q
      exact (F.led p hp).2.2.2.1 n c e q.symm) hc, hd⟩, h2, h3, h4⟩
  apart := F.apart
  led := fun p hp => by
    have : p.1 ∈ W.map (·.1) := hW ▸ List.mem_map_of_mem hp
    obtain ⟨q, hq, e⟩ := List.mem_map.mp this
    obtain ⟨l1, l2, l3, l4, l5⟩ := F.led q hq
    rw [e] at l2 l3 l4 l5
    exact ⟨ho p hp, l2, l3, l4, l5⟩
  nd := by
    have h1 : (W.map (·.1)).Pairwise (· ≠ ·) := List.pairwise_map.mpr F.nd
    rw [← hW] at h1
    exact List.pairwise_map.mp h1
theorem perm (F : Fm g₀ h₀ env m cm W g h) (hp : W.Perm W') : Fm g₀ h₀ env m cm W' g h where
  gr := F.gr
  ns := F.ns
  nl := F.nl
  gl := F.gl
  cells := F.cells
  apart := F.apart
  led := fun p h => F.led p (hp.mem_iff.mpr h)
  nd := F.nd.perm hp fun q => Ne.symm q
theorem ne {a b : Addr} {oa ob : Obj} (F : Fm g₀ h₀ env m cm ((a, oa) :: (b, ob) :: W) g h) : a ≠ b := (List.pairwise_cons.mp F.nd).1 (b, ob) (.head _)
end Fm

/-- an exception on its way or caught: the entry of its traceback says where it is in flight -/
structure Fly (T : Addr) (oe oT : Obj) (fl c : Value) : Prop where
  cls : oe.cls = .type "IndexError"
  exc : ∃ vs, oe.data = .fields vs ∧ vs[1]? = some (.ref T) ∧ vs[2]? = some c
  tb : ∃ ts, oT.data = .fields ts ∧ ts[3]? = some fl

/-- two frames -/
structure Fr2 (A : Around) (env envL : Env) (M : Addr) : Prop where
  fr : A.frames = some [env, envL]
  f : env.frame = some env.locals
  fM : envL.frame = some M
  k : env.scope.kind ≠ .module
  kM : envL.scope.kind ≠ .module
theorem Fr2.mark {A : Around} {env envL : Env} {M : Addr} (h : Fr2 A env envL M) (x : Option Value) : Fr2 (A.mark x) env envL M := ⟨h.fr, h.f, h.fM, h.k, h.kM⟩

def DictLike (o : Obj) : Prop := ∀ vs, o.data ≠ .fields vs

section
variable {prog : Program} {w : World} {A : Around} {g₀ g : Map} {h₀ : Heap} {env envL : Env} {m cm : Str → Option Value} {W : List (Addr × Obj)} {s : Shared} {E : Value → Shared → Prop} {M e T : Addr} {oe oT oM : Obj} {c fl : Value}

theorem note_first {Q : Unit → Shared → Prop} (R : Fr2 A env envL M) (F : Fm g₀ h₀ env m cm ((e, oe) :: (M, oM) :: W) g s.heap) (hM : DictLike oM) (hx : Fresh oe c)
    (k : ∀ h' T oe' oT sl, Fm g₀ h₀ env m cm ((e, oe') :: (T, oT) :: (M, { oM with slots := sl }) :: W) g h' → Fly T oe' oT (rawInt env.locals) c → Q () { s with heap := h' }) :
    wpAny (model prog w) A (noteFrame (.ref e) env) Q E s := by
  obtain ⟨hcls, vs, hd, h1, h2⟩ := hx
  have he : s.heap.get? e = some oe := F.at_ (.head _)
  have hoM : s.heap.get? M = some oM := F.at_ (.tail _ (.head _))
  obtain ⟨oL, es, ep, hL, hLd, hLr⟩ := F.ns
  have hLf : DictLike oL := fun vs q => by rw [hLd] at q; cases q
  have heM : e ≠ M := F.ne
  have heL : e ≠ env.locals := (F.led (e, oe) (.head _)).2.2.1
  have hML : M ≠ env.locals := (F.led (M, oM) (.tail _ (.head _))).2.2.1
  have hsz : 1 < vs.size := (Array.getElem?_eq_some_iff.mp h1).1
  have hFF : s.heap.FunFrames (hideAll s.heap [env.locals, M]) [env, envL] :=
    ⟨R.k, ⟨_, oL, R.f, hideAll_none _ (by simp), hL, hLf⟩, R.kM, ⟨_, oM, R.fM, hideAll_none _ (by simp), hoM, hM⟩, trivial⟩
  have efr : ([env, envL].filterMap (·.frame)) = [env.locals, M] := by simp [R.f, R.fM]
  unfold noteFrame
  simp only [R.f]
  refine wpAny_bind (wpAny_field he hd h1 ?_)
  rw [if_neg (by decide)]
  refine wpAny_bind (wpAny_frameOf_fun R.fr hFF R.f fun h₁ hs₁ => ?_)
  rw [efr] at hs₁
  refine wpAny_bind (wpAny_entryPlaceOf fun pl hpl => ?_)
  unfold EntryCells.newEntry newFields
  refine wpAny_bind (wpAny_newObj_type ?_ (hpl.sizeOk5 _ _ _ _ _))
  generalize hO : ({ cls := .type "traceback", dict := none, data := .fields ([Value.none, .ref env.locals, .none, rawInt env.locals, .none] ++ (if pl.isEmpty then List.replicate 6 Value.none else pl)).toArray } : Obj) = oTB
  have he₁ : h₁.get? e = some oe := (hs₁.2.1 e (by simp [heM, heL])).trans he
  have he₂ := Heap.get?_push_of_some (h := h₁) oTB he₁
  refine wpAny_setField he₂ hd hsz ?_
  have hTe : h₁.objs.size ≠ e := Nat.ne_of_gt (Heap.lt_size he₁)
  have hd₃ := Obj.data_mapFields hd (·.setIfInBounds 1 (Value.ref h₁.objs.size))
  have he₃ := Heap.get?_update_self (Obj.mapFields (·.setIfInBounds 1 (Value.ref h₁.objs.size))) he₂ (Obj.isFreed_of_fields hd₃)
  have hT₂ : (h₁.push oTB).get? h₁.objs.size = some oTB := Heap.get?_push_size h₁ (by rw [← hO]; rfl)
  have hTn : s.heap.get? h₁.objs.size = none := Heap.get?_none_of_le (by rw [hs₁.1]; exact Nat.le_refl _)
  have keep : ∀ b o, b ≠ e → h₁.get? b = some o → ((h₁.push oTB).update e (Obj.mapFields (·.setIfInBounds 1 (Value.ref h₁.objs.size)))).get? b = some o := fun b o hbe hb => by
    rw [Heap.get?_update_other _ _ (Ne.symm hbe)]
    exact Heap.get?_push_of_some _ hb
  obtain ⟨sL, hL₁⟩ := hs₁.2.2 _ _ hL
  obtain ⟨sM, hM₁⟩ := hs₁.2.2 _ _ hoM
  obtain ⟨n1, n2, n3, n4, n5⟩ := F.fresh hTn
  have F₂ := F.multi (W' := (e, Obj.mapFields (·.setIfInBounds 1 (Value.ref h₁.objs.size)) oe) :: (M, { oM with slots := sM }) :: W) (h' := (h₁.push oTB).update e (Obj.mapFields (·.setIfInBounds 1 (Value.ref h₁.objs.size)))) rfl
    (fun b o h1 h2 hb => keep b o (fun q => h2 (q ▸ .head _)) (by rw [hs₁.2.1 b (by
      intro q
      rcases List.mem_cons.mp q with q | q
      · exact h1 q
      · exact h2 (List.mem_singleton.mp q ▸ .tail _ (.head _)))]; exact hb))
    ⟨_, es, ep, keep _ _ (Ne.symm heL) hL₁, hLd, hLr⟩
    (fun p hp => by
      rcases List.mem_cons.mp hp with rfl | hp
      · exact he₃
      rcases List.mem_cons.mp hp with rfl | hp
      · exact keep _ _ (Ne.symm heM) hM₁
      · have hpe : p.1 ≠ e := Ne.symm ((List.pairwise_cons.mp F.nd).1 p (.tail _ hp))
        have hpM : p.1 ≠ M := Ne.symm ((List.pairwise_cons.mp (List.pairwise_cons.mp F.nd).2).1 p hp)
        refine keep _ _ hpe ?_
        rw [hs₁.2.1 _ (by simp [hpM, (F.led p (.tail _ (.tail _ hp))).2.2.1])]
        exact F.at_ (.tail _ (.tail _ hp)))
  have F₃ := F₂.addNow (a := h₁.objs.size) (o := oTB) (by rw [Heap.get?_update_other _ _ (Ne.symm hTe)]; exact hT₂) n1 n2 n3 (fun p hp => by
      rcases List.mem_cons.mp hp with rfl | hp
      · exact Ne.symm hTe
      rcases List.mem_cons.mp hp with rfl | hp
      · exact n4 (M, oM) (.tail _ (.head _))
      · exact n4 p (.tail _ (.tail _ hp))) n5
  refine k _ h₁.objs.size _ oTB sM (F₃.perm (.swap ..)) ⟨?_, ⟨_, hd₃, by simp [hsz], ?_⟩, ⟨_, by rw [← hO], ?_⟩⟩
  · exact (Obj.cls_mapFields ..).trans hcls
  · rw [Array.getElem?_setIfInBounds_ne (by decide)]; exact h2
  · first | (simp; done) | (rcases hpl with rfl | ⟨_, _, _, _, _, _, _, rfl⟩ <;> simp)

theorem note_again {Q : Unit → Shared → Prop} (R : Fr2 A env envL M) (F : Fm g₀ h₀ env m cm ((e, oe) :: (T, oT) :: W) g s.heap) (hx : Fly T oe oT (rawInt env.locals) c) (h : Q () s) : wpAny (model prog w) A (noteFrame (.ref e) env) Q E s := by
  obtain ⟨vs, hd, h1, h2⟩ := hx.exc
  obtain ⟨ts, hdt, h3⟩ := hx.tb
  exact wpAny_noteFrame_inFlight R.f (F.at_ (.head _)) hd h1 (F.at_ (.tail _ (.head _))) hdt h3 h

theorem set_flight {Q : Unit → Shared → Prop} {fr : Option Addr} (F : Fm g₀ h₀ env m cm ((e, oe) :: (T, oT) :: W) g s.heap) (hx : Fly T oe oT fl c)
    (k : ∀ h' oT', Fm g₀ h₀ env m cm ((e, oe) :: (T, oT') :: W) g h' → Fly T oe oT' (fr.elim .none fun f => rawInt f) c → Q () { s with heap := h' }) : wpAny (model prog w) A (setFlight (.ref e) fr) Q E s := by
  obtain ⟨vs, hd, h1, h2⟩ := hx.exc
  obtain ⟨ts, hdt, h3⟩ := hx.tb
  have hsz : 3 < ts.size := (Array.getElem?_eq_some_iff.mp h3).1
  have hT : s.heap.get? T = some oT := F.at_ (.tail _ (.head _))
  unfold setFlight
  refine wpAny_bind (wpAny_field (F.at_ (.head _)) hd h1 ?_)
  rw [if_pos (show (Value.ref T != Value.none) = true from by simp)]
  have hd' := Obj.data_mapFields hdt (·.setIfInBounds 3 (fr.elim Value.none fun f => rawInt f))
  refine wpAny_setField hT hdt hsz (k _ _ (Fm.change (W₁ := [(e, oe)]) F (Heap.SameBut.update ..) (Heap.get?_update_self _ hT (Obj.isFreed_of_fields hd'))) ⟨hx.cls, hx.exc, _, hd', by simp [hsz]⟩)

theorem came {c : Value} (R : Fr2 A env envL M) (F : Fm g₀ h₀ env m cm ((e, oe) :: (T, oT) :: W) g s.heap) (hx : Fly T oe oT fl c)
    (k : ∀ h' oT', Fm g₀ h₀ env m cm ((e, oe) :: (T, oT') :: W) g h' → Fly T oe oT' (rawInt env.locals) c → E (.ref e) { s with heap := h' }) : cameBackBy (model prog w) A env E (.ref e) s := by
  obtain ⟨vs, hd, h1, h2⟩ := hx.exc
  unfold cameBackBy
  refine wpAny_bind (wpAny_field (F.at_ (.head _)) hd h1 ?_)
  rw [if_neg (show ¬ ((Value.ref T == Value.none) = true) from by simp)]
  refine set_flight F hx fun h' oT' F' hx' => k h' oT' F' ?_
  rw [R.f] at hx'
  exact hx'
/-- a new exception leaves a loop of the frame -/
theorem came_first (R : Fr2 A env envL M) (F : Fm g₀ h₀ env m cm ((e, oe) :: (M, oM) :: W) g s.heap) (hM : DictLike oM) (hx : Fresh oe c)
    (k : ∀ h' T oe' oT sl, Fm g₀ h₀ env m cm ((e, oe') :: (T, oT) :: (M, { oM with slots := sl }) :: W) g h' → Fly T oe' oT (rawInt env.locals) c → E (.ref e) { s with heap := h' }) :
    notedBy (model prog w) A env (cameBackBy (model prog w) A env E) (.ref e) s :=
  note_first R F hM hx fun h' T oe' oT sl F' hx' => came (s := { s with heap := h' }) R F' hx' fun h'' oT' F'' hx'' => k h'' T oe' oT' sl F'' hx''
/-- one in flight leaves a block of the frame -/
theorem came_again {A' : Around} (R : Fr2 A env envL M) (R' : Fr2 A' env envL M) (F : Fm g₀ h₀ env m cm ((e, oe) :: (T, oT) :: W) g s.heap) (hx : Fly T oe oT (rawInt env.locals) c)
    (k : ∀ h' oT', Fm g₀ h₀ env m cm ((e, oe) :: (T, oT') :: W) g h' → Fly T oe oT' (rawInt env.locals) c → E (.ref e) { s with heap := h' }) :
    notedBy (model prog w) A' env (cameBackBy (model prog w) A env E) (.ref e) s :=
  note_again R' F hx (came R F hx k)
end
end Mine
end

section
open PySem PySem.W PyProof.Rows
set_option autoImplicit false
set_option linter.unusedVariables false
set_option maxRecDepth 100000
namespace Mine

section
variable {prog : Program} {w : World} {A : Around} {g₀ g : Map} {h₀ : Heap} {env envL : Env} {m cm : Str → Option Value} {W : List (Addr × Obj)} {s : Shared} {E : Value → Shared → Prop} {M e T : Addr} {oe oT oM : Obj} {c fl : Value} {Q : Flow → Shared → Prop} {rest : List Stmt}

/-- an item that is not there -/
theorem sub_raise {value slice : Expr} {pos : Pos} {ns : List Int} {k : Int} {Q : Value → Shared → Prop} (F : Fm g₀ h₀ env m cm ((M, oM) :: W) g s.heap) (hl : Ev prog w A g s.heap (eval value env) (IL ns)) (hi : Ev prog w A g s.heap (eval slice env) (isI k))
    (h0 : 0 ≤ k) (hn : (ns.length : Int) ≤ k) (hz : k < 1000) (hc : ∀ g h, Fm g₀ h₀ env m cm ((M, oM) :: W) g h → CtxOk A h)
    (kE : ∀ e oe c g' h' tk, (∀ b o, g b = some o → g' b = some o) → Fm g₀ h₀ env m cm ((e, oe) :: (M, oM) :: W) g' h' → Fresh oe c → (A.handled = none → c = .none) → E (.ref e) { s with heap := h', toks := tk })
    (hs : ∀ a u, subscripted slice false (.ref a) (.int k u) = operate [.ref a, .int k u] (getItem (.ref a) (.int k u)) := by intro _ _; with_unfolding_all rfl) :
    wpAny (model prog w) A (eval (.Subscript value slice pos) env) Q E s :=
  Subscript_ (hl s g _ _ (Gr.refl F.now) fun o g₂ h₂ tk₂ G₂ p₁ => hi _ g₂ _ _ G₂ fun i g₃ h₃ tk₃ G₃ p₂ => by
    obtain ⟨u, rfl⟩ := p₂
    obtain ⟨a, vs, n, rfl, ha, hI⟩ := mono_IL ns _ _ _ _ _ G₃ p₁
    have F₃ := F.grow (G₂.trans G₃)
    have ha' := F₃.now _ _ ha
    refine tail_any (Heap.IsList.typeIs ⟨_, ha', rfl, n, rfl⟩) slot_list_getitem.lookup (getIx (s := { s with heap := h₃, toks := tk₃ }) ha' h0 (by rw [hI.length]; exact hn) hz (hc _ _ F₃) fun h' tk e c hk hn' hx hc' => ?_) (hs a u)
    obtain ⟨oe, hoe, hf⟩ := hx
    exact kE e oe c g₃ h' tk (G₂.trans G₃).sub (F₃.add (Gr.of_heap F₃.now hk) hn' (g_new F₃.now hn') hoe) hf hc')

theorem ex_whileR {test : Expr} {body : List Stmt} {pos : Pos} (I : Nat → Shared → Prop)
    (turn : ∀ n s', I n s' → wpAny (model prog w) A (isTrue test env (eval test env)) (fun b s₂ => if b = true then wpAny (model prog w) A (execs body env) (loopK I n Q (fun s₃ => wpAny (model prog w) A (execs rest env) Q E s₃)) (notedBy (model prog w) A env (cameBackBy (model prog w) A env E)) s₂
      else wpAny (model prog w) A (execs rest env) Q E s₂) (notedBy (model prog w) A env (cameBackBy (model prog w) A env E)) s') (n : Nat) (h : I n s) : wpAny (model prog w) A (execs (.While test body [] pos :: rest) env) Q E s :=
  ex_cons (wpAny_While (codeAny_whileLoop I (fun n s' hI => wpAny_mono (turn n s' hI) (fun b s₂ hb => by
    cases b with
    | true => exact wpAny_mono hb (fun f s₃ hf => by cases f <;> exact hf) fun _ _ x => x
    | false => exact wpAny_execs_nil hb) fun _ _ x => x) n h))

/-- what is known where an exception comes out: the names, the lists of its own -/
def Rz (s : Shared) (g₀ : Map) (h₀ : Heap) (env : Env) (cm : Str → Option Value) (M : Addr) (oM : Obj) (J : (Str → Option Value) → List (Addr × Obj) → Map → Prop) (x : Value) (s₁ : Shared) : Prop :=
  ∃ e m W g h tk sl, x = .ref e ∧ s₁ = { s with heap := h, toks := tk } ∧ J m W g ∧
    ((∃ oe c, Fm g₀ h₀ env m cm ((e, oe) :: (M, { oM with slots := sl }) :: W) g h ∧ Fresh oe c) ∨ (∃ oe T oT c, Fm g₀ h₀ env m cm ((e, oe) :: (T, oT) :: (M, { oM with slots := sl }) :: W) g h ∧ Fly T oe oT (rawInt env.locals) c))

/-- try: .. except IndexError: .. -/
theorem ex_tryIx {hb : Heap} {mg mb : Str → Option Value} {body : List Stmt} {np hp pos : Pos} {b₀ : Stmt} {suite : List Stmt} (R : Fr2 A env envL M) (hM : DictLike oM) (T : Tp hb mg mb) (hbase : ∀ b o, hb.get? b = some o → h₀.get? b = some o)
    (J : (Str → Option Value) → List (Addr × Obj) → Map → Prop) (mJ : ∀ m W g g', (∀ b o, g b = some o → g' b = some o) → J m W g → J m W g')
    (k : ∀ E', (∀ x s₁, Rz s g₀ h₀ env cm M oM J x s₁ → E' x s₁) → wpAny (model prog w) A (execs body env) (thenK prog w A env [] (thenK prog w A env rest Q E) E) E' s)
    (kh : ∀ e oe T oT sl m W g h tk E', J m W g → Fm g₀ h₀ env m cm ((e, oe) :: (T, oT) :: (M, { oM with slots := sl }) :: W) g h →
      wpAny (model prog w) (A.mark (some (.ref e))) (execs (b₀ :: suite) env) (thenK prog w A env rest Q E) E' { s with heap := h, toks := tk })
    (hk : env.scope.kind = .function := by rfl) (hl : env.kindOf "IndexError" = some .globalImplicit := by rfl) (eg : env.globals = mainGlobals := by rfl) (eb : env.builtins = builtinsNs := by rfl) :
    wpAny (model prog w) A (execs (.Try body [.ExceptHandler (some (.Name "IndexError" np)) none (b₀ :: suite) hp] [] [] pos :: rest) env) Q E s := by
  refine ex_cons (wpAny_Try_except (wpAny_mono (k _ fun x s₁ hx => ?_) (fun f s' hf => by cases f <;> exact hf) fun _ _ x => x))
  obtain ⟨e, m, W, g, h, tk, sl, rfl, rfl, hJ, hx⟩ := hx
  have land : ∀ (h₁ : Heap) oe T oT c sl', Fm g₀ h₀ env m cm ((e, oe) :: (T, oT) :: (M, { oM with slots := sl' }) :: W) g h₁ → Fly T oe oT (rawInt env.locals) c →
      wpAny (model prog w) A (setFlight (.ref e) none) (fun _ s₃ => wpAny (model prog w) A (handleBy (.ref e) env [.ExceptHandler (some (.Name "IndexError" np)) none (b₀ :: suite) hp]) (thenK prog w A env rest Q E) E s₃) E { s with heap := h₁, toks := tk } := by
    intro h₁ oe T' oT c sl' F hx
    refine set_flight (s := { s with heap := h₁, toks := tk }) F hx fun h₂ oT' F₂ hx₂ => ?_
    have hbs : ∀ b o, hb.get? b = some o → h₂.get? b = some o := fun b o q => F₂.gr.heap _ _ (hbase _ _ q)
    refine wpAny_handleBy_builtin (X := "IndexError") (T := "IndexError") (b := true) (isSubtype_of_subB (by decide +kernel)) (isSubtype_of_subB (by decide +kernel)) (isSubtype_of_subB (by decide +kernel)) ?_
    refine nm_b (prog := prog) (w := w) (A := A.mark (some (.ref e))) (g := g) (h := h₂) (env := env) T hbs T.index hk hl eg eb (by decide) _ g _ _ (Gr.refl F₂.now) fun v g₃ h₃ tk₃ G₃ p => ?_
    have F₃ := F₂.grow G₃
    refine ⟨p, ⟨_, F₃.at_ (.head _), hx₂.cls⟩, ?_⟩
    simp only [if_true]
    refine set_flight (s := { s with heap := h₃, toks := tk₃ }) F₃ hx₂ fun h₄ oT₄ F₄ hx₄ => ?_
    exact kh e oe T' oT₄ sl' m W g₃ h₄ tk₃ _ (mJ _ _ _ _ G₃.sub hJ) F₄
  rcases hx with ⟨oe, c, F, hf⟩ | ⟨oe, T', oT, c, F, hf⟩
  · exact note_first (s := { s with heap := h, toks := tk }) R F hM hf fun h' T' oe' oT sl' F' hx' => land _ oe' T' oT c sl' F' hx'
  · exact note_again (s := { s with heap := h, toks := tk }) R F hf (land _ oe T' oT c sl F hf)
end
end Mine
end

section
open PySem PySem.W PyProof.Rows
set_option autoImplicit false
set_option linter.unusedVariables false
set_option maxRecDepth 100000
namespace Mine

section
variable {prog : Program} {w : World} {A : Around} {g₀ g : Map} {h₀ : Heap} {env envL : Env} {m cm : Str → Option Value} {W : List (Addr × Obj)} {s : Shared} {E : Value → Shared → Prop} {M : Addr} {oM : Obj} {Q : Flow → Shared → Prop} {rest : List Stmt}

/-- try: .. finally: .., where the last block raises whenever the first does -/
theorem ex_tryFin {body : List Stmt} {f₀ : Stmt} {fs : List Stmt} {pos : Pos} (R : Fr2 A env envL M) (N : Shared → Prop) (J : (Str → Option Value) → List (Addr × Obj) → Map → Prop)
    (kb : ∀ E', (∀ e oe T oT sl m W g h tk, J m W g → Fm g₀ h₀ env m cm ((e, oe) :: (T, oT) :: (M, { oM with slots := sl }) :: W) g h → Fly T oe oT (rawInt env.locals) .none → E' (.ref e) { s with heap := h, toks := tk }) →
      wpAny (model prog w) A (execs body env) (fun f s₁ => f = .next ∧ N s₁) E' s)
    (kn : ∀ s₁, N s₁ → wpAny (model prog w) A (execs (f₀ :: fs) env) (thenK prog w A env rest Q E) (notedBy (model prog w) A env (cameBackBy (model prog w) A env E)) s₁)
    (kx : ∀ e oe T oT sl m W g h tk Q', J m W g → Fm g₀ h₀ env m cm ((e, oe) :: (T, oT) :: (M, { oM with slots := sl }) :: W) g h → Fly T oe oT .none .none →
      wpAny (model prog w) (A.mark (some (.ref e))) (execs (f₀ :: fs) env) Q' (notedBy (model prog w) (A.mark (some (.ref e))) env (cameBackBy (model prog w) A env E)) { s with heap := h, toks := tk }) :
    wpAny (model prog w) A (execs (.Try body [] [] (f₀ :: fs) pos :: rest) env) Q E s := by
  refine ex_cons (wpAny_Try_finally (wpAny_mono (kb _ ?_) (fun f s₁ hf => ?_) fun _ _ x => x))
  · intro e oe T oT sl m W g h tk hJ F hx
    refine note_again (s := { s with heap := h, toks := tk }) R F hx ⟨ref_ne_byPass _, ?_⟩
    refine note_again (s := { s with heap := h, toks := tk }) R F hx ?_
    exact set_flight (s := { s with heap := h, toks := tk }) F hx fun h' oT' F' hx' => kx e oe T oT' sl m W g h' tk _ hJ F' hx'
  · obtain ⟨rfl, hN⟩ := hf
    refine wpAny_execs_nil (wpAny_mono (kn s₁ hN) (fun f s₂ hf => by cases f <;> exact hf) fun _ _ x => x)

/-- while lst[y] == z: y += 1 -/
theorem eq_loop {lst y z : Str} {p1 p2 p3 p4 p5 p6 p7 p8 p9 : Pos} {c1 : Nat} {as : List Int} {vl vz vj : Value} {j : Nat} {av : Int} (R : Fr2 A env envL M) (F : Fm g₀ h₀ env m cm ((M, oM) :: W) g s.heap) (hM : DictLike oM)
    (ml : m lst = some vl) (hl : IL as g s.heap vl) (mz : m z = some vz) (hz : isI av g s.heap vz) (mj : m y = some vj) (hj : isI (j : Nat) g s.heap vj) (jle : j ≤ as.length) (hlen : as.length < 100)
    (nl : lst ≠ y) (nz : z ≠ y) (hc : ∀ m g h, Fm g₀ h₀ env m cm ((M, oM) :: W) g h → CtxOk A h)
    (done : ∀ (j' : Nat) x vj' m' g' h' tk, j ≤ j' → as[j']? = some x → x ≠ av → (∀ k, j ≤ k → k < j' → as[k]? = some av) → m' y = some vj' → isI (j' : Nat) g' h' vj' → (∀ x, x ≠ y → m' x = m x) → (∀ b o, g b = some o → g' b = some o) →
      Fm g₀ h₀ env m' cm ((M, oM) :: W) g' h' → wpAny (model prog w) A (execs rest env) Q E { s with heap := h', toks := tk })
    (out : ∀ e T oe oT c sl vj' m' g' h' tk, (∀ k, j ≤ k → k < as.length → as[k]? = some av) → m' y = some vj' → isI (as.length : Nat) g' h' vj' → (∀ x, x ≠ y → m' x = m x) → (∀ b o, g b = some o → g' b = some o) →
      Fm g₀ h₀ env m' cm ((e, oe) :: (T, oT) :: (M, { oM with slots := sl }) :: W) g' h' → Fly T oe oT (rawInt env.locals) c → (A.handled = none → c = .none) → E (.ref e) { s with heap := h', toks := tk })
    (hk : env.scope.kind = .function := by rfl) (kl : env.kindOf lst = some .local := by rfl) (ky : env.kindOf y = some .local := by rfl) (kz : env.kindOf z = some .local := by rfl)
    (dl : (lst == ("__debug__" : Str)) = false := by decide) (dy : (y == ("__debug__" : Str)) = false := by decide) (dz : (z == ("__debug__" : Str)) = false := by decide) :
    wpAny (model prog w) A (execs (.While (.Compare (.Subscript (.Name lst p1) (.Name y p2) p3) [.Eq] [.Name z p4] p5) [.AugAssign (.Name y p6) .Add (.Constant (.int 1) c1 p7) p8] [] p9 :: rest) env) Q E s := by
  refine ex_whileR (fun n s' => ∃ j' : Nat, ∃ vj' m' g' h' tk', s' = { s with heap := h', toks := tk' } ∧ n = as.length + 1 - j' ∧ j ≤ j' ∧ j' ≤ as.length ∧ (∀ k, j ≤ k → k < j' → as[k]? = some av) ∧ m' y = some vj' ∧ (∃ t, vj' = .int (j' : Nat) t) ∧
      (∀ x, x ≠ y → m' x = m x) ∧ (∀ b o, g b = some o → g' b = some o) ∧ Fm g₀ h₀ env m' cm ((M, oM) :: W) g' h') ?_ (as.length + 1 - j)
    ⟨j, vj, m, g, s.heap, s.toks, rfl, rfl, Nat.le_refl _, jle, fun k h1 h2 => by omega, mj, hj, fun _ _ => rfl, fun _ _ e => e, F⟩
  rintro n s' ⟨j', vj', m', g', h', tk', rfl, rfl, h1, h2, hall, my, hy, hm, hsub, F'⟩
  obtain ⟨al, vs, nn, rfl, hal, hI⟩ := hl
  have el (p : Pos) : Ev prog w A g' h' (eval (.Name lst p) env) (IL as) := F'.loc (x := lst) (pos := p) (v := .ref al) ((hm _ nl).trans ml) (P := IL as) ⟨al, vs, nn, rfl, hsub _ _ hal, hI⟩ (mono_IL as) hk kl dl
  have ey (p : Pos) : Ev prog w A g' h' (eval (.Name y p) env) (isI (j' : Nat)) := F'.loc (x := y) (pos := p) my (P := isI (j' : Nat)) hy (mono_isI _) hk ky dy
  by_cases hlt : j' < as.length
  · have hx : as[j']? = some as[j'] := List.getElem?_eq_getElem hlt
    refine Ev.go (P := isB (as[j'] == av)) (ev_test (mono_isI _) (ev_item (el _) (ey _) (by omega) (by omega) (by simpa using hx)) (F'.loc (x := z) (v := vz) ((hm _ nz).trans mz) (P := isI av) hz (mono_isI _) hk kz dz) fun _ _ _ _ _ p q => op_eq p q) F'.now fun b g₂ h₂ tk₂ G₂ pb => ?_
    cases pb
    have F₂ := F'.grow G₂
    by_cases hq : as[j'] = av
    · have hb : (as[j'] == av) = true := by simpa using hq
      rw [hb]
      simp only [if_true]
      refine ex_aug (x := y) F₂ my (i := (j' : Nat)) (j := 1) hy ev_int (fun v' g₃ h₃ tk₃ hs₃ pv F₃ => ?_) hk ky
      refine wpAny_execs_nil ⟨as.length + 1 - (j' + 1), by omega, j' + 1, v', _, g₃, h₃, tk₃, rfl, rfl, by omega, hlt, fun k k1 k2 => ?_, updS_self _ _ _, ?_, fun x hx => ?_, fun b o e => hs₃ _ _ (G₂.sub _ _ (hsub _ _ e)), F₃⟩
      · by_cases hkj : k = j'
        · subst hkj; rw [hx, hq]
        · exact hall k k1 (by omega)
      · obtain ⟨t, rfl⟩ := pv
        exact ⟨t, by push_cast; rfl⟩
      · rw [updS_ne _ _ hx]; exact hm x hx
    · have hb : (as[j'] == av) = false := by simpa using hq
      rw [hb]
      simp only [Bool.false_eq_true, if_false]
      exact done j' _ vj' m' g₂ h₂ tk₂ h1 hx hq hall my hy hm (fun b o e => G₂.sub _ _ (hsub _ _ e)) F₂
  · have hj' : j' = as.length := by omega
    subst hj'
    refine wpAny_isTrue_Compare1 (sub_raise (s := { s with heap := h', toks := tk' }) F' (el _) (ey _) (by omega) (by omega) (by omega) (fun g h F => hc _ g h F) fun e oe c g₃ h₃ tk₃ hs₃ F₃ hf hcn => ?_)
    refine came_first (s := { s with heap := h₃, toks := tk₃ }) R F₃ hM hf fun h₄ T oe' oT sl F₄ hx₄ => ?_
    exact out e T oe' oT c sl vj' m' g₃ h₄ tk₃ hall my hy hm (fun b o e => hs₃ _ _ (hsub _ _ e)) F₄ hx₄ hcn
end
end Mine
end

section
open PySem PySem.W PyProof.Rows
set_option autoImplicit false
set_option linter.unusedVariables false
namespace Mine

/-- those below i that do not stand in as -/
def missTo (as : List Int) (i : Nat) : List Int := (intsF 0 i).filter fun x => decide (x ∉ as)

theorem intsF_succ (i : Nat) : intsF 0 (i + 1) = intsF 0 i ++ [(i : Int)] := by
  unfold intsF
  rw [List.range_succ, List.map_append]
  simp
theorem missTo_in {as : List Int} {i : Nat} (h : (i : Int) ∈ as) : missTo as (i + 1) = missTo as i := by
  unfold missTo
  rw [intsF_succ, List.filter_append]
  simp [h]
theorem missTo_out {as : List Int} {i : Nat} (h : (i : Int) ∉ as) : missTo as (i + 1) = missTo as i ++ [(i : Int)] := by
  unfold missTo
  rw [intsF_succ, List.filter_append]
  simp [h]
theorem mem_intsF {n : Nat} {x : Int} : x ∈ intsF 0 n ↔ 0 ≤ x ∧ x < n := by
  unfold intsF
  rw [List.mem_map]
  constructor
  · rintro ⟨i, hi, rfl⟩
    have := List.mem_range.mp hi
    omega
  · rintro ⟨h0, h1⟩
    exact ⟨x.toNat, List.mem_range.mpr (by omega), by omega⟩
theorem missTo_end {as : List Int} {i n : Nat} (hi : i ≤ n) (h : ∀ a ∈ as, a < (i : Int)) : missTo as i ++ (intsF 0 n).drop i = missTo as n := by
  have e : intsF 0 n = intsF 0 i ++ (intsF 0 n).drop i := by
    have : (intsF 0 n).take i = intsF 0 i := by
      unfold intsF
      rw [← List.map_take, List.take_range, Nat.min_eq_left hi]
    rw [← this, List.take_append_drop]
  have e2 : ((intsF 0 n).drop i).filter (fun x => decide (x ∉ as)) = (intsF 0 n).drop i := by
    refine List.filter_eq_self.mpr fun x hx => ?_
    have hge : (i : Int) ≤ x := by
      unfold intsF at hx
      rw [← List.map_drop] at hx
      obtain ⟨k, hk, rfl⟩ := List.mem_map.mp hx
      obtain ⟨j, hj, e⟩ := List.mem_iff_getElem.mp hk
      rw [List.getElem_drop, List.getElem_range] at e
      omega
    refine decide_eq_true fun q => ?_
    have := h x q
    omega
  unfold missTo
  conv => rhs; rw [e, List.filter_append, e2]
theorem missTo_length (as : List Int) (i : Nat) : (missTo as i).length ≤ i := by
  unfold missTo
  have := List.length_filter_le (fun x => decide (x ∉ as)) (intsF 0 i)
  rw [intsF_length] at this
  exact this
theorem sorted_get {as : List Int} (h : as.Pairwise (· ≤ ·)) {j k : Nat} {x y : Int} (hjk : j ≤ k) (hx : as[j]? = some x) (hy : as[k]? = some y) : x ≤ y := by
  obtain ⟨h1, rfl⟩ := List.getElem?_eq_some_iff.mp hx
  obtain ⟨h2, rfl⟩ := List.getElem?_eq_some_iff.mp hy
  by_cases q : j = k
  · subst q; omega
  · exact List.pairwise_iff_getElem.mp h j k h1 h2 (by omega)
end Mine
end

section
open PySem PySem.W PyProof.Rows
set_option autoImplicit false
set_option linter.unusedVariables false
set_option maxRecDepth 100000
namespace Mine
open PySem.SeqAt

/-- the names and the two lists where the loop is left -/
def SJ (n : Nat) (as : List Int) (ve va : Value) (am au : Addr) (m : Str → Option Value) (W : List (Addr × Obj)) (g : Map) : Prop :=
  ∃ (i : Nat) (vm : List Value) (nm nu : Nat) (X : List (Addr × Obj)) (vi vj : Value), W.Perm ((am, seqObj "list" vm.toArray nm) :: (au, seqObj "list" ([] : List Value).toArray nu) :: X) ∧ IntsAre vm (missTo as i) ∧ i ≤ n ∧
    m "expected" = some ve ∧ m "actual" = some va ∧ m "missing" = some (.ref am) ∧ m "unexpected" = some (.ref au) ∧ m "i" = some vi ∧ (∃ t, vi = .int (i : Nat) t) ∧ m "j" = some vj ∧ (∃ t, vj = .int (as.length : Nat) t) ∧ ∀ a ∈ as, a < (i : Int)
theorem SJ.up {n : Nat} {as : List Int} {ve va : Value} {am au : Addr} {m : Str → Option Value} {W : List (Addr × Obj)} {g g' : Map} (hs : ∀ b o, g b = some o → g' b = some o) (h : SJ n as ve va am au m W g) : SJ n as ve va am au m W g' := h

section
variable {prog : Program} {w : World} {A : Around} {hb : Heap} {mg mb : Str → Option Value}
abbrev eSort (doc pm : Value) (an : Option Addr) (cd ct : Value) (L : Addr) : Env := callEnv (fdOf (top 3) "sorted_list_difference" doc pm an cd ct) L 71

theorem sorted_fn (T : Tp hb mg mb) {s : Shared} {g : Map} {ve va : Value} {n : Nat} {as : List Int} {envL : Env} {M : Addr} {oM : Obj} {Q : Value → Shared → Prop} {E : Value → Shared → Prop}
    (hs : ∀ b o, g b = some o → s.heap.get? b = some o) (hbase : ∀ b o, hb.get? b = some o → g b = some o) (gM : g M = none) (hM : s.heap.get? M = some oM) (dM : DictLike oM)
    (hve : ILv g (intsF 0 n) ve) (hva : ILv g as va) (hn : n ≤ 10) (hal : as.length < 100) (hso : as.Pairwise (· ≤ ·)) (hr : ∀ a ∈ as, 0 ≤ a ∧ a < (n : Int))
    (hh : A.handled = none) (hfr : A.frames = some [envL]) (hfM : envL.frame = some M) (kM : envL.scope.kind ≠ .module) (hroom : A.depth < recursionLimit)
    (k : ∀ v g' h' tk sl, Gr g (hideAll s.heap [M]) g' h' → TupOf (consP (IL (missTo as n)) (consP (IL []) nilP)) g' h' v → h'.get? M = some { oM with slots := sl } → g' M = none → Q v { s with heap := h', toks := tk }) :
    wpAny (model prog w) A (call (.ref 71) [ve, va]) Q E s := by
  obtain ⟨o, doc, pm, an, cd, ct, ho, hd, hcd⟩ := T.fSorted
  have hbs : ∀ b o, hb.get? b = some o → s.heap.get? b = some o := fun b o e => hs _ _ (hbase _ _ e)
  have sub₀ : ∀ b o, (hideAll s.heap [M]).get? b = some o → s.heap.get? b = some o := fun b o e => of_hideAll _ e
  have g_get₀ : ∀ b o, g b = some o → (hideAll s.heap [M]).get? b = some o := fun b o e => hideAll_get _ (hs _ _ e) (by
    intro q; rw [List.mem_singleton.mp q, gM] at e; cases e)
  refine wpAny_call (codeAny_call_def (binds := [(Str.ofString "expected", ve), (Str.ofString "actual", va)]) hroom (hbs _ _ ho) hd (T.nolimit.keeps hbs) (hcd.keeps hbs) rfl (BindsTo.of_eq rfl) (by show ∀ x ∈ (fnScope (top 3)).names, x.2 ≠ .cell; decide) (locs rfl) (fun h₁ hns hkp => ?_))
  have hLs : s.heap.get? s.heap.objs.size = none := get_new _
  have neL : ∀ b o, s.heap.get? b = some o → b ≠ s.heap.objs.size := fun b o e q => by rw [q, hLs] at e; cases e
  have F₁ : Fm g (hideAll s.heap [M]) (eSort doc pm an cd ct s.heap.objs.size) (fun x => [(Str.ofString "expected", ve), (Str.ofString "actual", va)].reverse.lookup x) (fun _ => none) [(M, oM)] g h₁ := {
    gr := Gr.of_heap g_get₀ fun b o e => hkp _ _ (sub₀ _ _ e)
    ns := hns
    nl := by
      show (hideAll s.heap [M]).get? s.heap.objs.size = none
      cases q : (hideAll s.heap [M]).get? s.heap.objs.size with
      | none => rfl
      | some o => have := sub₀ _ _ q; rw [hLs] at this; cases this
    gl := g_new hs hLs
    cells := fun n c e => by cases e
    apart := fun n n' c e => by cases e
    led := fun p hp => by
      rw [List.mem_singleton.mp hp]
      exact ⟨hkp _ _ hM, gM, neL _ _ hM, fun n c e => (by cases e), hideAll_none _ (by simp)⟩
    nd := List.pairwise_singleton _ _ }
  have hbh₀ : ∀ b o, hb.get? b = some o → (hideAll s.heap [M]).get? b = some o := fun b o e => g_get₀ _ _ (hbase _ _ e)
  have R : Fr2 (A.deeper (eSort doc pm an cd ct s.heap.objs.size)) (eSort doc pm an cd ct s.heap.objs.size) envL M :=
    ⟨by show A.frames.map _ = _; rw [hfr]; rfl, rfl, hfM, by show (fnScope (top 3)).kind ≠ .module; decide, kM⟩
  have hhd : (A.deeper (eSort doc pm an cd ct s.heap.objs.size)).handled = none := hh
  have hx0 : ∀ j x, as[j]? = some x → 0 ≤ x ∧ x < (n : Int) := fun j x e => hr x (List.mem_of_getElem? e)
  refine ex_expr F₁ ev_str fun g₂ h₂ tk₂ hs₂ F₂ => ?_
  refine ex_two (P := isI 0) F₂ ev_int fun v0 g₃ h₃' h₃ tk₃ hs₃ p0 F₃ => ?_
  refine ex_assignN (R := nilP) F₃ (ev_list mono_nilP spl_nil fun _ _ vs p => by rw [p]; simp) fun am vs₀ nm g₄ h₄' h₄ tk₄ hs₄ pn F₄ => ?_
  cases pn
  refine ex_assignN (R := nilP) F₄ (ev_list mono_nilP spl_nil fun _ _ vs p => by rw [p]; simp) fun au vs₀ nu g₅ h₅' h₅ tk₅ hs₅ pn F₅ => ?_
  cases pn
  have sub₅ : ∀ b o, g b = some o → g₅ b = some o := fun b o e => hs₅ _ _ (hs₄ _ _ (hs₃ _ _ (hs₂ _ _ e)))
  have F₆ := F₅.perm (W' := [(M, oM), (am, seqObj "list" ([] : List Value).toArray nm), (au, seqObj "list" ([] : List Value).toArray nu)]) (by
    refine (List.Perm.swap ..).trans ?_
    exact (List.Perm.cons _ (List.Perm.swap ..)).trans (List.Perm.swap ..))
  refine ex_while (fun c s' => ∃ (i j : Nat) (h' : Heap) (tk' : Nat) (g' : Map) (m' : Str → Option Value) (vm : List Value) (nm' : Nat) (vi vj : Value), s' = { s with heap := h', toks := tk' } ∧ c = n - i ∧ i ≤ n ∧ j ≤ as.length ∧ (∀ b o, g₅ b = some o → g' b = some o) ∧
      m' "expected" = some ve ∧ m' "actual" = some va ∧ m' "missing" = some (.ref am) ∧ m' "unexpected" = some (.ref au) ∧ m' "i" = some vi ∧ (∃ t, vi = .int (i : Nat) t) ∧ m' "j" = some vj ∧ (∃ t, vj = .int (j : Nat) t) ∧
      Fm g (hideAll s.heap [M]) (eSort doc pm an cd ct s.heap.objs.size) m' (fun _ => none) [(M, oM), (am, seqObj "list" vm.toArray nm'), (au, seqObj "list" ([] : List Value).toArray nu)] g' h' ∧
      IntsAre vm (missTo as i) ∧ (∀ k x, k < j → as[k]? = some x → x < (i : Int)) ∧ (∀ k x, j ≤ k → as[k]? = some x → (i : Int) ≤ x)) ?_ n
    ⟨0, 0, h₅, tk₅, g₅, _, [], nm, v0, v0, rfl, rfl, Nat.zero_le _, Nat.zero_le _, fun _ _ e => e, rfl, rfl, rfl, rfl, rfl, p0, rfl, p0, F₆, .nil, fun k x h => by omega, fun k x _ e => (hx0 k x e).1⟩
  rintro c s' ⟨i, j, h', tk', g', m', vm, nm', vi, vj, rfl, rfl, hin, hjl, hsub, mE, mA, mM, mU, mI, hI, mJ, hJ, F, hvm, hlo, hhi⟩ E'
  have upE : ∀ {g''}, (∀ b o, g' b = some o → g'' b = some o) → ILv g'' (intsF 0 n) ve := fun hs'' => mono_ILv _ _ _ _ (fun b o e => hs'' _ _ (hsub _ _ (sub₅ _ _ e))) hve
  have upA : ∀ {g''}, (∀ b o, g' b = some o → g'' b = some o) → ILv g'' as va := fun hs'' => mono_ILv _ _ _ _ (fun b o e => hs'' _ _ (hsub _ _ (sub₅ _ _ e))) hva
  refine wpAny_isTrue_value (wpAny_pure (wpAny_truthy_bool ?_)) (by rfl)
  simp only [if_true]
  refine ex_tryIx (oM := oM) (g₀ := g) (cm := fun _ => none) R dM T hbh₀ (SJ n as ve va am au) (fun m W g g' hs h => h.up hs) (fun E₁ hE₁ => ?_) fun e oe Tb oT sl m₁ W₁ g₇ h₇ tk₇ E₂ hJ₁ F₇ => ?_
  · -- the try's body
    have hcA : ∀ h, CtxOk (A.deeper (eSort doc pm an cd ct s.heap.objs.size)) h := fun h => .inl hhd
    have toJ : ∀ {v : Value} {i j : Nat} {h : Heap} {g : Map}, (∃ t, v = .int (i : Nat) t) → isI (i : Nat) g h v := fun h => h
    have eE (p : Pos) := F.loc (prog := prog) (w := w) (A := A.deeper (eSort doc pm an cd ct s.heap.objs.size)) (x := "expected") (pos := p) (v := ve) mE (P := IL (intsF 0 n)) (upE fun _ _ e => e) (mono_IL _)
    have eI (p : Pos) := F.loc (prog := prog) (w := w) (A := A.deeper (eSort doc pm an cd ct s.heap.objs.size)) (x := "i") (pos := p) (v := vi) mI (P := isI (i : Nat)) hI (mono_isI _)
    by_cases hin' : i < n
    · refine ex_assign (P := isI (i : Nat)) F (ev_item (ns := intsF 0 n) (k := (i : Nat)) (eE _) (eI _) (by omega) (by omega) (by have := intsF_get 0 n i hin'; simp [this])) fun ev g₇ h₇' h₇ tk₇ hs₇ pe F₇ => ?_
      have eA (p : Pos) := F₇.loc (prog := prog) (w := w) (A := A.deeper (eSort doc pm an cd ct s.heap.objs.size)) (x := "actual") (pos := p) (v := va) mA (P := IL as) (upA hs₇) (mono_IL _)
      have eJ (p : Pos) := F₇.loc (prog := prog) (w := w) (A := A.deeper (eSort doc pm an cd ct s.heap.objs.size)) (x := "j") (pos := p) (v := vj) mJ (P := isI (j : Nat)) hJ (mono_isI _)
      by_cases hjl' : j < as.length
      · have hxj : as[j]? = some as[j] := List.getElem?_eq_getElem hjl'
        refine ex_assign (P := isI as[j]) F₇ (ev_item (ns := as) (k := (j : Nat)) (eA _) (eJ _) (by omega) (by omega) (by simp)) fun av g₈ h₈' h₈ tk₈ hs₈ pa F₈ => ?_
        have hge := hhi j _ (Nat.le_refl _) hxj
        have hlt := hx0 j _ hxj
        have hMl : ∀ {as' : List Value}, IntsAre as' (missTo as i) → as'.length ≤ 10 := fun h => by
          rw [h.length]; exact Nat.le_trans (missTo_length as i) (by omega)
        refine ex_if (c := decide ((i : Int) < as[j])) F₈ (ev_test (mono_isI (i : Int)) (F₈.loc (x := "e") (v := ev) rfl pe (mono_isI _)) (F₈.loc (x := "a") (v := av) rfl pa (mono_isI _)) fun _ _ _ _ _ p q => op_lt p q) fun g₉ h₉ tk₉ hs₉ F₉ => ?_
        by_cases hq : (i : Int) < as[j]
        · rw [decide_eq_true hq]
          simp only [if_true]
          refine ex_meth1 (a := am) (P := isI (i : Nat)) F₉ PySem.F.slot_list_append PySem.F.type_list_append (F₉.loc (v := .ref am) mM rfl (mono_isV _)) (F₉.at_ (.tail _ (.head _))) (F₉.loc (x := "e") (v := ev) rfl pe (mono_isI _)) fun u g₁₀ h₁₀ tk₁₀ hs₁₀ pu F₁₀ ha₁₀ => ?_
          obtain ⟨t, rfl⟩ := pu
          refine cl_append ha₁₀ (by have := hMl hvm; omega) fun h₁₁ nm₂ hs₁₁ hg₁₁ => ?_
          have F₁₁ := Fm.change (W₁ := [(M, oM)]) F₁₀ hs₁₁ hg₁₁
          refine ex_aug (x := "i") (i := (i : Nat)) (j := 1) F₁₁ mI hI ev_int fun vi₂ g₁₂ h₁₂ tk₁₂ hs₁₂ pi F₁₂ => ?_
          have pi' : ∃ t, vi₂ = .int ((i + 1 : Nat) : Int) t := by
            obtain ⟨t, rfl⟩ := pi
            exact ⟨t, by push_cast; rfl⟩
          have up₁₂ : ∀ b o, g' b = some o → g₁₂ b = some o := fun b o e => hs₁₂ _ _ (hs₁₀ _ _ (hs₉ _ _ (hs₈ _ _ (hs₇ _ _ e))))
          have hnext : (intsF 0 n)[i + 1]? = some ((i : Int) + 1) := by
            have := intsF_get 0 n (i + 1) (by omega)
            rw [this]; congr 1; push_cast; omega
          refine eq_loop (lst := "expected") (y := "i") (z := "e") (as := intsF 0 n) (j := i + 1) (av := (i : Int)) (vl := ve) (vz := ev) R F₁₂ dM mE (upE up₁₂) rfl pe (updS_self _ _ _) pi' (by rw [intsF_length]; omega) (by rw [intsF_length]; omega) (by decide) (by decide) (fun m g h _ => hcA h) (fun j' x vj' m₃ g₁₃ h₁₃ tk₁₃ q1 q2 q3 q4 q5 q6 q7 q8 F₁₃ => ?_) (fun e T oe oT c sl vj' m₃ g₁₃ h₁₃ tk₁₃ q1 _ _ _ _ _ _ _ => ?_)
          · have hj' : j' = i + 1 := by
              by_cases q : j' = i + 1
              · exact q
              · have := q4 (i + 1) (Nat.le_refl _) (by omega)
                rw [hnext] at this
                have := Option.some.inj this
                omega
            subst hj'
            refine wpAny_execs_nil (wpAny_execs_nil (wpAny_execs_nil (wpAny_execs_nil ?_)))
            refine ⟨n - (i + 1), by omega, i + 1, j, h₁₃, tk₁₃, g₁₃, m₃, vm ++ [Value.int ((i : Nat) : Int) t], nm₂, vj', vj, rfl, rfl, hin', hjl, fun b o e => q8 _ _ (up₁₂ _ _ (hsub _ _ e)), (q7 _ (by decide)).trans mE, (q7 _ (by decide)).trans mA, (q7 _ (by decide)).trans mM, (q7 _ (by decide)).trans mU, q5, q6, (q7 _ (by decide)).trans mJ, hJ, F₁₃, ?_, ?_, ?_⟩
            · have hni : (i : Int) ∉ as := fun q => by
                obtain ⟨k, hk, e⟩ := List.mem_iff_getElem.mp q
                have hk' := List.getElem?_eq_getElem hk
                rw [e] at hk'
                by_cases hkj : k < j
                · have := hlo k _ hkj hk'; omega
                · have := sorted_get hso (by omega : j ≤ k) hxj hk'; omega
              rw [missTo_out hni]
              exact hvm.append (.cons _ _ .nil)
            · intro k x hk e
              have := hlo k x hk e
              omega
            · intro k x hk e
              have := sorted_get hso hk hxj e
              omega
          · have := q1 (i + 1) (Nat.le_refl _) (by rw [intsF_length]; omega)
            rw [hnext] at this
            have := Option.some.inj this
            omega
        · rw [decide_eq_false hq]
          simp only [Bool.false_eq_true, if_false]
          have heq : as[j] = (i : Int) := by omega
          refine ex_if (c := decide ((i : Int) > as[j])) F₉ (ev_test (mono_isI (i : Int)) (F₉.loc (x := "e") (v := ev) rfl pe (mono_isI _)) (F₉.loc (x := "a") (v := av) rfl pa (mono_isI _)) fun _ _ _ _ _ p q => op_gt p q) fun g₁₀ h₁₀ tk₁₀ hs₁₀ F₁₀ => ?_
          rw [decide_eq_false (by omega)]
          simp only [Bool.false_eq_true, if_false]
          refine ex_aug (x := "i") (i := (i : Nat)) (j := 1) F₁₀ mI hI ev_int fun vi₂ g₁₂ h₁₂ tk₁₂ hs₁₂ pi F₁₂ => ?_
          have pi' : ∃ t, vi₂ = .int ((i + 1 : Nat) : Int) t := by
            obtain ⟨t, rfl⟩ := pi
            exact ⟨t, by push_cast; rfl⟩
          have up₁₂ : ∀ b o, g' b = some o → g₁₂ b = some o := fun b o e => hs₁₂ _ _ (hs₁₀ _ _ (hs₉ _ _ (hs₈ _ _ (hs₇ _ _ e))))
          have hmem : (i : Int) ∈ as := heq ▸ List.getElem_mem hjl'
          have hvm' : IntsAre vm (missTo as (i + 1)) := by rw [missTo_in hmem]; exact hvm
          generalize hm₁₂ : updS (updS (updS m' "e" ev) "a" av) "i" vi₂ = m₁₂ at F₁₂
          have kE : m₁₂ "expected" = some ve := hm₁₂ ▸ mE
          have kA : m₁₂ "actual" = some va := hm₁₂ ▸ mA
          have kM' : m₁₂ "missing" = some (.ref am) := hm₁₂ ▸ mM
          have kU : m₁₂ "unexpected" = some (.ref au) := hm₁₂ ▸ mU
          have kJ : m₁₂ "j" = some vj := hm₁₂ ▸ mJ
          have ke : m₁₂ "e" = some ev := by rw [← hm₁₂]; rfl
          have ka : m₁₂ "a" = some av := by rw [← hm₁₂]; rfl
          have ki : m₁₂ "i" = some vi₂ := by rw [← hm₁₂]; rfl
          have pa' : isI (i : Int) g₁₂ h₁₂ av := heq ▸ pa
          have hlo' : ∀ k x, k < j + 1 → as[k]? = some x → x < ((i + 1 : Nat) : Int) := fun k x hk e => by
            by_cases hkj : k = j
            · subst hkj
              rw [hxj] at e
              have := Option.some.inj e
              omega
            · have := hlo k x (by omega) e
              omega
          -- all of them are below, when the rest is like this one
          have hend : (∀ k, j + 1 ≤ k → k < as.length → as[k]? = some (i : Int)) → ∀ a ∈ as, a < ((i + 1 : Nat) : Int) := fun q a ha => by
            obtain ⟨k, hk, rfl⟩ := List.mem_iff_getElem.mp ha
            by_cases hkj : k < j + 1
            · exact hlo' k _ hkj (List.getElem?_eq_getElem hk)
            · have := q k (by omega) hk
              rw [List.getElem?_eq_getElem hk] at this
              have := Option.some.inj this
              omega
          refine ex_tryFin (g₀ := g) (h₀ := hideAll s.heap [M]) (cm := fun _ => none) (oM := oM) R
            (fun s₁ => ∃ g₂ h₂ tk₂ m₂ vi₃, s₁ = { s with heap := h₂, toks := tk₂ } ∧ i + 1 < n ∧ (∀ b o, g₁₂ b = some o → g₂ b = some o) ∧ m₂ "i" = some vi₃ ∧ (∃ t, vi₃ = .int ((i + 1 : Nat) : Int) t) ∧ (∀ x : Str, x ≠ "i" → m₂ x = m₁₂ x) ∧
              Fm g (hideAll s.heap [M]) (eSort doc pm an cd ct s.heap.objs.size) m₂ (fun _ => none) [(M, oM), (am, seqObj "list" vm.toArray nm'), (au, seqObj "list" ([] : List Value).toArray nu)] g₂ h₂)
            (fun m₂ W₂ g₂ => i + 1 = n ∧ W₂ = [(am, seqObj "list" vm.toArray nm'), (au, seqObj "list" ([] : List Value).toArray nu)] ∧ (∀ b o, g₁₂ b = some o → g₂ b = some o) ∧ (∃ vi₃, m₂ "i" = some vi₃ ∧ ∃ t, vi₃ = .int ((i + 1 : Nat) : Int) t) ∧ (∀ x : Str, x ≠ "i" → m₂ x = m₁₂ x))
            (fun E₂ hE₂ => ?_) (fun s₁ hN => ?_) (fun e oe T oT sl m₂ W₂ g₂ h₂ tk₂ Q' hJ₂ F₁₃ hfl => ?_)
          · -- while expected[i] == e
            refine eq_loop (lst := "expected") (y := "i") (z := "e") (as := intsF 0 n) (j := i + 1) (av := (i : Int)) (vl := ve) (vz := ev) R F₁₂ dM kE (upE up₁₂) ke pe ki pi' (by rw [intsF_length]; omega) (by rw [intsF_length]; omega) (by decide) (by decide) (fun m g h _ => hcA h) (fun j' x vj' m₃ g₁₃ h₁₃ tk₁₃ q1 q2 q3 q4 q5 q6 q7 q8 F₁₃ => ?_) (fun e T oe oT c sl vj' m₃ g₁₃ h₁₃ tk₁₃ q1 q2 q3 q4 q5 F₁₃ hfl hcn => ?_)
            · have hjn : j' < n := by
                have := (List.getElem?_eq_some_iff.mp q2).1
                rwa [intsF_length] at this
              have hj' : j' = i + 1 := by
                by_cases q : j' = i + 1
                · exact q
                · have h1 := q4 (i + 1) (Nat.le_refl _) (by omega)
                  rw [intsF_get 0 n (i + 1) (by omega)] at h1
                  have := Option.some.inj h1
                  omega
              subst hj'
              exact wpAny_execs_nil ⟨rfl, g₁₃, h₁₃, tk₁₃, m₃, vj', rfl, hjn, q8, q5, q6, q7, F₁₃⟩
            · have hn1 : i + 1 = n := by
                by_cases q : i + 1 < n
                · have h1 := q1 (i + 1) (Nat.le_refl _) (by rw [intsF_length]; exact q)
                  rw [intsF_get 0 n (i + 1) q] at h1
                  have := Option.some.inj h1
                  omega
                · omega
              have hc := hcn hhd
              subst hc
              refine hE₂ e oe T oT sl m₃ _ g₁₃ h₁₃ tk₁₃ ⟨hn1, rfl, q5, ⟨vj', q2, ?_⟩, q4⟩ F₁₃ hfl
              obtain ⟨t, rfl⟩ := q3
              exact ⟨t, by rw [intsF_length, hn1]⟩
          · -- finally, nothing raised
            obtain ⟨g₂, h₂, tk₂, m₂, vi₃, rfl, hlt1, hs₂', mI₂, pI₂, hm₂, F₁₃⟩ := hN
            refine ex_aug (x := "j") (i := (j : Nat)) (j := 1) F₁₃ ((hm₂ _ (by decide)).trans kJ) hJ ev_int fun vj₂ g₁₄ h₁₄ tk₁₄ hs₁₄ pj F₁₄ => ?_
            have pj' : ∃ t, vj₂ = .int ((j + 1 : Nat) : Int) t := by
              obtain ⟨t, rfl⟩ := pj
              exact ⟨t, by push_cast; rfl⟩
            have up₁₄ : ∀ b o, g' b = some o → g₁₄ b = some o := fun b o e => hs₁₄ _ _ (hs₂' _ _ (up₁₂ _ _ e))
            refine eq_loop (lst := "actual") (y := "j") (z := "a") (as := as) (j := j + 1) (av := (i : Int)) (vl := va) (vz := av) R F₁₄ dM (((updS_ne _ _ (by decide)).trans (hm₂ _ (by decide))).trans kA) (upA up₁₄) (((updS_ne _ _ (by decide)).trans (hm₂ _ (by decide))).trans ka) pa' (updS_self _ _ _) pj' (by omega) (by omega) (by decide) (by decide) (fun m g h _ => hcA h) (fun j' x vj' m₃ g₁₅ h₁₅ tk₁₅ q1 q2 q3 q4 q5 q6 q7 q8 F₁₅ => ?_) (fun e T oe oT c sl vj' m₃ g₁₅ h₁₅ tk₁₅ q1 q2 q3 q4 q5 F₁₅ hfl hcn => ?_)
            · have hxi : (i : Int) ≤ x := hhi j' x (by omega) q2
              have tr : ∀ y : Str, y ≠ "j" → y ≠ "i" → m₃ y = m₁₂ y := fun y h1 h2 => ((q7 _ h1).trans (updS_ne _ _ h1)).trans (hm₂ _ h2)
              refine wpAny_execs_nil (wpAny_execs_nil (wpAny_execs_nil (wpAny_execs_nil (wpAny_execs_nil (wpAny_execs_nil ?_)))))
              refine ⟨n - (i + 1), by omega, i + 1, j', h₁₅, tk₁₅, g₁₅, m₃, vm, nm', vi₃, vj', rfl, rfl, hin', by have := (List.getElem?_eq_some_iff.mp q2).1; omega, fun b o e => q8 _ _ (up₁₄ _ _ (hsub _ _ e)), (tr _ (by decide) (by decide)).trans kE, (tr _ (by decide) (by decide)).trans kA, (tr _ (by decide) (by decide)).trans kM', (tr _ (by decide) (by decide)).trans kU, ((q7 _ (by decide)).trans (updS_ne _ _ (by decide))).trans mI₂, pI₂, q5, q6, F₁₅, hvm', ?_, ?_⟩
              · intro k y hk e
                by_cases hkj : k < j + 1
                · exact hlo' k y hkj e
                · rw [q4 k (by omega) hk] at e
                  have := Option.some.inj e
                  omega
              · intro k y hk e
                have := sorted_get hso hk q2 e
                omega
            · refine came_again R R F₁₅ hfl fun h₁₆ oT' F₁₆ hfl' => ?_
              have tr : ∀ y : Str, y ≠ "j" → y ≠ "i" → m₃ y = m₁₂ y := fun y h1 h2 => ((q4 _ h1).trans (updS_ne _ _ h1)).trans (hm₂ _ h2)
              refine hE₁ _ _ ⟨e, m₃, _, g₁₅, h₁₆, tk₁₅, sl, rfl, rfl, ?_, .inr ⟨oe, T, oT', c, F₁₆, hfl'⟩⟩
              exact ⟨i + 1, vm, nm', nu, [], vi₃, vj', .refl _, hvm', hin', (tr _ (by decide) (by decide)).trans kE, (tr _ (by decide) (by decide)).trans kA, (tr _ (by decide) (by decide)).trans kM', (tr _ (by decide) (by decide)).trans kU, ((q4 _ (by decide)).trans (updS_ne _ _ (by decide))).trans mI₂, pI₂, q2, q3, hend q1⟩
          · -- finally, behind a raise
            obtain ⟨hn1, rfl, hs₂', ⟨vi₃, mI₂, pI₂⟩, hm₂⟩ := hJ₂
            have F₁₄ := F₁₃.perm (W' := [(M, { oM with slots := sl }), (e, oe), (T, oT), (am, seqObj "list" vm.toArray nm'), (au, seqObj "list" ([] : List Value).toArray nu)]) (List.perm_append_comm_assoc [_, _] [_] [_, _])
            obtain ⟨vs, hdx, _, hcx⟩ := hfl.exc
            refine ex_aug (x := "j") (i := (j : Nat)) (j := 1) F₁₄ ((hm₂ _ (by decide)).trans kJ) hJ ev_int fun vj₂ g₁₅ h₁₅ tk₁₅ hs₁₅ pj F₁₅ => ?_
            have pj' : ∃ t, vj₂ = .int ((j + 1 : Nat) : Int) t := by
              obtain ⟨t, rfl⟩ := pj
              exact ⟨t, by push_cast; rfl⟩
            have up₁₅ : ∀ b o, g' b = some o → g₁₅ b = some o := fun b o e => hs₁₅ _ _ (hs₂' _ _ (up₁₂ _ _ e))
            refine eq_loop (lst := "actual") (y := "j") (z := "a") (as := as) (j := j + 1) (av := (i : Int)) (vl := va) (vz := av) (R.mark _) F₁₅ (fun vs => dM vs) (((updS_ne _ _ (by decide)).trans (hm₂ _ (by decide))).trans kA) (upA up₁₅) (((updS_ne _ _ (by decide)).trans (hm₂ _ (by decide))).trans ka) pa' (updS_self _ _ _) pj' (by omega) (by omega) (by decide) (by decide)
              (fun m g h F => .inr ⟨e, rfl, oe, vs, F.at_ (.tail _ (.head _)), hdx, hcx⟩) (fun j' x vj' m₃ g₁₆ h₁₆ tk₁₆ q1 q2 q3 q4 q5 q6 q7 q8 F₁₆ => ?_) (fun e' T' oe' oT' c sl' vj' m₃ g₁₆ h₁₆ tk₁₆ q1 q2 q3 q4 q5 F₁₆ hfl' hcn => ?_)
            · have h1 := hhi j' x (by omega) q2
              have h2 := (hx0 j' x q2).2
              omega
            · refine came_again R (R.mark _) F₁₆ hfl' fun h₁₇ oT'' F₁₇ hfl'' => ?_
              have tr : ∀ y : Str, y ≠ "j" → y ≠ "i" → m₃ y = m₁₂ y := fun y h1 h2 => ((q4 _ h1).trans (updS_ne _ _ h1)).trans (hm₂ _ h2)
              refine hE₁ _ _ ⟨e', m₃, _, g₁₆, h₁₇, tk₁₆, sl', rfl, rfl, ?_, .inr ⟨oe', T', oT'', c, F₁₇, hfl''⟩⟩
              exact ⟨i + 1, vm, nm', nu, [(e, oe), (T, oT)], vi₃, vj', List.perm_append_comm_assoc [_, _] [_, _] [], hvm', hin', (tr _ (by decide) (by decide)).trans kE, (tr _ (by decide) (by decide)).trans kA, (tr _ (by decide) (by decide)).trans kM', (tr _ (by decide) (by decide)).trans kU, ((q4 _ (by decide)).trans (updS_ne _ _ (by decide))).trans mI₂, pI₂, q2, q3, hend q1⟩
      · refine ex_cons (wpAny_Assign_Name (sub_raise (s := { s with heap := h₇, toks := tk₇ }) F₇ (eA _) (eJ _) (by omega) (by omega) (by omega) (fun _ h _ => hcA h) fun e oe c g₈ h₈ tk₈ hs₈ F₈ hf hc => ?_) (by rfl))
        refine hE₁ _ _ ⟨e, _, _, g₈, h₈, tk₈, oM.slots, rfl, rfl, ?_, .inl ⟨oe, c, F₈, hf⟩⟩
        refine ⟨i, vm, nm', nu, [], vi, vj, .refl _, hvm, hin, mE, mA, mM, mU, mI, hI, mJ, ?_, fun a ha => ?_⟩
        · obtain ⟨t, rfl⟩ := hJ
          exact ⟨t, by rw [show j = as.length by omega]⟩
        · obtain ⟨k, hk, rfl⟩ := List.mem_iff_getElem.mp ha
          exact hlo k _ (by omega) (List.getElem?_eq_getElem hk)
    · have hj : j = as.length := by
        by_cases q : j < as.length
        · have h1 := hhi j _ (Nat.le_refl _) (List.getElem?_eq_getElem q)
          have h2 := (hx0 j _ (List.getElem?_eq_getElem q)).2
          omega
        · omega
      refine ex_cons (wpAny_Assign_Name (sub_raise (s := { s with heap := h', toks := tk' }) F (eE _) (eI _) (by omega) (by rw [intsF_length]; omega) (by omega) (fun _ h _ => hcA h) fun e oe c g₈ h₈ tk₈ hs₈ F₈ hf hc => ?_) (by rfl))
      refine hE₁ _ _ ⟨e, _, _, g₈, h₈, tk₈, oM.slots, rfl, rfl, ?_, .inl ⟨oe, c, F₈, hf⟩⟩
      refine ⟨i, vm, nm', nu, [], vi, vj, .refl _, hvm, hin, mE, mA, mM, mU, mI, hI, mJ, ?_, fun a ha => ?_⟩
      · rw [← hj]; exact hJ
      · obtain ⟨k, hk, rfl⟩ := List.mem_iff_getElem.mp ha
        exact hlo k _ (by omega) (List.getElem?_eq_getElem hk)
  · -- the handler
    obtain ⟨i', vm', nm₂, nu', X, vi', vj', hperm, hvm', hin', mE', mA', mM', mU', mI', hI', mJ', hJ', hall⟩ := hJ₁
    have F₈ := F₇.perm (W' := (am, seqObj "list" vm'.toArray nm₂) :: (au, seqObj "list" ([] : List Value).toArray nu') :: ((e, oe) :: (Tb, oT) :: (M, { oM with slots := sl }) :: X)) (((hperm.cons _).cons _).cons _ |>.trans (List.perm_append_comm_assoc [_, _, _] [_, _] X))
    have upE₇ : ILv g₇ (intsF 0 n) ve := mono_ILv _ _ _ _ F₇.gr.sub hve
    have upA₇ : ILv g₇ as va := mono_ILv _ _ _ _ F₇.gr.sub hva
    obtain ⟨be, vse, ne, rfl, hbe, hIe⟩ := upE₇
    obtain ⟨ba, vsa, na, rfl, hba, hIa⟩ := upA₇
    have hvl := hvm'.length
    have hml := missTo_length as i'
    have hel := hIe.length
    rw [intsF_length] at hel
    have hal' := hIa.length
    -- missing.extend(expected[i:])
    refine ex_meth1 (a := am) (P := IL ((intsF 0 n).drop i')) F₈ PySem.F.slot_list_extend PySem.F.type_list_extend (F₈.loc (v := .ref am) mM' rfl (mono_isV _)) (F₈.at_ (.head _)) (EvN.eqI (us := vse.drop i') (hIe.drop _) ?_) fun u g₉ h₉ tk₉ hs₉ pu F₉ ha₉ => ?_
    · simpa using ev_slFrom (n := ne) (F₈.loc (v := .ref be) mE' (P := isV (.ref be)) rfl (mono_isV _)) ⟨_, F₈.now _ _ hbe, rfl, ne, rfl⟩ (F₈.loc (v := vi') mI' (P := isI (i' : Nat)) hI' (mono_isI _)) (by omega) (by omega)
    obtain ⟨b₁, us₁, n₁, rfl, hb₁, hI₁⟩ := pu
    have hu₁ := hI₁.length
    rw [List.length_drop, intsF_length] at hu₁
    refine cl_extend ha₉ (F₉.now _ _ hb₁) (by omega) fun h₁₀ nm₃ hs₁₀ hg₁₀ => ?_
    have F₁₀ := Fm.change (W₁ := []) F₉ hs₁₀ hg₁₀
    -- unexpected.extend(actual[j:])
    refine ex_meth1 (a := au) (P := IL []) F₁₀ PySem.F.slot_list_extend PySem.F.type_list_extend (F₁₀.loc (v := .ref au) mU' rfl (mono_isV _)) (F₁₀.at_ (.tail _ (.head _))) (EvN.eqI (us := vsa.drop as.length) (by rw [List.drop_eq_nil_of_le (by omega)]; exact .nil) ?_) fun u g₁₁ h₁₁ tk₁₁ hs₁₁ pu F₁₁ ha₁₁ => ?_
    · simpa using ev_slFrom (n := na) (F₁₀.loc (v := .ref ba) mA' (P := isV (.ref ba)) rfl (mono_isV _)) ⟨_, F₁₀.now _ _ (hs₉ _ _ hba), rfl, na, rfl⟩ (F₁₀.loc (v := vj') mJ' (P := isI (as.length : Nat)) hJ' (mono_isI _)) (by omega) (by omega)
    obtain ⟨b₂, us₂, n₂, rfl, hb₂, hI₂⟩ := pu
    cases hI₂
    refine cl_extend (us := []) ha₁₁ (F₁₁.now _ _ hb₂) (by simp) fun h₁₂ nu₃ hs₁₂ hg₁₂ => ?_
    have F₁₂ := Fm.change (W₁ := [(am, _)]) F₁₁ hs₁₂ hg₁₂
    refine ex_cons (wpAny_Break ?_)
    have F₁₃ := F₁₂.freeze
    have F₁₄ := F₁₃.freeze
    have hres : IntsAre (vm' ++ us₁) (missTo as n) := by
      rw [← missTo_end hin' hall]
      exact hvm'.append hI₁
    refine ex_return (P := TupOf (consP (IL (missTo as n)) (consP (IL []) nilP))) F₁₄ (ev_tuple (mono_consP (mono_IL _) (mono_consP (mono_IL _) mono_nilP)) (spl_cons (mono_IL _) (F₁₄.loc (v := .ref am) mM' ⟨am, _, _, rfl, F₁₃.freeze_sub _ _ (upd_self _ _ _), hres⟩ (mono_IL _)) (spl_cons (mono_IL _) (F₁₄.loc (v := .ref au) mU' ⟨au, _, _, rfl, upd_self _ _ _, .nil⟩ (mono_IL _)) spl_nil)) ?_) fun u g₁₅ h₁₅ tk₁₅ hs₁₅ pu F₁₅ => ?_
    · rintro g' h' vs ⟨a, r, rfl, _, b, r', rfl, _, p⟩
      cases p; simp
    · have led := F₁₅.led (M, { oM with slots := sl }) (by simp)
      exact k _ g₁₅ h₁₅ _ sl F₁₅.gr pu led.1 led.2.1
end
end Mine
end

section
open PySem PySem.W PyProof.Rows
set_option autoImplicit false
set_option linter.unusedVariables false
set_option maxRecDepth 100000
namespace Mine
open PySem.SeqAt MeetsSeq MeetsSeq2 MeetsSeq3 SeqRoads2

/-- what the class of triples answers when it is compared -/
structure EqOk (K : Frag) : Prop where
  eq : ∀ S, peek K S (typeLookup (.ref 156) "__eq__") = some (some (.builtin "tuple.__eq__"))
  ntup : ∀ S, peek K S (isSubtype (.type "tuple") (.ref 156)) = some false
  subT : ∀ S, peek K S (isSubtype (.ref 156) (.type "tuple")) = some true
def Te (hb : Heap) : Prop := ∃ K : Frag, K.In hb ∧ EqOk K

section
variable {prog : Program} {w : World} {A : Around} {s : Shared}

theorem mis_eq_meets {x t : Addr} {vs us : List Value} {dx : Addr} (hlen : vs.length = us.length) :
    Meets (Builtin.«tuple.__eq__» ⟨[.ref x, .ref t], []⟩) (fun A R s => s.heap.get? x = some (misObj vs dx) ∧ s.heap.get? t = some (seqObj "tuple" us.toArray 0) ∧ (∀ p ∈ vs.zip us, EqAt A.in1 s p.1 p.2 true) ∧ R (.ok (.ret (.bool true))) s) :=
  .of_wp fun prog w A R s h => by
    obtain ⟨hp, g, d, tk, os⟩ := s; obtain ⟨hl, hb, he, h⟩ := h
    have f2 := AutoSeq1.sub_tuple_tuple
    wp_walk using AutoSeq1.wpAny_loadPart' hl, AutoSeq1.wpAny_loadPart' hb, wpAny_forIn_list _ (fun rest b s' => b.1 = none ∧ s' = ⟨hp, g, d, tk, os⟩ ∧ ∀ p ∈ rest, p ∈ vs.zip us) _
    case turn =>
      rintro ⟨y, x⟩ rest b s' ⟨hb', rfl, hm⟩
      refine wpAny_bind (he (y, x) (hm _ (.head _)) prog w _ _ ?_)
      wp_walk
      exact ⟨rfl, rfl, fun p hp => hm p (.tail _ hp)⟩
    case fin =>
      rintro ⟨b1, b2⟩ s' ⟨hb', rfl, _⟩
      simp only at hb'
      subst hb'
      wp_walk
      exact ⟨_, rfl, by simpa [Builtin.Tuple.tupleCompareSizes, hlen] using h⟩
    case h =>
      exact ⟨rfl, rfl, fun p hp => by simpa using hp⟩

theorem mis_rc {hb : Heap} (Te' : Te hb) (hbase : ∀ b o, hb.get? b = some o → s.heap.get? b = some o) {x t : Addr} {vs us : List Value} {dx : Addr} (hlen : vs.length = us.length) (hx : s.heap.get? x = some (misObj vs dx)) (ht : s.heap.get? t = some (seqObj "tuple" us.toArray 0))
    (he : ∀ A', A.units ≤ A'.units → ∀ p ∈ vs.zip us, EqAt A' s p.1 p.2 true) (hu : A.units < cLine) : RcAt A s (.ref x) (.ref t) true := fun prog w E Q hq => by
  obtain ⟨K, X₀, O⟩ := Te'
  have X : K.In s.heap := X₀.keeps hbase
  have tx : Looks (model prog w) s.heap (typeOf (.ref x)) (.ref 156) := (Looks.ld hx).andThen .now
  have tt : Looks (model prog w) s.heap (typeOf (.ref t)) (.type "tuple") := (Looks.ld ht).andThen .now
  have cb : Looks (model prog w) s.heap (bindSpecial (.builtin "tuple.__eq__") (.ref x)) (.builtin "tuple.__eq__", [.ref x]) := Looks.of_pure (F.slot_tuple_eq.bind (.ref x))
  have hcall : wpAny (model prog w) A (call (.builtin "tuple.__eq__") [.ref x, .ref t]) (fun v s' => v = .bool true ∧ s' = s) E s := by
    refine wpAny_call (codeAny_call_builtin (by decide +kernel) F.entry_tuple_eq (check_slot (owner := "tuple") (n := "__eq__") (by decide +kernel) (by decide +kernel) (tx.andThen (looks_peek X O.subT)) (F.args_tuple_eq_2 _ _) ?_))
    exact mis_eq_meets hlen prog w A (fun r s' => match r with | .ok (.ret v) => v = .bool true ∧ s' = s | .ok _ => False | .error e => E e s') s ⟨hx, ht, he A.in1 (Nat.le_succ _), rfl, rfl⟩
  have one : wpAny (model prog w) A (tryCompare (.ref x) "__eq__" (.ref t)) (fun r s' => r = some (.bool true) ∧ s' = s) E s := by
    unfold tryCompare
    refine wpAny_bind (m := callSpecialIfBound? _ _ _) (wpAny_mono (Q := fun r s' => r = some (.bool true) ∧ s' = s) (E := E) ?_ (fun r s' z => ?_) fun _ _ e => e)
    · simp only [callSpecialIfBound?, bindSpecialIfBound?, specialOf]
      refine wpAny_holding (wpAny_bind (wpAny_bind (wpAny_bind (tx.here ((looks_peek X O.eq).here ?_)))))
      refine wpAny_bind (wpAny_askSetting (wpAny_ite ?_))
      have fin : wpAny (model prog w) A (call (.builtin "tuple.__eq__") ([.ref x] ++ [.ref t]) >>= fun v => pure (some v)) (fun r s' => r = some (.bool true) ∧ s' = s) E s :=
        wpAny_bind (wpAny_mono hcall (fun v s' z => wpAny_pure ⟨by rw [z.1], z.2⟩) fun _ _ e => e)
      split
      · exact wpAny_bind (cb.here (wpAny_pure (by exact fin)))
      · exact wpAny_tryCatch (wpAny_bind (cb.here (wpAny_pure (by exact fin))))
    · obtain ⟨rfl, rfl⟩ := z
      exact wpAny_pure ⟨rfl, rfl⟩
  show wpAny _ A (richCompare .Eq _ _) Q E s
  unfold richCompare
  simp only [oneThing_ref]
  refine wpAny_holding (wpAny_bind (wpAny_cRoomFor hu ?_))
  refine wpAny_bind (tx.here (wpAny_bind (tt.here ?_)))
  rw [if_pos (by decide)]
  refine wpAny_bind ((looks_peek X O.ntup).here ?_)
  simp only [Bool.false_eq_true, if_false]
  refine wpAny_bind (wpAny_mono one (fun r s' z => ?_) fun _ _ e => e)
  obtain ⟨rfl, rfl⟩ := z
  exact wpAny_pure hq
end
end Mine
end

section
open PySem PySem.W PyProof.Rows
set_option autoImplicit false
set_option linter.unusedVariables false
set_option maxRecDepth 100000
namespace Mine
open PySem.SeqAt

/-- a tuple of three ints -/
def kT : Map → (Int × Int × Int) → Value → Prop := fun g x v => ∃ a t u q, v = .ref a ∧ g a = some (seqObj "tuple" [Value.int x.1 t, Value.int x.2.1 u, Value.int x.2.2 q].toArray 0)
theorem mono_kT : MonoM kT := fun g g' x v hs ⟨a, t, u, q, e, h⟩ => ⟨a, t, u, q, e, hs _ _ h⟩

theorem depth2 (xs ys : List Int) : PyData.depthAll [dI xs, dI ys] ≤ 2 := by
  have h1 := depth_dI xs
  have h2 := depth_dI ys
  simp only [PyData.depthAll]; omega
theorem shaped2 (xs ys : List Int) : shaped (.tuple [dI xs, dI ys]) = true := by
  have h := depth2 xs ys
  unfold shaped
  have e : PyData.canLay0 (.tuple [dI xs, dI ys]) = true := by
    rw [PyData.canLay0]; simp [PyData.canLayAll0, canLay_dI]
  rw [e, Bool.true_and, PyData.depth]
  exact decide_eq_true (by omega)
theorem eqv2 (xs ys : List Int) : PyData.eqv (.tuple [dI xs, dI ys]) (.tuple [dI xs, dI ys]) = true := by
  rw [PyData.eqv]; simp [PyData.eqvAll, eqv_ints]

section
variable {prog : Program} {w : World} {A : Around} {g : Map} {h hb : Heap} {env : Env}

theorem op_neTold (Te' : Te hb) (hbase : ∀ b o, hb.get? b = some o → h.get? b = some o) {a b : Addr} {vs us : List Value} {n m : Nat} {xs : List (Int × Int × Int)} (ha : g a = some (seqObj "list" vs.toArray n)) (hb' : g b = some (seqObj "list" us.toArray m))
    (hF : F2 (fun v x => kM g x v) vs xs) (hG : F2 (fun v x => kT g x v) us xs) (hu : A.units + 10 < cLine) : Ev prog w A g h (compareOp .NotEq (.ref a) (.ref b)) (isV (.bool false)) := by
  refine Ev.of fun s g₁ Q E G q => ?_
  have hl : s.heap.IsList a vs.toArray := ⟨_, G.now _ _ (G.sub _ _ ha), rfl, n, rfl⟩
  have hl' : s.heap.IsList b us.toArray := ⟨_, G.now _ _ (G.sub _ _ hb'), rfl, m, rfl⟩
  have hsz : vs.toArray.size = us.toArray.size := by rw [List.size_toArray, List.size_toArray, hF.length, hG.length]
  refine (?_ : RcNeAt A s (.ref a) (.ref b) false) prog w E Q (q _ s.toks rfl)
  have := RcNeAt.lists (A := A) (s := s) (e := fun _ => true) hl hl' hsz (by omega) (fun j h1 h2 => ?_)
  · have e : (!(List.range vs.toArray.size).all fun _ => true) = false := by simp
    rw [e] at this
    exact this
  · obtain ⟨x, hx1, aM, dx, t, u, p, hv, hgM⟩ := hF.get j vs.toArray[j] (by simp at h1 ⊢)
    obtain ⟨y, hy1, aT, t', u', p', hv', hgT⟩ := hG.get j us.toArray[j] (by simp at h2 ⊢)
    rw [hx1] at hy1
    cases hy1
    rw [hv, hv']
    have hM := G.now _ _ (G.sub _ _ hgM)
    have hT := G.now _ _ (G.sub _ _ hgT)
    refine EqAt.of_refs (fun e => ?_) (mis_rc (vs := [Value.int x.1 t, Value.int x.2.1 u, Value.int x.2.2 p]) (us := [Value.int x.1 t', Value.int x.2.1 u', Value.int x.2.2 p']) Te' (fun b o e => G.heap _ _ (hbase _ _ e)) rfl hM hT (fun A' _ p hp => ?_) (by show A.units + 1 < cLine; omega))
    · rw [e, hT] at hM
      have := congrArg (fun o => o.map Obj.cls) hM
      simp [misObj, seqObj] at this
    · simp only [List.zip_cons_cons, List.zip_nil_right, List.mem_cons, List.not_mem_nil, or_false] at hp
      rcases hp with rfl | rfl | rfl
      · have := EqAt.int_int (A := A') (s := s) x.1 t x.1 t'; simpa using this
      · have := EqAt.int_int (A := A') (s := s) x.2.1 u x.2.1 u'; simpa using this
      · have := EqAt.int_int (A := A') (s := s) x.2.2 p x.2.2 p'; simpa using this

theorem op_eqNil {a b : Addr} {vs : List Value} {n m : Nat} (ha : g a = some (seqObj "list" vs.toArray n)) (hb' : g b = some (seqObj "list" ([] : List Value).toArray m)) (hu : A.units + 10 < cLine) :
    Ev prog w A g h (compareOp .Eq (.ref a) (.ref b)) (isV (.bool vs.isEmpty)) := by
  refine Ev.of fun s g₁ Q E G q => ?_
  have hl : s.heap.IsList a vs.toArray := ⟨_, G.now _ _ (G.sub _ _ ha), rfl, n, rfl⟩
  have hl' : s.heap.IsList b ([] : List Value).toArray := ⟨_, G.now _ _ (G.sub _ _ hb'), rfl, m, rfl⟩
  refine (?_ : RcAt A s (.ref a) (.ref b) vs.isEmpty) prog w E Q (q _ s.toks rfl)
  cases vs with
  | nil => exact RcAt.lists (e := fun _ => true) hl hl' rfl (by omega) (fun j h1 h2 => by simp at h1)
  | cons v vs => exact RcAt.lists_lengths hl hl' (by simp) (by omega)

theorem op_eqRes {xs ys : List Int} {u v : Value} (hu : TupOf (consP (IL xs) (consP (IL ys) nilP)) g h u) (hv : TupOf (consP (IL xs) (consP (IL ys) nilP)) g h v) (hr : A.units + 64 < cLine) : Ev prog w A g h (compareOp .Eq u v) (isV (.bool true)) := by
  have rd : ∀ {g' : Map} {h' : Heap} {u : Value}, (∀ b o, g' b = some o → h'.get? b = some o) → TupOf (consP (IL xs) (consP (IL ys) nilP)) g' h' u → ∃ as, Reads h' u (.tuple [dI xs, dI ys]) as := by
    rintro g' h' u hs ⟨a, vs, rfl, ha, x, r, rfl, px, y, r', rfl, py, pn⟩
    cases pn
    obtain ⟨as1, r1⟩ := readsIL hs px
    obtain ⟨as2, r2⟩ := readsIL hs py
    exact ⟨_, Reads.tuple (hs _ _ ha) rfl rfl (ReadsAll.cons r1 (ReadsAll.cons r2 ReadsAll.nil))⟩
  have m := mono_TupOf (mono_consP (mono_IL xs) (mono_consP (mono_IL ys) mono_nilP))
  refine Ev.of fun s g₁ Q E G q => ?_
  obtain ⟨as, ra⟩ := rd G.now (m _ _ _ _ _ G hu)
  obtain ⟨bs, rb⟩ := rd G.now (m _ _ _ _ _ G hv)
  exact eq_dataH ra rb (shaped2 _ _) (shaped2 _ _) hr (by rw [eqv2]; exact q _ s.toks rfl)

theorem op_isNot {p q : Bool} : Ev prog w A g h (compareOp .IsNot (.bool p) (.bool q)) (isV (.bool (p != q))) := Ev.of fun s g₁ Q E G k => isnot_bool (k _ s.toks rfl)

/-- none of three -/
theorem test_or3 {a b c : Expr} {pos : Pos} {whole : Sem Value} (ha : Ev prog w A g h (isTrue a env (eval a env)) (isB false)) (hb : Ev prog w A g h (isTrue b env (eval b env)) (isB false)) (hc : Ev prog w A g h (isTrue c env (eval c env)) (isB false)) :
    Ev prog w A g h (isTrue (.BoolOp .Or [a, b, c] pos) env whole) (isB false) :=
  fun s g₁ Q E G k => by
    show wpAny _ A (allTrue .Or [a, b, c] env) _ _ _
    refine wpAny_bind (ha s g₁ _ _ G fun v g₂ h₂ tk₂ G₂ p => ?_)
    cases p
    show wpAny _ A (allTrue .Or [b, c] env) _ _ _
    refine wpAny_bind (hb _ g₂ _ _ (G.trans G₂) fun v g₃ h₃ tk₃ G₃ p => ?_)
    cases p
    show wpAny _ A (allTrue .Or [c] env) _ _ _
    refine wpAny_bind (hc _ g₃ _ _ ((G.trans G₂).trans G₃) fun v g₄ h₄ tk₄ G₄ p => ?_)
    cases p
    show wpAny _ A (allTrue .Or [] env) _ _ _
    exact wpAny_pure (k _ g₄ h₄ tk₄ ((G₂.trans G₃).trans G₄) rfl)
end
end Mine
end

section
open PySem PySem.W PyProof.Rows
set_option autoImplicit false
set_option linter.unusedVariables false
namespace Mine

/-- the law's own lists -/
def wsF (xs : List Int) : List Int := (xs.take 7).map fun x => x.fmod ((xs.take 7).length : Nat)
def wishedF (ws : List Int) (n : Nat) : List Int := (intsF 0 n).flatMap fun p => (intsF 0 (ws.getD p.toNat 0).toNat).map fun _ => p
def firstAt (met : List Int) (k : Int) : Bool := !((met.take k.toNat).any (· == met.getD k.toNat 0))
def orderF (met : List Int) : List Int := ((intsF 0 met.length).filter (firstAt met)).map fun k => met.getD k.toNat 0
def badF (ends ws : List Int) (p : Int) : Bool := ((ends.count p : Nat) : Int) != ws.getD p.toNat 0
def tripF (ends ws : List Int) (p : Int) : Int × Int × Int := (((ends.count p : Nat) : Int), ws.getD p.toNat 0, p)
def ownTold (ends ws order : List Int) : List (Int × Int × Int) := (order.filter (badF ends ws)).map (tripF ends ws)

theorem wsF_length (xs : List Int) : (wsF xs).length = (xs.take 7).length := List.length_map _
theorem wsF_le (xs : List Int) : (wsF xs).length ≤ 7 := by rw [wsF_length, List.length_take]; omega
theorem wsF_mem {xs : List Int} : ∀ x ∈ wsF xs, 0 ≤ x ∧ x < ((wsF xs).length : Nat) := by
  intro x hx
  rw [wsF_length]
  obtain ⟨y, hy, rfl⟩ := List.mem_map.mp hx
  have hpos : 0 < (xs.take 7).length := List.length_pos_of_mem hy
  have hne : (((xs.take 7).length : Nat) : Int) ≠ 0 := by omega
  rw [Int.fmod_eq_emod_of_nonneg _ (by omega)]
  exact ⟨Int.emod_nonneg _ hne, Int.emod_lt_of_pos _ (by omega)⟩

structure Tie (T : List (List Int)) (n : Nat) (tie : List Int) : Prop where
  two : ∃ a b, tie = [a, b] ∧ a ≠ b ∧ 0 ≤ a ∧ a < n ∧ 0 ≤ b ∧ b < n
  once : T.count tie + T.count tie.reverse = 1

end Mine
end

section
open PySem PySem.W PyProof.Rows
set_option autoImplicit false
set_option linter.unusedVariables false
set_option maxRecDepth 100000
namespace Mine

theorem ints_of_get : ∀ {vs : List Value} {ns : List Int}, vs.length = ns.length → (∀ (j : Nat) (v : Value) (i : Int), vs[j]? = some v → ns[j]? = some i → ∃ t, v = Value.int i t) → IntsAre vs ns
  | [], [], _, _ => .nil
  | [], _ :: _, h, _ => by cases h
  | _ :: _, [], h, _ => by cases h
  | v :: vs, i :: ns, h, k => by
    obtain ⟨t, rfl⟩ := k 0 v i rfl rfl
    exact .cons i t (ints_of_get (by simpa using h) fun j v i h1 h2 => k (j + 1) v i h1 h2)

section
variable {prog : Program} {w : World} {A : Around} {g : Map} {h : Heap} {env : Env}
theorem cl_listR {v : Value} {n : Nat} (hh : A.handled = none) (hr : isR 0 (n : Nat) g h v) (hn : n ≤ 900) : EvN prog w A g h (call (.type "list") [v]) (fun _ _ us => IntsAre us (intsF 0 n)) :=
  fun s g₁ Q E G k => by
    obtain ⟨r, t, u, z, rfl, hR⟩ := hr
    have hrs := rangeSize_nat 0 (n : Int)
    refine call_list_range (n := n) hh (G.heap _ _ hR) (small_up (by omega) (by omega) (by omega) (by omega)) (by rw [hrs]; omega) (by omega) fun h' tk acc' c' hk hS' hacc => ?_
    refine k s.heap.objs.size acc'.toList c' g₁ h' tk (Gr.of_heap G.now hk) (get_new _) (g_new G.now (get_new _)) (by rw [Array.toArray_toList]; exact hS') ?_
    refine ints_of_get (by rw [intsF_length, Array.length_toList]; exact hacc.1) fun j v i h1 h2 => ?_
    obtain ⟨tk, rfl⟩ := hacc.2 j v (by simpa using h1)
    have hj : j < n := by
      have := (List.getElem?_eq_some_iff.mp h2).1
      rwa [intsF_length] at this
    rw [intsF_get 0 n j hj] at h2
    cases h2
    exact ⟨tk, by rw [Int.mul_one]⟩
end

section
variable {g₀ g g' : Map} {h₀ h h' : Heap} {env : Env} {m cm : Str → Option Value} {W : List (Addr × Obj)}
/-- behind a call that noted the frame: its locals have other slots -/
theorem Fm.noted {oL : Obj} {sl : Array (Option Value)} (F : Fm g₀ h₀ env m cm [] g h) (hL : h.get? env.locals = some oL) (G : Gr g (hideAll h [env.locals]) g' h') (hL' : h'.get? env.locals = some { oL with slots := sl }) (hg : g' env.locals = none) :
    Fm g₀ h₀ env m cm [] g' h' where
  gr := ⟨fun b o e => G.heap b o (hideAll_get _ (F.gr.heap _ _ e) (by
      intro q; rw [List.mem_singleton.mp q, F.nl] at e; cases e)), fun b o e => G.sub _ _ (F.gr.sub _ _ e),
    (fun b o e => by
      rcases G.new _ _ e with q | q
      · exact F.gr.new _ _ q
      · right
        by_cases hb : b = env.locals
        · rw [hb]; exact F.nl
        · cases k : h₀.get? b with
          | none => rfl
          | some o' => rw [hideAll_get _ (F.gr.heap _ _ k) (by simpa using hb)] at q; cases q),
    G.now⟩
  ns := by
    obtain ⟨o, es, ep, ho, hd, hr⟩ := F.ns
    rw [ho] at hL
    cases hL
    exact ⟨_, es, ep, hL', hd, hr⟩
  nl := F.nl
  gl := hg
  cells := fun n c e => by
    obtain ⟨⟨o, ho, hd⟩, h2, h3, h4⟩ := F.cells n c e
    have hh : (hideAll h [env.locals]).get? c = some o := hideAll_get _ ho (by simpa using h3)
    exact ⟨⟨o, G.heap _ _ hh, hd⟩, G.keepNone h2 hh, h3, h4⟩
  apart := F.apart
  led := fun p hp => by cases hp
  nd := .nil
end
end Mine
end

section
open PySem PySem.W PyProof.Rows
set_option autoImplicit false
set_option linter.unusedVariables false
set_option maxRecDepth 100000
namespace Mine
open PySem.SeqAt

abbrev eLaw (doc pm : Value) (an : Option Addr) (cd ct : Value) (L fa : Addr) : Env := callEnvC (fdOf (top 12) "law" doc pm an cd ct) L fa

/-- the plain law, of what the walk computes -/
structure Plain (ws : List Int) : Prop where
  ties : ∀ T, Run ws.length (startW ws) T → (∀ tie ∈ T, Tie T ws.length tie) ∧ T.length ≤ 21
  told : ∀ T, Run ws.length (startW ws) T → toldF T.flatten (wishedF ws ws.length) = ownTold T.flatten ws (orderF (T.flatten ++ wishedF ws ws.length))
  could : ∀ T fl, Run ws.length (startW ws) T → fl.Perm ws → fl.Pairwise (· ≥ ·) → (toldF T.flatten (wishedF ws ws.length)).isEmpty = couldF fl ws
  wish : (wishedF ws ws.length).length ≤ 42

theorem flat_len {L : List (List Int)} (h : ∀ t ∈ L, t.length = 2) : (L.flatMap fun a => a.map fun p => p).length = 2 * L.length := by
  induction L with
  | nil => rfl
  | cons t L ih =>
    rw [List.flatMap_cons, List.length_append, List.length_map, ih fun x hx => h x (.tail _ hx), h t (.head _), List.length_cons]; omega
theorem flat_eq (L : List (List Int)) : (L.flatMap fun a => a.map fun p => p) = L.flatten := by
  induction L with
  | nil => rfl
  | cons t L ih => rw [List.flatMap_cons, List.flatten_cons, ih, List.map_id']
theorem take_flat {L : List Int} {f : Int → List Int} (i : Nat) : ((L.take i).flatMap f).length ≤ (L.flatMap f).length := by
  conv => rhs; rw [← List.take_append_drop i L, List.flatMap_append, List.length_append]
  omega
theorem getD_get {ns : List Int} {k : Nat} (h : k < ns.length) : ns[k]? = some (ns.getD k 0) := by
  rw [List.getD_eq_getElem?_getD, List.getElem?_eq_getElem h]; rfl
theorem mem_wished {ws : List Int} {n : Nat} {p : Int} (h : p ∈ wishedF ws n) : 0 ≤ p ∧ p < n := by
  obtain ⟨q, hq, hp⟩ := List.mem_flatMap.mp h
  obtain ⟨_, _, rfl⟩ := List.mem_map.mp hp
  exact mem_intsF.mp hq
theorem mem_order {met : List Int} {p : Int} (h : p ∈ orderF met) : p ∈ met := by
  obtain ⟨k, hk, rfl⟩ := List.mem_map.mp h
  have hk' := mem_intsF.mp (List.mem_filter.mp hk).1
  have hlt : k.toNat < met.length := by omega
  exact List.mem_of_getElem? (getD_get hlt)

section
variable {prog : Program} {w : World} {mg mb : Str → Option Value}

theorem law_fn {s : Shared} (T : Tp s.heap mg mb) (Tm' : Tm s.heap) (Te' : Te s.heap) {fa : Addr} {o : Obj} {doc pm cd ct : Value} {an : Option Addr} (ho : s.heap.get? fa = some o) (hd : o.data = .func (fdOf (top 12) "law" doc pm an cd ct)) (hcd : s.heap.CodeRec cd "law")
    {a : Addr} {vs : List Value} {xs : List Int} (hL : s.heap.IsList a vs.toArray) (hI : IntsAre vs xs) (hz : xs.length ≤ 63) (PL : Plain (wsF xs)) {R : Result → Shared → Prop}
    (k : ∀ h' tk, (∀ b o, s.heap.get? b = some o → h'.get? b = some o) → R (.ok (.ret (.bool true))) { s with heap := h', toks := tk }) :
    codeAny (model prog w) callerA (.call (.ref fa) ⟨[.ref a], []⟩) R s := by
  refine codeAny_call_cells (fd := fdOf (top 12) "law" doc pm an cd ct) (body := fnBody (top 12)) (binds := [(Str.ofString "script", .ref a)]) (by decide) ho hd T.nolimit hcd rfl rfl rfl (kindsX rfl _) (fun s₁ X => ?_) rfl rfl rfl
  obtain ⟨h₁, tk₁, rfl, hkp⟩ := X.toInCall.done
  have hLs : s.heap.get? s.heap.objs.size = none := get_new _
  have above : ∀ n c, (callEnvC (fdOf (top 12) "law" doc pm an cd ct) s.heap.objs.size fa).cells.lookup n = some c → s.heap.objs.size < c := fun n c e => X.above n c (mem_of_lookup e)
  have F₁ : Fm (fun b => s.heap.get? b) s.heap (eLaw doc pm an cd ct s.heap.objs.size fa) (bindL (callEnvC (fdOf (top 12) "law" doc pm an cd ct) s.heap.objs.size fa).kindOf [(Str.ofString "script", .ref a)] fun _ => none) (bindC (callEnvC (fdOf (top 12) "law" doc pm an cd ct) s.heap.objs.size fa).kindOf [(Str.ofString "script", .ref a)] fun _ => none) [] (fun b => s.heap.get? b) h₁ := {
    gr := Gr.of_heap (fun _ _ e => e) hkp, ns := X.toInCall.ns, nl := hLs, gl := hLs
    cells := fun n c e => by
      have hc : s.heap.get? c = none := Heap.get?_none_of_le (Nat.le_of_lt (above n c e))
      exact ⟨X.cell n c e, hc, Nat.ne_of_gt (above n c e), hc⟩
    apart := fun n n' c e e' => name_of_addr X.apart (mem_of_lookup e) (mem_of_lookup e')
    led := fun p hp => by cases hp
    nd := .nil }
  have hh : (callerA.deeper (eLaw doc pm an cd ct s.heap.objs.size fa)).handled = none := rfl
  have hu : (callerA.deeper (callEnvC (fdOf (top 12) "law" doc pm an cd ct) s.heap.objs.size fa)).units + 200 < cLine := by show 4 + 3 + 200 < cLine; decide
  have hroom : (callerA.deeper (callEnvC (fdOf (top 12) "law" doc pm an cd ct) s.heap.objs.size fa)).depth + 10 < recursionLimit := by show 1 + claimMargin + 1 + 10 < recursionLimit; decide
  have hb₁ : ∀ b o, s.heap.get? b = some o → h₁.get? b = some o := hkp
  have hn7 : (xs.take 7).length ≤ 7 := by rw [List.length_take]; omega
  have hvl := hI.length
  -- numbers = script[:7]
  refine ex_assign (P := IL (xs.take 7)) F₁ (EvN.eqI (us := vs.take 7) (hI.take _) ?_) fun vN g₂ h₂' h₂ tk₂ hs₂ pN F₂ => ?_
  · exact ev_slUpto (n := 0) (F₁.loc (v := .ref a) rfl rfl (mono_isV _)) (isList_up hL hb₁) ev_int (by omega) (by omega)
  have hb₂ : ∀ b o, s.heap.get? b = some o → h₂.get? b = some o := fun b o e => F₂.gr.heap _ _ e
  -- n = len(numbers)
  refine ex_assignC (x := "n") (c := s.heap.objs.size + 1) (P := isI ((xs.take 7).length : Nat)) F₂ rfl (ev_lenI (ns := xs.take 7) T hb₂ (F₂.loc (v := vN) rfl pN (mono_IL _)) (by omega)) fun vn g₃ h₃' h₃ tk₃ hs₃ pn F₃ => ?_
  have hb₃ : ∀ b o, s.heap.get? b = some o → h₃.get? b = some o := fun b o e => F₃.gr.heap _ _ e
  -- wishes = [x % n for x in numbers]
  refine ex_assignC (x := "wishes") (c := s.heap.objs.size + 2) (P := IL (wsF xs)) F₃ rfl (EvN.f2I ?_) fun vW g₄ h₄' h₄ tk₄ hs₄ pW F₄ => ?_
  · refine ev_map (items := xs.take 7) (fun x => x.fmod ((xs.take 7).length : Nat)) (cl := [(Str.ofString "n", s.heap.objs.size + 1)]) rfl (by decide) rfl (by decide) rfl mono_kI mono_kI (Ev.walkI hh (F₃.loc (x := "numbers") (v := vN) rfl (mono_ILv _ _ _ _ hs₃ pN) (mono_IL _))) (by omega) fun x hx C mC g' h' u G' hn hu' hR => ?_
    exact ev_binop (mono_isI x) (ev_local hn hu' hR (mono_isI x)) (ev_cell (c := s.heap.objs.size + 1) (v := vn) rfl ((F₃.cells "n" (s.heap.objs.size + 1) rfl).1.keeps G'.heap) pn (mono_isI _)) fun _ _ _ _ _ p q => op_mod p q (by have := List.length_pos_of_mem hx; omega)
  generalize hws : wsF xs = ws at PL pW
  have hwl : ws.length = (xs.take 7).length := by rw [← hws]; exact wsF_length xs
  have hw7 : ws.length ≤ 7 := by omega
  have hwm : ∀ x ∈ ws, 0 ≤ x ∧ x < (ws.length : Nat) := by rw [← hws]; exact wsF_mem
  rw [← hwl] at pn
  have hb₄ : ∀ b o, s.heap.get? b = some o → h₄.get? b = some o := fun b o e => F₄.gr.heap _ _ e
  have hg₄ : ∀ b o, s.heap.get? b = some o → g₄ b = some o := fun b o e => F₄.gr.sub _ _ e
  -- ties = _law_ties(wishes)
  obtain ⟨oT, docT, pmT, anT, cdT, ctT, hoT, hdT, hcdT⟩ := T.fTies
  refine ex_assign (P := fun g' h' u => ∃ Ts, LL Ts g' h' u ∧ Run ws.length (startW ws) Ts) F₄ (ev_callD (P₁ := consP (IL ws) nilP) (nm_g T hb₄ T.gTies) (hb₄ _ _ hoT) hdT (spl_cons (mono_IL _) (F₄.cel (x := "wishes") (c := s.heap.objs.size + 2) (v := vW) rfl rfl pW (mono_IL _)) spl_nil) fun us g' h' G' p => ?_) fun vT g₅ h₅' h₅ tk₅ hs₅ pT F₅ => ?_
  · obtain ⟨x, r, rfl, p1, p2⟩ := p
    cases p2
    exact ties_fn T (fun b o e => G'.sub _ _ (hg₄ _ _ e)) p1 hw7 (fun x hx => (hwm x hx).1) hh (by omega) (by omega)
  obtain ⟨Ts, pT, hRun⟩ := pT
  obtain ⟨hTie, hT21⟩ := PL.ties Ts hRun
  have hTold := PL.told Ts hRun
  have hCould := PL.could Ts
  obtain ⟨aT, vTs, nT, rfl, haT, hTs⟩ := id pT
  have hTl := hTs.length
  -- for tie in ties
  refine ex_for (items := Ts) mono_ILv F₅ (Ev.walkL hh (F₅.loc (x := "ties") (v := .ref aT) rfl pT (mono_LL _))) (fun m x => updS m "tie" x) (fun cm _ => cm) st_name
    (fun i m cm' W g => m "ties" = some (.ref aT) ∧ cm' "wishes" = some vW ∧ cm' "n" = some vn ∧ W = []) (fun g' hs' => ⟨rfl, rfl, rfl, rfl⟩) ?_ ?_
  · rintro i tie xv m₁ cm₁ W₁ g₆ h₆ tk₆ I oI E₁ htie hxv hs₆ ⟨mT, cW, cN, rfl⟩ F₆
    obtain ⟨⟨x, y, rfl, hxy, _⟩, honce⟩ := hTie tie (List.mem_of_getElem? htie)
    have hb₆ : ∀ b o, s.heap.get? b = some o → h₆.get? b = some o := fun b o e => F₆.gr.heap _ _ e
    have eTie (p : Pos) := F₆.loc (prog := prog) (w := w) (A := callerA.deeper (callEnvC (fdOf (top 12) "law" doc pm an cd ct) s.heap.objs.size fa)) (x := "tie") (pos := p) (v := xv) rfl (P := IL [x, y]) hxv (mono_IL _)
    have eTs (p : Pos) := F₆.loc (prog := prog) (w := w) (A := callerA.deeper (callEnvC (fdOf (top 12) "law" doc pm an cd ct) s.heap.objs.size fa)) (x := "ties") (pos := p) (v := .ref aT) mT (P := LL Ts) ⟨aT, vTs, nT, rfl, hs₆ _ _ haT, hTs.mono hs₆⟩ (mono_LL _)
    refine ex_if (c := false) F₆ (test_or3 ?_ ?_ ?_) fun g₇ h₇ tk₇ hs₇ F₇ => ?_
    · exact ev_test (mono_isI _) (ev_lenI (ns := [x, y]) T hb₆ (eTie _) (by simp)) ev_int fun _ _ _ _ _ p q => (op_ne p q).weaken fun _ _ v _ e => by rw [e]; rfl
    · exact ev_test (mono_isI x) (ev_item (ns := [x, y]) (k := 0) (x := x) (eTie _) ev_int (by omega) (by omega) rfl) (ev_item (ns := [x, y]) (k := 1) (x := y) (eTie _) ev_int (by omega) (by omega) rfl) fun _ _ _ _ _ p q => (op_eq p q).weaken fun _ _ v _ e => by
        rw [e, show (x == y) = false by simpa using hxy]; rfl
    · refine ev_test (P₁ := isI ((Ts.count [x, y] : Nat) + (Ts.count [y, x] : Nat))) (mono_isI _) (ev_binop (mono_isI _) ?_ ?_ fun _ _ _ _ _ p q => op_add p q) ev_int fun _ _ _ _ _ p q => (op_ne p q).weaken fun _ _ v _ e => ?_
      · exact ev_meth (P₁ := LL Ts) (P₂ := IL [x, y]) (mono_LL _) PySem.F.slot_list_count PySem.F.type_list_count (eTs _) (fun v g' h' p hs => p.at hs) (eTie _) fun v u g' h' G p q => cl_countL p q (by omega)
      · refine ev_meth (P₁ := LL Ts) (P₂ := IL [y, x]) (mono_LL _) PySem.F.slot_list_count PySem.F.type_list_count (eTs _) (fun v g' h' p hs => p.at hs) ?_ fun v u g' h' G p q => cl_countL p q (by omega)
        obtain ⟨ax, vx, nx, rfl, hax, hIx⟩ := hxv
        cases hIx with
        | cons _ t1 r =>
          cases r with
          | cons _ t2 r =>
            cases r
            refine EvN.eqI (us := [Value.int x t1, Value.int y t2].reverse) (.cons _ _ (.cons _ _ .nil)) (ev_rev (P := isV (.ref ax)) (mono_isV _) (F₆.loc (x := "tie") (v := .ref ax) rfl rfl (mono_isV _)) (ev_neg ev_int) (fun o g' h' G p => ⟨ax, p, listAt G.now (G.sub _ _ hax)⟩) (by simp))
      · rw [e]
        have : ((Ts.count [x, y] : Nat) : Int) + (Ts.count [y, x] : Nat) = 1 := by
          have := honce
          simp only [List.reverse_cons, List.reverse_nil, List.nil_append, List.singleton_append] at this
          omega
        rw [this]; rfl
    · simp only [Bool.false_eq_true, if_false]
      refine wpAny_execs_nil (wpAny_execs_nil ?_)
      exact ⟨_, _, _, g₇, h₇, tk₇, rfl, hs₇, F₇, mT, cW, cN, rfl⟩
  · intro m₁ cm₁ W₁ g₆ h₆ tk₆ hs₆ ⟨mT, cW, cN, hW⟩ F₆
    subst hW
    have hb₆ : ∀ b o, s.heap.get? b = some o → h₆.get? b = some o := fun b o e => F₆.gr.heap _ _ e
    have up₆ : ∀ b o, g₄ b = some o → g₆ b = some o := fun b o e => hs₆ _ _ (hs₅ _ _ e)
    have hlen2 : ∀ t ∈ Ts, t.length = 2 := fun t ht => by obtain ⟨⟨x, y, rfl, _⟩, _⟩ := hTie t ht; rfl
    have hends : Ts.flatten.length = 2 * Ts.length := by rw [← flat_eq, flat_len hlen2]
    have hmE : ∀ p ∈ Ts.flatten, 0 ≤ p ∧ p < (ws.length : Nat) := fun p hp => by
      obtain ⟨t, ht, hp⟩ := List.mem_flatten.mp hp
      obtain ⟨⟨x, y, rfl, _, h1, h2, h3, h4⟩, _⟩ := hTie t ht
      simp only [List.mem_cons, List.not_mem_nil, or_false] at hp
      rcases hp with rfl | rfl
      · exact ⟨h1, h2⟩
      · exact ⟨h3, h4⟩
    -- ends = [person for tie in ties for person in tie]
    refine ex_assignC (x := "ends") (c := s.heap.objs.size + 3) (P := IL Ts.flatten) F₆ rfl ?_ fun vE g₇ h₇' h₇ tk₇ hs₇ pE F₇ => ?_
    · rw [← flat_eq]
      refine EvN.f2I (ev_comp2 (items := Ts) (fun tie => tie) (R := ILv) (R2 := kI) (S := kI) (out := fun _ p => p) (cl := []) rfl (by decide) rfl (by decide) rfl rfl (by decide) mono_ILv mono_kI mono_kI
        (Ev.walkL hh (F₆.loc (x := "ties") (v := .ref aT) mT ⟨aT, vTs, nT, rfl, hs₆ _ _ haT, hTs.mono hs₆⟩ (mono_LL _))) (fun i => ?_) (fun t ht => by rw [hlen2 t ht]; omega) (fun t ht C mC g' h' v G' hn hv hR => Ev.walkI hh (ev_local hn hv hR (mono_IL _))) fun t ht p hp C mC g' h' v u G' hn hv hu' hR hR2 => ev_local hn hu' hR2 (mono_isI p))
      rw [flat_len fun t ht => hlen2 t (List.mem_of_mem_take ht), List.length_take]; omega
    have hb₇ : ∀ b o, s.heap.get? b = some o → h₇.get? b = some o := fun b o e => F₇.gr.heap _ _ e
    have pW₇ : ILv g₇ ws vW := mono_ILv _ _ _ _ (fun b o e => hs₇ _ _ (up₆ _ _ e)) pW
    -- wished = [person for person in range(n) for _ in range(wishes[person])]
    refine ex_comp2 (z := "wished") (items := intsF 0 ws.length) (fun p => intsF 0 (ws.getD p.toNat 0).toNat) (R := kI) (R2 := kI) (S := kI) (out := fun p _ => p) (cl := [(Str.ofString "wishes", s.heap.objs.size + 2)]) F₇ rfl (by decide) rfl (by decide) rfl rfl (by decide) mono_kI mono_kI mono_kI ?_ ?_ ?_ ?_ ?_ ?_ rfl
    · exact ev_range1 (n := ((ws.length : Nat) : Int)) T hb₇ hh (F₇.cel (x := "n") (c := s.heap.objs.size + 1) (v := vn) rfl cN pn (mono_isI _)) (by omega) (by omega)
    · intro i
      have h1 := take_flat (L := intsF 0 ws.length) (f := fun p => (intsF 0 (ws.getD p.toNat 0).toNat).map fun _ => p) i
      have h2 := PL.wish
      unfold wishedF at h2
      omega
    · intro p hp
      have h1 := mem_intsF.mp hp
      have h2 := hwm _ (List.mem_of_getElem? (getD_get (ns := ws) (k := p.toNat) (by omega)))
      rw [intsF_length]; omega
    · intro p hp C mC g' h' v G' hn hv hR
      have h1 := mem_intsF.mp hp
      have h2 := hwm _ (List.mem_of_getElem? (getD_get (ns := ws) (k := p.toNat) (by omega)))
      exact ev_range1 (n := ws.getD p.toNat 0) T (fun b o e => G'.heap _ _ (hb₇ _ _ e)) hh (ev_item (ns := ws) (k := p) (ev_cell (c := s.heap.objs.size + 2) (v := vW) rfl ((F₇.cells "wishes" (s.heap.objs.size + 2) rfl).1.keeps G'.heap |> fun q => (show updS cm₁ "ends" vE "wishes" = some vW from cW) ▸ q) (mono_ILv _ _ _ _ G'.sub pW₇) (mono_IL ws)) (ev_local hn hv hR (mono_isI p)) (by omega) (by omega) (getD_get (by omega))) (by omega) (by omega)
    · intro p hp q hq C mC g' h' v u G' hn hv hu' hR hR2
      exact ev_local hn hv hR (mono_isI p)
    · intro aM vM nM g₈ h₈ tk₈ hs₈ hM F₈
      have F₉ := F₈.freeze
      have hM₉ := upd_self g₈ aM (seqObj "list" vM.toArray nM)
      have hs₉ : ∀ b o, g₇ b = some o → upd g₈ aM (seqObj "list" vM.toArray nM) b = some o := fun b o e => F₈.freeze_sub _ _ (hs₈ _ _ e)
      generalize upd g₈ aM (seqObj "list" vM.toArray nM) = g₉ at F₉ hM₉ hs₉
      have pD : ILv g₉ (wishedF ws ws.length) (.ref aM) := ⟨aM, vM, nM, rfl, hM₉, F2.ints hM⟩
      generalize hwd : wishedF ws ws.length = wished at pD hTold hCould
      have hwdl : wished.length ≤ 42 := by rw [← hwd]; exact PL.wish
      have hmD : ∀ p ∈ wished, 0 ≤ p ∧ p < (ws.length : Nat) := by rw [← hwd]; exact fun p hp => mem_wished hp
      generalize hed : Ts.flatten = ends at pE hends hmE hTold hCould
      have hedl : ends.length ≤ 42 := by omega
      have pE₉ : ILv g₉ ends vE := mono_ILv _ _ _ _ hs₉ pE
      have pW₉ : ILv g₉ ws vW := mono_ILv _ _ _ _ hs₉ pW₇
      have hb₉ : ∀ b o, s.heap.get? b = some o → h₈.get? b = some o := fun b o e => F₉.gr.heap _ _ e
      -- met = ends + wished
      refine ex_assignC (x := "met") (c := s.heap.objs.size + 4) (P := IL (ends ++ wished)) F₉ rfl ?_ fun vX g₁₀ h₁₀' h₁₀ tk₁₀ hs₁₀ pX F₁₀ => ?_
      · refine ev_binop (P₁ := IL ends) (P₂ := IL wished) (mono_IL _) (F₉.cel (x := "ends") (c := s.heap.objs.size + 3) (v := vE) rfl rfl pE₉ (mono_IL _)) (F₉.loc (x := "wished") (v := .ref aM) rfl pD (mono_IL _)) fun x y g' h' G p q => ?_
        obtain ⟨a1, v1, n1, rfl, ha1, hI1⟩ := p
        obtain ⟨a2, v2, n2, rfl, ha2, hI2⟩ := q
        exact EvN.eqI (hI1.append hI2) (op_addL (G.now _ _ ha1) (G.now _ _ ha2) (by have := hI1.length; have := hI2.length; omega))
      generalize hmt : ends ++ wished = met at pX hTold
      have hml : met.length ≤ 84 := by rw [← hmt, List.length_append]; omega
      have hmM : ∀ p ∈ met, 0 ≤ p ∧ p < (ws.length : Nat) := fun p hp => by
        rw [← hmt] at hp
        rcases List.mem_append.mp hp with h | h
        · exact hmE p h
        · exact hmD p h
      have hb₁₀ : ∀ b o, s.heap.get? b = some o → h₁₀.get? b = some o := fun b o e => F₁₀.gr.heap _ _ e
      -- order = [met[k] for k in range(len(met)) if met[k] not in met[:k]]
      refine ex_comp (y := "order") (S := kI) (R := kI) (items := intsF 0 met.length) (test := firstAt met) (out := fun k => met.getD k.toNat 0) (cl := [(Str.ofString "met", s.heap.objs.size + 4)]) F₁₀ rfl (by decide) rfl (by decide) rfl mono_kI mono_kI ?_ (by rw [intsF_length]; omega) ?_ ?_ rfl
      · exact ev_range1 (n := ((met.length : Nat) : Int)) T hb₁₀ hh (ev_lenI (ns := met) T hb₁₀ (F₁₀.cel (x := "met") (c := s.heap.objs.size + 4) (v := vX) rfl rfl pX (mono_IL _)) (by omega)) (by omega) (by omega)
      · intro k' hk C mC g' h' v G' hn hv hR
        have h1 := mem_intsF.mp hk
        have hk2 : met[k'.toNat]? = some (met.getD k'.toNat 0) := getD_get (by omega)
        have cX := (F₁₀.cells "met" (s.heap.objs.size + 4) rfl).1.keeps G'.heap
        have pX' : ILv g' met vX := mono_ILv _ _ _ _ G'.sub pX
        have hkk : k' < 2 ^ 63 := by omega
        refine ⟨tests_one ?_, fun _ => ev_item (ns := met) (k := k') (ev_cell (c := s.heap.objs.size + 4) (v := vX) rfl cX pX' (mono_IL met)) (ev_local hn hv hR (mono_isI k')) h1.1 hkk hk2⟩
        refine ev_test (P₁ := isI (met.getD k'.toNat 0)) (P₂ := IL (met.take k'.toNat)) (mono_isI _) (ev_item (ns := met) (k := k') (ev_cell (c := s.heap.objs.size + 4) (v := vX) rfl cX pX' (mono_IL met)) (ev_local hn hv hR (mono_isI k')) h1.1 hkk hk2) ?_ fun x y g'' h'' G'' p q => ?_
        · obtain ⟨aX, wX, nX, rfl, haX, hIX⟩ := pX'
          refine EvN.eqI (us := wX.take k'.toNat) (hIX.take _) ?_
          exact ev_slUpto (n := nX) (ev_cell (c := s.heap.objs.size + 4) (v := .ref aX) rfl cX (P := isV (.ref aX)) rfl (mono_isV _)) (listAt G'.now haX) (ev_local hn hv hR (mono_isI k')) h1.1 (by have := hIX.length; omega)
        · obtain ⟨aY, wY, nY, rfl, haY, hIY⟩ := q
          exact op_notIn (listAt G''.now haY) hIY p
      · intro aO vO nO g₁₁ h₁₁ tk₁₁ hs₁₁ hO F₁₁
        have F₁₂ := F₁₁.freeze
        have hO₁₂ := upd_self g₁₁ aO (seqObj "list" vO.toArray nO)
        have hs₁₂ : ∀ b o, g₁₀ b = some o → upd g₁₁ aO (seqObj "list" vO.toArray nO) b = some o := fun b o e => F₁₁.freeze_sub _ _ (hs₁₁ _ _ e)
        generalize upd g₁₁ aO (seqObj "list" vO.toArray nO) = g₁₂ at F₁₂ hO₁₂ hs₁₂
        have pO : ILv g₁₂ (orderF met) (.ref aO) := ⟨aO, vO, nO, rfl, hO₁₂, F2.ints hO⟩
        have hol : (orderF met).length ≤ 84 := by
          unfold orderF
          rw [List.length_map]
          have := List.length_filter_le (firstAt met) (intsF 0 met.length)
          rw [intsF_length] at this
          omega
        have hmO : ∀ p ∈ orderF met, 0 ≤ p ∧ p < (ws.length : Nat) := fun p hp => hmM p (mem_order hp)
        generalize hord : orderF met = order at pO hTold hol hmO
        have pE₁₂ : ILv g₁₂ ends vE := mono_ILv _ _ _ _ (fun b o e => hs₁₂ _ _ (hs₁₀ _ _ e)) pE₉
        have pW₁₂ : ILv g₁₂ ws vW := mono_ILv _ _ _ _ (fun b o e => hs₁₂ _ _ (hs₁₀ _ _ e)) pW₉
        have pD₁₂ : ILv g₁₂ wished (.ref aM) := mono_ILv _ _ _ _ (fun b o e => hs₁₂ _ _ (hs₁₀ _ _ e)) pD
        have hb₁₂ : ∀ b o, s.heap.get? b = some o → h₁₁.get? b = some o := fun b o e => F₁₂.gr.heap _ _ e
        have hg₁₂ : ∀ b o, s.heap.get? b = some o → g₁₂ b = some o := fun b o e => F₁₂.gr.sub _ _ e
        -- told = _count_diff_all_purpose(ends, wished)
        obtain ⟨oQ, docQ, pmQ, anQ, cdQ, ctQ, hoQ, hdQ, hcdQ⟩ := T.fCount
        refine ex_assign (P := fun g' _ r => ∃ a vs n, r = .ref a ∧ g' a = some (seqObj "list" vs.toArray n) ∧ F2 (fun v x => kM g' x v) vs (toldF ends wished)) F₁₂ (ev_callD (P₁ := consP (IL ends) (consP (IL wished) nilP)) (nm_g T hb₁₂ T.gCount) (hb₁₂ _ _ hoQ) hdQ
          (spl_cons (mono_IL _) (F₁₂.cel (x := "ends") (c := s.heap.objs.size + 3) (v := vE) rfl rfl pE₁₂ (mono_IL _)) (spl_cons (mono_IL _) (F₁₂.loc (x := "wished") (v := .ref aM) rfl pD₁₂ (mono_IL _)) spl_nil)) fun us g' h' G' p => ?_) fun vR g₁₃ h₁₃' h₁₃ tk₁₃ hs₁₃ pR F₁₃ => ?_
        · obtain ⟨x, r, rfl, p1, y, r', rfl, p2, p3⟩ := p
          cases p3
          exact count_fn T Tm' (fun b o e => G'.sub _ _ (hg₁₂ _ _ e)) p1 p2 (by omega) (by omega) hh (by omega) (by omega)
        obtain ⟨aR, wR, nR, rfl, haR, hFR⟩ := pR
        have hb₁₃ : ∀ b o, s.heap.get? b = some o → h₁₃.get? b = some o := fun b o e => F₁₃.gr.heap _ _ e
        have pE₁₃ : ILv g₁₃ ends vE := mono_ILv _ _ _ _ hs₁₃ pE₁₂
        have pW₁₃ : ILv g₁₃ ws vW := mono_ILv _ _ _ _ hs₁₃ pW₁₂
        have pO₁₃ : ILv g₁₃ order (.ref aO) := mono_ILv _ _ _ _ hs₁₃ pO
        obtain ⟨aE, wE, nE, rfl, haE, hIE⟩ := id pE₁₃
        have mK : Mono (fun g' _ (r : Value) => r = .ref aR ∧ g' aR = some (seqObj "list" wR.toArray nR) ∧ F2 (fun v x => kM g' x v) wR (toldF ends wished)) := fun g h g' h' v G p => ⟨p.1, G.sub _ _ p.2.1, p.2.2.mono fun _ _ q => mono_kM _ _ _ _ G.sub q⟩
        have eR {g' : Map} {h' : Heap} {m' cm' : Str → Option Value} {W' : List (Addr × Obj)} (F' : Fm (fun b => s.heap.get? b) s.heap (callEnvC (fdOf (top 12) "law" doc pm an cd ct) s.heap.objs.size fa) m' cm' W' g' h') (hm : m' "told" = some (.ref aR)) (hs : ∀ b o, g₁₃ b = some o → g' b = some o) (p : Pos) :=
          F'.loc (prog := prog) (w := w) (A := callerA.deeper (callEnvC (fdOf (top 12) "law" doc pm an cd ct) s.heap.objs.size fa)) (x := "told") (pos := p) (v := .ref aR) hm (P := fun g' _ (r : Value) => r = .ref aR ∧ g' aR = some (seqObj "list" wR.toArray nR) ∧ F2 (fun v x => kM g' x v) wR (toldF ends wished)) ⟨rfl, hs _ _ haR, hFR.mono fun _ _ q => mono_kM _ _ _ _ hs q⟩ mK
        -- if told != [..]
        refine ex_if (c := false) F₁₃ (ev_test (P₂ := fun g' _ r => ∃ b us n, r = .ref b ∧ g' b = some (seqObj "list" us.toArray n) ∧ F2 (fun v x => kT g' x v) us (ownTold ends ws order)) mK (eR F₁₃ rfl (fun _ _ e => e) _) ?_ fun x y g' h' G' p q => ?_) fun g₁₄ h₁₄ tk₁₄ hs₁₄ F₁₄ => ?_
        · refine EvN.ev (ev_comp (items := order) (test := badF ends ws) (out := tripF ends ws) (R := kI) (S := kT) (cl := [(Str.ofString "wishes", s.heap.objs.size + 2), (Str.ofString "ends", s.heap.objs.size + 3)]) rfl (by decide) rfl (by decide) rfl mono_kI mono_kT
            (Ev.walkI hh (F₁₃.loc (x := "order") (v := .ref aO) rfl pO₁₃ (mono_IL _))) (by omega) fun p hp C mC g' h' v G' hn hv hR => ?_) fun a vs n g' h' hg hF => ⟨a, vs, n, rfl, upd_self _ _ _, hF.mono fun _ _ q => mono_kT _ _ _ _ (upd_sub hg) q⟩
          have h1 := hmO p hp
          have hw2 : ws[p.toNat]? = some (ws.getD p.toNat 0) := getD_get (by omega)
          have cE := (F₁₃.cells "ends" (s.heap.objs.size + 3) rfl).1.keeps G'.heap
          have cV := (F₁₃.cells "wishes" (s.heap.objs.size + 2) rfl).1.keeps G'.heap
          have pE' : ILv g' ends (.ref aE) := mono_ILv _ _ _ _ G'.sub pE₁₃
          have pW' : ILv g' ws vW := mono_ILv _ _ _ _ G'.sub pW₁₃
          have hpp : p < 2 ^ 63 := by omega
          rw [show (updS (updS cm₁ "ends" (.ref aE)) "met" vX) "wishes" = some vW from cW] at cV
          have clc : ∀ (v u : Value) (g'' : Map) (h'' : Heap), Gr g' h' g'' h'' → IL ends g'' h'' v → isI p g'' h'' u → Ev prog w (callerA.deeper (callEnvC (fdOf (top 12) "law" doc pm an cd ct) s.heap.objs.size fa)) g'' h'' (call (.builtin "list.count") [v, u]) (isI ((ends.count p : Nat) : Int)) := fun v u g'' h'' G'' q q' => by
            obtain ⟨b, us, n, rfl, hb, hI'⟩ := q
            exact cl_count (listAt G''.now hb) hI' q'
          refine ⟨tests_one (ev_test (P₁ := isI ((ends.count p : Nat) : Int)) (P₂ := isI (ws.getD p.toNat 0)) (mono_isI _) (ev_meth (P₁ := IL ends) (P₂ := isI p) (mono_IL _) PySem.F.slot_list_count PySem.F.type_list_count (ev_cell (c := s.heap.objs.size + 3) (v := .ref aE) rfl cE pE' (mono_IL _)) (fun v g' h' p hs => p.at hs) (ev_local hn hv hR (mono_isI p)) clc) (ev_item (ns := ws) (k := p) (ev_cell (c := s.heap.objs.size + 2) (v := vW) rfl cV pW' (mono_IL ws)) (ev_local hn hv hR (mono_isI p)) h1.1 hpp hw2) fun _ _ _ _ _ p q => op_ne p q), fun _ => ?_⟩
          refine (ev_tuple (P := consP (isI ((ends.count p : Nat) : Int)) (consP (isI (ws.getD p.toNat 0)) (consP (isI p) nilP))) (mono_consP (mono_isI _) (mono_consP (mono_isI _) (mono_consP (mono_isI _) mono_nilP))) (spl_cons (mono_isI _) (ev_meth (P₁ := IL ends) (P₂ := isI p) (mono_IL _) PySem.F.slot_list_count PySem.F.type_list_count (ev_cell (c := s.heap.objs.size + 3) (v := .ref aE) rfl cE pE' (mono_IL _)) (fun v g' h' p hs => p.at hs) (ev_local hn hv hR (mono_isI p)) clc) (spl_cons (mono_isI _) (ev_item (ns := ws) (k := p) (ev_cell (c := s.heap.objs.size + 2) (v := vW) rfl cV pW' (mono_IL ws)) (ev_local hn hv hR (mono_isI p)) h1.1 hpp hw2) (spl_cons (mono_isI _) (ev_local hn hv hR (mono_isI p)) spl_nil))) ?_).weaken ?_
          · rintro g' h' vs ⟨_, _, rfl, _, _, _, rfl, _, _, _, rfl, _, p⟩
            cases p; simp
          · rintro g' h' v _ ⟨b, us, rfl, hb, _, _, rfl, ⟨t1, rfl⟩, _, _, rfl, ⟨t2, rfl⟩, _, _, rfl, ⟨t3, rfl⟩, p⟩
            cases p
            exact ⟨b, t1, t2, t3, rfl, hb⟩
        · obtain ⟨rfl, ha, hF⟩ := p
          obtain ⟨b, us, n, rfl, hb, hG⟩ := q
          exact op_neTold Te' (fun b o e => G'.heap _ _ (hb₁₃ _ _ e)) ha hb hF (hTold ▸ hG) (by omega)
        · simp only [Bool.false_eq_true, if_false]
          refine wpAny_execs_nil ?_
          have hb₁₄ : ∀ b o, s.heap.get? b = some o → h₁₄.get? b = some o := fun b o e => F₁₄.gr.heap _ _ e
          have pW₁₄ : ILv g₁₄ ws vW := mono_ILv _ _ _ _ hs₁₄ pW₁₃
          obtain ⟨oC, docC, pmC, anC, cdC, ctC, hoC, hdC, hcdC⟩ := T.fCould
          have hemp : wR.isEmpty = (toldF ends wished).isEmpty := by
            have := hFR.length
            generalize toldF ends wished = L at this
            cases wR <;> cases L <;> simp_all
          -- if (told == []) is not _law_could(wishes)
          refine ex_if (c := false) F₁₄ (ev_test (P₁ := isV (.bool wR.isEmpty)) (P₂ := isV (.bool wR.isEmpty)) (mono_isV _) (ev_cmp (P₂ := fun g' _ r => ∃ b n, r = .ref b ∧ g' b = some (seqObj "list" ([] : List Value).toArray n)) mK (eR F₁₄ rfl hs₁₄ _) ?_ fun x y g' h' G' p q => ?_) ?_ fun x y g' h' G' p q => ?_) fun g₁₅ h₁₅ tk₁₅ hs₁₅ F₁₅ => ?_
          · refine EvN.ev (ev_list mono_nilP spl_nil fun _ _ vs p => by rw [p]; simp) fun a vs n g' h' hg p => ?_
            cases p
            exact ⟨a, n, rfl, upd_self _ _ _⟩
          · obtain ⟨rfl, ha, _⟩ := p
            obtain ⟨b, n, rfl, hb⟩ := q
            exact op_eqNil ha hb (by omega)
          · refine (ev_callD (P₁ := consP (IL ws) nilP) (P := fun _ _ u => ∃ fl, fl.Perm ws ∧ fl.Pairwise (· ≥ ·) ∧ u = .bool (couldF fl ws)) (nm_g T hb₁₄ T.gCould) (hb₁₄ _ _ hoC) hdC (spl_cons (mono_IL _) (F₁₄.cel (x := "wishes") (c := s.heap.objs.size + 2) (v := vW) rfl cW pW₁₄ (mono_IL _)) spl_nil) fun us g' h' G' p => ?_).weaken ?_
            · obtain ⟨x, r, rfl, p1, p2⟩ := p
              cases p2
              exact could_fn T (fun b o e => G'.heap _ _ (hb₁₄ _ _ e)) p1 (by omega) hh (by omega)
            · rintro g' h' v _ ⟨fl, hp, hs, rfl⟩
              rw [← hCould fl hRun hp hs, hemp]; rfl
          · cases p; cases q
            have := op_isNot (prog := prog) (w := w) (A := callerA.deeper (callEnvC (fdOf (top 12) "law" doc pm an cd ct) s.heap.objs.size fa)) (g := g') (h := h') (p := wR.isEmpty) (q := wR.isEmpty)
            have e : (wR.isEmpty != wR.isEmpty) = false := by simp
            rw [e] at this
            exact this
          · simp only [Bool.false_eq_true, if_false]
            refine wpAny_execs_nil ?_
            have hb₁₅ : ∀ b o, s.heap.get? b = some o → h₁₅.get? b = some o := fun b o e => F₁₅.gr.heap _ _ e
            have hg₁₅ : ∀ b o, s.heap.get? b = some o → g₁₅ b = some o := fun b o e => F₁₅.gr.sub _ _ e
            have pE₁₅ : ILv g₁₅ ends (.ref aE) := mono_ILv _ _ _ _ (fun b o e => hs₁₅ _ _ (hs₁₄ _ _ e)) pE₁₃
            obtain ⟨oS, docS, pmS, anS, cdS, ctS, hoS, hdS, hcdS⟩ := T.fSorted
            -- return sorted_list_difference(list(range(n)), sorted(ends)) == (.., [])
            refine wpAny_execs_cons (wpAny_Return_some (wpAny_Compare1 (Call_ ((nm_g T hb₁₅ T.gSorted) _ g₁₅ _ _ (Gr.refl F₁₅.now) fun fv g₁₆ h₁₆ tk₁₆ G₁₆ pfv => ?_)) (by with_unfolding_all rfl)))
            cases pfv
            have F₁₆ := F₁₅.grow G₁₆
            have hb₁₆ : ∀ b o, s.heap.get? b = some o → h₁₆.get? b = some o := fun b o e => F₁₆.gr.heap _ _ e
            refine callWith_def hdS ((spl_cons (P₁ := IL (intsF 0 ws.length)) (P₂ := consP (fun g' _ u => ∃ so, so.Perm ends ∧ so.Pairwise (· ≤ ·) ∧ ILv g' so u) nilP) (mono_IL _) ?_ (spl_cons ?_ ?_ spl_nil)) _ g₁₆ _ _ (Gr.refl F₁₆.now) fun us g₁₇ h₁₇ tk₁₇ G₁₇ pu => ?_)
            · refine EvN.ints (ev_callTN (P₁ := consP (isR 0 ((ws.length : Nat) : Int)) nilP) (nm_b T hb₁₆ T.list) (spl_cons (mono_isR _ _) (ev_callT (P₁ := consP (isI ((ws.length : Nat) : Int)) nilP) (nm_b T hb₁₆ T.range) (spl_cons (mono_isI _) (F₁₆.cel (x := "n") (c := s.heap.objs.size + 1) (v := vn) rfl cN pn (mono_isI _)) spl_nil) fun vs g' h' G p => ?_) spl_nil) fun vs g' h' G p => ?_)
              · obtain ⟨x, r, rfl, p1, p2⟩ := p
                cases p2
                exact cl_range1 p1
              · obtain ⟨x, r, rfl, p1, p2⟩ := p
                cases p2
                exact cl_listR hh p1 (by omega)
            · exact fun g h g' h' v G ⟨so, h1, h2, h3⟩ => ⟨so, h1, h2, mono_ILv _ _ _ _ G.sub h3⟩
            · refine EvN.ev (ev_callN (P₁ := consP (IL ends) nilP) (R := fun _ _ us => ∃ ns', IntsAre us ns' ∧ ns'.Perm ends ∧ ns'.Pairwise (· ≤ ·)) (nm_b T hb₁₆ T.sorted) (spl_cons (mono_IL _) (F₁₆.cel (x := "ends") (c := s.heap.objs.size + 3) (v := .ref aE) rfl rfl (mono_ILv _ _ _ _ G₁₆.sub pE₁₅) (mono_IL _)) spl_nil) fun vs g' h' G p => ?_) fun a vs n g' h' hg p => ?_
              · obtain ⟨x, r, rfl, p1, p2⟩ := p
                cases p2
                obtain ⟨b, us, n, rfl, hb, hI'⟩ := p1
                exact cl_sorted (listAt G.now hb) hI' (by have := hI'.length; omega)
              · obtain ⟨ns', q1, q2, q3⟩ := p
                exact ⟨ns', q2, q3, a, vs, n, rfl, upd_self _ _ _, q1⟩
            · obtain ⟨ve, r, rfl, pv1, va, r', rfl, ⟨so, hperm, hsort, pv2⟩, pv3⟩ := pu
              cases pv3
              have F₁₇ := F₁₆.grow G₁₇
              have hb₁₇ : ∀ b o, s.heap.get? b = some o → h₁₇.get? b = some o := fun b o e => F₁₇.gr.heap _ _ e
              have hg₁₇ : ∀ b o, s.heap.get? b = some o → g₁₇ b = some o := fun b o e => F₁₇.gr.sub _ _ e
              obtain ⟨oL, es, ep, hoL, hdL, hrL⟩ := id F₁₇.ns
              refine ⟨hb₁₇ _ _ hoS, sorted_fn (n := ws.length) (as := so) (oM := oL) (s := { s with heap := h₁₇, toks := tk₁₇ }) T F₁₇.now hg₁₇ F₁₇.gl hoL (fun vs q => by rw [hdL] at q; cases q) pv1 pv2 (by omega) (by rw [hperm.length_eq]; omega) hsort (fun x hx => hmE x (hperm.mem_iff.mp hx)) hh rfl rfl (by show (fnScope (top 12)).kind ≠ .module; decide) (by omega) fun v g₁₈ h₁₈ tk₁₈ sl G₁₈ pv hM gM => ?_⟩
              have F₁₈ := F₁₇.noted hoL G₁₈ hM gM
              have hb₁₈ : ∀ b o, s.heap.get? b = some o → h₁₈.get? b = some o := fun b o e => F₁₈.gr.heap _ _ e
              have sub₁₈ : ∀ b o, g₁₅ b = some o → g₁₈ b = some o := fun b o e => G₁₈.sub _ _ (G₁₇.sub _ _ (G₁₆.sub _ _ e))
              have emiss : ((intsF 0 ws.length).filter fun p => !(ends.any (· == p))).map (fun p => p) = missTo so ws.length := by
                rw [List.map_id']
                unfold missTo
                refine List.filter_congr fun p _ => ?_
                by_cases q : p ∈ ends
                · have q' : p ∈ so := hperm.mem_iff.mpr q
                  have : ends.any (· == p) = true := List.any_eq_true.mpr ⟨p, q, by simp⟩
                  rw [this]; simp [q']
                · have q' : p ∉ so := fun z => q (hperm.mem_iff.mp z)
                  have : ends.any (· == p) = false := by
                    rw [List.any_eq_false]
                    intro x hx e
                    exact q ((by simpa using e : x = p) ▸ hx)
                  rw [this]; simp [q']
              refine (ev_tuple (P := consP (IL (missTo so ws.length)) (consP (IL []) nilP)) (mono_consP (mono_IL _) (mono_consP (mono_IL _) mono_nilP)) (spl_cons (mono_IL _) ?_ (spl_cons (mono_IL _) ?_ spl_nil)) ?_) _ g₁₈ _ _ (Gr.refl F₁₈.now) fun u g₁₉ h₁₉ tk₁₉ G₁₉ pu => ?_
              · rw [← emiss]
                refine EvN.f2I (ev_comp (items := intsF 0 ws.length) (test := fun p => !(ends.any (· == p))) (out := fun p => p) (R := kI) (S := kI) (cl := [(Str.ofString "ends", s.heap.objs.size + 3)]) rfl (by decide) rfl (by decide) rfl mono_kI mono_kI ?_ (by rw [intsF_length]; omega) fun p hp C mC g' h' v G' hn hv hR => ⟨tests_one ?_, fun _ => ev_local hn hv hR (mono_isI p)⟩)
                · exact ev_range1 (n := ((ws.length : Nat) : Int)) T hb₁₈ hh (F₁₈.cel (x := "n") (c := s.heap.objs.size + 1) (v := vn) rfl cN pn (mono_isI _)) (by omega) (by omega)
                · refine ev_test (P₁ := isI p) (P₂ := IL ends) (mono_isI _) (ev_local hn hv hR (mono_isI p)) (ev_cell (c := s.heap.objs.size + 3) (v := .ref aE) rfl ((F₁₈.cells "ends" (s.heap.objs.size + 3) rfl).1.keeps G'.heap) (mono_ILv _ _ _ _ (fun b o e => G'.sub _ _ (sub₁₈ _ _ e)) pE₁₅) (mono_IL _)) fun x y g'' h'' G'' p q => ?_
                  obtain ⟨b, us, n, rfl, hb, hI'⟩ := q
                  exact op_notIn (listAt G''.now hb) hI' p
              · refine EvN.ints ((ev_list mono_nilP spl_nil fun _ _ vs p => by rw [p]; simp).weaken fun g' h' vs _ p => ?_)
                cases p
                exact .nil
              · rintro g' h' vs ⟨_, _, rfl, _, _, _, rfl, _, p⟩
                cases p; simp
              · refine (op_eqRes (xs := missTo so ws.length) (ys := []) (mono_TupOf (mono_consP (mono_IL _) (mono_consP (mono_IL _) mono_nilP)) _ _ _ _ _ G₁₉ pv) pu (by omega)) _ g₁₉ _ _ (Gr.refl G₁₉.now) fun v' g₂₀ h₂₀ tk₂₀ G₂₀ p => ?_
                cases p
                exact k h₂₀ _ fun b o e => G₂₀.heap _ _ (G₁₉.heap _ _ (hb₁₈ _ _ e))
end
end Mine
end

section
set_option autoImplicit false
namespace Mine

/-- falling order -/
def insD (x : Nat) : List Nat → List Nat
  | [] => [x]
  | y :: l => bif Nat.ble y x then x :: y :: l else y :: insD x l
def sortD : List Nat → List Nat
  | [] => []
  | x :: l => insD x (sortD l)
def decN : List Nat → List Nat
  | [] => []
  | x :: l => Nat.sub x 1 :: decN l
def posN : List Nat → Nat
  | [] => 0
  | x :: l => bif Nat.ble 1 x then Nat.succ (posN l) else posN l
/-- Havel, Hakimi: each who is called is there -/
def hhN : Nat → List Nat → Bool
  | 0, _ => true
  | n + 1, l => match sortD l with
    | [] => true
    | w :: r => Nat.beq (posN (r.take w)) w && hhN n (decN (r.take w) ++ r.drop w)
def sumN : List Nat → Nat
  | [] => 0
  | x :: l => Nat.add x (sumN l)
def minN (k : Nat) : List Nat → Nat
  | [] => 0
  | x :: l => Nat.add (bif Nat.ble x k then x else k) (minN k l)
/-- Erdos, Gallai: at k -/
def egAt (l : List Nat) (k : Nat) : Bool := Nat.ble (sumN (l.take k)) (Nat.add (Nat.mul k (Nat.sub k 1)) (minN k (l.drop k)))
def egTo (l : List Nat) : Nat → Bool
  | 0 => egAt l 0
  | k + 1 => egAt l (k + 1) && egTo l k
def egN (n : Nat) (l : List Nat) : Bool := egTo l n && Nat.beq (Nat.mod (sumN l) 2) 0

/-- all falling lists of n numbers up to m, behind those that are there -/
def upTo (P : Nat → Bool) : Nat → Bool
  | 0 => P 0
  | m + 1 => P (m + 1) && upTo P m
def chk (P : List Nat → Bool) : Nat → Nat → Bool
  | 0, _ => P []
  | n + 1, m => upTo (fun x => chk (fun l => P (x :: l)) n x) m
def same (n : Nat) (l : List Nat) : Bool := hhN n l == egN n l
theorem same1 : chk (same 1) 1 0 = true := by decide +kernel
theorem same2 : chk (same 2) 2 1 = true := by decide +kernel
theorem same3 : chk (same 3) 3 2 = true := by decide +kernel
theorem same4 : chk (same 4) 4 3 = true := by decide +kernel
theorem same5 : chk (same 5) 5 4 = true := by decide +kernel
theorem same6 : chk (same 6) 6 5 = true := by decide +kernel
def p76 (y : Nat) : Bool := chk (fun l => same 7 (6 :: y :: l)) 5 y
def p7 (x : Nat) : Bool := chk (fun l => same 7 (x :: l)) 6 x
theorem same7_60 : p76 0 = true := by decide +kernel
theorem same7_61 : p76 1 = true := by decide +kernel
theorem same7_62 : p76 2 = true := by decide +kernel
theorem same7_63 : p76 3 = true := by decide +kernel
theorem same7_64 : p76 4 = true := by decide +kernel
theorem same7_65 : p76 5 = true := by decide +kernel
theorem same7_66 : p76 6 = true := by decide +kernel
theorem same7_0 : p7 0 = true := by decide +kernel
theorem same7_1 : p7 1 = true := by decide +kernel
theorem same7_2 : p7 2 = true := by decide +kernel
theorem same7_3 : p7 3 = true := by decide +kernel
theorem same7_4 : p7 4 = true := by decide +kernel
theorem same7_5 : p7 5 = true := by decide +kernel
theorem upTo_step {P : Nat → Bool} {m : Nat} (h1 : P (m + 1) = true) (h2 : upTo P m = true) : upTo P (m + 1) = true := by
  show (P (m + 1) && upTo P m) = true
  rw [h1, h2]; rfl
theorem upTo_zero {P : Nat → Bool} (h : P 0 = true) : upTo P 0 = true := h
theorem upTo76 : upTo p76 6 = true := upTo_step (m := 5) same7_66 (upTo_step (m := 4) same7_65 (upTo_step (m := 3) same7_64 (upTo_step (m := 2) same7_63 (upTo_step (m := 1) same7_62 (upTo_step (m := 0) same7_61 (upTo_zero same7_60))))))
theorem same7_6 : p7 6 = true := upTo76
theorem upTo7 : upTo p7 6 = true := upTo_step (m := 5) same7_6 (upTo_step (m := 4) same7_5 (upTo_step (m := 3) same7_4 (upTo_step (m := 2) same7_3 (upTo_step (m := 1) same7_2 (upTo_step (m := 0) same7_1 (upTo_zero same7_0))))))
theorem same7 : chk (same 7) 7 6 = true := upTo7

theorem upTo_all {P : Nat → Bool} : ∀ {m : Nat}, upTo P m = true → ∀ x, x ≤ m → P x = true
  | 0, h, x, hx => by
    have : x = 0 := by omega
    subst this; exact h
  | m + 1, h, x, hx => by
    have h' : (P (m + 1) && upTo P m) = true := h
    rw [Bool.and_eq_true] at h'
    by_cases q : x = m + 1
    · subst q; exact h'.1
    · exact upTo_all h'.2 x (by omega)
theorem chk_all : ∀ {n m : Nat} {P : List Nat → Bool}, chk P n m = true → ∀ l : List Nat, l.length = n → l.Pairwise (fun a b => b ≤ a) → (∀ x ∈ l, x ≤ m) → P l = true
  | 0, m, P, h, l, hl, _, _ => by
    have : l = [] := List.length_eq_zero_iff.mp hl
    subst this; exact h
  | n + 1, m, P, h, [], hl, _, _ => by cases hl
  | n + 1, m, P, h, x :: l, hl, hp, hm => by
    have h' := upTo_all h x (hm x (.head _))
    have hp' := List.pairwise_cons.mp hp
    exact chk_all (P := fun l => P (x :: l)) h' l (by simpa using hl) hp'.2 hp'.1
theorem hh_eg {n : Nat} {l : List Nat} (hl : l.length = n) (hn : n ≤ 7) (hs : l.Pairwise (fun a b => b ≤ a)) (hm : ∀ x ∈ l, x < n) : hhN n l = egN n l := by
  have key : same n l = true := by
    match n, hn with
    | 0, _ =>
      have : l = [] := List.length_eq_zero_iff.mp hl
      subst this; decide
    | 1, _ => exact chk_all same1 l hl hs fun x hx => by have := hm x hx; omega
    | 2, _ => exact chk_all same2 l hl hs fun x hx => by have := hm x hx; omega
    | 3, _ => exact chk_all same3 l hl hs fun x hx => by have := hm x hx; omega
    | 4, _ => exact chk_all same4 l hl hs fun x hx => by have := hm x hx; omega
    | 5, _ => exact chk_all same5 l hl hs fun x hx => by have := hm x hx; omega
    | 6, _ => exact chk_all same6 l hl hs fun x hx => by have := hm x hx; omega
    | 7, _ => exact chk_all same7 l hl hs fun x hx => by have := hm x hx; omega
    | n + 8, h => omega
  unfold same at key
  exact eq_of_beq key

/-- the order of the list is of no weight -/
theorem insD_cons (x y : Nat) (l : List Nat) : insD x (y :: l) = if y ≤ x then x :: y :: l else y :: insD x l := by
  show (bif Nat.ble y x then x :: y :: l else y :: insD x l) = _
  by_cases h : y ≤ x
  · rw [if_pos h, show Nat.ble y x = true from Nat.ble_eq.mpr h]; rfl
  · rw [if_neg h, show Nat.ble y x = false from by
      cases q : Nat.ble y x with
      | false => rfl
      | true => exact absurd (Nat.ble_eq.mp q) h]; rfl
theorem insD_nil (x : Nat) : insD x [] = [x] := rfl
theorem insD_comm (x y : Nat) : ∀ l, insD x (insD y l) = insD y (insD x l)
  | [] => by
    by_cases h3 : x = y
    · subst h3; rfl
    · by_cases h4 : y ≤ x <;> by_cases h5 : x ≤ y <;> first | omega | simp [insD_cons, insD_nil, h4, h5]
  | z :: l => by
    have ih := insD_comm x y l
    by_cases h3 : x = y
    · subst h3; rfl
    · by_cases h1 : z ≤ y <;> by_cases h2 : z ≤ x <;> by_cases h4 : y ≤ x <;> by_cases h5 : x ≤ y <;> first | omega | simp [insD_cons, h1, h2, h4, h5, ih]
theorem sortD_perm {l l' : List Nat} (h : l.Perm l') : sortD l = sortD l' := by
  induction h with
  | nil => rfl
  | cons x _ ih => show insD x _ = insD x _; rw [ih]
  | swap x y l => exact insD_comm y x _
  | trans _ _ ih1 ih2 => rw [ih1, ih2]
theorem sortD_of : ∀ {l : List Nat}, l.Pairwise (fun a b => b ≤ a) → sortD l = l
  | [], _ => rfl
  | [x], _ => rfl
  | x :: y :: l, h => by
    have h' := List.pairwise_cons.mp h
    show insD x (sortD (y :: l)) = _
    rw [sortD_of h'.2]
    have : Nat.ble y x = true := Nat.ble_eq.mpr (h'.1 y (.head _))
    simp [insD, this]
theorem hhN_perm {n : Nat} {l l' : List Nat} (h : l.Perm l') : hhN n l = hhN n l' := by
  cases n with
  | zero => rfl
  | succ n => unfold hhN; rw [sortD_perm h]
end Mine
end

section
open PySem PySem.W PyProof.Rows
set_option autoImplicit false
set_option linter.unusedVariables false
namespace Mine

theorem mem_stepT {f : List Int} {r : List (List Int)} {t : List Int} (h : t ∈ stepT f r) : ∃ p, p ∈ calledF r (fW f) ∧ t = [fK f, fK p] := by
  obtain ⟨p, hp, rfl⟩ := List.mem_map.mp h
  exact ⟨p, hp, rfl⟩
theorem key_f {f : List Int} {r : List (List Int)} (h : OkW (f :: r)) : fK f ∉ r.map fK := by
  have := h.nd
  rw [List.map_cons, List.nodup_cons] at this
  exact this.1
theorem key_ne {f : List Int} {r : List (List Int)} (h : OkW (f :: r)) {p : List Int} (hp : p ∈ r) : fK f ≠ fK p := fun e => key_f h (e ▸ List.mem_map_of_mem hp)
theorem called_mem {f : List Int} {r : List (List Int)} {p : List Int} (hp : p ∈ calledF r (fW f)) : p ∈ r := (called_sub r (fW f)).subset hp

theorem run_keys {n : Nat} {W T : List (List Int)} (h : Run n W T) : OkW W → ∀ t ∈ T, ∃ a b, t = [a, b] ∧ a ≠ b ∧ a ∈ W.map fK ∧ b ∈ W.map fK := by
  induction h with
  | nil W => intro _ t ht; cases ht
  | step hperm hpw hrun ih =>
    rename_i n W f r T
    intro ok t ht
    have ok' := ok.perm hperm
    have pk : ∀ k, k ∈ (f :: r).map fK → k ∈ W.map fK := fun k hk => (hperm.map fK).mem_iff.mp hk
    rcases List.mem_append.mp ht with ht | ht
    · obtain ⟨p, hp, rfl⟩ := mem_stepT ht
      exact ⟨_, _, rfl, key_ne ok' (called_mem hp), pk _ (.head _), pk _ (.tail _ (List.mem_map_of_mem (called_mem hp)))⟩
    · obtain ⟨a, b, rfl, hab, ha, hb⟩ := ih ok'.step t ht
      have q := stepW_keys (List.nodup_cons.mpr ⟨(List.nodup_cons.mp ok'.nodup).1, (List.nodup_cons.mp ok'.nodup).2⟩ : (f :: r).Nodup)
      exact ⟨a, b, rfl, hab, pk _ (.tail _ (q.mem_iff.mp ha)), pk _ (.tail _ (q.mem_iff.mp hb))⟩

theorem run_later {n : Nat} {f : List Int} {r T : List (List Int)} (ok : OkW (f :: r)) (h : Run n (stepW f r) T) : ∀ t ∈ T, fK f ∉ t := by
  intro t ht hm
  obtain ⟨a, b, rfl, _, ha, hb⟩ := run_keys h ok.step t ht
  have q := stepW_keys ok.nodup
  simp only [List.mem_cons, List.not_mem_nil, or_false] at hm
  rcases hm with e | e
  · exact key_f ok (e ▸ q.mem_iff.mp ha)
  · exact key_f ok (e ▸ q.mem_iff.mp hb)

theorem run_once {n : Nat} {W T : List (List Int)} (h : Run n W T) : OkW W → T.Nodup ∧ ∀ t ∈ T, t.reverse ∉ T := by
  induction h with
  | nil W => intro _; exact ⟨.nil, fun t ht => by cases ht⟩
  | step hperm hpw hrun ih =>
    rename_i n W f r T
    intro ok
    have ok' := ok.perm hperm
    obtain ⟨i1, i2⟩ := ih ok'.step
    have later := run_later ok' hrun
    have hnd : ((calledF r (fW f)).map fK).Nodup := by
      have h1 : (r.map fK).Nodup := by have := ok'.nd; rw [List.map_cons, List.nodup_cons] at this; exact this.2
      exact ((called_sub r (fW f)).map fK).nodup h1
    refine ⟨List.nodup_append.mpr ⟨?_, i1, fun a ha b hb e => ?_⟩, fun t ht hr => ?_⟩
    · unfold stepT
      rw [List.nodup_iff_pairwise_ne, List.pairwise_map]
      have := List.pairwise_map.mp (List.nodup_iff_pairwise_ne.mp hnd)
      exact this.imp fun hne e => hne (by simpa using e)
    · obtain ⟨p, hp, rfl⟩ := mem_stepT ha
      subst e
      exact later _ hb (.head _)
    · rcases List.mem_append.mp ht with ht | ht
      · obtain ⟨p, hp, rfl⟩ := mem_stepT ht
        rcases List.mem_append.mp hr with hr | hr
        · obtain ⟨q, hq, e⟩ := mem_stepT hr
          simp only [List.reverse_cons, List.reverse_nil, List.nil_append, List.singleton_append, List.cons.injEq] at e
          exact key_ne ok' (called_mem hp) e.1.symm
        · exact later _ hr (by simp)
      · rcases List.mem_append.mp hr with hr | hr
        · obtain ⟨q, hq, e⟩ := mem_stepT hr
          have : fK f ∈ t.reverse := by rw [e]; exact .head _
          exact later _ ht (List.mem_reverse.mp this)
        · exact i2 t ht hr

def tri : Nat → Nat
  | 0 => 0
  | n + 1 => n + tri n
theorem run_len {n : Nat} {W T : List (List Int)} (h : Run n W T) : OkW W → W.length = n → T.length ≤ tri n := by
  induction h with
  | nil W => intro _ _; exact Nat.le_refl _
  | step hperm hpw hrun ih =>
    rename_i n W f r T
    intro ok hl
    have ok' := ok.perm hperm
    have hrl : r.length = n := by have := hperm.length_eq; simp at this; omega
    have h1 := ih ok'.step (by rw [stepW_length ok', hrl])
    have h2 : (stepT f r).length ≤ n := by
      unfold stepT
      rw [List.length_map, ← hrl]
      exact (called_sub r (fW f)).length_le
    rw [List.length_append]
    show _ ≤ n + tri n
    omega

theorem startW_keys (ws : List Int) : (startW ws).map fK = intsF 0 ws.length := by
  unfold startW
  rw [List.map_map]
  have : (fK ∘ fun k => [ws.getD k.toNat 0, k]) = fun k => k := by funext k; rfl
  rw [this, List.map_id']

theorem ties_ok {ws : List Int} {T : List (List Int)} (hz : ws.length ≤ 7) (h0 : ∀ x ∈ ws, 0 ≤ x) (h : Run ws.length (startW ws) T) : (∀ t ∈ T, Tie T ws.length t) ∧ T.length ≤ 21 := by
  have ok := okStart hz h0
  obtain ⟨nd, rev⟩ := run_once h ok
  refine ⟨fun t ht => ⟨?_, ?_⟩, ?_⟩
  · obtain ⟨a, b, rfl, hab, ha, hb⟩ := run_keys h ok t ht
    rw [startW_keys] at ha hb
    have h1 := mem_intsF.mp ha
    have h2 := mem_intsF.mp hb
    exact ⟨a, b, rfl, hab, h1.1, h1.2, h2.1, h2.2⟩
  · rw [nd.count, nd.count, if_pos ht, if_neg (rev t ht)]
  · have h1 := run_len h ok (startW_length ws)
    have h2 : tri ws.length ≤ 21 := by
      generalize ws.length = n at hz
      match n, hz with
      | 0, _ => decide
      | 1, _ => decide
      | 2, _ => decide
      | 3, _ => decide
      | 4, _ => decide
      | 5, _ => decide
      | 6, _ => decide
      | 7, _ => decide
      | n + 8, h => omega
    omega

theorem flat_le {L : List Int} {f : Int → List Int} {c : Nat} (h : ∀ x ∈ L, (f x).length ≤ c) : (L.flatMap f).length ≤ L.length * c := by
  induction L with
  | nil => simp
  | cons x L ih =>
    rw [List.flatMap_cons, List.length_append, List.length_cons]
    have h1 := h x (.head _)
    have h2 := ih fun y hy => h y (.tail _ hy)
    rw [Nat.succ_mul]
    omega
theorem wish_ok {ws : List Int} (hz : ws.length ≤ 7) (hm : ∀ x ∈ ws, 0 ≤ x ∧ x < (ws.length : Nat)) : (wishedF ws ws.length).length ≤ 42 := by
  have := flat_le (L := intsF 0 ws.length) (f := fun p => (intsF 0 (ws.getD p.toNat 0).toNat).map fun _ => p) (c := 6) (fun p hp => by
    have h1 := mem_intsF.mp hp
    have h2 := hm _ (List.mem_of_getElem? (getD_get (ns := ws) (k := p.toNat) (by omega)))
    rw [List.length_map, intsF_length]
    omega)
  rw [intsF_length] at this
  unfold wishedF
  omega
end Mine
end

section
open PySem PySem.W PyProof.Rows
set_option autoImplicit false
set_option linter.unusedVariables false
namespace Mine

theorem count_const (p q : Int) (n : Nat) : ((intsF 0 n).map fun _ => q).count p = if q = p then n else 0 := by
  rw [List.map_const', intsF_length, List.count_replicate]
  by_cases h : q = p
  · subst h; simp
  · simp [h]
theorem wished_count_to (ws : List Int) {p : Int} (hp : 0 ≤ p) : ∀ m, ((wishedF ws m).count p : Nat) = if p < m then (ws.getD p.toNat 0).toNat else 0
  | 0 => by
    show List.count p [] = _
    rw [if_neg (by omega)]; rfl
  | m + 1 => by
    have ih := wished_count_to ws hp m
    unfold wishedF at ih ⊢
    rw [intsF_succ, List.flatMap_append, List.count_append, ih, List.flatMap_singleton, count_const]
    by_cases h1 : p < (m : Nat)
    · rw [if_pos h1, if_neg (by omega), if_pos (by omega)]
      omega
    · rw [if_neg h1]
      by_cases h2 : (m : Int) = p
      · rw [if_pos h2, if_pos (by omega), h2]
        omega
      · rw [if_neg h2, if_neg (by omega)]
theorem wished_count {ws : List Int} (h0 : ∀ x ∈ ws, 0 ≤ x) {p : Int} (hp : 0 ≤ p) (hn : p < ws.length) : (((wishedF ws ws.length).count p : Nat) : Int) = ws.getD p.toNat 0 := by
  rw [wished_count_to ws hp, if_pos hn]
  have := h0 _ (List.mem_of_getElem? (getD_get (ns := ws) (k := p.toNat) (by omega)))
  omega

/-- the order, up to the place m -/
def ordTo (met : List Int) (m : Nat) : List Int := ((intsF 0 m).filter (firstAt met)).map fun k => met.getD k.toNat 0
theorem ordTo_succ (met : List Int) (m : Nat) : ordTo met (m + 1) = ordTo met m ++ if met.getD m 0 ∈ met.take m then [] else [met.getD m 0] := by
  unfold ordTo
  rw [intsF_succ, List.filter_append, List.map_append]
  congr 1
  have e : firstAt met (m : Nat) = !decide (met.getD m 0 ∈ met.take m) := by
    unfold firstAt
    rw [Int.toNat_natCast]
    by_cases q : met.getD m 0 ∈ met.take m
    · rw [List.any_eq_true.mpr ⟨_, q, by simp⟩, decide_eq_true q]
    · have : (met.take m).any (· == met.getD m 0) = false := by
        rw [List.any_eq_false]
        intro x hx e
        exact q (eq_of_beq e ▸ hx)
      rw [decide_eq_false q, this]
  by_cases q : met.getD m 0 ∈ met.take m
  · rw [List.filter_cons_of_neg (by rw [e, decide_eq_true q]; decide), if_pos q]; rfl
  · rw [List.filter_cons_of_pos (by rw [e, decide_eq_false q]; rfl), if_neg q]
    rfl

theorem own_append (as ws xs ys : List Int) : ownTold as ws (xs ++ ys) = ownTold as ws xs ++ ownTold as ws ys := by
  unfold ownTold; rw [List.filter_append, List.map_append]
section
variable {as bs ws : List Int} (hb : ∀ p ∈ as ++ bs, ((bs.count p : Nat) : Int) = ws.getD p.toNat 0)
include hb
theorem own_one {p : Int} (hp : p ∈ as ++ bs) : ownTold as ws [p] = if (as.count p : Int) ≠ (bs.count p : Int) then [((as.count p : Int), (bs.count p : Int), p)] else [] := by
  unfold ownTold
  have e : badF as ws p = decide ((as.count p : Int) ≠ (bs.count p : Int)) := by
    unfold badF
    rw [← hb p hp]
    by_cases q : ((as.count p : Nat) : Int) = (bs.count p : Nat)
    · simp [q]
    · simp [q]
  by_cases q : (as.count p : Int) ≠ (bs.count p : Int)
  · rw [List.filter_cons_of_pos (by rw [e]; exact decide_eq_true q), if_pos q]
    show [tripF as ws p] = _
    unfold tripF
    rw [← hb p hp]
  · rw [List.filter_cons_of_neg (by rw [e]; simpa using q), if_neg q]; rfl
theorem tell1_own : ∀ {i : Nat}, i ≤ as.length → tell1 as bs i = ownTold as ws (ordTo (as ++ bs) i)
  | 0, _ => rfl
  | i + 1, hi => by
    have hx : as[i]? = some as[i] := List.getElem?_eq_getElem (by omega)
    have hm : (as ++ bs).getD i 0 = as[i] := by
      rw [List.getD_eq_getElem?_getD, List.getElem?_append_left (by omega), hx]; rfl
    have ht : (as ++ bs).take i = as.take i := by rw [List.take_append_of_le_length (by omega)]
    rw [ordTo_succ, own_append, ← tell1_own (by omega), hm, ht]
    show tell1 as bs i ++ _ = _
    congr 1
    rw [hx]
    dsimp only
    by_cases q : as[i] ∈ as.take i
    · rw [if_pos q, if_pos q]; rfl
    · rw [if_neg q, if_neg q, own_one hb (List.mem_append_left _ (List.getElem_mem _))]
theorem tell2_own : ∀ {j : Nat}, j ≤ bs.length → tell1 as bs as.length ++ tell2 as bs j = ownTold as ws (ordTo (as ++ bs) (as.length + j))
  | 0, _ => by
    show _ ++ [] = _
    rw [List.append_nil]
    exact tell1_own hb (Nat.le_refl _)
  | j + 1, hj => by
    have hx : bs[j]? = some bs[j] := List.getElem?_eq_getElem (by omega)
    have hm : (as ++ bs).getD (as.length + j) 0 = bs[j] := by
      rw [List.getD_eq_getElem?_getD, List.getElem?_append_right (by omega), Nat.add_sub_cancel_left, hx]; rfl
    have ht : (as ++ bs).take (as.length + j) = as ++ bs.take j := by
      rw [List.take_append, List.take_of_length_le (by omega), Nat.add_sub_cancel_left]
    rw [← Nat.add_assoc, ordTo_succ, own_append, ← tell2_own (by omega), hm, ht, List.append_assoc]
    congr 1
    show tell2 as bs j ++ _ = _
    congr 1
    rw [hx]
    dsimp only
    by_cases q : bs[j] ∈ as ++ bs.take j
    · rw [if_pos q, if_pos q]; rfl
    · have q1 : bs[j] ∉ as := fun h => q (List.mem_append_left _ h)
      have c1 : as.count bs[j] = 0 := List.count_eq_zero.mpr q1
      have c2 : 0 < bs.count bs[j] := List.count_pos_iff.mpr (List.getElem_mem _)
      rw [if_neg q, if_neg q, own_one hb (List.mem_append_right _ (List.getElem_mem _)), c1, if_pos (by omega)]
      rfl
theorem told_own : toldF as bs = ownTold as ws (orderF (as ++ bs)) := by
  unfold toldF
  rw [tell2_own hb (Nat.le_refl _)]
  unfold orderF ordTo
  rw [List.length_append]
end

/-- nothing is told just if all is as it should be -/
theorem mem_ordTo {met : List Int} {p : Int} : ∀ {m : Nat}, m ≤ met.length → p ∈ met.take m → p ∈ ordTo met m
  | 0, _, h => by simp at h
  | m + 1, hm, h => by
    have hx : met[m]? = some met[m] := List.getElem?_eq_getElem (by omega)
    have hd : met.getD m 0 = met[m] := by rw [List.getD_eq_getElem?_getD, hx]; rfl
    rw [ordTo_succ, hd]
    rw [List.take_add_one, hx] at h
    rcases List.mem_append.mp h with h | h
    · exact List.mem_append_left _ (mem_ordTo (by omega) h)
    · have e : p = met[m] := by simpa using h
      subst e
      by_cases q : met[m] ∈ met.take m
      · exact List.mem_append_left _ (mem_ordTo (by omega) q)
      · rw [if_neg q]; exact List.mem_append_right _ (.head _)
theorem mem_orderF {met : List Int} {p : Int} (h : p ∈ met) : p ∈ orderF met := mem_ordTo (m := met.length) (Nat.le_refl _) (by rwa [List.take_length])
theorem told_nil {as bs ws : List Int} {n : Nat} (hb : ∀ p, 0 ≤ p → p < (n : Int) → ((bs.count p : Nat) : Int) = ws.getD p.toNat 0) (hr : ∀ p ∈ as ++ bs, 0 ≤ p ∧ p < (n : Int)) :
    (toldF as bs).isEmpty = true ↔ ∀ p, 0 ≤ p → p < (n : Int) → ((as.count p : Nat) : Int) = ws.getD p.toNat 0 := by
  have hb' : ∀ p ∈ as ++ bs, ((bs.count p : Nat) : Int) = ws.getD p.toNat 0 := fun p hp => hb p (hr p hp).1 (hr p hp).2
  rw [told_own hb', List.isEmpty_iff]
  unfold ownTold
  rw [List.map_eq_nil_iff, List.filter_eq_nil_iff]
  constructor
  · intro h p h0 h1
    by_cases q : p ∈ as ++ bs
    · have := h p (mem_orderF q)
      unfold badF at this
      simpa using this
    · have c1 : as.count p = 0 := List.count_eq_zero.mpr fun z => q (List.mem_append_left _ z)
      have c2 : bs.count p = 0 := List.count_eq_zero.mpr fun z => q (List.mem_append_right _ z)
      rw [c1, ← hb p h0 h1, c2]
  · intro h p hp
    have q := mem_order hp
    have := h p (hr p q).1 (hr p q).2
    unfold badF
    simp [this]
end Mine
end

section
open PySem PySem.W PyProof.Rows
set_option autoImplicit false
set_option linter.unusedVariables false
namespace Mine

def vN (p : List Int) : Nat := (fW p).toNat
theorem posN_eq : ∀ l : List Nat, posN l = l.countP (fun x => decide (1 ≤ x))
  | [] => rfl
  | x :: l => by
    rw [List.countP_cons, ← posN_eq l]
    show (bif Nat.ble 1 x then Nat.succ (posN l) else posN l) = _
    by_cases h : 1 ≤ x
    · rw [show Nat.ble 1 x = true from Nat.ble_eq.mpr h]; simp [h]
    · rw [show Nat.ble 1 x = false from by
        cases q : Nat.ble 1 x with
        | false => rfl
        | true => exact absurd (Nat.ble_eq.mp q) h]; simp [h]
theorem decN_eq : ∀ l : List Nat, decN l = l.map (· - 1)
  | [] => rfl
  | x :: l => by show Nat.sub x 1 :: decN l = _; rw [decN_eq l]; rfl

/-- one turn, in numbers alone -/
theorem called_len {f : List Int} {r : List (List Int)} : posN ((r.map vN).take (vN f)) = (calledF r (fW f)).length := by
  rw [posN_eq, ← List.map_take, List.countP_map, List.countP_eq_length_filter]
  unfold calledF
  congr 1
  refine List.filter_congr fun p _ => ?_
  show decide (1 ≤ (fW p).toNat) = decide (fW p > 0)
  by_cases h : fW p > 0
  · rw [decide_eq_true h, decide_eq_true (by omega)]
  · rw [decide_eq_false h, decide_eq_false (by omega)]
theorem step_perm {f : List Int} {r : List (List Int)} (ok : OkW (f :: r)) : ((stepW f r).map vN).Perm (decN ((r.map vN).take (vN f)) ++ (r.map vN).drop (vN f)) := by
  have hnd : r.Nodup := (List.nodup_cons.mp ok.nodup).2
  rw [stepW_eq ok.nodup, decN_eq, ← List.map_take, ← List.map_drop, List.map_append, List.map_map, List.map_map]
  let tk := r.take (fW f).toNat
  let dr := r.drop (fW f).toNat
  let pos : List Int → Bool := fun p => decide (fW p > 0)
  have hc : calledF r (fW f) = tk.filter pos := rfl
  have h1 : (stayF f r ++ tk.filter pos).Perm ((tk.filter (fun p => !pos p) ++ dr) ++ tk.filter pos) := by
    refine (stay_perm (f := f) hnd).trans ?_
    have e : r = tk ++ dr := (List.take_append_drop _ _).symm
    have h2 : (tk.filter pos ++ tk.filter (fun p => !pos p)).Perm tk := List.filter_append_perm pos tk
    refine (List.Perm.of_eq e).trans ?_
    refine (h2.symm.append_right dr).trans ?_
    rw [List.append_assoc]
    exact List.perm_append_comm
  have h3 : (stayF f r).Perm (tk.filter (fun p => !pos p) ++ dr) := (List.perm_append_right_iff _).mp h1
  have e1 : (tk.filter (fun p => !pos p)).map vN = (tk.filter (fun p => !pos p)).map ((· - 1) ∘ vN) := by
    refine List.map_congr_left fun p hp => ?_
    have h5 : ¬ fW p > 0 := by have := (List.mem_filter.mp hp).2; simpa [pos] using this
    show (fW p).toNat = (fW p).toNat - 1
    omega
  have e2 : (calledF r (fW f)).map (vN ∘ decP) = (tk.filter pos).map ((· - 1) ∘ vN) := by
    rw [hc]
    refine List.map_congr_left fun p hp => ?_
    show (fW p - 1).toNat = (fW p).toNat - 1
    omega
  rw [e2]
  refine ((h3.map vN).append_right _).trans ?_
  rw [List.map_append, e1]
  have h6 := (List.filter_append_perm pos tk).map ((· - 1) ∘ vN)
  rw [List.map_append] at h6
  refine List.Perm.trans ?_ (h6.append_right (dr.map vN))
  exact List.perm_append_comm.trans (by rw [List.append_assoc])

theorem pairs_fall {S : List (List Int)} (ok : OkW S) (h : S.Pairwise (fun x y => pKey y < pKey x)) : (S.map vN).Pairwise (fun a b => b ≤ a) := by
  rw [List.pairwise_map]
  refine h.imp_of_mem fun {x y} hx hy hk => ?_
  obtain ⟨w, k, rfl, h1, h2, h3⟩ := ok.pair x hx
  obtain ⟨w', k', rfl, h1', h2', h3'⟩ := ok.pair y hy
  have hk' : w' * 8 + k' < w * 8 + k := hk
  show (w').toNat ≤ w.toNat
  omega

theorem cnt_step (a k : Int) : ∀ c : List (List Int), ((c.map fun p => [a, fK p]).flatten.count k) = (if a = k then c.length else 0) + (c.map fK).count k
  | [] => by simp
  | p :: c => by
    rw [List.map_cons, List.flatten_cons, List.count_append, cnt_step a k c]
    simp only [List.map_cons, List.count_cons, List.count_nil, List.length_cons]
    by_cases h1 : a = k <;> by_cases h2 : fK p = k <;> simp [h1, h2] <;> omega

theorem run_count {n : Nat} {W T : List (List Int)} (h : Run n W T) : OkW W → W.length = n →
    (∀ p ∈ W, ((T.flatten.count (fK p) : Nat) : Int) ≤ fW p) ∧ (hhN n (W.map vN) = true ↔ ∀ p ∈ W, ((T.flatten.count (fK p) : Nat) : Int) = fW p) := by
  induction h with
  | nil W =>
    intro ok hl
    have : W = [] := List.length_eq_zero_iff.mp hl
    subst this
    exact ⟨fun p hp => (by cases hp), by simp [hhN]⟩
  | step hperm hpw hrun ih =>
    rename_i n W f r T
    intro ok hl
    have ok' := ok.perm hperm
    have hrl : r.length = n := by have := hperm.length_eq; simp at this; omega
    obtain ⟨i1, i2⟩ := ih ok'.step (by rw [stepW_length ok', hrl])
    have later := run_later ok' hrun
    obtain ⟨wf, kf, ef, hf0, _, _⟩ := ok'.pair f (.head _)
    have hf0' : 0 ≤ fW f := by rw [ef]; exact hf0
    have hkeys : (r.map fK).Nodup := by have := ok'.nd; rw [List.map_cons, List.nodup_cons] at this; exact this.2
    have cf : (T.flatten.count (fK f)) = 0 := by
      rw [List.count_eq_zero]
      intro hm
      obtain ⟨t, ht, hm⟩ := List.mem_flatten.mp hm
      exact later t ht hm
    have hc0 : ((calledF r (fW f)).map fK).count (fK f) = 0 := by
      rw [List.count_eq_zero]
      intro hm
      obtain ⟨p, hp, e⟩ := List.mem_map.mp hm
      exact key_ne ok' (called_mem hp) e.symm
    have tot : ∀ k, (stepT f r ++ T).flatten.count k = ((if fK f = k then (calledF r (fW f)).length else 0) + ((calledF r (fW f)).map fK).count k) + T.flatten.count k := fun k => by
      rw [List.flatten_append, List.count_append]
      unfold stepT
      rw [cnt_step]
    have tf : (stepT f r ++ T).flatten.count (fK f) = (calledF r (fW f)).length := by rw [tot, if_pos rfl, hc0, cf]; rfl
    have tc : ∀ p ∈ calledF r (fW f), (stepT f r ++ T).flatten.count (fK p) = 1 + T.flatten.count (fK p) := fun p hp => by
      rw [tot, if_neg (key_ne ok' (called_mem hp)), (((called_sub r (fW f)).map fK).nodup hkeys).count, if_pos (List.mem_map_of_mem hp)]
    have ts : ∀ p ∈ r, p ∉ calledF r (fW f) → (stepT f r ++ T).flatten.count (fK p) = T.flatten.count (fK p) := fun p hp hn => by
      have : ((calledF r (fW f)).map fK).count (fK p) = 0 := by
        rw [List.count_eq_zero]
        intro hm
        obtain ⟨q, hq, e⟩ := List.mem_map.mp hm
        exact hn (inj_of_nodup_map fK hkeys q (called_mem hq) p hp e ▸ hq)
      rw [tot, if_neg (key_ne ok' hp), this]; omega
    have memC : ∀ p ∈ calledF r (fW f), decP p ∈ stepW f r := fun p hp => by
      rw [stepW_eq ok'.nodup]; exact List.mem_append_right _ (List.mem_map_of_mem hp)
    have memS : ∀ p ∈ r, p ∉ calledF r (fW f) → p ∈ stepW f r := fun p hp hn => by
      rw [stepW_eq ok'.nodup]
      refine List.mem_append_left _ (List.mem_filter.mpr ⟨hp, ?_⟩)
      have : (calledF r (fW f)).elem p = false := by simpa [List.elem_eq_mem] using hn
      rw [this]; rfl
    have lenC : (((calledF r (fW f)).length : Nat) : Int) ≤ fW f := by
      have h1 : (calledF r (fW f)).length ≤ (r.take (fW f).toNat).length := List.length_filter_le _ _
      rw [List.length_take] at h1
      omega
    have le : ∀ p ∈ f :: r, (((stepT f r ++ T).flatten.count (fK p) : Nat) : Int) ≤ fW p := fun p hp => by
      rcases List.mem_cons.mp hp with rfl | hp
      · rw [tf]; exact lenC
      · by_cases q : p ∈ calledF r (fW f)
        · have h1 : ((T.flatten.count (fK p) : Nat) : Int) ≤ fW p - 1 := i1 _ (memC p q)
          rw [tc p q]; omega
        · rw [ts p hp q]; exact i1 _ (memS p hp q)
    refine ⟨fun p hp => le p (hperm.mem_iff.mpr hp), ?_⟩
    have e1 : hhN (n + 1) (W.map vN) = (Nat.beq (posN ((r.map vN).take (vN f))) (vN f) && hhN n (decN ((r.map vN).take (vN f)) ++ (r.map vN).drop (vN f))) := by
      rw [hhN_perm (hperm.map vN).symm]
      have e2 := sortD_of (pairs_fall ok' hpw)
      have e4 : ∀ l, hhN (n + 1) l = match sortD l with
          | [] => true
          | w :: r => Nat.beq (posN (r.take w)) w && hhN n (decN (r.take w) ++ r.drop w) := fun l => rfl
      rw [e4, e2]
      rfl
    rw [e1, called_len, ← hhN_perm (step_perm ok'), Bool.and_eq_true, i2]
    have e3 : Nat.beq (calledF r (fW f)).length (vN f) = true ↔ (((calledF r (fW f)).length : Nat) : Int) = fW f := by
      rw [Nat.beq_eq]
      show _ = (fW f).toNat ↔ _
      omega
    rw [e3]
    constructor
    · rintro ⟨h1, h2⟩ p hp
      rcases List.mem_cons.mp (hperm.mem_iff.mpr hp) with rfl | hp
      · rw [tf]; exact h1
      · by_cases q : p ∈ calledF r (fW f)
        · have h3 : ((T.flatten.count (fK p) : Nat) : Int) = fW p - 1 := h2 _ (memC p q)
          rw [tc p q]; omega
        · rw [ts p hp q]; exact h2 _ (memS p hp q)
    · intro h1
      refine ⟨by rw [← tf]; exact h1 f (hperm.mem_iff.mp (.head _)), fun q hq => ?_⟩
      rw [stepW_eq ok'.nodup] at hq
      rcases List.mem_append.mp hq with hq | hq
      · have hq' := List.mem_filter.mp hq
        have hn : q ∉ calledF r (fW f) := by have := hq'.2; simpa [List.elem_eq_mem] using this
        rw [← ts q hq'.1 hn]
        exact h1 q (hperm.mem_iff.mp (.tail _ hq'.1))
      · obtain ⟨p, hp, rfl⟩ := List.mem_map.mp hq
        have h3 := h1 p (hperm.mem_iff.mp (.tail _ (called_mem hp)))
        rw [tc p hp] at h3
        show ((T.flatten.count (fK p) : Nat) : Int) = fW p - 1
        omega
end Mine
end

section
open PySem PySem.W PyProof.Rows
set_option autoImplicit false
set_option linter.unusedVariables false
namespace Mine

def upI (l : List Nat) : List Int := l.map fun (x : Nat) => (x : Int)
theorem upI_toNat {fl : List Int} (h : ∀ x ∈ fl, 0 ≤ x) : upI (fl.map Int.toNat) = fl := by
  unfold upI
  rw [List.map_map]
  refine (List.map_congr_left fun x hx => ?_).trans (List.map_id' fl)
  have := h x hx
  show ((x.toNat : Nat) : Int) = x
  omega
theorem sumN_up : ∀ l : List Nat, ((sumN l : Nat) : Int) = (upI l).sum
  | [] => rfl
  | x :: l => by
    show ((Nat.add x (sumN l) : Nat) : Int) = ((x : Int) :: upI l).sum
    rw [List.sum_cons, ← sumN_up l]
    show ((x + sumN l : Nat) : Int) = _
    push_cast; rfl
theorem minN_up (k : Nat) : ∀ l : List Nat, ((minN k l : Nat) : Int) = ((upI l).map (minP k)).sum
  | [] => rfl
  | x :: l => by
    show ((Nat.add (bif Nat.ble x k then x else k) (minN k l) : Nat) : Int) = (minP k (x : Int) :: (upI l).map (minP k)).sum
    rw [List.sum_cons, ← minN_up k l]
    have : (((bif Nat.ble x k then x else k) : Nat) : Int) = minP k (x : Int) := by
      unfold minP
      by_cases h : x ≤ k
      · rw [show Nat.ble x k = true from Nat.ble_eq.mpr h, if_neg (by omega)]; rfl
      · rw [show Nat.ble x k = false from by
          cases q : Nat.ble x k with
          | false => rfl
          | true => exact absurd (Nat.ble_eq.mp q) h, if_pos (by omega)]; rfl
    rw [← this]
    show (((bif Nat.ble x k then x else k) + minN k l : Nat) : Int) = _
    push_cast; rfl
theorem egAt_up (l : List Nat) (k : Nat) : egAt l k = !tooMuch (upI l) k := by
  have h1 : ((sumN (l.take k) : Nat) : Int) = ((upI l).take k).sum := by rw [sumN_up]; unfold upI; rw [List.map_take]
  have h2 : ((minN k (l.drop k) : Nat) : Int) = (((upI l).drop k).map (minP k)).sum := by rw [minN_up]; unfold upI; rw [List.map_drop]
  have h3 : ((k * (k - 1) : Nat) : Int) = (k : Int) * ((k : Int) - 1) := by
    cases k with
    | zero => rfl
    | succ k => rw [Nat.add_sub_cancel]; push_cast; rw [Int.add_sub_cancel]
  have h4 : egAt l k = decide (sumN (l.take k) ≤ k * (k - 1) + minN k (l.drop k)) := by
    unfold egAt
    show Nat.ble (sumN (l.take k)) (k * (k - 1) + minN k (l.drop k)) = _
    by_cases h : sumN (l.take k) ≤ k * (k - 1) + minN k (l.drop k)
    · rw [decide_eq_true h]; exact Nat.ble_eq.mpr h
    · rw [decide_eq_false h]
      cases q : Nat.ble (sumN (l.take k)) (k * (k - 1) + minN k (l.drop k)) with
      | false => rfl
      | true => exact absurd (Nat.ble_eq.mp q) h
  rw [h4]
  unfold tooMuch givenF
  rw [← h1, ← h2, ← h3]
  by_cases h : sumN (l.take k) ≤ k * (k - 1) + minN k (l.drop k)
  · rw [decide_eq_true h, decide_eq_false (by omega)]; rfl
  · rw [decide_eq_false h, decide_eq_true (by omega)]; rfl
theorem egTo_all (l : List Nat) : ∀ n, egTo l n = true ↔ ∀ k, k ≤ n → egAt l k = true
  | 0 => ⟨fun h k hk => by
      have : k = 0 := by omega
      subst this; exact h, fun h => h 0 (Nat.le_refl _)⟩
  | n + 1 => by
    show (egAt l (n + 1) && egTo l n) = true ↔ _
    rw [Bool.and_eq_true, egTo_all l n]
    constructor
    · rintro ⟨h1, h2⟩ k hk
      by_cases q : k = n + 1
      · subst q; exact h1
      · exact h2 k (by omega)
    · exact fun h => ⟨h _ (Nat.le_refl _), fun k hk => h k (by omega)⟩
theorem perm_sumI {l l' : List Int} (h : l.Perm l') : l.sum = l'.sum := by
  induction h with
  | nil => rfl
  | cons x _ ih => rw [List.sum_cons, List.sum_cons, ih]
  | swap x y l => simp only [List.sum_cons]; omega
  | trans _ _ ih1 ih2 => rw [ih1, ih2]
theorem could_eg {fl ws : List Int} (hp : fl.Perm ws) (h0 : ∀ x ∈ fl, 0 ≤ x) : couldF fl ws = egN fl.length (fl.map Int.toNat) := by
  have e : upI (fl.map Int.toNat) = fl := upI_toNat h0
  have hsum : ws.sum = ((sumN (fl.map Int.toNat) : Nat) : Int) := by rw [sumN_up, e, perm_sumI hp]
  have h1 : (List.range (fl.length + 1)).all (fun k => !tooMuch fl k) = egTo (fl.map Int.toNat) fl.length := by
    rw [Bool.eq_iff_iff, egTo_all, List.all_eq_true]
    constructor
    · intro h k hk
      rw [egAt_up, e]
      exact h k (List.mem_range.mpr (by omega))
    · intro h k hk
      have := h k (by have := List.mem_range.mp hk; omega)
      rwa [egAt_up, e] at this
  have h2 : (ws.sum.fmod 2 == 0) = Nat.beq (Nat.mod (sumN (fl.map Int.toNat)) 2) 0 := by
    rw [hsum, Int.fmod_eq_emod_of_nonneg _ (by omega)]
    generalize sumN (fl.map Int.toNat) = z
    show _ = Nat.beq (z % 2) 0
    rw [Bool.eq_iff_iff, Nat.beq_eq, beq_iff_eq]
    omega
  unfold couldF egN
  rw [h1, h2]

theorem start_vals (ws : List Int) : (startW ws).map vN = ws.map Int.toNat := by
  refine List.ext_getElem? fun i => ?_
  unfold startW
  rw [List.map_map, List.getElem?_map, List.getElem?_map]
  by_cases h : i < ws.length
  · rw [intsF_get 0 _ i h, List.getElem?_eq_getElem h]
    show some (ws.getD ((0 : Int) + (i : Int)).toNat 0).toNat = _
    have : ((0 : Int) + (i : Int)).toNat = i := by omega
    rw [this, List.getD_eq_getElem?_getD, List.getElem?_eq_getElem h]; rfl
  · rw [List.getElem?_eq_none (by rw [intsF_length]; omega), List.getElem?_eq_none (by omega)]; rfl

theorem could_ok {ws fl : List Int} {T : List (List Int)} (hz : ws.length ≤ 7) (hm : ∀ x ∈ ws, 0 ≤ x ∧ x < (ws.length : Nat)) (h : Run ws.length (startW ws) T) (hp : fl.Perm ws) (hs : fl.Pairwise (fun a b : Int => a ≥ b)) :
    (toldF T.flatten (wishedF ws ws.length)).isEmpty = couldF fl ws := by
  have h0 : ∀ x ∈ ws, 0 ≤ x := fun x hx => (hm x hx).1
  have ok := okStart hz h0
  have hr : ∀ p ∈ T.flatten ++ wishedF ws ws.length, 0 ≤ p ∧ p < ((ws.length : Nat) : Int) := fun p hp => by
    rcases List.mem_append.mp hp with hp | hp
    · obtain ⟨t, ht, hp⟩ := List.mem_flatten.mp hp
      obtain ⟨⟨x, y, rfl, _, h1, h2, h3, h4⟩, _⟩ := (ties_ok hz h0 h).1 t ht
      simp only [List.mem_cons, List.not_mem_nil, or_false] at hp
      rcases hp with rfl | rfl
      · exact ⟨h1, h2⟩
      · exact ⟨h3, h4⟩
    · exact mem_wished hp
  have key := (run_count h ok (startW_length ws)).2
  have hfl : ∀ x ∈ fl, 0 ≤ x := fun x hx => h0 x (hp.mem_iff.mp hx)
  have e1 : hhN ws.length ((startW ws).map vN) = couldF fl ws := by
    rw [start_vals, ← hhN_perm (hp.map Int.toNat), could_eg hp hfl, hp.length_eq]
    refine hh_eg (by rw [List.length_map, hp.length_eq]) hz ?_ ?_
    · rw [List.pairwise_map]
      exact hs.imp fun {a b} hab => by omega
    · intro x hx
      obtain ⟨y, hy, rfl⟩ := List.mem_map.mp hx
      have := hm y (hp.mem_iff.mp hy)
      omega
  rw [Bool.eq_iff_iff, told_nil (n := ws.length) (fun p h1 h2 => wished_count h0 h1 h2) hr, ← e1, key]
  constructor
  · intro hq p hp
    obtain ⟨k, hk, rfl⟩ := List.mem_map.mp hp
    have hk' := mem_intsF.mp hk
    exact hq k hk'.1 hk'.2
  · intro hq p h1 h2
    exact hq [ws.getD p.toNat 0, p] (List.mem_map.mpr ⟨p, mem_intsF.mpr ⟨h1, h2⟩, rfl⟩)

theorem plain_ok {ws : List Int} (hz : ws.length ≤ 7) (hm : ∀ x ∈ ws, 0 ≤ x ∧ x < (ws.length : Nat)) : Plain ws where
  ties := fun T h => ties_ok hz (fun x hx => (hm x hx).1) h
  told := fun T h => by
    have h0 : ∀ x ∈ ws, 0 ≤ x := fun x hx => (hm x hx).1
    refine told_own fun p hp => ?_
    have hr : 0 ≤ p ∧ p < ((ws.length : Nat) : Int) := by
      rcases List.mem_append.mp hp with hp | hp
      · obtain ⟨t, ht, hp⟩ := List.mem_flatten.mp hp
        obtain ⟨⟨x, y, rfl, _, h1, h2, h3, h4⟩, _⟩ := (ties_ok hz h0 h).1 t ht
        simp only [List.mem_cons, List.not_mem_nil, or_false] at hp
        rcases hp with rfl | rfl
        · exact ⟨h1, h2⟩
        · exact ⟨h3, h4⟩
      · exact mem_wished hp
    exact wished_count h0 hr.1 hr.2
  could := fun T fl h hp hs => could_ok hz hm h hp hs
  wish := wish_ok hz hm
theorem plainAll (xs : List Int) : Plain (wsF xs) := plain_ok (wsF_le xs) wsF_mem
end Mine
end

section
open PySem PySem.W PyProof.Rows
set_option autoImplicit false
set_option linter.unusedVariables false
set_option maxRecDepth 100000
set_option maxHeartbeats 4000000
namespace Mine

/-- the text as the head looks at it: but for the two rows that name the module -/
def vw : Program := { PySem.Challenge.pw_op0023_01 with main := { PySem.Challenge.pw_op0023_01.main with body := [top 0, top 2, top 3, top 4, top 5, top 6, top 7, top 8, top 10, top 11, top 12] } }
abbrev ls : List Str := [Str.ofString "_tuplegetter", Str.ofString "Mismatch", Str.ofString "_Mismatch"]

/-- what stands behind the top, as far as it is wanted here -/
def vS (x : String) (t : Tok) : Value := .str (Str.ofString x) t
def kE (P : Params) (x : String) (t : Tok) (v : Value) : DictEntry := { hash := PyData.keyHash P (Str.ofString x), key := .str (Str.ofString x) t, val := v }
def topK (P : Params) : Frag :=
  [
    (2, { cls := Value.none, data := Data.dict #[] }),
    (3, { cls := Value.type "dict", data := Data.dict #[kE P "__name__" 165 (vS "law_op0023_01" 439), kE P "__doc__" 166 (Value.none), kE P "__package__" 167 (Value.none), kE P "__loader__" 168 (Value.builtin "__main__.__loader__#opaque"), kE P "__spec__" 169 (Value.none), kE P "__annotations__" 170 (Value.ref 6), kE P "__builtins__" 171 (Value.ref 4), kE P "__file__" 173 (vS "/claim/cut.py" 172), kE P "__cached__" 174 (Value.none), kE P "_wall" 193 (Value.ref 21), kE P "_tuplegetter" 252 (Value.ref 60), kE P "sorted_list_difference" 267 (Value.ref 71), kE P "unorderable_list_difference" 278 (Value.ref 78), kE P "three_way_cmp" 287 (Value.ref 85), kE P "Mismatch" 415 (Value.ref 156), kE P "_Mismatch" 416 (Value.ref 156), kE P "_count_diff_all_purpose" 438 (Value.ref 166), kE P "_law_ties" 446 (Value.ref 171), kE P "_law_could" 452 (Value.ref 176), kE P "law" 458 (Value.ref 181)] 20 }),
    (70, { cls := Value.type "code", data := Data.fields #[vS "sorted_list_difference" 253, vS "sorted_list_difference" 254, vS "/claim/cut.py" 255, Value.int 23 0, Value.int 2 0, Value.int 0 0, Value.int 0 0, Value.int 3 0, Value.ref 65, Value.bool true, Value.int 181 0, Value.ref 66, Value.none, Value.ref 67, Value.ref 68, Value.ref 69, Value.int 264 0, Value.int 23 0, vS "/claim/cut.py" 265] }),
    (71, { cls := Value.type "function", data := Data.func (fdOf (top 3) "sorted_list_difference" (Value.str ((docOf (fnBody (top 3))).getD Str.empty) 266) (vS "cpy313.unittest.util" 194) none (Value.ref 70) Value.none) }),
    (77, { cls := Value.type "code", data := Data.fields #[vS "unorderable_list_difference" 268, vS "unorderable_list_difference" 269, vS "/claim/cut.py" 270, Value.int 62 0, Value.int 2 0, Value.int 0 0, Value.int 0 0, Value.int 3 0, Value.ref 72, Value.bool true, Value.int 181 0, Value.ref 73, Value.none, Value.ref 74, Value.ref 75, Value.ref 76, Value.int 275 0, Value.int 62 0, vS "/claim/cut.py" 276] }),
    (78, { cls := Value.type "function", data := Data.func (fdOf (top 4) "unorderable_list_difference" (Value.str ((docOf (fnBody (top 4))).getD Str.empty) 277) (vS "cpy313.unittest.util" 194) none (Value.ref 77) Value.none) }),
    (84, { cls := Value.type "code", data := Data.fields #[vS "three_way_cmp" 279, vS "three_way_cmp" 280, vS "/claim/cut.py" 281, Value.int 76 0, Value.int 2 0, Value.int 0 0, Value.int 0 0, Value.int 3 0, Value.ref 79, Value.bool true, Value.int 181 0, Value.ref 80, Value.none, Value.ref 81, Value.ref 82, Value.ref 83, Value.int 284 0, Value.int 76 0, vS "/claim/cut.py" 285] }),
    (85, { cls := Value.type "function", data := Data.func (fdOf (top 5) "three_way_cmp" (Value.str ((docOf (fnBody (top 5))).getD Str.empty) 286) (vS "cpy313.unittest.util" 194) none (Value.ref 84) Value.none) }),
    (102, { cls := Value.type "code", data := Data.fields #[vS "__new__" 309, vS "Mismatch.__new__" 310, vS "/claim/cut.py" 311, Value.int 85 0, Value.int 4 0, Value.int 0 0, Value.int 0 0, Value.int 3 0, Value.ref 97, Value.bool true, Value.int 181 0, Value.ref 98, Value.none, Value.ref 99, Value.ref 100, Value.ref 101, Value.int 316 0, Value.int 85 0, vS "/claim/cut.py" 317] }),
    (103, { cls := Value.type "function", data := Data.func (fdOf (newSt) "Mismatch.__new__" (Value.str ((docOf (fnBody (newSt))).getD Str.empty) 318) (vS "cpy313.unittest.util" 194) none (Value.ref 102) Value.none) }),
    (155, { cls := Value.type "dict", data := Data.dict #[kE P "__module__" 295 (vS "cpy313.unittest.util" 194), kE P "__firstlineno__" 299 (Value.int 79 298), kE P "__doc__" 301 (vS "Mismatch(actual, expected, value)" 300), kE P "__slots__" 303 (Value.ref 94), kE P "_fields" 307 (Value.ref 95), kE P "_field_defaults" 308 (Value.ref 96), kE P "__new__" 319 (Value.ref 157), kE P "_make" 341 (Value.ref 112), kE P "_replace" 352 (Value.ref 121), kE P "__replace__" 353 (Value.ref 121), kE P "__repr__" 361 (Value.ref 128), kE P "_asdict" 368 (Value.ref 135), kE P "__getnewargs__" 376 (Value.ref 142), kE P "__match_args__" 380 (Value.ref 143), kE P "actual" 390 (Value.ref 145), kE P "expected" 400 (Value.ref 148), kE P "value" 410 (Value.ref 151), kE P "__static_attributes__" 411 (Value.ref 153)] 2 }),
    (156, { cls := Value.type "type", data := Data.cls { name := Str.ofString "Mismatch", bases := [Value.type "tuple"], mro := [Value.ref 156, Value.type "tuple", Value.type "object"], ns := 155, qualname := Str.ofString "Mismatch", hasDict := false }, slots := #[some (Value.ref 86), none, some (vS "Mismatch" 288), some (vS "Mismatch" 296), some Value.none, some (Value.bool false)] }),
    (157, { cls := Value.type "staticmethod", data := Data.fields #[Value.ref 103] }),
    (165, { cls := Value.type "code", data := Data.fields #[vS "_count_diff_all_purpose" 417, vS "_count_diff_all_purpose" 418, vS "/claim/cut.py" 419, Value.int 123 0, Value.int 2 0, Value.int 0 0, Value.int 0 0, Value.int 3 0, Value.ref 160, Value.bool true, Value.int 181 0, Value.ref 161, Value.none, Value.ref 162, Value.ref 163, Value.ref 164, Value.int 435 0, Value.int 123 0, vS "/claim/cut.py" 436] }),
    (166, { cls := Value.type "function", data := Data.func (fdOf (top 8) "_count_diff_all_purpose" (Value.str ((docOf (fnBody (top 8))).getD Str.empty) 437) (vS "cpy313.unittest.util" 194) none (Value.ref 165) Value.none) }),
    (170, { cls := Value.type "code", data := Data.fields #[vS "_law_ties" 441, vS "_law_ties" 442, vS "/claim/cut.py" 443, Value.int 156 0, Value.int 1 0, Value.int 0 0, Value.int 0 0, Value.int 3 0, Value.ref 167, Value.bool true, Value.int 181 0, Value.ref 168, Value.none, Value.none, Value.none, Value.ref 169, Value.int 444 0, Value.int 156 0, vS "/claim/cut.py" 445] }),
    (171, { cls := Value.type "function", data := Data.func (fdOf (top 10) "_law_ties" Value.none (vS "law_op0023_01" 439) none (Value.ref 170) Value.none) }),
    (175, { cls := Value.type "code", data := Data.fields #[vS "_law_could" 447, vS "_law_could" 448, vS "/claim/cut.py" 449, Value.int 167 0, Value.int 1 0, Value.int 0 0, Value.int 0 0, Value.int 3 0, Value.ref 172, Value.bool true, Value.int 181 0, Value.ref 173, Value.none, Value.none, Value.none, Value.ref 174, Value.int 450 0, Value.int 167 0, vS "/claim/cut.py" 451] }),
    (176, { cls := Value.type "function", data := Data.func (fdOf (top 11) "_law_could" Value.none (vS "law_op0023_01" 439) none (Value.ref 175) Value.none) })
  ]
def topAs : List Addr := [2, 3, 70, 71, 77, 78, 84, 85, 102, 103, 155, 156, 157, 165, 166, 170, 171, 175, 176]
theorem topAs_eq (P : Params) : topAs = (topK P).map (·.1) := by kernel_rfl

def objB (K : Frag) : Bool := match K.lookup 156 with
  | some o => match o.data with
    | .cls cd => !cd.hasDel
    | _ => false
  | none => false
theorem objB_out {K : Frag} (h : objB K = true) : ∃ oc od cd sl, K.lookup 156 = some ⟨oc, od, .cls cd, sl⟩ ∧ cd.hasDel = false := by
  unfold objB at h
  cases e : K.lookup 156 with
  | none => rw [e] at h; cases h
  | some o =>
    rw [e] at h
    obtain ⟨oc, od, d, sl⟩ := o
    cases d <;> first | exact absurd h Bool.false_ne_true | exact ⟨_, _, _, _, rfl, by simpa using h⟩
def recB (K : Frag) : Bool := match recIn K 157 "staticmethod" with
  | some (.ref a :: _) => a == 103
  | _ => false
theorem recB_out {K : Frag} (h : recB K = true) : ∃ rest, recIn K 157 "staticmethod" = some (.ref 103 :: rest) := by
  unfold recB at h
  split at h
  · rename_i a r e
    rw [e, show a = 103 by simpa using h]
    exact ⟨_, rfl⟩
  · cases h
theorem misOk (P : Params) : MisOk (topK P) where
  reads := by kernel_rfl
  found := by kernel_rfl
  recd := recB_out (by kernel_rfl)
  tnew := by kernel_rfl
  obj := objB_out (by kernel_rfl)
  call := fun S => by kernel_rfl
  typ := fun S => by kernel_rfl
  isT := fun S => by kernel_rfl
  mro := fun S => by kernel_rfl
  made := fun S => by kernel_rfl
  here := fun S => by kernel_rfl
  init := fun S => by kernel_rfl
  new := fun S => by kernel_rfl
  subT := fun S => by kernel_rfl
  subO := fun S => by kernel_rfl
  self := fun S => by kernel_rfl
  chk := fun S a => by kernel_rfl
  keep := by kernel_rfl
theorem eqOk (P : Params) : EqOk (topK P) where
  eq := fun S => by kernel_rfl
  ntup := fun S => by kernel_rfl
  subT := fun S => by kernel_rfl

/-- a def as the fragment has it -/
def fnData (K : Frag) (f : Addr) : Option Data := (K.lookup f).map (·.data)
def fnParts (K : Frag) (f : Addr) : Value × Value × Option Addr × Value × Value := match K.lookup f with
  | some ⟨_, _, .func fd, _⟩ => (fd.doc, fd.pyModule, fd.annotations, fd.code, fd.closureTuple)
  | _ => (.none, .none, none, .none, .none)
theorem fnIs_of {K : Frag} {h : Heap} (X : K.In h) {f : Addr} {st : Stmt} {qual : Str} (hd : fnData K f = some (.func (fdOf st qual (fnParts K f).1 (fnParts K f).2.1 (fnParts K f).2.2.1 (fnParts K f).2.2.2.1 (fnParts K f).2.2.2.2)))
    (hc : codeIn K (fnParts K f).2.2.2.1 qual = true) : FnIs h f st qual := by
  unfold fnData at hd
  cases e : K.lookup f with
  | none => rw [e] at hd; cases hd
  | some o =>
    rw [e] at hd
    exact ⟨o, _, _, _, _, _, X _ _ e, Option.some.inj hd, codeRec_of X hc⟩

theorem boot_b {mg mb : Str → Option Value} (hb : ∀ x : Str, x ≠ "__name__" → mb x = bootBuiltins x) {x : Str} {v : Value} (hn : x ≠ "__name__") (e : bootBuiltins x = some v) : mb x = some v := (hb x hn).trans e

theorem mkTp {P : Params} {h : Heap} {mg mb : Str → Option Value} (X : (topK P).In h) (g : h.Ns mainGlobals mg) (b : h.Ns builtinsNs mb) (nl : h.NoLimit) (hb : ∀ x : Str, x ≠ "__name__" → mb x = bootBuiltins x) : Tp h mg mb where
  g := g
  b := b
  nolimit := nl
  len := ⟨mg_none_of X g (by kernel_rfl), boot_b (mg := mg) hb (by decide) (by kernel_rfl)⟩
  range := ⟨mg_none_of X g (by kernel_rfl), boot_b (mg := mg) hb (by decide) (by kernel_rfl)⟩
  sorted := ⟨mg_none_of X g (by kernel_rfl), boot_b (mg := mg) hb (by decide) (by kernel_rfl)⟩
  sum := ⟨mg_none_of X g (by kernel_rfl), boot_b (mg := mg) hb (by decide) (by kernel_rfl)⟩
  min := ⟨mg_none_of X g (by kernel_rfl), boot_b (mg := mg) hb (by decide) (by kernel_rfl)⟩
  list := ⟨mg_none_of X g (by kernel_rfl), boot_b (mg := mg) hb (by decide) (by kernel_rfl)⟩
  enum := ⟨mg_none_of X g (by kernel_rfl), boot_b (mg := mg) hb (by decide) (by kernel_rfl)⟩
  obj := ⟨mg_none_of X g (by kernel_rfl), boot_b (mg := mg) hb (by decide) (by kernel_rfl)⟩
  tuple := ⟨mg_none_of X g (by kernel_rfl), boot_b (mg := mg) hb (by decide) (by kernel_rfl)⟩
  index := ⟨mg_none_of X g (by kernel_rfl), boot_b (mg := mg) hb (by decide) (by kernel_rfl)⟩
  value := ⟨mg_none_of X g (by kernel_rfl), boot_b (mg := mg) hb (by decide) (by kernel_rfl)⟩
  gSorted := mg_of X g (by kernel_rfl)
  gUnord := mg_of X g (by kernel_rfl)
  gCmp := mg_of X g (by kernel_rfl)
  gMis := mg_of X g (by kernel_rfl)
  gCount := mg_of X g (by kernel_rfl)
  gTies := mg_of X g (by kernel_rfl)
  gCould := mg_of X g (by kernel_rfl)
  fSorted := fnIs_of X (by kernel_rfl) (by kernel_rfl)
  fUnord := fnIs_of X (by kernel_rfl) (by kernel_rfl)
  fCmp := fnIs_of X (by kernel_rfl) (by kernel_rfl)
  fCount := fnIs_of X (by kernel_rfl) (by kernel_rfl)
  fTies := fnIs_of X (by kernel_rfl) (by kernel_rfl)
  fCould := fnIs_of X (by kernel_rfl) (by kernel_rfl)
theorem mkTm {P : Params} {h : Heap} (X : (topK P).In h) : Tm h := ⟨_, X, misOk P, fnIs_of X (by kernel_rfl) (by kernel_rfl)⟩
theorem mkTe {P : Params} {h : Heap} (X : (topK P).In h) : Te h := ⟨_, X, eqOk P⟩
end Mine
end

open PySem PySem.W PyProof.Rows
set_option maxRecDepth 100000 in
set_option maxHeartbeats 8000000 in
theorem PySem.Challenge.cw_op0023_01_holds : PySem.Challenge.rw_op0023_01.Holds := by
  w_on
  o_law
  refine holds_open (q := Mine.vw) (loose := Mine.ls) (Xt := fun s => xlAt Mine.vw [] s && recOk (RowW.records PySem.Challenge.rw_op0023_01.row.toRowW) s) (XP := XL Mine.vw []) (Yf := Hook.obs (kHook Mine.topK Mine.topAs Mine.topAs_eq)) (Ya := Hook.val (kHook Mine.topK Mine.topAs Mine.topAs_eq)) (YP := Hook.says (kHook Mine.topK Mine.topAs Mine.topAs_eq)) (N := 3424) ?hl (Hook.of (kHook Mine.topK Mine.topAs Mine.topAs_eq)) (Hook.keeps (kHook Mine.topK Mine.topAs Mine.topAs_eq)) (fun s e => xl_of s (Bool.and_eq_true_iff.mp e).1) XL.keeps (by rfl) (by rfl) (by rfl) (fun s e => recFacts_of (Bool.and_eq_true_iff.mp e).2) (by rfl) (by first | assumption | decide +kernel) (by decide +kernel) ⟨rfl, rfl, rfl, rfl, rfl, by decide +kernel⟩ ?hw ?hc
  case hw => w_witness2
  case hl => intro w; kernel_rfl
  case hc =>
    intro w s₀ s₁ mg mb G Y fa o pm cd doc dV kV ho hd hcd hD hmg hg args vals as hpre hlay hrd hwl hlo
    have KX := kIn_of Y
    refine Ground.open G ?_
    intro T B D TE TW
    clear D B TE TW
    clear hmg
    have hdV : dV = .none := by
      rcases hD.pos with h | h
      · exact h.2
      · exact absurd rfl h.1
    have hkV : kV = .none := by
      rcases hD.kw with h | h
      · exact h.2
      · exact absurd rfl h.1
    subst hdV hkV
    clear hD
    wrow_args hpre hlay hrd hwl hlo
    all_goals (
      first | refine callC_kw (enter_call ?_) | refine enter_call ?_ | refine callC_kw (enter_callW ?_) | refine enter_callW ?_ | w_how
      w_top on
      try refine codeAny_mono ?_ (fun _ _ g => GoodW.toG g)
      refine Mine.law_fn (doc := doc) (pm := pm) (an := none) (cd := cd) (ct := .none) (Mine.mkTp KX (Top.g T) (Top.b T) (Top.nolimit T) (Top.builtins T)) (Mine.mkTm KX) (Mine.mkTe KX) ho hd hcd (by assumption) (by assumption) ?_ (Mine.plainAll _) ?_
      · omega
      · intro h' tk hk
        refine ⟨.inl ⟨.bool true, .bool true, [], rfl, fun _ => rfl, ?_, ?_, ?_⟩, hk, rfl, hg⟩
        · exact .bool true
        · wrow_post
        · exact fun _ => ⟨.nil, fun a ha => by cases ha⟩)
