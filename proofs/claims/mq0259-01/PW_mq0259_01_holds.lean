import PyProof.Rows.All
import Wide.All
import OpenK.AllK
import Wide.FinOn
import PySem.Challenge.RW_mq0259_01
open PySem PySem.W PyProof.Rows
set_option Elab.async false
set_option maxRecDepth 100000
set_option maxHeartbeats 8000000
open_top hd for PySem.Challenge.rw_mq0259_01
theorem Mine.fills : True := by
  have h : PySem.Challenge.rw_mq0259_01.Holds → True := fun _ => trivial
  first
  | exact h (hd (by k_fill; fail))
  | trivial
section
open PySem PySem.W PyProof.Rows
set_option Elab.async false
set_option maxRecDepth 100000
set_option linter.unusedVariables false
namespace Mine

/-- every object of g stands in h -/
abbrev Sub (g h : Heap) : Prop := ∀ b o, g.get? b = some o → h.get? b = some o
theorem Sub.rfl' (g : Heap) : Sub g g := fun _ _ e => e
theorem Sub.trans {a b c : Heap} (x : Sub a b) (y : Sub b c) : Sub a c := fun p o e => y p o (x p o e)

theorem keeps_refl (s : Shared) : Keeps s s := ⟨s.heap, s.toks, rfl, fun _ _ e => e⟩
theorem keeps_trans {a b c : Shared} (x : Keeps a b) (y : Keeps b c) : Keeps a c := by
  obtain ⟨h, t, rfl, k⟩ := x
  obtain ⟨h', t', rfl, k'⟩ := y
  exact ⟨h', t', rfl, fun p o e => k' p o (k p o e)⟩
theorem keeps_sub {a b : Shared} (x : Keeps a b) : Sub a.heap b.heap := by
  obtain ⟨h, t, rfl, k⟩ := x; exact k
theorem keeps_toks (s : Shared) (t : Nat) : Keeps s { s with toks := t } := ⟨s.heap, t, rfl, fun _ _ e => e⟩
theorem keeps_of (s : Shared) {h : Heap} (t : Nat) (k : Sub s.heap h) : Keeps s { s with heap := h, toks := t } := ⟨h, t, rfl, k⟩
theorem keeps_push (s : Shared) (o : Obj) : Keeps s { s with heap := s.heap.push o } := ⟨_, s.toks, rfl, fun _ _ e => Heap.get?_push_of_some o e⟩

/-- g' is g with fresh objects -/
structure Gr (g : Heap) (s s' : Shared) (g' : Heap) : Prop where
  up : Sub g g'
  sub : Sub g' s'.heap
  fresh : ∀ a o, s.heap.get? a = some o → g'.get? a = g.get? a
theorem Gr.same {g : Heap} {s s' : Shared} (h : Sub g s.heap) (k : Keeps s s') : Gr g s s' g :=
  ⟨fun _ _ e => e, Sub.trans h (keeps_sub k), fun _ _ _ => rfl⟩
theorem Gr.trans {g g' g'' : Heap} {s s' s'' : Shared} (x : Gr g s s' g') (k : Keeps s s') (y : Gr g' s' s'' g'') : Gr g s s'' g'' :=
  ⟨Sub.trans x.up y.up, y.sub, fun a o e => (y.fresh a o (keeps_sub k a o e)).trans (x.fresh a o e)⟩

/-- t ends in a value with P, told in the grown known heap; what stood stays -/
def VG {α : Type} (M : Model) (A : Around) (t : Sem α) (g : Heap) (P : α → Heap → Prop) (s : Shared) : Prop :=
  wpAny M A t (fun v s' => Keeps s s' ∧ ∃ g', Gr g s s' g' ∧ P v g') (fun _ _ => False) s

section
variable {α β : Type} {M : Model} {A : Around} {s : Shared} {g : Heap}
theorem VG.any {t : Sem α} {P : α → Heap → Prop} {Q : α → Shared → Prop} {E : Value → Shared → Prop} (h : VG M A t g P s) (k : ∀ v s' g', Keeps s s' → Gr g s s' g' → P v g' → Q v s') : wpAny M A t Q E s :=
  wpAny_mono h (fun v s' h' => by obtain ⟨a, g', b, c⟩ := h'; exact k v s' g' a b c) fun _ _ h' => h'.elim
theorem VG.imp {t : Sem α} {P Q : α → Heap → Prop} (h : VG M A t g P s) (k : ∀ v g', Sub g g' → P v g' → Q v g') : VG M A t g Q s :=
  wpAny_mono h (fun v s' h' => by obtain ⟨a, g', b, c⟩ := h'; exact ⟨a, g', b, k v g' b.up c⟩) fun _ _ h' => h'
theorem VG.pure {a : α} {P : α → Heap → Prop} (hg : Sub g s.heap) (h : P a g) : VG M A (pure a) g P s := wpAny_pure ⟨keeps_refl s, g, Gr.same hg (keeps_refl s), h⟩
theorem VG.bind {t : Sem α} {f : α → Sem β} {R : β → Heap → Prop}
    (h : VG M A t g (fun v g' => ∀ s', Keeps s s' → Gr g s s' g' → VG M A (f v) g' R s') s) : VG M A (t >>= f) g R s :=
  wpAny_bind (wpAny_mono h (fun v s' h' => by
    obtain ⟨a, g', b, c⟩ := h'
    exact wpAny_mono (c s' a b) (fun _ _ h'' => by
      obtain ⟨a', g'', b', c'⟩ := h''
      exact ⟨keeps_trans a a', g'', b.trans a b', c'⟩) fun _ _ x => x) fun _ _ x => x.elim)
end

/-- a tree that needs the known heap alone -/
def Op {α : Type} (M : Model) (A : Around) (g : Heap) (t : Sem α) (P : α → Heap → Prop) : Prop := ∀ s, Sub g s.heap → VG M A t g P s
/-- a tree that ends in v, the heap as it was, whatever else -/
theorem Op.of {α : Type} {M : Model} {A : Around} {g : Heap} {t : Sem α} {P : α → Heap → Prop}
    (h : ∀ s, Sub g s.heap → wpAny M A t (fun v s' => Keeps s s' ∧ P v g) (fun _ _ => False) s) : Op M A g t P := fun s hs =>
  wpAny_mono (h s hs) (fun _ _ h' => ⟨h'.1, g, Gr.same hs h'.1, h'.2⟩) fun _ _ x => x
theorem Op.imp {α : Type} {M : Model} {A : Around} {g : Heap} {t : Sem α} {P Q : α → Heap → Prop} (h : Op M A g t P) (k : ∀ v g', Sub g g' → P v g' → Q v g') : Op M A g t Q :=
  fun s hs => (h s hs).imp k

theorem exists_heap (n : Nat) (f : Nat → Option Obj) (hf : ∀ i o, f i = some o → i < n ∧ o.isFreed = false) : ∃ g : Heap, ∀ i, g.get? i = f i := by
  refine ⟨⟨Array.ofFn (n := n) fun i => (f i).getD ⟨.none, none, .freed, #[]⟩, {}⟩, fun i => ?_⟩
  cases e : f i with
  | none =>
    cases q : Heap.get? ⟨Array.ofFn (n := n) fun i => (f i).getD ⟨.none, none, .freed, #[]⟩, {}⟩ i with
    | none => rfl
    | some o =>
      obtain ⟨q1, q2⟩ := Heap.get?_some_iff.mp q
      dsimp only at q1
      rw [Array.getElem?_ofFn] at q1
      split at q1
      · rw [e] at q1; cases q1; simp [Obj.isFreed] at q2
      · cases q1
  | some o =>
    obtain ⟨h1, h2⟩ := hf i o e
    refine Heap.get?_some_iff.mpr ⟨?_, h2⟩
    dsimp only
    rw [Array.getElem?_ofFn, dif_pos h1, e]; rfl

/-- all that is new, known -/
theorem grow {g : Heap} {s s' : Shared} (hs : Sub g s.heap) (k : Keeps s s') : ∃ g', Gr g s s' g' ∧ ∀ a, s.heap.get? a = none → g'.get? a = s'.heap.get? a := by
  obtain ⟨g', e⟩ := exists_heap s'.heap.objs.size (fun a => if s.heap.get? a = none then s'.heap.get? a else g.get? a) (fun i o h => by
    split at h
    · exact ⟨Heap.lt_size h, (Heap.get?_some_iff.mp h).2⟩
    · exact ⟨Heap.lt_size (keeps_sub k _ _ (hs _ _ h)), (Heap.get?_some_iff.mp h).2⟩)
  refine ⟨g', ⟨fun b o h => ?_, fun b o h => ?_, fun a o h => ?_⟩, fun a h => ?_⟩
  · rw [e, if_neg (by rw [hs b o h]; exact fun q => nomatch q)]; exact h
  · rw [e] at h
    split at h
    · exact h
    · exact keeps_sub k _ _ (hs _ _ h)
  · rw [e, if_neg (by rw [h]; exact fun q => nomatch q)]
  · rw [e, if_pos h]
/-- a new object at hand -/
theorem Op.new {α : Type} {M : Model} {A : Around} {g : Heap} {t : Sem α} {P : α → Heap → Prop}
    (h : ∀ s, Sub g s.heap → wpAny M A t (fun v s' => Keeps s s' ∧ ∀ g', Sub g g' → (∀ a, s.heap.get? a = none → g'.get? a = s'.heap.get? a) → P v g') (fun _ _ => False) s) : Op M A g t P := fun s hs =>
  wpAny_mono (h s hs) (fun v s' h' => by
    obtain ⟨g', u, e⟩ := grow hs h'.1
    exact ⟨h'.1, g', u, h'.2 g' u.up e⟩) fun _ _ x => x
theorem fresh_size (h : Heap) : h.get? h.objs.size = none := by
  cases e : h.get? h.objs.size with
  | none => rfl
  | some x => exact absurd (Heap.lt_size e) (Nat.lt_irrefl _)
theorem Op.push {M : Model} {A : Around} {g : Heap} {t : Sem Value} {P : Value → Heap → Prop} {o : Obj} (ho : o.isFreed = false)
    (ht : ∀ s (Q : Value → Shared → Prop) (E : Value → Shared → Prop), Q (.ref s.heap.objs.size) { s with heap := s.heap.push o } → wpAny M A t Q E s)
    (h : ∀ a g', Sub g g' → g.get? a = none → g'.get? a = some o → P (.ref a) g') : Op M A g t P := Op.new fun s hs => by
  refine ht s _ _ ⟨keeps_push s o, fun g' u e => h _ g' u ?_ ?_⟩
  · cases q : g.get? s.heap.objs.size with
    | none => rfl
    | some x => exact absurd (Heap.lt_size (hs _ _ q)) (Nat.lt_irrefl _)
  · rw [e _ (fresh_size _)]; exact Heap.get?_push_size _ ho

/-- where an expression is evaluated: known heap, locals -/
structure At (g : Heap) (L : Addr) (m : Str → Option Value) (s : Shared) : Prop where
  sub : Sub g s.heap
  ns : s.heap.Ns L m
theorem At.keeps {g : Heap} {L : Addr} {m : Str → Option Value} {s s' : Shared} (x : At g L m s) (k : Keeps s s') : At g L m s' :=
  ⟨Sub.trans x.sub (keeps_sub k), x.ns.keeps (keeps_sub k)⟩
theorem At.up {g g' : Heap} {L : Addr} {m : Str → Option Value} {s s' : Shared} (x : At g L m s) (k : Keeps s s') (y : Gr g s s' g') : At g' L m s' :=
  ⟨y.sub, x.ns.keeps (keeps_sub k)⟩

/-- a tree at every such place -/
def Tr {α : Type} (M : Model) (A : Around) (g : Heap) (L : Addr) (m : Str → Option Value) (t : Sem α) (P : α → Heap → Prop) : Prop :=
  ∀ s, At g L m s → VG M A t g P s
abbrev Ev (M : Model) (A : Around) (g : Heap) (L : Addr) (m : Str → Option Value) (env : Env) (e : Expr) (P : Value → Heap → Prop) : Prop := Tr M A g L m (eval e env) P
abbrev Ts (M : Model) (A : Around) (g : Heap) (L : Addr) (m : Str → Option Value) (env : Env) (e : Expr) (P : Bool → Heap → Prop) : Prop := Tr M A g L m (isTrue e env (eval e env)) P
/-- arguments, items of a display -/
def EvL (M : Model) (A : Around) (g : Heap) (L : Addr) (m : Str → Option Value) (env : Env) (es : List Expr) (P : List Value → Heap → Prop) : Prop :=
  ∀ pos, Tr M A g L m (spliced (backTo pos (starEach es env))) P

section
variable {α β : Type} {M : Model} {A : Around} {g : Heap} {L : Addr} {m : Str → Option Value} {env : Env}
theorem Tr.imp {t : Sem α} {P Q : α → Heap → Prop} (h : Tr M A g L m t P) (k : ∀ v g', Sub g g' → P v g' → Q v g') : Tr M A g L m t Q := fun s hs => (h s hs).imp k
theorem Op.tr {t : Sem α} {P : α → Heap → Prop} (h : Op M A g t P) : Tr M A g L m t P := fun s hs => h s hs.sub
theorem Tr.bind {t : Sem α} {f : α → Sem β} {R : β → Heap → Prop} (h : Tr M A g L m t (fun v g' => Tr M A g' L m (f v) R)) : Tr M A g L m (t >>= f) R := fun s hs =>
  VG.bind ((h s hs).imp fun v g' _ h' s' k u => h' s' (hs.up k u))
theorem Op.bind {t : Sem α} {f : α → Sem β} {R : β → Heap → Prop} (h : Op M A g t (fun v g' => Op M A g' (f v) R)) : Op M A g (t >>= f) R := fun s hs =>
  VG.bind ((h s hs).imp fun v g' _ h' s' k u => h' s' u.sub)
theorem Op.pure {a : α} {P : α → Heap → Prop} (h : P a g) : Op M A g (pure a) P := fun s hs => VG.pure hs h

theorem ev_local {x : Str} {pos : Pos} {v : Value} {P : Value → Heap → Prop} (hl : env.locals = L) (hk : env.scope.kind = .function) (hx : env.kindOf x = some .local) (hv : m x = some v) (h : P v g) (hd : (x == ("__debug__" : Str)) = false := by decide) :
    Ev M A g L m env (.Name x pos) P := fun s hs => by
  subst hl
  exact wpAny_Name (wpAny_loadName_local hk hx hs.ns hv ⟨keeps_refl s, g, Gr.same hs.sub (keeps_refl s), h⟩) hd
theorem ev_cell {x : Str} {pos : Pos} {v : Value} {c : Addr} {P : Value → Heap → Prop} (hk : env.scope.kind = .function) (hx : env.kindOf x = some .cell) (hc : env.cells.lookup x = some c) (hv : g.IsCell c (some v)) (h : P v g) (hd : (x == ("__debug__" : Str)) = false := by decide) :
    Ev M A g L m env (.Name x pos) P := fun s hs =>
  wpAny_Name (wpAny_loadName_cell hk hx hc (hv.keeps hs.sub) ⟨keeps_refl s, g, Gr.same hs.sub (keeps_refl s), h⟩) hd
theorem ev_free {x : Str} {pos : Pos} {v : Value} {c : Addr} {P : Value → Heap → Prop} (hk : env.scope.kind = .function) (hx : env.kindOf x = some .free) (hc : env.cells.lookup x = some c) (hv : g.IsCell c (some v)) (h : P v g) (hd : (x == ("__debug__" : Str)) = false := by decide)
    (hn : (x == ("__classdict__" : Str)) = false := by decide) :
    Ev M A g L m env (.Name x pos) P := fun s hs =>
  wpAny_Name (wpAny_loadName_free hk hx hc (hv.keeps hs.sub) ⟨keeps_refl s, g, Gr.same hs.sub (keeps_refl s), h⟩ hn) hd
theorem ev_global {x : Str} {pos : Pos} {v : Value} {mg : Str → Option Value} {P : Value → Heap → Prop} (hg : g.Ns env.globals mg) (hv : mg x = some v) (h : P v g) (hk : env.scope.kind = .function) (hx : env.kindOf x = some .globalImplicit) (hd : (x == ("__debug__" : Str)) = false := by decide) :
    Ev M A g L m env (.Name x pos) P := fun s hs =>
  Calls.Name_function_global hk hx (Calls.loadGlobal_global (hg.keeps hs.sub) hv ⟨keeps_refl s, g, Gr.same hs.sub (keeps_refl s), h⟩) hd
theorem ev_builtin {x : Str} {pos : Pos} {v : Value} {mg mb : Str → Option Value} {P : Value → Heap → Prop} (hg : g.Ns env.globals mg) (hn : mg x = none) (hb : g.Ns env.builtins mb) (hv : mb x = some v) (h : P v g) (hk : env.scope.kind = .function) (hx : env.kindOf x = some .globalImplicit) (hd : (x == ("__debug__" : Str)) = false := by decide) :
    Ev M A g L m env (.Name x pos) P := fun s hs =>
  Calls.Name_function_global hk hx (Calls.loadGlobal_builtin (hg.keeps hs.sub) hn (hb.keeps hs.sub) hv ⟨keeps_refl s, g, Gr.same hs.sub (keeps_refl s), h⟩) hd
theorem ev_int {i : Int} {k : Nat} {pos : Pos} {P : Value → Heap → Prop} (h : ∀ t, P (.int i t) g) : Ev M A g L m env (.Constant (.int i) k pos) P := fun s hs =>
  wpAny_Constant_int ⟨keeps_toks s _, g, Gr.same hs.sub (keeps_toks s _), h _⟩
theorem ev_str {x : Str} {k : Nat} {pos : Pos} {P : Value → Heap → Prop} (h : ∀ t, P (.str x t) g) : Ev M A g L m env (.Constant (.str x) k pos) P := fun s hs =>
  wpAny_Constant_str ⟨keeps_toks s _, g, Gr.same hs.sub (keeps_toks s _), h _⟩
theorem ev_bool {b : Bool} {k : Nat} {pos : Pos} {P : Value → Heap → Prop} (h : P (.bool b) g) : Ev M A g L m env (.Constant (.bool b) k pos) P := fun s hs =>
  wpAny_Constant_bool ⟨keeps_refl s, g, Gr.same hs.sub (keeps_refl s), h⟩
theorem ev_none {k : Nat} {pos : Pos} {P : Value → Heap → Prop} (h : P .none g) : Ev M A g L m env (.Constant .none k pos) P := fun s hs =>
  wpAny_Constant_none ⟨keeps_refl s, g, Gr.same hs.sub (keeps_refl s), h⟩

theorem ev_bin {l r : Expr} {op : Operator} {pos : Pos} {R : Value → Heap → Prop}
    (h : Ev M A g L m env l (fun a g₁ => Ev M A g₁ L m env r (fun b g₂ => Op M A g₂ (binaryOp op a b) R))) : Ev M A g L m env (.BinOp l op r pos) R := fun s hs =>
  wpAny_BinOp ((h s hs).any fun a s₁ g₁ k₁ u₁ ha => (ha s₁ (hs.up k₁ u₁)).any fun b s₂ g₂ k₂ u₂ hb =>
    (hb s₂ u₂.sub).any fun v s₃ g₃ k₃ u₃ hv => ⟨keeps_trans k₁ (keeps_trans k₂ k₃), g₃, (u₁.trans k₁ u₂).trans (keeps_trans k₁ k₂) u₃, hv⟩)
theorem ev_cmp {l r : Expr} {op : CmpOp} {pos : Pos} {R : Value → Heap → Prop}
    (h : Ev M A g L m env l (fun a g₁ => Ev M A g₁ L m env r (fun b g₂ => Op M A g₂ (compareOp op a b) R))) (hm : behindInMarks op r = false := by with_unfolding_all rfl) : Ev M A g L m env (.Compare l [op] [r] pos) R := fun s hs =>
  wpAny_Compare1 ((h s hs).any fun a s₁ g₁ k₁ u₁ ha => (ha s₁ (hs.up k₁ u₁)).any fun b s₂ g₂ k₂ u₂ hb =>
    (hb s₂ u₂.sub).any fun v s₃ g₃ k₃ u₃ hv => ⟨keeps_trans k₁ (keeps_trans k₂ k₃), g₃, (u₁.trans k₁ u₂).trans (keeps_trans k₁ k₂) u₃, hv⟩) hm
theorem ts_cmp {l r : Expr} {op : CmpOp} {pos : Pos} {R : Bool → Heap → Prop}
    (h : Ev M A g L m env l (fun a g₁ => Ev M A g₁ L m env r (fun b g₂ => Op M A g₂ (compareOp op a b) (fun c g₃ => Op M A g₃ (truthy c) R)))) (hm : behindInMarks op r = false := by with_unfolding_all rfl) : Ts M A g L m env (.Compare l [op] [r] pos) R := fun s hs =>
  wpAny_isTrue_Compare1 ((h s hs).any fun a s₁ g₁ k₁ u₁ ha => (ha s₁ (hs.up k₁ u₁)).any fun b s₂ g₂ k₂ u₂ hb =>
    (hb s₂ u₂.sub).any fun v s₃ g₃ k₃ u₃ hv => (hv s₃ u₃.sub).any fun c s₄ g₄ k₄ u₄ hc =>
      ⟨keeps_trans k₁ (keeps_trans k₂ (keeps_trans k₃ k₄)), g₄, ((u₁.trans k₁ u₂).trans (keeps_trans k₁ k₂) u₃).trans (keeps_trans k₁ (keeps_trans k₂ k₃)) u₄, hc⟩) hm
theorem ts_not {x : Expr} {pos : Pos} {R : Bool → Heap → Prop} (h : Ts M A g L m env x (fun b g' => R (!b) g')) : Ts M A g L m env (.UnaryOp .Not x pos) R := fun s hs =>
  wpAny_isTrue_Not (h s hs)
theorem ts_value {e : Expr} {R : Bool → Heap → Prop} (h : Ev M A g L m env e (fun v g' => Op M A g' (truthy v) R))
    (he : isTrue e env (eval e env) = (do let v ← eval e env; standAt e.pos; holding [v] (truthy v)) := by rfl) : Ts M A g L m env e R := fun s hs =>
  wpAny_isTrue_value ((h s hs).any fun v s₁ g₁ k₁ u₁ hv => (hv s₁ u₁.sub).any fun c s₂ g₂ k₂ u₂ hc => ⟨keeps_trans k₁ k₂, g₂, u₁.trans k₁ u₂, hc⟩) he
theorem ts_and {x y : Expr} {pos : Pos} {R : Bool → Heap → Prop} (h : Ts M A g L m env x (fun b g' => if b then Ts M A g' L m env y R else R false g')) : Ts M A g L m env (.BoolOp .And [x, y] pos) R := fun s hs => by
  refine wpAny_isTrue_BoolOp (wpAny_allTrue_And_cons ((h s hs).any fun b s₁ g₁ k₁ u₁ hb => ?_))
  cases b with
  | false => exact ⟨k₁, g₁, u₁, hb⟩
  | true =>
    refine wpAny_allTrue_And_cons ((hb s₁ (hs.up k₁ u₁)).any fun c s₂ g₂ k₂ u₂ hc => ?_)
    cases c with
    | false => exact ⟨keeps_trans k₁ k₂, g₂, u₁.trans k₁ u₂, hc⟩
    | true => exact wpAny_allTrue_And_nil ⟨keeps_trans k₁ k₂, g₂, u₁.trans k₁ u₂, hc⟩
theorem ts_or {x y : Expr} {pos : Pos} {R : Bool → Heap → Prop} (h : Ts M A g L m env x (fun b g' => if b then R true g' else Ts M A g' L m env y R)) : Ts M A g L m env (.BoolOp .Or [x, y] pos) R := fun s hs => by
  refine wpAny_isTrue_BoolOp (wpAny_allTrue_Or_cons ((h s hs).any fun b s₁ g₁ k₁ u₁ hb => ?_))
  cases b with
  | true => exact ⟨k₁, g₁, u₁, hb⟩
  | false =>
    refine wpAny_allTrue_Or_cons ((hb s₁ (hs.up k₁ u₁)).any fun c s₂ g₂ k₂ u₂ hc => ?_)
    cases c with
    | true => exact ⟨keeps_trans k₁ k₂, g₂, u₁.trans k₁ u₂, hc⟩
    | false => exact wpAny_allTrue_Or_nil ⟨keeps_trans k₁ k₂, g₂, u₁.trans k₁ u₂, hc⟩
theorem ev_and {x y : Expr} {pos : Pos} {R : Value → Heap → Prop} (h : Ev M A g L m env x (fun v g' => Op M A g' (truthy v) (fun b g'' => if b then Ev M A g'' L m env y R else R v g''))) : Ev M A g L m env (.BoolOp .And [x, y] pos) R := fun s hs => by
  refine wpAny_And2 ((h s hs).any fun v s₁ g₁ k₁ u₁ hv => (hv s₁ u₁.sub).any fun b s₂ g₂ k₂ u₂ hb => ?_)
  cases b with
  | false => exact ⟨keeps_trans k₁ k₂, g₂, u₁.trans k₁ u₂, hb⟩
  | true => exact (hb s₂ ((hs.up k₁ u₁).up k₂ u₂)).any fun c s₃ g₃ k₃ u₃ hc => ⟨keeps_trans (keeps_trans k₁ k₂) k₃, g₃, (u₁.trans k₁ u₂).trans (keeps_trans k₁ k₂) u₃, hc⟩

theorem evL_nil {R : List Value → Heap → Prop} (h : R [] g) : EvL M A g L m env [] R := fun _ s hs => wpAny_items_nil ⟨keeps_refl s, g, Gr.same hs.sub (keeps_refl s), h⟩
theorem evL_cons {e : Expr} {rest : List Expr} {R : List Value → Heap → Prop} (h : Ev M A g L m env e (fun v g' => EvL M A g' L m env rest (fun vs g'' => R (v :: vs) g'')))
    (he : starEach (e :: rest) env = (false, eval e env) :: starEach rest env := by rfl) : EvL M A g L m env (e :: rest) R := fun pos s hs =>
  wpAny_items_cons ((h s hs).any fun v s₁ g₁ k₁ u₁ hv => (hv pos s₁ (hs.up k₁ u₁)).any fun vs s₂ g₂ k₂ u₂ hvs => ⟨keeps_trans k₁ k₂, g₂, u₁.trans k₁ u₂, hvs⟩) he
end
end Mine
end
section
open PySem PySem.W PyProof.Rows
set_option Elab.async false
set_option maxRecDepth 100000
set_option linter.unusedVariables false
namespace Mine
section
variable {prog : Program} {w : World} {A : Around} {g : Heap} {L : Addr} {m : Str → Option Value} {env : Env}

theorem op_add {a b : Int} {t u : Tok} {P : Value → Heap → Prop} (h : ∀ t, P (.int (a + b) t) g) : Op (model prog w) A g (binaryOp .Add (.int a t) (.int b u)) P :=
  .of fun s _ => PyProof.Rows.add_int ⟨keeps_toks s _, h _⟩
theorem op_sub {a b : Int} {t u : Tok} {P : Value → Heap → Prop} (h : ∀ t, P (.int (a - b) t) g) : Op (model prog w) A g (binaryOp .Sub (.int a t) (.int b u)) P :=
  .of fun s _ => PyProof.Rows.sub_int ⟨keeps_toks s _, h _⟩
theorem op_mul {a b : Int} {t u : Tok} {P : Value → Heap → Prop} (hm : IntMulOk a b) (h : ∀ t, P (.int (a * b) t) g) : Op (model prog w) A g (binaryOp .Mult (.int a t) (.int b u)) P :=
  .of fun s _ => PyProof.Rows.mul_int ⟨keeps_toks s _, h _⟩ hm
theorem op_mod {a b : Int} {t u : Tok} {P : Value → Heap → Prop} (hb : b ≠ 0) (h : ∀ t, P (.int (a.fmod b) t) g) : Op (model prog w) A g (binaryOp .Mod (.int a t) (.int b u)) P :=
  .of fun s _ => PyProof.Rows.mod_int hb ⟨keeps_toks s _, h _⟩
theorem op_fdiv {a b : Int} {t u : Tok} {P : Value → Heap → Prop} (hb : b ≠ 0) (hs : b.natAbs < 1073741824) (h : ∀ t, P (.int (a.fdiv b) t) g) : Op (model prog w) A g (binaryOp .FloorDiv (.int a t) (.int b u)) P :=
  .of fun s _ => PyProof.Rows.floordiv_int hb ⟨keeps_toks s _, h _⟩ (.inl (PyProof.noPylong_small hs))
theorem op_le {a b : Int} {t u : Tok} {P : Value → Heap → Prop} (h : P (.bool (decide (a ≤ b))) g) : Op (model prog w) A g (compareOp .LtE (.int a t) (.int b u)) P :=
  .of fun s _ => PyProof.Rows.le_int ⟨keeps_refl s, h⟩
theorem op_ge {a b : Int} {t u : Tok} {P : Value → Heap → Prop} (h : P (.bool (decide (b ≤ a))) g) : Op (model prog w) A g (compareOp .GtE (.int a t) (.int b u)) P :=
  .of fun s _ => PyProof.Rows.ge_int ⟨keeps_refl s, h⟩
theorem op_eqI {a b : Int} {t u : Tok} {P : Value → Heap → Prop} (h : P (.bool (a == b)) g) : Op (model prog w) A g (compareOp .Eq (.int a t) (.int b u)) P :=
  .of fun s _ => PyProof.Rows.eq_int ⟨keeps_refl s, h⟩
theorem op_eqS {a b : Str} {t u : Tok} {P : Value → Heap → Prop} (h : P (.bool (a == b)) g) : Op (model prog w) A g (compareOp .Eq (.str a t) (.str b u)) P :=
  .of fun s _ => PyProof.Rows.eq_str ⟨keeps_refl s, h⟩
theorem op_truthB {b : Bool} {P : Bool → Heap → Prop} (h : P b g) : Op (model prog w) A g (truthy (.bool b)) P :=
  .of fun s _ => wpAny_truthy_bool ⟨keeps_refl s, h⟩
theorem op_addS {x y : Str} {t u : Tok} {P : Value → Heap → Prop} (hz : x.length + y.length ≤ sizeLine) (h : ∀ t, P (.str (x ++ y) t) g) : Op (model prog w) A g (binaryOp .Add (.str x t) (.str y u)) P :=
  .of fun s _ => PyProof.Rows.add_str (fun t' tk => ⟨keeps_toks s tk, h t'⟩) hz
theorem op_is_self {x : Addr} {P : Value → Heap → Prop} (h : P (.bool true) g) : Op (model prog w) A g (compareOp .Is (.ref x) (.ref x)) P :=
  .of fun s _ => wpAny_is_ref_self ⟨keeps_refl s, h⟩
theorem op_isNot_self {x : Addr} {P : Value → Heap → Prop} (h : P (.bool false) g) : Op (model prog w) A g (compareOp .IsNot (.ref x) (.ref x)) P :=
  .of fun s _ => wpAny_isNot_ref_self ⟨keeps_refl s, h⟩
theorem op_is_other {x y : Addr} {ox oy : Obj} {P : Value → Heap → Prop} (hxy : x ≠ y) (hx : g.get? x = some ox) (hy : g.get? y = some oy) (hnt : ox.cls ≠ .type "tuple") (h : P (.bool false) g) : Op (model prog w) A g (compareOp .Is (.ref x) (.ref y)) P :=
  .of fun s hs => wpAny_is_ref_other hxy (hs _ _ hx) (hs _ _ hy) hnt ⟨keeps_refl s, h⟩
theorem op_is_plain {a b : Value} {P : Value → Heap → Prop} (hp : plainIs a b = true) (h : P (.bool (a == b)) g) : Op (model prog w) A g (compareOp .Is a b) P :=
  .of fun s hs => wpAny_is_plain hp ⟨keeps_refl s, h⟩

/-- xs == [] -/
theorem op_eq_nil {a b : Addr} {xs : Array Value} {P : Value → Heap → Prop} (ha : g.IsList a xs) (hb : g.IsList b #[]) (hu : A.units < cLine) (h : P (.bool (xs.size == 0)) g) : Op (model prog w) A g (compareOp .Eq (.ref a) (.ref b)) P :=
  .of fun s hs => by
    have ha' : s.heap.IsList a xs := ha.at fun o e => hs _ o e
    have hb' : s.heap.IsList b #[] := hb.at fun o e => hs _ o e
    by_cases hz : xs.size = 0
    · refine PySem.SeqAt.eq_listAt (e := fun _ => true) ha' hb' (by simpa using hz) hu (fun j h1 h2 => by simp at h2) ⟨keeps_refl s, ?_⟩
      rw [hz] at h ⊢; exact h
    · refine PySem.SeqAt.eq_list_lengthsAt ha' hb' (by simpa using hz) hu ⟨keeps_refl s, ?_⟩
      rwa [show (xs.size == 0) = false by simpa using hz] at h
theorem op_ne_nil {a b : Addr} {xs : Array Value} {P : Value → Heap → Prop} (ha : g.IsList a xs) (hb : g.IsList b #[]) (hu : A.units < cLine) (h : P (.bool (!(xs.size == 0))) g) : Op (model prog w) A g (compareOp .NotEq (.ref a) (.ref b)) P :=
  .of fun s hs => by
    have ha' : s.heap.IsList a xs := ha.at fun o e => hs _ o e
    have hb' : s.heap.IsList b #[] := hb.at fun o e => hs _ o e
    by_cases hz : xs.size = 0
    · refine PySem.SeqAt.RcNeAt.lists (e := fun _ => true) ha' hb' (by simpa using hz) hu (fun j h1 h2 => by simp at h2) prog w _ _ ⟨keeps_refl s, ?_⟩
      rw [hz] at h ⊢; exact h
    · refine PySem.SeqAt.RcNeAt.lists_lengths ha' hb' (by simpa using hz) hu prog w _ _ ⟨keeps_refl s, ?_⟩
      rwa [show (xs.size == 0) = false by simpa using hz] at h

/-- displays -/
theorem ev_list {es : List Expr} {pos : Pos} {R : Value → Heap → Prop}
    (h : EvL (model prog w) A g L m env es (fun vs g' => vs.length ≤ sizeLine ∧ ∀ a g'', Sub g' g'' → g'.get? a = none → g''.get? a = some { cls := .type "list", data := .seq vs.toArray } → R (.ref a) g'')) : Ev (model prog w) A g L m env (.List es pos) R := fun s hs => by
  refine wpAny_List ((h pos s hs).any fun vs s₁ g₁ k₁ u₁ hv => ⟨hv.1, ?_⟩)
  have k₂ := keeps_push s₁ { cls := .type "list", data := .seq vs.toArray }
  obtain ⟨g₂, u₂, e₂⟩ := grow u₁.sub k₂
  refine ⟨keeps_trans k₁ k₂, g₂, u₁.trans k₁ u₂, hv.2 _ _ u₂.up ?_ ?_⟩
  · cases q : g₁.get? s₁.heap.objs.size with
    | none => rfl
    | some x => exact absurd (Heap.lt_size (u₁.sub _ _ q)) (Nat.lt_irrefl _)
  · rw [e₂ _ (fresh_size _)]; exact Heap.get?_push_size _ rfl
theorem ev_tuple {es : List Expr} {k : Nat} {pos : Pos} {R : Value → Heap → Prop}
    (h : EvL (model prog w) A g L m env es (fun vs g' => vs.length ≤ sizeLine ∧ ∀ a g'', Sub g' g'' → g'.get? a = none → g''.get? a = some { cls := .type "tuple", data := .seq vs.toArray } → R (.ref a) g'')) : Ev (model prog w) A g L m env (.Tuple es k pos) R := fun s hs => by
  refine wpAny_Tuple ((h pos s hs).any fun vs s₁ g₁ k₁ u₁ hv => ⟨hv.1, ?_⟩)
  have k₂ := keeps_push s₁ { cls := .type "tuple", data := .seq vs.toArray }
  obtain ⟨g₂, u₂, e₂⟩ := grow u₁.sub k₂
  refine ⟨keeps_trans k₁ k₂, g₂, u₁.trans k₁ u₂, hv.2 _ _ u₂.up ?_ ?_⟩
  · cases q : g₁.get? s₁.heap.objs.size with
    | none => rfl
    | some x => exact absurd (Heap.lt_size (u₁.sub _ _ q)) (Nat.lt_irrefl _)
  · rw [e₂ _ (fresh_size _)]; exact Heap.get?_push_size _ rfl

/-- reading a field -/
theorem ev_attr {n attr : Str} {np pos : Pos} {R : Value → Heap → Prop} (h : Ev (model prog w) A g L m env (.Name n np) (fun o g' => Op (model prog w) A g' (getAttr o attr true) R)) : Ev (model prog w) A g L m env (.Attribute (.Name n np) attr pos) R := fun s hs =>
  Attribute_name ((h s hs).any fun o s₁ g₁ k₁ u₁ ho => (ho s₁ u₁.sub).any fun v s₂ g₂ k₂ u₂ hv => ⟨keeps_trans k₁ k₂, g₂, u₁.trans k₁ u₂, hv⟩)
/-- items -/
theorem ev_item {value slice : Expr} {pos : Pos} {R : Value → Heap → Prop}
    (h : Ev (model prog w) A g L m env value (fun o g' => Ev (model prog w) A g' L m env slice (fun i g'' => Op (model prog w) A g'' (subscriptTail value slice o i) R))) : Ev (model prog w) A g L m env (.Subscript value slice pos) R := fun s hs =>
  Subscript_ ((h s hs).any fun o s₁ g₁ k₁ u₁ ho => (ho s₁ (hs.up k₁ u₁)).any fun i s₂ g₂ k₂ u₂ hi => (hi s₂ u₂.sub).any fun v s₃ g₃ k₃ u₃ hv =>
    ⟨keeps_trans k₁ (keeps_trans k₂ k₃), g₃, (u₁.trans k₁ u₂).trans (keeps_trans k₁ k₂) u₃, hv⟩)
theorem op_item_list {value slice : Expr} {l : Addr} {items : Array Value} {k : Int} {u : Tok} {x : Value} {P : Value → Heap → Prop} (hl : g.IsList l items) (h0 : 0 ≤ k) (hfit : k < 2 ^ 63) (hx : items[k.toNat]? = some x) (h : P x g)
    (hs : subscripted slice false (.ref l) (.int k u) = operate [.ref l, .int k u] (getItem (.ref l) (.int k u)) := by with_unfolding_all rfl) : Op (model prog w) A g (subscriptTail value slice (.ref l) (.int k u)) P :=
  .of fun s hs' => have hL : s.heap.IsList l items := hl.at fun o e => hs' _ o e
    tail_any hL.typeIs slot_list_getitem.lookup (wpAny_getItem_list hL h0 hfit hx ⟨keeps_refl s, h⟩) hs
theorem op_item_tuple {value slice : Expr} {l : Addr} {items : Array Value} {k : Int} {u : Tok} {j : Nat} {x : Value} {P : Value → Heap → Prop} (hl : IsTup g l items) (hlo : -(2 ^ 63) ≤ k) (hhi : k < 2 ^ 63) (hj : seqIndex? k items.size = some j) (hx : items[j]? = some x) (h : P x g)
    (hs : subscripted slice false (.ref l) (.int k u) = operate [.ref l, .int k u] (getItem (.ref l) (.int k u)) := by with_unfolding_all rfl) : Op (model prog w) A g (subscriptTail value slice (.ref l) (.int k u)) P :=
  .of fun s hs' => by
    have hL : IsTup s.heap l items.toList.toArray := by obtain ⟨o, ho, r⟩ := hl; exact ⟨o, hs' _ _ ho, by simpa using r⟩
    exact item_tupleT hL hlo hhi (by simpa using hj) (by simpa using hx) ⟨keeps_refl s, h⟩ hs
theorem op_item_tup {value slice : Expr} {l : Addr} {items : Array Value} {k : Int} {u : Tok} {x : Value} {P : Value → Heap → Prop} (hl : IsTup g l items) (h0 : 0 ≤ k) (hhi : k < 2 ^ 62) (hx : items[k.toNat]? = some x) (h : P x g)
    (hs : subscripted slice false (.ref l) (.int k u) = operate [.ref l, .int k u] (getItem (.ref l) (.int k u)) := by with_unfolding_all rfl) : Op (model prog w) A g (subscriptTail value slice (.ref l) (.int k u)) P :=
  op_item_tuple (j := k.toNat) hl (by omega) (by omega) (by
    have hlt : k.toNat < items.size := by
      rcases Nat.lt_or_ge k.toNat items.size with h | h
      · exact h
      · rw [Array.getElem?_eq_none h] at hx; cases hx
    have hk : ¬ k < 0 := by omega
    simp only [seqIndex?, if_neg hk]
    rw [if_pos (by simp; omega)]) hx h hs
end
end Mine
end
section
open PySem PySem.W PyProof.Rows
set_option Elab.async false
set_option maxRecDepth 100000
set_option linter.unusedVariables false
namespace Mine
/-- how a callee is kept: told by the known heap -/
def KeepOk (M : Model) (g : Heap) (f : Value) : Prop := ∃ k, (k = Keeper.frame ∨ k = Keeper.machine ∨ k = Keeper.boundFrame) ∧ Looks M g (keeperOf f) k
theorem KeepOk.up {M : Model} {g g' : Heap} {f : Value} (h : KeepOk M g f) (u : Sub g g') : KeepOk M g' f := by
  obtain ⟨k, a, b⟩ := h; exact ⟨k, a, b.keeps u⟩
theorem KeepOk.of {M : Model} {K : Frag} {g : Heap} {f : Value} (X : K.In g) (hk : keepIn K f = true) : KeepOk M g f := keeps_K hk g X
theorem KeepOk.fn {M : Model} {g : Heap} {a : Addr} {o : Obj} {fd : FuncData} (ho : g.get? a = some o) (hd : o.data = .func fd) : KeepOk M g (.ref a) :=
  ⟨.frame, .inl rfl, (Looks.ld (part := none) ho).andThen (by rw [hd]; exact .now)⟩

section
variable {M : Model} {A : Around} {g : Heap} {L : Addr} {m : Str → Option Value} {env : Env}
/-- arguments handed over -/
theorem args_of {f : Value} {e : Expr} {rest : List Expr} {pos : Pos} {R : List Value → Heap → Prop} (h : EvL M A g L m env (e :: rest) R)
    (he : starEach (e :: rest) env = (false, eval e env) :: starEach rest env) : Tr M A g L m (evalArgs f true (backTo pos (starEach (e :: rest) env)) []) (fun a g' => a.kw = [] ∧ R a.pos g') := fun s hs => by
  have h' := h pos s hs
  rw [he] at h' ⊢
  exact Calls.evalArgs_plain (VG.any h' fun vs s₁ g₁ k₁ u₁ hv => ⟨k₁, g₁, u₁, rfl, hv⟩)
theorem args_nil {f : Value} {pos : Pos} {R : List Value → Heap → Prop} (h : R [] g) : Tr M A g L m (evalArgs f true (backTo pos (starEach [] env)) []) (fun a g' => a.kw = [] ∧ R a.pos g') := fun s hs =>
  evalArgs_nil3 ⟨keeps_refl s, g, Gr.same hs.sub (keeps_refl s), rfl, h⟩

theorem with_ref {f : Value} {first : List Value} {args : List (Bool × Sem Value)} {pos : Pos} {R : Value → Heap → Prop} (hplain : args.any (·.1) = false) (hk : KeepOk M g f)
    (h : Tr M A g L m (evalArgs f true args []) (fun a g' => a.kw = [] ∧ Op M A g' (call f (first ++ a.pos)) R)) : Tr M A g L m (callWith pos f first args []) R := fun s hs => by
  refine callWith_of (P := fun h => Sub g h) (by rw [hplain]; rfl) (fun h hu => hk.up hu) ((h s hs).any fun a s₁ g₁ k₁ u₁ ha => ⟨Sub.trans u₁.up u₁.sub, ?_⟩)
  obtain ⟨e, hc⟩ := ha
  rw [e]
  exact (hc s₁ u₁.sub).any fun v s₂ g₂ k₂ u₂ hv => ⟨keeps_trans k₁ k₂, g₂, u₁.trans k₁ u₂, hv⟩
theorem with_builtin {id : String} {first : List Value} {args : List (Bool × Sem Value)} {pos : Pos} {R : Value → Heap → Prop} (hplain : args.any (·.1) = false)
    (h : Tr M A g L m (evalArgs (.builtin id) true args []) (fun a g' => a.kw = [] ∧ Op M A g' (call (.builtin id) (first ++ a.pos)) R)) : Tr M A g L m (callWith pos (.builtin id) first args []) R := fun s hs => by
  refine Calls.callWith_builtin hplain ((h s hs).any fun a s₁ g₁ k₁ u₁ ha => ?_)
  obtain ⟨e, hc⟩ := ha
  rw [e]
  exact (hc s₁ u₁.sub).any fun v s₂ g₂ k₂ u₂ hv => ⟨keeps_trans k₁ k₂, g₂, u₁.trans k₁ u₂, hv⟩
theorem with_type {T : String} {args : List (Bool × Sem Value)} {pos : Pos} {R : Value → Heap → Prop} (hplain : args.any (·.1) = false)
    (h : Tr M A g L m (evalArgs (.type T) true args []) (fun a g' => a.kw = [] ∧ Op M A g' (call (.type T) a.pos) R)) : Tr M A g L m (callWith pos (.type T) [] args []) R := fun s hs => by
  refine callWith_excType hplain ((h s hs).any fun a s₁ g₁ k₁ u₁ ha => ?_)
  obtain ⟨e, hc⟩ := ha
  rw [e]
  exact (hc s₁ u₁.sub).any fun v s₂ g₂ k₂ u₂ hv => ⟨keeps_trans k₁ k₂, g₂, u₁.trans k₁ u₂, hv⟩

theorem ev_call {x : Str} {np pos : Pos} {args : List Expr} {R : Value → Heap → Prop}
    (h : Ev M A g L m env (.Name x np) (fun f g₁ => Tr M A g₁ L m (callWith pos f [] (backTo pos (starEach args env)) []) R)) : Ev M A g L m env (.Call (.Name x np) args [] pos) R := fun s hs =>
  wpAny_Call_ofName ((h s hs).any fun f s₁ g₁ k₁ u₁ hf => (hf s₁ (hs.up k₁ u₁)).any fun v s₂ g₂ k₂ u₂ hv => ⟨keeps_trans k₁ k₂, g₂, u₁.trans k₁ u₂, hv⟩)

theorem plain_cons {e : Expr} {rest : List Expr} {pos : Pos} (he : starEach (e :: rest) env = (false, eval e env) :: starEach rest env) (hp : (backTo pos (starEach rest env)).any (·.1) = false) :
    (backTo pos (starEach (e :: rest) env)).any (·.1) = false := by
  rw [he]; show (false || (backTo pos (starEach rest env)).any (·.1)) = false; rw [hp]; rfl

/-- the callee is an object -/
theorem go_ref {f : Value} {first : List Value} {e : Expr} {rest : List Expr} {pos : Pos} {R : Value → Heap → Prop} (hk : KeepOk M g f)
    (h : EvL M A g L m env (e :: rest) (fun vs g' => Op M A g' (call f (first ++ vs)) R))
    (he : starEach (e :: rest) env = (false, eval e env) :: starEach rest env := by rfl) (hp : (backTo pos (starEach rest env)).any (·.1) = false := by rfl) :
    Tr M A g L m (callWith pos f first (backTo pos (starEach (e :: rest) env)) []) R := with_ref (plain_cons he hp) hk (args_of h he)
theorem go_ref0 {f : Value} {first : List Value} {pos : Pos} {R : Value → Heap → Prop} (hk : KeepOk M g f) (h : Op M A g (call f (first ++ [])) R) :
    Tr M A g L m (callWith pos f first (backTo pos (starEach [] env)) []) R := with_ref rfl hk (args_nil (R := fun vs g' => Op M A g' (call f (first ++ vs)) R) h)
theorem go_builtin {id : String} {first : List Value} {e : Expr} {rest : List Expr} {pos : Pos} {R : Value → Heap → Prop}
    (h : EvL M A g L m env (e :: rest) (fun vs g' => Op M A g' (call (.builtin id) (first ++ vs)) R))
    (he : starEach (e :: rest) env = (false, eval e env) :: starEach rest env := by rfl) (hp : (backTo pos (starEach rest env)).any (·.1) = false := by rfl) :
    Tr M A g L m (callWith pos (.builtin id) first (backTo pos (starEach (e :: rest) env)) []) R := with_builtin (plain_cons he hp) (args_of h he)
theorem go_type {T : String} {e : Expr} {rest : List Expr} {pos : Pos} {R : Value → Heap → Prop}
    (h : EvL M A g L m env (e :: rest) (fun vs g' => Op M A g' (call (.type T) vs) R))
    (he : starEach (e :: rest) env = (false, eval e env) :: starEach rest env := by rfl) (hp : (backTo pos (starEach rest env)).any (·.1) = false := by rfl) :
    Tr M A g L m (callWith pos (.type T) [] (backTo pos (starEach (e :: rest) env)) []) R := with_type (plain_cons he hp) (args_of h he)

theorem ev_meth {o : Expr} {name : Str} {apos pos : Pos} {args : List Expr} {pl : Sem Bool} {R : Value → Heap → Prop}
    (h : Ev M A g L m env o (fun ov g₁ => Op M A g₁ (getMethod ov name pl) (fun fx g₂ => Tr M A g₂ L m (callWith pos fx.1 fx.2 (backTo pos (starEach args env)) []) R)))
    (he : eval (.Call (.Attribute o name apos) args [] pos) env = (do
      let ov ← eval o env
      standAt apos.atName
      let (f, first) ← holding [ov] (getMethod ov name pl)
      callWith pos f first (backTo pos (starEach args env)) (backToKw pos (keywordEach [] env))) := by rfl) : Ev M A g L m env (.Call (.Attribute o name apos) args [] pos) R := fun s hs =>
  methodCall_KW (pl := pl) ((h s hs).any fun ov s₁ g₁ k₁ u₁ ho => (ho s₁ u₁.sub).any fun fx s₂ g₂ k₂ u₂ hf => (hf s₂ ((hs.up k₁ u₁).up k₂ u₂)).any fun v s₃ g₃ k₃ u₃ hv =>
    ⟨keeps_trans k₁ (keeps_trans k₂ k₃), g₃, (u₁.trans k₁ u₂).trans (keeps_trans k₁ k₂) u₃, hv⟩) he
end

section
variable {prog : Program} {w : World} {A : Around} {g : Heap} {L : Addr} {m : Str → Option Value} {env : Env}
theorem op_len_list {l : Addr} {items : Array Value} {P : Value → Heap → Prop} (hl : g.IsList l items) (hfit : (items.size : Int) < 2 ^ 63) (h : ∀ t, P (.int items.size t) g) : Op (model prog w) A g (call (.builtin "len") [.ref l]) P :=
  .of fun s hs => Calls.call_len_list (hl.at fun o e => hs _ o e) hfit ⟨keeps_toks s _, h _⟩
theorem op_len_tuple {l : Addr} {items : Array Value} {P : Value → Heap → Prop} (hl : IsTup g l items) (hfit : (items.size : Int) < 2 ^ 63) (h : ∀ t, P (.int items.size t) g) : Op (model prog w) A g (call (.builtin "len") [.ref l]) P :=
  .of fun s hs => PyProof.Rows.len_tuple (by obtain ⟨o, ho, r⟩ := hl; exact ⟨o, hs _ _ ho, r⟩) hfit ⟨keeps_toks s _, h _⟩
theorem op_max {a b : Int} {t u : Tok} {P : Value → Heap → Prop} (hh : A.handled = none) (h : ∀ t, P (.int (max a b) t) g) : Op (model prog w) A g (call (.builtin "max") [.int a t, .int b u]) P :=
  .of fun s hs => max_two_ints hh fun h' tk hk => by
    by_cases c : b > a
    · rw [if_pos c]; exact ⟨keeps_of s tk hk, by have := h u; rwa [show max a b = b by omega] at this⟩
    · rw [if_neg c]; exact ⟨keeps_of s tk hk, by have := h t; rwa [show max a b = a by omega] at this⟩
theorem new_none {g : Heap} {s : Shared} (hs : Sub g s.heap) : g.get? s.heap.objs.size = none := by
  cases q : g.get? s.heap.objs.size with
  | none => rfl
  | some x => exact absurd (Heap.lt_size (hs _ _ q)) (Nat.lt_irrefl _)
theorem op_range1 {n : Int} {t : Tok} {P : Value → Heap → Prop} (h : ∀ r g' t₁ t₂, Sub g g' → g.get? r = none → IsRange g' r 0 n 1 t₁ t t₂ → P (.ref r) g') : Op (model prog w) A g (call (.type "range") [.int n t]) P :=
  .new fun s hs => call_range_1 ⟨⟨_, _, rfl, fun _ _ e => Heap.get?_push_of_some _ e⟩, fun g' u e => h _ g' _ _ u (new_none hs) (by rw [IsRange, e _ (fresh_size _)]; exact Heap.get?_push_size _ rfl)⟩
theorem op_range2 {a b : Int} {t u : Tok} {P : Value → Heap → Prop} (h : ∀ r g' t₁, Sub g g' → g.get? r = none → IsRange g' r a b 1 t u t₁ → P (.ref r) g') : Op (model prog w) A g (call (.type "range") [.int a t, .int b u]) P :=
  .new fun s hs => call_range_2 ⟨⟨_, _, rfl, fun _ _ e => Heap.get?_push_of_some _ e⟩, fun g' u e => h _ g' _ u (new_none hs) (by rw [IsRange, e _ (fresh_size _)]; exact Heap.get?_push_size _ rfl)⟩
/-- tuple(xs) -/
theorem op_tuple {l : Addr} {items : Array Value} {P : Value → Heap → Prop} (hsz : items.size ≤ sizeLine) (hl : ∀ s : Shared, Sub g s.heap → s.heap.IsList l items)
    (h : ∀ a g', Sub g g' → g.get? a = none → g'.get? a = some { cls := .type "tuple", data := .seq items } → P (.ref a) g') : Op (model prog w) A g (call (.type "tuple") [.ref l]) P :=
  .new fun s hs => call_tuple_list (hl s hs) (fun h' hk => ⟨⟨_, _, rfl, fun _ _ e => Heap.get?_push_of_some _ (hk _ _ e)⟩, fun g' u e => by
    have hn : s.heap.get? h'.objs.size = none := by
      cases q : s.heap.get? h'.objs.size with
      | none => rfl
      | some x => exact absurd (Heap.lt_size (hk _ _ q)) (Nat.lt_irrefl _)
    refine h _ g' u ?_ ?_
    · cases q : g.get? h'.objs.size with
      | none => rfl
      | some x => rw [hs _ _ q] at hn; cases hn
    · rw [e _ hn]; exact Heap.get?_push_size _ rfl⟩) hsz
/-- xs + ys -/
theorem op_addL {l b : Addr} {xs ys : Array Value} {P : Value → Heap → Prop} (hl : g.IsList l xs) (hb : g.IsList b ys) (hsz : xs.size + ys.size ≤ sizeLine)
    (h : ∀ a g', Sub g g' → g.get? a = none → g'.get? a = some { cls := .type "list", data := .seq (xs ++ ys) } → P (.ref a) g') : Op (model prog w) A g (binaryOp .Add (.ref l) (.ref b)) P :=
  .new fun s hs => by
    obtain ⟨⟨cls, dd, data, sl⟩, ho, hc, n, hd⟩ := id hl
    obtain ⟨⟨cls2, dd2, data2, sl2⟩, ho2, hc2, n2, hd2⟩ := id hb
    simp only at hc hd hc2 hd2
    subst hc hd hc2 hd2
    have ho' := hs _ _ ho
    have ho2' := hs _ _ ho2
    exact concat_meets ⟨_, ho', rfl⟩ ⟨_, ho2', rfl⟩ noFill_list_add seq_list_add PySem.F.slot_list_add PySem.F.entry_list_add (PySem.F.args_list_add_2 _ _) (list_addW l b xs ys n n2 dd dd2 sl sl2 hsz)
      ⟨ho', ho2', ⟨_, _, rfl, fun _ _ e => Heap.get?_push_of_some _ e⟩, fun g' u e => h _ g' u (new_none hs) (by rw [e _ (fresh_size _)]; exact Heap.get?_push_size _ rfl)⟩
/-- text * n -/
theorem op_mulS {x : Str} {n : Int} {t u : Tok} {P : Value → Heap → Prop} (hok : MulOk x n) (h : ∀ t, P (.str (Txt.mul x n) t) g) : Op (model prog w) A g (binaryOp .Mult (.str x t) (.int n u)) P :=
  .of fun s _ => SB.mul hok fun t' k => ⟨keeps_toks s k, h t'⟩
end
end Mine
end
section
open PySem PySem.W PyProof.Rows
set_option Elab.async false
set_option maxRecDepth 100000
set_option linter.unusedVariables false
namespace Mine
theorem Paired.imp {α β : Type} {F G : α → β → Prop} (k : ∀ a b, F a b → G a b) : ∀ {xs : List α} {ys : List β}, Paired F xs ys → Paired G xs ys
  | _, _, .nil => .nil
  | _, _, .cons h t => .cons (k _ _ h) (Paired.imp k t)
/-- the tests of a clause -/
abbrev testsOf (ifs : List Expr) (env : Env) : Sem Bool := forIn ifs true fun c r => if r = true then do let ok ← isTrue c env (eval c env); pure (ForInStep.yield ok) else pure (ForInStep.yield r)
section
variable {prog : Program} {w : World} {A : Around} {R : Result → Shared → Prop} {s : Shared}

theorem snocP {vs : List Value} {v : Value} {P : Nat → Value → Prop} (hP : ∀ j v, vs[j]? = some v → P j v) (hv : P vs.length v) : ∀ j u, (vs ++ [v])[j]? = some u → P j u := fun j u hj => by
  rcases Nat.lt_trichotomy j vs.length with h | h | h
  · exact hP j u (by rwa [List.getElem?_append_left h] at hj)
  · subst h; simp at hj; subst hj; exact hv
  · have hnone : (vs ++ [v])[j]? = none := List.getElem?_eq_none (by rw [List.length_append, List.length_singleton]; omega)
    rw [hnone] at hj; cases hj

/-- a comprehension's loop; its variable is a local of the block -/
theorem comp_loop {elt iter : Expr} {x : Str} {px : Pos} {ifs : List Expr} {scope : Scope} {pos : Pos} {I D : Addr} {fp wr : List Addr} {n : Nat} {P : Nat → Value → Prop} {St : Nat → Heap → Prop}
    {cenv : Env} {m : Str → Option Value} {g : Heap} (W : Walks prog w A I fp wr n P St) (live : ∀ i h, St i h → ∀ b ∈ wr, ∃ o, h.get? b = some o)
    (p : Value → Bool) (F : Value → Value → Heap → Prop) (hmono : ∀ v y g g', Sub g g' → F v y g → F v y g')
    (hx : cenv.kindOf x = some .local) (hp : (cenv.scope.kind == .class || (cenv.scope.kind == .module && cenv.locals != cenv.globals)) = false)
    (hDC : D ≠ cenv.locals) (hDf : D ∉ fp) (hCf : cenv.locals ∉ fp)
    (hst : St 0 s.heap) (hacc : s.heap.PlainList D #[]) (hn : s.heap.Ns cenv.locals m)
    (hg : Sub g s.heap) (gD : g.get? D = none) (gC : g.get? cenv.locals = none) (gw : ∀ b ∈ wr, g.get? b = none)
    (htests : ∀ i v g' m', P i v → Sub g g' → m' x = some v → Tr (model prog w) A g' cenv.locals m' (testsOf ifs cenv) (fun ok _ => ok = p v))
    (helt : ∀ i v g' m', P i v → p v = true → Sub g g' → m' x = some v → Ev (model prog w) A g' cenv.locals m' cenv elt (fun y g'' => F v y g''))
    (hR : ∀ h' tk m' ys (vs : List Value) g', h'.Ns cenv.locals m' → h'.PlainList D ys → vs.length = n → (∀ j v, vs[j]? = some v → P j v) → Paired (fun v y => F v y g') (vs.filter p) ys.toList →
      Sub g g' → Sub g' h' → (∀ a o, s.heap.get? a = some o → g'.get? a = g.get? a) →
      (∀ b o, b ≠ cenv.locals → b ∉ wr → b ≠ D → s.heap.get? b = some o → h'.get? b = some o) → R (.ok .next) { s with heap := h', toks := tk })
    (hsz : n ≤ sizeLine) :
    codeAny (model prog w) A (.compLoop (.ListComp elt [⟨.Name x px, iter, ifs, 0⟩] scope pos) 0 (.ref I) (.ref D) cenv) R s := by
  refine codeAny_compLoop_tests
    (fun k s' => ∃ h' tk m' ys g', ∃ vs : List Value, s' = { s with heap := h', toks := tk } ∧ St vs.length h' ∧ h'.PlainList D ys ∧ h'.Ns cenv.locals m' ∧ (∀ j v, vs[j]? = some v → P j v) ∧
      Paired (fun v y => F v y g') (vs.filter p) ys.toList ∧ vs.length ≤ n ∧ k = n + 1 - vs.length ∧
      Sub g g' ∧ Sub g' h' ∧ (∀ a o, s.heap.get? a = some o → g'.get? a = g.get? a) ∧ (∀ b o, b ≠ cenv.locals → b ∉ wr → b ≠ D → s.heap.get? b = some o → h'.get? b = some o)) ?_ (n + 1)
    ⟨s.heap, s.toks, m, #[], g, [], rfl, hst, hacc, hn, by simp, by simpa using Paired.nil, Nat.zero_le _, rfl, fun _ _ e => e, hg, fun _ _ _ => rfl, fun _ _ _ _ _ e => e⟩
  rintro k s' ⟨H, tk, m', ys, g', vs, rfl, hst', hacc', hn', hP, hF, hi, rfl, hgg, hgH, hfr, hk⟩
  have hCw : cenv.locals ∉ wr := fun h => hCf (W.sub _ h)
  have hDw : D ∉ wr := fun h => hDf (W.sub _ h)
  obtain ⟨oD, hoD⟩ : ∃ o, s.heap.get? D = some o := by obtain ⟨_, h⟩ := hacc; exact ⟨_, h⟩
  obtain ⟨oC, hoC⟩ : ∃ o, s.heap.get? cenv.locals = some o := by obtain ⟨o, _, _, h, _⟩ := hn; exact ⟨o, h⟩
  have g'D : g'.get? D = none := (hfr _ _ hoD).trans gD
  have g'C : g'.get? cenv.locals = none := (hfr _ _ hoC).trans gC
  have g'w : ∀ b ∈ wr, g'.get? b = none := fun b hb => by obtain ⟨o, ho⟩ := live _ _ hst b hb; exact (hfr _ _ ho).trans (gw b hb)
  by_cases hlt : vs.length < n
  · refine W.item vs.length _ _ _ hlt hst' fun v h₁ tk₁ hPv hst₁ hk₁ => ?_
    refine wpAny_assign_Name (wpAny_storeName_local hx (hn'.at' fun o e => hk₁ _ o hCw e) (fun h₂ hn₂ hs₂ => ?_) hp)
    have up₂ : ∀ b o, b ≠ cenv.locals → b ∉ wr → H.get? b = some o → h₂.get? b = some o := fun b o hbC hbf e => hs₂.extBut b o hbC (hk₁ b o hbf e)
    have hst₂ : St (vs.length + 1) h₂ := W.frame _ _ _ hst₁ fun b hb o e => hs₂.extBut b o (fun h => hCf (h ▸ hb)) e
    have g₂ : Sub g' h₂ := fun b o e => up₂ b o (fun q => by rw [q, g'C] at e; cases e) (fun q => by rw [g'w b q] at e; cases e) (hgH b o e)
    have hacc₂ : h₂.PlainList D ys := hacc'.at fun o e => up₂ D o hDC hDw e
    -- whatever stood at the start stands, and whatever is known since stays
    have all₂ : ∀ a o, s.heap.get? a = some o → ∃ o', h₂.get? a = some o' := fun a o e => by
      by_cases q : a = cenv.locals
      · subst q; obtain ⟨o', _, _, h, _⟩ := hn₂; exact ⟨o', h⟩
      by_cases q2 : a ∈ wr
      · exact live _ _ hst₂ a q2
      by_cases q3 : a = D
      · subst q3; obtain ⟨_, h⟩ := hacc₂; exact ⟨_, h⟩
      · exact ⟨o, up₂ a o q q2 (hk a o q q2 q3 e)⟩
    refine (htests vs.length v g' _ hPv hgg (by simp) _ ⟨g₂, hn₂⟩).any fun ok s₃ g₃' k₃ u₃ hok => ?_
    subst hok
    obtain ⟨h₃, tk₃, rfl, hk₃⟩ := k₃
    have hst₃ : St (vs.length + 1) h₃ := W.frame _ _ _ hst₂ fun b _ o e => hk₃ b o e
    have hacc₃ : h₃.PlainList D ys := hacc₂.at fun o e => hk₃ _ o e
    have hn₃ := hn₂.keeps hk₃
    have g₃ : Sub g' h₃ := Sub.trans g₂ hk₃
    cases hpv : p v with
    | false =>
      simp only [Bool.false_eq_true, if_false]
      refine ⟨n + 1 - (vs.length + 1), by omega, h₃, tk₃, _, ys, g', vs ++ [v], rfl, by simpa using hst₃, hacc₃, hn₃, snocP hP hPv, ?_, (by rw [List.length_append, List.length_singleton]; exact hlt), (by rw [List.length_append, List.length_singleton]), hgg, g₃, hfr, fun b o hbC hbf hbD e => hk₃ b o (up₂ b o hbC hbf (hk b o hbC hbf hbD e))⟩
      rw [List.filter_append]; simpa [hpv] using hF
    | true =>
      simp only [if_true]
      refine (helt vs.length v g' _ hPv hpv hgg (by simp) _ ⟨g₃, hn₃⟩).any fun y s₄ g₄ k₄ u₄ hFy => ?_
      obtain ⟨h₄, tk₄, rfl, hk₄⟩ := k₄
      have hys : ys.size ≤ sizeLine := by
        have e1 := hF.length
        have e2 : (vs.filter p).length ≤ vs.length := List.length_filter_le _ _
        have e4 : ys.toList.length = ys.size := by simp
        omega
      have fr₄ : ∀ a o, s.heap.get? a = some o → g₄.get? a = g.get? a := fun a o e => by
        obtain ⟨o', e'⟩ := all₂ a o e
        exact (u₄.fresh a o' (hk₃ _ _ e')).trans (hfr a o e)
      refine wpAny_list_append_plain (hsz := hys) (hacc₃.at fun o e => hk₄ _ o e) fun h₅ hl₅ hs₅ => ?_
      refine ⟨n + 1 - (vs.length + 1), by omega, h₅, tk₄, _, ys.push y, g₄, vs ++ [v], rfl, ?_, hl₅, (hn₃.keeps hk₄).sameBut hs₅ (Ne.symm hDC), snocP hP hPv, ?_, (by rw [List.length_append, List.length_singleton]; exact hlt), (by rw [List.length_append, List.length_singleton]),
        Sub.trans hgg u₄.up, fun b o e => hs₅.extBut b o (fun q => ?_) (u₄.sub b o e), fr₄, fun b o hbC hbf hbD e => hs₅.extBut b o hbD (hk₄ b o (hk₃ b o (up₂ b o hbC hbf (hk b o hbC hbf hbD e))))⟩
      · have := W.frame _ _ h₅ hst₃ fun b hb o e => hs₅.extBut b o (fun h => hDf (h ▸ hb)) (hk₄ b o e)
        simpa using this
      · rw [List.filter_append]
        have hF' := Paired.imp (fun a b h => hmono a b g' g₄ u₄.up h) hF
        simpa [hpv] using Paired.snoc hF' hFy
      · rw [q, fr₄ D oD hoD, gD] at e; cases e
  · have hin : vs.length = n := by omega
    refine W.done _ _ _ (hin ▸ hst') fun h₁ tk₁ hk₁ => ?_
    exact hR h₁ tk₁ m' ys vs g' (hn'.at' fun o e => hk₁ _ o hCw e) (hacc'.at fun o e => hk₁ _ o hDw e) hin hP hF hgg (fun b o e => hk₁ b o (fun q => by rw [g'w b q] at e; cases e) (hgH b o e)) hfr
      fun b o hbC hbf hbD e => hk₁ b o hbf (hk b o hbC hbf hbD e)

/-- a comprehension's loop; its variable is a cell of the block, its element a plain value -/
theorem comp_loopC {elt iter : Expr} {x : Str} {px : Pos} {ifs : List Expr} {scope : Scope} {pos : Pos} {I D c : Addr} {fp wr : List Addr} {n : Nat} {P : Nat → Value → Prop} {St : Nat → Heap → Prop}
    {cenv : Env} {m : Str → Option Value} {g : Heap} {v₀ : Option Value} (W : Walks prog w A I fp wr n P St) (live : ∀ i h, St i h → ∀ b ∈ wr, ∃ o, h.get? b = some o)
    (p : Value → Bool) (F : Value → Value → Prop)
    (hx : cenv.kindOf x = some .cell) (hk : cenv.scope.kind = .function) (hc : cenv.cells.lookup x = some c)
    (hDC : D ≠ cenv.locals) (hDf : D ∉ fp) (hCf : cenv.locals ∉ fp) (hcf : c ∉ fp) (hcD : c ≠ D) (hcC : c ≠ cenv.locals)
    (hst : St 0 s.heap) (hacc : s.heap.PlainList D #[]) (hn : s.heap.Ns cenv.locals m) (hcell : s.heap.IsCell c v₀)
    (hg : Sub g s.heap) (gD : g.get? D = none) (gC : g.get? cenv.locals = none) (gc : g.get? c = none) (gw : ∀ b ∈ wr, g.get? b = none)
    (htests : ∀ i v g' m', P i v → Sub g g' → g'.IsCell c (some v) → Tr (model prog w) A g' cenv.locals m' (testsOf ifs cenv) (fun ok _ => ok = p v))
    (helt : ∀ i v g' m', P i v → p v = true → Sub g g' → g'.IsCell c (some v) → Ev (model prog w) A g' cenv.locals m' cenv elt (fun y _ => F v y))
    (hR : ∀ h' tk m' ys (vs : List Value), h'.Ns cenv.locals m' → h'.PlainList D ys → vs.length = n → (∀ j v, vs[j]? = some v → P j v) → Paired F (vs.filter p) ys.toList → Sub g h' →
      (∀ b o, b ≠ cenv.locals → b ∉ wr → b ≠ D → b ≠ c → s.heap.get? b = some o → h'.get? b = some o) → R (.ok .next) { s with heap := h', toks := tk })
    (hsz : n ≤ sizeLine) :
    codeAny (model prog w) A (.compLoop (.ListComp elt [⟨.Name x px, iter, ifs, 0⟩] scope pos) 0 (.ref I) (.ref D) cenv) R s := by
  refine codeAny_compLoop_tests
    (fun k s' => ∃ h' tk m' ys v₁, ∃ vs : List Value, s' = { s with heap := h', toks := tk } ∧ St vs.length h' ∧ h'.PlainList D ys ∧ h'.Ns cenv.locals m' ∧ h'.IsCell c v₁ ∧ (∀ j v, vs[j]? = some v → P j v) ∧
      Paired F (vs.filter p) ys.toList ∧ vs.length ≤ n ∧ k = n + 1 - vs.length ∧
      Sub g h' ∧ (∀ b o, b ≠ cenv.locals → b ∉ wr → b ≠ D → b ≠ c → s.heap.get? b = some o → h'.get? b = some o)) ?_ (n + 1)
    ⟨s.heap, s.toks, m, #[], v₀, [], rfl, hst, hacc, hn, hcell, by simp, by simpa using Paired.nil, Nat.zero_le _, rfl, hg, fun _ _ _ _ _ _ e => e⟩
  rintro k s' ⟨H, tk, m', ys, v₁, vs, rfl, hst', hacc', hn', hcell', hP, hF, hi, rfl, hgH, hk'⟩
  have hCw : cenv.locals ∉ wr := fun h => hCf (W.sub _ h)
  have hDw : D ∉ wr := fun h => hDf (W.sub _ h)
  have hcw : c ∉ wr := fun h => hcf (W.sub _ h)
  by_cases hlt : vs.length < n
  · refine W.item vs.length _ _ _ hlt hst' fun v h₁ tk₁ hPv hst₁ hk₁ => ?_
    have hcell₁ : h₁.IsCell c v₁ := by obtain ⟨o, e, d⟩ := hcell'; exact ⟨o, hk₁ _ _ hcw e, d⟩
    refine wpAny_assign_Name (wpAny_storeName_cell hk hx hc hcell₁ (fun h₂ hc₂ hs₂ => ?_))
    have up₂ : ∀ b o, b ≠ c → b ∉ wr → H.get? b = some o → h₂.get? b = some o := fun b o hbC hbf e => hs₂.extBut b o hbC (hk₁ b o hbf e)
    have hst₂ : St (vs.length + 1) h₂ := W.frame _ _ _ hst₁ fun b hb o e => hs₂.extBut b o (fun h => hcf (h ▸ hb)) e
    have g₂ : Sub g h₂ := fun b o e => up₂ b o (fun q => by rw [q, gc] at e; cases e) (fun q => by rw [gw b q] at e; cases e) (hgH b o e)
    have hacc₂ : h₂.PlainList D ys := hacc'.at fun o e => up₂ D o (Ne.symm hcD) hDw e
    have hn₂ : h₂.Ns cenv.locals m' := hn'.at' fun o e => up₂ _ o (Ne.symm hcC) hCw e
    -- the known heap of this turn: with the cell
    obtain ⟨oc, hoc, hdc⟩ := id hc₂
    obtain ⟨g', eg⟩ := exists_heap h₂.objs.size (fun a => if a = c then some oc else g.get? a) (fun i o h => by
      split at h
      · cases h; rename_i q; subst q; exact ⟨Heap.lt_size hoc, (Heap.get?_some_iff.mp hoc).2⟩
      · exact ⟨Heap.lt_size (g₂ _ _ h), (Heap.get?_some_iff.mp h).2⟩)
    have hgg : Sub g g' := fun b o e => by rw [eg, if_neg (fun q => by rw [q, gc] at e; cases e)]; exact e
    have hg₂ : Sub g' h₂ := fun b o e => by
      rw [eg] at e
      split at e
      · cases e; rename_i q; subst q; exact hoc
      · exact g₂ b o e
    have hcg : g'.IsCell c (some v) := ⟨oc, by rw [eg, if_pos rfl], hdc⟩
    refine (htests vs.length v g' m' hPv hgg hcg _ ⟨hg₂, hn₂⟩).any fun ok s₃ g₃' k₃ u₃ hok => ?_
    subst hok
    obtain ⟨h₃, tk₃, rfl, hk₃⟩ := k₃
    have hst₃ : St (vs.length + 1) h₃ := W.frame _ _ _ hst₂ fun b _ o e => hk₃ b o e
    have hacc₃ : h₃.PlainList D ys := hacc₂.at fun o e => hk₃ _ o e
    have hn₃ := hn₂.keeps hk₃
    have hc₃ := hc₂.keeps hk₃
    cases hpv : p v with
    | false =>
      simp only [Bool.false_eq_true, if_false]
      refine ⟨n + 1 - (vs.length + 1), by omega, h₃, tk₃, _, ys, _, vs ++ [v], rfl, by simpa using hst₃, hacc₃, hn₃, hc₃, snocP hP hPv, ?_, (by rw [List.length_append, List.length_singleton]; exact hlt), (by rw [List.length_append, List.length_singleton]), Sub.trans g₂ hk₃,
        fun b o hbC hbf hbD hbc e => hk₃ b o (up₂ b o hbc hbf (hk' b o hbC hbf hbD hbc e))⟩
      rw [List.filter_append]; simpa [hpv] using hF
    | true =>
      simp only [if_true]
      refine (helt vs.length v g' m' hPv hpv hgg hcg _ ⟨Sub.trans hg₂ hk₃, hn₃⟩).any fun y s₄ g₄ k₄ u₄ hFy => ?_
      obtain ⟨h₄, tk₄, rfl, hk₄⟩ := k₄
      have hys : ys.size ≤ sizeLine := by
        have e1 := hF.length
        have e2 : (vs.filter p).length ≤ vs.length := List.length_filter_le _ _
        have e4 : ys.toList.length = ys.size := by simp
        omega
      refine wpAny_list_append_plain (hsz := hys) (hacc₃.at fun o e => hk₄ _ o e) fun h₅ hl₅ hs₅ => ?_
      have hc₅ : h₅.IsCell c (some v) := (hc₃.keeps hk₄).sameBut hs₅ hcD
      refine ⟨n + 1 - (vs.length + 1), by omega, h₅, tk₄, _, ys.push y, _, vs ++ [v], rfl, ?_, hl₅, (hn₃.keeps hk₄).sameBut hs₅ (Ne.symm hDC), hc₅, snocP hP hPv, ?_, (by rw [List.length_append, List.length_singleton]; exact hlt), (by rw [List.length_append, List.length_singleton]),
        fun b o e => hs₅.extBut b o (fun q => by rw [q, gD] at e; cases e) (hk₄ b o (hk₃ b o (g₂ b o e))), fun b o hbC hbf hbD hbc e => hs₅.extBut b o hbD (hk₄ b o (hk₃ b o (up₂ b o hbc hbf (hk' b o hbC hbf hbD hbc e))))⟩
      · have := W.frame _ _ h₅ hst₃ fun b hb o e => hs₅.extBut b o (fun h => hDf (h ▸ hb)) (hk₄ b o e)
        simpa using this
      · rw [List.filter_append]
        simpa [hpv] using Paired.snoc hF hFy
  · have hin : vs.length = n := by omega
    refine W.done _ _ _ (hin ▸ hst') fun h₁ tk₁ hk₁ => ?_
    exact hR h₁ tk₁ m' ys vs (hn'.at' fun o e => hk₁ _ o hCw e) (hacc'.at fun o e => hk₁ _ o hDw e) hin hP hF (fun b o e => hk₁ b o (fun q => by rw [gw b q] at e; cases e) (hgH b o e))
      fun b o hbC hbf hbD hbc e => hk₁ b o hbf (hk' b o hbC hbf hbD hbc e)
end
end Mine
end
section
open PySem PySem.W PyProof.Rows
set_option Elab.async false
set_option maxRecDepth 100000
set_option linter.unusedVariables false
namespace Mine

/-- a thing that can be walked: n items, each with Pv -/
def Src (prog : Program) (w : World) (A : Around) (g : Heap) (xv : Value) (n : Nat) (Pv : Nat → Value → Prop) : Prop :=
  ∀ (s : Shared), Sub g s.heap → ∀ (Q : Value → Shared → Prop) (E : Value → Shared → Prop),
    (∀ o fp St, Walks prog w A s.heap.objs.size fp [s.heap.objs.size] n Pv St → (∀ i h, St i h → ∃ o, h.get? s.heap.objs.size = some o) → (∀ b ∈ fp, b = s.heap.objs.size ∨ ∃ o, g.get? b = some o) →
      St 0 (s.heap.push o) → (s.heap.push o).get? s.heap.objs.size = some o → Q (.ref s.heap.objs.size) { s with heap := s.heap.push o }) → wpAny (model prog w) A (pyIter xv) Q E s

section
variable {prog : Program} {w : World} {A : Around} {g : Heap}
theorem src_list {l : Addr} {items : Array Value} (hh : A.handled = none) (hl : g.IsList l items) : Src prog w A g (.ref l) items.size (fun i v => items[i]? = some v) := fun s hs Q E k => by
  have hl' : s.heap.IsList l items := hl.at fun o e => hs _ o e
  have hlt : l < s.heap.objs.size := by obtain ⟨o, h, _⟩ := hl'; exact Heap.lt_size h
  refine wpAny_pyIter_list hl' (k _ _ _ (Walks.list hh s.heap.objs.size l (Nat.ne_of_lt hlt) items) ?_ ?_ ⟨⟨_, Heap.get?_push_size _ rfl, rfl, rfl⟩, hl'.push _⟩ (Heap.get?_push_size _ rfl))
  · rintro i h ⟨⟨o, e, _⟩, _⟩; exact ⟨o, e⟩
  · intro b hb
    rcases List.mem_cons.mp hb with rfl | hb
    · exact .inl rfl
    · rw [List.mem_singleton.mp hb]; obtain ⟨o, h, _⟩ := hl; exact .inr ⟨o, h⟩
theorem src_range {r : Addr} {a b : Int} {t u v : Tok} (hh : A.handled = none) (hr : IsRange g r a b 1 t u v) (hsm : Builtin.Range.small a b 1 = true) {n : Nat} (hn : Builtin.Range.rangeSize a b 1 = n) :
    Src prog w A g (.ref r) n (fun i v => i < n ∧ ∃ t, v = .int (a + i) t) := fun s hs Q E k => by
  have hr' : IsRange s.heap r a b 1 t u v := hs _ _ hr
  have W : Walks prog w A s.heap.objs.size [s.heap.objs.size] [s.heap.objs.size] n (fun i v => i < n ∧ ∃ t, v = .int (a + i * 1) t) (fun i h => IsRangeIter h s.heap.objs.size (a + (i : Nat) * 1) ((n : Int) - (i : Nat)) 1) := (Walks.range hh _ a 1 n).bound
  simp only [Int.mul_one] at W
  refine wpAny_pyIter_range hr' hsm (k _ _ _ W ?_ ?_ ?_ (Heap.get?_push_size _ rfl))
  · intro i h st; exact ⟨_, st⟩
  · intro b hb; rw [List.mem_singleton.mp hb]; exact .inl rfl
  · rw [hn]; simpa using Heap.get?_push_size _ rfl
theorem src_str {x : Str} {t : Tok} (hh : A.handled = none) : Src prog w A g (.str x t) x.cps.size (SignAt x) := fun s hs Q E k => by
  cases ha : x.cps.all (· < 128)
  · refine wpAny_pyIter_wide ha (k _ _ _ (Walks.strWide hh s.heap.objs.size x t) ?_ ?_ ⟨_, Heap.get?_push_size _ rfl, rfl, rfl⟩ (Heap.get?_push_size _ rfl))
    · rintro i h ⟨o, e, _⟩; exact ⟨o, e⟩
    · intro b hb; rw [List.mem_singleton.mp hb]; exact .inl rfl
  · refine wpAny_pyIter_ascii ha (k _ _ _ (Walks.strAscii hh s.heap.objs.size x t) ?_ ?_ ⟨_, Heap.get?_push_size _ rfl, rfl, rfl⟩ (Heap.get?_push_size _ rfl))
    · rintro i h ⟨o, e, _⟩; exact ⟨o, e⟩
    · intro b hb; rw [List.mem_singleton.mp hb]; exact .inl rfl
theorem small_of {a b : Int} (ha : -(2 ^ 62) ≤ a) (ha' : a < 2 ^ 62) (hb : -(2 ^ 62) ≤ b) (hb' : b < 2 ^ 62) : Builtin.Range.small a b 1 = true := by
  unfold Builtin.Range.small
  rw [rangeSize_one]
  simp only [Builtin.Range.rangeFitsLong]
  split <;> simp <;> omega
end

theorem ltN' {a b : Addr} (h : a < b) : @LT.lt Nat _ a b := h
theorem neA {a b : Nat} (h : a ≠ b) : @Ne Addr a b := h
/-- the block of a comprehension -/
def cblk (scope : Scope) (cl : List (Str × Addr)) (C : Addr) (env : Env) : Env :=
  { scope := relabel scope env, locals := C, globals := env.globals, cells := cellsFrom (C + 1) scope.names cl, qual := env.qual, func := none, code := env.code, frame := env.frame, builtins := env.builtins }

theorem newEnv_comp {M : Model} {A : Around} {E : Value → Shared → Prop} {s : Shared} {scope : Scope} {gl : Addr} {cl : List (Str × Addr)} {qual : Str} {env : Env} {Q : Env → Shared → Prop}
    (h : Q { scope, locals := s.heap.objs.size, globals := gl, cells := cellsFrom (s.heap.objs.size + 1) scope.names cl, qual, func := none, code := env.code, frame := env.frame, builtins := env.builtins }
      { s with heap := pushCells (s.heap.push { cls := .type "dict", data := .dict #[] }) scope.names }) :
    wpAny M A (newFunctionEnv scope gl cl [] qual none .none (some env)) Q E s := by
  simp only [newFunctionEnv, Option.isSome_some, if_true]
  refine wpAny_bind (wpAny_alloc ?_)
  refine wpAny_bind (wpAny_layCells _ (fun name kind cells => by cases hkc : kind == NameKind.cell <;> simp) _ _ _ _ ?_)
  rw [show ({ s with heap := s.heap.push { cls := .type "dict", data := .dict #[] } } : Shared).heap.objs.size = s.heap.objs.size + 1 from Heap.size_push ..]
  refine wpAny_bind ?_
  rw [List.forIn_nil]
  exact wpAny_pure (wpAny_pure h)

theorem pushCells_none : ∀ (names : List (Str × NameKind)) (h : Heap), (∀ y ∈ names, y.2 ≠ .cell) → pushCells h names = h
  | [], _, _ => rfl
  | (_, k) :: r, h, hn => by
    unfold pushCells
    rw [if_neg (by simpa using hn _ (List.mem_cons_self ..))]
    exact pushCells_none r h fun y hy => hn y (List.mem_cons_of_mem _ hy)

section
variable {prog : Program} {w : World} {A : Around} {E : Value → Shared → Prop} {env : Env}
/-- the loop of a block, all told: what it leaves -/
theorem block_run {elt iter : Expr} {x : Str} {px : Pos} {ifs : List Expr} {scope : Scope} {cl : List (Str × Addr)} {pos : Pos} {s₁ : Shared} {g : Heap} {n : Nat} {Pv : Nat → Value → Prop} {xv : Value}
    (S : Src prog w A g xv n Pv) (hs₁ : Sub g s₁.heap) (hsz : n ≤ sizeLine) (p : Value → Bool) (F : Value → Value → Heap → Prop) (hmono : ∀ v y g g', Sub g g' → F v y g → F v y g') {RR : Value → Addr → Result → Shared → Prop}
    (hcell : ∀ y ∈ scope.names, y.2 ≠ .cell) (hkind : scope.kind = .function) (hx : scope.names.lookup x = some .local)
    (htests : ∀ i v g' C m', Pv i v → Sub g g' → m' x = some v → Tr (model prog w) A g' C m' (testsOf ifs (cblk scope cl C env)) (fun ok _ => ok = p v))
    (helt : ∀ i v g' C m', Pv i v → p v = true → Sub g g' → m' x = some v → Ev (model prog w) A g' C m' (cblk scope cl C env) elt (fun y g'' => F v y g''))
    (hRR : ∀ D C s' m' ys (vs : List Value) g', Keeps s₁ s' → Gr g s₁ s' g' → s₁.heap.get? D = none → s₁.heap.get? C = none → D ≠ C → g'.get? C = none → s'.heap.Ns C m' → g'.PlainList D ys → vs.length = n → (∀ j v, vs[j]? = some v → Pv j v) →
      Paired (fun v y => F v y g') (vs.filter p) ys.toList → RR (.ref D) C (.ok .next) s') :
    wpAny (model prog w) A (pyIter xv) (fun it s₂ => wpAny (model prog w) A (newList []) (fun acc s₃ => wpAny (model prog w) A (newFunctionEnv scope env.globals cl [] env.qual none .none (some env)) (fun cenv s₄ =>
      codeAny (model prog w) A (.compStart (.ListComp elt [⟨.Name x px, iter, ifs, 0⟩] scope pos) 0 it acc { cenv with scope := relabel scope env }) (RR acc cenv.locals) s₄) E s₃) E s₂) E s₁ := by
  refine S s₁ hs₁ _ _ fun o fp St W live hfp' hst hIo => ?_
  have hfp : ∀ b ∈ fp, b < s₁.heap.objs.size + 1 := fun b hb => by
    rcases hfp' b hb with rfl | ⟨q, e⟩
    · exact Nat.lt_succ_self _
    · exact Nat.lt_succ_of_lt (Heap.lt_size (hs₁ _ _ e))
  clear hfp'
  refine wpAny_newObj_type (newEnv_comp ?_)
  dsimp only
  rw [pushCells_none _ _ hcell]
  generalize hH0 : s₁.heap.push o = H0 at *
  have sz0 : H0.objs.size = s₁.heap.objs.size + 1 := by rw [← hH0, Heap.size_push]
  generalize hH2 : H0.push { cls := .type "list", dict := none, data := .seq ([] : List Value).toArray } = H2 at *
  have sz2 : H2.objs.size = s₁.heap.objs.size + 2 := by rw [← hH2, Heap.size_push, sz0]
  generalize hH3 : H2.push { cls := .type "dict", data := .dict #[] } = H3 at *
  have up0 : Sub s₁.heap H0 := fun b ob e => hH0 ▸ Heap.get?_push_of_some _ e
  have up2 : Sub H0 H2 := fun b ob e => hH2 ▸ Heap.get?_push_of_some _ e
  have up3 : Sub H2 H3 := fun b ob e => hH3 ▸ Heap.get?_push_of_some _ e
  have nsC : H3.Ns H2.objs.size fun _ => none := hH3 ▸ Heap.Ns.new H2 (.type "dict")
  have accD : H3.PlainList H0.objs.size #[] := ⟨0, up3 _ _ (hH2 ▸ Heap.get?_push_size _ rfl)⟩
  have hst3 : St 0 H3 := W.frame _ _ _ hst fun b _ ob e => up3 _ _ (up2 _ _ e)
  have I3 : H3.get? s₁.heap.objs.size = some o := up3 _ _ (up2 _ _ hIo)
  have nn : ∀ a, s₁.heap.objs.size ≤ a → g.get? a = none := fun a ha => by
    cases e : g.get? a with
    | none => rfl
    | some q => exact absurd (Heap.lt_size (hs₁ _ _ e)) (Nat.not_lt.mpr ha)
  have n1 : ∀ a, s₁.heap.objs.size ≤ a → s₁.heap.get? a = none := fun a ha => by
    cases e : s₁.heap.get? a with
    | none => rfl
    | some q => exact absurd (Heap.lt_size e) (Nat.not_lt.mpr ha)
  have hDC : H0.objs.size ≠ H2.objs.size := by rw [sz0, sz2]; omega
  have hce : cellsFrom (H2.objs.size + 1) scope.names cl = cellsFrom (H2.objs.size + 1) scope.names cl := rfl
  have loop : ∀ s₃ : Shared, s₃ = { s₁ with heap := H3 } →
      codeAny (model prog w) A (.compLoop (.ListComp elt [⟨.Name x px, iter, ifs, 0⟩] scope pos) 0 (.ref s₁.heap.objs.size) (.ref H0.objs.size) (cblk scope cl H2.objs.size env))
        (RR (.ref H0.objs.size) H2.objs.size) s₃ := by
    rintro s₃ rfl
    refine comp_loop (cenv := cblk scope cl H2.objs.size env) (g := g) W (fun i h st b hb => by rw [List.mem_singleton.mp hb]; exact live i h st) p F hmono (lookup_relabel_local hx) (by simp [cblk, relabel, hkind]) hDC
      (fun hm => by have := ltN' (hfp _ hm); rw [sz0] at this; omega) (fun hm => by have := ltN' (hfp _ hm); show False; simp only [cblk] at this; rw [sz2] at this; omega) hst3 accD nsC (Sub.trans hs₁ (Sub.trans up0 (Sub.trans up2 up3)))
      (nn _ (by rw [sz0]; omega)) (nn _ (by show _ ≤ H2.objs.size; rw [sz2]; omega)) (fun b hb => nn _ (by rw [List.mem_singleton.mp hb]; exact Nat.le_refl _))
      (fun i v g' m' h1 h2 h3 => htests i v g' _ m' h1 h2 h3) (fun i v g' m' h1 h2 h3 h4 => helt i v g' _ m' h1 h2 h3 h4) (fun h' tk m' ys vs g' hn' hl' hlen hP hF hgg hgh hfr hk => ?_) hsz
    obtain ⟨nD, hD'⟩ := hl'
    have below : ∀ b ob, s₁.heap.get? b = some ob → h'.get? b = some ob := fun b ob e => by
      have := ltN' (Heap.lt_size e)
      exact hk b ob (by refine neA ?_; show b ≠ H2.objs.size; rw [sz2]; refine neA ?_; omega) (fun q => by rw [List.mem_singleton.mp q] at this; omega) (by rw [sz0]; refine neA ?_; omega) (up3 _ _ (up2 _ _ (up0 _ _ e)))
    have g'D : g'.get? H0.objs.size = none := (by obtain ⟨_, q⟩ := accD; exact hfr _ _ q : g'.get? H0.objs.size = g.get? H0.objs.size).trans (nn _ (by rw [sz0]; omega))
    have g'C : g'.get? H2.objs.size = none := (by obtain ⟨_, _, _, q, _⟩ := nsC; exact hfr _ _ q : g'.get? H2.objs.size = g.get? H2.objs.size).trans (nn _ (by rw [sz2]; omega))
    obtain ⟨g'', eg⟩ := exists_heap h'.objs.size (fun a => if a = H0.objs.size then some { cls := .type "list", data := .seq ys nD } else g'.get? a) (fun i ob h => by
      split at h
      · cases h; rename_i q; subst q; exact ⟨Heap.lt_size hD', rfl⟩
      · exact ⟨Heap.lt_size (hgh _ _ h), (Heap.get?_some_iff.mp h).2⟩)
    have ggg : Sub g' g'' := fun b ob e => by rw [eg, if_neg (fun q => by rw [q, g'D] at e; cases e)]; exact e
    refine hRR _ _ _ m' ys vs g'' ⟨h', tk, rfl, below⟩ ⟨Sub.trans hgg ggg, fun b ob e => ?_, fun a ob e => ?_⟩ (n1 _ (by rw [sz0]; omega)) (n1 _ (by rw [sz2]; omega)) hDC ?_ hn' ⟨nD, by rw [eg, if_pos rfl]⟩ hlen hP
      (Paired.imp (fun a b h => hmono a b g' g'' ggg h) hF)
    · rw [eg] at e
      split at e
      · cases e; rename_i q; subst q; exact hD'
      · exact hgh _ _ e
    · have := ltN' (Heap.lt_size e)
      rw [eg, if_neg (by rw [sz0]; refine neA ?_; omega)]
      exact hfr a ob (up3 _ _ (up2 _ _ (up0 _ _ e)))
    · rw [eg, if_neg (Ne.symm hDC)]; exact g'C
  exact codeAny_compStart_list (loop _ rfl) (W.self 0 _ _ _ hst3 (loop _ rfl))

/-- the same; the block's variable is a cell -/
theorem block_runC {elt iter : Expr} {x : Str} {px : Pos} {ifs : List Expr} {scope : Scope} {cl : List (Str × Addr)} {pos : Pos} {s₁ : Shared} {g : Heap} {n : Nat} {Pv : Nat → Value → Prop} {xv : Value}
    (S : Src prog w A g xv n Pv) (hs₁ : Sub g s₁.heap) (hsz : n ≤ sizeLine) (p : Value → Bool) (F : Value → Value → Prop) {RR : Value → Addr → Result → Shared → Prop}
    (hpc : ∀ h, pushCells h scope.names = h.push { cls := .type "cell", data := .cell none }) (hcl : ∀ n, (cellsFrom n scope.names cl).lookup x = some n) (hkind : scope.kind = .function) (hx : (relabel scope env).names.lookup x = some .cell)
    (htests : ∀ i v g' C m', Pv i v → Sub g g' → g'.IsCell (C + 1) (some v) → Tr (model prog w) A g' C m' (testsOf ifs (cblk scope cl C env)) (fun ok _ => ok = p v))
    (helt : ∀ i v g' C m', Pv i v → p v = true → Sub g g' → g'.IsCell (C + 1) (some v) → Ev (model prog w) A g' C m' (cblk scope cl C env) elt (fun y _ => F v y))
    (hRR : ∀ D C s' m' ys (vs : List Value) g', Keeps s₁ s' → Gr g s₁ s' g' → s₁.heap.get? D = none → s₁.heap.get? C = none → D ≠ C → g'.get? C = none → s'.heap.Ns C m' → g'.PlainList D ys → vs.length = n → (∀ j v, vs[j]? = some v → Pv j v) →
      Paired F (vs.filter p) ys.toList → RR (.ref D) C (.ok .next) s') :
    wpAny (model prog w) A (pyIter xv) (fun it s₂ => wpAny (model prog w) A (newList []) (fun acc s₃ => wpAny (model prog w) A (newFunctionEnv scope env.globals cl [] env.qual none .none (some env)) (fun cenv s₄ =>
      codeAny (model prog w) A (.compStart (.ListComp elt [⟨.Name x px, iter, ifs, 0⟩] scope pos) 0 it acc { cenv with scope := relabel scope env }) (RR acc cenv.locals) s₄) E s₃) E s₂) E s₁ := by
  refine S s₁ hs₁ _ _ fun o fp St W live hfp' hst hIo => ?_
  have hfp : ∀ b ∈ fp, b < s₁.heap.objs.size + 1 := fun b hb => by
    rcases hfp' b hb with rfl | ⟨q, e⟩
    · exact Nat.lt_succ_self _
    · exact Nat.lt_succ_of_lt (Heap.lt_size (hs₁ _ _ e))
  clear hfp'
  refine wpAny_newObj_type (newEnv_comp ?_)
  dsimp only
  rw [hpc]
  generalize hH0 : s₁.heap.push o = H0 at *
  have sz0 : H0.objs.size = s₁.heap.objs.size + 1 := by rw [← hH0, Heap.size_push]
  generalize hH2 : H0.push { cls := .type "list", dict := none, data := .seq ([] : List Value).toArray } = H2 at *
  have sz2 : H2.objs.size = s₁.heap.objs.size + 2 := by rw [← hH2, Heap.size_push, sz0]
  generalize hH4 : H2.push { cls := .type "dict", data := .dict #[] } = H4 at *
  have sz4 : H4.objs.size = s₁.heap.objs.size + 3 := by rw [← hH4, Heap.size_push, sz2]
  generalize hH3 : H4.push { cls := .type "cell", data := .cell none } = H3 at *
  have up0 : Sub s₁.heap H0 := fun b ob e => hH0 ▸ Heap.get?_push_of_some _ e
  have up2 : Sub H0 H2 := fun b ob e => hH2 ▸ Heap.get?_push_of_some _ e
  have up4 : Sub H2 H4 := fun b ob e => hH4 ▸ Heap.get?_push_of_some _ e
  have up5 : Sub H4 H3 := fun b ob e => hH3 ▸ Heap.get?_push_of_some _ e
  have up3 : Sub H2 H3 := Sub.trans up4 up5
  have nsC : H3.Ns H2.objs.size fun _ => none := (hH4 ▸ Heap.Ns.new H2 (.type "dict") : H4.Ns H2.objs.size fun _ => none).keeps up5
  have accD : H3.PlainList H0.objs.size #[] := ⟨0, up3 _ _ (hH2 ▸ Heap.get?_push_size _ rfl)⟩
  have cellc : H3.IsCell (H2.objs.size + 1) none := ⟨{ cls := .type "cell", data := .cell none }, by
    have := Heap.get?_push_size H4 (o := { cls := .type "cell", data := .cell none }) rfl
    rw [hH3, sz4] at this; rw [sz2]; exact this, rfl⟩
  have hst3 : St 0 H3 := W.frame _ _ _ hst fun b _ ob e => up3 _ _ (up2 _ _ e)
  have nn : ∀ a, s₁.heap.objs.size ≤ a → g.get? a = none := fun a ha => by
    cases e : g.get? a with
    | none => rfl
    | some q => exact absurd (Heap.lt_size (hs₁ _ _ e)) (Nat.not_lt.mpr ha)
  have n1 : ∀ a, s₁.heap.objs.size ≤ a → s₁.heap.get? a = none := fun a ha => by
    cases e : s₁.heap.get? a with
    | none => rfl
    | some q => exact absurd (Heap.lt_size e) (Nat.not_lt.mpr ha)
  have hDC : H0.objs.size ≠ H2.objs.size := by rw [sz0, sz2]; omega
  have loop : ∀ s₃ : Shared, s₃ = { s₁ with heap := H3 } →
      codeAny (model prog w) A (.compLoop (.ListComp elt [⟨.Name x px, iter, ifs, 0⟩] scope pos) 0 (.ref s₁.heap.objs.size) (.ref H0.objs.size) (cblk scope cl H2.objs.size env))
        (RR (.ref H0.objs.size) H2.objs.size) s₃ := by
    rintro s₃ rfl
    refine comp_loopC (cenv := cblk scope cl H2.objs.size env) (g := g) (c := H2.objs.size + 1) W (fun i h st b hb => by rw [List.mem_singleton.mp hb]; exact live i h st) p F hx (by simp [cblk, relabel, hkind]) (hcl _) hDC
      (fun hm => by have := ltN' (hfp _ hm); rw [sz0] at this; omega) (fun hm => by have := ltN' (hfp _ hm); show False; simp only [cblk] at this; rw [sz2] at this; omega)
      (fun hm => by have := ltN' (hfp _ hm); rw [sz2] at this; omega) (by rw [sz0, sz2]; refine neA ?_; omega) (by show H2.objs.size + 1 ≠ H2.objs.size; refine neA ?_; omega) hst3 accD nsC cellc (Sub.trans hs₁ (Sub.trans up0 (Sub.trans up2 up3)))
      (nn _ (by rw [sz0]; omega)) (nn _ (by show _ ≤ H2.objs.size; rw [sz2]; omega)) (nn _ (by rw [sz2]; omega)) (fun b hb => nn _ (by rw [List.mem_singleton.mp hb]; exact Nat.le_refl _))
      (fun i v g' m' h1 h2 h3 => htests i v g' _ m' h1 h2 h3) (fun i v g' m' h1 h2 h3 h4 => helt i v g' _ m' h1 h2 h3 h4) (fun h' tk m' ys vs hn' hl' hlen hP hF hgh hk => ?_) hsz
    obtain ⟨nD, hD'⟩ := hl'
    have below : ∀ b ob, s₁.heap.get? b = some ob → h'.get? b = some ob := fun b ob e => by
      have := ltN' (Heap.lt_size e)
      exact hk b ob (by refine neA ?_; show b ≠ H2.objs.size; rw [sz2]; refine neA ?_; omega) (fun q => by rw [List.mem_singleton.mp q] at this; omega) (by rw [sz0]; refine neA ?_; omega) (by rw [sz2]; refine neA ?_; omega) (up3 _ _ (up2 _ _ (up0 _ _ e)))
    have gD : g.get? H0.objs.size = none := nn _ (by rw [sz0]; omega)
    have gC : g.get? H2.objs.size = none := nn _ (by rw [sz2]; omega)
    obtain ⟨g'', eg⟩ := exists_heap h'.objs.size (fun a => if a = H0.objs.size then some { cls := .type "list", data := .seq ys nD } else g.get? a) (fun i ob h => by
      split at h
      · cases h; rename_i q; subst q; exact ⟨Heap.lt_size hD', rfl⟩
      · exact ⟨Heap.lt_size (hgh _ _ h), (Heap.get?_some_iff.mp h).2⟩)
    have ggg : Sub g g'' := fun b ob e => by rw [eg, if_neg (fun q => by rw [q, gD] at e; cases e)]; exact e
    refine hRR _ _ _ m' ys vs g'' ⟨h', tk, rfl, below⟩ ⟨ggg, fun b ob e => ?_, fun a ob e => ?_⟩ (n1 _ (by rw [sz0]; omega)) (n1 _ (by rw [sz2]; omega)) hDC ?_ hn' ⟨nD, by rw [eg, if_pos rfl]⟩ hlen hP hF
    · rw [eg] at e
      split at e
      · cases e; rename_i q; subst q; exact hD'
      · exact hgh _ _ e
    · have := ltN' (Heap.lt_size e)
      rw [eg, if_neg (by rw [sz0]; refine neA ?_; omega)]
    · rw [eg, if_neg (Ne.symm hDC)]; exact gC
  exact codeAny_compStart_list (loop _ rfl) (W.self 0 _ _ _ hst3 (loop _ rfl))
end

/-- what the end of a block's run leaves, for a value that is handed on -/
theorem sameBut_keeps {C : Addr} {s₁ s' : Shared} {h' : Heap} (k : Keeps s₁ s') (hC : s₁.heap.get? C = none) (hs : Heap.SameBut C s'.heap h') : Keeps s₁ { s' with heap := h' } := by
  obtain ⟨h, tk, rfl, kk⟩ := k
  exact ⟨h', tk, rfl, fun b o e => hs.extBut b o (fun q => by rw [q, hC] at e; cases e) (kk b o e)⟩
theorem sameBut_gr {C : Addr} {g g' : Heap} {s₁ s' : Shared} {h' : Heap} (u : Gr g s₁ s' g') (hC : g'.get? C = none) (hs : Heap.SameBut C s'.heap h') : Gr g s₁ { s' with heap := h' } g' :=
  ⟨u.up, fun b o e => hs.extBut b o (fun q => by rw [q, hC] at e; cases e) (u.sub b o e), u.fresh⟩

section
variable {prog : Program} {w : World} {A : Around} {g : Heap} {L : Addr} {m : Str → Option Value} {env : Env}
theorem ev_comp {elt iter : Expr} {x : Str} {px : Pos} {ifs : List Expr} {scope : Scope} {cl : List (Str × Addr)} {pos : Pos} {R : Value → Heap → Prop} (n : Nat) (Pv : Nat → Value → Prop) (p : Value → Bool) (F : Value → Value → Heap → Prop)
    (hmono : ∀ v y g g', Sub g g' → F v y g → F v y g')
    (hclos : closureFor scope env = pure cl) (hcell : ∀ y ∈ scope.names, y.2 ≠ .cell) (hkind : scope.kind = .function) (hnames : ∀ y ∈ scope.names, y.2 = .local → scope.names.lookup y.1 = some .local) (hx : scope.names.lookup x = some .local)
    (hs : ∀ x, foldedSetIterable iter env x = pure x)
    (h : Ev (model prog w) A g L m env iter (fun xv g₁ => Src prog w A g₁ xv n Pv ∧ n ≤ sizeLine ∧
      (∀ i v g' C m', Pv i v → Sub g₁ g' → m' x = some v → Tr (model prog w) A g' C m' (testsOf ifs (cblk scope cl C env)) (fun ok _ => ok = p v)) ∧
      (∀ i v g' C m', Pv i v → p v = true → Sub g₁ g' → m' x = some v → Ev (model prog w) A g' C m' (cblk scope cl C env) elt (fun y g'' => F v y g'')) ∧
      (∀ D ys (vs : List Value) g', Sub g₁ g' → g₁.get? D = none → vs.length = n → (∀ j v, vs[j]? = some v → Pv j v) → Paired (fun v y => F v y g') (vs.filter p) ys.toList → g'.PlainList D ys → R (.ref D) g'))) :
    Ev (model prog w) A g L m env (.ListComp elt [⟨.Name x px, iter, ifs, 0⟩] scope pos) R := fun s hs' => by
  show wpAny _ _ (eval _ env) _ _ _
  rw [eval_ListComp]
  refine wpAny_comprehension_free (use := none) rfl hs hclos hkind hnames ((h s hs').any fun xv s₁ g₁ k₁ u₁ hv => ?_)
  obtain ⟨S, hsz, ht, he, hR⟩ := hv
  refine block_run S u₁.sub hsz p F hmono (RR := fun acc C => compPost (model prog w) A _ none _ acc C) hcell hkind hx ht he fun D C s' m' ys vs g' k₂ u₂ hD hC hDC gC hn hl hlen hP hF => ?_
  refine ⟨m', hn, fun h' hsb => ?_⟩
  have kk := sameBut_keeps k₂ hC hsb
  have uu := sameBut_gr u₂ gC hsb
  refine ⟨keeps_trans k₁ kk, g', u₁.trans k₁ uu, hR D ys vs g' u₂.up ?_ hlen hP hF hl⟩
  cases q : g₁.get? D with
  | none => rfl
  | some ob => rw [u₁.sub _ _ q] at hD; cases hD
theorem ev_compC {elt iter : Expr} {x : Str} {px : Pos} {ifs : List Expr} {scope : Scope} {cl : List (Str × Addr)} {pos : Pos} {R : Value → Heap → Prop} (n : Nat) (Pv : Nat → Value → Prop) (p : Value → Bool) (F : Value → Value → Prop)
    (hclos : closureFor scope env = pure cl) (hpc : ∀ h, pushCells h scope.names = h.push { cls := .type "cell", data := .cell none }) (hcl : ∀ n, (cellsFrom n scope.names cl).lookup x = some n)
    (hkind : scope.kind = .function) (hnames : ∀ y ∈ scope.names, y.2 = .local → scope.names.lookup y.1 = some .local) (hx : (relabel scope env).names.lookup x = some .cell)
    (hs : ∀ x, foldedSetIterable iter env x = pure x)
    (h : Ev (model prog w) A g L m env iter (fun xv g₁ => Src prog w A g₁ xv n Pv ∧ n ≤ sizeLine ∧
      (∀ i v g' C m', Pv i v → Sub g₁ g' → g'.IsCell (C + 1) (some v) → Tr (model prog w) A g' C m' (testsOf ifs (cblk scope cl C env)) (fun ok _ => ok = p v)) ∧
      (∀ i v g' C m', Pv i v → p v = true → Sub g₁ g' → g'.IsCell (C + 1) (some v) → Ev (model prog w) A g' C m' (cblk scope cl C env) elt (fun y _ => F v y)) ∧
      (∀ D ys (vs : List Value) g', Sub g₁ g' → g₁.get? D = none → vs.length = n → (∀ j v, vs[j]? = some v → Pv j v) → Paired F (vs.filter p) ys.toList → g'.PlainList D ys → R (.ref D) g'))) :
    Ev (model prog w) A g L m env (.ListComp elt [⟨.Name x px, iter, ifs, 0⟩] scope pos) R := fun s hs' => by
  show wpAny _ _ (eval _ env) _ _ _
  rw [eval_ListComp]
  refine wpAny_comprehension_free (use := none) rfl hs hclos hkind hnames ((h s hs').any fun xv s₁ g₁ k₁ u₁ hv => ?_)
  obtain ⟨S, hsz, ht, he, hR⟩ := hv
  refine block_runC S u₁.sub hsz p F (RR := fun acc C => compPost (model prog w) A _ none _ acc C) hpc hcl hkind hx ht he fun D C s' m' ys vs g' k₂ u₂ hD hC hDC gC hn hl hlen hP hF => ?_
  refine ⟨m', hn, fun h' hsb => ?_⟩
  have kk := sameBut_keeps k₂ hC hsb
  have uu := sameBut_gr u₂ gC hsb
  refine ⟨keeps_trans k₁ kk, g', u₁.trans k₁ uu, hR D ys vs g' u₂.up ?_ hlen hP hF hl⟩
  cases q : g₁.get? D with
  | none => rfl
  | some ob => rw [u₁.sub _ _ q] at hD; cases hD
/-- no test; one test -/
theorem tests_nil {P : Bool → Heap → Prop} (h : P true g) : Tr (model prog w) A g L m (testsOf [] env) P := fun s hs => wpAny_tests_nil ⟨keeps_refl s, g, Gr.same hs.sub (keeps_refl s), h⟩
theorem tests_one {c : Expr} {P : Bool → Heap → Prop} (h : Ts (model prog w) A g L m env c P) : Tr (model prog w) A g L m (testsOf [c] env) P := fun s hs => wpAny_tests_one (h s hs)
end
end Mine
end
section
open PySem PySem.W PyProof.Rows
set_option Elab.async false
set_option maxRecDepth 100000
set_option linter.unusedVariables false
namespace Mine
abbrev upd (m : Str → Option Value) (x : Str) (v : Value) : Str → Option Value := fun y => if y = x then some v else m y

/-- a frame at hand: entry state s₀ and its known heap g₀; locals m at L; the call's own changing objects X; the known heap g -/
structure Fm (s₀ : Shared) (g₀ : Heap) (L : Addr) (m : Str → Option Value) (X : List (Addr × Obj)) (g : Heap) (s : Shared) : Prop where
  same : ∃ h tk, s = { s₀ with heap := h, toks := tk }
  ns : s.heap.Ns L m
  base : Sub s₀.heap s.heap
  newL : s₀.heap.get? L = none
  sub : Sub g s.heap
  off : g.get? L = none
  up : Sub g₀ g
  fresh : ∀ a o, s₀.heap.get? a = some o → g.get? a = g₀.get? a
  own : ∀ p ∈ X, s.heap.get? p.1 = some p.2 ∧ p.1 ≠ L ∧ g.get? p.1 = none ∧ s₀.heap.get? p.1 = none
theorem Fm.at {s₀ s : Shared} {g₀ g : Heap} {L : Addr} {m : Str → Option Value} {X : List (Addr × Obj)} (F : Fm s₀ g₀ L m X g s) : At g L m s := ⟨F.sub, F.ns⟩
theorem Fm.live {s₀ s : Shared} {g₀ g : Heap} {L : Addr} {m : Str → Option Value} {X : List (Addr × Obj)} (F : Fm s₀ g₀ L m X g s) : ∃ o, s.heap.get? L = some o := by
  obtain ⟨o, _, _, h, _⟩ := F.ns; exact ⟨o, h⟩

/-- what else a statement leaves as it was -/
structure Oth (L : Addr) (X : List (Addr × Obj)) (g : Heap) (s : Shared) (X' : List (Addr × Obj)) (g' : Heap) (s' : Shared) : Prop where
  keep : ∀ a o, a ≠ L → (∀ p ∈ X, p.1 ≠ a) → s.heap.get? a = some o → s'.heap.get? a = some o
  alive : ∀ a o, s.heap.get? a = some o → ∃ o', s'.heap.get? a = some o'
  new : ∀ p ∈ X', (∃ q ∈ X, q.1 = p.1) ∨ s.heap.get? p.1 = none
  know : ∀ a o, s.heap.get? a = some o → g.get? a = none → g'.get? a = none
theorem Oth.refl (L : Addr) (X : List (Addr × Obj)) (g : Heap) (s : Shared) : Oth L X g s X g s := ⟨fun _ _ _ _ e => e, fun _ o e => ⟨o, e⟩, fun p hp => .inl ⟨p, hp, rfl⟩, fun _ _ _ e => e⟩
theorem Oth.trans {s s' s'' : Shared} {g g' g'' : Heap} {L : Addr} {X X' X'' : List (Addr × Obj)} (x : Oth L X g s X' g' s') (y : Oth L X' g' s' X'' g'' s'') : Oth L X g s X'' g'' s'' := by
  refine ⟨fun a o hL hX e => y.keep a o hL (fun p hp h => ?_) (x.keep a o hL hX e), fun a o e => ?_, fun p hp => ?_, fun a o e hg => ?_⟩
  · rcases x.new p hp with ⟨q, hq, e'⟩ | e'
    · exact hX q hq (e'.trans h)
    · rw [h, e] at e'; cases e'
  · obtain ⟨o', e'⟩ := x.alive a o e; exact y.alive a o' e'
  · rcases y.new p hp with ⟨q, hq, e'⟩ | e'
    · rcases x.new q hq with ⟨r, hr, e''⟩ | e''
      · exact .inl ⟨r, hr, e''.trans e'⟩
      · exact .inr (e' ▸ e'')
    · cases e : s.heap.get? p.1 with
      | none => exact .inr rfl
      | some o => obtain ⟨o', e2⟩ := x.alive _ _ e; rw [e2] at e'; cases e'
  · obtain ⟨o', e'⟩ := x.alive a o e
    exact y.know a o' e' (x.know a o e hg)
theorem Oth.keeps {s s' : Shared} {g g' : Heap} {L : Addr} {X : List (Addr × Obj)} (k : Keeps s s') (u : Gr g s s' g') : Oth L X g s X g' s' :=
  ⟨fun a o _ _ e => keeps_sub k a o e, fun a o e => ⟨o, keeps_sub k a o e⟩, fun p hp => .inl ⟨p, hp, rfl⟩, fun a o e hg => (u.fresh a o e).trans hg⟩
theorem Fm.keeps {s₀ s s' : Shared} {g₀ g g' : Heap} {L : Addr} {m : Str → Option Value} {X : List (Addr × Obj)} (F : Fm s₀ g₀ L m X g s) (k : Keeps s s') (u : Gr g s s' g') : Fm s₀ g₀ L m X g' s' := by
  obtain ⟨oL, hoL⟩ := F.live
  refine ⟨?_, F.ns.keeps (keeps_sub k), Sub.trans F.base (keeps_sub k), F.newL, u.sub, (u.fresh _ _ hoL).trans F.off, Sub.trans F.up u.up, fun a o e => (u.fresh a o (F.base a o e)).trans (F.fresh a o e), fun p hp => ?_⟩
  · obtain ⟨h, tk, e⟩ := F.same
    obtain ⟨h', tk', e', _⟩ := k
    exact ⟨h', tk', by rw [e', e]⟩
  · obtain ⟨a, b, c, d⟩ := F.own p hp
    exact ⟨keeps_sub k _ _ a, b, (u.fresh _ _ a).trans c, d⟩
/-- a store into the frame -/
theorem Fm.store {s₀ s : Shared} {g₀ g : Heap} {L : Addr} {m m' : Str → Option Value} {X : List (Addr × Obj)} {h' : Heap} {tk : Nat} (F : Fm s₀ g₀ L m X g s) (hn : h'.Ns L m') (hs : Heap.SameBut L s.heap h') :
    Fm s₀ g₀ L m' X g { s with heap := h', toks := tk } ∧ Oth L X g s X g { s with heap := h', toks := tk } := by
  refine ⟨⟨?_, hn, fun b o e => hs.extBut b o (fun q => by rw [q, F.newL] at e; cases e) (F.base b o e), F.newL, fun b o e => hs.extBut b o (fun q => by rw [q, F.off] at e; cases e) (F.sub b o e), F.off, F.up, F.fresh, fun p hp => ?_⟩,
    fun a o hL _ e => hs.extBut a o hL e, fun a o e => ?_, fun p hp => .inl ⟨p, hp, rfl⟩, fun _ _ _ e => e⟩
  · obtain ⟨h, t, e⟩ := F.same; exact ⟨h', tk, by rw [e]⟩
  · obtain ⟨a, b, c, d⟩ := F.own p hp
    exact ⟨hs.extBut _ _ b a, b, c, d⟩
  · by_cases q : a = L
    · subst q; obtain ⟨o', _, _, h, _⟩ := hn; exact ⟨o', h⟩
    · exact ⟨o, hs.extBut a o q e⟩

/-- a statement's run from such a frame -/
def Bx (M : Model) (A : Around) (s₀ : Shared) (g₀ : Heap) (L : Addr) (m : Str → Option Value) (X : List (Addr × Obj)) (g : Heap) (t : Sem Flow) (R : Flow → (Str → Option Value) → List (Addr × Obj) → Heap → Prop) : Prop :=
  ∀ s, Fm s₀ g₀ L m X g s → wpAny M A t (fun f s' => ∃ m' X' g', Fm s₀ g₀ L m' X' g' s' ∧ Oth L X g s X' g' s' ∧ R f m' X' g') (fun _ _ => False) s

section
variable {M : Model} {A : Around} {s₀ : Shared} {g₀ g : Heap} {L : Addr} {m : Str → Option Value} {X : List (Addr × Obj)} {env : Env} {R : Flow → (Str → Option Value) → List (Addr × Obj) → Heap → Prop}
theorem bx_nil (h : R .next m X g) : Bx M A s₀ g₀ L m X g (execs [] env) R := fun s F => wpAny_execs_nil ⟨m, X, g, F, Oth.refl .., h⟩
theorem bx_cons {st : Stmt} {rest : List Stmt} (h : Bx M A s₀ g₀ L m X g (exec st env) (fun f m' X' g' => match f with | .next => Bx M A s₀ g₀ L m' X' g' (execs rest env) R | f => R f m' X' g')) :
    Bx M A s₀ g₀ L m X g (execs (st :: rest) env) R := fun s F => by
  refine wpAny_execs_cons (wpAny_mono (h s F) (fun f s' h' => ?_) fun _ _ x => x.elim)
  obtain ⟨m', X', g', F', O', hr⟩ := h'
  cases f with
  | next => exact wpAny_mono (hr s' F') (fun f s'' h'' => by obtain ⟨m'', X'', g'', F'', O'', hr'⟩ := h''; exact ⟨m'', X'', g'', F'', O'.trans O'', hr'⟩) fun _ _ x => x
  | _ => exact ⟨m', X', g', F', O', hr⟩
theorem bx_imp {t : Sem Flow} {R' : Flow → (Str → Option Value) → List (Addr × Obj) → Heap → Prop} (h : Bx M A s₀ g₀ L m X g t R) (k : ∀ f m' X' g', R f m' X' g' → R' f m' X' g') : Bx M A s₀ g₀ L m X g t R' := fun s F =>
  wpAny_mono (h s F) (fun f s' h' => by obtain ⟨a, b, c, d, e, f'⟩ := h'; exact ⟨a, b, c, d, e, k _ _ _ _ f'⟩) fun _ _ x => x
theorem bx_return {e : Expr} {pos : Pos} (h : Ev M A g L m env e (fun v g' => R (.ret v) m X g')) : Bx M A s₀ g₀ L m X g (exec (.Return (some e) pos) env) R := fun s F =>
  wpAny_Return_some ((h s F.at).any fun v s' g' k u hv => ⟨m, X, g', F.keeps k u, Oth.keeps k u, hv⟩)
theorem bx_if {test : Expr} {body orelse : List Stmt} {pos : Pos} (h : Ts M A g L m env test (fun b g' => if b then Bx M A s₀ g₀ L m X g' (execs body env) R else Bx M A s₀ g₀ L m X g' (execs orelse env) R)) :
    Bx M A s₀ g₀ L m X g (exec (.If test body orelse pos) env) R := fun s F => by
  refine wpAny_If ((h s F.at).any fun b s' g' k u hb => ?_)
  have F' := F.keeps k u
  cases b <;> exact wpAny_mono (hb s' F') (fun f s'' h'' => by obtain ⟨m'', X'', g'', F'', O'', hr'⟩ := h''; exact ⟨m'', X'', g'', F'', (Oth.keeps k u).trans O'', hr'⟩) fun _ _ x => x.elim
theorem bx_break {pos : Pos} (h : R .brk m X g) : Bx M A s₀ g₀ L m X g (exec (.Break pos) env) R := fun s F => wpAny_Break ⟨m, X, g, F, Oth.refl .., h⟩

/-- x = e, a local -/
theorem bx_assign {x : Str} {px pos : Pos} {e : Expr} (hl : env.locals = L) (hk : env.scope.kind = .function) (hx : env.kindOf x = some .local) (h : Ev M A g L m env e (fun v g' => R .next (upd m x v) X g'))
    (hs : swapsWith e (some (.Name x px)) pos.line env = pure false := by rfl) : Bx M A s₀ g₀ L m X g (exec (.Assign [.Name x px] e pos) env) R := fun s F => by
  subst hl
  refine wpAny_Assign_Name ((h s F.at).any fun v s' g' k u hv => ?_) hs
  have F' := F.keeps k u
  refine wpAny_storeName_local hx F'.ns (fun h' hn hsb => ?_) (by rw [hk]; rfl)
  obtain ⟨F'', O''⟩ := F'.store (tk := s'.toks + 1) hn hsb
  exact ⟨_, X, g', F'', (Oth.keeps k u).trans O'', hv⟩
/-- the value of an expression that looks at the frame's own changing objects too; it alone is told on -/
theorem Fm.see {s : Shared} (F : Fm s₀ g₀ L m X g s) (hnd : X.Pairwise fun p q => p.1 ≠ q.1) : ∃ gp, Sub g gp ∧ (∀ p ∈ X, gp.get? p.1 = some p.2) ∧ Sub gp s.heap ∧ gp.get? L = none ∧ ∀ a, (∀ p ∈ X, p.1 ≠ a) → gp.get? a = g.get? a := by
  induction X with
  | nil => exact ⟨g, fun _ _ e => e, fun p hp => (nomatch hp), F.sub, F.off, fun _ _ => rfl⟩
  | cons p r ih =>
    obtain ⟨hp, hr⟩ := List.pairwise_cons.mp hnd
    have F' : Fm s₀ g₀ L m r g s := ⟨F.same, F.ns, F.base, F.newL, F.sub, F.off, F.up, F.fresh, fun q hq => F.own q (.tail _ hq)⟩
    obtain ⟨gp, h1, h2, h3, h4, h5⟩ := ih F' hr
    obtain ⟨a, b, c, d⟩ := F.own p (.head _)
    have hno : gp.get? p.1 = none := (h5 p.1 (fun q hq h => hp q hq h.symm)).trans c
    obtain ⟨gq, eg⟩ := exists_heap s.heap.objs.size (fun i => if i = p.1 then some p.2 else gp.get? i) (fun i o h => by
      split at h
      · cases h; rename_i q; subst q; exact ⟨Heap.lt_size a, (Heap.get?_some_iff.mp a).2⟩
      · exact ⟨Heap.lt_size (h3 _ _ h), (Heap.get?_some_iff.mp h).2⟩)
    refine ⟨gq, fun i o e => ?_, fun q hq => ?_, fun i o e => ?_, ?_, fun i hi => ?_⟩
    · rw [eg, if_neg (fun q => by rw [q, c] at e; cases e)]; exact h1 i o e
    · rcases List.mem_cons.mp hq with rfl | hq
      · rw [eg, if_pos rfl]
      · rw [eg, if_neg (fun h => hp q hq h.symm)]; exact h2 q hq
    · rw [eg] at e
      split at e
      · cases e; rename_i q; subst q; exact a
      · exact h3 i o e
    · rw [eg, if_neg (Ne.symm b)]; exact h4
    · rw [eg, if_neg (fun h => hi p (.head _) h.symm)]
      exact h5 i fun q hq => hi q (.tail _ hq)
/-- the heap that tells the own objects too -/
abbrev Sees (g : Heap) (X : List (Addr × Obj)) (gp : Heap) : Prop := Sub g gp ∧ ∀ p ∈ X, gp.get? p.1 = some p.2
theorem Fm.keeps' {s s' : Shared} (F : Fm s₀ g₀ L m X g s) (k : Keeps s s') : Fm s₀ g₀ L m X g s' ∧ Oth L X g s X g s' :=
  ⟨F.keeps k (Gr.same F.sub k), Oth.keeps k (Gr.same F.sub k)⟩
theorem bx_assignX {x : Str} {px pos : Pos} {e : Expr} (hnd : X.Pairwise fun p q => p.1 ≠ q.1) (hl : env.locals = L) (hk : env.scope.kind = .function) (hx : env.kindOf x = some .local)
    (h : ∀ gp, Sees g X gp → Ev M A gp L m env e (fun v _ => R .next (upd m x v) X g))
    (hs : swapsWith e (some (.Name x px)) pos.line env = pure false := by rfl) : Bx M A s₀ g₀ L m X g (exec (.Assign [.Name x px] e pos) env) R := fun s F => by
  subst hl
  obtain ⟨gp, p1, p2, p3, p4, p5⟩ := F.see hnd
  refine wpAny_Assign_Name ((h gp ⟨p1, p2⟩ s ⟨p3, F.ns⟩).any fun v s' g' k u hv => ?_) hs
  obtain ⟨F', O'⟩ := F.keeps' k
  refine wpAny_storeName_local hx F'.ns (fun h' hn hsb => ?_) (by rw [hk]; rfl)
  obtain ⟨F'', O''⟩ := F'.store (tk := s'.toks + 1) hn hsb
  exact ⟨_, X, g, F'', O'.trans O'', hv⟩
/-- x = a new object, from now on a changing one of the frame's -/
theorem bx_assignN {x : Str} {px pos : Pos} {e : Expr} {X' : List (Addr × Obj)} (hX : ∀ p ∈ X', p ∈ X) (hnd : X.Pairwise fun p q => p.1 ≠ q.1) (hl : env.locals = L) (hk : env.scope.kind = .function) (hx : env.kindOf x = some .local)
    (h : ∀ gp, Sees g X gp → Ev M A gp L m env e (fun v g' => ∃ a o, v = .ref a ∧ gp.get? a = none ∧ g'.get? a = some o ∧ ((∀ p ∈ X, p.1 ≠ a) → R .next (upd m x v) ((a, o) :: X') g)))
    (hs : swapsWith e (some (.Name x px)) pos.line env = pure false := by rfl) : Bx M A s₀ g₀ L m X g (exec (.Assign [.Name x px] e pos) env) R := fun s F => by
  subst hl
  obtain ⟨gp, p1, p2, p3, p4, p5⟩ := F.see hnd
  refine wpAny_Assign_Name ((h gp ⟨p1, p2⟩ s ⟨p3, F.ns⟩).any fun v s' g' k u hv => ?_) hs
  obtain ⟨a, o, rfl, hna, hao, hR⟩ := hv
  obtain ⟨F', O'⟩ := F.keeps' k
  have hnew : s.heap.get? a = none := by
    cases e : s.heap.get? a with
    | none => rfl
    | some q => rw [u.fresh a q e, hna] at hao; cases hao
  have haL : a ≠ env.locals := fun q => by obtain ⟨oL, hoL⟩ := F.live; rw [q, hoL] at hnew; cases hnew
  have haX : ∀ p ∈ X, p.1 ≠ a := fun p hp q => by have := (F.own p hp).1; rw [q, hnew] at this; cases this
  have hgA : g.get? a = none := by
    cases e : g.get? a with
    | none => rfl
    | some q => rw [F.sub _ _ e] at hnew; cases hnew
  have h0 : s₀.heap.get? a = none := by
    cases e : s₀.heap.get? a with
    | none => rfl
    | some q => rw [F.base _ _ e] at hnew; cases hnew
  refine wpAny_storeName_local hx F'.ns (fun h' hn hsb => ?_) (by rw [hk]; rfl)
  obtain ⟨F'', O''⟩ := F'.store (tk := s'.toks + 1) hn hsb
  refine ⟨_, (a, o) :: X', g, ⟨F''.same, F''.ns, F''.base, F''.newL, F''.sub, F''.off, F''.up, F''.fresh, fun p hp => ?_⟩, ⟨(O'.trans O'').keep, (O'.trans O'').alive, fun p hp => ?_, (O'.trans O'').know⟩, hR haX⟩
  · rcases List.mem_cons.mp hp with rfl | hp
    · exact ⟨hsb.extBut _ _ haL (u.sub _ _ hao), haL, hgA, h0⟩
    · exact F''.own p (hX p hp)
  · rcases List.mem_cons.mp hp with rfl | hp
    · exact .inr hnew
    · exact .inl ⟨p, hX p hp, rfl⟩
/-- a test that looks at the own objects -/
theorem bx_ifX {test : Expr} {body orelse : List Stmt} {pos : Pos} (hnd : X.Pairwise fun p q => p.1 ≠ q.1)
    (h : ∀ gp, Sees g X gp → Ts M A gp L m env test (fun b _ => if b then Bx M A s₀ g₀ L m X g (execs body env) R else Bx M A s₀ g₀ L m X g (execs orelse env) R)) :
    Bx M A s₀ g₀ L m X g (exec (.If test body orelse pos) env) R := fun s F => by
  obtain ⟨gp, p1, p2, p3, p4, p5⟩ := F.see hnd
  refine wpAny_If ((h gp ⟨p1, p2⟩ s ⟨p3, F.ns⟩).any fun b s' g' k u hb => ?_)
  obtain ⟨F', O'⟩ := F.keeps' k
  cases b <;> exact wpAny_mono (hb s' F') (fun f s'' h'' => by obtain ⟨m'', X'', g'', F'', O'', hr'⟩ := h''; exact ⟨m'', X'', g'', F'', O'.trans O'', hr'⟩) fun _ _ x => x.elim
/-- an own object turned -/
theorem Fm.turn {s : Shared} {a : Addr} {o o' : Obj} {pre post : List (Addr × Obj)} {h' : Heap} {tk : Nat} (F : Fm s₀ g₀ L m (pre ++ (a, o) :: post) g s) (hnd : (pre ++ (a, o) :: post).Pairwise fun p q => p.1 ≠ q.1)
    (hs : Heap.SameBut a s.heap h') (ho : h'.get? a = some o') :
    Fm s₀ g₀ L m (pre ++ (a, o') :: post) g { s with heap := h', toks := tk } ∧ Oth L (pre ++ (a, o) :: post) g s (pre ++ (a, o') :: post) g { s with heap := h', toks := tk } := by
  obtain ⟨ha, haL, hag, ha0⟩ := F.own (a, o) (List.mem_append_right _ (.head _))
  have hne : ∀ p, p ∈ pre ∨ p ∈ post → p.1 ≠ a := fun p hp => by
    obtain ⟨h1, h2, h3⟩ := List.pairwise_append.mp hnd
    rcases hp with hp | hp
    · exact h3 p hp _ (.head _)
    · exact fun q => (List.pairwise_cons.mp h2).1 p hp q.symm
  refine ⟨⟨?_, F.ns.sameBut hs (Ne.symm haL), fun b ob e => hs.extBut b ob (fun q => by rw [q, ha0] at e; cases e) (F.base b ob e), F.newL, fun b ob e => hs.extBut b ob (fun q => by rw [q, hag] at e; cases e) (F.sub b ob e), F.off, F.up, F.fresh, fun p hp => ?_⟩,
    fun b ob hL hX e => hs.extBut b ob (fun q => hX (a, o) (List.mem_append_right _ (.head _)) q.symm) e, fun b ob e => ?_, fun p hp => .inl ?_, fun _ _ _ e => e⟩
  · obtain ⟨h, t, e⟩ := F.same; exact ⟨h', tk, by rw [e]⟩
  · rcases List.mem_append.mp hp with hp | hp
    · obtain ⟨x1, x2, x3, x4⟩ := F.own p (List.mem_append_left _ hp); exact ⟨hs.extBut _ _ (hne p (.inl hp)) x1, x2, x3, x4⟩
    · rcases List.mem_cons.mp hp with rfl | hp
      · exact ⟨ho, haL, hag, ha0⟩
      · obtain ⟨x1, x2, x3, x4⟩ := F.own p (List.mem_append_right _ (.tail _ hp)); exact ⟨hs.extBut _ _ (hne p (.inr hp)) x1, x2, x3, x4⟩
  · by_cases q : b = a
    · subst q; exact ⟨o', ho⟩
    · exact ⟨ob, hs.extBut b ob q e⟩
  · rcases List.mem_append.mp hp with hp | hp
    · exact ⟨p, List.mem_append_left _ hp, rfl⟩
    · rcases List.mem_cons.mp hp with rfl | hp
      · exact ⟨(a, o), List.mem_append_right _ (.head _), rfl⟩
      · exact ⟨p, List.mem_append_right _ (.tail _ hp), rfl⟩
end
end Mine
end
section
open PySem PySem.W PyProof.Rows
set_option Elab.async false
set_option maxRecDepth 100000
set_option linter.unusedVariables false
namespace Mine
section
variable {prog : Program} {w : World} {A : Around} {s₀ : Shared} {g₀ g : Heap} {L : Addr} {m : Str → Option Value} {X : List (Addr × Obj)} {env : Env} {R : Flow → (Str → Option Value) → List (Addr × Obj) → Heap → Prop}

/-- for x in ..: by an invariant over the frame -/
theorem loop_run {x : Str} {px : Pos} {body : List Stmt} {s₁ : Shared} {xv : Value} {n : Nat} {Pv : Nat → Value → Prop} {g₁ : Heap} {E : Value → Shared → Prop}
    (Inv : Nat → (Str → Option Value) → List (Addr × Obj) → Heap → Prop)
    (hl : env.locals = L) (hk : env.scope.kind = .function) (hx : env.kindOf x = some .local)
    (F₁ : Fm s₀ g₀ L m X g₁ s₁) (S : Src prog w A g₁ xv n Pv) (h0 : Inv 0 m X g₁)
    (turn : ∀ i v m' X' g', Pv i v → i < n → Sub g₁ g' → Inv i m' X' g' → Bx (model prog w) A s₀ g₀ L (upd m' x v) X' g' (execs body env) (fun f m'' X'' g'' => match f with
      | .next | .cont => Sub g' g'' ∧ Inv (i + 1) m'' X'' g'' | .brk => R .next m'' X'' g'' | .ret v => R (.ret v) m'' X'' g''))
    (fin : ∀ m' X' g', Sub g₁ g' → Inv n m' X' g' → R .next m' X' g') :
    wpAny (model prog w) A (pyIter xv) (fun it s₂ => codeAny (model prog w) A (.forLoop (.Name x px) it body [] env)
      (fun r s' => match r with | .ok f => ∃ m' X' g', Fm s₀ g₀ L m' X' g' s' ∧ Oth L X g₁ s₁ X' g' s' ∧ R f m' X' g' | .error e => cameBackBy (model prog w) A env E e s') s₂) E s₁ := by
  subst hl
  refine S s₁ F₁.sub _ _ fun o fp St W live hfp hst hIo => ?_
  have kI : Keeps s₁ { s₁ with heap := s₁.heap.push o } := keeps_push s₁ o
  have F₂ := F₁.keeps kI (Gr.same F₁.sub kI)
  have O₂ : Oth env.locals X g₁ s₁ X g₁ { s₁ with heap := s₁.heap.push o } := Oth.keeps kI (Gr.same F₁.sub kI)
  have hIn : s₁.heap.get? s₁.heap.objs.size = none := fresh_size _
  have LI : env.locals ≠ s₁.heap.objs.size := fun q => by obtain ⟨oL, hoL⟩ := F₁.live; rw [q, hIn] at hoL; cases hoL
  have gI₁ : g₁.get? s₁.heap.objs.size = none := new_none F₁.sub
  have xI₁ : ∀ p ∈ X, p.1 ≠ s₁.heap.objs.size := fun p hp q => by have := (F₁.own p hp).1; rw [q, hIn] at this; cases this
  have I0 : s₀.heap.get? s₁.heap.objs.size = none := by
    cases e : s₀.heap.get? s₁.heap.objs.size with
    | none => rfl
    | some q => have := F₁.base _ _ e; rw [hIn] at this; cases this
  generalize hI : s₁.heap.objs.size = I at *
  -- what a turn's frame keeps of the iterator's ground
  have ground : ∀ {m' X' g' s'} , Fm s₀ g₀ env.locals m' X' g' s' → Sub g₁ g' → g'.get? I = none → (∀ p ∈ X', p.1 ≠ I) → ∀ b ∈ fp, b ≠ env.locals ∧ ∀ p ∈ X', p.1 ≠ b := fun {m' X' g' s'} F' hs' gI xI b hb => by
    rcases hfp b hb with rfl | ⟨q, e⟩
    · exact ⟨Ne.symm LI, xI⟩
    · have e' := hs' _ _ e
      exact ⟨fun h => (by rw [h, F'.off] at e'; cases e'), fun p hp h => (by have := (F'.own p hp).2.2.1; rw [h, e'] at this; cases this)⟩
  refine codeAny_forLoop (fun k s' => ∃ i m' X' g', Fm s₀ g₀ env.locals m' X' g' s' ∧ Oth env.locals X g₁ s₁ X' g' s' ∧ St i s'.heap ∧ Inv i m' X' g' ∧ i ≤ n ∧ k = n + 1 - i ∧ g'.get? I = none ∧ (∀ p ∈ X', p.1 ≠ I) ∧ Sub g₁ g') ?_ (n + 1)
    ⟨0, m, X, g₁, F₂, O₂, hst, h0, Nat.zero_le _, rfl, gI₁, xI₁, fun _ _ e => e⟩
  rintro k s' ⟨i, m', X', g', F', O', hst', hinv, hi, rfl, gI, xI, hs'⟩
  have hall : ∀ {h₁ : Heap} {tk₁ : Nat}, (∀ b ob, b ∉ [I] → s'.heap.get? b = some ob → h₁.get? b = some ob) → (∃ q, h₁.get? I = some q) ∨ True → Fm s₀ g₀ env.locals m' X' g' { s' with heap := h₁, toks := tk₁ } := fun {h₁ tk₁} hk₁ _ => by
    have hkI : ∀ b ob, b ≠ I → s'.heap.get? b = some ob → h₁.get? b = some ob := fun b ob hb e => hk₁ b ob (fun q => hb (List.mem_singleton.mp q)) e
    refine ⟨?_, F'.ns.at' fun ob e => hkI _ ob LI e, fun b ob e => hkI b ob (fun q => by rw [q, I0] at e; cases e) (F'.base b ob e), F'.newL, fun b ob e => hkI b ob (fun q => by rw [q, gI] at e; cases e) (F'.sub b ob e), F'.off, F'.up, F'.fresh, fun p hp => ?_⟩
    · obtain ⟨h, t, e⟩ := F'.same; exact ⟨h₁, tk₁, by rw [e]⟩
    · obtain ⟨x1, x2, x3, x4⟩ := F'.own p hp; exact ⟨hkI _ _ (xI p hp) x1, x2, x3, x4⟩
  -- the step of the iterator, seen from the loop's start
  have oth : ∀ {h₁ : Heap} {tk₁ : Nat}, (∀ b ob, b ∉ [I] → s'.heap.get? b = some ob → h₁.get? b = some ob) → Oth env.locals X g₁ s₁ X' g' { s' with heap := h₁, toks := tk₁ } := fun {h₁ tk₁} hk₁ => by
    have hkI : ∀ b ob, b ≠ I → s'.heap.get? b = some ob → h₁.get? b = some ob := fun b ob hb e => hk₁ b ob (fun q => hb (List.mem_singleton.mp q)) e
    refine ⟨fun a ob h1 h2 e => hkI a ob (fun q => by rw [q, hIn] at e; cases e) (O'.keep a ob h1 h2 e), fun a ob e => ?_, O'.new, O'.know⟩
    obtain ⟨ob', e'⟩ := O'.alive a ob e
    exact ⟨ob', hkI a ob' (fun q => by rw [q, hIn] at e; cases e) e'⟩
  by_cases hlt : i < n
  · refine W.item i s' _ _ hlt hst' fun v h₁ tk₁ hPv hst₁ hk₁ => ?_
    have F3 := hall (tk₁ := tk₁) hk₁ (.inr trivial)
    have O3 := oth (tk₁ := tk₁) hk₁
    refine wpAny_assign_Name (wpAny_storeName_local hx F3.ns (fun h₂ hn₂ hs₂ => ?_) (by rw [hk]; rfl))
    obtain ⟨F4, O4⟩ := F3.store (tk := tk₁ + 1) hn₂ hs₂
    have gr := ground F' hs' gI xI
    have st4 : St (i + 1) h₂ := W.frame _ _ _ hst₁ fun b hb ob e => hs₂.extBut b ob (gr b hb).1 e
    obtain ⟨oI, hoI⟩ := live _ _ st4
    refine wpAny_mono (turn i v m' X' g' hPv hlt hs' hinv _ F4) (fun f s₃ h₃ => ?_) fun _ _ x => x.elim
    obtain ⟨m'', X'', g'', F'', O'', hr⟩ := h₃
    have OO : Oth env.locals X g₁ s₁ X'' g'' s₃ := (O3.trans O4).trans O''
    cases f with
    | brk => exact ⟨m'', X'', g'', F'', OO, hr⟩
    | ret v => exact ⟨m'', X'', g'', F'', OO, hr⟩
    | next =>
      refine ⟨n + 1 - (i + 1), by omega, i + 1, m'', X'', g'', F'', OO, W.frame _ _ _ st4 fun b hb ob e => O''.keep b ob (gr b hb).1 (gr b hb).2 e, hr.2, hlt, rfl, O''.know _ _ hoI gI, fun p hp q => ?_, Sub.trans hs' hr.1⟩
      rcases O''.new p hp with ⟨r, hr', e'⟩ | e'
      · exact xI r hr' (e'.trans q)
      · rw [q, hoI] at e'; cases e'
    | cont =>
      refine ⟨n + 1 - (i + 1), by omega, i + 1, m'', X'', g'', F'', OO, W.frame _ _ _ st4 fun b hb ob e => O''.keep b ob (gr b hb).1 (gr b hb).2 e, hr.2, hlt, rfl, O''.know _ _ hoI gI, fun p hp q => ?_, Sub.trans hs' hr.1⟩
      rcases O''.new p hp with ⟨r, hr', e'⟩ | e'
      · exact xI r hr' (e'.trans q)
      · rw [q, hoI] at e'; cases e'
  · have hin : i = n := by omega
    subst hin
    refine W.done s' _ _ hst' fun h₁ tk₁ hk₁ => ?_
    exact wpAny_execs_nil ⟨m', X', g', hall (tk₁ := tk₁) hk₁ (.inr trivial), oth (tk₁ := tk₁) hk₁, fin m' X' g' hs' hinv⟩

theorem bx_for {x : Str} {px pos : Pos} {iter : Expr} {body : List Stmt} (n : Nat) (Pv : Nat → Value → Prop) (Inv : Nat → (Str → Option Value) → List (Addr × Obj) → Heap → Prop)
    (hl : env.locals = L) (hk : env.scope.kind = .function) (hx : env.kindOf x = some .local)
    (h : Ev (model prog w) A g L m env iter (fun xv g₁ => Src prog w A g₁ xv n Pv ∧ Inv 0 m X g₁ ∧
      (∀ i v m' X' g', Pv i v → i < n → Sub g₁ g' → Inv i m' X' g' → Bx (model prog w) A s₀ g₀ L (upd m' x v) X' g' (execs body env) (fun f m'' X'' g'' => match f with
        | .next | .cont => Sub g' g'' ∧ Inv (i + 1) m'' X'' g'' | .brk => R .next m'' X'' g'' | .ret v => R (.ret v) m'' X'' g'')) ∧
      (∀ m' X' g', Sub g₁ g' → Inv n m' X' g' → R .next m' X' g')))
    (hs : ∀ x, foldedSetIterable iter env x = pure x := by intro _; rfl) :
    Bx (model prog w) A s₀ g₀ L m X g (exec (.For (.Name x px) iter body [] pos) env) R := fun s F => by
  refine wpAny_For ((h s F.at).any fun xv s₁ g₁ k u hv => ?_) hs
  obtain ⟨S, h0, turn, fin⟩ := hv
  refine wpAny_mono (loop_run (E := fun _ _ => False) Inv hl hk hx (F.keeps k u) S h0 turn fin) (fun it s₂ hc => codeAny_mono hc fun r s' hr => ?_) fun _ _ x => x.elim
  cases r with
  | error e => exact hr
  | ok f => obtain ⟨m', X', g', F', O', hr'⟩ := hr; exact ⟨m', X', g', F', (Oth.keeps k u).trans O', hr'⟩
theorem bx_forX {x : Str} {px pos : Pos} {iter : Expr} {body : List Stmt} (n : Nat) (Pv : Nat → Value → Prop) (Inv : Nat → (Str → Option Value) → List (Addr × Obj) → Heap → Prop) (hnd : X.Pairwise fun p q => p.1 ≠ q.1)
    (hl : env.locals = L) (hk : env.scope.kind = .function) (hx : env.kindOf x = some .local)
    (h : ∀ gp, Sees g X gp → Ev (model prog w) A gp L m env iter (fun xv _ => Src prog w A g xv n Pv ∧ Inv 0 m X g ∧
      (∀ i v m' X' g', Pv i v → i < n → Sub g g' → Inv i m' X' g' → Bx (model prog w) A s₀ g₀ L (upd m' x v) X' g' (execs body env) (fun f m'' X'' g'' => match f with
        | .next | .cont => Sub g' g'' ∧ Inv (i + 1) m'' X'' g'' | .brk => R .next m'' X'' g'' | .ret v => R (.ret v) m'' X'' g'')) ∧
      (∀ m' X' g', Sub g g' → Inv n m' X' g' → R .next m' X' g')))
    (hs : ∀ x, foldedSetIterable iter env x = pure x := by intro _; rfl) :
    Bx (model prog w) A s₀ g₀ L m X g (exec (.For (.Name x px) iter body [] pos) env) R := fun s F => by
  obtain ⟨gp, p1, p2, p3, p4, p5⟩ := F.see hnd
  refine wpAny_For ((h gp ⟨p1, p2⟩ s ⟨p3, F.ns⟩).any fun xv s₁ g₁ k u hv => ?_) hs
  obtain ⟨S, h0, turn, fin⟩ := hv
  obtain ⟨F', O'⟩ := F.keeps' k
  refine wpAny_mono (loop_run (E := fun _ _ => False) Inv hl hk hx F' S h0 turn fin) (fun it s₂ hc => codeAny_mono hc fun r s' hr => ?_) fun _ _ x => x.elim
  cases r with
  | error e => exact hr
  | ok f => obtain ⟨m', X', g', F'', O'', hr'⟩ := hr; exact ⟨m', X', g', F'', O'.trans O'', hr'⟩

/-- y = [..], the store ahead of the block's end -/
theorem store_in {y : Str} {s₁ s' : Shared} {g₁ g' : Heap} {C D : Addr} {m₁ : Str → Option Value} {py : Pos} (F : Fm s₀ g₀ L m X g₁ s₁) (hl : env.locals = L) (hk : env.scope.kind = .function) (hy : env.kindOf y = some .local)
    (k : Keeps s₁ s') (u : Gr g₁ s₁ s' g') (hC : s₁.heap.get? C = none) (gC : g'.get? C = none) (hn : s'.heap.Ns C m₁) (hR : R .next (upd m y (.ref D)) X g') {E : Value → Shared → Prop} :
    wpAny (model prog w) A (assign (.Name y py) env (.ref D)) (fun _ s'' => ∃ m', s''.heap.Ns C m' ∧ ∀ h', Heap.SameBut C s''.heap h' → ∃ m' X' g', Fm s₀ g₀ L m' X' g' { s'' with heap := h' } ∧ Oth L X g₁ s₁ X' g' { s'' with heap := h' } ∧ R .next m' X' g') E s' := by
  subst hl
  have F' := F.keeps k u
  have hLC : env.locals ≠ C := fun q => by obtain ⟨o, ho⟩ := F.live; rw [q, hC] at ho; cases ho
  refine wpAny_assign_Name (wpAny_storeName_local hy F'.ns (fun h₂ hn₂ hs₂ => ?_) (by rw [hk]; rfl))
  obtain ⟨F'', O''⟩ := F'.store (tk := s'.toks + 1) hn₂ hs₂
  refine ⟨m₁, hn.sameBut hs₂ (Ne.symm hLC), fun h' hsb => ⟨_, X, g', ?_, ?_, hR⟩⟩
  · have C0 : s₀.heap.get? C = none := by
      cases e : s₀.heap.get? C with
      | none => rfl
      | some q => have := F.base _ _ e; rw [hC] at this; cases this
    refine ⟨?_, F''.ns.sameBut hsb hLC, fun b ob e => hsb.extBut b ob (fun q => by rw [q, C0] at e; cases e) (F''.base b ob e), F''.newL, fun b ob e => hsb.extBut b ob (fun q => by rw [q, gC] at e; cases e) (F''.sub b ob e), F''.off, F''.up, F''.fresh, fun p hp => ?_⟩
    · obtain ⟨h, t, e⟩ := F''.same; exact ⟨h', s'.toks + 1, by rw [Shared.mk.injEq] at e; exact (by rw [Shared.mk.injEq]; exact ⟨rfl, e.2.1, e.2.2.1, rfl, e.2.2.2.2⟩)⟩
    · obtain ⟨x1, x2, x3, x4⟩ := F''.own p hp
      refine ⟨hsb.extBut _ _ (fun q => ?_) x1, x2, x3, x4⟩
      have := (F.own p hp).1; rw [q, hC] at this; cases this
  · have OO := (Oth.keeps (L := env.locals) (X := X) k u).trans O''
    refine ⟨fun a ob h1 h2 e => hsb.extBut a ob (fun q => by rw [q, hC] at e; cases e) (OO.keep a ob h1 h2 e), fun a ob e => ?_, OO.new, OO.know⟩
    obtain ⟨ob', e'⟩ := OO.alive a ob e
    exact ⟨ob', hsb.extBut a ob' (fun q => by rw [q, hC] at e; cases e) e'⟩
end
end Mine
end
section
open PySem PySem.W PyProof.Rows
set_option Elab.async false
set_option maxRecDepth 100000
set_option linter.unusedVariables false
namespace Mine
section
variable {prog : Program} {w : World} {A : Around} {s₀ : Shared} {g₀ g : Heap} {L : Addr} {m : Str → Option Value} {X : List (Addr × Obj)} {env : Env} {R : Flow → (Str → Option Value) → List (Addr × Obj) → Heap → Prop}
theorem bx_comp {y : Str} {py spos : Pos} {elt iter : Expr} {x : Str} {px : Pos} {ifs : List Expr} {scope : Scope} {cl : List (Str × Addr)} {pos : Pos} (n : Nat) (Pv : Nat → Value → Prop) (p : Value → Bool) (F : Value → Value → Heap → Prop)
    (hmono : ∀ v y g g', Sub g g' → F v y g → F v y g')
    (hl : env.locals = L) (hk : env.scope.kind = .function) (hy : env.kindOf y = some .local)
    (hsw : swapsWith (.ListComp elt [⟨.Name x px, iter, ifs, 0⟩] scope pos) (some (.Name y py)) spos.line env = pure true)
    (hclos : closureFor scope env = pure cl) (hcell : ∀ y ∈ scope.names, y.2 ≠ .cell) (hkind : scope.kind = .function) (hnames : ∀ y ∈ scope.names, y.2 = .local → scope.names.lookup y.1 = some .local) (hx : scope.names.lookup x = some .local)
    (hs : ∀ x, foldedSetIterable iter env x = pure x)
    (h : Ev (model prog w) A g L m env iter (fun xv g₁ => Src prog w A g₁ xv n Pv ∧ n ≤ sizeLine ∧
      (∀ i v g' C m', Pv i v → Sub g₁ g' → m' x = some v → Tr (model prog w) A g' C m' (testsOf ifs (cblk scope cl C env)) (fun ok _ => ok = p v)) ∧
      (∀ i v g' C m', Pv i v → p v = true → Sub g₁ g' → m' x = some v → Ev (model prog w) A g' C m' (cblk scope cl C env) elt (fun y g'' => F v y g'')) ∧
      (∀ D ys (vs : List Value) g', Sub g₁ g' → g₁.get? D = none → vs.length = n → (∀ j v, vs[j]? = some v → Pv j v) → Paired (fun v y => F v y g') (vs.filter p) ys.toList → g'.PlainList D ys → R .next (upd m y (.ref D)) X g'))) :
    Bx (model prog w) A s₀ g₀ L m X g (exec (.Assign [.Name y py] (.ListComp elt [⟨.Name x px, iter, ifs, 0⟩] scope pos) spos) env) R := fun s Fr => by
  show wpAny _ _ (exec _ env) _ _ _
  rw [exec_Assign_Name_used _ _ _ _ hsw]
  refine wpAny_bind (wpAny_standAt (wpAny_bind ?_))
  show wpAny _ A (do let _ ← comprehension (.ListComp elt [⟨.Name x px, iter, ifs, 0⟩] scope pos) scope env _ (newList []) false (eval iter env) (some (assign (.Name y py) env))) _ _ s
  refine wpAny_bind (wpAny_mono (wpAny_comprehension_free (use := some (assign (.Name y py) env)) (Q := fun _ s' => ∃ m' X' g', Fm s₀ g₀ L m' X' g' s' ∧ Oth L X g s X' g' s' ∧ R .next m' X' g') rfl hs hclos hkind hnames
    ((h s Fr.at).any fun xv s₁ g₁ k₁ u₁ hv => ?_)) (fun _ s' hq => wpAny_pure (wpAny_pure hq)) fun _ _ e => e)
  obtain ⟨S, hsz, ht, he, hR⟩ := hv
  have F₁ := Fr.keeps k₁ u₁
  refine block_run S u₁.sub hsz p F hmono (RR := fun acc C => compPost (model prog w) A _ (some (assign (.Name y py) env)) _ acc C) hcell hkind hx ht he fun D C s' m' ys vs g' k₂ u₂ hD hC hDC gC hn hll hlen hP hF => ?_
  refine wpAny_mono (store_in (R := R) F₁ hl hk hy k₂ u₂ hC gC hn (hR D ys vs g' u₂.up ?_ hlen hP hF hll)) (fun _ s'' h'' => ?_) fun _ _ e => e
  · cases q : g₁.get? D with
    | none => rfl
    | some ob => rw [u₁.sub _ _ q] at hD; cases hD
  · obtain ⟨mm, hnn, hh⟩ := h''
    refine ⟨mm, hnn, fun h' hsb => ?_⟩
    obtain ⟨a, b, c, d, e, f⟩ := hh h' hsb
    exact ⟨a, b, c, d, (Oth.keeps k₁ u₁).trans e, f⟩
theorem bx_compC {y : Str} {py spos : Pos} {elt iter : Expr} {x : Str} {px : Pos} {ifs : List Expr} {scope : Scope} {cl : List (Str × Addr)} {pos : Pos} (n : Nat) (Pv : Nat → Value → Prop) (p : Value → Bool) (F : Value → Value → Prop)
    (hl : env.locals = L) (hk : env.scope.kind = .function) (hy : env.kindOf y = some .local)
    (hsw : swapsWith (.ListComp elt [⟨.Name x px, iter, ifs, 0⟩] scope pos) (some (.Name y py)) spos.line env = pure true)
    (hclos : closureFor scope env = pure cl) (hpc : ∀ h, pushCells h scope.names = h.push { cls := .type "cell", data := .cell none }) (hcl : ∀ n, (cellsFrom n scope.names cl).lookup x = some n)
    (hkind : scope.kind = .function) (hnames : ∀ y ∈ scope.names, y.2 = .local → scope.names.lookup y.1 = some .local) (hx : (relabel scope env).names.lookup x = some .cell)
    (hs : ∀ x, foldedSetIterable iter env x = pure x)
    (h : Ev (model prog w) A g L m env iter (fun xv g₁ => Src prog w A g₁ xv n Pv ∧ n ≤ sizeLine ∧
      (∀ i v g' C m', Pv i v → Sub g₁ g' → g'.IsCell (C + 1) (some v) → Tr (model prog w) A g' C m' (testsOf ifs (cblk scope cl C env)) (fun ok _ => ok = p v)) ∧
      (∀ i v g' C m', Pv i v → p v = true → Sub g₁ g' → g'.IsCell (C + 1) (some v) → Ev (model prog w) A g' C m' (cblk scope cl C env) elt (fun y _ => F v y)) ∧
      (∀ D ys (vs : List Value) g', Sub g₁ g' → g₁.get? D = none → vs.length = n → (∀ j v, vs[j]? = some v → Pv j v) → Paired F (vs.filter p) ys.toList → g'.PlainList D ys → R .next (upd m y (.ref D)) X g'))) :
    Bx (model prog w) A s₀ g₀ L m X g (exec (.Assign [.Name y py] (.ListComp elt [⟨.Name x px, iter, ifs, 0⟩] scope pos) spos) env) R := fun s Fr => by
  show wpAny _ _ (exec _ env) _ _ _
  rw [exec_Assign_Name_used _ _ _ _ hsw]
  refine wpAny_bind (wpAny_standAt (wpAny_bind ?_))
  show wpAny _ A (do let _ ← comprehension (.ListComp elt [⟨.Name x px, iter, ifs, 0⟩] scope pos) scope env _ (newList []) false (eval iter env) (some (assign (.Name y py) env))) _ _ s
  refine wpAny_bind (wpAny_mono (wpAny_comprehension_free (use := some (assign (.Name y py) env)) (Q := fun _ s' => ∃ m' X' g', Fm s₀ g₀ L m' X' g' s' ∧ Oth L X g s X' g' s' ∧ R .next m' X' g') rfl hs hclos hkind hnames
    ((h s Fr.at).any fun xv s₁ g₁ k₁ u₁ hv => ?_)) (fun _ s' hq => wpAny_pure (wpAny_pure hq)) fun _ _ e => e)
  obtain ⟨S, hsz, ht, he, hR⟩ := hv
  have F₁ := Fr.keeps k₁ u₁
  refine block_runC S u₁.sub hsz p F (RR := fun acc C => compPost (model prog w) A _ (some (assign (.Name y py) env)) _ acc C) hpc hcl hkind hx ht he fun D C s' m' ys vs g' k₂ u₂ hD hC hDC gC hn hll hlen hP hF => ?_
  refine wpAny_mono (store_in (R := R) F₁ hl hk hy k₂ u₂ hC gC hn (hR D ys vs g' u₂.up ?_ hlen hP hF hll)) (fun _ s'' h'' => ?_) fun _ _ e => e
  · cases q : g₁.get? D with
    | none => rfl
    | some ob => rw [u₁.sub _ _ q] at hD; cases hD
  · obtain ⟨mm, hnn, hh⟩ := h''
    refine ⟨mm, hnn, fun h' hsb => ?_⟩
    obtain ⟨a, b, c, d, e, f⟩ := hh h' hsb
    exact ⟨a, b, c, d, (Oth.keeps k₁ u₁).trans e, f⟩
end

/-- what a def hands back -/
def flowV : Flow → Value
  | .ret v => v
  | _ => .none
/-- the known heap with the own objects, at a call's end -/
abbrev Ends (P : Value → Heap → Prop) (f : Flow) (_m : Str → Option Value) (X : List (Addr × Obj)) (g : Heap) : Prop := (X.Pairwise fun p q => p.1 ≠ q.1) ∧ ∀ g', Sub g g' → (∀ p ∈ X, g'.get? p.1 = some p.2) → P (flowV f) g'

section
variable {prog : Program} {w : World} {A : Around} {g : Heap} {K : Frag}
theorem Fm.end {s₀ s : Shared} {g₀ : Heap} {L : Addr} {m : Str → Option Value} {X : List (Addr × Obj)} {P : Value → Heap → Prop} {f : Flow} (F : Fm s₀ g₀ L m X g s) (h : Ends P f m X g) : Keeps s₀ s ∧ ∃ g', Gr g₀ s₀ s g' ∧ P (flowV f) g' := by
  obtain ⟨hnd, h⟩ := h
  obtain ⟨gp, p1, p2, p3, p4, p5⟩ := F.see hnd
  refine ⟨?_, gp, ⟨Sub.trans F.up p1, p3, fun a o e => ?_⟩, h gp p1 p2⟩
  · obtain ⟨h, tk, rfl⟩ := F.same; exact ⟨h, tk, rfl, F.base⟩
  · rw [p5 a (fun p hp q => by have := (F.own p hp).2.2.2; rw [q, e] at this; cases this)]
    exact F.fresh a o e

/-- a def without cells is called -/
theorem op_fun {name qual : Str} {params : Arguments} {body : List Stmt} {scope : Scope} {dV kV doc pm cdv ct oc : Value} {an od : Option Addr} {osl : Array (Option Value)} {f : Addr} {args : List Value} {binds : List (Str × Value)} {P : Value → Heap → Prop}
    (X : K.In g) (hlim : g.NoLimit) (ho : K.lookup f = some ⟨oc, od, .func (fnOf name qual params body scope dV kV doc pm an cdv ct), osl⟩) (hcd : codeIn K cdv qual = true) (hroom : A.depth < recursionLimit)
    (hbind : ∀ s : Shared, Sub g s.heap → BindsTo s (fnOf name qual params body scope dV kV doc pm an cdv ct) ⟨args, []⟩ binds) (hloc : ∀ y ∈ binds, scope.names.lookup y.1 = some .local)
    (hcell : ∀ x ∈ scope.names, x.2 ≠ .cell) (hco : scope.isCoroutine = false) (hgen : scope.isGenerator = false) (hk : scope.kind = .function)
    (h : ∀ s₀ L, Sub g s₀.heap → Bx (model prog w) (A.deeper (envOf qual scope L f cdv)) s₀ g L (fun y => binds.reverse.lookup y) [] g (execs body (envOf qual scope L f cdv)) (Ends P)) :
    Op (model prog w) A g (call (.ref f) args) P := fun s hs => by
  refine wpAny_call (codeAny_call_def (fd := fnOf name qual params body scope dV kV doc pm an cdv ct) (body := body) (binds := binds) hroom (hs _ _ (X _ _ ho)) rfl (hlim.keeps hs) (codeRec_of (X.keeps hs) hcd) rfl (hbind s hs) hcell hloc (fun h₁ hns hk₁ => ?_) hco hgen hk)
  have F : Fm s g s.heap.objs.size (fun y => binds.reverse.lookup y) [] g { s with heap := h₁, toks := s.toks + binds.length } :=
    ⟨⟨h₁, _, rfl⟩, hns, hk₁, fresh_size _, Sub.trans hs hk₁, new_none hs, fun _ _ e => e, fun _ _ _ => rfl, fun p hp => (nomatch hp)⟩
  refine wpAny_mono (h s s.heap.objs.size hs _ F) (fun fl s' h' => ?_) fun _ _ x => x.elim
  obtain ⟨m', X', g', F', O', hr⟩ := h'
  have := F'.end hr
  cases fl <;> exact this

/-- a def whose cells are parameters is called: the cells are known -/
theorem op_funC {name qual : Str} {params : Arguments} {body : List Stmt} {scope : Scope} {dV kV doc pm cdv ct oc : Value} {an od : Option Addr} {osl : Array (Option Value)} {f : Addr} {args : List Value} {binds : List (Str × Value)} {P : Value → Heap → Prop}
    (X : K.In g) (hlim : g.NoLimit) (ho : K.lookup f = some ⟨oc, od, .func (fnOf name qual params body scope dV kV doc pm an cdv ct), osl⟩) (hcd : codeIn K cdv qual = true) (hroom : A.depth < recursionLimit)
    (hbind : bindArgs (fnOf name qual params body scope dV kV doc pm an cdv ct) ⟨args, []⟩ = pure binds) (hkind : (binds.all fun y => scope.names.lookup y.1 == some .local || scope.names.lookup y.1 == some .cell) = true)
    (hco : scope.isCoroutine = false) (hgen : scope.isGenerator = false) (hk : scope.kind = .function)
    (h : ∀ s₀ L g₁, Sub g s₀.heap → Sub g g₁ → (∀ n c, (cellsFrom (L + 1) scope.names []).lookup n = some c → g₁.IsCell c (bindC (envX qual scope L f cdv (cellsFrom (L + 1) scope.names [])).kindOf binds (fun _ => none) n)) →
      Bx (model prog w) (A.deeper (envX qual scope L f cdv (cellsFrom (L + 1) scope.names []))) s₀ g L (bindL (envX qual scope L f cdv (cellsFrom (L + 1) scope.names [])).kindOf binds fun _ => none) [] g₁ (execs body (envX qual scope L f cdv (cellsFrom (L + 1) scope.names []))) (Ends P)) :
    Op (model prog w) A g (call (.ref f) args) P := fun s hs => by
  refine wpAny_call (codeAny_call_cells (fd := fnOf name qual params body scope dV kV doc pm an cdv ct) (body := body) (binds := binds) hroom (hs _ _ (X _ _ ho)) rfl (hlim.keeps hs) (codeRec_of (X.keeps hs) hcd) rfl hbind rfl (kindsX hkind _) (fun s₁ hc => ?_) hco hgen hk)
  have hin := hc.toInCall
  obtain ⟨h₁, tk₁, rfl⟩ := hin.same
  have hL0 : s.heap.get? s.heap.objs.size = none := fresh_size _
  have nL : (callEnvC (fnOf name qual params body scope dV kV doc pm an cdv ct) s.heap.objs.size f).locals = s.heap.objs.size := rfl
  obtain ⟨g₁, eg⟩ := exists_heap h₁.objs.size (fun a => if a = s.heap.objs.size then none else if s.heap.get? a = none then h₁.get? a else g.get? a) (fun i o q => by
    split at q
    · cases q
    · split at q
      · exact ⟨Heap.lt_size q, (Heap.get?_some_iff.mp q).2⟩
      · exact ⟨Heap.lt_size (hin.keep _ _ (hs _ _ q)), (Heap.get?_some_iff.mp q).2⟩)
  have up₁ : Sub g g₁ := fun b o e => by
    rw [eg, if_neg (fun q => by rw [q, new_none hs] at e; cases e), if_neg (by rw [hs _ _ e]; exact fun q => nomatch q)]; exact e
  have sub₁ : Sub g₁ h₁ := fun b o e => by
    rw [eg] at e
    split at e
    · cases e
    · split at e
      · exact e
      · exact hin.keep _ _ (hs _ _ e)
  have F : Fm s g s.heap.objs.size (bindL (envX qual scope s.heap.objs.size f cdv (cellsFrom (s.heap.objs.size + 1) scope.names [])).kindOf binds fun _ => none) [] g₁ { s with heap := h₁, toks := tk₁ } :=
    ⟨⟨h₁, _, rfl⟩, hin.ns, hin.keep, hL0, sub₁, by rw [eg, if_pos rfl], up₁, fun a o e => by
      rw [eg, if_neg (fun q => by rw [q, hL0] at e; cases e), if_neg (by rw [e]; exact fun q => nomatch q)], fun p hp => (nomatch hp)⟩
  refine wpAny_mono (h s s.heap.objs.size g₁ hs up₁ (fun n c hl => ?_) _ F) (fun fl s' h' => ?_) fun _ _ x => x.elim
  · obtain ⟨o, ho', hd'⟩ := hc.cell n c hl
    have hgt : s.heap.objs.size < c := hc.above n c (mem_of_lookup hl)
    refine ⟨o, ?_, hd'⟩
    rw [eg, if_neg (Nat.ne_of_gt hgt), if_pos (Heap.get?_none_of_le (Nat.le_of_lt hgt))]
    exact ho'
  · obtain ⟨m', X', g', F', O', hr⟩ := h'
    have := F'.end hr
    cases fl <;> exact this
end
end Mine
end
section
open PySem PySem.W PyProof.Rows PySem.Calls Builtin Builtin.ObjectAttr
set_option Elab.async false
set_option maxRecDepth 100000
set_option linter.unusedVariables false
namespace Mine
theorem instAt_up {h h' : Heap} {x C : Addr} {ox : Obj} {od : Option Obj} (I : InstAt h x ox C od) (u : Sub h h') : InstAt h' x ox C od := by
  refine ⟨u _ _ I.at_, I.cls, I.no, ?_⟩
  have := I.dict
  revert this
  cases ox.dict <;> cases od <;> intro q <;> first | exact q | exact u _ _ q
section
variable {prog : Program} {w : World} {A : Around} {K : Frag} {x C dx : Addr} {ox : Obj} {es es' : List DictEntry} {n n' : Nat} {name : Str} {v : Value}
/-- self.name = v: the dict alone is turned -/
theorem set_same {s : Shared} {E : Value → Shared → Prop} {Q : Unit → Shared → Prop} (X : K.In s.heap) (I : InstAt s.heap x ox C (some (dictOf es n))) (hd : ox.dict = some dx)
    (hs : findIn K (.ref C) "__setattr__" = some (some (.builtin "object.__setattr__"))) (hp : plainOver K C = true) (ht : takerIn K C name = some none) (hh : hasDictIn K C = true) (hl : (getL name es).isSome = true)
    (e : (putL name (PyData.keyHash w.params name) (.str name (s.toks + 1)) v es, putN name es n) = (es', n')) (hz : es'.length ≤ 1000)
    (h : ∀ h', Heap.SameBut dx s.heap h' → h'.get? dx = some (dictOf es' n') → Q () { s with heap := h', toks := s.toks + 2 }) :
    wpAny (model prog w) A (setAttr (.ref x) name v) Q E s := by
  obtain ⟨e1, e2⟩ := Prod.mk.inj e
  refine set_plain X I hs (osa_open (s := { s with toks := s.toks + 1 }) X I hp ht fun b => ?_)
  obtain ⟨cd, hc, hd'⟩ := any_some hh
  obtain ⟨hx, hcl, hn, hdd⟩ := I
  obtain ⟨oc, odi, oda, osl⟩ := ox
  dsimp only at hcl hd hdd
  subst hcl hd
  have D : s.heap.get? dx = some (dictOf es n) := hdd
  have ep : Obj.putName name (PyData.keyHash w.params name) (.str name (s.toks + 1)) v (dictOf es n) = dictOf es' n' := by rw [putName_dict, e1, e2]
  refine wpAny_bind (wpAny_pure (wpAny_bind (wpAny_bind (wpAny_loadPart hx (wpAny_bind (looks_clsIn X hc _ _ _ _ (fun _ _ e => e) ?_))))))
  rw [hd']
  refine wpAny_pure (a := some dx) (wpAny_bind (wpAny_pure (wpAny_bind ?_)))
  unfold nsSet
  refine wpAny_bind (wpAny_bind (wpAny_askSetting (wpAny_pure (wpAny_bind (wpAny_mkText (wpAny_bind (wpAny_loadPart D ?_)))))))
  dsimp only
  have c : (!es.toArray.any (·.key.isStr name) && es.toArray.any (·.refKey)) = false := by
    unfold getL at hl
    rw [← Array.any_toList, ← Array.any_toList]
    split at hl
    · rename_i en he
      rw [List.any_eq_true.mpr ⟨en, List.mem_of_find?_eq_some he, List.find?_some he⟩]; rfl
    · split at hl
      · cases hl
      · rename_i z; rw [Bool.not_eq_true] at z; rw [z, Bool.and_false]
  rw [aRefKeyMayBeTheName_at, c]
  refine wpAny_updatePart D ?_
  have D' : (s.heap.update dx (Obj.putName name (PyData.keyHash w.params name) (.str name (s.toks + 1)) v)).get? dx = some (dictOf es' n') := by
    rw [← ep]; exact Heap.get?_update_self _ D (by rw [ep]; rfl)
  refine wpAny_bind (wpAny_lookBehind D' (pastItsLine_dict (by rw [List.size_toArray, sizeLine_eq]; omega)) ?_)
  exact wpAny_pure (h _ (Heap.SameBut.update ..) D')
end
section
variable {prog : Program} {w : World} {A : Around} {g : Heap} {K : Frag} {x C : Addr} {ox : Obj} {es : List DictEntry} {n : Nat} {name : Str} {v : Value}
theorem op_getown {expr : Bool} {attr : Option Value} {P : Value → Heap → Prop} (X : K.In g) (I : InstAt g x ox C (some (dictOf es n))) (hg : plainGet K C name = true) (hh : hasDictIn K C = true)
    (ha : findIn K (.ref C) name = some attr) (hn : noGet K attr = true) (hl : getL name es = some (some v)) (hv : handedIn v = true) (h : P v g) : Op (model prog w) A g (getAttr (.ref x) name expr) P :=
  .of fun s hs => get_value (X.keeps hs) (instAt_up I hs) (plainGet_of hg).1 (findObj_own hh ha hn hl) hv ⟨keeps_toks s _, h⟩
theorem op_getcls {mc : Value} {expr : Bool} {P : Value → Heap → Prop} (X : K.In g) (hr : readsIn K C mc = true) (e : findCls K (.ref C) mc name = some (.val v)) (hh : handedIn v = true) (h : P v g) : Op (model prog w) A g (getAttr (.ref C) name expr) P :=
  .of fun s hs => cls_value (X.keeps hs) hr e hh ⟨keeps_toks s _, h⟩
theorem op_meth {f : Addr} {pl : Sem Bool} {P : Value × List Value → Heap → Prop} (X : K.In g) (I : InstAt g x ox C (some (dictOf es n))) (hg : plainGet K C name = true)
    (hf : findIn K (.ref C) name = some (some (.ref f))) (ht : isFn K (.ref f) = true) (hl : getL name es = some none) (h : P (.ref f, [.ref x]) g) : Op (model prog w) A g (getMethod (.ref x) name pl) P :=
  .of fun s hs => method_fn (X.keeps hs) (instAt_up I hs) (plainGet_of hg).1 (plainGet_of hg).2 hf (beq_iff_eq.mp ht) (by show (lookIn name (dictOf es n)).map _ = _; rw [lookIn_dict, hl]; rfl) ⟨keeps_refl s, h⟩
end
end Mine
end
section
open PySem PySem.W PyProof.Rows
set_option Elab.async false
set_option maxRecDepth 100000
set_option linter.unusedVariables false
namespace Mine
section
variable {prog : Program} {w : World} {A : Around} {s₀ : Shared} {g₀ g : Heap} {L : Addr} {m : Str → Option Value} {X : List (Addr × Obj)} {env : Env} {R : Flow → (Str → Option Value) → List (Addr × Obj) → Heap → Prop}
theorem unpack2 {s : Shared} {t : Addr} {x y : Value} {Q : List Value → Shared → Prop} {E : Value → Shared → Prop} (hh : A.handled = none) (ht : IsTup s.heap t #[x, y])
    (h : ∀ s', Keeps s s' → Q [x, y] s') : wpAny (model prog w) A (unpackItems (.ref t) 2 none) Q E s := by
  have := unpackItems_tuple (prog := prog) (w := w) (Q := Q) (E := E) hh ht fun h' he => h { s with heap := h' } ⟨h', s.toks, rfl, fun b o e => he b o (fun q => by rw [q, fresh_size] at e; cases e) e⟩
  exact this
/-- a, b = a pair -/
theorem bx_pair {a b : Str} {pa pb tpos pos : Pos} {k : Nat} {e : Expr} (hh : A.handled = none) (hl : env.locals = L) (hk : env.scope.kind = .function) (ha : env.kindOf a = some .local) (hb : env.kindOf b = some .local)
    (h : Ev (model prog w) A g L m env e (fun v g' => ∃ t x y, v = .ref t ∧ IsTup g' t #[x, y] ∧ R .next (upd (upd m a x) b y) X g'))
    (hs : swapsWithSole [.Tuple [.Name a pa, .Name b pb] k tpos] e pos.line env = pure false := by rfl)
    (hw : swappedStores [.Tuple [.Name a pa, .Name b pb] k tpos] e env = pure none := by rfl) :
    Bx (model prog w) A s₀ g₀ L m X g (exec (.Assign [.Tuple [.Name a pa, .Name b pb] k tpos] e pos) env) R := fun s F => by
  subst hl
  refine Assign_Tuple ((h s F.at).any fun v s₁ g₁ k₁ u₁ hv => ?_) hs hw
  obtain ⟨t, x, y, rfl, ht, hR⟩ := hv
  have F₁ := F.keeps k₁ u₁
  show wpAny _ _ (do standAt tpos; unpack (.ref t) [(false, assign (.Name a pa) env), (false, assign (.Name b pb) env)]) _ _ _
  refine wpAny_bind (wpAny_standAt ?_)
  unfold unpack
  refine wpAny_bind (wpAny_holding (unpack2 hh (by obtain ⟨o, ho, r⟩ := ht; exact ⟨o, u₁.sub _ _ ho, r⟩) fun s₂ k₂ => ?_))
  have F₂ := F₁.keeps k₂ (Gr.same F₁.sub k₂)
  show wpAny _ _ (do holding [y] (assign (.Name a pa) env x); (do holding [] (assign (.Name b pb) env y); pure ())) _ _ _
  refine wpAny_bind (wpAny_holding (wpAny_assign_Name (wpAny_storeName_local ha F₂.ns (fun h₃ hn₃ hs₃ => ?_) (by rw [hk]; rfl))))
  obtain ⟨F₃, O₃⟩ := F₂.store (tk := s₂.toks + 1) hn₃ hs₃
  refine wpAny_bind (wpAny_holding (wpAny_assign_Name (wpAny_storeName_local hb F₃.ns (fun h₄ hn₄ hs₄ => ?_) (by rw [hk]; rfl))))
  obtain ⟨F₄, O₄⟩ := F₃.store (tk := s₂.toks + 1 + 1) hn₄ hs₄
  exact wpAny_pure ⟨_, X, g₁, F₄, (((Oth.keeps k₁ u₁).trans (Oth.keeps k₂ (Gr.same F₁.sub k₂))).trans O₃).trans O₄, hR⟩
/-- a, b = x, y, the stores from behind -/
theorem bx_pairS {a b : Str} {pa pb tpos pos : Pos} {k : Nat} {e : Expr} (hnd : X.Pairwise fun p q => p.1 ≠ q.1) (hh : A.handled = none) (hl : env.locals = L) (hk : env.scope.kind = .function) (ha : env.kindOf a = some .local) (hb : env.kindOf b = some .local)
    (h : ∀ gp, Sees g X gp → Ev (model prog w) A gp L m env e (fun v g' => ∃ t x y, v = .ref t ∧ IsTup g' t #[x, y] ∧ R .next (upd (upd m b y) a x) X g))
    (hs : swapsWithSole [.Tuple [.Name a pa, .Name b pb] k tpos] e pos.line env = pure false := by rfl)
    (hw : swappedStores [.Tuple [.Name a pa, .Name b pb] k tpos] e env = pure (some [a, b]) := by rfl) :
    Bx (model prog w) A s₀ g₀ L m X g (exec (.Assign [.Tuple [.Name a pa, .Name b pb] k tpos] e pos) env) R := fun s F => by
  subst hl
  obtain ⟨gp, p1, p2, p3, p4, p5⟩ := F.see hnd
  refine Assign_Tuple_swapped ((h gp ⟨p1, p2⟩ s ⟨p3, F.ns⟩).any fun v s₁ g₁ k₁ u₁ hv => ?_) hs hw
  obtain ⟨t, x, y, rfl, ht, hR⟩ := hv
  obtain ⟨F₁, O₁⟩ := F.keeps' k₁
  refine unpack2 hh (by obtain ⟨o, ho, r⟩ := ht; exact ⟨o, u₁.sub _ _ ho, r⟩) fun s₂ k₂ => ?_
  obtain ⟨F₂, O₂⟩ := F₁.keeps' k₂
  show wpAny _ _ (do holding [x] (bindName env b y); (do holding [] (bindName env a x); pure ())) _ _ _
  refine wpAny_bind (wpAny_holding (wpAny_bindName (wpAny_storeName_local hb F₂.ns (fun h₃ hn₃ hs₃ => ?_) (by rw [hk]; rfl))))
  obtain ⟨F₃, O₃⟩ := F₂.store (tk := s₂.toks + 1) hn₃ hs₃
  refine wpAny_bind (wpAny_holding (wpAny_bindName (wpAny_storeName_local ha F₃.ns (fun h₄ hn₄ hs₄ => ?_) (by rw [hk]; rfl))))
  obtain ⟨F₄, O₄⟩ := F₃.store (tk := s₂.toks + 1 + 1) hn₄ hs₄
  exact wpAny_pure ⟨_, X, g, F₄, ((O₁.trans O₂).trans O₃).trans O₄, hR⟩
/-- a = b = c = e -/
theorem bx_three {a b c : Str} {pa pb pc pos : Pos} {e : Expr} (hl : env.locals = L) (hk : env.scope.kind = .function) (ha : env.kindOf a = some .local) (hb : env.kindOf b = some .local) (hc : env.kindOf c = some .local)
    (h : Ev (model prog w) A g L m env e (fun v g' => R .next (upd (upd (upd m a v) b v) c v) X g'))
    (hw : swappedStores [.Name a pa, .Name b pb, .Name c pc] e env = pure none := by rfl) :
    Bx (model prog w) A s₀ g₀ L m X g (exec (.Assign [.Name a pa, .Name b pb, .Name c pc] e pos) env) R := fun s F => by
  subst hl
  refine wpAny_Assign_three ((h s F.at).any fun v s₁ g₁ k₁ u₁ hR => ?_) rfl hw
  have F₁ := F.keeps k₁ u₁
  refine wpAny_assign_Name (wpAny_storeName_local ha F₁.ns (fun h₂ hn₂ hs₂ => ?_) (by rw [hk]; rfl))
  obtain ⟨F₂, O₂⟩ := F₁.store (tk := s₁.toks + 1) hn₂ hs₂
  refine wpAny_assign_Name (wpAny_storeName_local hb F₂.ns (fun h₃ hn₃ hs₃ => ?_) (by rw [hk]; rfl))
  obtain ⟨F₃, O₃⟩ := F₂.store (tk := s₁.toks + 1 + 1) hn₃ hs₃
  refine wpAny_assign_Name (wpAny_storeName_local hc F₃.ns (fun h₄ hn₄ hs₄ => ?_) (by rw [hk]; rfl))
  obtain ⟨F₄, O₄⟩ := F₃.store (tk := s₁.toks + 1 + 1 + 1) hn₄ hs₄
  exact ⟨_, X, g₁, F₄, (((Oth.keeps k₁ u₁).trans O₂).trans O₃).trans O₄, hR⟩
/-- xs.append(e), xs an own list -/
theorem bx_append {pl : Sem Bool} {o : Str} {po apos cpos pos : Pos} {e : Expr} {D : Addr} {ys : Array Value} {n : Nat} {pre post : List (Addr × Obj)} (hnd : (pre ++ (D, ({ cls := .type "list", data := .seq ys n } : Obj)) :: post).Pairwise fun p q => p.1 ≠ q.1)
    (hl : env.locals = L) (hk : env.scope.kind = .function) (ho : env.kindOf o = some .local) (hv : m o = some (.ref D)) (hsz : ys.size ≤ sizeLine)
    (h : ∀ gp, Sees g (pre ++ (D, { cls := .type "list", data := .seq ys n }) :: post) gp → Ev (model prog w) A gp L m env e (fun y _ => ∀ n', R .next m (pre ++ (D, { cls := .type "list", data := .seq (ys.push y) n' }) :: post) g))
    (he : eval (.Call (.Attribute (.Name o po) "append" apos) [e] [] cpos) env = (do
      let ov ← eval (.Name o po) env
      standAt apos.atName
      let (f, first) ← holding [ov] (getMethod ov "append" pl)
      callWith cpos f first (backTo cpos (starEach [e] env)) (backToKw cpos (keywordEach [] env))) := by rfl)
    (hse : starEach [e] env = (false, eval e env) :: starEach [] env := by rfl)
    (hd : (o == ("__debug__" : Str)) = false := by decide)
    (hi : interactive env = false := by rfl) (hs : swapsWith (.Call (.Attribute (.Name o po) "append" apos) [e] [] cpos) none pos.line env = pure false := by rfl) :
    Bx (model prog w) A s₀ g₀ L m (pre ++ (D, { cls := .type "list", data := .seq ys n }) :: post) g (exec (.Expr (.Call (.Attribute (.Name o po) "append" apos) [e] [] cpos) pos) env) R := fun s F => by
  subst hl
  obtain ⟨gp, p1, p2, p3, p4, p5⟩ := F.see hnd
  have hmem : (D, ({ cls := .type "list", data := .seq ys n } : Obj)) ∈ pre ++ (D, { cls := .type "list", data := .seq ys n }) :: post := List.mem_append_right _ (.head _)
  refine wpAny_Expr (methodCall_KW (wpAny_Name (wpAny_loadName_local hk ho F.ns hv ?_) hd) he) hi hs
  have hD := (F.own _ hmem).1
  refine Calls.getMethod_list_append hD rfl rfl ?_
  refine Calls.callWith_builtin (by rw [hse]; rfl) ?_
  have hargs := args_of (f := .builtin "list.append") (pos := cpos) (e := e) (rest := []) (R := fun vs _ => ∃ y, vs = [y] ∧ ∀ n', R .next m (pre ++ (D, { cls := .type "list", data := .seq (ys.push y) n' }) :: post) g)
    (evL_cons ((h gp ⟨p1, p2⟩).imp fun y g' _ hy => evL_nil ⟨y, rfl, hy⟩) hse) hse
  refine (hargs s ⟨p3, F.ns⟩).any fun a s₁ g₁ k₁ u₁ ha => ?_
  obtain ⟨ekw, y, epos, hR⟩ := ha
  rw [ekw, epos]
  obtain ⟨F₁, O₁⟩ := F.keeps' k₁
  have hD₁ := (F₁.own _ hmem).1
  refine wpAny_list_append_plain (hsz := hsz) ⟨n, hD₁⟩ fun h' hp hsb => ?_
  obtain ⟨n', hD'⟩ := hp
  obtain ⟨F₂, O₂⟩ := F₁.turn (tk := s₁.toks) hnd hsb hD'
  exact ⟨_, _, g, F₂, O₁.trans O₂, hR n'⟩
/-- xs[i] = e, xs an own list -/
theorem bx_setitem {x : Str} {i e : Expr} {po spos pos : Pos} {D : Addr} {o : Obj} {ys : Array Value} {pre post : List (Addr × Obj)} (hnd : (pre ++ (D, o) :: post).Pairwise fun p q => p.1 ≠ q.1) (hc : o.cls = .type "list") (hdat : ∃ n, o.data = .seq ys n)
    (hl : env.locals = L) (hk : env.scope.kind = .function) (ho : env.kindOf x = some .local) (hv : m x = some (.ref D))
    (h : ∀ gp, Sees g (pre ++ (D, o) :: post) gp → Ev (model prog w) A gp L m env e (fun y g₁ => Ev (model prog w) A g₁ L m env i (fun iv _ => ∃ k t, iv = .int k t ∧ 0 ≤ k ∧ k < ys.size ∧ k < 2 ^ 63 ∧
      ∀ o' : Obj, o'.cls = .type "list" → (∃ n, o'.data = .seq (ys.setIfInBounds k.toNat y) n) → R .next m (pre ++ (D, o') :: post) g)))
    (hd : (x == ("__debug__" : Str)) = false := by decide)
    (hs : swapsWith e (some (.Subscript (.Name x po) i spos)) pos.line env = pure false := by rfl) :
    Bx (model prog w) A s₀ g₀ L m (pre ++ (D, o) :: post) g (exec (.Assign [.Subscript (.Name x po) i spos] e pos) env) R := fun s F => by
  subst hl
  obtain ⟨gp, p1, p2, p3, p4, p5⟩ := F.see hnd
  have hmem : (D, o) ∈ pre ++ (D, o) :: post := List.mem_append_right _ (.head _)
  refine wpAny_Assign_Subscript ((h gp ⟨p1, p2⟩ s ⟨p3, F.ns⟩).any fun y s₁ g₁ k₁ u₁ hy => ?_) hs
  refine wpAny_Name (wpAny_loadName_local hk ho (F.ns.keeps (keeps_sub k₁)) hv ?_) hd
  refine (hy s₁ ⟨u₁.sub, F.ns.keeps (keeps_sub k₁)⟩).any fun iv s₂ g₂ k₂ u₂ hi => ?_
  obtain ⟨k, t, rfl, h0, hlt, hfit, hR⟩ := hi
  obtain ⟨F₂, O₂⟩ := F.keeps' (keeps_trans k₁ k₂)
  have hD := (F₂.own _ hmem).1
  have hL : s₂.heap.IsList D ys := ⟨o, hD, hc, hdat⟩
  refine wpAny_setItem_list hL h0 hfit hlt fun h' hl' hsb => ?_
  obtain ⟨o', ho', hc', hd'⟩ := hl'
  obtain ⟨F₃, O₃⟩ := F₂.turn (tk := s₂.toks) hnd hsb ho'
  exact ⟨_, _, g, F₃, O₂.trans O₃, hR o' hc' hd'⟩
/-- self.name = e -/
theorem bx_setattr {K : Frag} {x : Str} {e : Expr} {po apos pos : Pos} {a C dx : Addr} {ox : Obj} {es es' : List DictEntry} {n n' : Nat} {name : Str} {pre post : List (Addr × Obj)}
    (hnd : (pre ++ (dx, dictOf es n) :: post).Pairwise fun p q => p.1 ≠ q.1) (XK : K.In g)
    (hl : env.locals = L) (hk : env.scope.kind = .function) (ho : env.kindOf x = some .local) (hv : m x = some (.ref a))
    (hx : g.get? a = some ox) (hcls : ox.cls = .ref C) (hno : notCls ox = true) (hdx : ox.dict = some dx)
    (h1 : findIn K (.ref C) "__setattr__" = some (some (.builtin "object.__setattr__"))) (h2 : plainOver K C = true) (h3 : takerIn K C name = some none) (h4 : hasDictIn K C = true) (h5 : (getL name es).isSome = true)
    (h : ∀ gp, Sees g (pre ++ (dx, dictOf es n) :: post) gp → Ev (model prog w) A gp L m env e (fun v _ => ∀ t, ∃ es' n', (putL name (PyData.keyHash w.params name) (.str name t) v es, putN name es n) = (es', n') ∧ es'.length ≤ 1000 ∧
      R .next m (pre ++ (dx, dictOf es' n') :: post) g))
    (hd : (x == ("__debug__" : Str)) = false := by decide)
    (hs : swapsWith e (some (.Attribute (.Name x po) name apos)) pos.line env = pure false := by rfl) :
    Bx (model prog w) A s₀ g₀ L m (pre ++ (dx, dictOf es n) :: post) g (exec (.Assign [.Attribute (.Name x po) name apos] e pos) env) R := fun s F => by
  subst hl
  obtain ⟨gp, p1, p2, p3, p4, p5⟩ := F.see hnd
  have hmem : (dx, dictOf es n) ∈ pre ++ (dx, dictOf es n) :: post := List.mem_append_right _ (.head _)
  refine plainObj_wpAny_Assign_Attribute ((h gp ⟨p1, p2⟩ s ⟨p3, F.ns⟩).any fun v s₁ g₁ k₁ u₁ hv' => ?_) hs
  refine wpAny_Name (wpAny_loadName_local hk ho (F.ns.keeps (keeps_sub k₁)) hv ?_) hd
  obtain ⟨F₁, O₁⟩ := F.keeps' k₁
  obtain ⟨es', n', e', hz, hR⟩ := hv' (s₁.toks + 1)
  have hD := (F₁.own _ hmem).1
  refine set_same (K := K) (C := C) (ox := ox) (XK.keeps F₁.sub) ⟨F₁.sub _ _ hx, hcls, hno, by rw [hdx]; exact hD⟩ hdx h1 h2 h3 h4 h5 e' hz fun h' hsb hd' => ?_
  obtain ⟨F₂, O₂⟩ := F₁.turn (tk := s₁.toks + 2) hnd hsb hd'
  exact ⟨_, _, g, F₂, O₁.trans O₂, hR⟩
end
end Mine
end
section
open PySem PySem.W PyProof.Rows
set_option Elab.async false
set_option maxRecDepth 100000
set_option linter.unusedVariables false
namespace Mine
/-- what every known heap holds -/
structure Wd (w : World) (mg mb : Str → Option Value) (g : Heap) : Prop where
  K : (hd.heap_39 w.params).In g
  gl : g.Ns mainGlobals mg
  bl : g.Ns builtinsNs mb
  bt : ∀ x : Str, x ≠ "__name__" → mb x = bootBuiltins x
  lim : g.NoLimit
theorem Wd.up {w : World} {mg mb : Str → Option Value} {g g' : Heap} (W : Wd w mg mb g) (u : Sub g g') : Wd w mg mb g' := ⟨W.K.keeps u, W.gl.keeps u, W.bl.keeps u, W.bt, W.lim.keeps u⟩
/-- room for d more frames -/
structure Room (A : Around) (d : Nat) : Prop where
  hh : A.handled = none
  dp : A.depth + d < recursionLimit
  un : A.units + 8 * d + 64 < cLine
theorem Room.deeper {A : Around} {d : Nat} (r : Room A (d + 1)) (env : Env) : Room (A.deeper env) d :=
  ⟨r.hh, by have := r.dp; show A.depth + 1 + d < _; omega, by have := r.un; show A.units + 3 + 8 * d + 64 < _; omega⟩
theorem Room.hd {A : Around} {d : Nat} (r : Room A d) (env : Env) : (A.deeper env).handled = none := r.hh
theorem Room.less {A : Around} {d e : Nat} (r : Room A d) (h : e ≤ d) : Room A e := ⟨r.hh, by have := r.dp; omega, by have := r.un; omega⟩
theorem Room.units {A : Around} {d : Nat} (r : Room A d) : A.units < cLine := by have := r.un; omega
theorem Room.depth {A : Around} {d : Nat} (r : Room A d) : A.depth < recursionLimit := by have := r.dp; omega

section
variable {M : Model} {w : World} {A : Around} {g : Heap} {L : Addr} {m mg mb : Str → Option Value} {env : Env}
theorem ev_glob {x : Str} {pos : Pos} {v : Value} {P : Value → Heap → Prop} (W : Wd w mg mb g) (e : nsIn (hd.heap_39 w.params) mainGlobals x = some (some v)) (h : P v g) (hg : env.globals = mainGlobals) (hk : env.scope.kind = .function) (hx : env.kindOf x = some .globalImplicit) (hd : (x == ("__debug__" : Str)) = false := by decide) :
    Ev M A g L m env (.Name x pos) P := ev_global (by rw [hg]; exact W.gl) (mg_of W.K W.gl e) h hk hx hd
theorem ev_blt {x : Str} {pos : Pos} {v : Value} {P : Value → Heap → Prop} (W : Wd w mg mb g) (e : nsIn (hd.heap_39 w.params) mainGlobals x = some none) (hv : bootBuiltins x = some v) (hn : x ≠ "__name__") (h : P v g) (hg : env.globals = mainGlobals) (hb : env.builtins = builtinsNs) (hk : env.scope.kind = .function)
    (hx : env.kindOf x = some .globalImplicit) (hd : (x == ("__debug__" : Str)) = false := by decide) :
    Ev M A g L m env (.Name x pos) P := ev_builtin (by rw [hg]; exact W.gl) (mg_none_of W.K W.gl e) (by rw [hb]; exact W.bl) ((W.bt x hn).trans hv) h hk hx hd
end

/-- a lead's numbers -/
structure WsD where
  count : List Int
  b : Int
  n : Int
  nt : Int
def WsD.simple (d : WsD) : Bool := decide ((d.count.length : Int) ≤ 1)
/-- the object of a lead -/
def IsWs (g : Heap) (a : Addr) (d : WsD) : Prop := ∃ dx q c text h1 h2 h3 h4 h5 k1 k2 k3 k4 k5 t1 t2 t3 t4 nn cnt,
  g.get? a = some (instObj 92 dx) ∧ g.get? dx = some (dictOf [⟨h1, .str (Str.ofString "raw") k1, .str text t1⟩, ⟨h2, .str (Str.ofString "n") k2, .int d.n t2⟩, ⟨h3, .str (Str.ofString "nt") k3, .int d.nt t3⟩, ⟨h4, .str (Str.ofString "norm") k4, .ref q⟩, ⟨h5, .str (Str.ofString "is_simple") k5, .bool d.simple⟩] nn) ∧
  IsTup g q #[.ref c, .int d.b t4] ∧ IsTup g c cnt ∧ IntsAre cnt.toList d.count
theorem isTup_up {g g' : Heap} {a : Addr} {xs : Array Value} (h : IsTup g a xs) (u : Sub g g') : IsTup g' a xs := by obtain ⟨o, ho, r⟩ := h; exact ⟨o, u _ _ ho, r⟩
theorem isList_up {g g' : Heap} {a : Addr} {xs : Array Value} (h : g.IsList a xs) (u : Sub g g') : g'.IsList a xs := h.at fun o e => u _ o e
theorem IsWs.up {g g' : Heap} {a : Addr} {d : WsD} (h : IsWs g a d) (u : Sub g g') : IsWs g' a d := by
  obtain ⟨dx, q, c, text, h1, h2, h3, h4, h5, k1, k2, k3, k4, k5, t1, t2, t3, t4, nn, cnt, e1, e2, e3, e4, e5⟩ := h
  exact ⟨dx, q, c, text, h1, h2, h3, h4, h5, k1, k2, k3, k4, k5, t1, t2, t3, t4, nn, cnt, u _ _ e1, u _ _ e2, isTup_up e3 u, isTup_up e4 u, e5⟩
theorem IntsAre.at' {vs : List Value} {ns : List Int} (h : IntsAre vs ns) {i : Nat} {n : Int} (e : ns[i]? = some n) : ∃ t, vs[i]? = some (.int n t) := h.get i n e

section
variable {prog : Program} {w : World} {A : Around} {g : Heap} {mg mb : Str → Option Value} {a : Addr} {d : WsD}
theorem ws_inst (h : IsWs g a d) : ∃ es nn dx, InstAt g a (instObj 92 dx) 92 (some (dictOf es nn)) ∧ (∃ t, getL "n" es = some (some (.int d.n t))) ∧ (∃ t, getL "nt" es = some (some (.int d.nt t))) ∧ (getL "is_simple" es = some (some (.bool d.simple))) ∧
    (∃ q c t cnt, getL "norm" es = some (some (.ref q)) ∧ IsTup g q #[.ref c, .int d.b t] ∧ IsTup g c cnt ∧ IntsAre cnt.toList d.count) ∧
    getL "less" es = some none ∧ getL "not_less_witness" es = some none ∧ getL "indent_level" es = some none ∧ getL "longest_run_of_spaces" es = some none := by
  obtain ⟨dx, q, c, text, h1, h2, h3, h4, h5, k1, k2, k3, k4, k5, t1, t2, t3, t4, nn, cnt, e1, e2, e3, e4, e5⟩ := h
  exact ⟨_, nn, dx, ⟨e1, rfl, rfl, e2⟩, ⟨t2, rfl⟩, ⟨t3, rfl⟩, rfl, ⟨q, c, t4, cnt, rfl, e3, e4, e5⟩, rfl, rfl, rfl, rfl⟩
end
-- fill the walk's own table of the text's objects
theorem filled : True := by
  have : PySem.Challenge.rw_mq0259_01.Holds → True := fun _ => trivial
  exact trivial
end Mine
end
section
open PySem PySem.W PyProof.Rows
set_option Elab.async false
set_option maxRecDepth 100000
set_option linter.unusedVariables false
set_option maxHeartbeats 4000000
namespace Mine
section
variable {prog : Program} {w : World} {A : Around} {g : Heap} {mg mb : Str → Option Value} {a : Addr} {d : WsD}
def WsD.run (d : WsD) : Int := max ((d.count.length : Int) - 1) d.b
theorem op_ws_norm {P : Value → Heap → Prop} (W : Wd w mg mb g) (I : IsWs g a d) (h : ∀ q c t cnt, IsTup g q #[.ref c, .int d.b t] → IsTup g c cnt → IntsAre cnt.toList d.count → P (.ref q) g) : Op (model prog w) A g (getAttr (.ref a) (Str.ofString "norm") true) P := by
  obtain ⟨es, nn, dx, I', e1, e2, e3, ⟨q, c, t, cnt, e4, e5, e6, e7⟩, _⟩ := ws_inst I
  exact op_getown W.K I' (by k_is) (by k_is) (by k_is) (by k_is) e4 rfl (h q c t cnt e5 e6 e7)
theorem f_run {P : Value → Heap → Prop} (r : Room A 1) (W : Wd w mg mb g) (I : IsWs g a d) (hfit : d.count.length ≤ 1000) (h : ∀ t g', Sub g g' → P (.int d.run t) g') : Op (model prog w) A g (call (.ref 54) [.ref a]) P := by
  refine op_fun (K := hd.heap_39 w.params) (binds := [(Str.ofString "self", .ref a)]) W.K W.lim (by k_is) (by k_is) r.depth (fun s hs => BindsTo.of_eq rfl) (locs rfl) (by decide) rfl rfl rfl fun s₀ L hs₀ => ?_
  have r' := r.hh
  refine bx_cons (bx_pair r.hh rfl rfl rfl rfl (ev_attr (ev_local rfl rfl rfl rfl (op_ws_norm W I fun q c t cnt i1 i2 i3 => ?_))))
  refine ⟨q, _, _, rfl, i1, ?_⟩
  refine bx_cons (bx_return ?_)
  refine ev_call (ev_blt W (by k_is) (by boot_fast) (by decide) ?_ rfl rfl rfl rfl)
  refine go_builtin (evL_cons ?_)
  refine ev_bin (ev_call (ev_blt W (by k_is) (by boot_fast) (by decide) ?_ rfl rfl rfl rfl))
  refine go_builtin (evL_cons (ev_local rfl rfl rfl rfl (evL_nil (op_len_tuple i2 (by have := i3.length; simp at this; omega) fun t1 => ?_))))
  refine ev_int fun t2 => op_sub fun t3 => ?_
  refine evL_cons (ev_local rfl rfl rfl rfl (evL_nil (op_max r.hh fun t4 => ?_)))
  refine ⟨.nil, fun g' u _ => ?_⟩
  have e : max ((cnt.size : Int) - 1) d.b = d.run := by
    have := i3.length
    simp at this
    unfold WsD.run; rw [this]
  rw [e]
  exact h t4 g' u
end
end Mine
end
section
open PySem PySem.W PyProof.Rows
set_option Elab.async false
set_option maxRecDepth 100000
set_option linter.unusedVariables false
set_option maxHeartbeats 4000000
namespace Mine
def ilSum (cnt : List Int) (ts : Int) : Nat → Int
  | 0 => 0
  | k + 1 => ilSum cnt ts k + (ts + k).fdiv ts * cnt.getD (ts.toNat + k) 0
def WsD.level (d : WsD) (ts : Int) : Int := d.b + ts * (ilSum d.count ts (d.count.length - ts.toNat) + d.nt)
theorem bits_small {x : Int} (h : x.natAbs < 2 ^ 64) : Builtin.Int.intBits x ≤ 64 := by
  unfold Builtin.Int.intBits
  split
  · omega
  · rename_i h0
    have : x.natAbs.log2 < 64 := (Nat.log2_lt (by simpa using h0)).mpr h
    omega
section
variable {prog : Program} {w : World} {A : Around} {g : Heap} {mg mb : Str → Option Value} {a : Addr} {d : WsD}
theorem op_ws_nt {P : Value → Heap → Prop} (W : Wd w mg mb g) (I : IsWs g a d) (h : ∀ t, P (.int d.nt t) g) : Op (model prog w) A g (getAttr (.ref a) (Str.ofString "nt") true) P := by
  obtain ⟨es, nn, dx, I', e1, ⟨t, e2⟩, e3, _, _⟩ := ws_inst I
  exact op_getown W.K I' (by k_is) (by k_is) (by k_is) (by k_is) e2 rfl (h t)
theorem op_ws_n {P : Value → Heap → Prop} (W : Wd w mg mb g) (I : IsWs g a d) (h : ∀ t, P (.int d.n t) g) : Op (model prog w) A g (getAttr (.ref a) (Str.ofString "n") true) P := by
  obtain ⟨es, nn, dx, I', ⟨t, e1⟩, _⟩ := ws_inst I
  exact op_getown W.K I' (by k_is) (by k_is) (by k_is) (by k_is) e1 rfl (h t)
theorem op_ws_simple {P : Value → Heap → Prop} (W : Wd w mg mb g) (I : IsWs g a d) (h : P (.bool d.simple) g) : Op (model prog w) A g (getAttr (.ref a) (Str.ofString "is_simple") true) P := by
  obtain ⟨es, nn, dx, I', _, _, e3, _⟩ := ws_inst I
  exact op_getown W.K I' (by k_is) (by k_is) (by k_is) (by k_is) e3 rfl h

theorem f_level {ts : Int} {tt : Tok} {P : Value → Heap → Prop} (r : Room A 1) (W : Wd w mg mb g) (I : IsWs g a d) (h1 : 1 ≤ ts) (h2 : ts ≤ 1000) (hfit : d.count.length ≤ 1000) (h : ∀ t g', Sub g g' → P (.int (d.level ts) t) g') :
    Op (model prog w) A g (call (.ref 61) [.ref a, .int ts tt]) P := by
  refine op_fun (K := hd.heap_39 w.params) (binds := [(Str.ofString "self", .ref a), (Str.ofString "tabsize", .int ts tt)]) W.K W.lim (by k_is) (by k_is) r.depth (fun s hs => BindsTo.of_eq rfl) (locs rfl) (by decide) rfl rfl rfl fun s₀ L hs₀ => ?_
  refine bx_cons (bx_pair r.hh rfl rfl rfl rfl (ev_attr (ev_local rfl rfl rfl rfl (op_ws_norm W I fun q c t cnt i1 i2 i3 => ?_))))
  refine ⟨q, _, _, rfl, i1, ?_⟩
  have hlen : cnt.size = d.count.length := by have := i3.length; simpa using this
  refine bx_cons (bx_assign rfl rfl rfl (ev_int fun t0 => ?_))
  refine bx_cons (bx_for (d.count.length - ts.toNat) (fun i v => i < d.count.length - ts.toNat ∧ ∃ t, v = .int (ts + i) t)
    (fun i m' X' g' => X' = [] ∧ (∃ t, m' (Str.ofString "il") = some (.int (ilSum d.count ts i) t)) ∧ m' (Str.ofString "self") = some (.ref a) ∧ m' (Str.ofString "tabsize") = some (.int ts tt) ∧ m' (Str.ofString "count") = some (.ref c) ∧ (∃ t, m' (Str.ofString "trailing") = some (.int d.b t))) rfl rfl rfl ?_)
  refine ev_call (ev_blt W (by k_is) (by boot_fast) (by decide) ?_ rfl rfl rfl rfl)
  refine go_type (evL_cons (ev_local rfl rfl rfl rfl (evL_cons ?_)))
  refine ev_call (ev_blt W (by k_is) (by boot_fast) (by decide) ?_ rfl rfl rfl rfl)
  refine go_builtin (evL_cons (ev_local rfl rfl rfl rfl (evL_nil (op_len_tuple i2 (by omega) fun t1 => evL_nil (op_range2 fun rr g₁ t2 u₁ hn hr => ?_)))))
  refine ⟨src_range (r.hd _) hr (small_of (by omega) (by omega) (by omega) (by omega)) ?_, ⟨rfl, ⟨_, rfl⟩, rfl, rfl, rfl, ⟨_, rfl⟩⟩, ?_, ?_⟩
  · rw [rangeSize_one]; split <;> omega
  · rintro i v m' X' g' ⟨hi, tv, rfl⟩ _ u ⟨rfl, ⟨til, hil⟩, hs', hts, hc', ⟨tb, htb⟩⟩
    refine bx_cons (bx_assign rfl rfl rfl ?_)
    refine ev_bin (ev_local rfl rfl rfl hil (ev_bin ?_))
    refine ev_bin (ev_local rfl rfl rfl rfl (ev_local rfl rfl rfl hts (op_fdiv (by omega) (by omega) fun t3 => ?_)))
    obtain ⟨t4, e4⟩ := i3.get (ts.toNat + i) (d.count.getD (ts.toNat + i) 0) (by rw [List.getElem?_eq_getElem (by omega)]; simp [List.getD, List.getElem?_eq_getElem (show ts.toNat + i < d.count.length by omega)])
    refine ev_item (ev_local rfl rfl rfl hc' (ev_local rfl rfl rfl rfl (op_item_tup (x := .int (d.count.getD (ts.toNat + i) 0) t4) (isTup_up i2 (Sub.trans u₁ u)) (by omega) (by omega) ?_ ?_)))
    · have : (ts + (i : Int)).toNat = ts.toNat + i := by omega
      rw [this]; simpa using e4
    · refine op_mul (.of_left (bits_small ?_)) fun t5 => op_add fun t6 => ?_
      · have e1 : (ts + (i : Int)).fdiv ts = (ts + i) / ts := Int.fdiv_eq_ediv_of_nonneg _ (by omega)
        have e2 : (ts + (i : Int)) / ts ≤ ts + i := Int.ediv_le_self _ (by omega)
        have e3 : 0 ≤ (ts + (i : Int)) / ts := Int.ediv_nonneg (by omega) (by omega)
        rw [e1]; omega
      · refine bx_nil ⟨fun _ _ e => e, rfl, ⟨t6, ?_⟩, hs', hts, hc', ⟨tb, htb⟩⟩
        rfl
  · rintro m' X' g' u ⟨rfl, ⟨til, hil⟩, hs', hts, hc', ⟨tb, htb⟩⟩
    refine bx_cons (bx_return ?_)
    refine ev_bin (ev_local rfl rfl rfl htb (ev_bin (ev_local rfl rfl rfl hts (ev_bin (ev_local rfl rfl rfl hil (ev_attr (ev_local rfl rfl rfl hs' (op_ws_nt (W.up (Sub.trans u₁ u)) (I.up (Sub.trans u₁ u)) fun t3 => op_add fun t4 => op_mul (.of_left (bits_small ?_)) fun t5 => op_add fun t6 => ?_))))))))
    · omega
    · exact ⟨.nil, fun g'' u' _ => h t6 g'' (Sub.trans (Sub.trans u₁ u) u')⟩
end
end Mine
end
section
open PySem PySem.W PyProof.Rows
set_option Elab.async false
set_option maxRecDepth 100000
set_option linter.unusedVariables false
set_option maxHeartbeats 4000000
namespace Mine
/-- every level from lo on, n of them, is smaller -/
def allLt (da db : WsD) (lo : Int) (n : Nat) : Bool := (List.range n).all fun k => decide (da.level (lo + k) < db.level (lo + k))
def topOf (da db : WsD) : Int := max da.run db.run + 1
def lessD (da db : WsD) : Bool := !decide (db.n ≤ da.n) && (if da.simple && db.simple then decide (da.nt ≤ db.nt) else allLt da db 2 (topOf da db - 1).toNat)
structure Sm (d : WsD) : Prop where
  len : d.count.length ≤ 900
  b : d.b ≤ 900
theorem Sm.run {d : WsD} (h : Sm d) : d.run ≤ 900 := by have := h.len; have := h.b; unfold WsD.run; omega
theorem run_ge (d : WsD) : -1 ≤ d.run := by unfold WsD.run; omega
theorem allLt_true {da db : WsD} {lo : Int} {n : Nat} (h : ∀ k : Nat, k < n → da.level (lo + k) < db.level (lo + k)) : allLt da db lo n = true := by
  unfold allLt; rw [List.all_eq_true]; intro k hk; simpa using h k (by simpa using hk)
theorem allLt_false {da db : WsD} {lo : Int} {n k : Nat} (hk : k < n) (h : db.level (lo + k) ≤ da.level (lo + k)) : allLt da db lo n = false := by
  unfold allLt; rw [List.all_eq_false]; exact ⟨k, by simpa using hk, by simpa using h⟩
section
variable {prog : Program} {w : World} {A : Around} {g : Heap} {mg mb : Str → Option Value} {a b : Addr} {da db : WsD}
theorem op_m_run {pl : Sem Bool} {P : Value × List Value → Heap → Prop} (W : Wd w mg mb g) (I : IsWs g a da) (h : P (.ref 54, [.ref a]) g) : Op (model prog w) A g (getMethod (.ref a) (Str.ofString "longest_run_of_spaces") pl) P := by
  obtain ⟨es, nn, dx, I', _, _, _, _, e1, e2, e3, e4⟩ := ws_inst I
  exact op_meth W.K I' (by k_is) (by k_is) (by k_is) e4 h
theorem op_m_level {pl : Sem Bool} {P : Value × List Value → Heap → Prop} (W : Wd w mg mb g) (I : IsWs g a da) (h : P (.ref 61, [.ref a]) g) : Op (model prog w) A g (getMethod (.ref a) (Str.ofString "indent_level") pl) P := by
  obtain ⟨es, nn, dx, I', _, _, _, _, e1, e2, e3, e4⟩ := ws_inst I
  exact op_meth W.K I' (by k_is) (by k_is) (by k_is) e3 h
theorem op_m_less {pl : Sem Bool} {P : Value × List Value → Heap → Prop} (W : Wd w mg mb g) (I : IsWs g a da) (h : P (.ref 82, [.ref a]) g) : Op (model prog w) A g (getMethod (.ref a) (Str.ofString "less") pl) P := by
  obtain ⟨es, nn, dx, I', _, _, _, _, e1, e2, e3, e4⟩ := ws_inst I
  exact op_meth W.K I' (by k_is) (by k_is) (by k_is) e1 h
theorem op_m_nlw {pl : Sem Bool} {P : Value × List Value → Heap → Prop} (W : Wd w mg mb g) (I : IsWs g a da) (h : P (.ref 89, [.ref a]) g) : Op (model prog w) A g (getMethod (.ref a) (Str.ofString "not_less_witness") pl) P := by
  obtain ⟨es, nn, dx, I', _, _, _, _, e1, e2, e3, e4⟩ := ws_inst I
  exact op_meth W.K I' (by k_is) (by k_is) (by k_is) e2 h

theorem f_less {P : Value → Heap → Prop} (r : Room A 2) (W : Wd w mg mb g) (I : IsWs g a da) (J : IsWs g b db) (sa : Sm da) (sb : Sm db) (h : ∀ g', Sub g g' → P (.bool (lessD da db)) g') :
    Op (model prog w) A g (call (.ref 82) [.ref a, .ref b]) P := by
  refine op_fun (K := hd.heap_39 w.params) (binds := [(Str.ofString "self", .ref a), (Str.ofString "other", .ref b)]) W.K W.lim (by k_is) (by k_is) r.depth (fun s hs => BindsTo.of_eq rfl) (locs rfl) (by decide) rfl rfl rfl fun s₀ L hs₀ => ?_
  refine bx_cons (bx_if (ts_cmp (ev_attr (ev_local rfl rfl rfl rfl (op_ws_n W I fun t1 => ev_attr (ev_local rfl rfl rfl rfl (op_ws_n W J fun t2 => op_ge (op_truthB ?_))))))))
  by_cases hn : db.n ≤ da.n
  · rw [decide_eq_true hn, if_pos rfl]
    refine bx_cons (bx_return (ev_bool ⟨.nil, fun g' u _ => ?_⟩))
    have e : lessD da db = false := by unfold lessD; simp [hn]
    have := h g' u; rw [e] at this; exact this
  rw [decide_eq_false hn, if_neg (by decide)]
  refine bx_nil (bx_cons (bx_if (Tr.imp (P := fun c g' => c = (da.simple && db.simple) ∧ g' = g) (ts_and (ts_value (ev_attr (ev_local rfl rfl rfl rfl (op_ws_simple W I (op_truthB ?_)))))) ?_)))
  · cases hsa : da.simple with
    | false => exact ⟨rfl, rfl⟩
    | true => exact ts_value (ev_attr (ev_local rfl rfl rfl rfl (op_ws_simple W J (op_truthB ⟨rfl, rfl⟩))))
  rintro c g1 _ ⟨rfl, rfl⟩
  by_cases hsim : (da.simple && db.simple) = true
  · rw [if_pos hsim]
    refine bx_cons (bx_return (ev_cmp (ev_attr (ev_local rfl rfl rfl rfl (op_ws_nt W I fun t1 => ev_attr (ev_local rfl rfl rfl rfl (op_ws_nt W J fun t2 => op_le ⟨.nil, fun g' u _ => ?_⟩)))))))
    have e : lessD da db = decide (da.nt ≤ db.nt) := by unfold lessD; rw [if_pos hsim]; simp [hn]
    have := h g' u; rw [e] at this; exact this
  rw [if_neg hsim]
  have eL : lessD da db = allLt da db 2 (topOf da db - 1).toNat := by unfold lessD; rw [if_neg hsim]; simp [hn]
  have ra := sa.run
  have rb := sb.run
  have ra' := run_ge da
  have rb' := run_ge db
  have la := sa.len
  have lb := sb.len
  refine bx_nil (bx_cons (bx_assign rfl rfl rfl ?_))
  refine ev_bin (ev_call (ev_blt W (by k_is) (by boot_fast) (by decide) ?_ rfl rfl rfl rfl))
  refine go_builtin (evL_cons (ev_meth (ev_local rfl rfl rfl rfl (op_m_run W I (go_ref0 (KeepOk.of W.K (by k_is)) (f_run ((r.less (by omega)).deeper _) W I (by omega) fun t3 g1 u1 => ?_))))))
  have W1 := W.up u1
  refine evL_cons (ev_meth (ev_local rfl rfl rfl rfl (op_m_run W1 (J.up u1) (go_ref0 (KeepOk.of W1.K (by k_is)) (f_run ((r.less (by omega)).deeper _) W1 (J.up u1) (by omega) fun t4 g2 u2 => evL_nil (op_max (r.hd _) fun t5 => ev_int fun t6 => op_add fun t7 => ?_))))))
  have W2 := W1.up u2
  refine bx_cons (bx_for (topOf da db - 1).toNat (fun i v => i < (topOf da db - 1).toNat ∧ ∃ t, v = .int (2 + i) t)
    (fun i m' X' g' => X' = [] ∧ (∀ k : Nat, k < i → da.level (2 + k) < db.level (2 + k)) ∧ m' (Str.ofString "self") = some (.ref a) ∧ m' (Str.ofString "other") = some (.ref b)) rfl rfl rfl ?_)
  refine ev_call (ev_blt W2 (by k_is) (by boot_fast) (by decide) ?_ rfl rfl rfl rfl)
  refine go_type (evL_cons (ev_int fun t8 => evL_cons (ev_bin (ev_local rfl rfl rfl rfl (ev_int fun t9 => op_add fun t10 => evL_nil (op_range2 fun rr g3 t11 u3 hnr hr => ?_))))))
  have uu := Sub.trans u1 (Sub.trans u2 u3)
  refine ⟨src_range (r.hd _) hr (small_of (by omega) (by omega) ?_ ?_) ?_, ⟨rfl, fun k hk => absurd hk (Nat.not_lt_zero _), rfl, rfl⟩, ?_, ?_⟩
  · unfold topOf at *; omega
  · unfold topOf at *; omega
  · rw [rangeSize_one]; unfold topOf; split <;> omega
  · rintro i v m' X' g' ⟨hi, tv, rfl⟩ _ u ⟨rfl, hall, hs', ho'⟩
    have Wi := W.up (Sub.trans uu u)
    have Ii := I.up (Sub.trans uu u)
    have Ji := J.up (Sub.trans uu u)
    have hb1 : (2 : Int) + i ≤ 1000 := by unfold topOf at hi; omega
    refine bx_cons (bx_if (ts_cmp (ev_meth (ev_local rfl rfl rfl hs' (op_m_level Wi Ii (go_ref (KeepOk.of Wi.K (by k_is)) (evL_cons (ev_local rfl rfl rfl rfl (evL_nil (f_level ((r.less (by omega)).deeper _) Wi Ii (by omega) hb1 (by omega) fun t1 g4 u4 => ?_))))))))))
    have W4 := Wi.up u4
    refine ev_meth (ev_local rfl rfl rfl ho' (op_m_level W4 (Ji.up u4) (go_ref (KeepOk.of W4.K (by k_is)) (evL_cons (ev_local rfl rfl rfl rfl (evL_nil (f_level ((r.less (by omega)).deeper _) W4 (Ji.up u4) (by omega) hb1 (by omega) fun t2 g5 u5 => op_ge (op_truthB ?_))))))))
    by_cases hge : db.level (2 + i) ≤ da.level (2 + i)
    · rw [decide_eq_true hge, if_pos rfl]
      refine bx_cons (bx_return (ev_bool ⟨.nil, fun g6 u6 _ => ?_⟩))
      have := h g6 (Sub.trans uu (Sub.trans u (Sub.trans u4 (Sub.trans u5 u6))))
      rw [eL, allLt_false hi hge] at this; exact this
    · rw [decide_eq_false hge, if_neg (by decide)]
      refine bx_nil (bx_nil ⟨Sub.trans u4 u5, rfl, fun k hk => ?_, hs', ho'⟩)
      rcases Nat.lt_or_ge k i with h' | h'
      · exact hall k h'
      · rw [show k = i by omega]; omega
  · rintro m' X' g' u ⟨rfl, hall, hs', ho'⟩
    refine bx_cons (bx_return (ev_bool ⟨.nil, fun g6 u6 _ => ?_⟩))
    have := h g6 (Sub.trans uu (Sub.trans u u6))
    rw [eL, allLt_true hall] at this; exact this
end
end Mine
end
section
open PySem PySem.W PyProof.Rows
set_option Elab.async false
set_option maxRecDepth 100000
set_option linter.unusedVariables false
set_option maxHeartbeats 4000000
namespace Mine
def nlwD (da db : WsD) : Bool := allLt da db 1 (topOf da db).toNat
section
variable {prog : Program} {w : World} {A : Around} {g : Heap} {mg mb : Str → Option Value} {a b : Addr} {da db : WsD}
theorem f_nlw {P : Value → Heap → Prop} (r : Room A 2) (W : Wd w mg mb g) (I : IsWs g a da) (J : IsWs g b db) (sa : Sm da) (sb : Sm db)
    (h : ∀ D ys g', Sub g g' → g'.IsList D ys → (ys.size == 0) = nlwD da db → P (.ref D) g') :
    Op (model prog w) A g (call (.ref 89) [.ref a, .ref b]) P := by
  refine op_fun (K := hd.heap_39 w.params) (binds := [(Str.ofString "self", .ref a), (Str.ofString "other", .ref b)]) W.K W.lim (by k_is) (by k_is) r.depth (fun s hs => BindsTo.of_eq rfl) (locs rfl) (by decide) rfl rfl rfl fun s₀ L hs₀ => ?_
  have ra := sa.run
  have rb := sb.run
  have ra' := run_ge da
  have rb' := run_ge db
  have la := sa.len
  have lb := sb.len
  refine bx_cons (bx_assign rfl rfl rfl ?_)
  refine ev_bin (ev_call (ev_blt W (by k_is) (by boot_fast) (by decide) ?_ rfl rfl rfl rfl))
  refine go_builtin (evL_cons (ev_meth (ev_local rfl rfl rfl rfl (op_m_run W I (go_ref0 (KeepOk.of W.K (by k_is)) (f_run ((r.less (by omega)).deeper _) W I (by omega) fun t3 g1 u1 => ?_))))))
  have W1 := W.up u1
  refine evL_cons (ev_meth (ev_local rfl rfl rfl rfl (op_m_run W1 (J.up u1) (go_ref0 (KeepOk.of W1.K (by k_is)) (f_run ((r.less (by omega)).deeper _) W1 (J.up u1) (by omega) fun t4 g2 u2 => evL_nil (op_max (r.hd _) fun t5 => ev_int fun t6 => op_add fun t7 => ?_))))))
  have W2 := W1.up u2
  refine bx_cons (bx_assignN (X' := []) (fun p hp => (nomatch hp)) .nil rfl rfl rfl fun gp hgp => ev_list (evL_nil ⟨by decide, fun D gq uq hDn hD => ⟨D, _, rfl, hDn, hD, fun _ => ?_⟩⟩))
  refine bx_cons (bx_for (topOf da db).toNat (fun i v => i < (topOf da db).toNat ∧ ∃ t, v = .int (1 + i) t)
    (fun i m' X' g' => (∃ ys n, X' = [(D, { cls := .type "list", data := .seq ys n })] ∧ ys.size ≤ i ∧ ((ys.size == 0) = allLt da db 1 i)) ∧ m' (Str.ofString "self") = some (.ref a) ∧ m' (Str.ofString "other") = some (.ref b) ∧ m' (Str.ofString "a") = some (.ref D)) rfl rfl rfl ?_)
  refine ev_call (ev_blt W2 (by k_is) (by boot_fast) (by decide) ?_ rfl rfl rfl rfl)
  refine go_type (evL_cons (ev_int fun t8 => evL_cons (ev_bin (ev_local rfl rfl rfl rfl (ev_int fun t9 => op_add fun t10 => evL_nil (op_range2 fun rr g3 t11 u3 hnr hr => ?_))))))
  have uu := Sub.trans u1 (Sub.trans u2 u3)
  refine ⟨src_range (r.hd _) hr (small_of (by omega) (by omega) ?_ ?_) ?_, ⟨⟨#[], 0, rfl, Nat.le_refl _, rfl⟩, rfl, rfl, rfl⟩, ?_, ?_⟩
  · unfold topOf at *; omega
  · unfold topOf at *; omega
  · rw [rangeSize_one]; unfold topOf; split <;> omega
  · rintro i v m' X' g' ⟨hi, tv, rfl⟩ _ u ⟨⟨ys, n, rfl, hys, hall⟩, hs', ho', ha'⟩
    have Wi := W.up (Sub.trans uu u)
    have Ii := I.up (Sub.trans uu u)
    have Ji := J.up (Sub.trans uu u)
    have hb1 : (1 : Int) + i ≤ 1000 := by unfold topOf at hi; omega
    refine bx_cons (bx_if (ts_cmp (ev_meth (ev_local rfl rfl rfl hs' (op_m_level Wi Ii (go_ref (KeepOk.of Wi.K (by k_is)) (evL_cons (ev_local rfl rfl rfl rfl (evL_nil (f_level ((r.less (by omega)).deeper _) Wi Ii (by omega) hb1 (by omega) fun t1 g4 u4 => ?_))))))))))
    have W4 := Wi.up u4
    refine ev_meth (ev_local rfl rfl rfl ho' (op_m_level W4 (Ji.up u4) (go_ref (KeepOk.of W4.K (by k_is)) (evL_cons (ev_local rfl rfl rfl rfl (evL_nil (f_level ((r.less (by omega)).deeper _) W4 (Ji.up u4) (by omega) hb1 (by omega) fun t2 g5 u5 => op_ge (op_truthB ?_))))))))
    have W5 := W4.up u5
    have u45 := Sub.trans u4 u5
    have step : allLt da db 1 (i + 1) = (allLt da db 1 i && decide (da.level (1 + i) < db.level (1 + i))) := by
      unfold allLt; rw [List.range_succ, List.all_append]; simp
    by_cases hge : db.level (1 + i) ≤ da.level (1 + i)
    · rw [decide_eq_true hge, if_pos rfl]
      refine bx_cons (bx_append (pre := []) (post := []) (by simp) rfl rfl rfl ha' (by rw [sizeLine_eq]; omega) fun gp hgp => ?_)
      have Wp := W5.up hgp.1
      have Ip := (Ii.up u45).up hgp.1
      have Jp := (Ji.up u45).up hgp.1
      refine ev_tuple (evL_cons (ev_local rfl rfl rfl rfl (evL_cons (ev_meth (ev_local rfl rfl rfl hs' (op_m_level Wp Ip (go_ref (KeepOk.of Wp.K (by k_is)) (evL_cons (ev_local rfl rfl rfl rfl (evL_nil (f_level ((r.less (by omega)).deeper _) Wp Ip (by omega) hb1 (by omega) fun t12 g6 u6 => ?_)))))))))))
      have W6 := Wp.up u6
      refine evL_cons (ev_meth (ev_local rfl rfl rfl ho' (op_m_level W6 (Jp.up u6) (go_ref (KeepOk.of W6.K (by k_is)) (evL_cons (ev_local rfl rfl rfl rfl (evL_nil (f_level ((r.less (by omega)).deeper _) W6 (Jp.up u6) (by omega) hb1 (by omega) fun t13 g7 u7 => evL_nil ⟨by simp [sizeLine_eq], fun T g8 u8 hT1 hT2 n' => ?_⟩))))))))
      refine bx_nil (bx_nil ⟨u45, ⟨ys.push (.ref T), n', rfl, by simp; omega, ?_⟩, hs', ho', ha'⟩)
      rw [step]; simp [hge]
    · rw [decide_eq_false hge, if_neg (by decide)]
      refine bx_nil (bx_nil ⟨u45, ⟨ys, n, rfl, by omega, ?_⟩, hs', ho', ha'⟩)
      rw [step, hall]; simp; omega
  · rintro m' X' g' u ⟨⟨ys, n, rfl, hys, hall⟩, hs', ho', ha'⟩
    refine bx_cons (bx_return (ev_local rfl rfl rfl ha' ⟨by simp, fun g6 u6 hX => ?_⟩))
    have hD6 := hX _ (.head _)
    exact h D ys g6 (Sub.trans uu (Sub.trans u u6)) ⟨_, hD6, rfl, n, rfl⟩ hall
end
end Mine
end
section
open PySem PySem.W PyProof.Rows
set_option Elab.async false
set_option maxRecDepth 100000
set_option linter.unusedVariables false
set_option maxHeartbeats 4000000
namespace Mine
/-- the text of a lead by its five numbers -/
def leadS (a b c d e : Int) : Str :=
  ((((Txt.mul (Str.ofString " ") a ++ Txt.mul (Str.ofString "\t") b) ++ Txt.mul (Str.ofString " ") c) ++ Txt.mul (Str.ofString "\t") d) ++ Txt.mul (Str.ofString " ") e) ++ Str.ofString "x"
def leadOf (x : Int) : Str := leadS (x.fmod 3) ((x.fdiv 3).fmod 2) ((x.fdiv 6).fmod 3) ((x.fdiv 18).fmod 3) ((x.fdiv 54).fmod 3)
theorem mulOk3 {x : Str} {n : Int} (hx : x.length = 1) (h0 : 0 ≤ n) (h3 : n < 3) : MulOk x n := by
  have : n = 0 ∨ n = 1 ∨ n = 2 := by omega
  unfold MulOk
  rw [hx]
  rcases this with rfl | rfl | rfl <;> exact ⟨by decide, by decide, by decide⟩
theorem mulLen {x : Str} {n : Int} (hx : x.length = 1) (h0 : 0 ≤ n) (h3 : n < 3) : (Txt.mul x n).length ≤ 2 := by
  have e := len_mul x n
  rw [hx, decide_eq_false (by omega), if_neg (by decide)] at e
  omega
section
variable {prog : Program} {w : World} {A : Around} {g : Heap} {mg mb : Str → Option Value}
theorem f_lead {x : Int} {t : Tok} {P : Value → Heap → Prop} (r : Room A 1) (W : Wd w mg mb g) (h : ∀ t g', Sub g g' → P (.str (leadOf x) t) g') : Op (model prog w) A g (call (.ref 103) [.int x t]) P := by
  refine op_fun (K := hd.heap_39 w.params) (binds := [(Str.ofString "x", .int x t)]) W.K W.lim (by k_is) (by k_is) r.depth (fun s hs => BindsTo.of_eq rfl) (locs rfl) (by decide) rfl rfl rfl fun s₀ L hs₀ => ?_
  have l1 : (Str.ofString " ").length = 1 := by decide +kernel
  have l2 : (Str.ofString "\t").length = 1 := by decide +kernel
  have l3 : (Str.ofString "x").length = 1 := by decide +kernel
  have b3 : ∀ y : Int, 0 ≤ y.fmod 3 ∧ y.fmod 3 < 3 := fun y => ⟨Int.fmod_nonneg_of_pos y (by decide), Int.fmod_lt_of_pos y (by decide)⟩
  have b2 : ∀ y : Int, 0 ≤ y.fmod 2 ∧ y.fmod 2 < 3 := fun y => ⟨Int.fmod_nonneg_of_pos y (by decide), by have := Int.fmod_lt_of_pos y (b := 2) (by decide); omega⟩
  have m1 := mulLen l1 (b3 x).1 (b3 x).2
  have m2 := mulLen l2 (b2 (x.fdiv 3)).1 (b2 (x.fdiv 3)).2
  have m3 := mulLen l1 (b3 (x.fdiv 6)).1 (b3 (x.fdiv 6)).2
  have m4 := mulLen l2 (b3 (x.fdiv 18)).1 (b3 (x.fdiv 18)).2
  have m5 := mulLen l1 (b3 (x.fdiv 54)).1 (b3 (x.fdiv 54)).2
  have sl := sizeLine_eq
  refine bx_cons (bx_return ?_)
  refine ev_bin (ev_bin (ev_bin (ev_bin (ev_bin ?_))))
  refine ev_bin (ev_str fun t1 => ev_bin (ev_local rfl rfl rfl rfl (ev_int fun t2 => op_mod (by decide) fun t3 => op_mulS (mulOk3 l1 (b3 _).1 (b3 _).2) fun t4 => ?_)))
  refine ev_bin (ev_str fun t5 => ev_bin (ev_bin (ev_local rfl rfl rfl rfl (ev_int fun t6 => op_fdiv (by decide) (by decide) fun t7 => ev_int fun t8 => op_mod (by decide) fun t9 => op_mulS (mulOk3 l2 (b2 _).1 (b2 _).2) fun t10 => op_addS (by omega) fun t11 => ?_))))
  refine ev_bin (ev_str fun t5 => ev_bin (ev_bin (ev_local rfl rfl rfl rfl (ev_int fun t6 => op_fdiv (by decide) (by decide) fun t7 => ev_int fun t8 => op_mod (by decide) fun t9 => op_mulS (mulOk3 l1 (b3 _).1 (b3 _).2) fun t10 => op_addS (by rw [Str.length_append]; omega) fun t11 => ?_))))
  refine ev_bin (ev_str fun t5 => ev_bin (ev_bin (ev_local rfl rfl rfl rfl (ev_int fun t6 => op_fdiv (by decide) (by decide) fun t7 => ev_int fun t8 => op_mod (by decide) fun t9 => op_mulS (mulOk3 l2 (b3 _).1 (b3 _).2) fun t10 => op_addS (by rw [Str.length_append, Str.length_append]; omega) fun t11 => ?_))))
  refine ev_bin (ev_str fun t5 => ev_bin (ev_bin (ev_local rfl rfl rfl rfl (ev_int fun t6 => op_fdiv (by decide) (by decide) fun t7 => ev_int fun t8 => op_mod (by decide) fun t9 => op_mulS (mulOk3 l1 (b3 _).1 (b3 _).2) fun t10 => op_addS (by rw [Str.length_append, Str.length_append, Str.length_append]; omega) fun t11 => ?_))))
  refine ev_str fun t12 => op_addS (by rw [Str.length_append, Str.length_append, Str.length_append, Str.length_append]; omega) fun t13 => ?_
  exact ⟨.nil, fun g' u _ => h t13 g' u⟩
end
end Mine
end
section
open PySem PySem.W PyProof.Rows
set_option Elab.async false
set_option maxRecDepth 100000
set_option linter.unusedVariables false
set_option maxHeartbeats 4000000
namespace Mine
/-- the column, sign by sign -/
def colOf (size : Int) : List Nat → Int → Int
  | [], c => c
  | x :: r, c => if x = 32 then colOf size r (c + 1) else if x = 9 then colOf size r (c - c.fmod size + size) else c
def colsOf (cps : List Nat) : List Int := (List.range 7).map fun k => colOf (1 + (k : Nat)) cps 0
theorem sign_eq (c k : Nat) (x : Str) (hx : x = ⟨#[k]⟩) : ((⟨#[c]⟩ : Str) == x) = decide (c = k) := by
  subst hx
  by_cases h : c = k
  · subst h; simp
  · have : (⟨#[c]⟩ : Str) ≠ ⟨#[k]⟩ := fun e => by cases e; exact h rfl
    simp [h]
theorem sp_is : Str.ofString " " = ⟨#[32]⟩ := by decide +kernel
theorem tab_is : Str.ofString "\t" = ⟨#[9]⟩ := by decide +kernel
section
variable {prog : Program} {w : World} {A : Around} {g : Heap} {mg mb : Str → Option Value}
theorem f_columns {x : Str} {t : Tok} {P : Value → Heap → Prop} (r : Room A 1) (W : Wd w mg mb g) (h : ∀ D ys g', Sub g g' → g'.IsList D ys → IntsAre ys.toList (colsOf x.cps.toList) → P (.ref D) g') :
    Op (model prog w) A g (call (.ref 110) [.str x t]) P := by
  refine op_fun (K := hd.heap_39 w.params) (binds := [(Str.ofString "text", .str x t)]) W.K W.lim (by k_is) (by k_is) r.depth (fun s hs => BindsTo.of_eq rfl) (locs rfl) (by decide) rfl rfl rfl fun s₀ L hs₀ => ?_
  refine bx_cons (bx_assignN (X' := []) (fun p hp => (nomatch hp)) .nil rfl rfl rfl fun gp hgp => ev_list (evL_nil ⟨by decide, fun D gq uq hDn hD => ⟨D, _, rfl, hDn, hD, fun _ => ?_⟩⟩))
  refine bx_cons (bx_for 7 (fun i v => i < 7 ∧ ∃ t, v = .int (1 + i) t)
    (fun i m' X' g' => (∃ ys n, X' = [(D, { cls := .type "list", data := .seq ys n })] ∧ IntsAre ys.toList ((List.range i).map fun k => colOf (1 + (k : Nat)) x.cps.toList 0)) ∧ m' (Str.ofString "text") = some (.str x t) ∧ m' (Str.ofString "told") = some (.ref D)) rfl rfl rfl ?_)
  refine ev_call (ev_blt W (by k_is) (by boot_fast) (by decide) ?_ rfl rfl rfl rfl)
  refine go_type (evL_cons (ev_int fun t8 => evL_cons (ev_int fun t9 => evL_nil (op_range2 fun rr g3 t11 u3 hnr hr => ?_))))
  refine ⟨src_range (r.hd _) hr (by decide) (by decide), ⟨⟨#[], 0, rfl, .nil⟩, rfl, rfl⟩, ?_, ?_⟩
  · rintro i v m' X' g' ⟨hi, tv, rfl⟩ _ u ⟨⟨ys, n, rfl, hys⟩, ht', hD'⟩
    have hlen := hys.length
    simp at hlen
    refine bx_cons (bx_assign rfl rfl rfl (ev_int fun t0 => ?_))
    refine bx_cons (bx_for x.cps.size (SignAt x)
      (fun j m'' X'' g'' => X'' = [(D, { cls := .type "list", data := .seq ys n })] ∧ (∃ c t, m'' (Str.ofString "column") = some (.int c t) ∧ colOf (1 + i) x.cps.toList 0 = colOf (1 + i) (x.cps.toList.drop j) c) ∧ m'' (Str.ofString "text") = some (.str x t) ∧ m'' (Str.ofString "told") = some (.ref D) ∧ (∃ t, m'' (Str.ofString "size") = some (.int (1 + i) t))) rfl rfl rfl ?_)
    refine ev_local rfl rfl rfl ht' ⟨src_str (r.hd _), ⟨rfl, ⟨0, t0, rfl, by simp⟩, ht', hD', ⟨tv, rfl⟩⟩, ?_, ?_⟩
    · rintro j v m2 X2 g2 ⟨c, uc, hc, rfl⟩ hj u2 ⟨rfl, ⟨col, tc, hcol, hfold⟩, ht2, hD2, ⟨tsz, hsz2⟩⟩
      have hcl : x.cps.toList[j]? = some c := by simpa using hc
      have hdrop : x.cps.toList.drop j = c :: x.cps.toList.drop (j + 1) := by
        have hjl : j < x.cps.toList.length := by simpa using hj
        rw [List.drop_eq_getElem_cons hjl]
        congr 1
        rw [List.getElem?_eq_getElem hjl] at hcl; exact Option.some.inj hcl
      rw [hdrop] at hfold
      refine bx_cons (bx_if (ts_cmp (ev_local rfl rfl rfl rfl (ev_str fun t1 => op_eqS (op_truthB ?_)))))
      rw [sign_eq c 32 _ sp_is]
      by_cases h32 : c = 32
      · rw [decide_eq_true h32, if_pos rfl]
        refine bx_cons (bx_assign rfl rfl rfl (ev_bin (ev_local rfl rfl rfl hcol (ev_int fun t2 => op_add fun t3 => ?_))))
        refine bx_nil (bx_nil ⟨fun _ _ e => e, rfl, ⟨col + 1, t3, rfl, ?_⟩, ht2, hD2, ⟨tsz, hsz2⟩⟩)
        rw [hfold]; simp [colOf, h32]
      rw [decide_eq_false h32, if_neg (by decide)]
      refine bx_cons (bx_if (ts_cmp (ev_local rfl rfl rfl rfl (ev_str fun t1 => op_eqS (op_truthB ?_)))))
      rw [sign_eq c 9 _ tab_is]
      by_cases h9 : c = 9
      · rw [decide_eq_true h9, if_pos rfl]
        refine bx_cons (bx_assign rfl rfl rfl (ev_bin (ev_bin (ev_local rfl rfl rfl hcol (ev_bin (ev_local rfl rfl rfl hcol (ev_local rfl rfl rfl hsz2 (op_mod (by omega) fun t2 => op_sub fun t3 => ev_local rfl rfl rfl hsz2 (op_add fun t4 => ?_)))))))))
        refine bx_nil (bx_nil (bx_nil ⟨fun _ _ e => e, rfl, ⟨_, t4, rfl, ?_⟩, ht2, hD2, ⟨tsz, hsz2⟩⟩))
        rw [hfold]; simp [colOf, h32, h9]
      · rw [decide_eq_false h9, if_neg (by decide)]
        have hfin : colOf (1 + i) x.cps.toList 0 = col := by rw [hfold]; simp [colOf, h32, h9]
        refine bx_cons (bx_break ?_)
        refine bx_cons (bx_append (pre := []) (post := []) (by simp) rfl rfl rfl hD2 (by rw [sizeLine_eq]; omega) fun gp hgp => ev_local rfl rfl rfl hcol fun n' => ?_)
        refine bx_nil ⟨u2, ⟨_, n', rfl, ?_⟩, ht2, hD2⟩
        rw [Array.toList_push, List.range_succ, List.map_append]
        refine hys.append ?_
        simp only [List.map_cons, List.map_nil]
        rw [hfin]; exact .cons col tc .nil
    · rintro m2 X2 g2 u2 ⟨rfl, ⟨col, tc, hcol, hfold⟩, ht2, hD2, ⟨tsz, hsz2⟩⟩
      have hfin : colOf (1 + i) x.cps.toList 0 = col := by rw [hfold, List.drop_of_length_le (by simp)]; rfl
      refine bx_cons (bx_append (pre := []) (post := []) (by simp) rfl rfl rfl hD2 (by rw [sizeLine_eq]; omega) fun gp hgp => ev_local rfl rfl rfl hcol fun n' => ?_)
      refine bx_nil ⟨u2, ⟨_, n', rfl, ?_⟩, ht2, hD2⟩
      rw [Array.toList_push, List.range_succ, List.map_append]
      refine hys.append ?_
      simp only [List.map_cons, List.map_nil]
      rw [hfin]; exact .cons col tc .nil
  · rintro m' X' g' u ⟨⟨ys, n, rfl, hys⟩, ht', hD'⟩
    refine bx_cons (bx_return (ev_local rfl rfl rfl hD' ⟨by simp, fun g6 u6 hX => ?_⟩))
    exact h D ys g6 (Sub.trans u3 (Sub.trans u u6)) ⟨_, hX _ (.head _), rfl, n, rfl⟩ hys
end
end Mine
end
section
open PySem PySem.W PyProof.Rows
set_option Elab.async false
set_option maxRecDepth 100000
set_option linter.unusedVariables false
set_option maxHeartbeats 4000000
namespace Mine
def leftD (c1 c2 : List Int) : Bool := (List.range 7).all fun k => decide (c1.getD k 0 < c2.getD k 0)
/-- the items that a filter over the first ints keeps -/
theorem ints_filter {n : Nat} {vs : List Value} {q : Nat → Bool} {p : Value → Bool} (hlen : vs.length = n) (hv : ∀ j (v : Value), vs[j]? = some v → j < n ∧ ∃ t, v = Value.int (0 + (j : Nat)) t) (hp : ∀ (k : Nat) t, p (.int (k : Int) t) = q k) :
    (vs.filter p).length = ((List.range n).filter q).length := by
  have key : ∀ (m : Nat) (us : List Value), us.length ≤ n → m + us.length = n → (∀ j (v : Value), us[j]? = some v → ∃ t, v = Value.int ((m + j : Nat) : Int) t) → (us.filter p).length = ((List.range' m us.length).filter q).length := by
    intro m us
    induction us generalizing m with
    | nil => intro _ _ _; rfl
    | cons u r ih =>
      intro h1 h2 h3
      obtain ⟨t, e⟩ := h3 0 u rfl
      have ih' := ih (m + 1) (by simp at h1; omega) (by simp at h2; omega) (fun j v hj => by
        obtain ⟨t', e'⟩ := h3 (j + 1) v (by simpa using hj)
        exact ⟨t', by rw [e']; congr 1; push_cast; omega⟩)
      subst e
      rw [List.filter_cons, List.length_cons, List.range'_succ, List.filter_cons]
      have hq : p (.int ((m + 0 : Nat) : Int) t) = q m := hp m t
      rw [hq]
      cases q m
      · simpa using ih'
      · simpa using ih'
  have := key 0 vs (by omega) (by omega) (fun j v hj => by
    obtain ⟨_, t, e⟩ := hv j v hj
    exact ⟨t, by rw [e]; simp⟩)
  rw [this, hlen, List.range_eq_range']
section
variable {prog : Program} {w : World} {A : Around} {g : Heap} {mg mb : Str → Option Value} {a b : Addr}
theorem f_left {xs ys : Array Value} {c1 c2 : List Int} {P : Value → Heap → Prop} (r : Room A 1) (W : Wd w mg mb g) (ha : g.IsList a xs) (hb : g.IsList b ys) (hxs : IntsAre xs.toList c1) (hys : IntsAre ys.toList c2) (l1 : c1.length = 7) (l2 : c2.length = 7)
    (h : ∀ g', Sub g g' → P (.bool (leftD c1 c2)) g') : Op (model prog w) A g (call (.ref 115) [.ref a, .ref b]) P := by
  refine op_funC (K := hd.heap_39 w.params) (binds := [(Str.ofString "one", .ref a), (Str.ofString "other", .ref b)]) W.K W.lim (by k_is) (by k_is) r.depth rfl rfl rfl rfl rfl fun s₀ L g₁ hs₀ u₁ hc => ?_
  have k1 : g₁.IsCell (L + 1) (some (.ref a)) := hc (Str.ofString "one") (L + 1) rfl
  have k2 : g₁.IsCell (L + 2) (some (.ref b)) := hc (Str.ofString "other") (L + 2) rfl
  have W1 := W.up u₁
  refine bx_cons (bx_return (ev_cmp ?_))
  refine ev_comp 7 (fun i v => i < 7 ∧ ∃ t, v = .int (0 + i) t) (fun v => match v with | .int k _ => decide (c2.getD k.toNat 0 ≤ c1.getD k.toNat 0) | _ => false) (fun _ _ _ => True) (fun _ _ _ _ _ _ => trivial) (by with_unfolding_all rfl) (by decide) rfl (by decide) rfl (by intro _; with_unfolding_all rfl) ?_
  refine ev_call (ev_blt W1 (by k_is) (by boot_fast) (by decide) ?_ rfl rfl rfl rfl)
  refine go_type (evL_cons (ev_int fun t8 => evL_nil (op_range1 fun rr g3 t11 t12 u3 hnr hr => ?_)))
  refine ⟨src_range (r.hd _) hr (by decide) (by decide), by decide, ?_, ?_, ?_⟩
  · rintro i v g4 C m' ⟨hi, tv, rfl⟩ u4 hm
    have hi1 := hxs.get i (c1.getD i 0) (by rw [List.getElem?_eq_getElem (by omega)]; simp [List.getD, List.getElem?_eq_getElem (show i < c1.length by omega)])
    have hi2 := hys.get i (c2.getD i 0) (by rw [List.getElem?_eq_getElem (by omega)]; simp [List.getD, List.getElem?_eq_getElem (show i < c2.length by omega)])
    obtain ⟨ta, ea⟩ := hi1
    obtain ⟨tb, eb⟩ := hi2
    have uu := Sub.trans u₁ (Sub.trans u3 u4)
    have hit : ((0 : Int) + i).toNat = i := by omega
    refine tests_one (ts_cmp (ev_item (ev_cell rfl rfl rfl (k1.keeps (Sub.trans u3 u4)) (ev_local rfl rfl rfl hm (op_item_list (x := .int (c1.getD i 0) ta) (isList_up ha uu) (by omega) (by omega) (by rw [hit]; simpa using ea)
      (ev_item (ev_cell rfl rfl rfl (k2.keeps (Sub.trans u3 u4)) (ev_local rfl rfl rfl hm (op_item_list (x := .int (c2.getD i 0) tb) (isList_up hb uu) (by omega) (by omega) (by rw [hit]; simpa using eb) (op_ge (op_truthB ?_)))))))))))
    simp
  · rintro i v g4 C m' _ _ u4 hm
    exact ev_local rfl rfl rfl hm trivial
  · rintro D zs vs g4 u4 hDn hlen hv hpair hD
    refine ev_list (evL_nil ⟨by decide, fun E g5 u5 hEn hE => op_eq_nil (isList_up hD.isList u5) ⟨_, hE, rfl, 0, rfl⟩ (by have := r.un; show A.units + 3 < cLine; omega) ⟨.nil, fun g6 u6 _ => ?_⟩⟩)
    have hz : (zs.size == 0) = leftD c1 c2 := by
      have e1 := hpair.length
      rw [ints_filter (q := fun k => decide (c2.getD k 0 ≤ c1.getD k 0)) hlen (fun j v hj => hv j v hj) (fun k t => by simp)] at e1
      have e2 : zs.size = ((List.range 7).filter fun k => decide (c2.getD k 0 ≤ c1.getD k 0)).length := by rw [e1]; simp
      rw [e2]
      unfold leftD
      rw [Bool.eq_iff_iff, beq_iff_eq, List.length_eq_zero_iff, List.filter_eq_nil_iff, List.all_eq_true]
      constructor
      · intro h k hk; have := h k hk; simp at this ⊢; omega
      · intro h k hk; have := h k hk; simp at this ⊢; omega
    have := h g6 (Sub.trans u₁ (Sub.trans u3 (Sub.trans u4 (Sub.trans u5 u6))))
    rw [← hz] at this
    exact this
end
end Mine
end
section
open PySem PySem.W PyProof.Rows
set_option Elab.async false
set_option maxRecDepth 100000
set_option linter.unusedVariables false
set_option maxHeartbeats 4000000
namespace Mine
/-- a list of leads -/
def IsRow (g : Heap) (a : Addr) (xs : List Addr) : Prop := ∃ arr, g.IsList a arr ∧ arr.toList = xs.map Value.ref
theorem IsRow.up {g g' : Heap} {a : Addr} {xs : List Addr} (h : IsRow g a xs) (u : Sub g g') : IsRow g' a xs := by obtain ⟨arr, h1, h2⟩ := h; exact ⟨arr, isList_up h1 u, h2⟩
/-- leads with their numbers -/
def Leads (g : Heap) (dat : Addr → WsD) (xs : List Addr) : Prop := ∀ x ∈ xs, IsWs g x (dat x) ∧ Sm (dat x)
theorem Leads.up {g g' : Heap} {dat : Addr → WsD} {xs : List Addr} (h : Leads g dat xs) (u : Sub g g') : Leads g' dat xs := fun x hx => ⟨(h x hx).1.up u, (h x hx).2⟩
theorem vs_eq {arr : Array Value} {vs : List Value} (hlen : vs.length = arr.size) (hv : ∀ (j : Nat) (v : Value), vs[j]? = some v → arr[j]? = some v) : vs = arr.toList := by
  refine List.ext_getElem? fun j => ?_
  cases e : vs[j]? with
  | some v => rw [Array.getElem?_toList]; exact (hv j v e).symm
  | none =>
    have := List.getElem?_eq_none_iff.mp e
    rw [Array.getElem?_toList, Array.getElem?_eq_none (by omega)]
theorem paired_eq {xs : List Value} {ys : List Value} (h : Paired (fun v y => y = v) xs ys) : ys = xs := by
  induction h with
  | nil => rfl
  | cons h _ ih => rw [h, ih]
theorem row_at {arr : Array Value} {xs : List Addr} (h : arr.toList = xs.map Value.ref) {i : Nat} {v : Value} (hv : arr[i]? = some v) : ∃ x ∈ xs, v = .ref x := by
  rw [← Array.getElem?_toList, h, List.getElem?_map] at hv
  obtain ⟨x, hx, rfl⟩ := Option.map_eq_some_iff.mp hv
  exact ⟨x, List.mem_of_getElem? hx, rfl⟩
theorem row_len {arr : Array Value} {xs : List Addr} (h : arr.toList = xs.map Value.ref) : arr.size = xs.length := by
  have := congrArg List.length h; simpa using this
/-- by what a reference points to -/
def onRef (f : Addr → Bool) : Value → Bool
  | .ref x => f x
  | _ => false
theorem filter_ref (f : Addr → Bool) (xs : List Addr) : (xs.map Value.ref).filter (onRef f) = (xs.filter f).map Value.ref := by
  induction xs with
  | nil => rfl
  | cons x r ih =>
    have e : onRef f (.ref x) = f x := rfl
    cases hf : f x with
    | true => rw [List.map_cons, List.filter_cons_of_pos (by rw [e, hf]), List.filter_cons_of_pos hf, ih, List.map_cons]
    | false => rw [List.map_cons, List.filter_cons_of_neg (by rw [e, hf]; decide), List.filter_cons_of_neg (by rw [hf]; decide), ih]
theorem none_any {zs : Array Value} {vs : List Value} {arr : Array Value} {ys : List Addr} {f : Addr → Bool} {F : Value → Value → Prop} (harr : arr.toList = ys.map Value.ref) (hlen : vs.length = arr.size) (hv : ∀ (j : Nat) (v : Value), vs[j]? = some v → arr[j]? = some v)
    (hp : Paired F (vs.filter (onRef f)) zs.toList) : (zs.size == 0) = !(ys.any f) := by
  have e := hp.length
  rw [vs_eq hlen hv, harr, filter_ref, List.length_map] at e
  have e2 : zs.size = (ys.filter f).length := by rw [e]; simp
  rw [e2, Bool.eq_iff_iff]
  simp

def joinD (dat : Addr → WsD) (xs ys : List Addr) : List Addr :=
  xs.filter (fun x => !(ys.any fun y => lessD (dat x) (dat y))) ++ ys.filter (fun y => !(xs.any fun x => lessD (dat y) (dat x)))
section
variable {prog : Program} {w : World} {A : Around} {g : Heap} {mg mb : Str → Option Value} {a b : Addr}
theorem f_joined {dat : Addr → WsD} {xs ys : List Addr} {P : Value → Heap → Prop} (r : Room A 3) (W : Wd w mg mb g) (ha : IsRow g a xs) (hb : IsRow g b ys) (hx : Leads g dat xs) (hy : Leads g dat ys) (l1 : xs.length ≤ 1000) (l2 : ys.length ≤ 1000)
    (h : ∀ D g', Sub g g' → IsRow g' D (joinD dat xs ys) → P (.ref D) g') : Op (model prog w) A g (call (.ref 120) [.ref a, .ref b]) P := by
  refine op_funC (K := hd.heap_39 w.params) (binds := [(Str.ofString "row", .ref a), (Str.ofString "other", .ref b)]) W.K W.lim (by k_is) (by k_is) r.depth rfl rfl rfl rfl rfl fun s₀ L g₁ hs₀ u₁ hc => ?_
  have k1 : g₁.IsCell (L + 1) (some (.ref a)) := hc (Str.ofString "row") (L + 1) rfl
  have k2 : g₁.IsCell (L + 2) (some (.ref b)) := hc (Str.ofString "other") (L + 2) rfl
  have W1 := W.up u₁
  obtain ⟨arr, hA, eA⟩ := ha
  obtain ⟨brr, hB, eB⟩ := hb
  have zA := row_len eA
  have zB := row_len eB
  have sl := sizeLine_eq
  refine bx_cons (bx_compC arr.size (fun i v => arr[i]? = some v) (onRef fun x => !(ys.any fun y => lessD (dat x) (dat y))) (fun v y => y = v) rfl rfl rfl (by with_unfolding_all rfl) (by with_unfolding_all rfl) (by intro _; with_unfolding_all rfl) (by intro _; with_unfolding_all rfl) rfl (by decide) (by with_unfolding_all rfl) (by intro _; with_unfolding_all rfl) ?_)
  refine ev_cell rfl rfl rfl k1 ⟨src_list (r.hd _) (isList_up hA u₁), by omega, ?_, ?_, ?_⟩
  · rintro i v g2 C m' hv u2 hcell
    obtain ⟨x, hxm, rfl⟩ := row_at eA hv
    have W2 := W1.up u2
    have uu := Sub.trans u₁ u2
    refine tests_one (ts_cmp ?_)
    refine ev_comp brr.size (fun i v => brr[i]? = some v) (onRef fun y => lessD (dat x) (dat y)) (fun _ _ _ => True) (fun _ _ _ _ _ _ => trivial) (by with_unfolding_all rfl) (by decide) rfl (by decide) rfl (by intro _; with_unfolding_all rfl) ?_
    refine ev_cell rfl rfl rfl (k2.keeps u2) ⟨src_list (r.hd _) (isList_up hB uu), by omega, ?_, ?_, ?_⟩
    · rintro j v g3 C3 m3 hv3 u3 hm3
      obtain ⟨y, hym, rfl⟩ := row_at eB hv3
      have W3 := W2.up u3
      have u03 := Sub.trans uu u3
      refine tests_one (ts_value (ev_meth (ev_cell rfl rfl rfl (hcell.keeps u3) (op_m_less W3 ((hx x hxm).1.up u03) (go_ref (KeepOk.of W3.K (by k_is)) (evL_cons (ev_local rfl rfl rfl hm3 (evL_nil (f_less ((r.less (by omega)).deeper _) W3 ((hx x hxm).1.up u03) ((hy y hym).1.up u03) (hx x hxm).2 (hy y hym).2 fun g4 u4 => op_truthB rfl)))))))))
    · rintro j v g3 C3 m3 _ _ u3 hm3
      exact ev_local rfl rfl rfl hm3 trivial
    · rintro D zs vs g4 u4 hDn hlen hvs hpair hD
      refine ev_list (evL_nil ⟨by decide, fun E g5 u5 hEn hE => op_eq_nil (isList_up hD.isList u5) ⟨_, hE, rfl, 0, rfl⟩ (by have := r.un; show A.units + 3 < cLine; omega) (op_truthB ?_)⟩)
      exact none_any eB hlen hvs hpair
  · rintro i v g2 C m' hv _ u2 hcell
    exact ev_cell rfl rfl rfl hcell rfl
  · rintro D zs vs g2 u2 hDn hlen hvs hpair hD
    have eD : zs.toList = (xs.filter fun x => !(ys.any fun y => lessD (dat x) (dat y))).map Value.ref := by
      rw [paired_eq hpair, vs_eq hlen hvs, eA, filter_ref]
    have uu := Sub.trans u₁ u2
    have W2 := W1.up u2
    refine bx_cons (bx_return (ev_bin (ev_local rfl rfl rfl rfl ?_)))
    refine ev_compC brr.size (fun i v => brr[i]? = some v) (onRef fun y => !(xs.any fun x => lessD (dat y) (dat x))) (fun v y => y = v) (by with_unfolding_all rfl) (by intro _; with_unfolding_all rfl) (by intro _; with_unfolding_all rfl) rfl (by decide) (by with_unfolding_all rfl) (by intro _; with_unfolding_all rfl) ?_
    refine ev_cell rfl rfl rfl (k2.keeps u2) ⟨src_list (r.hd _) (isList_up hB uu), by omega, ?_, ?_, ?_⟩
    · rintro i v g3 C m' hv u3 hcell
      obtain ⟨y, hym, rfl⟩ := row_at eB hv
      have W3 := W2.up u3
      have u03 := Sub.trans uu u3
      refine tests_one (ts_cmp ?_)
      refine ev_comp arr.size (fun i v => arr[i]? = some v) (onRef fun x => lessD (dat y) (dat x)) (fun _ _ _ => True) (fun _ _ _ _ _ _ => trivial) (by with_unfolding_all rfl) (by decide) rfl (by decide) rfl (by intro _; with_unfolding_all rfl) ?_
      refine ev_cell rfl rfl rfl (k1.keeps (Sub.trans u2 u3)) ⟨src_list (r.hd _) (isList_up hA u03), by omega, ?_, ?_, ?_⟩
      · rintro j v g4 C3 m3 hv3 u4 hm3
        obtain ⟨x, hxm, rfl⟩ := row_at eA hv3
        have W4 := W3.up u4
        have u04 := Sub.trans u03 u4
        refine tests_one (ts_value (ev_meth (ev_cell rfl rfl rfl (hcell.keeps u4) (op_m_less W4 ((hy y hym).1.up u04) (go_ref (KeepOk.of W4.K (by k_is)) (evL_cons (ev_local rfl rfl rfl hm3 (evL_nil (f_less ((r.less (by omega)).deeper _) W4 ((hy y hym).1.up u04) ((hx x hxm).1.up u04) (hy y hym).2 (hx x hxm).2 fun g4 u4 => op_truthB rfl)))))))))
      · rintro j v g3 C3 m3 _ _ u3 hm3
        exact ev_local rfl rfl rfl hm3 trivial
      · rintro D zs vs g4 u4 hDn hlen hvs hpair hD
        refine ev_list (evL_nil ⟨by decide, fun E g5 u5 hEn hE => op_eq_nil (isList_up hD.isList u5) ⟨_, hE, rfl, 0, rfl⟩ (by have := r.un; show A.units + 3 < cLine; omega) (op_truthB ?_)⟩)
        exact none_any eA hlen hvs hpair
    · rintro i v g2 C m' hv _ u2 hcell
      exact ev_cell rfl rfl rfl hcell rfl
    · rintro D2 zs2 vs2 g3 u3 hDn2 hlen2 hvs2 hpair2 hD2
      have eD2 : zs2.toList = (ys.filter fun y => !(xs.any fun x => lessD (dat y) (dat x))).map Value.ref := by
        rw [paired_eq hpair2, vs_eq hlen2 hvs2, eB, filter_ref]
      have n1 : zs.size ≤ xs.length := by have := congrArg List.length eD; simp at this; rw [this]; exact List.length_filter_le _ _
      have n2 : zs2.size ≤ ys.length := by have := congrArg List.length eD2; simp at this; rw [this]; exact List.length_filter_le _ _
      refine op_addL (isList_up hD.isList u3) hD2.isList (by omega) fun E g4 u4 hEn hE => ⟨.nil, fun g5 u5 _ => ?_⟩
      refine h E g5 (Sub.trans uu (Sub.trans u3 (Sub.trans u4 u5))) ⟨zs ++ zs2, ⟨_, u5 _ _ hE, rfl, 0, rfl⟩, ?_⟩
      rw [Array.toList_append, eD, eD2, ← List.map_append]; rfl
end
end Mine
end
section
open PySem PySem.W PyProof.Rows
set_option Elab.async false
set_option maxRecDepth 100000
set_option linter.unusedVariables false
set_option maxHeartbeats 4000000
namespace Mine
def laidD (dat : Addr → WsD) (xs : List Addr) (y : Addr) : List Addr :=
  if (xs.any fun x => nlwD (dat x) (dat y)) = true then xs else xs.filter (fun x => !nlwD (dat y) (dat x)) ++ [y]
section
variable {prog : Program} {w : World} {A : Around} {g : Heap} {mg mb : Str → Option Value} {a : Addr}
theorem f_laid {dat : Addr → WsD} {xs : List Addr} {y : Addr} {P : Value → Heap → Prop} (r : Room A 3) (W : Wd w mg mb g) (ha : IsRow g a xs) (hx : Leads g dat xs) (hy : IsWs g y (dat y)) (sy : Sm (dat y)) (l1 : xs.length ≤ 1000)
    (h : ∀ D g', Sub g g' → IsRow g' D (laidD dat xs y) → P (.ref D) g') : Op (model prog w) A g (call (.ref 125) [.ref a, .ref y]) P := by
  refine op_funC (K := hd.heap_39 w.params) (binds := [(Str.ofString "row", .ref a), (Str.ofString "lead", .ref y)]) W.K W.lim (by k_is) (by k_is) r.depth rfl rfl rfl rfl rfl fun s₀ L g₁ hs₀ u₁ hc => ?_
  have k1 : g₁.IsCell (L + 1) (some (.ref y)) := hc (Str.ofString "lead") (L + 1) rfl
  have W1 := W.up u₁
  obtain ⟨arr, hA, eA⟩ := ha
  have zA := row_len eA
  have sl := sizeLine_eq
  refine bx_cons (bx_if (ts_cmp ?_))
  refine ev_comp arr.size (fun i v => arr[i]? = some v) (onRef fun x => nlwD (dat x) (dat y)) (fun _ _ _ => True) (fun _ _ _ _ _ _ => trivial) (by with_unfolding_all rfl) (by decide) rfl (by decide) rfl (by intro _; with_unfolding_all rfl) ?_
  refine ev_local rfl rfl rfl rfl ⟨src_list (r.hd _) (isList_up hA u₁), by omega, ?_, ?_, ?_⟩
  · rintro i v g2 C m' hv u2 hm
    obtain ⟨x, hxm, rfl⟩ := row_at eA hv
    have W2 := W1.up u2
    have uu := Sub.trans u₁ u2
    refine tests_one (ts_cmp (ev_meth (ev_local rfl rfl rfl hm (op_m_nlw W2 ((hx x hxm).1.up uu) (go_ref (KeepOk.of W2.K (by k_is)) (evL_cons (ev_cell rfl rfl rfl (k1.keeps u2) (evL_nil (f_nlw ((r.less (by omega)).deeper _) W2 ((hx x hxm).1.up uu) (hy.up uu) (hx x hxm).2 sy fun D zs g3 u3 hD hz => ?_)))))))))
    exact ev_list (evL_nil ⟨by decide, fun E g5 u5 hEn hE => op_eq_nil (isList_up hD u5) ⟨_, hE, rfl, 0, rfl⟩ (by have := r.un; show A.units + 3 < cLine; omega) (op_truthB hz)⟩)
  · rintro i v g2 C m' hv _ u2 hm
    exact ev_local rfl rfl rfl hm trivial
  · rintro D zs vs g2 u2 hDn hlen hvs hpair hD
    have uu := Sub.trans u₁ u2
    have W2 := W1.up u2
    have hz := none_any eA hlen hvs hpair
    refine ev_list (evL_nil ⟨by decide, fun E g3 u3 hEn hE => op_ne_nil (isList_up hD.isList u3) ⟨_, hE, rfl, 0, rfl⟩ (by have := r.un; show A.units + 3 < cLine; omega) (op_truthB ?_)⟩)
    rw [hz, Bool.not_not]
    have u03 := Sub.trans uu u3
    have W3 := W2.up u3
    by_cases hany : (xs.any fun x => nlwD (dat x) (dat y)) = true
    · rw [if_pos hany]
      refine bx_cons (bx_return (ev_local rfl rfl rfl rfl ⟨.nil, fun g4 u4 _ => ?_⟩))
      refine h a g4 (Sub.trans u03 u4) ⟨arr, isList_up hA (Sub.trans u03 u4), ?_⟩
      unfold laidD; rw [if_pos hany]; exact eA
    · rw [if_neg hany]
      refine bx_nil (bx_cons (bx_return (ev_bin ?_)))
      refine ev_comp arr.size (fun i v => arr[i]? = some v) (onRef fun x => !nlwD (dat y) (dat x)) (fun v y _ => y = v) (fun _ _ _ _ _ h => h) (by with_unfolding_all rfl) (by decide) rfl (by decide) rfl (by intro _; with_unfolding_all rfl) ?_
      refine ev_local rfl rfl rfl rfl ⟨src_list (r.hd _) (isList_up hA u03), by omega, ?_, ?_, ?_⟩
      · rintro i v g4 C m' hv u4 hm
        obtain ⟨x, hxm, rfl⟩ := row_at eA hv
        have W4 := W3.up u4
        have u04 := Sub.trans u03 u4
        refine tests_one (ts_cmp (ev_meth (ev_cell rfl rfl rfl (k1.keeps (Sub.trans u2 (Sub.trans u3 u4))) (op_m_nlw W4 (hy.up u04) (go_ref (KeepOk.of W4.K (by k_is)) (evL_cons (ev_local rfl rfl rfl hm (evL_nil (f_nlw ((r.less (by omega)).deeper _) W4 (hy.up u04) ((hx x hxm).1.up u04) sy (hx x hxm).2 fun D zs g5 u5 hD hz => ?_)))))))))
        refine ev_list (evL_nil ⟨by decide, fun E g6 u6 hEn hE => op_ne_nil (isList_up hD u6) ⟨_, hE, rfl, 0, rfl⟩ (by have := r.un; show A.units + 3 < cLine; omega) (op_truthB ?_)⟩)
        show _ = !nlwD (dat y) (dat x)
        rw [hz]
      · rintro i v g4 C m' hv _ u4 hm
        exact ev_local rfl rfl rfl hm rfl
      · rintro D2 zs2 vs2 g4 u4 hDn2 hlen2 hvs2 hpair2 hD2
        have eD2 : zs2.toList = (xs.filter fun x => !nlwD (dat y) (dat x)).map Value.ref := by
          rw [paired_eq hpair2, vs_eq hlen2 hvs2, eA, filter_ref]
        have n2 : zs2.size ≤ xs.length := by have := congrArg List.length eD2; simp at this; rw [this]; exact List.length_filter_le _ _
        refine ev_list (evL_cons (ev_cell rfl rfl rfl (k1.keeps (Sub.trans u2 (Sub.trans u3 u4))) (evL_nil ⟨by simp [sizeLine_eq], fun E g5 u5 hEn hE => op_addL (isList_up hD2.isList u5) ⟨_, hE, rfl, 0, rfl⟩ (by simp; omega) fun Q g6 u6 hQn hQ => ⟨.nil, fun g7 u7 _ => ?_⟩⟩)))
        refine h Q g7 (Sub.trans u03 (Sub.trans u4 (Sub.trans u5 (Sub.trans u6 u7)))) ⟨_, ⟨_, u7 _ _ hQ, rfl, 0, rfl⟩, ?_⟩
        unfold laidD; rw [if_neg hany]
        rw [Array.toList_append, eD2, List.map_append]; rfl
end
end Mine
end
section
open PySem PySem.W PyProof.Rows
set_option Elab.async false
set_option maxRecDepth 100000
set_option linter.unusedVariables false
set_option maxHeartbeats 4000000
namespace Mine
section
variable {prog : Program} {w : World} {A : Around} {g : Heap} {mg mb : Str → Option Value} {a b c : Addr}
theorem row_get {arr : Array Value} {xs : List Addr} (h : arr.toList = xs.map Value.ref) {i : Nat} {x : Addr} (hx : xs[i]? = some x) : arr[i]? = some (.ref x) := by
  rw [← Array.getElem?_toList, h, List.getElem?_map, hx]; rfl
theorem f_very {ts xs : List Addr} {ds : List Int} {due : Array Value} {P : Value → Heap → Prop} (r : Room A 1) (W : Wd w mg mb g) (ha : IsRow g a ts) (hb : IsRow g b xs) (hc : g.IsList c due) (hd' : IntsAre due.toList ds)
    (hlen : ts.length = ds.length) (hall : ∀ k, k < ds.length → ∃ j x : Nat, ds[k]? = some (j : Int) ∧ j < 1000 ∧ ts[k]? = some x ∧ xs[j]? = some x) (l1 : ds.length ≤ 1000)
    (h : ∀ g', Sub g g' → P (.bool true) g') : Op (model prog w) A g (call (.ref 130) [.ref a, .ref b, .ref c]) P := by
  refine op_funC (K := hd.heap_39 w.params) (binds := [(Str.ofString "told", .ref a), (Str.ofString "leads", .ref b), (Str.ofString "due", .ref c)]) W.K W.lim (by k_is) (by k_is) r.depth rfl rfl rfl rfl rfl fun s₀ L g₁ hs₀ u₁ hcl => ?_
  have k1 : g₁.IsCell (L + 1) (some (.ref a)) := hcl (Str.ofString "told") (L + 1) rfl
  have k2 : g₁.IsCell (L + 2) (some (.ref b)) := hcl (Str.ofString "leads") (L + 2) rfl
  have k3 : g₁.IsCell (L + 3) (some (.ref c)) := hcl (Str.ofString "due") (L + 3) rfl
  have W1 := W.up u₁
  obtain ⟨arr, hA, eA⟩ := ha
  obtain ⟨brr, hB, eB⟩ := hb
  have zA := row_len eA
  have zB := row_len eB
  have zD : due.size = ds.length := by have := hd'.length; simpa using this
  have sl := sizeLine_eq
  refine bx_cons (bx_return (ev_and (ev_cmp ?_)))
  refine ev_call (ev_blt W1 (by k_is) (by boot_fast) (by decide) ?_ rfl rfl rfl rfl)
  refine go_builtin (evL_cons (ev_cell rfl rfl rfl k1 (evL_nil (op_len_list (isList_up hA u₁) (by omega) fun t1 => ?_))))
  refine ev_call (ev_blt W1 (by k_is) (by boot_fast) (by decide) ?_ rfl rfl rfl rfl)
  refine go_builtin (evL_cons (ev_cell rfl rfl rfl k3 (evL_nil (op_len_list (isList_up hc u₁) (by omega) fun t2 => op_eqI (op_truthB ?_)))))
  rw [show ((arr.size : Int) == (due.size : Int)) = true by rw [zA, zD, hlen]; simp, if_pos rfl]
  refine ev_cmp ?_
  refine ev_comp due.size (fun i v => i < due.size ∧ ∃ t, v = .int (0 + i) t) (fun _ => false) (fun _ _ _ => True) (fun _ _ _ _ _ _ => trivial) (by with_unfolding_all rfl) (by decide) rfl (by decide) rfl (by intro _; with_unfolding_all rfl) ?_
  refine ev_call (ev_blt W1 (by k_is) (by boot_fast) (by decide) ?_ rfl rfl rfl rfl)
  refine go_type (evL_cons (ev_call (ev_blt W1 (by k_is) (by boot_fast) (by decide) ?_ rfl rfl rfl rfl)))
  refine go_builtin (evL_cons (ev_cell rfl rfl rfl k3 (evL_nil (op_len_list (isList_up hc u₁) (by omega) fun t3 => evL_nil (op_range1 fun rr g3 t11 t12 u3 hnr hr => ?_)))))
  refine ⟨src_range (r.hd _) hr (small_of (by omega) (by omega) (by omega) (by omega)) (by rw [rangeSize_one]; split <;> omega), by omega, ?_, ?_, ?_⟩
  · rintro i v g4 C m' ⟨hi, tv, rfl⟩ u4 hm
    have uu := Sub.trans u₁ (Sub.trans u3 u4)
    have u34 := Sub.trans u3 u4
    obtain ⟨j, x, e1, hj, e2, e3⟩ := hall i (by omega)
    obtain ⟨tj, ej⟩ := hd'.get i j e1
    have hit : ((0 : Int) + i).toNat = i := by omega
    refine tests_one (ts_cmp (ev_item (ev_cell rfl rfl rfl (k1.keeps u34) (ev_local rfl rfl rfl hm (op_item_list (x := .ref x) (isList_up hA uu) (by omega) (by omega) (by rw [hit]; exact row_get eA e2)
      (ev_item (ev_cell rfl rfl rfl (k2.keeps u34) (ev_item (ev_cell rfl rfl rfl (k3.keeps u34) (ev_local rfl rfl rfl hm (op_item_list (x := .int j tj) (isList_up hc uu) (by omega) (by omega) (by rw [hit]; simpa using ej)
        (op_item_list (x := .ref x) (isList_up hB uu) (by omega) (by omega) (by rw [Int.toNat_natCast]; exact row_get eB e3) (op_isNot_self (op_truthB rfl))))))))))))))
  · rintro i v g4 C m' _ hf u4 hm
    cases hf
  · rintro D zs vs g4 u4 hDn hlen' hv hpair hD
    have hz : (zs.size == 0) = true := by
      have e := hpair.length
      have : vs.filter (fun _ => false) = [] := by rw [List.filter_eq_nil_iff]; simp
      rw [this] at e
      simpa using e.symm
    refine ev_list (evL_nil ⟨by decide, fun E g5 u5 hEn hE => op_eq_nil (isList_up hD.isList u5) ⟨_, hE, rfl, 0, rfl⟩ (by have := r.un; show A.units + 3 < cLine; omega) ⟨.nil, fun g6 u6 _ => ?_⟩⟩)
    have := h g6 (Sub.trans u₁ (Sub.trans u3 (Sub.trans u4 (Sub.trans u5 u6))))
    rw [hz]; exact this
end
end Mine
end
section
open PySem PySem.W PyProof.Rows
set_option Elab.async false
set_option maxRecDepth 100000
set_option linter.unusedVariables false
namespace Mine
section
variable {prog : Program} {w : World} {A : Around} {g : Heap} {K : Frag}
/-- xs * n -/
theorem op_mulL {l : Addr} {vs : List Value} {x : Int} {u : Tok} {P : Value → Heap → Prop} (hl : g.IsList l vs.toArray) (hlo : -(2 ^ 63 : Int) ≤ x) (hhi : x < 2 ^ 63) (hsz : vs.length * x.toNat ≤ 2 ^ 24)
    (h : ∀ a g', Sub g g' → g.get? a = none → g'.get? a = some { cls := .type "list", data := .seq (List.replicate x.toNat vs).flatten.toArray } → P (.ref a) g') : Op (model prog w) A g (binaryOp .Mult (.ref l) (.int x u)) P :=
  .new fun s hs => by
    obtain ⟨⟨cls, d, data, sl⟩, ho, hcl, k, hd⟩ := id hl
    simp only at hcl hd
    subst hcl hd
    have ho := hs _ _ ho
    have hsz' : vs.toArray.size * x.toNat ≤ 2 ^ 24 := by simpa using hsz
    refine wpAny_binaryOp_repeat_ref (T := "list") (U := "int") (by decide) ⟨_, ho, rfl⟩ (fun s' => typeIs_int s' x u) noFill_list_mul PySem.F.fills_int_mul PySem.F.slot_int_rmul repeat_list PySem.F.slot_int_index.lookup
      (call_meets PySem.F.slot_int_rmul (typeIs_int s x u) PySem.F.entry_int_rmul (PySem.F.args_int_rmul_2 _ _) (lm_int_rmul_list_any x u l vs.toArray k d sl)
        ⟨ho, rfl, ⟨_, ho, rfl⟩, call_meets PySem.F.slot_list_mul ⟨_, ho, rfl⟩ PySem.F.entry_list_mul (PySem.F.args_list_mul_2 _ _)
          (lm_list_mul_any l vs.toArray k d sl x u (by simp [Builtin.List.listFitsIndex]; omega) (by omega) (by simp [Builtin.List.listTooLong, sizeLine]; omega))
          ⟨ho, ?_⟩⟩)
    rw [listMul_foldl_if]
    exact ⟨⟨_, _, rfl, fun _ _ e => Heap.get?_push_of_some _ e⟩, fun g' u e => h _ g' u (new_none hs) (by rw [e _ (fresh_size _)]; exact Heap.get?_push_size _ rfl)⟩
/-- a class with a def __init__ is called -/
theorem op_make {C f : Addr} {name qual : Str} {params : Arguments} {body : List Stmt} {scope : Scope} {dV kV doc pm cdv ct oc : Value} {an od : Option Addr} {osl : Array (Option Value)} {rest : List Value} {binds : Addr → List (Str × Value)} {P : Value → Heap → Prop}
    (X : K.In g) (hlim : g.NoLimit) (hm : makesIn K C = true) (hi : findIn K (.ref C) "__init__" = some (some (.ref f))) (hf : typeIn K (.ref f) = some (.type "function"))
    (ho : K.lookup f = some ⟨oc, od, .func (fnOf name qual params body scope dV kV doc pm an cdv ct), osl⟩) (hcd : codeIn K cdv qual = true) (hroom : A.depth + 1 < recursionLimit)
    (hw : (Code.builtin "type.__call__" ⟨.ref C :: rest, []⟩).weight = 1)
    (hbind : ∀ (x : Addr) (s : Shared), BindsTo s (fnOf name qual params body scope dV kV doc pm an cdv ct) ⟨.ref x :: rest, []⟩ (binds x)) (hloc : ∀ x, ∀ y ∈ binds x, scope.names.lookup y.1 = some .local)
    (hcell : ∀ x ∈ scope.names, x.2 ≠ .cell) (hco : scope.isCoroutine = false) (hgen : scope.isGenerator = false) (hk : scope.kind = .function)
    (h : ∀ s₀ L x dx g₁, Sub g s₀.heap → Sub g g₁ → g₁.get? x = some (instObj C dx) →
      Bx (model prog w) ((A.under (.builtin "type.__call__" ⟨.ref C :: rest, []⟩)).deeper (envOf qual scope L f cdv)) s₀ g L (fun y => (binds x).reverse.lookup y) [(dx, dictOf [] 0)] g₁ (execs body (envOf qual scope L f cdv))
        (fun fl m' X' g' => flowV fl = .none ∧ Ends (fun _ g'' => P (.ref x) g'') fl m' X' g')) :
    Op (model prog w) A g (call (.ref C) rest) P := fun s hs => by
  obtain ⟨hh, gs, d, t, os⟩ := s
  have Xs := X.keeps hs
  refine wpAny_call (make_core (makes_of Xs hm) (looks_findIn Xs hi) (fun self => bind_fn Xs self hf) (.inl rfl) ?_)
  have hpp : Sub hh ((hh.push emptyDict).push (instObj C hh.objs.size)) := fun b o e => Heap.get?_push_of_some _ (Heap.get?_push_of_some _ e)
  refine codeAny_call_def (fd := fnOf name qual params body scope dV kV doc pm an cdv ct) (body := body) (binds := binds (hh.objs.size + 1)) (by show A.depth + _ < _; rw [hw]; exact hroom) (hpp _ _ (hs _ _ (X _ _ ho))) rfl ((hlim.keeps hs).keeps hpp) (codeRec_of (Xs.keeps hpp) hcd) rfl (hbind _ _) hcell (hloc _) (fun h₁ hns hk₁ => ?_) hco hgen hk
  have z2 : ((hh.push emptyDict).push (instObj C hh.objs.size)).objs.size = hh.objs.size + 2 := by rw [Heap.size_push, Heap.size_push]
  have k1 : h₁.get? hh.objs.size = some (dictOf [] 0) := hk₁ _ _ (Heap.get?_push_of_some _ (Heap.get?_push_size _ rfl))
  have k2 : h₁.get? (hh.objs.size + 1) = some (instObj C hh.objs.size) := hk₁ _ _ (by heap_get)
  have hnone : ∀ i, hh.objs.size ≤ i → hh.get? i = none := fun i hi => Heap.get?_none_of_le hi
  have gnone : ∀ i, hh.objs.size ≤ i → g.get? i = none := fun i hi => by
    cases q : g.get? i with
    | none => rfl
    | some o => have e : hh.get? i = some o := hs _ _ q; rw [hnone i hi] at e; cases e
  obtain ⟨g₁, eg⟩ := exists_heap h₁.objs.size (fun a => if a = hh.objs.size + 1 then some (instObj C hh.objs.size) else g.get? a) (fun i o q => by
    split at q
    · cases q; rename_i e; subst e; exact ⟨Heap.lt_size k2, rfl⟩
    · have := hk₁ _ _ (hpp _ _ (hs _ _ q)); exact ⟨Heap.lt_size this, (Heap.get?_some_iff.mp this).2⟩)
  have up₁ : Sub g g₁ := fun b o e => by
    rw [eg, if_neg (fun q => by rw [q, gnone _ (Nat.le_succ _)] at e; cases e)]; exact e
  have neq : ∀ n : Nat, n ≠ n + 1 := fun n => Nat.ne_of_lt (Nat.lt_succ_self n)
  have F : Fm ⟨hh, gs, d, t, os⟩ g ((hh.push emptyDict).push (instObj C hh.objs.size)).objs.size (fun y => (binds (hh.objs.size + 1)).reverse.lookup y) [(hh.objs.size, dictOf [] 0)] g₁ ⟨h₁, gs, d, t + (binds (hh.objs.size + 1)).length, os⟩ := by
    refine ⟨⟨h₁, _, rfl⟩, hns, fun b o e => hk₁ _ _ (hpp _ _ e), ?_, fun b o e => ?_, ?_, up₁, fun a o e => ?_, fun p hp => ?_⟩
    · show hh.get? _ = none
      rw [z2]; exact hnone _ (Nat.le_add_right _ _)
    · rw [eg] at e
      split at e
      · cases e; rename_i q; subst q; exact k2
      · exact hk₁ _ _ (hpp _ _ (hs _ _ e))
    · rw [z2, eg, if_neg (fun q => neq _ q.symm)]; exact gnone _ (Nat.le_add_right _ _)
    · rw [eg, if_neg (fun q => by rw [q, hnone _ (Nat.le_succ _)] at e; cases e)]
    · rw [List.mem_singleton.mp hp]
      refine ⟨k1, ?_, ?_, hnone _ (Nat.le_refl _)⟩
      · rw [z2]; exact Nat.ne_of_lt (Nat.lt_succ_of_lt (Nat.lt_succ_self _))
      · rw [eg, if_neg (neq _)]; exact gnone _ (Nat.le_refl _)
  refine wpAny_mono (h ⟨hh, gs, d, t, os⟩ _ (hh.objs.size + 1) hh.objs.size g₁ hs up₁ (by rw [eg, if_pos rfl]) _ F) (fun fl s' h' => ?_) fun _ _ x => x.elim
  obtain ⟨m', X', g', F', O', hnv, hr⟩ := h'
  have := F'.end hr
  cases fl <;> exact ⟨hnv, this⟩
end
section
variable {prog : Program} {w : World} {A : Around} {s₀ : Shared} {g₀ g : Heap} {L : Addr} {m : Str → Option Value} {X : List (Addr × Obj)} {env : Env} {R : Flow → (Str → Option Value) → List (Addr × Obj) → Heap → Prop}
theorem Fm.seeN {s s' : Shared} {gp g' : Heap} (F : Fm s₀ g₀ L m X g s) (p1 : Sub g gp) (p2 : ∀ p ∈ X, gp.get? p.1 = some p.2) (p4 : gp.get? L = none) (k : Keeps s s') (u : Gr gp s s' g') :
    ∃ g'', Fm s₀ g₀ L m X g'' s' ∧ Oth L X g s X g'' s' ∧ Sub g g'' ∧ ∀ a o, g'.get? a = some o → gp.get? a = none → g''.get? a = some o := by
  obtain ⟨g'', eg⟩ := exists_heap s'.heap.objs.size (fun a => if gp.get? a = none then g'.get? a else g.get? a) (fun i o q => by
    split at q
    · have := u.sub _ _ q; exact ⟨Heap.lt_size this, (Heap.get?_some_iff.mp this).2⟩
    · have := keeps_sub k _ _ (F.sub _ _ q); exact ⟨Heap.lt_size this, (Heap.get?_some_iff.mp this).2⟩)
  have up : Sub g g'' := fun a o e => by rw [eg, if_neg (by rw [p1 _ _ e]; exact fun q => nomatch q)]; exact e
  obtain ⟨oL, hoL⟩ := F.live
  have F' := (F.keeps' k).1
  have O' := (F.keeps' k).2
  refine ⟨g'', ⟨F'.same, F'.ns, F'.base, F'.newL, fun a o e => ?_, ?_, Sub.trans F.up up, fun a o e => ?_, fun p hp => ?_⟩, ⟨O'.keep, O'.alive, O'.new, fun a o e hg => ?_⟩, up, fun a o e hn => by rw [eg, if_pos hn]; exact e⟩
  · rw [eg] at e
    split at e
    · exact u.sub _ _ e
    · exact keeps_sub k _ _ (F.sub _ _ e)
  · rw [eg, if_pos p4, u.fresh _ _ hoL]; exact p4
  · rw [eg]
    split
    · rename_i q
      rw [u.fresh _ _ (F.base a o e), q, ← F.fresh a o e]
      cases q' : g.get? a with
      | none => rfl
      | some x => rw [p1 _ _ q'] at q; cases q
    · exact F.fresh a o e
  · obtain ⟨a, b, c, d⟩ := F'.own p hp
    exact ⟨a, b, by rw [eg, if_neg (by rw [p2 p hp]; exact fun q => nomatch q)]; exact c, d⟩
  · rw [eg]
    split
    · rename_i q; rw [u.fresh _ _ e]; exact q
    · exact hg
/-- self.name = e, where e makes new objects -/
theorem bx_setattrN {K : Frag} {x : Str} {e : Expr} {po apos pos : Pos} {a C dx : Addr} {ox : Obj} {es : List DictEntry} {n : Nat} {name : Str} {pre post : List (Addr × Obj)}
    (hnd : (pre ++ (dx, dictOf es n) :: post).Pairwise fun p q => p.1 ≠ q.1) (XK : K.In g)
    (hl : env.locals = L) (hk : env.scope.kind = .function) (ho : env.kindOf x = some .local) (hv : m x = some (.ref a))
    (hx : g.get? a = some ox) (hcls : ox.cls = .ref C) (hno : notCls ox = true) (hdx : ox.dict = some dx)
    (h1 : findIn K (.ref C) "__setattr__" = some (some (.builtin "object.__setattr__"))) (h2 : plainOver K C = true) (h3 : takerIn K C name = some none) (h4 : hasDictIn K C = true) (h5 : (getL name es).isSome = true)
    (h : ∀ gp, Sees g (pre ++ (dx, dictOf es n) :: post) gp → Ev (model prog w) A gp L m env e (fun v g' => ∀ t g'', Sub g g'' → (∀ a o, g'.get? a = some o → gp.get? a = none → g''.get? a = some o) → ∃ es' n', (putL name (PyData.keyHash w.params name) (.str name t) v es, putN name es n) = (es', n') ∧ es'.length ≤ 1000 ∧
      R .next m (pre ++ (dx, dictOf es' n') :: post) g''))
    (hd : (x == ("__debug__" : Str)) = false := by decide)
    (hs : swapsWith e (some (.Attribute (.Name x po) name apos)) pos.line env = pure false := by rfl) :
    Bx (model prog w) A s₀ g₀ L m (pre ++ (dx, dictOf es n) :: post) g (exec (.Assign [.Attribute (.Name x po) name apos] e pos) env) R := fun s F => by
  subst hl
  obtain ⟨gp, p1, p2, p3, p4, p5⟩ := F.see hnd
  have hmem : (dx, dictOf es n) ∈ pre ++ (dx, dictOf es n) :: post := List.mem_append_right _ (.head _)
  refine plainObj_wpAny_Assign_Attribute ((h gp ⟨p1, p2⟩ s ⟨p3, F.ns⟩).any fun v s₁ g₁ k₁ u₁ hv' => ?_) hs
  refine wpAny_Name (wpAny_loadName_local hk ho (F.ns.keeps (keeps_sub k₁)) hv ?_) hd
  obtain ⟨gn, F₁, O₁, un, hn⟩ := F.seeN p1 p2 p4 k₁ u₁
  obtain ⟨es', n', e', hz, hR⟩ := hv' (s₁.toks + 1) gn un hn
  have hD := (F₁.own _ hmem).1
  refine set_same (K := K) (C := C) (ox := ox) ((XK.keeps un).keeps F₁.sub) ⟨F₁.sub _ _ (un _ _ hx), hcls, hno, by rw [hdx]; exact hD⟩ hdx h1 h2 h3 h4 h5 e' hz fun h' hsb hd' => ?_
  obtain ⟨F₂, O₂⟩ := F₁.turn (tk := s₁.toks + 2) hnd hsb hd'
  exact ⟨_, _, gn, F₂, O₁.trans O₂, hR⟩
end
end Mine
end
section
open PySem PySem.W PyProof.Rows
set_option Elab.async false
set_option maxRecDepth 100000
set_option linter.unusedVariables false
set_option maxHeartbeats 4000000
namespace Mine
def WsD.sp (d : WsD) : WsD := ⟨d.count, d.b + 1, d.n + 1, d.nt⟩
def WsD.wide (d : WsD) : List Int := if (d.count.length : Int) ≤ d.b then d.count ++ (List.replicate (d.b - d.count.length + 1).toNat [(0 : Int)]).flatten else d.count
def WsD.tab (d : WsD) : WsD := ⟨d.wide.set d.b.toNat (d.wide.getD d.b.toNat 0 + 1), 0, d.n + 1, d.nt + 1⟩
def scan : List Nat → WsD → WsD
  | [], d => d
  | c :: r, d => if c = 32 then scan r d.sp else if c = 9 then scan r d.tab else d
def WsD.zero : WsD := ⟨[], 0, 0, 0⟩
theorem ints_set : ∀ {vs : List Value} {ns : List Int}, IntsAre vs ns → ∀ (i : Nat) (v : Int) (t : Tok), IntsAre (vs.set i (.int v t)) (ns.set i v)
  | _, _, .nil, _, _, _ => .nil
  | _, _, .cons n t' h, 0, v, t => .cons v t h
  | _, _, .cons n t' h, i + 1, v, t => .cons n t' (ints_set h i v t)
theorem wide_len (d : WsD) (h0 : 0 ≤ d.b) : d.b.toNat < d.wide.length ∧ (d.wide.length : Int) ≤ max (d.count.length : Int) (d.b + 1) := by
  unfold WsD.wide
  split
  · rw [List.length_append, KM.len_rep]
    simp only [List.length_cons, List.length_nil]
    omega
  · omega
structure ScOk (j : Nat) (d : WsD) : Prop where
  b0 : 0 ≤ d.b
  bj : d.b ≤ j
  len : d.count.length ≤ j + 1
theorem ScOk.sp {j : Nat} {d : WsD} (h : ScOk j d) : ScOk (j + 1) d.sp := ⟨by have := h.b0; show 0 ≤ d.b + 1; omega, by have := h.bj; show d.b + 1 ≤ ((j + 1 : Nat) : Int); omega, by have := h.len; show d.count.length ≤ _; omega⟩
theorem ScOk.tab {j : Nat} {d : WsD} (h : ScOk j d) : ScOk (j + 1) d.tab := ⟨by show (0 : Int) ≤ 0; decide, by show (0 : Int) ≤ ((j + 1 : Nat) : Int); omega, by
  have := h.bj; have := h.len; have := (wide_len d h.b0).2
  show (d.wide.set _ _).length ≤ _
  rw [List.length_set]; omega⟩
abbrev entr (w : World) (name : Str) (t : Tok) (v : Value) : DictEntry := ⟨PyData.keyHash w.params name, .str name t, v⟩
def LO (o : Obj) (ys : Array Value) : Prop := o.cls = .type "list" ∧ ∃ n, o.data = .seq ys n
section
variable {prog : Program} {w : World} {A : Around} {g : Heap} {mg mb : Str → Option Value}
theorem f_make {x : Str} {t : Tok} {P : Value → Heap → Prop} (r : Room A 2) (W : Wd w mg mb g) (hx : x.cps.size ≤ 20) (h : ∀ a g', Sub g g' → IsWs g' a (scan x.cps.toList .zero) → P (.ref a) g') :
    Op (model prog w) A g (call (.ref 92) [.str x t]) P := by
  refine op_make (K := hd.heap_39 w.params) (f := 47) (binds := fun a => [(Str.ofString "self", .ref a), (Str.ofString "ws", .str x t)]) W.K W.lim (by k_is) (by k_is) (by k_is) (by k_is) (by k_is) (by have := r.dp; omega) rfl (fun x s => BindsTo.of_eq rfl) (fun x => locs rfl) (by decide) rfl rfl rfl fun s₀ L a dx g₁ hs₀ u₁ hinst => ?_
  have W1 := W.up u₁
  refine bx_cons (bx_setattr (K := hd.heap_39 w.params) (C := 92) (a := a) (es := []) (es' := []) (n' := 0) (pre := []) (post := []) (by simp) W1.K rfl rfl rfl rfl hinst rfl rfl rfl (by k_is) (by k_is) (by k_is) (by k_is) rfl fun gp hgp => ev_local rfl rfl rfl rfl fun t1 => ⟨[entr w "raw" t1 (.str x t)], 1, rfl, Nat.le_of_ble_eq_true rfl, ?_⟩)
  have sl := sizeLine_eq
  refine bx_cons (bx_pairS (by simp) r.hh rfl rfl rfl rfl fun gp hgp => ?_)
  have Wp := W1.up hgp.1
  refine ev_tuple (evL_cons (ev_attr (ev_glob Wp (by k_is) (op_getcls (mc := .type "type") Wp.K (by k_is) (by k_is) rfl ?_) rfl rfl rfl)))
  refine evL_cons (ev_attr (ev_glob Wp (by k_is) (op_getcls (mc := .type "type") Wp.K (by k_is) (by k_is) rfl ?_) rfl rfl rfl))
  refine evL_nil ⟨by decide, fun tp gq uq htn ht => ⟨tp, _, _, rfl, ⟨_, ht, rfl, 0, rfl⟩, ?_⟩⟩
  refine bx_cons (bx_assignN (X' := [(dx, dictOf [entr w "raw" t1 (.str x t)] 1)]) (fun p hp => hp) (by simp) rfl rfl rfl fun gp hgp => ev_list (evL_nil ⟨by decide, fun D gq uq hDn hD => ⟨D, _, rfl, hDn, hD, fun hne => ?_⟩⟩))
  refine bx_cons (bx_three rfl rfl rfl rfl rfl (ev_int fun t2 => ?_))
  refine bx_cons (bx_imp (R := fun f m' X' g' => f = .next ∧ g₁ = g' ∧ ∃ C ys o, X' = [(C, o), (dx, dictOf [entr w "raw" t1 (.str x t)] 1)] ∧ LO o ys ∧ C ≠ dx ∧ ys.size ≤ 100 ∧ IntsAre ys.toList (scan x.cps.toList .zero).count ∧
      m' (Str.ofString "self") = some (.ref a) ∧ m' (Str.ofString "count") = some (.ref C) ∧
      (∃ t, m' (Str.ofString "b") = some (.int (scan x.cps.toList .zero).b t)) ∧ (∃ t, m' (Str.ofString "n") = some (.int (scan x.cps.toList .zero).n t)) ∧ (∃ t, m' (Str.ofString "nt") = some (.int (scan x.cps.toList .zero).nt t))) ?_ ?_)
  · refine bx_forX x.cps.size (SignAt x)
      (fun j m' X' g' => g₁ = g' ∧ ∃ d C ys o, X' = [(C, o), (dx, dictOf [entr w "raw" t1 (.str x t)] 1)] ∧ LO o ys ∧ C ≠ dx ∧ IntsAre ys.toList d.count ∧ ScOk j d ∧ scan x.cps.toList .zero = scan (x.cps.toList.drop j) d ∧
        m' (Str.ofString "self") = some (.ref a) ∧ (∃ t, m' (Str.ofString "S") = some (.str (Str.ofString " ") t)) ∧ (∃ t, m' (Str.ofString "T") = some (.str (Str.ofString "\t") t)) ∧ m' (Str.ofString "count") = some (.ref C) ∧
        (∃ t, m' (Str.ofString "b") = some (.int d.b t)) ∧ (∃ t, m' (Str.ofString "n") = some (.int d.n t)) ∧ (∃ t, m' (Str.ofString "nt") = some (.int d.nt t))) (by simp; exact Ne.symm (hne _ (.head _))) rfl rfl rfl fun gp hgp => ?_
    have Wp := W1.up hgp.1
    refine ev_attr (ev_local rfl rfl rfl rfl (op_getown (v := .str x t) Wp.K ⟨hgp.1 _ _ hinst, rfl, rfl, hgp.2 _ (.tail _ (.head _))⟩ (by k_is) (by k_is) (by k_is) (by k_is) rfl rfl ?_))
    refine ⟨src_str r.hh, ⟨rfl, .zero, D, #[], _, rfl, ⟨rfl, 0, rfl⟩, Ne.symm (hne _ (.head _)), .nil, ⟨by decide, by decide, by decide⟩, by simp, rfl, ⟨_, rfl⟩, ⟨_, rfl⟩, rfl, ⟨_, rfl⟩, ⟨_, rfl⟩, ⟨_, rfl⟩⟩, ?_, ?_⟩
    · rintro j v m' X' g' ⟨c, uc, hc, rfl⟩ hj u2 ⟨rfl, d, C, ys, o, rfl, hO, hC, hys, ok, hsc, ms, ⟨tS, mS⟩, ⟨tT, mT⟩, mc, ⟨tb, mb'⟩, ⟨tn, mn⟩, ⟨tnt, mnt⟩⟩
      have hcl : x.cps.toList[j]? = some c := by simpa using hc
      have hdrop : x.cps.toList.drop j = c :: x.cps.toList.drop (j + 1) := by
        have hjl : j < x.cps.toList.length := by simpa using hj
        rw [List.drop_eq_getElem_cons hjl]
        congr 1
        rw [List.getElem?_eq_getElem hjl] at hcl; exact Option.some.inj hcl
      rw [hdrop] at hsc
      have hyl := hys.length
      rw [Array.length_toList] at hyl
      have b0 := ok.b0
      have bj := ok.bj
      have ln := ok.len
      refine bx_cons (bx_if (ts_cmp (ev_local rfl rfl rfl rfl (ev_local rfl rfl rfl mS (op_eqS (op_truthB ?_))))))
      rw [sign_eq c 32 _ sp_is]
      by_cases h32 : c = 32
      · rw [decide_eq_true h32, if_pos rfl]
        refine bx_cons (bx_assign rfl rfl rfl (ev_bin (ev_local rfl rfl rfl mn (ev_int fun t2 => op_add fun t3 => ?_))))
        refine bx_cons (bx_assign rfl rfl rfl (ev_bin (ev_local rfl rfl rfl mb' (ev_int fun t4 => op_add fun t5 => ?_))))
        refine bx_nil (bx_nil ⟨fun _ _ e => e, rfl, d.sp, C, ys, o, rfl, hO, hC, hys, ok.sp, ?_, ms, ⟨tS, mS⟩, ⟨tT, mT⟩, mc, ⟨t5, rfl⟩, ⟨t3, rfl⟩, ⟨tnt, mnt⟩⟩)
        rw [hsc]; simp [scan, h32]
      rw [decide_eq_false h32, if_neg (by decide)]
      refine bx_cons (bx_if (ts_cmp (ev_local rfl rfl rfl rfl (ev_local rfl rfl rfl mT (op_eqS (op_truthB ?_))))))
      rw [sign_eq c 9 _ tab_is]
      by_cases h9 : c = 9
      · rw [decide_eq_true h9, if_pos rfl]
        refine bx_cons (bx_assign rfl rfl rfl (ev_bin (ev_local rfl rfl rfl mn (ev_int fun t2 => op_add fun t3 => ?_))))
        refine bx_cons (bx_assign rfl rfl rfl (ev_bin (ev_local rfl rfl rfl mnt (ev_int fun t4 => op_add fun t5 => ?_))))
        refine bx_cons (bx_imp (R := fun f m' X' g' => f = .next ∧ g₁ = g' ∧ ∃ C' ys' o', X' = [(C', o'), (dx, dictOf [entr w "raw" t1 (.str x t)] 1)] ∧ LO o' ys' ∧ C' ≠ dx ∧ IntsAre ys'.toList d.wide ∧
          m' (Str.ofString "self") = some (.ref a) ∧ m' (Str.ofString "S") = some (.str (Str.ofString " ") tS) ∧ m' (Str.ofString "T") = some (.str (Str.ofString "\t") tT) ∧ m' (Str.ofString "count") = some (.ref C') ∧
          m' (Str.ofString "b") = some (.int d.b tb) ∧ m' (Str.ofString "n") = some (.int (d.n + 1) t3) ∧ m' (Str.ofString "nt") = some (.int (d.nt + 1) t5)) ?_ ?_)
        · refine bx_ifX (by simp; exact hC) fun gp hgp => ?_
          have Wp := W1.up hgp.1
          have hCl : gp.IsList C ys := ⟨_, hgp.2 _ (.head _), hO.1, hO.2⟩
          refine ts_cmp (ev_local rfl rfl rfl mb' (ev_call (ev_blt Wp (by k_is) (by boot_fast) (by decide) ?_ rfl rfl rfl rfl)))
          refine go_builtin (evL_cons (ev_local rfl rfl rfl mc (evL_nil (op_len_list hCl (by omega) fun t6 => op_ge (op_truthB ?_)))))
          by_cases hw : (ys.size : Int) ≤ d.b
          · rw [decide_eq_true hw, if_pos rfl]
            refine bx_cons (bx_assignN (X' := [(dx, dictOf [entr w "raw" t1 (.str x t)] 1)]) (fun p hp => .tail _ hp) (by simp; exact hC) rfl rfl rfl fun gp hgp => ?_)
            have Wp := W1.up hgp.1
            have hCl : gp.IsList C ys := ⟨_, hgp.2 _ (.head _), hO.1, hO.2⟩
            refine ev_bin (ev_local rfl rfl rfl mc (ev_bin (ev_list (evL_cons (ev_int fun t7 => evL_nil ⟨by simp [sl], fun Z gz uz hZn hZ => ?_⟩)))))
            have Wz := Wp.up uz
            refine ev_bin (ev_bin (ev_local rfl rfl rfl mb' (ev_call (ev_blt Wz (by k_is) (by boot_fast) (by decide) ?_ rfl rfl rfl rfl))))
            refine go_builtin (evL_cons (ev_local rfl rfl rfl mc (evL_nil (op_len_list (isList_up hCl uz) (by omega) fun t8 => op_sub fun t9 => ev_int fun t10 => op_add fun t11 => ?_))))
            refine op_mulL (vs := [.int 0 t7]) ⟨_, hZ, rfl, 0, rfl⟩ (by omega) (by omega) (by simp only [List.length_cons, List.length_nil]; omega) fun Y gy uy hYn hY => ?_
            refine op_addL (isList_up (isList_up hCl uz) uy) ⟨_, hY, rfl, 0, rfl⟩ ?_ fun V gv uv hVn hV => ?_
            · have e := KM.size_rep (vs := [.int 0 t7]) (.cons 0 t7 .nil) (d.b - ys.size + 1).toNat
              rw [e, sl]; simp only [List.length_cons, List.length_nil]; omega
            have hVp : gp.get? V = none := by
              cases q : gp.get? V with
              | none => rfl
              | some o => rw [uy _ _ (uz _ _ q)] at hVn; cases hVn
            refine ⟨V, _, rfl, hVp, hV, fun hneV => bx_nil ⟨rfl, rfl, V, _, _, rfl, ⟨rfl, 0, rfl⟩, hneV _ (.tail _ (.head _)) ∘ Eq.symm, ?_, ms, mS, mT, rfl, mb', rfl, rfl⟩⟩
            rw [Array.toList_append]
            have e := KM.ints_rep (vs := [.int 0 t7]) (ns := [0]) (.cons 0 t7 .nil) (d.b - ys.size + 1).toNat
            have := hys.append e
            unfold WsD.wide
            rw [← hyl, if_pos hw]
            exact this
          · rw [decide_eq_false hw, if_neg (by decide)]
            refine bx_nil ⟨rfl, rfl, C, ys, o, rfl, hO, hC, ?_, ms, mS, mT, mc, mb', rfl, rfl⟩
            unfold WsD.wide
            rw [← hyl, if_neg hw]
            exact hys
        · rintro f m2 X2 g2 ⟨rfl, rfl, C', ys', o', rfl, hO', hC', hys', ms2, mS2, mT2, mc2, mb2, mn2, mnt2⟩
          have wl := (wide_len d b0).1
          have hyl' := hys'.length
          rw [Array.length_toList] at hyl'
          obtain ⟨tv, hv⟩ := hys'.get d.b.toNat (d.wide.getD d.b.toNat 0) (by rw [List.getD_eq_getElem?_getD, List.getElem?_eq_getElem wl]; rfl)
          refine bx_cons (bx_setitem (pre := []) (ys := ys') (by simp; exact hC') hO'.1 hO'.2 rfl rfl rfl mc2 fun gp hgp => ?_)
          have hCl : gp.IsList C' ys' := ⟨_, hgp.2 _ (.head _), hO'.1, hO'.2⟩
          refine ev_bin (ev_item (ev_local rfl rfl rfl mc2 (ev_local rfl rfl rfl mb2 (op_item_list (x := .int (d.wide.getD d.b.toNat 0) tv) hCl b0 (by omega) (by simpa using hv) (ev_int fun t6 => op_add fun t7 => ?_)))))
          refine ev_local rfl rfl rfl mb2 ⟨d.b, tb, rfl, b0, by omega, by omega, fun o2 ho1 ho2 => ?_⟩
          refine bx_cons (bx_assign rfl rfl rfl (ev_int fun t8 => ?_))
          refine bx_nil (bx_nil (bx_nil ⟨fun _ _ e => e, rfl, d.tab, C', _, o2, rfl, ⟨ho1, ho2⟩, hC', ?_, ok.tab, ?_, ms2, ⟨tS, mS2⟩, ⟨tT, mT2⟩, mc2, ⟨t8, rfl⟩, ⟨t3, mn2⟩, ⟨t5, mnt2⟩⟩))
          · rw [Array.toList_setIfInBounds]; exact ints_set hys' _ _ _
          · rw [hsc]; simp [scan, h32, h9]
      · rw [decide_eq_false h9, if_neg (by decide)]
        have hfin : scan x.cps.toList .zero = d := by rw [hsc]; simp [scan, h32, h9]
        refine bx_cons (bx_break ⟨rfl, rfl, C, ys, o, rfl, hO, hC, by omega, by rw [hfin]; exact hys, ms, mc, by rw [hfin]; exact ⟨tb, mb'⟩, by rw [hfin]; exact ⟨tn, mn⟩, by rw [hfin]; exact ⟨tnt, mnt⟩⟩)
    · rintro m' X' g' u ⟨rfl, d, C, ys, o, rfl, hO, hC, hys, ok, hsc, ms, ⟨tS, mS⟩, ⟨tT, mT⟩, mc, ⟨tb, mb'⟩, ⟨tn, mn⟩, ⟨tnt, mnt⟩⟩
      have hfin : scan x.cps.toList .zero = d := by rw [hsc, List.drop_of_length_le (by simp)]; rfl
      have hyl := hys.length
      rw [Array.length_toList] at hyl
      have ln := ok.len
      exact ⟨rfl, rfl, C, ys, o, rfl, hO, hC, by omega, by rw [hfin]; exact hys, ms, mc, by rw [hfin]; exact ⟨tb, mb'⟩, by rw [hfin]; exact ⟨tn, mn⟩, by rw [hfin]; exact ⟨tnt, mnt⟩⟩
  · rintro f m2 X2 g2 ⟨rfl, rfl, C, ys, o, rfl, hO, hC, hsz, hys, ms, mc, ⟨tb, mb'⟩, ⟨tn, mn⟩, ⟨tnt, mnt⟩⟩
    generalize hD : scan x.cps.toList .zero = d at *
    have hC' : ∀ v w' : Obj, [(C, v), (dx, w')].Pairwise fun p q => p.1 ≠ q.1 := fun v w' => by simp; exact hC
    refine bx_cons (bx_setattr (K := hd.heap_39 w.params) (C := 92) (a := a) (es' := []) (n' := 0) (pre := [(C, o)]) (post := []) (hC' _ _) W1.K rfl rfl rfl ms hinst rfl rfl rfl (by k_is) (by k_is) (by k_is) (by k_is) rfl fun gp hgp => ev_local rfl rfl rfl mn fun t3 => ⟨[entr w "raw" t1 (.str x t), entr w "n" t3 (.int d.n tn)], 2, rfl, Nat.le_of_ble_eq_true rfl, ?_⟩)
    refine bx_cons (bx_setattr (K := hd.heap_39 w.params) (C := 92) (a := a) (es' := []) (n' := 0) (pre := [(C, o)]) (post := []) (hC' _ _) W1.K rfl rfl rfl ms hinst rfl rfl rfl (by k_is) (by k_is) (by k_is) (by k_is) rfl fun gp hgp => ev_local rfl rfl rfl mnt fun t4 => ⟨[entr w "raw" t1 (.str x t), entr w "n" t3 (.int d.n tn), entr w "nt" t4 (.int d.nt tnt)], 3, rfl, Nat.le_of_ble_eq_true rfl, ?_⟩)
    refine bx_cons (bx_setattrN (K := hd.heap_39 w.params) (C := 92) (a := a) (pre := [(C, o)]) (post := []) (hC' _ _) W1.K rfl rfl rfl ms hinst rfl rfl rfl (by k_is) (by k_is) (by k_is) (by k_is) rfl fun gp hgp => ?_)
    have Wp := W1.up hgp.1
    have hCl : gp.IsList C ys := ⟨_, hgp.2 _ (.head _), hO.1, hO.2⟩
    refine ev_tuple (evL_cons (ev_call (ev_blt Wp (by k_is) (by boot_fast) (by decide) ?_ rfl rfl rfl rfl)))
    refine go_type (evL_cons (ev_local rfl rfl rfl mc (evL_nil (op_tuple (by omega) (fun s hs => isList_up hCl hs) fun c g3 u3 hcn hc => ?_))))
    refine evL_cons (ev_local rfl rfl rfl mb' (evL_nil ⟨by simp [sl], fun q g4 u4 hqn hq => fun t5 g5 u5 hnew => ?_⟩))
    have c5 : g5.get? c = some { cls := .type "tuple", data := .seq ys } := hnew _ _ (u4 _ _ hc) hcn
    have q5 : g5.get? q = some { cls := .type "tuple", data := .seq #[.ref c, .int d.b tb] } := hnew _ _ hq (by
      cases e : gp.get? q with
      | none => rfl
      | some o => rw [u3 _ _ e] at hqn; cases hqn)
    refine ⟨[entr w "raw" t1 (.str x t), entr w "n" t3 (.int d.n tn), entr w "nt" t4 (.int d.nt tnt), entr w "norm" t5 (.ref q)], 4, rfl, Nat.le_of_ble_eq_true rfl, ?_⟩
    have W5 := W1.up u5
    refine bx_cons (bx_setattr (K := hd.heap_39 w.params) (C := 92) (a := a) (es' := []) (n' := 0) (pre := [(C, o)]) (post := []) (hC' _ _) W5.K rfl rfl rfl ms (u5 _ _ hinst) rfl rfl rfl (by k_is) (by k_is) (by k_is) (by k_is) rfl fun gp hgp => ?_)
    have Wp := W5.up hgp.1
    have hCl : gp.IsList C ys := ⟨_, hgp.2 _ (.head _), hO.1, hO.2⟩
    refine ev_cmp (ev_call (ev_blt Wp (by k_is) (by boot_fast) (by decide) ?_ rfl rfl rfl rfl))
    refine go_builtin (evL_cons (ev_local rfl rfl rfl mc (evL_nil (op_len_list hCl (by omega) fun t6 => ev_int fun t7 => op_le fun t8 => ?_))))
    have hyl := hys.length
    rw [Array.length_toList] at hyl
    refine ⟨[entr w "raw" t1 (.str x t), entr w "n" t3 (.int d.n tn), entr w "nt" t4 (.int d.nt tnt), entr w "norm" t5 (.ref q), entr w "is_simple" t8 (.bool d.simple)], 5, by unfold WsD.simple; rw [← hyl]; rfl, Nat.le_of_ble_eq_true rfl, ?_⟩
    refine bx_nil ⟨rfl, hC' _ _, fun g6 u6 hX => ?_⟩
    refine h a g6 (Sub.trans u₁ (Sub.trans u5 u6)) ?_
    exact ⟨dx, q, c, x, _, _, _, _, _, t1, t3, t4, t5, t8, t, tn, tnt, tb, 5, ys, u6 _ _ (u5 _ _ hinst), hX _ (.tail _ (.head _)), ⟨_, u6 _ _ q5, rfl, 0, rfl⟩, ⟨_, u6 _ _ c5, rfl, 0, rfl⟩, hys⟩
end
end Mine
end
section
open PySem PySem.W PyProof.Rows
set_option Elab.async false
set_option maxRecDepth 100000
set_option linter.unusedVariables false
namespace Mine
/-- an exception at hand whose chain ends within two steps -/
def ChainOk (h : Heap) (a : Addr) : Prop := ∃ o vs, h.get? a = some o ∧ o.data = .fields vs ∧ (vs[2]? = some .none ∨ ∃ b ob vb, vs[2]? = some (.ref b) ∧ b ≠ a ∧ h.get? b = some ob ∧ ob.data = .fields vb ∧ vb[2]? = some .none)
theorem ChainOk.up {h h' : Heap} {a : Addr} (x : ChainOk h a) (u : Sub h h') : ChainOk h' a := by
  obtain ⟨o, vs, ho, hd, hx⟩ := x
  refine ⟨o, vs, u _ _ ho, hd, ?_⟩
  rcases hx with hx | ⟨b, ob, vb, h1, h2, h3, h4, h5⟩
  · exact .inl hx
  · exact .inr ⟨b, ob, vb, h1, h2, u _ _ h3, h4, h5⟩
def Mk (A : Around) (g : Heap) : Prop := A.handled = none ∨ ∃ a, A.handled = some (.ref a) ∧ ChainOk g a
theorem Mk.up {A : Around} {g g' : Heap} (x : Mk A g) (u : Sub g g') : Mk A g' := by
  rcases x with x | ⟨a, e, c⟩
  · exact .inl x
  · exact .inr ⟨a, e, c.up u⟩
theorem entry_unchain : entryFor table "proto.unchain" = some Builtin.«proto.unchain» := entryFor_of_fast (by kernel_rfl)
section
variable {prog : Program} {w : World} {A : Around} {s : Shared}
theorem unchain_run {R : Result → Shared → Prop} {e a : Addr} (hc : ChainOk s.heap a) (hn : ∀ o, s.heap.get? a = some o → ∀ vs, o.data = .fields vs → vs[2]? ≠ some (.ref e)) (h : R (.ok (.ret .none)) s) :
    codeAny (model prog w) A (.builtin "proto.unchain" ⟨[.ref e, .ref a, .ref a, .bool false], []⟩) R s := by
  obtain ⟨o, vs, ho, hd, hx⟩ := hc
  refine codeAny_builtin entry_unchain ?_
  unfold Builtin.«proto.unchain»
  rcases hx with hx | ⟨b, ob, vb, h1, h2, h3, h4, h5⟩
  · refine wpAny_bind (wpAny_field ho hd hx ?_)
    rw [if_pos (by decide)]
    exact wpAny_pure h
  · have hbe : b ≠ e := fun q => hn o ho vs hd (by rw [h1, q])
    refine wpAny_bind (wpAny_field ho hd h1 ?_)
    rw [if_neg (show ¬ ((Value.ref b == Value.none) = true) from Bool.false_ne_true)]
    rw [if_neg (by simpa using hbe)]
    rw [if_neg (by simpa using h2)]
    refine wpAny_bind (wpAny_pure (wpAny_pure ⟨Code.quiet_builtin _ (by decide +kernel), ?_⟩))
    refine codeAny_builtin entry_unchain ?_
    unfold Builtin.«proto.unchain»
    refine wpAny_bind (wpAny_field h3 h4 h5 ?_)
    rw [if_pos (by decide)]
    exact wpAny_pure h
/-- an exception just made is raised -/
theorem raise_new {α : Type} {e : Addr} {oe : Obj} {vs : Array Value} {g : Heap} {Q : α → Shared → Prop} {E : Value → Shared → Prop} (hm : Mk A g) (hg : Sub g s.heap) (hge : g.get? e = none)
    (ho : s.heap.get? e = some oe) (hd : oe.data = .fields vs) (hz : 2 < vs.size)
    (h : ∀ h' oe' vs', Heap.SameBut e s.heap h' → h'.get? e = some oe' → oe'.cls = oe.cls → oe'.data = .fields vs' → (A.handled = none → vs' = vs) → (∀ x, A.handled = some x → vs' = vs.setIfInBounds 2 x) → E (.ref e) { s with heap := h' }) :
    wpAny (model prog w) A (raiseNew (.ref e) : Sem α) Q E s := by
  unfold raiseNew
  refine wpAny_bind (wpAny_handled ?_)
  rcases hm with hm | ⟨a, hm, hc⟩
  · rw [hm]
    exact wpAny_bind (wpAny_pure (wpAny_throw (h _ _ _ (.refl ..) ho rfl hd (fun _ => rfl) (fun x q => by rw [hm] at q; cases q))))
  · rw [hm]
    have hae : a ≠ e := fun q => by obtain ⟨o, _, ho', _⟩ := hc; rw [q, hge] at ho'; cases ho'
    dsimp only
    rw [if_pos (by simpa using hae)]
    obtain ⟨oa, va, ha1, ha2, ha3⟩ := id hc
    refine wpAny_bind (wpAny_holding (wpAny_runValue (unchain_run (hc.up hg) (fun o ho' vs hd' => ?_) ?_)))
    · rw [hg _ _ ha1] at ho'; cases ho'
      rw [ha2] at hd'; cases hd'
      intro q
      rcases ha3 with ha3 | ⟨b, ob, vb, h1, h2, h3, h4, h5⟩
      · rw [ha3] at q; cases q
      · rw [h1] at q; cases q; rw [hge] at h3; cases h3
    · refine wpAny_bind (wpAny_setField (i := 2) (x := .ref a) ho hd hz (wpAny_throw ?_) : wpAny _ _ (setField (.ref e) 2 (.ref a)) _ _ _)
      refine h _ _ (vs.setIfInBounds 2 (.ref a)) (.update ..) (Heap.get?_update_self _ ho ?_) (Obj.cls_mapFields ..) (Obj.data_mapFields hd _) (fun q => by rw [hm] at q; cases q) (fun x q => by rw [hm] at q; cases q; rfl)
      exact Obj.isFreed_of_fields (Obj.data_mapFields hd _)
end

def hOf (A : Around) : Value := match A.handled with | some x => x | none => .none
/-- an iterator's object -/
def IO (o : Obj) (l : Addr) (i : Nat) : Prop := o.cls = .type "list_iterator" ∧ o.data = .fields #[.ref l, .int i 0]
section
variable {prog : Program} {w : World} {A : Around} {s : Shared} {E : Value → Shared → Prop}
theorem special_item {it l : Addr} {i : Nat} {items : Array Value} {x : Value} {Q : Option Value → Shared → Prop} (hit : s.heap.IsListIter it l i) (hl : s.heap.IsList l items) (hx : items[i]? = some x)
    (hQ : ∀ h', h'.IsListIter it l (i + 1) → Heap.SameBut it s.heap h' → Q (some x) { s with heap := h' }) : wpAny (model prog w) A (callSpecial? (.ref it) (Str.ofString "__next__")) Q E s := by
  obtain ⟨o, ho, hc, hd⟩ := id hit
  obtain ⟨ol, hol, _, nl, hdl⟩ := hl
  refine wpAny_callSpecial?_slot (name := Str.ofString "__next__") hit.typeIs slot_listiter_next
    (wpAny_call_entry slot_listiter_next hit.typeIs entry_listiter_next ?_ (args_listiter_next _))
  show wpAny _ _ (field (.ref it) 0 >>= _) _ _ s
  refine wpAny_bind (wpAny_field ho hd (x := .ref l) rfl ?_)
  show wpAny _ _ (if (Value.ref l == Value.none) = true then _ else _) _ _ s
  rw [if_neg (show ¬ ((Value.ref l == Value.none) = true) from Bool.false_ne_true)]
  show wpAny _ _ (field (.ref it) 1 >>= _) _ _ s
  refine wpAny_bind (wpAny_field ho hd (x := .int i 0) rfl ?_)
  show wpAny _ _ (seqItems? (.ref l) >>= _) _ _ s
  refine wpAny_bind (wpAny_seqItems hol hdl ?_)
  simp only [Int.toNat_natCast, hx]
  refine wpAny_bind (wpAny_setField ho hd (by simp) (wpAny_pure ⟨x, rfl, hQ _ ?_ (Heap.SameBut.update ..)⟩))
  exact ⟨_, Heap.get?_update_self _ ho (Obj.isFreed_of_fields (Obj.data_mapFields hd _)), (Obj.cls_mapFields ..).trans hc, by
    rw [Obj.data_mapFields hd]; simp [rawInt]⟩
theorem special_end {it l : Addr} {i : Nat} {items : Array Value} {g : Heap} {Q : Option Value → Shared → Prop} (hm : Mk A g) (hg : Sub g s.heap)
    (hit : s.heap.IsListIter it l i) (hgi : g.get? it = none) (hl : s.heap.IsList l items) (hx : items[i]? = none)
    (hQ : ∀ h' e t oe, (∀ b o, b ≠ it → s.heap.get? b = some o → h'.get? b = some o) → (∃ o, h'.get? it = some o) → s.heap.get? e = none → h'.get? e = some oe → oe.cls = .type "StopIteration" →
      oe.data = .fields #[.ref t, .none, hOf A, .none, .bool false, .none] → E (.ref e) { s with heap := h' }) : wpAny (model prog w) A (callSpecial? (.ref it) (Str.ofString "__next__")) Q E s := by
  obtain ⟨o, ho, hc, hd⟩ := id hit
  obtain ⟨ol, hol, _, nl, hdl⟩ := hl
  refine wpAny_callSpecial?_slot (name := Str.ofString "__next__") hit.typeIs slot_listiter_next
    (wpAny_call_entry slot_listiter_next hit.typeIs entry_listiter_next ?_ (args_listiter_next _))
  show wpAny _ _ (field (.ref it) 0 >>= _) _ _ s
  refine wpAny_bind (wpAny_field ho hd (x := .ref l) rfl ?_)
  show wpAny _ _ (if (Value.ref l == Value.none) = true then _ else _) _ _ s
  rw [if_neg (show ¬ ((Value.ref l == Value.none) = true) from Bool.false_ne_true)]
  show wpAny _ _ (field (.ref it) 1 >>= _) _ _ s
  refine wpAny_bind (wpAny_field ho hd (x := .int i 0) rfl ?_)
  show wpAny _ _ (seqItems? (.ref l) >>= _) _ _ s
  refine wpAny_bind (wpAny_seqItems hol hdl ?_)
  simp only [Int.toNat_natCast, hx]
  refine wpAny_bind (wpAny_rule (wpAny_bind (wpAny_setField ho hd (by simp) ?_)))
  show wpAny _ _ (newExc (.type "StopIteration") [] >>= _) _ _ _
  refine wpAny_bind ?_
  simp only [newExc, newTuple]
  refine wpAny_bind (wpAny_newObj_type ?_ (by size_fits))
  refine wpAny_bind (m := firstArgMember _ _) (wpAny_of_eq (a := Value.none) (by first | rfl | (simp only [firstArgMember]; rfl)) ?_)
  refine wpAny_newObj_type ?_ (by size_fits)
  generalize hh1 : s.heap.update it (Obj.mapFields fun x => x.setIfInBounds 0 Value.none) = h1
  have hs1 : Heap.SameBut it s.heap h1 := by rw [← hh1]; exact .update ..
  have h1it : ∃ o, h1.get? it = some o := ⟨_, by rw [← hh1]; exact Heap.get?_update_self _ ho (Obj.isFreed_of_fields (Obj.data_mapFields hd _))⟩
  generalize ho2 : (({ cls := Value.type "tuple", dict := none, data := Data.seq [].toArray } : Obj)) = o2
  generalize ho3 : (({ cls := Value.type "StopIteration", dict := none, data := Data.fields _ } : Obj)) = o3
  have f3 : o3.isFreed = false := by rw [← ho3]; rfl
  have d3 : o3.data = .fields #[.ref h1.objs.size, .none, .none, .none, .bool false, .none] := by rw [← ho3]; rfl
  have c3 : o3.cls = .type "StopIteration" := by rw [← ho3]
  have z1 : h1.objs.size = s.heap.objs.size := hs1.1
  have he : s.heap.get? (h1.push o2).objs.size = none := Heap.get?_none_of_le (by rw [Heap.size_push, z1]; exact Nat.le_succ _)
  have hbe : ∀ b ob, s.heap.get? b = some ob → b ≠ (h1.push o2).objs.size := fun b ob q r => by rw [r, he] at q; cases q
  refine raise_new (A := A.in1) (g := g) (oe := o3) hm (fun b ob q => Heap.get?_push_of_some _ (Heap.get?_push_of_some _ (hs1.extBut b ob (fun r => by rw [r, hgi] at q; cases q) (hg _ _ q)))) ?_ (Heap.get?_push_size _ f3) d3 (by simp) ?_
  · cases q : g.get? (h1.push o2).objs.size with
    | none => rfl
    | some ob => exact absurd rfl (hbe _ _ (hg _ _ q))
  · intro h' oe' vs' hs' he' hcls hdat hn hsome
    refine hQ h' _ h1.objs.size oe' (fun b ob hb q => ?_) ?_ he he' (hcls.trans c3) ?_
    · exact hs'.extBut b ob (hbe _ _ q) (Heap.get?_push_of_some _ (Heap.get?_push_of_some _ (hs1.extBut b ob hb q)))
    · obtain ⟨oi, hoi⟩ := h1it
      exact ⟨oi, hs'.extBut _ _ (hbe _ _ ho) (Heap.get?_push_of_some _ (Heap.get?_push_of_some _ hoi))⟩
    · rw [hdat]
      unfold hOf
      cases hA : A.handled with
      | none => rw [hn hA]
      | some x => rw [hsome x hA]; rfl
end

section
variable {prog : Program} {w : World} {A : Around} {s : Shared} {E : Value → Shared → Prop}
theorem next_end {it l : Addr} {i : Nat} {items : Array Value} {g : Heap} {Q : Option Value → Shared → Prop} (hm : Mk A g) (hg : Sub g s.heap)
    (hit : s.heap.IsListIter it l i) (hgi : g.get? it = none) (hl : s.heap.IsList l items) (hx : items[i]? = none)
    (hQ : ∀ h', (∀ b o, b ≠ it → s.heap.get? b = some o → h'.get? b = some o) → (∃ o, h'.get? it = some o) → Q none { s with heap := h' }) : wpAny (model prog w) A (pyNext (.ref it)) Q E s := by
  unfold pyNext
  refine wpAny_bind (wpAny_attempt (special_end hm hg hit hgi hl hx fun h' e t oe hk ha he he' hc hd => ?_))
  refine wpAny_bind (wpAny_isInstance (T := "StopIteration") (b := true) ⟨_, he', hc⟩ isSubtype_stop ?_)
  exact wpAny_pure (hQ h' hk ha)
theorem call_next_item {it l : Addr} {i : Nat} {items : Array Value} {x : Value} {Q : Value → Shared → Prop} (hit : s.heap.IsListIter it l i) (hl : s.heap.IsList l items) (hx : items[i]? = some x)
    (hQ : ∀ h', h'.IsListIter it l (i + 1) → Heap.SameBut it s.heap h' → Q x { s with heap := h' }) : wpAny (model prog w) A (call (.builtin "next") [.ref it]) Q E s := by
  refine Calls.call_function_entry (by decide +kernel) (by decide +kernel) kdk_entry_next (kdk_args_next _) ?_
  unfold Builtin.«next»
  refine wpAny_bind (m := someArgs "next" 1 2 _) (wpAny_of_eq (a := [Value.ref it]) (by first | rfl | kernel_rfl!) ?_)
  dsimp only
  refine wpAny_bind (wpAny_specialOf (name := Str.ofString "__next__") hit.typeIs slot_listiter_next.lookup ?_)
  refine wpAny_ite_split (fun hab => absurd hab (by decide)) (fun _ => ?_)
  refine wpAny_bind (special_item hit hl hx fun h' hit' hs => ?_)
  exact wpAny_pure ⟨_, rfl, hQ h' hit' hs⟩
theorem call_next_end {it l : Addr} {i : Nat} {items : Array Value} {g : Heap} {Q : Value → Shared → Prop} (hm : Mk A g) (hg : Sub g s.heap)
    (hit : s.heap.IsListIter it l i) (hgi : g.get? it = none) (hl : s.heap.IsList l items) (hx : items[i]? = none)
    (hQ : ∀ h' e t oe, (∀ b o, b ≠ it → s.heap.get? b = some o → h'.get? b = some o) → (∃ o, h'.get? it = some o) → s.heap.get? e = none → h'.get? e = some oe → oe.cls = .type "StopIteration" →
      oe.data = .fields #[.ref t, .none, hOf A, .none, .bool false, .none] → E (.ref e) { s with heap := h' }) : wpAny (model prog w) A (call (.builtin "next") [.ref it]) Q E s := by
  refine Calls.call_function_entry (by decide +kernel) (by decide +kernel) kdk_entry_next (kdk_args_next _) ?_
  unfold Builtin.«next»
  refine wpAny_bind (m := someArgs "next" 1 2 _) (wpAny_of_eq (a := [Value.ref it]) (by first | rfl | kernel_rfl!) ?_)
  dsimp only
  refine wpAny_bind (wpAny_specialOf (name := Str.ofString "__next__") hit.typeIs slot_listiter_next.lookup ?_)
  refine wpAny_ite_split (fun hab => absurd hab (by decide)) (fun _ => ?_)
  exact wpAny_bind (special_end (A := A.in1) hm hg hit hgi hl hx hQ)
end
section
variable {prog : Program} {w : World} {A : Around} {g : Heap}
theorem op_iter {l : Addr} {items : Array Value} {P : Value → Heap → Prop} (hl : g.IsList l items)
    (h : ∀ a g' o, Sub g g' → g.get? a = none → g'.get? a = some o → IO o l 0 → P (.ref a) g') : Op (model prog w) A g (call (.builtin "iter") [.ref l]) P :=
  .new fun s hs => by
    refine Calls.call_function_entry (by decide +kernel) (by decide +kernel) kdk_entry_iter (kdk_args_iter _) ?_
    unfold Builtin.«iter»
    refine wpAny_bind (m := someArgs "iter" 1 2 _) (wpAny_of_eq (a := [Value.ref l]) (by first | rfl | kernel_rfl!) ?_)
    show wpAny _ _ (pyIter (.ref l) >>= _) _ _ _
    refine wpAny_bind (wpAny_pyIter_list (isList_up hl hs) ?_)
    refine wpAny_pure ⟨_, rfl, ⟨_, _, rfl, fun _ _ e => Heap.get?_push_of_some _ e⟩, fun g' u e => ?_⟩
    exact h _ g' _ u (new_none hs) ((e _ (fresh_size _)).trans (Heap.get?_push_size _ rfl)) ⟨rfl, rfl⟩
end
section
variable {prog : Program} {w : World} {A : Around} {s₀ : Shared} {g₀ g : Heap} {L : Addr} {m : Str → Option Value} {env : Env} {R : Flow → (Str → Option Value) → List (Addr × Obj) → Heap → Prop}
/-- x = next(it), an item at hand -/
theorem bx_next {x nx itn : Str} {px np ip cpos pos : Pos} {I l : Addr} {o : Obj} {i : Nat} {items : Array Value} {y : Value} (hl : env.locals = L) (hk : env.scope.kind = .function) (hx : env.kindOf x = some .local) (hit : env.kindOf itn = some .local) (hv : m itn = some (.ref I))
    (hio : IO o l i) (hlst : g.IsList l items) (hy : items[i]? = some y)
    (hn : ∀ gp, Sees g [(I, o)] gp → Ev (model prog w) A gp L m env (.Name nx np) (fun f g' => f = .builtin "next"))
    (h : ∀ o', IO o' l (i + 1) → R .next (upd m x y) [(I, o')] g)
    (hd : (itn == ("__debug__" : Str)) = false := by decide)
    (hse : starEach [.Name itn ip] env = (false, eval (.Name itn ip) env) :: starEach [] env := by rfl)
    (hs : swapsWith (.Call (.Name nx np) [.Name itn ip] [] cpos) (some (.Name x px)) pos.line env = pure false := by rfl) :
    Bx (model prog w) A s₀ g₀ L m [(I, o)] g (exec (.Assign [.Name x px] (.Call (.Name nx np) [.Name itn ip] [] cpos) pos) env) R := fun s F => by
  subst hl
  have hnd : [(I, o)].Pairwise fun p q => p.1 ≠ q.1 := by simp
  obtain ⟨gp, p1, p2, p3, p4, p5⟩ := F.see hnd
  refine wpAny_Assign_Name (wpAny_Call_ofName ((hn gp ⟨p1, p2⟩ s ⟨p3, F.ns⟩).any fun f s₁ g₁ k₁ u₁ hf => ?_)) hs
  subst hf
  obtain ⟨F₁, O₁⟩ := F.keeps' k₁
  refine Calls.callWith_builtin (by rw [hse]; rfl) ?_
  have hargs := args_of (M := model prog w) (A := A) (g := g₁) (L := env.locals) (m := m) (f := .builtin "next") (pos := cpos) (e := .Name itn ip) (rest := []) (R := fun vs _ => vs = [.ref I])
    (evL_cons (ev_local rfl hk hit hv (evL_nil rfl) hd) hse) hse
  refine (hargs s₁ ⟨u₁.sub, F₁.ns⟩).any fun a s₂ g₂ k₂ u₂ ha => ?_
  obtain ⟨ekw, epos⟩ := ha
  rw [ekw, epos]
  obtain ⟨F₂, O₂⟩ := F₁.keeps' k₂
  have hI := (F₂.own _ (.head _)).1
  refine call_next_item (l := l) (i := i) ⟨o, hI, hio.1, hio.2⟩ (isList_up hlst F₂.sub) hy fun h' hit' hsb => ?_
  obtain ⟨o', ho', hio'⟩ := hit'
  obtain ⟨F₃, O₃⟩ := F₂.turn (pre := []) (post := []) (tk := s₂.toks) hnd hsb ho'
  refine wpAny_storeName_local hx F₃.ns (fun h₄ hn₄ hs₄ => ?_) (by rw [hk]; rfl)
  obtain ⟨F₄, O₄⟩ := F₃.store (tk := s₂.toks + 1) hn₄ hs₄
  exact ⟨_, _, g, F₄, ((O₁.trans O₂).trans O₃).trans O₄, h o' hio'⟩
/-- a try whose body runs through -/
theorem bx_try {X : List (Addr × Obj)} {body : List Stmt} {h₀ : ExceptHandler} {hs : List ExceptHandler} {pos : Pos} (h : Bx (model prog w) A s₀ g₀ L m X g (execs body env) R) :
    Bx (model prog w) A s₀ g₀ L m X g (exec (.Try body (h₀ :: hs) [] [] pos) env) R := fun s F => by
  refine wpAny_Try_except (wpAny_mono (h s F) (fun f s₁ h₁ => ?_) fun _ _ x => x.elim)
  cases f with
  | next => exact wpAny_execs_nil h₁
  | _ => exact h₁
/-- for x in it, it an iterator of the frame's own -/
theorem bx_forI {x itn : Str} {px ip pos : Pos} {body : List Stmt} {I l : Addr} {o : Obj} {i₀ : Nat} {items : Array Value} (Inv : Nat → (Str → Option Value) → Heap → Prop)
    (hm : Mk A g) (hl : env.locals = L) (hk : env.scope.kind = .function) (hx : env.kindOf x = some .local) (hit : env.kindOf itn = some .local) (hv : m itn = some (.ref I))
    (hio : IO o l i₀) (hi₀ : i₀ ≤ items.size) (hlst : g.IsList l items) (h0 : Inv i₀ m g)
    (turn : ∀ i v m' g' o', items[i]? = some v → Sub g g' → Inv i m' g' → Bx (model prog w) A s₀ g₀ L (upd m' x v) [(I, o')] g' (execs body env) (fun f m'' X'' g'' => f = .next ∧ X'' = [(I, o')] ∧ Sub g' g'' ∧ Inv (i + 1) m'' g''))
    (fin : ∀ m' g', Sub g g' → Inv items.size m' g' → R .next m' [] g')
    (hd : (itn == ("__debug__" : Str)) = false := by decide)
    (hs : ∀ x, foldedSetIterable (.Name itn ip) env x = pure x := by intro _; rfl) :
    Bx (model prog w) A s₀ g₀ L m [(I, o)] g (exec (.For (.Name x px) (.Name itn ip) body [] pos) env) R := fun s F => by
  subst hl
  refine wpAny_For (wpAny_Name (wpAny_loadName_local hk hit F.ns hv ?_) hd) hs
  have hI := (F.own _ (.head _)).1
  refine wpAny_pyIter_listiter (l := l) (i := i₀) ⟨o, hI, hio.1, hio.2⟩ ?_
  refine codeAny_forLoop (fun k s' => ∃ i m' o' g', Fm s₀ g₀ env.locals m' [(I, o')] g' s' ∧ Oth env.locals [(I, o)] g s [(I, o')] g' s' ∧ IO o' l i ∧ Inv i m' g' ∧ i ≤ items.size ∧ k = items.size + 1 - i ∧ Sub g g') ?_ (items.size + 1 - i₀)
    ⟨i₀, m, o, g, F, Oth.refl .., hio, h0, hi₀, rfl, fun _ _ e => e⟩
  rintro k s' ⟨i, m', o', g', F', O', hio', hinv, hi, rfl, hs'⟩
  have hI' := (F'.own _ (.head _)).1
  have hlst' := isList_up (isList_up hlst hs') F'.sub
  have hnd : [(I, o')].Pairwise fun p q => p.1 ≠ q.1 := by simp
  by_cases hlt : i < items.size
  · refine wpAny_pyNext_list_item (l := l) (i := i) ⟨o', hI', hio'.1, hio'.2⟩ hlst' (x := items[i]) (by simp [hlt]) fun h₁ hit₁ hsb => ?_
    obtain ⟨o₁, ho₁, hio₁⟩ := hit₁
    obtain ⟨F₁, O₁⟩ := F'.turn (pre := []) (post := []) (tk := s'.toks) hnd hsb ho₁
    refine wpAny_assign_Name (wpAny_storeName_local hx F₁.ns (fun h₂ hn₂ hs₂ => ?_) (by rw [hk]; rfl))
    obtain ⟨F₂, O₂⟩ := F₁.store (tk := s'.toks + 1) hn₂ hs₂
    refine wpAny_mono (turn i _ m' g' o₁ (by simp [hlt]) hs' hinv _ F₂) (fun f s₃ h₃ => ?_) fun _ _ x => x.elim
    obtain ⟨m'', X'', g'', F'', O'', rfl, rfl, u'', hinv'⟩ := h₃
    exact ⟨items.size + 1 - (i + 1), by omega, i + 1, m'', o₁, g'', F'', ((O'.trans O₁).trans O₂).trans O'', hio₁, hinv', hlt, rfl, Sub.trans hs' u''⟩
  · have hin : i = items.size := by omega
    subst hin
    have hgI := (F'.own _ (.head _)).2.2.1
    have h0I := (F'.own _ (.head _)).2.2.2
    have hIL := (F'.own _ (.head _)).2.1
    refine next_end (hm.up hs') F'.sub ⟨o', hI', hio'.1, hio'.2⟩ hgI hlst' (by simp) fun h₁ hk₁ ha => ?_
    refine wpAny_execs_nil ⟨m', [], g', ⟨?_, F'.ns.at' fun ob e => hk₁ _ ob (Ne.symm hIL) e, fun b ob e => hk₁ b ob (fun q => by rw [q, h0I] at e; cases e) (F'.base b ob e), F'.newL, fun b ob e => hk₁ b ob (fun q => by rw [q, hgI] at e; cases e) (F'.sub b ob e), F'.off, F'.up, F'.fresh, fun p hp => (nomatch hp)⟩, ?_, fin m' g' hs' hinv⟩
    · obtain ⟨h, t, e⟩ := F'.same; exact ⟨h₁, t, by rw [e]⟩
    · refine ⟨fun a ob h1 h2 e => ?_, fun a ob e => ?_, fun p hp => (nomatch hp), O'.know⟩
      · exact hk₁ a ob (fun q => h2 _ (.head _) q.symm) (O'.keep a ob h1 h2 e)
      · obtain ⟨ob', e'⟩ := O'.alive a ob e
        by_cases q : a = I
        · subst q; exact ha
        · exact ⟨ob', hk₁ a ob' q e'⟩
end
end Mine
end
section
open PySem PySem.W PyProof.Rows
set_option Elab.async false
set_option maxRecDepth 100000
set_option linter.unusedVariables false
set_option maxHeartbeats 4000000
namespace Mine
section
variable {prog : Program} {w : World} {A : Around} {g : Heap} {mg mb : Str → Option Value} {l : Addr}
theorem f_reduce {f v₀ : Value} {items : Array Value} {Inv : Nat → Value → Heap → Prop} {P : Value → Heap → Prop} (hdp : A.depth < recursionLimit) (hm : Mk A g) (W : Wd w mg mb g) (hl : g.IsList l items) (hf : KeepOk (model prog w) g f)
    (hne : ∀ A' g' (P : Value → Heap → Prop), Sub g g' → P (.bool false) g' → Op (model prog w) A' g' (compareOp .Is v₀ (.ref 22)) P)
    (h0 : ∀ g', Sub g g' → Inv 0 v₀ g')
    (hstep : ∀ env i v x g', items[i]? = some x → Sub g g' → Inv i v g' → Op (model prog w) (A.deeper env) g' (call f [v, x]) (fun v' g'' => Inv (i + 1) v' g''))
    (h : ∀ v g' g'', Sub g g' → Sub g' g'' → Inv items.size v g' → P v g'') : Op (model prog w) A g (call (.ref 30) [f, .ref l, v₀]) P := by
  refine op_fun (K := hd.heap_39 w.params) (binds := [(Str.ofString "function", f), (Str.ofString "sequence", .ref l), (Str.ofString "initial", v₀)]) W.K W.lim (by k_is) (by k_is) hdp (fun s hs => binds_K (K := hd.heap_39 w.params) (T := 23) (W.K.keeps hs) rfl (by k_is) rfl rfl rfl) (locs rfl) (by decide) rfl rfl rfl fun s₀ L hs₀ => ?_
  refine bx_cons (bx_assignN (X' := []) (fun p hp => (nomatch hp)) .nil rfl rfl rfl fun gp hgp => ?_)
  have Wp := W.up hgp.1
  refine ev_call (ev_blt Wp (by k_is) (by boot_fast) (by decide) ?_ rfl rfl rfl rfl)
  refine go_builtin (evL_cons (ev_local rfl rfl rfl rfl (evL_nil (op_iter (isList_up hl hgp.1) fun I gq o uq hIn hI hio => ⟨I, o, rfl, hIn, hI, fun _ => ?_⟩))))
  refine bx_cons (bx_if (ts_cmp (ev_local rfl rfl rfl rfl (ev_glob W (by k_is) (hne _ _ _ (fun _ _ e => e) (op_truthB ?_)) rfl rfl rfl))))
  rw [if_neg (by decide)]
  refine bx_cons (bx_assign rfl rfl rfl (ev_local rfl rfl rfl rfl (bx_nil ?_)))
  refine bx_cons (bx_forI (l := l) (i₀ := 0) (fun i m' g' => (∃ v, m' (Str.ofString "value") = some v ∧ Inv i v g') ∧ m' (Str.ofString "function") = some f) hm rfl rfl rfl rfl rfl hio (Nat.zero_le _) hl ⟨⟨v₀, rfl, h0 _ (fun _ _ e => e)⟩, rfl⟩ ?_ ?_)
  · rintro i x m' g' o' hx u ⟨⟨v, hv, hinv⟩, hf'⟩
    refine bx_cons (bx_assign rfl rfl rfl (ev_call (ev_local rfl rfl rfl hf' (go_ref (hf.up u) (evL_cons (ev_local rfl rfl rfl hv (evL_cons (ev_local rfl rfl rfl rfl (evL_nil ?_)))))))))
    refine Op.imp (hstep _ i v x g' hx u hinv) fun v' g'' u'' hinv' => ?_
    exact bx_nil ⟨rfl, rfl, u'', ⟨v', rfl, hinv'⟩, hf'⟩
  · rintro m' g' u ⟨⟨v, hv, hinv⟩, hf'⟩
    exact bx_cons (bx_return (ev_local rfl rfl rfl hv ⟨.nil, fun g'' u'' _ => h v g' g'' u u'' hinv⟩))
theorem f_reduce0 {f v₀ : Value} {items : Array Value} {Inv : Nat → Value → Heap → Prop} {P : Value → Heap → Prop} (hdp : A.depth < recursionLimit) (hm : Mk A g) (W : Wd w mg mb g) (hl : g.IsList l items) (hf : KeepOk (model prog w) g f)
    (hv0 : items[0]? = some v₀)
    (h0 : ∀ g', Sub g g' → Inv 1 v₀ g')
    (hstep : ∀ env i v x g', items[i]? = some x → Sub g g' → Inv i v g' → Op (model prog w) (A.deeper env) g' (call f [v, x]) (fun v' g'' => Inv (i + 1) v' g''))
    (h : ∀ v g' g'', Sub g g' → Sub g' g'' → Inv items.size v g' → P v g'') : Op (model prog w) A g (call (.ref 30) [f, .ref l]) P := by
  refine op_fun (K := hd.heap_39 w.params) (binds := [(Str.ofString "function", f), (Str.ofString "sequence", .ref l), (Str.ofString "initial", .ref 22)]) W.K W.lim (by k_is) (by k_is) hdp (fun s hs => binds_K (K := hd.heap_39 w.params) (T := 23) (W.K.keeps hs) rfl (by k_is) rfl rfl rfl) (locs rfl) (by decide) rfl rfl rfl fun s₀ L hs₀ => ?_
  refine bx_cons (bx_assignN (X' := []) (fun p hp => (nomatch hp)) .nil rfl rfl rfl fun gp hgp => ?_)
  have Wp := W.up hgp.1
  refine ev_call (ev_blt Wp (by k_is) (by boot_fast) (by decide) ?_ rfl rfl rfl rfl)
  refine go_builtin (evL_cons (ev_local rfl rfl rfl rfl (evL_nil (op_iter (isList_up hl hgp.1) fun I gq o uq hIn hI hio => ⟨I, o, rfl, hIn, hI, fun _ => ?_⟩))))
  refine bx_cons (bx_if (ts_cmp (ev_local rfl rfl rfl rfl (ev_glob W (by k_is) (op_is_self (op_truthB ?_)) rfl rfl rfl))))
  rw [if_pos rfl]
  refine bx_cons (bx_try (bx_cons (bx_next (l := l) (i := 0) rfl rfl rfl rfl rfl hio hl hv0 (fun gp hgp => ev_blt (W.up hgp.1) (by k_is) (by boot_fast) (by decide) rfl rfl rfl rfl rfl) fun o' hio' => bx_nil (bx_nil ?_))))
  have hpos : 0 < items.size := by
    rcases Nat.eq_zero_or_pos items.size with q | q
    · rw [Array.getElem?_eq_none (by omega)] at hv0; cases hv0
    · exact q
  refine bx_cons (bx_forI (l := l) (i₀ := 1) (fun i m' g' => (∃ v, m' (Str.ofString "value") = some v ∧ Inv i v g') ∧ m' (Str.ofString "function") = some f) hm rfl rfl rfl rfl rfl hio' hpos hl ⟨⟨v₀, rfl, h0 _ (fun _ _ e => e)⟩, rfl⟩ ?_ ?_)
  · rintro i x m' g' o' hx u ⟨⟨v, hv, hinv⟩, hf'⟩
    refine bx_cons (bx_assign rfl rfl rfl (ev_call (ev_local rfl rfl rfl hf' (go_ref (hf.up u) (evL_cons (ev_local rfl rfl rfl hv (evL_cons (ev_local rfl rfl rfl rfl (evL_nil ?_)))))))))
    refine Op.imp (hstep _ i v x g' hx u hinv) fun v' g'' u'' hinv' => ?_
    exact bx_nil ⟨rfl, rfl, u'', ⟨v', rfl, hinv'⟩, hf'⟩
  · rintro m' g' u ⟨⟨v, hv, hinv⟩, hf'⟩
    exact bx_cons (bx_return (ev_local rfl rfl rfl hv ⟨.nil, fun g'' u'' _ => h v g' g'' u u'' hinv⟩))
end
end Mine
end
section
open PySem PySem.W PyProof.Rows
set_option Elab.async false
set_option maxRecDepth 100000
set_option linter.unusedVariables false
namespace Mine
abbrev fa (l : List Env) : List Addr := l.filterMap (·.frame)
abbrev noHeap : Heap := ⟨#[], {}⟩
theorem noHeap_none (b : Addr) : noHeap.get? b = none := Heap.get?_none_of_le (Nat.zero_le _)
/-- all is kept but the frames' slots -/
structure Kp (fr : List Addr) (h h' : Heap) : Prop where
  keep : ∀ b o, b ∉ fr → h.get? b = some o → h'.get? b = some o
  slot : ∀ b o, h.get? b = some o → ∃ sl, h'.get? b = some { o with slots := sl }
theorem Kp.of_sub {fr : List Addr} {h h' : Heap} (u : Sub h h') : Kp fr h h' := ⟨fun b o _ e => u b o e, fun b o e => ⟨o.slots, u b o e⟩⟩
theorem Kp.trans {fr : List Addr} {a b c : Heap} (x : Kp fr a b) (y : Kp fr b c) : Kp fr a c :=
  ⟨fun p o hp e => y.keep p o hp (x.keep p o hp e), fun p o e => by obtain ⟨sl, e1⟩ := x.slot p o e; obtain ⟨sl2, e2⟩ := y.slot p _ e1; exact ⟨sl2, e2⟩⟩
theorem Kp.new {fr : List Addr} {h h' : Heap} (x : Kp fr h h') {b : Addr} (e : h'.get? b = none) : h.get? b = none := by
  cases q : h.get? b with
  | none => rfl
  | some o => obtain ⟨sl, e'⟩ := x.slot b o q; rw [e] at e'; cases e'
/-- one object, not of the ground, is turned -/
theorem Kp.turn {fr : List Addr} {h h₁ h' : Heap} {x : Addr} (k : Kp fr h h₁) (hx : h.get? x = none) (hs : ∀ b, b ≠ x → h'.get? b = h₁.get? b) : Kp fr h h' :=
  ⟨fun b o hb e => (hs b fun q => by rw [q, hx] at e; cases e).trans (k.keep b o hb e), fun b o e => by
    obtain ⟨sl, e'⟩ := k.slot b o e
    exact ⟨sl, (hs b fun q => by rw [q, hx] at e; cases e).trans e'⟩⟩
theorem Kp.ns {fr : List Addr} {h h' : Heap} (k : Kp fr h h') {a : Addr} {m : Str → Option Value} (hn : h.Ns a m) : h'.Ns a m := by
  obtain ⟨o, es, ep, ho, hd, r⟩ := hn
  obtain ⟨sl, hs⟩ := k.slot a o ho
  exact ⟨_, es, ep, hs, hd, r⟩
/-- an exception on its way -/
def Ex (h base : Heap) (e : Addr) (cls c fl : Value) : Prop :=
  ∃ oe vs T oT ts, h.get? e = some oe ∧ oe.cls = cls ∧ oe.data = .fields vs ∧ vs[1]? = some (.ref T) ∧ vs[2]? = some c ∧ T ≠ e ∧ base.get? T = none ∧ h.get? T = some oT ∧ oT.data = .fields ts ∧ ts[3]? = some fl
section
variable {M : Model} {A : Around} {E : Value → Shared → Prop} {s : Shared}
theorem entry_at {base : Heap} {fr : List Addr} {env : Env} {outer : List Env} {L e : Addr} {oe : Obj} {vs : Array Value} {head c : Value} {hadNext : Bool} {Q : Unit → Shared → Prop}
    (hfr : A.frames = some (env :: outer)) (hl : s.heap.FunFrames noHeap (env :: outer)) (hf : env.frame = some L) (hin : ∀ b ∈ fa (env :: outer), b ∈ fr)
    (he : s.heap.get? e = some oe) (kp : Kp fr base s.heap) (hen : base.get? e = none) (hd : oe.data = .fields vs) (hsz : 1 < vs.size) (h2 : vs[2]? = some c)
    (h : ∀ h', Kp fr base h' → h'.FunFrames noHeap (env :: outer) → Ex h' base e oe.cls c (rawInt L) → Q () { s with heap := h' }) :
    wpAny M A (do let a ← frameOf env; let pl ← entryPlaceOf L hadNext; let b ← EntryCells.newEntry head a .none (rawInt L) .none pl; setField (.ref e) 1 b) Q E s := by
  have hene : e ∉ (env :: outer).filterMap (·.frame) := fun hm => by
    obtain ⟨_, o, ho, hnf⟩ := hl.mem hm
    rw [he] at ho; injection ho with ho; subst ho; exact hnf vs hd
  refine wpAny_bind (wpAny_frameOf_fun hfr hl hf fun h₁ hs₁ => ?_)
  refine wpAny_bind (wpAny_entryPlaceOf fun pl hpl => ?_)
  unfold EntryCells.newEntry newFields
  refine wpAny_bind (wpAny_newObj_type ?_ (hpl.sizeOk5 _ _ _ _ _))
  have he₁ : h₁.get? e = some oe := (hs₁.2.1 e hene).trans he
  have kp₁ : Kp fr base h₁ := kp.trans ⟨fun b o hb hbo => (hs₁.2.1 b fun hm => hb (hin b hm)).trans hbo, hs₁.2.2⟩
  have he₂ := Heap.get?_push_of_some (h := h₁) { cls := .type "traceback", dict := none, data := .fields ([head, .ref L, .none, rawInt L, .none] ++ (if pl.isEmpty then List.replicate 6 Value.none else pl)).toArray } he₁
  refine wpAny_setField he₂ hd hsz (h _ ?_ ?_ ?_)
  · exact (kp₁.trans (.of_sub fun b o q => Heap.get?_push_of_some _ q)).turn hen fun b hb => Heap.get?_update_other _ _ (Ne.symm hb)
  · refine hl.of_keeps fun b o hb hnf => ?_
    obtain ⟨sl, hs⟩ := hs₁.2.2 b o hb
    have hbe : b ≠ e := fun q => by rw [q, he] at hb; injection hb with hb; subst hb; exact hnf vs hd
    exact ⟨_, (Heap.get?_update_other _ _ (Ne.symm hbe)).trans (Heap.get?_push_of_some _ hs), rfl⟩
  · have hTe : h₁.objs.size ≠ e := Nat.ne_of_gt (Heap.lt_size he₁)
    have hd₃ := Obj.data_mapFields hd (·.setIfInBounds 1 (Value.ref h₁.objs.size))
    have he₃ := Heap.get?_update_self (Obj.mapFields (·.setIfInBounds 1 (Value.ref h₁.objs.size))) he₂ (Obj.isFreed_of_fields hd₃)
    have hT₃ := (Heap.get?_update_other (h₁.push { cls := .type "traceback", dict := none, data := .fields ([head, .ref L, .none, rawInt L, .none] ++ (if pl.isEmpty then List.replicate 6 Value.none else pl)).toArray })
      (Obj.mapFields (·.setIfInBounds 1 (Value.ref h₁.objs.size))) (Ne.symm hTe)).trans (Heap.get?_push_size h₁ rfl)
    exact ⟨_, _, h₁.objs.size, _, _, he₃, Obj.cls_mapFields _ _, hd₃, by simp [hsz], by rw [Array.getElem?_setIfInBounds_ne (by decide)]; exact h2, hTe, kp₁.new (fresh_size _), hT₃, rfl, by first | (simp; done) | (rcases hpl with rfl | ⟨_, _, _, _, _, _, _, rfl⟩ <;> simp)⟩
/-- the first note on an exception -/
theorem note_first {base : Heap} {fr : List Addr} {env : Env} {outer : List Env} {L e : Addr} {oe : Obj} {vs : Array Value} {c : Value} {Q : Unit → Shared → Prop}
    (hfr : A.frames = some (env :: outer)) (hl : s.heap.FunFrames noHeap (env :: outer)) (hf : env.frame = some L) (hin : ∀ b ∈ fa (env :: outer), b ∈ fr)
    (he : s.heap.get? e = some oe) (kp : Kp fr base s.heap) (hen : base.get? e = none) (hd : oe.data = .fields vs) (h1 : vs[1]? = some .none) (h2 : vs[2]? = some c)
    (h : ∀ h', Kp fr base h' → h'.FunFrames noHeap (env :: outer) → Ex h' base e oe.cls c (rawInt L) → Q () { s with heap := h' }) : wpAny M A (noteFrame (.ref e) env) Q E s := by
  unfold noteFrame
  simp only [hf]
  refine wpAny_bind (wpAny_field he hd h1 ?_)
  rw [if_neg (by decide)]
  exact entry_at hfr hl hf hin he kp hen hd (Array.getElem?_eq_some_iff.mp h1).1 h2 h
theorem ex_turn {base h : Heap} {fr : List Addr} {l : List Env} {e T : Addr} {oT : Obj} {ts : Array Value} {v : Value} (kp : Kp fr base h) (hl : h.FunFrames noHeap l) (hT0 : base.get? T = none) (hT : h.get? T = some oT) (hdT : oT.data = .fields ts) :
    Kp fr base (h.update T (Obj.mapFields (·.setIfInBounds 3 v))) ∧ (h.update T (Obj.mapFields (·.setIfInBounds 3 v))).FunFrames noHeap l :=
  ⟨kp.turn hT0 fun b hb => Heap.get?_update_other _ _ (Ne.symm hb), hl.of_keeps fun b o hb hnf => ⟨o, (Heap.get?_update_other _ _ (fun q => by rw [← q, hT] at hb; cases hb; exact hnf ts hdT)).trans hb, rfl⟩⟩
/-- noted in the next frame -/
theorem note_next {base : Heap} {fr : List Addr} {env : Env} {outer : List Env} {L e : Addr} {cls c : Value} {Q : Unit → Shared → Prop}
    (hfr : A.frames = some (env :: outer)) (hl : s.heap.FunFrames noHeap (env :: outer)) (hf : env.frame = some L) (hin : ∀ b ∈ fa (env :: outer), b ∈ fr)
    (ex : Ex s.heap base e cls c .none) (kp : Kp fr base s.heap) (hen : base.get? e = none)
    (h : ∀ h', Kp fr base h' → h'.FunFrames noHeap (env :: outer) → Ex h' base e cls c (rawInt L) → Q () { s with heap := h' }) : wpAny M A (noteFrame (.ref e) env) Q E s := by
  obtain ⟨oe, vs, T, oT, ts, he, hcls, hd, h1, h2, hTe, hT0, hT, hdT, h3⟩ := ex
  subst hcls
  unfold noteFrame
  simp only [hf]
  refine wpAny_bind (wpAny_field he hd h1 ?_)
  rw [if_pos (show (Value.ref T != Value.none) = true from by simp)]
  refine wpAny_bind (wpAny_field hT hdT h3 ?_)
  rw [if_neg (show ¬ ((Value.none == rawInt L) = true) from by simp [rawInt])]
  refine wpAny_bind (wpAny_setField hT hdT (Array.getElem?_eq_some_iff.mp h3).1 ?_)
  obtain ⟨kp', hl'⟩ := ex_turn (e := e) (v := .none) kp hl hT0 hT hdT
  exact entry_at hfr hl' hf hin ((Heap.get?_update_other _ _ hTe).trans he) kp' hen hd (Array.getElem?_eq_some_iff.mp h1).1 h2 h
theorem note_again {base : Heap} {env : Env} {L e : Addr} {cls c : Value} {Q : Unit → Shared → Prop} (hf : env.frame = some L) (ex : Ex s.heap base e cls c (rawInt L)) (h : Q () s) : wpAny M A (noteFrame (.ref e) env) Q E s := by
  obtain ⟨oe, vs, T, oT, ts, he, hcls, hd, h1, h2, hTe, hT0, hT, hdT, h3⟩ := ex
  unfold noteFrame
  simp only [hf]
  refine wpAny_bind (wpAny_field he hd h1 ?_)
  rw [if_pos (show (Value.ref T != Value.none) = true from by simp)]
  refine wpAny_bind (wpAny_field hT hdT h3 ?_)
  rw [if_pos (show (rawInt L == rawInt L) = true from by simp)]
  exact wpAny_pure h
theorem set_flight {base : Heap} {fr : List Addr} {l : List Env} {e : Addr} {cls c fl : Value} {f : Option Addr} {Q : Unit → Shared → Prop} (kp : Kp fr base s.heap) (hl : s.heap.FunFrames noHeap l) (ex : Ex s.heap base e cls c fl)
    (h : ∀ h', Kp fr base h' → h'.FunFrames noHeap l → Ex h' base e cls c (f.elim .none fun a => rawInt a) → Q () { s with heap := h' }) : wpAny M A (setFlight (.ref e) f) Q E s := by
  obtain ⟨oe, vs, T, oT, ts, he, hcls, hd, h1, h2, hTe, hT0, hT, hdT, h3⟩ := ex
  have hsz3 : 3 < ts.size := (Array.getElem?_eq_some_iff.mp h3).1
  unfold setFlight
  refine wpAny_bind (wpAny_field he hd h1 ?_)
  rw [if_pos (show (Value.ref T != Value.none) = true from by simp)]
  obtain ⟨kp', hl'⟩ := ex_turn (e := e) (v := f.elim .none fun a => rawInt a) kp hl hT0 hT hdT
  refine wpAny_setField hT hdT hsz3 (h _ kp' hl' ?_)
  exact ⟨oe, vs, T, _, _, (Heap.get?_update_other _ _ hTe).trans he, hcls, hd, h1, h2, hTe, hT0, Heap.get?_update_self _ hT (Obj.isFreed_of_fields (Obj.data_mapFields hdT _)), Obj.data_mapFields hdT _, by simp [hsz3]⟩
/-- the frame is left, the exception noted in it -/
theorem leave_noted {base : Heap} {fr : List Addr} {l : List Env} {env : Env} {L e : Addr} {cls c : Value} {Q : Unit → Shared → Prop} (kp : Kp fr base s.heap) (hl : s.heap.FunFrames noHeap l) (hf : env.frame = some L) (ex : Ex s.heap base e cls c (rawInt L))
    (h : ∀ h', Kp fr base h' → h'.FunFrames noHeap l → Ex h' base e cls c .none → Q () { s with heap := h' }) : wpAny M A (leaving env (.ref e)) Q E s := by
  unfold leaving
  exact wpAny_bind (note_again hf ex (set_flight kp hl ex h))
theorem came_back {base : Heap} {fr : List Addr} {l : List Env} {env : Env} {L e : Addr} {cls c fl : Value} (kp : Kp fr base s.heap) (hl : s.heap.FunFrames noHeap l) (hf : env.frame = some L) (ex : Ex s.heap base e cls c fl)
    (h : ∀ h', Kp fr base h' → h'.FunFrames noHeap l → Ex h' base e cls c (rawInt L) → E (.ref e) { s with heap := h' }) : cameBackBy M A env E (.ref e) s := by
  unfold cameBackBy
  have ex' := ex
  obtain ⟨oe, vs, T, oT, ts, he, hcls, hd, h1, h2, hTe, hT0, hT, hdT, h3⟩ := ex
  refine wpAny_bind (wpAny_field he hd h1 ?_)
  rw [if_neg (show ¬ ((Value.ref T == Value.none) = true) from Bool.false_ne_true)]
  refine set_flight (f := env.frame) kp hl ex' ?_
  rw [hf]; exact h
end
end Mine
end
section
open PySem PySem.W PyProof.Rows
set_option Elab.async false
set_option maxRecDepth 100000
set_option linter.unusedVariables false
namespace Mine
section
variable {prog : Program} {w : World} {A : Around} {E : Value → Shared → Prop} {s : Shared} {env : Env}
theorem excFrom_is {cls : String} (F : ExcRaiseFacts cls) {e : Addr} {oe : Obj} {vs : Array Value} {msg : String} {Q : Value → Shared → Prop} (he : s.heap.get? e = some oe) (hc : oe.cls = .type cls) (hd : oe.data = .fields vs) (h : Q (.ref e) s) :
    wpAny (model prog w) A (excFromValue (.ref e) msg) Q E s := by
  obtain ⟨hp, g, d, tk, os⟩ := s
  obtain ⟨c, dd, dt, sl⟩ := oe
  simp only at hc hd
  subst hc hd
  have hsub := F.isExc
  have hmeta := F.plainMeta
  unfold excFromValue
  repeat (first | refine wpAny_loadPart he ?_ | wp_step)
  exact h
theorem notType_is {e : Addr} {oe : Obj} {vs : Array Value} {Q : Bool → Shared → Prop} (he : s.heap.get? e = some oe) (hd : oe.data = .fields vs) (h : Q false s) :
    wpAny (model prog w) A (isType (.ref e)) Q E s := by
  obtain ⟨hp, g, d, tk, os⟩ := s
  obtain ⟨c, dd, dt, sl⟩ := oe
  simp only at hd
  subst hd
  unfold isType
  refine wpAny_bind (wpAny_loadPart he ?_)
  exact wpAny_pure h
theorem raised_is {cls : String} (F : ExcRaiseFacts cls) {e : Addr} {oe : Obj} {vs : Array Value} {Q : Value → Shared → Prop} (he : s.heap.get? e = some oe) (hc : oe.cls = .type cls) (hd : oe.data = .fields vs) (h : Q (.ref e) s) :
    wpAny (model prog w) A (raisedInstance (.ref e)) Q E s := by
  obtain ⟨hp, g, d, tk, os⟩ := s
  obtain ⟨c, dd, dt, sl⟩ := oe
  simp only at hc hd
  subst hc hd
  have hmeta := F.plainMeta
  unfold raisedInstance
  repeat (first | refine wpAny_loadPart he ?_ | wp_step)
  exact h
theorem raiseStmt_from {cls : String} (F : ExcRaiseFacts cls) {x c : Sem Value} {Q : Flow → Shared → Prop} (hc : ∀ (Q : Value → Shared → Prop) (s : Shared), Q .none s → wpAny (model prog w) A c Q E s)
    (h : wpAny (model prog w) A x (fun v s₁ => ∃ e t, v = .ref e ∧ s₁.heap.get? e = some { cls := .type cls, data := .fields #[.ref t, .none, .none, .none, .bool false, .none] } ∧
      ∀ h', Heap.SameBut e s₁.heap h' → h'.get? e = some { cls := .type cls, data := .fields #[.ref t, .none, .none, .none, .bool true, .none] } → wpAny (model prog w) A (raiseNew (.ref e) : Sem Flow) Q E { s₁ with heap := h' }) E s) :
    wpAny (model prog w) A (raiseStmt env (some x) (some c)) Q E s := by
  unfold raiseStmt
  refine wpAny_bind (wpAny_mono h (fun v s₁ h₁ => ?_) fun _ _ x => x)
  obtain ⟨e, t, rfl, he, hE⟩ := h₁
  refine wpAny_bind (wpAny_holding (hc _ _ (wpAny_bind (wpAny_pure ?_))))
  refine wpAny_bind (wpAny_holding (excFrom_is F he rfl rfl ?_))
  dsimp only
  rw [if_pos (by decide)]
  refine wpAny_bind (wpAny_pure ?_)
  refine wpAny_bind (wpAny_setField he rfl (by simp) ?_)
  have he₁ := Heap.get?_update_self (Obj.mapFields (·.setIfInBounds 3 .none)) he (Obj.isFreed_of_fields (Obj.data_mapFields rfl _))
  refine wpAny_bind (wpAny_setField (s := { s₁ with heap := _ }) he₁ rfl (by simp [Obj.mapFields]) ?_)
  have he₂ := Heap.get?_update_self (Obj.mapFields (·.setIfInBounds 4 (.bool true))) he₁ (Obj.isFreed_of_fields (Obj.data_mapFields rfl _))
  generalize hh2 : (s₁.heap.update e (Obj.mapFields (·.setIfInBounds 3 .none))).update e (Obj.mapFields (·.setIfInBounds 4 (.bool true))) = h2 at he₂ ⊢
  have hsb : Heap.SameBut e s₁.heap h2 := by rw [← hh2]; exact (Heap.SameBut.update ..).trans (.update ..)
  have he₃ : h2.get? e = some { cls := .type cls, data := .fields #[.ref t, .none, .none, .none, .bool true, .none] } := he₂
  refine wpAny_bind (notType_is (s := { s₁ with heap := h2 }) he₃ rfl ?_)
  rw [if_neg (by decide)]
  refine wpAny_bind (raised_is F (s := { s₁ with heap := h2 }) he₃ rfl rfl ?_)
  refine wpAny_bind ?_
  unfold setFlight
  refine wpAny_bind (wpAny_field (s := { s₁ with heap := h2 }) he₃ rfl (x := .none) rfl ?_)
  rw [if_neg (by decide)]
  exact wpAny_pure (hE h2 hsb he₃)
end
end Mine
end
section
open PySem PySem.W PyProof.Rows
set_option Elab.async false
set_option maxRecDepth 100000
set_option linter.unusedVariables false
set_option maxHeartbeats 1000000
namespace Mine
theorem funFrames_kp {fr : List Addr} {h h' : Heap} {l : List Env} (k : Kp fr h h') (hl : h.FunFrames noHeap l) : h'.FunFrames noHeap l :=
  hl.of_keeps fun b o hb hnf => by obtain ⟨sl, e⟩ := k.slot b o hb; exact ⟨_, e, rfl⟩
section
variable {prog : Program} {w : World} {A A' : Around} {E : Value → Shared → Prop} {s : Shared} {env : Env} {g : Heap} {L : Addr} {m : Str → Option Value}
theorem raise_te {x msg : Str} {np cp ap kp pos : Pos} {k k2 : Nat} {outer : List Env} {fr : List Addr} {e0 : Addr} {Q : Flow → Shared → Prop}
    (hfr : A.frames = some (env :: outer)) (hh : A.handled = some (.ref e0)) (hc : ChainOk s.heap e0) (hl : s.heap.FunFrames noHeap (env :: outer)) (hf : env.frame = some L) (hin : ∀ b ∈ fa (env :: outer), b ∈ fr)
    (hat : At g L m s) (hname : Ev (model prog w) A g L m env (.Name x np) (fun f g' => f = .type "TypeError"))
    (h : ∀ e1 h' tk, Kp fr s.heap h' → h'.FunFrames noHeap (env :: outer) → s.heap.get? e1 = none → Ex h' s.heap e1 (.type "TypeError") (.ref e0) (rawInt L) → E (.ref e1) { s with heap := h', toks := tk })
    (hse : starEach [.Constant (.str msg) k ap] env = (false, eval (.Constant (.str msg) k ap) env) :: starEach [] env := by rfl) :
    wpAny (model prog w) A (execs [.Raise (some (.Call (.Name x np) [.Constant (.str msg) k ap] [] cp)) (some (.Constant .none k2 kp)) pos] env) Q (notedBy (model prog w) A env (cameBackBy (model prog w) A' env E)) s := by
  refine wpAny_execs_cons ?_
  rw [arm_exec_Raise]
  refine wpAny_bind (wpAny_standAt ?_)
  show wpAny _ _ (raiseStmt env (some (do let v ← eval (.Call (.Name x np) [.Constant (.str msg) k ap] [] cp) env; standAt pos; pure v)) (some (do let v ← eval (.Constant .none k2 kp) env; standAt pos; pure v))) _ _ _
  refine raiseStmt_from PySem.F.excRaise_TypeError (fun Q s hq => wpAny_bind (wpAny_Constant_none (wpAny_bind (wpAny_standAt (wpAny_pure hq))))) ?_
  refine wpAny_bind (wpAny_Call_ofName ((hname s hat).any fun f s₁ g₁ k₁ u₁ hf' => ?_))
  subst hf'
  refine callWith_excType (by rw [hse]; rfl) ?_
  have hargs := args_of (M := model prog w) (A := A) (g := g₁) (L := L) (m := m) (f := .type "TypeError") (pos := cp) (e := .Constant (.str msg) k ap) (rest := []) (R := fun vs _ => ∃ t, vs = [.str msg t])
    (evL_cons (ev_str fun t => evL_nil ⟨t, rfl⟩) hse) hse
  refine (hargs s₁ (hat.up k₁ u₁)).any fun a s₂ g₂ k₂ u₂ ha => ?_
  obtain ⟨ekw, t, epos⟩ := ha
  rw [ekw, epos]
  have hk := keeps_trans k₁ k₂
  obtain ⟨h2, tk2, rfl, sub2⟩ := id hk
  refine wpAny_call_exc PySem.F.excCall_TypeError (hrest := by simp [sizeLine_eq]) fun h3 e1 hm => ?_
  obtain ⟨tt, ht, _, _⟩ := hm.there
  refine wpAny_bind (wpAny_standAt (wpAny_pure ⟨e1, tt, rfl, ht, fun h4 hs4 he4 => ?_⟩))
  have hn1 : s.heap.get? e1 = none := by
    cases q : s.heap.get? e1 with
    | none => rfl
    | some o => have := hm.new; rw [sub2 _ _ q] at this; cases this
  have sub4 : Sub s.heap h4 := fun b o e => hs4.extBut b o (fun q => by rw [q, hn1] at e; cases e) (hm.keeps b o (sub2 b o e))
  refine raise_new (g := s.heap) (.inr ⟨e0, hh, hc⟩) sub4 hn1 he4 rfl (by simp) fun h5 oe vs hs5 he5 hcls hdat hn hsome => ?_
  have hvs := hsome _ hh
  have sub5 : Sub s.heap h5 := fun b o e => hs5.extBut b o (fun q => by rw [q, hn1] at e; cases e) (sub4 b o e)
  have kp5 : Kp fr s.heap h5 := .of_sub sub5
  unfold notedBy
  subst hvs
  refine note_first (s := { s with heap := h5, toks := tk2 }) (base := s.heap) (fr := fr) (c := .ref e0) hfr (funFrames_kp kp5 hl) hf hin he5 kp5 hn1 hdat rfl rfl fun h6 kp6 hl6 ex6 => ?_
  rw [hcls] at ex6
  refine came_back (s := { s with heap := h6, toks := tk2 }) kp6 hl6 hf ex6 fun h7 kp7 hl7 ex7 => ?_
  exact h e1 h7 tk2 kp7 hl7 hn1 ex7
end
end Mine
end
section
open PySem PySem.W PyProof.Rows
set_option Elab.async false
set_option maxRecDepth 100000
set_option linter.unusedVariables false
set_option maxHeartbeats 4000000
namespace Mine
theorem boot_stop : bootBuiltins (Str.ofString "StopIteration") = some (.type "StopIteration") := by decide +kernel
theorem boot_te : bootBuiltins (Str.ofString "TypeError") = some (.type "TypeError") := by decide +kernel
/-- what a raise leaves -/
def Raised (s : Shared) (outer : List Env) (x : Value) (s' : Shared) : Prop := ∃ e1 e0 hb h' tk o0 v0 fr, x = .ref e1 ∧ s' = { s with heap := h', toks := tk } ∧ Kp fr s.heap hb ∧ Kp fr hb h' ∧ (∀ b ∈ fa outer, b ∈ fr) ∧
  (∀ b ∈ fr, b ∉ fa outer → s.heap.get? b = none) ∧ h'.FunFrames noHeap outer ∧ hb.get? e1 = none ∧ Ex h' hb e1 (.type "TypeError") (.ref e0) .none ∧ hb.get? e0 = some o0 ∧ e0 ∉ fr ∧ o0.data = .fields v0 ∧ v0[2]? = some .none
theorem Tr.run {α : Type} {M : Model} {A : Around} {g : Heap} {L : Addr} {m : Str → Option Value} {t : Sem α} {P : α → Heap → Prop} {s : Shared} (h : Tr M A g L m t P) (hat : At g L m s) : VG M A t g P s := h s hat
theorem Ex.up {h h' base : Heap} {e : Addr} {cls c fl : Value} (x : Ex h base e cls c fl) (u : Sub h h') : Ex h' base e cls c fl := by
  obtain ⟨oe, vs, T, oT, ts, he, hcls, hd, h1, h2, hTe, hT0, hT, hdT, h3⟩ := x
  exact ⟨oe, vs, T, oT, ts, u _ _ he, hcls, hd, h1, h2, hTe, hT0, u _ _ hT, hdT, h3⟩
section
variable {prog : Program} {w : World} {A : Around} {g : Heap} {mg mb : Str → Option Value} {l : Addr} {s : Shared} {K : Frag}
theorem fun_raw {name qual : Str} {params : Arguments} {body : List Stmt} {scope : Scope} {dV kV doc pm cdv ct oc : Value} {an od : Option Addr} {osl : Array (Option Value)} {f : Addr} {args : List Value} {binds : List (Str × Value)} {Q E : Value → Shared → Prop}
    (X : K.In g) (hlim : g.NoLimit) (ho : K.lookup f = some ⟨oc, od, .func (fnOf name qual params body scope dV kV doc pm an cdv ct), osl⟩) (hcd : codeIn K cdv qual = true) (hroom : A.depth < recursionLimit)
    (hbind : ∀ s : Shared, Sub g s.heap → BindsTo s (fnOf name qual params body scope dV kV doc pm an cdv ct) ⟨args, []⟩ binds) (hloc : ∀ y ∈ binds, scope.names.lookup y.1 = some .local)
    (hcell : ∀ x ∈ scope.names, x.2 ≠ .cell) (hco : scope.isCoroutine = false) (hgen : scope.isGenerator = false) (hk : scope.kind = .function) (hs : Sub g s.heap)
    (h : ∀ s₁ L, L = s.heap.objs.size → Fm s g L (fun y => binds.reverse.lookup y) [] g s₁ → wpAny (model prog w) (A.deeper (envOf qual scope L f cdv)) (execs body (envOf qual scope L f cdv)) (fun fl s' => Q (flowV fl) s')
      (fun e s' => wpAny (model prog w) (A.deeper (envOf qual scope L f cdv)) (leaving (envOf qual scope L f cdv) e) (fun _ s'' => E e s'') (fun e' s'' => E e' s'') s') s₁) :
    wpAny (model prog w) A (call (.ref f) args) Q E s := by
  refine wpAny_call (codeAny_call_def (fd := fnOf name qual params body scope dV kV doc pm an cdv ct) (body := body) (binds := binds) hroom (hs _ _ (X _ _ ho)) rfl (hlim.keeps hs) (codeRec_of (X.keeps hs) hcd) rfl (hbind s hs) hcell hloc (fun h₁ hns hk₁ => ?_) hco hgen hk)
  have F : Fm s g s.heap.objs.size (fun y => binds.reverse.lookup y) [] g { s with heap := h₁, toks := s.toks + binds.length } :=
    ⟨⟨h₁, _, rfl⟩, hns, hk₁, fresh_size _, Sub.trans hs hk₁, new_none hs, fun _ _ e => e, fun _ _ _ => rfl, fun p hp => (nomatch hp)⟩
  refine wpAny_mono (h _ _ rfl F) (fun fl s' h' => ?_) fun _ _ x => x
  cases fl <;> exact h'
theorem f_reduce_raise {f : Value} {outer : List Env} (hdp : A.depth < recursionLimit) (hh : A.handled = none) (hfr : A.frames = some outer) (hl : s.heap.FunFrames noHeap outer) (W : Wd w mg mb g) (hs : Sub g s.heap) (hoff : ∀ b ∈ fa outer, g.get? b = none) (hls : g.IsList l #[]) :
    wpAny (model prog w) A (call (.ref 30) [f, .ref l]) (fun _ _ => False) (Raised s outer) s := by
  refine fun_raw (K := hd.heap_39 w.params) (binds := [(Str.ofString "function", f), (Str.ofString "sequence", .ref l), (Str.ofString "initial", .ref 22)]) W.K W.lim (by k_is) (by k_is) hdp (fun s hs => binds_K (K := hd.heap_39 w.params) (T := 23) (W.K.keeps hs) rfl (by k_is) rfl rfl rfl) (locs rfl) (by decide) rfl rfl rfl hs fun s₁ L hL F₁ => ?_
  refine wpAny_execs_cons (wpAny_mono ((bx_assignN (R := fun fl m' X' g' => fl = .next ∧ g = g' ∧ m' (Str.ofString "initial") = some (.ref 22) ∧ ∃ I o, X' = [(I, o)] ∧ IO o l 0 ∧ m' (Str.ofString "it") = some (.ref I)) (X' := []) (fun p hp => (nomatch hp)) .nil rfl rfl rfl fun gp hgp => ?_) s₁ F₁) (fun fl s₂ h₂ => ?_) fun _ _ x => x.elim)
  · have Wp := W.up hgp.1
    refine ev_call (ev_blt Wp (by k_is) (by boot_fast) (by decide) ?_ rfl rfl rfl rfl)
    exact go_builtin (evL_cons (ev_local rfl rfl rfl rfl (evL_nil (op_iter (isList_up hls hgp.1) fun I gq o uq hIn hI hio => ⟨I, o, rfl, hIn, hI, fun _ => ⟨rfl, rfl, rfl, I, o, rfl, hio, rfl⟩⟩))))
  obtain ⟨m₂, X₂, g₂, F₂, O₂, rfl, rfl, mi, I, o, rfl, hio, mit⟩ := h₂
  replace F₂ : Fm s g L m₂ [(I, o)] g s₂ := F₂
  refine wpAny_execs_cons (wpAny_If (VG.any (g := g) (P := fun b g' => b = true ∧ g = g') ?_ fun b s₃ g₃ k₃ u₃ hb => ?_))
  · exact Tr.run (ts_cmp (ev_local rfl rfl rfl mi (ev_glob W (by k_is) (op_is_self (op_truthB ⟨rfl, rfl⟩)) rfl rfl rfl))) F₂.at
  obtain ⟨rfl, rfl⟩ := hb
  obtain ⟨F₃, O₃⟩ := F₂.keeps' k₃
  rw [if_pos rfl]
  refine wpAny_execs_cons (wpAny_Try_except (wpAny_execs_cons (wpAny_Assign_Name (wpAny_Call_ofName (VG.any (g := g) (P := fun f g' => f = .builtin "next" ∧ g = g') ?_ fun fv s₄ g₄ k₄ u₄ hf' => ?_)))))
  · exact Tr.run (ev_blt W (by k_is) (by boot_fast) (by decide) ⟨rfl, rfl⟩ rfl rfl rfl rfl) F₃.at
  obtain ⟨rfl, rfl⟩ := hf'
  obtain ⟨F₄, O₄⟩ := F₃.keeps' k₄
  refine Calls.callWith_builtin rfl ?_
  refine VG.any (g := g) (P := fun a g' => a.kw = [] ∧ a.pos = [.ref I] ∧ g = g') ?_ fun a s₅ g₅ k₅ u₅ ha => ?_
  · exact Tr.run (args_of (R := fun vs g' => vs = [.ref I] ∧ g = g') (evL_cons (ev_local rfl rfl rfl mit (evL_nil ⟨rfl, rfl⟩)) rfl) rfl) F₄.at
  obtain ⟨ekw, epos, rfl⟩ := ha
  rw [ekw, epos]
  obtain ⟨F₅, O₅⟩ := F₄.keeps' k₅
  obtain ⟨hI, hIL, hgI, h0I⟩ := F₅.own _ (.head _)
  refine call_next_end (A := A.deeper _) (l := l) (i := 0) (g := g) (.inl hh) F₅.sub ⟨o, hI, hio.1, hio.2⟩ hgI (isList_up hls F₅.sub) (by simp) fun h₆ e0 t oe hk₆ haI he0 he6 hc6 hd6 => ?_
  have sub5 : Sub s.heap h₆ := fun b ob e => hk₆ b ob (fun q => by rw [q, h0I] at e; cases e) (F₅.base b ob e)
  have n0 : s.heap.get? e0 = none := by
    cases q : s.heap.get? e0 with
    | none => rfl
    | some ob => rw [F₅.base _ _ q] at he0; cases he0
  have ng0 : g.get? e0 = none := by
    cases q : g.get? e0 with
    | none => rfl
    | some ob => rw [F₅.sub _ _ q] at he0; cases he0
  obtain ⟨oL, hoL⟩ := F₅.live
  have hL0 : L ≠ e0 := fun q => by rw [q, he0] at hoL; cases hoL
  obtain ⟨ba, eba⟩ := exists_heap h₆.objs.size (fun a => if a = e0 then none else h₆.get? a) (fun i ob q => by
    split at q
    · cases q
    · exact ⟨Heap.lt_size q, (Heap.get?_some_iff.mp q).2⟩)
  have sub_ba : Sub ba h₆ := fun b ob e => by
    rw [eba] at e
    split at e
    · cases e
    · exact e
  have to_ba : ∀ b ob, b ≠ e0 → h₆.get? b = some ob → ba.get? b = some ob := fun b ob hb e => by rw [eba, if_neg hb]; exact e
  have ba0 : ba.get? e0 = none := by rw [eba, if_pos rfl]
  have ns6 : h₆.Ns L m₂ := F₅.ns.at' fun ob e => hk₆ _ ob (Ne.symm hIL) e
  have nsb : ba.Ns L m₂ := ns6.at' fun ob e => to_ba _ ob hL0 e
  have s_ba : Sub s.heap ba := fun b ob e => to_ba b ob (fun q => by rw [q, n0] at e; cases e) (sub5 b ob e)
  have g_ba : Sub g ba := fun b ob e => to_ba b ob (fun q => by rw [q, ng0] at e; cases e) (hk₆ b ob (fun q => by rw [q, hgI] at e; cases e) (F₅.sub b ob e))
  have hk : ∀ h', Kp (L :: fa outer) ba h' → Sub g h' := fun h' k b ob e => k.keep b ob (fun q => by
    rcases List.mem_cons.mp q with q | q
    · rw [q, F₅.off] at e; cases e
    · rw [hoff b q] at e; cases e) (g_ba b ob e)
  have e0fr : e0 ∉ L :: fa outer := fun q => by
    rcases List.mem_cons.mp q with q | q
    · exact hL0 q.symm
    · obtain ⟨_, ob, hob, _⟩ := hl.mem q; rw [n0] at hob; cases hob
  refine note_first (base := ba) (fr := L :: fa outer) (c := .none) (Around.frames_deeper hfr) (Heap.FunFrames.cons (L := L) ?_ rfl ns6 (noHeap_none L) (hl.of_keeps (h' := h₆) fun b ob hb _ => ⟨ob, sub5 b ob hb, rfl⟩)) rfl (fun b hb => hb) he6 (.of_sub sub_ba) ba0 hd6 rfl ?_ fun h₇ kp7 hl7 ex7 => ?_
  · exact fun q => nomatch q
  · show some (hOf (A.deeper _)) = some .none
    unfold hOf; rw [show (A.deeper _).handled = none from hh]
  rw [hc6] at ex7
  refine set_flight kp7 hl7 ex7 fun h₈ kp8 hl8 ex8 => ?_
  refine wpAny_handleBy_builtin (X := "StopIteration") (T := "StopIteration") (b := true) (by rw [isSubtype_type]; kernel_rfl) (by rw [isSubtype_type]; kernel_rfl) isSubtype_stop ?_
  have at8 : At g L m₂ { s₅ with heap := h₈ } := ⟨hk h₈ kp8, kp8.ns nsb⟩
  refine VG.any (g := g) (P := fun f g' => f = .type "StopIteration" ∧ g = g') ?_ fun c s₉ g₉ k₉ u₉ hc => ?_
  · exact Tr.run (ev_blt W (by k_is) boot_stop (by decide) ⟨rfl, rfl⟩ rfl rfl rfl rfl) at8
  obtain ⟨rfl, rfl⟩ := hc
  obtain ⟨h9, tk9, rfl, sub9⟩ := id k₉
  have kp9 : Kp (L :: fa outer) ba h9 := kp8.trans (.of_sub sub9)
  have hl9 := funFrames_kp (.of_sub (fr := []) sub9) hl8
  have ex9 := ex8.up sub9
  refine ⟨rfl, ?_, ?_⟩
  · obtain ⟨oe9, vs9, T9, oT9, ts9, he9, hcls9, _⟩ := ex9
    exact ⟨oe9, he9, hcls9⟩
  rw [if_pos rfl]
  refine set_flight kp9 hl9 ex9 fun h10 kp10 hl10 ex10 => ?_
  have at10 : At g L m₂ ⟨h10, s₅.gens, s₅.drawn, tk9, s₅.os⟩ := ⟨hk h10 kp10, kp10.ns nsb⟩
  obtain ⟨oe10, vs10, T10, oT10, ts10, he10, hcls10, hd10, h110, h210, hrest⟩ := id ex10
  refine raise_te (outer := outer) (fr := L :: fa outer) (e0 := e0) (g := g) (m := m₂) (L := L) (Around.frames_deeper hfr) rfl ⟨oe10, vs10, he10, hd10, .inl h210⟩ hl10 rfl (fun b hb => hb) at10 (ev_blt W (by k_is) boot_te (by decide) rfl rfl rfl rfl rfl) fun e1 h11 tk11 kp11 hl11 hn11 ex11 => ?_
  refine leave_noted kp11 hl11 rfl ex11 fun h12 kp12 hl12 ex12 => ?_
  obtain ⟨hs5, tks5, e5⟩ := F₅.same
  exact ⟨e1, e0, h10, h12, tk11, oe10, vs10, L :: fa outer, rfl, by rw [e5], (Kp.of_sub s_ba).trans kp10, kp12, fun b hb => .tail _ hb, fun b hb hn => by
    rcases List.mem_cons.mp hb with q | q
    · rw [q]; exact F₅.newL
    · exact absurd q hn, hl12.2.2, hn11, ex12, he10, e0fr, hd10, h210⟩
end
end Mine
end
section
open PySem PySem.W PyProof.Rows
set_option Elab.async false
set_option maxRecDepth 100000
set_option linter.unusedVariables false
set_option maxHeartbeats 1000000
namespace Mine
section
variable {prog : Program} {w : World} {A : Around} {g : Heap} {L : Addr} {m : Str → Option Value} {env : Env}
/-- xs[:b] -/
theorem ev_upto {value : Expr} {b k : Nat} {p2 p pos : Pos} {R : Value → Heap → Prop}
    (h : Ev (model prog w) A g L m env value (fun o g₁ => ∃ l items, o = .ref l ∧ g₁.IsList l items ∧ items.size ≤ sizeLine ∧
      ∀ a g'', Sub g₁ g'' → g₁.get? a = none → g''.get? a = some { cls := .type "list", data := .seq (items.toList.take b).toArray } → R (.ref a) g''))
    (ht : ∀ o r, letTemporaryGo value o r = pure () := by intro _ _; rfl) :
    Ev (model prog w) A g L m env (.Subscript value (.Slice none (some (.Constant (.int (b : Int)) k p2)) none p) pos) R := fun s hs => by
  refine wpAny_Subscript_list_slice ((h s hs).any fun o s₁ g₁ k₁ u₁ ho => ?_) ht
  obtain ⟨l, items, rfl, hl, hsz, hR⟩ := ho
  rw [evalPart_none]
  refine wpAny_pure ?_
  show wpAny _ _ (eval (.Constant (.int (b : Int)) k p2) env) _ _ _
  refine wpAny_Constant_int ?_
  refine ⟨l, items, none, some (b : Int), rfl, isList_up hl u₁.sub, hsz, .none, .int _ _, ?_⟩
  rw [slicePick_upto']
  have k₂ : Keeps s₁ ⟨(s₁.heap.push { cls := .type "slice", data := .fields #[.none, .int b s₁.toks, .none] }).push { cls := .type "list", data := .seq (items.toList.take b).toArray }, s₁.gens, s₁.drawn, s₁.toks + 1, s₁.os⟩ :=
    ⟨_, _, rfl, fun _ _ e => Heap.get?_push_of_some _ (Heap.get?_push_of_some _ e)⟩
  obtain ⟨g₂, u₂, e₂⟩ := grow u₁.sub k₂
  refine ⟨keeps_trans k₁ k₂, g₂, u₁.trans k₁ u₂, hR _ g₂ u₂.up ?_ ?_⟩
  · cases q : g₁.get? (s₁.heap.objs.size + 1) with
    | none => rfl
    | some o => exact absurd (Heap.lt_size (u₁.sub _ _ q)) (Nat.not_lt.mpr (Nat.le_succ _))
  · rw [e₂ _ (Heap.get?_none_of_le (Nat.le_succ _))]
    show Heap.get? ((s₁.heap.push _).push _) _ = _
    heap_get
end
end Mine
end
section
open PySem PySem.W PyProof.Rows
set_option Elab.async false
set_option maxRecDepth 100000
set_option linter.unusedVariables false
set_option maxHeartbeats 4000000
namespace Mine
section
variable {prog : Program} {w : World} {A : Around} {g : Heap} {mg mb : Str → Option Value} {l : Addr} {s : Shared}
theorem Bx.run {M : Model} {s₀ : Shared} {g₀ : Heap} {L : Addr} {m : Str → Option Value} {X : List (Addr × Obj)} {t : Sem Flow} {R : Flow → (Str → Option Value) → List (Addr × Obj) → Heap → Prop} (h : Bx M A s₀ g₀ L m X g t R) (F : Fm s₀ g₀ L m X g s) :
    wpAny M A t (fun f s' => ∃ m' X' g', Fm s₀ g₀ L m' X' g' s' ∧ Oth L X g s X' g' s' ∧ R f m' X' g') (fun _ _ => False) s := h s F
theorem op_list_is22 {l : Addr} {arr : Array Value} {P : Value → Heap → Prop} (W : Wd w mg mb g) (hA : g.IsList l arr) (h : P (.bool false) g) : Op (model prog w) A g (compareOp .Is (.ref l) (.ref 22)) P := by
  obtain ⟨o, ho, hc, n, hd'⟩ := hA
  have h22 := W.K 22 _ (show (hd.heap_39 w.params).lookup 22 = some _ by k_is)
  refine op_is_other (fun q => ?_) ho h22 (by rw [hc]; decide) h
  rw [q, h22] at ho
  cases ho
  exact nomatch hc
theorem f_ends {x0 : Addr} {xs : List Addr} {outer : List Env} (r : Room A 3) (hfr : A.frames = some outer) (hl : s.heap.FunFrames noHeap outer) (W : Wd w mg mb g) (hs : Sub g s.heap) (hoff : ∀ b ∈ fa outer, g.get? b = none)
    (hrow : IsRow g l (x0 :: xs)) (hsz : xs.length ≤ 100) :
    wpAny (model prog w) A (call (.ref 137) [.ref l]) (fun v s' => v = .bool true ∧ ∃ h tk, s' = { s with heap := h, toks := tk } ∧ Kp (fa outer) s.heap h) (fun _ _ => False) s := by
  refine fun_raw (K := hd.heap_39 w.params) (binds := [(Str.ofString "leads", .ref l)]) W.K W.lim (by k_is) (by k_is) r.depth (fun s hs => BindsTo.of_eq rfl) (locs rfl) (by decide) rfl rfl rfl hs fun s₁ L hL F₁ => ?_
  obtain ⟨arr, hA, eA⟩ := hrow
  have zA := row_len eA
  have sl := sizeLine_eq
  simp only [List.length_cons] at zA
  refine wpAny_execs_cons (wpAny_mono ((bx_if (R := fun fl m' X' g' => fl = .next ∧ Sub g g' ∧ X' = [] ∧ m' = fun y => List.lookup y [(Str.ofString "leads", Value.ref l)].reverse) ?_) s₁ F₁) (fun fl s₂ h₂ => ?_) fun _ _ x => x.elim)
  · refine ts_or (ts_cmp (ev_call (ev_glob W (by k_is) ?_ rfl rfl rfl)))
    refine go_ref (KeepOk.of W.K (by k_is)) (evL_cons (ev_glob W (by k_is) ?_ rfl rfl rfl))
    refine evL_cons (ev_list (evL_nil ⟨by decide, fun D g1 u1 hDn hD => ?_⟩))
    refine evL_cons (ev_local rfl rfl rfl rfl (evL_nil ?_))
    have W1 := W.up u1
    have hD1 : g1.IsList D #[] := ⟨_, hD, rfl, 0, rfl⟩
    refine f_reduce (Inv := fun i v g' => v = .ref l) (items := #[]) (r.deeper _).depth (.inl r.hh) W1 hD1 (KeepOk.of W1.K (by k_is)) (fun A' g' P u h' => op_list_is22 (W1.up u) (isList_up (isList_up hA u1) u) h') (fun _ _ => rfl) (fun env i v x g' hx => by simp at hx) ?_
    rintro v g2 g3 u2 u3 rfl
    have uu := Sub.trans u1 (Sub.trans u2 u3)
    have W3 := W.up uu
    have hA3 := isList_up hA uu
    refine ev_local rfl rfl rfl rfl (op_isNot_self (op_truthB ?_))
    rw [if_neg (by decide)]
    refine ts_cmp (ev_call (ev_glob W3 (by k_is) ?_ rfl rfl rfl))
    refine go_ref (KeepOk.of W3.K (by k_is)) (evL_cons (ev_glob W3 (by k_is) ?_ rfl rfl rfl))
    refine evL_cons (ev_upto (b := 1) (ev_local rfl rfl rfl rfl ⟨l, arr, rfl, hA3, by omega, fun B g4 u4 hBn hB => evL_nil ?_⟩))
    have W4 := W3.up u4
    have e1 : (arr.toList.take 1).toArray = #[.ref x0] := by rw [eA]; rfl
    rw [e1] at hB
    refine f_reduce0 (Inv := fun i v g' => i = 1 ∧ v = .ref x0) (items := #[.ref x0]) (r.deeper _).depth (.inl r.hh) W4 ⟨_, hB, rfl, 0, rfl⟩ (KeepOk.of W4.K (by k_is)) rfl (fun _ _ => ⟨rfl, rfl⟩) (fun env i v x g' hx _ hi => by rw [hi.1] at hx; simp at hx) ?_
    rintro v g5 g6 u5 u6 ⟨_, rfl⟩
    have u46 := Sub.trans uu (Sub.trans u4 (Sub.trans u5 u6))
    refine ev_item (ev_local rfl rfl rfl rfl (ev_int fun t1 => op_item_list (x := .ref x0) (isList_up hA u46) (by decide) (by decide) (row_get eA rfl) (op_isNot_self (op_truthB ?_))))
    rw [if_neg (by decide)]
    exact bx_nil ⟨rfl, u46, rfl, rfl⟩
  obtain ⟨m₂, X₂, g₂, F₂, O₂, rfl, ug, rfl, rfl⟩ := h₂
  have W2 := W.up ug
  refine wpAny_execs_cons (wpAny_Try_except (wpAny_execs_cons (wpAny_Expr (wpAny_Call_ofName (VG.any (g := g₂) (P := fun f g' => f = .ref 30 ∧ g₂ = g') ?_ fun fv s₃ g₃ k₃ u₃ hf' => ?_)))))
  · exact Tr.run (ev_glob W2 (by k_is) ⟨rfl, rfl⟩ rfl rfl rfl) F₂.at
  obtain ⟨rfl, rfl⟩ := hf'
  obtain ⟨F₃, O₃⟩ := F₂.keeps' k₃
  refine callWith_of (P := fun h => Sub g₂ h) rfl (fun h hu => (KeepOk.of W2.K (by k_is)).up hu) (VG.any (g := g₂) (P := fun a g' => a.kw = [] ∧ ∃ D, a.pos = [.ref 120, .ref D] ∧ g'.IsList D #[]) ?_ fun a s₄ g₄ k₄ u₄ ha => ⟨Sub.trans u₄.up u₄.sub, ?_⟩)
  · exact Tr.run (args_of (R := fun vs g' => ∃ D, vs = [.ref 120, .ref D] ∧ g'.IsList D #[]) (evL_cons (ev_glob W2 (by k_is) (evL_cons (ev_list (evL_nil ⟨by decide, fun D g1 u1 hDn hD => evL_nil ⟨D, rfl, _, hD, rfl, 0, rfl⟩⟩))) rfl rfl rfl)) rfl) F₃.at
  obtain ⟨ekw, D, epos, hD⟩ := ha
  rw [ekw, epos]
  have F₄ := F₃.keeps k₄ u₄
  have W4 := W2.up u₄.up
  have hoff4 : ∀ b ∈ L :: fa outer, g₄.get? b = none := fun b hb => by
    rcases List.mem_cons.mp hb with q | q
    · rw [q]; exact F₄.off
    · obtain ⟨_, ob, hob, _⟩ := hl.mem q
      exact (F₄.fresh b ob hob).trans (hoff b q)
  refine wpAny_mono (f_reduce_raise (A := A.deeper _) (g := g₄) (mg := mg) (mb := mb) (r.deeper _).depth r.hh (Around.frames_deeper hfr) (Heap.FunFrames.cons (L := L) ?_ rfl F₄.ns (noHeap_none L) (hl.of_keeps (h' := s₄.heap) fun b ob hb _ => ⟨ob, F₄.base b ob hb, rfl⟩)) W4 F₄.sub hoff4 hD) (fun _ _ x => x.elim) (fun x s₅ hx => ?_)
  · exact fun q => nomatch q
  obtain ⟨e1, e0, hb, h', tk, o0, v0, fr, rfl, rfl, kpa, kpb, hin, hout, hlf, hne1, ex, he0, he0fr, hd0, hv0⟩ := hx
  refine note_next (base := hb) (fr := fr) (Around.frames_deeper hfr) hlf rfl hin ex kpb hne1 fun h₆ kp6 hl6 ex6 => ?_
  refine set_flight kp6 hl6 ex6 fun h₇ kp7 hl7 ex7 => ?_
  have hk : ∀ h', Kp fr hb h' → Sub g₄ h' := fun h' k b ob e => (kpa.trans k).keep b ob (fun q => by
    by_cases q' : b ∈ L :: fa outer
    · rw [hoff4 b q'] at e; cases e
    · have := hout b q q'; rw [F₄.sub _ _ e] at this; cases this) (F₄.sub b ob e)
  refine wpAny_handleBy_builtin (X := "TypeError") (T := "TypeError") (b := true) (by rw [isSubtype_type]; kernel_rfl) (by rw [isSubtype_type]; kernel_rfl) (by rw [isSubtype_type]; kernel_rfl) ?_
  refine VG.any (g := g₄) (P := fun f g' => f = .type "TypeError" ∧ g₄ = g') ?_ fun c s₉ g₉ k₉ u₉ hc => ?_
  · exact Tr.run (L := L) (m := fun y => List.lookup y [(Str.ofString "leads", Value.ref l)].reverse) (ev_blt W4 (by k_is) boot_te (by decide) ⟨rfl, rfl⟩ rfl rfl rfl rfl) ⟨hk h₇ kp7, (kpa.trans kp7).ns F₄.ns⟩
  obtain ⟨rfl, rfl⟩ := hc
  obtain ⟨h9, tk9, rfl, sub9⟩ := id k₉
  have kp9 : Kp fr hb h9 := kp7.trans (.of_sub sub9)
  have hl9 := funFrames_kp (.of_sub (fr := []) sub9) hl7
  have ex9 := ex7.up sub9
  refine ⟨rfl, ?_, ?_⟩
  · obtain ⟨oe9, vs9, T9, oT9, ts9, he9, hcls9, _⟩ := ex9
    exact ⟨oe9, he9, hcls9⟩
  rw [if_pos rfl]
  refine set_flight kp9 hl9 ex9 fun h10 kp10 hl10 ex10 => ?_
  obtain ⟨oe10, vs10, T10, oT10, ts10, he10, hcls10, hd10, h110, h210, hrest⟩ := id ex10
  have ns10 := (kpa.trans kp10).ns F₄.ns
  have he0' := kp10.keep e0 o0 he0fr he0
  obtain ⟨oL, hoL⟩ := F₄.live
  have nL0 : e0 ≠ L := fun q => he0fr (hin e0 (q ▸ List.mem_cons_self))
  have nL1 : e1 ≠ L := fun q => by obtain ⟨sl', e'⟩ := kpa.slot L oL hoL; rw [← q, hne1] at e'; cases e'
  obtain ⟨g₅, eg⟩ := exists_heap h10.objs.size (fun a => if a = L then none else h10.get? a) (fun i ob q => by
    split at q
    · cases q
    · exact ⟨Heap.lt_size q, (Heap.get?_some_iff.mp q).2⟩)
  have u5 : Sub g₅ h10 := fun b ob e => by
    rw [eg] at e
    split at e
    · cases e
    · exact e
  have up5 : Sub g₄ g₅ := fun b ob e => by rw [eg, if_neg (fun q => by rw [q, F₄.off] at e; cases e)]; exact hk h10 kp10 b ob e
  have W5 := W4.up up5
  have chain : ChainOk g₅ e1 := ⟨oe10, vs10, by rw [eg, if_neg nL1]; exact he10, hd10, .inr ⟨e0, o0, v0, h210, fun q => (by rw [q, hne1] at he0; cases he0), by rw [eg, if_neg nL0]; exact he0', hd0, hv0⟩⟩
  have FF : Fm ⟨noHeap, s₄.gens, s₄.drawn, tk9, s₄.os⟩ g₅ L (fun y => List.lookup y [(Str.ofString "leads", Value.ref l)].reverse) [] g₅ ⟨h10, s₄.gens, s₄.drawn, tk9, s₄.os⟩ :=
    ⟨⟨h10, tk9, rfl⟩, ns10, fun b ob e => (by rw [show (⟨noHeap, s₄.gens, s₄.drawn, tk9, s₄.os⟩ : Shared).heap.get? b = none from noHeap_none b] at e; cases e), noHeap_none L, u5, by rw [eg, if_pos rfl], fun _ _ e => e, fun a ob e => rfl, fun p hp => (nomatch hp)⟩
  refine wpAny_mono (Bx.run (R := fun fl m' X' g' => fl = .ret (.bool true)) ?_ FF) (fun fl s' h' => ?_) fun _ _ x => x.elim
  · refine bx_cons (bx_return (ev_cmp (ev_call (ev_glob W5 (by k_is) ?_ rfl rfl rfl))))
    refine go_ref (KeepOk.of W5.K (by k_is)) (evL_cons (ev_glob W5 (by k_is) ?_ rfl rfl rfl))
    refine evL_cons (ev_list (evL_nil ⟨by decide, fun D2 g6 u6 hDn hD2 => evL_cons (ev_none (evL_nil ?_))⟩))
    have W6 := W5.up u6
    refine f_reduce (Inv := fun i v g' => v = .none) (items := #[]) (show A.depth + 1 < recursionLimit by have := r.dp; omega) (.inr ⟨e1, rfl, chain.up u6⟩) W6 ⟨_, hD2, rfl, 0, rfl⟩ (KeepOk.of W6.K (by k_is)) (fun A' g' P u h' => op_is_plain (by decide) h') (fun _ _ => rfl) (fun env i v x g' hx => by simp at hx) ?_
    rintro v g7 g8 u7 u8 rfl
    exact ev_none (op_is_plain (by decide) rfl)
  · obtain ⟨m', X', g', F', O', hfl⟩ := h'
    subst hfl
    obtain ⟨h4, tk4, e4⟩ := F₄.same
    obtain ⟨hf, tkf, ef⟩ := F'.same
    refine ⟨rfl, hf, tkf, by rw [ef, e4], ?_⟩
    have hfin : ∀ b ob, s.heap.get? b = some ob → b ≠ L := fun b ob e q => by rw [q, F₄.newL] at e; cases e
    have hh' : s'.heap = hf := by rw [ef]
    refine ⟨fun b ob hb e => ?_, fun b ob e => ?_⟩
    · have e1 := (kpa.trans kp10).keep b ob (fun q => by
        have := hout b q (fun q' => by
          rcases List.mem_cons.mp q' with q' | q'
          · exact hfin b ob e q'
          · exact hb q')
        rw [F₄.base _ _ e] at this; cases this) (F₄.base _ _ e)
      rw [← hh']
      exact O'.keep b ob (hfin b ob e) (fun p hp => (nomatch hp)) e1
    · obtain ⟨sl', e1⟩ := (kpa.trans kp10).slot b ob (F₄.base _ _ e)
      refine ⟨sl', ?_⟩
      rw [← hh']
      exact O'.keep b _ (hfin b ob e) (fun p hp => (nomatch hp)) e1
end
end Mine
end
section
open PySem PySem.W PyProof.Rows
set_option Elab.async false
set_option maxRecDepth 100000
set_option linter.unusedVariables false
set_option maxHeartbeats 1000000
namespace Mine
/-- a run from a frame to an end given -/
def Bz (M : Model) (A : Around) (s₀ : Shared) (g₀ : Heap) (L : Addr) (m : Str → Option Value) (X : List (Addr × Obj)) (g : Heap) (t : Sem Flow) (Q : Flow → Shared → Prop) : Prop :=
  ∀ s, Fm s₀ g₀ L m X g s → wpAny M A t Q (fun _ _ => False) s
section
variable {prog : Program} {w : World} {A : Around} {s₀ : Shared} {g₀ g : Heap} {L : Addr} {m : Str → Option Value} {X : List (Addr × Obj)} {env : Env} {Q : Flow → Shared → Prop}
theorem bz_cons {st : Stmt} {rest : List Stmt} (h : Bx (model prog w) A s₀ g₀ L m X g (exec st env) (fun f m' X' g' => f = .next ∧ Bz (model prog w) A s₀ g₀ L m' X' g' (execs rest env) Q)) :
    Bz (model prog w) A s₀ g₀ L m X g (execs (st :: rest) env) Q := fun s F => by
  refine wpAny_execs_cons (wpAny_mono (h s F) (fun f s' h' => ?_) fun _ _ x => x)
  obtain ⟨m', X', g', F', O', rfl, hr⟩ := h'
  exact hr s' F'
/-- x = e, a cell that is not set anew later -/
theorem bz_cell {x : Str} {px pos : Pos} {e : Expr} {rest : List Stmt} {c : Addr} {o : Obj} {v₀ : Option Value} {pre post : List (Addr × Obj)} (hnd : (pre ++ (c, o) :: post).Pairwise fun p q => p.1 ≠ q.1) (ho : o.data = .cell v₀)
    (hl : env.locals = L) (hk : env.scope.kind = .function) (hx : env.kindOf x = some .cell) (hc : env.cells.lookup x = some c)
    (h : Ev (model prog w) A g L m env e (fun v g' => ∀ g'', Sub g' g'' → g''.IsCell c (some v) → Bz (model prog w) A s₀ g₀ L m (pre ++ post) g'' (execs rest env) Q))
    (hs : swapsWith e (some (.Name x px)) pos.line env = pure false := by rfl) : Bz (model prog w) A s₀ g₀ L m (pre ++ (c, o) :: post) g (execs (.Assign [.Name x px] e pos :: rest) env) Q := fun s F => by
  subst hl
  have hmem : (c, o) ∈ pre ++ (c, o) :: post := List.mem_append_right _ (.head _)
  refine wpAny_execs_cons (wpAny_Assign_Name ((h s F.at).any fun v s' g' k u hv => ?_) hs)
  have F' := F.keeps k u
  obtain ⟨hc1, hcL, hcg, hc0⟩ := F'.own _ hmem
  refine wpAny_storeName_cell hk hx hc ⟨o, hc1, ho⟩ fun h' hcell hsb => ?_
  obtain ⟨o', ho', hd'⟩ := id hcell
  obtain ⟨F₂, O₂⟩ := F'.turn (tk := s'.toks) hnd hsb ho'
  obtain ⟨g'', eg⟩ := exists_heap h'.objs.size (fun a => if a = c then some o' else g'.get? a) (fun i ob q => by
    split at q
    · cases q; rename_i e; subst e; exact ⟨Heap.lt_size ho', (Heap.get?_some_iff.mp ho').2⟩
    · have := F₂.sub _ _ q; exact ⟨Heap.lt_size this, (Heap.get?_some_iff.mp this).2⟩)
  have up : Sub g' g'' := fun b ob e => by rw [eg, if_neg (fun q => by rw [q, hcg] at e; cases e)]; exact e
  have hne : ∀ p, p ∈ pre ∨ p ∈ post → p.1 ≠ c := fun p hp => by
    obtain ⟨h1, h2, h3⟩ := List.pairwise_append.mp hnd
    rcases hp with hp | hp
    · exact h3 p hp _ (.head _)
    · exact fun q => (List.pairwise_cons.mp h2).1 p hp q.symm
  refine hv g'' up ⟨o', by rw [eg, if_pos rfl], hd'⟩ _ ⟨F₂.same, F₂.ns, F₂.base, F₂.newL, fun b ob e => ?_, ?_, Sub.trans F₂.up up, fun a ob e => ?_, fun p hp => ?_⟩
  · rw [eg] at e
    split at e
    · cases e; rename_i q; subst q; exact ho'
    · exact F₂.sub _ _ e
  · rw [eg, if_neg (Ne.symm hcL)]; exact F₂.off
  · rw [eg, if_neg (fun q => by rw [q, hc0] at e; cases e)]; exact F₂.fresh a ob e
  · have hp' : p ∈ pre ∨ p ∈ post := List.mem_append.mp hp
    obtain ⟨a1, a2, a3, a4⟩ := F₂.own p (hp'.elim (fun q => List.mem_append_left _ q) fun q => List.mem_append_right _ (.tail _ q))
    exact ⟨a1, a2, by rw [eg, if_neg (hne p hp')]; exact a3, a4⟩
/-- return of the ends' check -/
theorem bz_ends {x y : Str} {np ap cp pos : Pos} {l x0 : Addr} {xs : List Addr} {mg mb : Str → Option Value} {rest : List Stmt} {A₀ : Around} (r : Room (A₀.deeper env) 3) (hfr : A₀.frames = some []) (hf : env.frame = some L) (hkm : env.scope.kind ≠ .module) (W : Wd w mg mb g) (hrow : IsRow g l (x0 :: xs)) (hsz : xs.length ≤ 100)
    (hname : Ev (model prog w) (A₀.deeper env) g L m env (.Name x np) (fun f g' => f = .ref 137)) (hkeep : KeepOk (model prog w) g (.ref 137)) (harg : Ev (model prog w) (A₀.deeper env) g L m env (.Name y ap) (fun v g' => v = .ref l))
    (h : ∀ h tk, (∀ b o, s₀.heap.get? b = some o → h.get? b = some o) → Q (.ret (.bool true)) { s₀ with heap := h, toks := tk })
    (hse : starEach [.Name y ap] env = (false, eval (.Name y ap) env) :: starEach [] env := by rfl) :
    Bz (model prog w) (A₀.deeper env) s₀ g₀ L m X g (execs (.Return (some (.Call (.Name x np) [.Name y ap] [] cp)) pos :: rest) env) Q := fun s F => by
  refine wpAny_execs_cons (wpAny_Return_some (wpAny_Call_ofName (VG.any (g := g) (P := fun f g' => f = .ref 137) (Tr.run hname F.at) fun fv s₁ g₁ k₁ u₁ hf' => ?_)))
  subst hf'
  obtain ⟨F₁, O₁⟩ := F.keeps' k₁
  refine callWith_of (P := fun h => Sub g h) (by rw [hse]; rfl) (fun h hu => hkeep.up hu) (VG.any (g := g) (P := fun a g' => a.kw = [] ∧ a.pos = [.ref l]) ?_ fun a s₂ g₂ k₂ u₂ ha => ⟨Sub.trans u₂.up u₂.sub, ?_⟩)
  · exact Tr.run (args_of (R := fun vs g' => vs = [.ref l]) (evL_cons (harg.imp fun v g' _ hv => evL_nil (by rw [hv])) hse) hse) F₁.at
  obtain ⟨ekw, epos⟩ := ha
  rw [ekw, epos]
  obtain ⟨F₂, O₂⟩ := F₁.keeps' k₂
  have efa : fa [env] = [L] := by show List.filterMap _ [env] = _; rw [List.filterMap_cons, hf]; rfl
  refine wpAny_mono (f_ends (A := A₀.deeper env) (g := g) (mg := mg) (mb := mb) r (Around.frames_deeper hfr) (Heap.FunFrames.cons (L := L) hkm hf F₂.ns (noHeap_none L) trivial) W F₂.sub (fun b hb => ?_) hrow hsz) (fun v s₃ hv => ?_) fun _ _ x => x
  · rw [efa] at hb; rw [List.mem_singleton.mp hb]; exact F₂.off
  · obtain ⟨rfl, h3, tk3, rfl, kp⟩ := hv
    rw [efa] at kp
    obtain ⟨h2, tk2, rfl⟩ := F₂.same
    exact h h3 tk3 fun b o e => kp.keep b o (fun q => by rw [List.mem_singleton.mp q, F₂.newL] at e; cases e) (F₂.base b o e)
end
end Mine
end
section
open PySem PySem.W PyProof.Rows
set_option Elab.async false
set_option maxRecDepth 100000
set_option linter.unusedVariables false
namespace Mine
section order
variable {α : Type} (lt : α → α → Bool)
def maxs (S : List α) : List α := S.filter fun x => !S.any (fun y => lt x y)
theorem above (f : α → Int) (hf : ∀ x y, lt x y = true → f x < f y) (tr : ∀ x y z, lt x y = true → lt y z = true → lt x z = true) (S : List α) : ∀ x ∈ S, ∃ z ∈ maxs lt S, z = x ∨ lt x z = true := by
  have hM : ∃ M : Int, ∀ y ∈ S, f y ≤ M := by
    induction S with
    | nil => exact ⟨0, fun y hy => nomatch hy⟩
    | cons a r ih =>
      obtain ⟨M, hM⟩ := ih
      refine ⟨max M (f a), fun y hy => ?_⟩
      rcases List.mem_cons.mp hy with rfl | hy
      · omega
      · have := hM y hy; omega
  obtain ⟨M, hM⟩ := hM
  have go : ∀ n : Nat, ∀ x ∈ S, (M - f x).toNat ≤ n → ∃ z ∈ maxs lt S, z = x ∨ lt x z = true := by
    intro n
    induction n with
    | zero =>
      intro x hx hn
      refine ⟨x, List.mem_filter.mpr ⟨hx, ?_⟩, .inl rfl⟩
      rw [Bool.not_eq_true', List.any_eq_false]
      intro y hy hxy
      have := hf x y hxy; have := hM y hy; omega
    | succ n ih =>
      intro x hx hn
      by_cases h : S.any (fun y => lt x y) = true
      · obtain ⟨y, hy, hxy⟩ := List.any_eq_true.mp h
        have h1 := hf x y hxy
        have h2 := hM y hy
        obtain ⟨z, hz, hzy⟩ := ih y hy (by omega)
        refine ⟨z, hz, .inr ?_⟩
        rcases hzy with rfl | hzy
        · exact hxy
        · exact tr x y z hxy hzy
      · exact ⟨x, List.mem_filter.mpr ⟨hx, by rw [Bool.not_eq_true'] ; simpa using h⟩, .inl rfl⟩
  intro x hx
  exact go _ x hx (Nat.le_refl _)
theorem any_maxs (f : α → Int) (hf : ∀ x y, lt x y = true → f x < f y) (tr : ∀ x y z, lt x y = true → lt y z = true → lt x z = true) (S : List α) (y : α) : (maxs lt S).any (fun x => lt y x) = S.any (fun x => lt y x) := by
  rw [Bool.eq_iff_iff, List.any_eq_true, List.any_eq_true]
  constructor
  · rintro ⟨x, hx, h⟩; exact ⟨x, (List.mem_filter.mp hx).1, h⟩
  · rintro ⟨x, hx, h⟩
    obtain ⟨z, hz, hzx⟩ := above lt f hf tr S x hx
    refine ⟨z, hz, ?_⟩
    rcases hzx with rfl | hzx
    · exact h
    · exact tr y x z h hzx
theorem maxs_snoc (f : α → Int) (hf : ∀ x y, lt x y = true → f x < f y) (tr : ∀ x y z, lt x y = true → lt y z = true → lt x z = true) (S : List α) (y : α) :
    maxs lt (S ++ [y]) = (maxs lt S).filter (fun x => !lt x y) ++ [y].filter (fun y => !(maxs lt S).any fun x => lt y x) := by
  have irr : lt y y = false := by
    cases h : lt y y with
    | false => rfl
    | true => have := hf y y h; omega
  conv => lhs; unfold maxs
  rw [List.filter_append]
  congr 1
  · unfold maxs
    rw [List.filter_filter]
    refine List.filter_congr fun x _ => ?_
    simp [List.any_append, Bool.and_comm]
  · refine List.filter_congr fun x hx => ?_
    rw [List.mem_singleton.mp hx, any_maxs lt f hf tr]
    simp [List.any_append, irr]
theorem maxs_one (S : List α) (y : α) (irr : lt y y = false) : maxs lt [y] = [y] := by simp [maxs, irr]
end order
/-- one lead is left of another at every size up to seven -/
def lt7 (da db : WsD) : Bool := (List.range 7).all fun k => decide (da.level (1 + k) < db.level (1 + k))
theorem lt7_iff {da db : WsD} : lt7 da db = true ↔ ∀ k : Nat, k < 7 → da.level (1 + k) < db.level (1 + k) := by
  unfold lt7; simp
structure LeadOk (d : WsD) (C : List Int) : Prop where
  sm : Sm d
  b0 : 0 ≤ d.b
  run6 : d.run ≤ 6
  n1 : d.n = d.level 1
  cols : C = (List.range 7).map fun k => d.level (1 + (k : Nat))
theorem level_far {d : WsD} {ts : Int} (h : (d.count.length : Int) ≤ ts) : d.level ts = d.b + ts * d.nt := by
  unfold WsD.level
  have : d.count.length - ts.toNat = 0 := by omega
  rw [this]; simp [ilSum]
theorem run_len (d : WsD) : (d.count.length : Int) ≤ d.run + 1 ∧ d.b ≤ d.run := by unfold WsD.run; omega
section
variable {da db : WsD} {Ca Cb : List Int}
theorem nt_le (ha : 0 ≤ da.b) {T : Int} (h1 : (da.count.length : Int) ≤ T) (h2 : (db.count.length : Int) ≤ T) (h3 : db.b ≤ T) (h0 : 0 ≤ T) (h : da.level T < db.level T) : da.nt ≤ db.nt := by
  rw [level_far h1, level_far h2] at h
  by_cases q : db.nt < da.nt
  · exfalso
    have e : T * da.nt = T * db.nt + T * (da.nt - db.nt) := by rw [← Int.mul_add]; congr 1; omega
    have p : T * 1 ≤ T * (da.nt - db.nt) := Int.mul_le_mul_of_nonneg_left (by omega) h0
    omega
  · omega
theorem far_lt {T ts : Int} (h1 : (da.count.length : Int) ≤ T) (h2 : (db.count.length : Int) ≤ T) (hn : da.nt ≤ db.nt) (h : da.level T < db.level T) (ht : T ≤ ts) : da.level ts < db.level ts := by
  rw [level_far h1, level_far h2] at h
  rw [level_far (by omega), level_far (by omega)]
  have e1 : ts * da.nt = T * da.nt + (ts - T) * da.nt := by rw [← Int.add_mul]; congr 1; omega
  have e2 : ts * db.nt = T * db.nt + (ts - T) * db.nt := by rw [← Int.add_mul]; congr 1; omega
  have p : (ts - T) * da.nt ≤ (ts - T) * db.nt := Int.mul_le_mul_of_nonneg_left hn (by omega)
  omega
theorem allLt_iff {lo : Int} {n : Nat} : allLt da db lo n = true ↔ ∀ k : Nat, k < n → da.level (lo + k) < db.level (lo + k) := by
  unfold allLt; simp
theorem nlw_eq (ha : LeadOk da Ca) (hb : LeadOk db Cb) : nlwD da db = lt7 da db := by
  have a1 := run_len da; have b1 := run_len db
  have a2 := ha.run6; have b2 := hb.run6
  have a3 := run_ge da; have b3 := run_ge db
  have a0 := ha.b0; have b0 := hb.b0
  rw [Bool.eq_iff_iff, lt7_iff]
  unfold nlwD
  rw [allLt_iff]
  have hT : topOf da db = max da.run db.run + 1 := rfl
  constructor
  · intro h k hk
    have top := h ((topOf da db).toNat - 1) (by omega)
    rw [show (1 : Int) + ((topOf da db).toNat - 1 : Nat) = topOf da db by omega] at top
    by_cases q : k < (topOf da db).toNat
    · exact h k q
    · have hn := nt_le a0 (T := topOf da db) (by omega) (by omega) (by omega) (by omega) top
      exact far_lt (T := topOf da db) (by omega) (by omega) hn top (by omega)
  · intro h k hk
    exact h k (by omega)
theorem less_eq (ha : LeadOk da Ca) (hb : LeadOk db Cb) : lessD da db = lt7 da db := by
  have a1 := run_len da; have b1 := run_len db
  have a2 := ha.run6; have b2 := hb.run6
  have a3 := run_ge da; have b3 := run_ge db
  have a0 := ha.b0; have b0 := hb.b0
  have an := ha.n1; have bn := hb.n1
  rw [← nlw_eq ha hb, Bool.eq_iff_iff]
  unfold nlwD lessD
  have hT : topOf da db = max da.run db.run + 1 := rfl
  rw [allLt_iff, Bool.and_eq_true, Bool.not_eq_true', decide_eq_false_iff_not, an, bn]
  by_cases hs : (da.simple && db.simple) = true
  · rw [if_pos hs, decide_eq_true_eq]
    rw [Bool.and_eq_true] at hs
    have s1 : (da.count.length : Int) ≤ 1 := by have := hs.1; unfold WsD.simple at this; simpa using this
    have s2 : (db.count.length : Int) ≤ 1 := by have := hs.2; unfold WsD.simple at this; simpa using this
    constructor
    · rintro ⟨h1, h2⟩ k hk
      exact far_lt (T := 1) s1 s2 h2 (by omega) (by omega)
    · intro h
      have t1 := h 0 (by omega)
      have top := h ((topOf da db).toNat - 1) (by omega)
      rw [show (1 : Int) + ((topOf da db).toNat - 1 : Nat) = topOf da db by omega] at top
      refine ⟨by simpa using t1, nt_le a0 (T := topOf da db) (by omega) (by omega) (by omega) (by omega) top⟩
  · rw [if_neg hs, allLt_iff]
    constructor
    · rintro ⟨h1, h2⟩ k hk
      cases k with
      | zero => simpa using h1
      | succ k =>
        have := h2 k (by omega)
        rw [show (1 : Int) + ((k + 1 : Nat) : Int) = 2 + k by omega]
        exact this
    · intro h
      refine ⟨by simpa using h 0 (by omega), fun k hk => ?_⟩
      have := h (k + 1) (by omega)
      rw [show (1 : Int) + ((k + 1 : Nat) : Int) = 2 + k by omega] at this
      exact this
theorem left_eq (ha : LeadOk da Ca) (hb : LeadOk db Cb) : leftD Ca Cb = lt7 da db := by
  rw [ha.cols, hb.cols]
  unfold leftD lt7
  rw [Bool.eq_iff_iff, List.all_eq_true, List.all_eq_true]
  constructor <;> intro h k hk <;> have := h k hk <;> have hk7 : k < 7 := by simpa using hk
  · simpa [List.getD_eq_getElem?_getD, hk7] using this
  · simpa [List.getD_eq_getElem?_getD, hk7] using this
end
end Mine
end
section
open PySem PySem.W PyProof.Rows
set_option Elab.async false
set_option maxRecDepth 100000
set_option linter.unusedVariables false
namespace Mine
def okB (cps : List Nat) : Bool :=
  decide (cps.length ≤ 20) && decide ((scan cps .zero).count.length ≤ 900) && decide ((scan cps .zero).b ≤ 900) && decide (0 ≤ (scan cps .zero).b) && decide ((scan cps .zero).run ≤ 6) && decide ((scan cps .zero).n = (scan cps .zero).level 1) &&
    decide (colsOf cps = (List.range 7).map fun k => (scan cps .zero).level (1 + (k : Nat)))
theorem all_ok : ((List.range 3).all fun a => (List.range 2).all fun b => (List.range 3).all fun c => (List.range 3).all fun d => (List.range 3).all fun e => okB (leadS (a : Nat) (b : Nat) (c : Nat) (d : Nat) (e : Nat)).cps.toList) = true := by decide +kernel
theorem okB_lead {cps : List Nat} (h : okB cps = true) : cps.length ≤ 20 ∧ LeadOk (scan cps .zero) (colsOf cps) := by
  unfold okB at h
  simp only [Bool.and_eq_true, decide_eq_true_eq] at h
  obtain ⟨⟨⟨⟨⟨⟨h1, h2⟩, h3⟩, h4⟩, h5⟩, h6⟩, h7⟩ := h
  exact ⟨h1, ⟨h2, h3⟩, h4, h5, h6, h7⟩
theorem lead_ok (y : Int) : (leadOf y).cps.size ≤ 20 ∧ LeadOk (scan (leadOf y).cps.toList .zero) (colsOf (leadOf y).cps.toList) := by
  have b3 : ∀ y : Int, 0 ≤ y.fmod 3 ∧ y.fmod 3 < 3 := fun y => ⟨Int.fmod_nonneg_of_pos y (by decide), Int.fmod_lt_of_pos y (by decide)⟩
  have b2 : ∀ y : Int, 0 ≤ y.fmod 2 ∧ y.fmod 2 < 2 := fun y => ⟨Int.fmod_nonneg_of_pos y (by decide), Int.fmod_lt_of_pos y (by decide)⟩
  have key : ∀ a b c d e : Int, 0 ≤ a ∧ a < 3 → 0 ≤ b ∧ b < 2 → 0 ≤ c ∧ c < 3 → 0 ≤ d ∧ d < 3 → 0 ≤ e ∧ e < 3 → okB (leadS a b c d e).cps.toList = true := by
    intro a b c d e ha hb hc hd he
    have h := all_ok
    rw [List.all_eq_true] at h
    have h1 := h a.toNat (by simp; omega)
    rw [List.all_eq_true] at h1
    have h2 := h1 b.toNat (by simp; omega)
    rw [List.all_eq_true] at h2
    have h3 := h2 c.toNat (by simp; omega)
    rw [List.all_eq_true] at h3
    have h4 := h3 d.toNat (by simp; omega)
    rw [List.all_eq_true] at h4
    have h5 := h4 e.toNat (by simp; omega)
    rw [Int.toNat_of_nonneg ha.1, Int.toNat_of_nonneg hb.1, Int.toNat_of_nonneg hc.1, Int.toNat_of_nonneg hd.1, Int.toNat_of_nonneg he.1] at h5
    exact h5
  have h := key _ _ _ _ _ (b3 y) (b2 (y.fdiv 3)) (b3 (y.fdiv 6)) (b3 (y.fdiv 18)) (b3 (y.fdiv 54))
  have := okB_lead (cps := (leadOf y).cps.toList) h
  exact ⟨by simpa using this.1, this.2⟩
end Mine
end
section
open PySem PySem.W PyProof.Rows
set_option Elab.async false
set_option maxRecDepth 100000
set_option linter.unusedVariables false
namespace Mine
section
variable (dat : Addr → WsD)
def ltA (x y : Addr) : Bool := lt7 (dat x) (dat y)
def gtA (x y : Addr) : Bool := lt7 (dat y) (dat x)
theorem lt7_rank {a b : WsD} (h : lt7 a b = true) : a.level 1 < b.level 1 := by have := lt7_iff.mp h 0 (by decide); simpa using this
theorem lt7_trans {a b c : WsD} (h : lt7 a b = true) (h' : lt7 b c = true) : lt7 a c = true :=
  lt7_iff.mpr fun k hk => Int.lt_trans (lt7_iff.mp h k hk) (lt7_iff.mp h' k hk)
theorem ltA_snoc (S : List Addr) (y : Addr) : maxs (ltA dat) (S ++ [y]) = (maxs (ltA dat) S).filter (fun x => !ltA dat x y) ++ [y].filter (fun y => !(maxs (ltA dat) S).any fun x => ltA dat y x) :=
  maxs_snoc (ltA dat) (fun x => (dat x).level 1) (fun _ _ h => lt7_rank h) (fun _ _ _ h h' => lt7_trans h h') S y
theorem gtA_snoc (S : List Addr) (y : Addr) : maxs (gtA dat) (S ++ [y]) = (maxs (gtA dat) S).filter (fun x => !gtA dat x y) ++ [y].filter (fun y => !(maxs (gtA dat) S).any fun x => gtA dat y x) :=
  maxs_snoc (gtA dat) (fun x => -(dat x).level 1) (fun x y h => by have := lt7_rank (a := dat y) (b := dat x) h; show -(dat x).level 1 < -(dat y).level 1; omega) (fun x y z h h' => lt7_trans (a := dat z) (b := dat y) (c := dat x) h' h) S y
theorem mem_maxs {lt : Addr → Addr → Bool} {S : List Addr} {x : Addr} (h : x ∈ maxs lt S) : x ∈ S := (List.mem_filter.mp h).1
theorem irrA (x : Addr) : ltA dat x x = false := by
  cases h : ltA dat x x with
  | false => rfl
  | true => have := lt7_rank h; omega
def AllOk (S : List Addr) : Prop := ∀ x ∈ S, ∃ C, LeadOk (dat x) C
variable {dat}
theorem join_step {S : List Addr} {y : Addr} (h : AllOk dat (S ++ [y])) : joinD dat (maxs (ltA dat) S) [y] = maxs (ltA dat) (S ++ [y]) := by
  rw [ltA_snoc]
  obtain ⟨Cy, hy⟩ := h y (by simp)
  have hS : ∀ x ∈ S, ∃ C, LeadOk (dat x) C := fun x hx => h x (by simp [hx])
  unfold joinD
  congr 1
  · refine List.filter_congr fun x hx => ?_
    obtain ⟨C, hc⟩ := hS x (mem_maxs hx)
    simp only [List.any_cons, List.any_nil, Bool.or_false]
    rw [less_eq hc hy]; rfl
  · refine List.filter_congr fun x hx => ?_
    rw [List.mem_singleton.mp hx]
    congr 1
    rw [Bool.eq_iff_iff, List.any_eq_true, List.any_eq_true]
    constructor <;> rintro ⟨z, hz, h'⟩ <;> obtain ⟨C, hc⟩ := hS z (mem_maxs hz) <;> refine ⟨z, hz, ?_⟩
    · rw [less_eq hy hc] at h'; exact h'
    · rw [less_eq hy hc]; exact h'
theorem laid_step {S : List Addr} {y : Addr} (h : AllOk dat (S ++ [y])) : laidD dat (maxs (gtA dat) S) y = maxs (gtA dat) (S ++ [y]) := by
  rw [gtA_snoc]
  obtain ⟨Cy, hy⟩ := h y (by simp)
  have hS : ∀ x ∈ S, ∃ C, LeadOk (dat x) C := fun x hx => h x (by simp [hx])
  have e1 : ((maxs (gtA dat) S).any fun x => nlwD (dat x) (dat y)) = (maxs (gtA dat) S).any fun x => gtA dat y x := by
    rw [Bool.eq_iff_iff, List.any_eq_true, List.any_eq_true]
    constructor <;> rintro ⟨z, hz, h'⟩ <;> obtain ⟨C, hc⟩ := hS z (mem_maxs hz) <;> refine ⟨z, hz, ?_⟩
    · rw [nlw_eq hc hy] at h'; exact h'
    · rw [nlw_eq hc hy]; exact h'
  unfold laidD
  rw [e1]
  by_cases hany : ((maxs (gtA dat) S).any fun x => gtA dat y x) = true
  · rw [if_pos hany]
    rw [show [y].filter (fun y => !(maxs (gtA dat) S).any fun x => gtA dat y x) = [] by simp [hany], List.append_nil]
    symm
    rw [List.filter_eq_self]
    intro x hx
    obtain ⟨x0, hx0, h0⟩ := List.any_eq_true.mp hany
    cases hq : gtA dat x y with
    | false => rfl
    | true =>
      exfalso
      have : gtA dat x x0 = true := lt7_trans h0 hq
      have hx2 := (List.mem_filter.mp hx).2
      rw [Bool.not_eq_true', List.any_eq_false] at hx2
      exact hx2 x0 (mem_maxs hx0) this
  · rw [if_neg hany]
    rw [show [y].filter (fun y => !(maxs (gtA dat) S).any fun x => gtA dat y x) = [y] by simp [hany]]
    congr 1
    refine List.filter_congr fun x hx => ?_
    obtain ⟨C, hc⟩ := hS x (mem_maxs hx)
    rw [nlw_eq hy hc]; rfl
/-- the places of what a filter keeps -/
theorem very_fits {lt : Addr → Addr → Bool} {leads : List Addr} {q : Nat → Bool} (hq : ∀ (k : Nat) (x : Addr), leads[k]? = some x → q k = !leads.any (fun y => lt x y)) (hn : leads.length ≤ 900) :
    (maxs lt leads).length = (((List.range leads.length).filter q).map fun (k : Nat) => (k : Int)).length ∧
    ∀ k, k < (((List.range leads.length).filter q).map fun (k : Nat) => (k : Int)).length → ∃ j x : Nat, (((List.range leads.length).filter q).map fun (k : Nat) => (k : Int))[k]? = some (j : Int) ∧ j < 1000 ∧ (maxs lt leads)[k]? = some x ∧ leads[j]? = some x := by
  have e : maxs lt leads = ((List.range leads.length).filter q).map fun k => leads.getD k 0 := by
    have e0 : leads = (List.range leads.length).map fun k => leads.getD k 0 := by
      refine List.ext_getElem? fun i => ?_
      by_cases hi : i < leads.length
      · simp [hi]
      · simp [Nat.not_lt.mp hi]
    unfold maxs
    conv => lhs; arg 2; rw [e0]
    rw [List.filter_map]
    congr 1
    refine List.filter_congr fun k hk => ?_
    have hk' : k < leads.length := by simpa using hk
    have := hq k (leads.getD k 0) (by simp [hk'])
    rw [this]; rfl
  refine ⟨by rw [e, List.length_map, List.length_map], fun k hk => ?_⟩
  rw [List.length_map] at hk
  have hmem := List.getElem_mem hk
  have hlt : ((List.range leads.length).filter q)[k] < leads.length := by simpa using (List.mem_filter.mp hmem).1
  refine ⟨((List.range leads.length).filter q)[k], leads.getD ((List.range leads.length).filter q)[k] 0, by rw [List.getElem?_map, List.getElem?_eq_getElem hk]; rfl, by omega, by rw [e, List.getElem?_map, List.getElem?_eq_getElem hk]; rfl, by simp [hlt]⟩
theorem ints_kept {p : Value → Bool} {q : Nat → Bool} (hp : ∀ (k : Nat) t, p (.int (k : Int) t) = q k) : ∀ (vs : List Value) (a : Nat), (∀ (j : Nat) (v : Value), vs[j]? = some v → ∃ t, v = .int ((a + j : Nat) : Int) t) →
    IntsAre (vs.filter p) (((List.range' a vs.length).filter q).map fun (k : Nat) => (k : Int))
  | [], _, _ => .nil
  | v :: vs, a, h => by
    obtain ⟨t, rfl⟩ := h 0 v rfl
    have ih := ints_kept hp vs (a + 1) fun j u hj => by
      obtain ⟨t', e⟩ := h (j + 1) u (by simpa using hj)
      exact ⟨t', by rw [e, show a + (j + 1) = a + 1 + j by omega]⟩
    rw [List.length_cons, List.range'_succ, List.filter_cons, List.filter_cons]
    have := hp a t
    simp only [Nat.add_zero]
    rw [this]
    cases q a with
    | true => simp only [if_true, List.map_cons]; exact .cons _ _ ih
    | false => simp only [Bool.false_eq_true, if_false]; exact ih
end
end Mine
end
section
open PySem PySem.W PyProof.Rows
set_option Elab.async false
set_option maxRecDepth 100000
set_option linter.unusedVariables false
namespace Mine
theorem paired_get {α β : Type} {F : α → β → Prop} : ∀ {xs : List α} {ys : List β}, Paired F xs ys → ys.length = xs.length ∧ ∀ (i : Nat) (v : α), xs[i]? = some v → ∃ y, ys[i]? = some y ∧ F v y
  | _, _, .nil => ⟨rfl, fun i v h => by simp at h⟩
  | _, _, .cons h r => by
    obtain ⟨l, k⟩ := paired_get r
    refine ⟨by simp [l], fun i v hv => ?_⟩
    cases i with
    | zero => simp at hv; subst hv; exact ⟨_, rfl, h⟩
    | succ i => simpa using k i v (by simpa using hv)
theorem comp_all {F : Value → Value → Prop} {vs ys : List Value} (h : Paired F (vs.filter fun _ => true) ys) : ys.length = vs.length ∧ ∀ (i : Nat) (v : Value), vs[i]? = some v → ∃ y, ys[i]? = some y ∧ F v y := by
  rw [List.filter_eq_self.mpr (fun _ _ => rfl)] at h
  exact paired_get h
theorem isWs_fun {g : Heap} {a : Addr} {d d' : WsD} (h : IsWs g a d) (h' : IsWs g a d') : d = d' := by
  obtain ⟨es, nn, dx, I, ⟨t1, a1⟩, ⟨t2, a2⟩, a3, ⟨q, c, t, cnt, a4, a5, a6, a7⟩, _⟩ := ws_inst h
  obtain ⟨es', nn', dx', I', ⟨t1', b1⟩, ⟨t2', b2⟩, b3, ⟨q', c', t', cnt', b4, b5, b6, b7⟩, _⟩ := ws_inst h'
  have e1 : some (instObj 92 dx) = some (instObj 92 dx') := I.at_.symm.trans I'.at_
  have edx : dx = dx' := by injection e1 with e1; injection e1 with _ e2; injection e2
  subst edx
  have D : g.get? dx = some (dictOf es nn) := I.dict
  have D' : g.get? dx = some (dictOf es' nn') := I'.dict
  rw [D] at D'
  have ees : es = es' := by
    injection D' with D'; injection D' with _ _ D'; injection D' with D'
    have := congrArg Array.toList D'; simpa using this
  subst ees
  rw [a1] at b1; rw [a2] at b2; rw [a4] at b4
  have en : d.n = d'.n := by injection b1 with b1; injection b1 with b1; injection b1
  have ent : d.nt = d'.nt := by injection b2 with b2; injection b2 with b2; injection b2
  have eq : q = q' := by injection b4 with b4; injection b4 with b4; injection b4
  subst eq
  obtain ⟨o, ho, hc, n1, hd1⟩ := a5
  obtain ⟨o', ho', hc', n1', hd1'⟩ := b5
  rw [ho] at ho'; cases ho'
  rw [hd1] at hd1'
  injection hd1' with hd1'
  have ec := congrArg (fun z : Array Value => z[0]?) hd1'
  have eb := congrArg (fun z : Array Value => z[1]?) hd1'
  have ec' : c = c' := by simpa using ec
  have eb' : d.b = d'.b := by have : d.b = d'.b ∧ t = t' := by simpa using eb
                              exact this.1
  subst ec'
  obtain ⟨o, ho, hc, n1, hd2⟩ := a6
  obtain ⟨o', ho', hc', n1', hd2'⟩ := b6
  rw [ho] at ho'; cases ho'
  rw [hd2] at hd2'
  injection hd2' with hd2'
  subst hd2'
  have ecount : d.count = d'.count := a7.nums.symm.trans b7.nums
  obtain ⟨x1, x2, x3, x4⟩ := d
  obtain ⟨y1, y2, y3, y4⟩ := d'
  simp only at en ent eb' ecount
  rw [en, ent, eb', ecount]
end Mine
end
section
open PySem PySem.W PyProof.Rows
set_option Elab.async false
set_option maxRecDepth 100000
set_option linter.unusedVariables false
namespace Mine
theorem refs_of : ∀ (l : List Value), (∀ (i : Nat) (v : Value), l[i]? = some v → ∃ a, v = Value.ref a) → ∃ xs : List Addr, l = xs.map Value.ref
  | [], _ => ⟨[], rfl⟩
  | v :: l, h => by
    obtain ⟨a, rfl⟩ := h 0 v rfl
    obtain ⟨xs, rfl⟩ := refs_of l fun i v hv => h (i + 1) v (by simpa using hv)
    exact ⟨a :: xs, rfl⟩
theorem len0_any {α : Type} (f : α → Bool) (l : List α) : ((l.filter f).length == 0) = !l.any f := by
  induction l with
  | nil => rfl
  | cons a r ih =>
    rw [List.filter_cons, List.any_cons]
    cases f a with
    | true => simp
    | false => simpa using ih
theorem any_idx {α : Type} (p : α → Bool) (l : List α) (d : α) : l.any p = (List.range l.length).any fun m => p (l.getD m d) := by
  have e0 : l = (List.range l.length).map fun k => l.getD k d := by
    refine List.ext_getElem? fun i => ?_
    by_cases hi : i < l.length
    · simp [hi]
    · simp [Nat.not_lt.mp hi]
  conv => lhs; rw [e0]
  rw [List.any_map]; rfl
theorem q_of {n : Nat} {Cc : Nat → List Int} {dat : Addr → WsD} {xs : List Addr} (hn : xs.length = n) (hok : ∀ i x, xs[i]? = some x → LeadOk (dat x) (Cc i)) {k : Nat} {x : Addr} (hx : xs[k]? = some x) :
    (((List.range n).filter fun m => leftD (Cc k) (Cc m)).length == 0) = (!xs.any fun y => ltA dat x y) ∧ (((List.range n).filter fun m => leftD (Cc m) (Cc k)).length == 0) = !xs.any fun y => gtA dat x y := by
  rw [len0_any, len0_any, any_idx _ xs 0, any_idx _ xs 0, hn]
  have hg : ∀ m, m ∈ List.range n → xs[m]? = some (xs.getD m 0) := fun m hm => by
    have : m < xs.length := by rw [hn]; simpa using hm
    simp [this]
  constructor
  · congr 1
    rw [Bool.eq_iff_iff, List.any_eq_true, List.any_eq_true]
    constructor <;> rintro ⟨m, hm, h⟩ <;> refine ⟨m, hm, ?_⟩
    · rw [left_eq (hok k x hx) (hok m _ (hg m hm))] at h; exact h
    · rw [left_eq (hok k x hx) (hok m _ (hg m hm))]; exact h
  · congr 1
    rw [Bool.eq_iff_iff, List.any_eq_true, List.any_eq_true]
    constructor <;> rintro ⟨m, hm, h⟩ <;> refine ⟨m, hm, ?_⟩
    · rw [left_eq (hok m _ (hg m hm)) (hok k x hx)] at h; exact h
    · rw [left_eq (hok m _ (hg m hm)) (hok k x hx)]; exact h
theorem take_snoc {α : Type} {l : List α} {i : Nat} {x : α} (h : l[i]? = some x) : l.take (i + 1) = l.take i ++ [x] := by
  rw [List.take_add_one, h]; rfl
theorem dat_of {g : Heap} {xs : List Addr} {f : Nat → WsD} (h : ∀ (i : Nat) (x : Addr), xs[i]? = some x → IsWs g x (f i)) : ∃ dat : Addr → WsD, ∀ i x, xs[i]? = some x → dat x = f i ∧ IsWs g x (dat x) := by
  classical
  refine ⟨fun a => if h : ∃ d, IsWs g a d then Classical.choose h else .zero, fun i x hx => ?_⟩
  have hex : ∃ d, IsWs g x d := ⟨f i, h i x hx⟩
  have e : (if h : ∃ d, IsWs g x d then Classical.choose h else WsD.zero) = Classical.choose hex := dif_pos hex
  have hw := Classical.choose_spec hex
  exact ⟨e.trans (isWs_fun hw (h i x hx)), by dsimp only; rw [e]; exact hw⟩
end Mine
end
open PySem PySem.W PyProof.Rows
set_option Elab.async false
set_option maxRecDepth 100000
set_option linter.unusedVariables false
set_option maxHeartbeats 8000000
namespace Mine
theorem Bz.run {M : Model} {A : Around} {g : Heap} {s s₀ : Shared} {g₀ : Heap} {L : Addr} {m : Str → Option Value} {X : List (Addr × Obj)} {t : Sem Flow} {Q : Flow → Shared → Prop} (h : Bz M A s₀ g₀ L m X g t Q) (F : Fm s₀ g₀ L m X g s) :
    wpAny M A t Q (fun _ _ => False) s := h s F
theorem Src.weak {prog : Program} {w : World} {A : Around} {g : Heap} {xv : Value} {n : Nat} {P P' : Nat → Value → Prop} (S : Src prog w A g xv n P) (h : ∀ i v, P i v → P' i v) : Src prog w A g xv n P' := fun s hs Q E k =>
  S s hs Q E fun o fp St W a b c d => k o fp St ⟨W.sub, W.frame, fun i s Q E hi st hQ => W.item i s Q E hi st fun v h' tk hp => hQ v h' tk (h i v hp), W.done, W.self⟩ a b c d
theorem src_listN {prog : Program} {w : World} {A : Around} {g : Heap} {l : Addr} {items : Array Value} {n : Nat} {P' : Nat → Value → Prop} (hh : A.handled = none) (hl : g.IsList l items) (hn : items.size = n) (h : ∀ i v, items[i]? = some v → P' i v) : Src prog w A g (.ref l) n P' := by
  subst hn; exact Src.weak (src_list hh hl) h
/-- a value's test by its number -/
def onInt (q : Nat → Bool) : Value → Bool
  | .int k _ => q k.toNat
  | _ => false
theorem cols_len (x : List Nat) : (colsOf x).length = 7 := by simp [colsOf]
theorem room (env : Env) : Room (callerA.deeper env) 6 := ⟨rfl, by show 1 + claimMargin + 1 + 6 < recursionLimit; decide, by show 4 + 3 + 8 * 6 + 64 < cLine; decide⟩
end Mine
open Mine
theorem PySem.Challenge.cw_mq0259_01_holds : PySem.Challenge.rw_mq0259_01.Holds :=
  hd (by
  k_go0
  rename_i w s₀ s₁ mg mb G Y fa' o pm doc ho hg KX XX V GL T B TE TW mA mO MM a1 a2 hcd ns hs hlay0 hL0 hr0 hl2 as1 as2 sc vs as3 hL ra w1 r0 hI hr hcond1 hcond2 K0 hD h₁ tk₁ F oc1 oc2 left right N0 X0
  have W : Wd w mg mb s₁.heap := ⟨KX, T.g, T.b, T.builtins, T.nolimit⟩
  have r := room
  have FF : Fm s₁ s₁.heap s₁.heap.objs.size _ [(s₁.heap.objs.size + 1 + 1, oc1), (s₁.heap.objs.size + 1, oc2)] s₁.heap ⟨h₁, s₁.gens, s₁.drawn, tk₁, s₁.os⟩ :=
    ⟨⟨h₁, tk₁, rfl⟩, F.ns, F.keep, fresh_size _, F.keep, fresh_size _, fun _ _ e => e, fun _ _ _ => rfl, fun p hp => let ⟨a, b, c⟩ := N0 p hp; ⟨a, b, c, c⟩⟩
  refine wpAny_mono (Bz.run ?_ FF) (fun f s' h => h) (fun _ _ x => x.elim)
  have sl := sizeLine_eq
  have hlen : ns.length ≤ 63 := by omega
  have zv : vs.length = ns.length := hI.length
  have hI6 : IntsAre (vs.take 6) (ns.take 6) := hI.take 6
  refine bz_cons (bx_comp (ns.take 6 ++ [2, 3, 1, 2]).length (fun i v => ∃ k t, (ns.take 6 ++ [2, 3, 1, 2])[i]? = some k ∧ v = .int k t) (fun _ => true) (fun v y _ => ∀ k t, v = .int k t → ∃ t', y = .str (leadOf (k.fmod 1000000)) t') (fun _ _ _ _ _ h => h)
    rfl rfl rfl (by with_unfolding_all rfl) (by with_unfolding_all rfl) (by decide) rfl (by decide) rfl (by intro _; with_unfolding_all rfl) ?_)
  refine ev_bin (ev_upto (b := 6) (ev_local rfl rfl rfl rfl ⟨sc, vs.toArray, rfl, hL, by rw [List.size_toArray]; omega, fun B g1 u1 hBn hB => ?_⟩))
  refine ev_list (evL_cons (ev_int fun t1 => evL_cons (ev_int fun t2 => evL_cons (ev_int fun t3 => evL_cons (ev_int fun t4 => evL_nil ⟨by simp [sl], fun E g2 u2 hEn hE => ?_⟩)))))
  have hI10 : IntsAre (vs.take 6 ++ [.int 2 t1, .int 3 t2, .int 1 t3, .int 2 t4]) (ns.take 6 ++ [2, 3, 1, 2]) := hI6.append (.cons _ _ (.cons _ _ (.cons _ _ (.cons _ _ .nil))))
  have z10 := hI10.length
  refine op_addL ⟨_, u2 _ _ hB, rfl, 0, rfl⟩ ⟨_, hE, rfl, 0, rfl⟩ (by simp [sl]; omega) fun D g3 u3 hDn hD => ?_
  have hN : (ns.take 6 ++ [2, 3, 1, 2]).length ≤ 10 ∧ 4 ≤ (ns.take 6 ++ [2, 3, 1, 2]).length := by simp; omega
  generalize hT0 : ns.take 6 ++ [2, 3, 1, 2] = T0 at hI10 z10 hN ⊢
  have eArr : (((vs.toArray.toList.take 6).toArray ++ [.int 2 t1, .int 3 t2, .int 1 t3, .int 2 t4].toArray : Array Value)).toList = vs.take 6 ++ [.int 2 t1, .int 3 t2, .int 1 t3, .int 2 t4] := by simp
  have zArr : (((vs.toArray.toList.take 6).toArray ++ [.int 2 t1, .int 3 t2, .int 1 t3, .int 2 t4].toArray : Array Value)).size = T0.length := by rw [← Array.length_toList, eArr]; exact z10
  have W3 := W.up (Sub.trans u1 (Sub.trans u2 u3))
  refine ⟨src_listN rfl ⟨_, hD, rfl, 0, rfl⟩ zArr (fun i v hv => ?_), by omega, fun i v g' C m' _ _ _ => tests_nil rfl, ?_, ?_⟩
  · rw [← Array.getElem?_toList, eArr] at hv
    obtain ⟨k, t, rfl, hk⟩ := hI10.at i v hv
    exact ⟨k, t, hk, rfl⟩
  · rintro i v g4 C m' ⟨k, t, hk, rfl⟩ _ u4 hm
    have W4 := W3.up u4
    refine ev_call (ev_glob W4 (by k_is) ?_ rfl rfl rfl)
    refine go_ref (KeepOk.of W4.K (by k_is)) (evL_cons (ev_bin (ev_local rfl rfl rfl hm (ev_int fun t5 => op_mod (by decide) fun t6 => evL_nil ?_))))
    refine f_lead ((r _).less (by decide)) W4 fun t7 g5 u5 k' t' e => ?_
    cases e
    exact ⟨t7, rfl⟩
  rintro D1 tx vs1 g4 u4 hD1n hlen1 hvs1 hpair1 hD1
  obtain ⟨zt, ht⟩ := comp_all hpair1
  have uA := Sub.trans u1 (Sub.trans u2 (Sub.trans u3 u4))
  have WA := W.up uA
  refine ⟨rfl, ?_⟩
  have hTx : ∀ (i : Nat) (y : Int), T0[i]? = some y → ∃ t, tx[i]? = some (Value.str (leadOf (y.fmod 1000000)) t) := fun i y hy => by
    have hi : i < vs1.length := by
      rw [hlen1]
      rcases Nat.lt_or_ge i T0.length with h | h
      · exact h
      · rw [List.getElem?_eq_none h] at hy; cases hy
    obtain ⟨k, t, hk, hv⟩ := hvs1 i _ (List.getElem?_eq_getElem hi)
    rw [hy] at hk; cases hk
    obtain ⟨y', hy', hF⟩ := ht i _ (List.getElem?_eq_getElem hi)
    obtain ⟨t', e⟩ := hF y t hv
    exact ⟨t', by rw [← Array.getElem?_toList, hy', e]⟩
  have zTx : tx.size = T0.length := by rw [← hlen1, ← zt, Array.length_toList]
  have hDl : g4.IsList D1 tx := hD1.isList
  clear hpair1 ht hvs1 hI10 eArr zArr hD hE hB hD1
  have srcT : ∀ {A : Around} {g' : Heap}, A.handled = none → Sub g4 g' → Src PySem.Challenge.rw_mq0259_01.row.prog w A g' (.ref D1) T0.length (fun i v => ∃ y t, T0[i]? = some y ∧ v = Value.str (leadOf (y.fmod 1000000)) t) := fun {A g'} hh u =>
    src_listN hh (isList_up hDl u) zTx fun i v hv => by
      have hi : i < T0.length := by
        rcases Nat.lt_or_ge i T0.length with h | h
        · exact h
        · rw [Array.getElem?_eq_none (by omega)] at hv; cases hv
      obtain ⟨t, ht⟩ := hTx i _ (List.getElem?_eq_getElem hi)
      rw [hv] at ht; cases ht
      exact ⟨_, t, List.getElem?_eq_getElem hi, rfl⟩
  refine bz_cons (bx_comp T0.length (fun i v => ∃ y t, T0[i]? = some y ∧ v = Value.str (leadOf (y.fmod 1000000)) t) (fun _ => true) (fun v y g => ∀ x t, v = .str x t → ∃ a, y = .ref a ∧ IsWs g a (scan x.cps.toList .zero)) (fun _ _ _ _ u h x t e => by obtain ⟨a, e1, e2⟩ := h x t e; exact ⟨a, e1, e2.up u⟩)
    rfl rfl rfl (by with_unfolding_all rfl) (by with_unfolding_all rfl) (by decide) rfl (by decide) rfl (by intro _; with_unfolding_all rfl) ?_)
  refine ev_local rfl rfl rfl rfl ⟨srcT rfl (fun _ _ e => e), by omega, fun i v g' C m' _ _ _ => tests_nil rfl, ?_, ?_⟩
  · rintro i v g5 C m' ⟨y, t, hy, rfl⟩ _ u5 hm
    have W5 := WA.up u5
    refine ev_call (ev_glob W5 (by k_is) ?_ rfl rfl rfl)
    refine go_ref (KeepOk.of W5.K (by k_is)) (evL_cons (ev_local rfl rfl rfl hm (evL_nil ?_)))
    refine f_make ((r _).less (by decide)) W5 (lead_ok _).1 fun a g6 u6 hws x t' e => ?_
    cases e
    exact ⟨a, rfl, hws⟩
  rintro D2 la vs2 g5 u5 hD2n hlen2 hvs2 hpair2 hD2
  obtain ⟨zl, hl'⟩ := comp_all hpair2
  refine ⟨rfl, ?_⟩
  have uB := Sub.trans uA u5
  have WB := W.up uB
  have hLa : ∀ (i : Nat) (y : Int), T0[i]? = some y → ∃ a, la[i]? = some (Value.ref a) ∧ IsWs g5 a (scan (leadOf (y.fmod 1000000)).cps.toList .zero) := fun i y hy => by
    have hi : i < vs2.length := by
      rw [hlen2]
      rcases Nat.lt_or_ge i T0.length with h | h
      · exact h
      · rw [List.getElem?_eq_none h] at hy; cases hy
    obtain ⟨k, t, hk, hv⟩ := hvs2 i _ (List.getElem?_eq_getElem hi)
    rw [hy] at hk; cases hk
    obtain ⟨y', hy', hF⟩ := hl' i _ (List.getElem?_eq_getElem hi)
    obtain ⟨a, e, hw⟩ := hF _ t hv
    exact ⟨a, by rw [← Array.getElem?_toList, hy', e], hw⟩
  have zLa : la.size = T0.length := by rw [← hlen2, ← zl, Array.length_toList]
  have hLl : g5.IsList D2 la := hD2.isList
  clear hpair2 hl' hvs2 hD2
  refine bz_cell (pre := [(s₁.heap.objs.size + 1 + 1, oc1)]) (post := []) (c := s₁.heap.objs.size + 1) (o := oc2) (by simp) right rfl rfl rfl rfl ?_
  refine ev_comp T0.length (fun i v => ∃ y t, T0[i]? = some y ∧ v = Value.str (leadOf (y.fmod 1000000)) t) (fun _ => true) (fun v y g => ∀ x t, v = .str x t → ∃ D ys, y = .ref D ∧ g.IsList D ys ∧ IntsAre ys.toList (colsOf x.cps.toList)) (fun _ _ _ _ u h x t e => by obtain ⟨D, ys, e1, e2, e3⟩ := h x t e; exact ⟨D, ys, e1, isList_up e2 u, e3⟩)
    (by with_unfolding_all rfl) (by decide) rfl (by decide) rfl (by intro _; with_unfolding_all rfl) ?_
  refine ev_local rfl rfl rfl rfl ⟨srcT rfl u5, by omega, fun i v g' C m' _ _ _ => tests_nil rfl, ?_, ?_⟩
  · rintro i v g6 C m' ⟨y, t, hy, rfl⟩ _ u6 hm
    have W6 := WB.up u6
    refine ev_call (ev_glob W6 (by k_is) ?_ rfl rfl rfl)
    refine go_ref (KeepOk.of W6.K (by k_is)) (evL_cons (ev_local rfl rfl rfl hm (evL_nil ?_)))
    refine f_columns ((r _).less (by decide)) W6 fun Dc ys g7 u7 h1 h2 x t' e => ?_
    cases e
    exact ⟨Dc, ys, rfl, h1, h2⟩
  rintro D3 ca vs3 g6 u6 hD3n hlen3 hvs3 hpair3 hD3 g7 u7 hcell1
  obtain ⟨zc, hc'⟩ := comp_all hpair3
  have uC := Sub.trans uB (Sub.trans u6 u7)
  have WC := W.up uC
  have hCa : ∀ (i : Nat) (y : Int), T0[i]? = some y → ∃ D ys, ca[i]? = some (Value.ref D) ∧ g7.IsList D ys ∧ IntsAre ys.toList (colsOf (leadOf (y.fmod 1000000)).cps.toList) := fun i y hy => by
    have hi : i < vs3.length := by
      rw [hlen3]
      rcases Nat.lt_or_ge i T0.length with h | h
      · exact h
      · rw [List.getElem?_eq_none h] at hy; cases hy
    obtain ⟨k, t, hk, hv⟩ := hvs3 i _ (List.getElem?_eq_getElem hi)
    rw [hy] at hk; cases hk
    obtain ⟨y', hy', hF⟩ := hc' i _ (List.getElem?_eq_getElem hi)
    obtain ⟨D, ys, e, h1, h2⟩ := hF _ t hv
    exact ⟨D, ys, by rw [← Array.getElem?_toList, hy', e], isList_up h1 u7, h2⟩
  have zCa : ca.size = T0.length := by rw [← hlen3, ← zc, Array.length_toList]
  have hCl : g7.IsList D3 ca := isList_up hD3.isList u7
  clear hpair3 hc' hvs3 hD3
  refine bz_cell (pre := []) (post := []) (c := s₁.heap.objs.size + 1 + 1) (o := oc1) (by simp) left rfl rfl rfl rfl ?_
  refine ev_call (ev_blt WC (by k_is) (by boot_fast) (by decide) ?_ rfl rfl rfl rfl)
  refine go_type (evL_cons (ev_call (ev_blt WC (by k_is) (by boot_fast) (by decide) ?_ rfl rfl rfl rfl)))
  refine go_builtin (evL_cons (ev_local rfl rfl rfl rfl (evL_nil (op_len_list (isList_up hDl (Sub.trans u5 (Sub.trans u6 u7))) (by omega) fun t5 => evL_nil (op_range1 fun rr g8 t6 t7 u8 hnr hrr => ?_)))))
  rintro g9 u9 hcell2
  have u79 : Sub g7 g9 := Sub.trans u8 u9
  have WD := WC.up u79
  have hR9 : IsRange g9 rr 0 (tx.size : Int) 1 t6 t5 t7 := u9 _ _ hrr
  have srcR : ∀ {A : Around} {g' : Heap}, A.handled = none → Sub g9 g' → Src PySem.Challenge.rw_mq0259_01.row.prog w A g' (.ref rr) T0.length (fun i v => i < T0.length ∧ ∃ t, v = .int (0 + i) t) := fun {A g'} hh u =>
    src_range hh (u _ _ hR9) (small_of (by omega) (by omega) (by omega) (by omega)) (by rw [rangeSize_one]; split <;> omega)
  obtain ⟨Cc, hCc⟩ : ∃ Cc : Nat → List Int, ∀ i, Cc i = colsOf (leadOf ((T0.getD i 0).fmod 1000000)).cps.toList := ⟨_, fun _ => rfl⟩
  have hT : ∀ i, i < T0.length → T0[i]? = some (T0.getD i 0) := fun i hi => by simp [hi]
  replace hCa : ∀ (i : Nat) (y : Int), T0[i]? = some y → ∃ D ys, ca[i]? = some (Value.ref D) ∧ g7.IsList D ys ∧ IntsAre ys.toList (Cc i) := fun i y hy => by
    obtain ⟨D, ys, e1, e2, e3⟩ := hCa i y hy
    refine ⟨D, ys, e1, e2, ?_⟩
    rw [hCc, List.getD_eq_getElem?_getD, hy]; exact e3
  have hlenC : ∀ i, (Cc i).length = 7 := fun i => by rw [hCc]; exact cols_len _
  obtain ⟨qF, hqF⟩ : ∃ qF : Nat → Bool, ∀ k, qF k = (((List.range T0.length).filter fun m => leftD (Cc k) (Cc m)).length == 0) := ⟨_, fun _ => rfl⟩
  obtain ⟨qN, hqN⟩ : ∃ qN : Nat → Bool, ∀ k, qN k = (((List.range T0.length).filter fun m => leftD (Cc m) (Cc k)).length == 0) := ⟨_, fun _ => rfl⟩
  refine bz_cons (bx_compC T0.length (fun i v => i < T0.length ∧ ∃ t, v = .int (0 + i) t) (onInt qF) (fun v y => y = v) rfl rfl rfl (by with_unfolding_all rfl) (by with_unfolding_all rfl) (by intro _; with_unfolding_all rfl) (by intro _; with_unfolding_all rfl) rfl (by decide) (by with_unfolding_all rfl) (by intro _; with_unfolding_all rfl) ?_)
  refine ev_cell rfl rfl rfl hcell2 ⟨srcR rfl (fun _ _ e => e), by omega, ?_, ?_, ?_⟩
  · rintro i v g' C m' ⟨hi, tv, rfl⟩ u' hcell
    have W' := WD.up u'
    refine tests_one (ts_cmp ?_)
    refine ev_comp T0.length (fun i v => i < T0.length ∧ ∃ t, v = .int (0 + i) t) (onInt fun m => leftD (Cc i) (Cc m)) (fun _ _ _ => True) (fun _ _ _ _ _ _ => trivial) (by with_unfolding_all rfl) (by decide) rfl (by decide) rfl (by intro _; with_unfolding_all rfl) ?_
    refine ev_cell rfl rfl rfl (hcell2.keeps u') ⟨srcR rfl u', by omega, ?_, ?_, ?_⟩
    · rintro j v g'' C3 m3 ⟨hj, tj, rfl⟩ u'' hm3
      have W'' := W'.up u''
      have uu := Sub.trans u' u''
      obtain ⟨Di, yi, e1, e2, e3⟩ := hCa i _ (hT i hi)
      obtain ⟨Dj, yj, f1, f2, f3⟩ := hCa j _ (hT j hj)
      have hi0 : ((0 : Int) + (i : Int)).toNat = i := by omega
      have hj0 : ((0 : Int) + (j : Int)).toNat = j := by omega
      have cI : ∀ {A : Around} {P : Value → Heap → Prop} {value slice : Expr} {t}, P (.ref Di) g'' → (subscripted slice false (.ref D3) (.int (0 + (i : Int)) t) = operate [.ref D3, .int (0 + (i : Int)) t] (getItem (.ref D3) (.int (0 + (i : Int)) t))) → Op (model PySem.Challenge.rw_mq0259_01.row.prog w) A g'' (subscriptTail value slice (.ref D3) (.int (0 + (i : Int)) t)) P := fun h hs => op_item_list (x := .ref Di) (isList_up hCl (Sub.trans u79 uu)) (by omega) (by omega) (by rw [hi0]; exact e1) h hs
      have cJ : ∀ {A : Around} {P : Value → Heap → Prop} {value slice : Expr} {t}, P (.ref Dj) g'' → (subscripted slice false (.ref D3) (.int (0 + (j : Int)) t) = operate [.ref D3, .int (0 + (j : Int)) t] (getItem (.ref D3) (.int (0 + (j : Int)) t))) → Op (model PySem.Challenge.rw_mq0259_01.row.prog w) A g'' (subscriptTail value slice (.ref D3) (.int (0 + (j : Int)) t)) P := fun h hs => op_item_list (x := .ref Dj) (isList_up hCl (Sub.trans u79 uu)) (by omega) (by omega) (by rw [hj0]; exact f1) h hs
      refine tests_one (ts_value (ev_call (ev_glob W'' (by k_is) ?_ rfl rfl rfl)))
      refine go_ref (KeepOk.of W''.K (by k_is)) ?_
      refine evL_cons (ev_item (ev_cell rfl rfl rfl (hcell1.keeps (Sub.trans u79 uu)) (ev_cell rfl rfl rfl (hcell.keeps u'') (cI ?_ (by with_unfolding_all rfl)))))
      refine evL_cons (ev_item (ev_cell rfl rfl rfl (hcell1.keeps (Sub.trans u79 uu)) (ev_local rfl rfl rfl hm3 (cJ (evL_nil ?_) (by with_unfolding_all rfl)))))
      refine f_left ((r _).less (by decide)) W'' (isList_up e2 (Sub.trans u79 uu)) (isList_up f2 (Sub.trans u79 uu)) e3 f3 (hlenC _) (hlenC _) fun g5 u5 => op_truthB ?_
      show _ = leftD (Cc i) (Cc ((0 : Int) + (j : Int)).toNat)
      rw [hj0]
    · rintro j v g'' C3 m3 _ _ u'' hm3
      exact ev_local rfl rfl rfl hm3 trivial
    · rintro D zs vs' g'' u'' hDn hlen' hvs' hpair' hD
      have hz : (zs.size == 0) = onInt qF (.int (0 + (i : Int)) tv) := by
        have e := hpair'.length
        rw [ints_filter (q := fun m => leftD (Cc i) (Cc m)) hlen' (fun j v h => hvs' j v h) (fun k t => rfl)] at e
        have hi0 : ((0 : Int) + (i : Int)).toNat = i := by omega
        have e' : zs.size = ((List.range T0.length).filter fun m => leftD (Cc i) (Cc m)).length := by rw [← Array.length_toList]; first | exact e | exact e.symm
        show _ = qF ((0 : Int) + (i : Int)).toNat
        rw [hi0, hqF, e']
      exact ev_list (evL_nil ⟨by decide, fun E g5 u5 hEn hE => op_eq_nil (isList_up hD.isList u5) ⟨_, hE, rfl, 0, rfl⟩ (by show 4 + 3 < cLine; decide) (op_truthB hz)⟩)
  · rintro i v g' C m' hv _ u' hcell
    exact ev_cell rfl rfl rfl hcell rfl
  rintro DF zF vs4 g10 u10 hDn4 hlen4 hvs4 hpair4 hD4
  have hzF : IntsAre zF.toList (((List.range T0.length).filter qF).map fun (k : Nat) => (k : Int)) := by
    rw [paired_eq hpair4, List.range_eq_range', ← hlen4]
    exact ints_kept (fun k t => rfl) vs4 0 fun j v h => by
      obtain ⟨hj, t, e⟩ := hvs4 j v h
      exact ⟨t, by rw [e]; first | done | (congr 1; omega) | (simp)⟩
  have hlF : g10.IsList DF zF := hD4.isList
  clear hpair4 hvs4 hD4
  refine ⟨rfl, ?_⟩
  have WE := WD.up u10
  have u7E := Sub.trans u79 u10
  have hcell2E := hcell2.keeps u10
  refine bz_cons (bx_compC T0.length (fun i v => i < T0.length ∧ ∃ t, v = .int (0 + i) t) (onInt qN) (fun v y => y = v) rfl rfl rfl (by with_unfolding_all rfl) (by with_unfolding_all rfl) (by intro _; with_unfolding_all rfl) (by intro _; with_unfolding_all rfl) rfl (by decide) (by with_unfolding_all rfl) (by intro _; with_unfolding_all rfl) ?_)
  refine ev_cell rfl rfl rfl hcell2E ⟨srcR rfl u10, by omega, ?_, ?_, ?_⟩
  · rintro i v g' C m' ⟨hi, tv, rfl⟩ u' hcell
    have W' := WE.up u'
    refine tests_one (ts_cmp ?_)
    refine ev_comp T0.length (fun i v => i < T0.length ∧ ∃ t, v = .int (0 + i) t) (onInt fun m => leftD (Cc m) (Cc i)) (fun _ _ _ => True) (fun _ _ _ _ _ _ => trivial) (by with_unfolding_all rfl) (by decide) rfl (by decide) rfl (by intro _; with_unfolding_all rfl) ?_
    refine ev_cell rfl rfl rfl (hcell2E.keeps u') ⟨srcR rfl (Sub.trans u10 u'), by omega, ?_, ?_, ?_⟩
    · rintro j v g'' C3 m3 ⟨hj, tj, rfl⟩ u'' hm3
      have W'' := W'.up u''
      have uu := Sub.trans u' u''
      obtain ⟨Di, yi, e1, e2, e3⟩ := hCa i _ (hT i hi)
      obtain ⟨Dj, yj, f1, f2, f3⟩ := hCa j _ (hT j hj)
      have hi0 : ((0 : Int) + (i : Int)).toNat = i := by omega
      have hj0 : ((0 : Int) + (j : Int)).toNat = j := by omega
      have cI : ∀ {A : Around} {P : Value → Heap → Prop} {value slice : Expr} {t}, P (.ref Di) g'' → (subscripted slice false (.ref D3) (.int (0 + (i : Int)) t) = operate [.ref D3, .int (0 + (i : Int)) t] (getItem (.ref D3) (.int (0 + (i : Int)) t))) → Op (model PySem.Challenge.rw_mq0259_01.row.prog w) A g'' (subscriptTail value slice (.ref D3) (.int (0 + (i : Int)) t)) P := fun h hs => op_item_list (x := .ref Di) (isList_up hCl (Sub.trans u7E uu)) (by omega) (by omega) (by rw [hi0]; exact e1) h hs
      have cJ : ∀ {A : Around} {P : Value → Heap → Prop} {value slice : Expr} {t}, P (.ref Dj) g'' → (subscripted slice false (.ref D3) (.int (0 + (j : Int)) t) = operate [.ref D3, .int (0 + (j : Int)) t] (getItem (.ref D3) (.int (0 + (j : Int)) t))) → Op (model PySem.Challenge.rw_mq0259_01.row.prog w) A g'' (subscriptTail value slice (.ref D3) (.int (0 + (j : Int)) t)) P := fun h hs => op_item_list (x := .ref Dj) (isList_up hCl (Sub.trans u7E uu)) (by omega) (by omega) (by rw [hj0]; exact f1) h hs
      refine tests_one (ts_value (ev_call (ev_glob W'' (by k_is) ?_ rfl rfl rfl)))
      refine go_ref (KeepOk.of W''.K (by k_is)) ?_
      refine evL_cons (ev_item (ev_cell rfl rfl rfl (hcell1.keeps (Sub.trans u7E uu)) (ev_local rfl rfl rfl hm3 (cJ ?_ (by with_unfolding_all rfl)))))
      refine evL_cons (ev_item (ev_cell rfl rfl rfl (hcell1.keeps (Sub.trans u7E uu)) (ev_cell rfl rfl rfl (hcell.keeps u'') (cI (evL_nil ?_) (by with_unfolding_all rfl)))))
      refine f_left ((r _).less (by decide)) W'' (isList_up f2 (Sub.trans u7E uu)) (isList_up e2 (Sub.trans u7E uu)) f3 e3 (hlenC _) (hlenC _) fun g5 u5 => op_truthB ?_
      show _ = leftD (Cc ((0 : Int) + (j : Int)).toNat) (Cc i)
      rw [hj0]
    · rintro j v g'' C3 m3 _ _ u'' hm3
      exact ev_local rfl rfl rfl hm3 trivial
    · rintro D zs vs' g'' u'' hDn hlen' hvs' hpair' hD
      have hz : (zs.size == 0) = onInt qN (.int (0 + (i : Int)) tv) := by
        have e := hpair'.length
        rw [ints_filter (q := fun m => leftD (Cc m) (Cc i)) hlen' (fun j v h => hvs' j v h) (fun k t => rfl)] at e
        have hi0 : ((0 : Int) + (i : Int)).toNat = i := by omega
        have e' : zs.size = ((List.range T0.length).filter fun m => leftD (Cc m) (Cc i)).length := by rw [← Array.length_toList]; first | exact e | exact e.symm
        show _ = qN ((0 : Int) + (i : Int)).toNat
        rw [hi0, hqN, e']
      exact ev_list (evL_nil ⟨by decide, fun E g5 u5 hEn hE => op_eq_nil (isList_up hD.isList u5) ⟨_, hE, rfl, 0, rfl⟩ (by show 4 + 3 < cLine; decide) (op_truthB hz)⟩)
  · rintro i v g' C m' hv _ u' hcell
    exact ev_cell rfl rfl rfl hcell rfl
  rintro DN zN vs4 g11 u11 hDn4 hlen4 hvs4 hpair4 hD4
  have hzN : IntsAre zN.toList (((List.range T0.length).filter qN).map fun (k : Nat) => (k : Int)) := by
    rw [paired_eq hpair4, List.range_eq_range', ← hlen4]
    exact ints_kept (fun k t => rfl) vs4 0 fun j v h => by
      obtain ⟨hj, t, e⟩ := hvs4 j v h
      exact ⟨t, by rw [e]; first | done | (congr 1; omega) | (simp)⟩
  have hlN : g11.IsList DN zN := hD4.isList
  clear hpair4 hvs4 hD4
  refine ⟨rfl, ?_⟩
  have u5B : Sub g5 g11 := Sub.trans u6 (Sub.trans u7 (Sub.trans u7E u11))
  have WG := WE.up u11
  obtain ⟨xs, exs⟩ := refs_of la.toList fun i v hv => by
    have hi : i < T0.length := by
      rcases Nat.lt_or_ge i T0.length with h | h
      · exact h
      · rw [Array.getElem?_toList, Array.getElem?_eq_none (by omega)] at hv; cases hv
    obtain ⟨a, ha, _⟩ := hLa i _ (hT i hi)
    rw [Array.getElem?_toList, ha] at hv; cases hv
    exact ⟨a, rfl⟩
  have zxs : xs.length = T0.length := by have := congrArg List.length exs; simp at this; omega
  have hxi : ∀ (i : Nat) (x : Addr), xs[i]? = some x → i < T0.length ∧ IsWs g5 x (scan (leadOf ((T0.getD i 0).fmod 1000000)).cps.toList .zero) := fun i x hx => by
    have hi : i < T0.length := by
      rcases Nat.lt_or_ge i T0.length with h | h
      · exact h
      · rw [List.getElem?_eq_none (by omega)] at hx; cases hx
    obtain ⟨a, ha, hw⟩ := hLa i _ (hT i hi)
    rw [← Array.getElem?_toList, exs, List.getElem?_map, hx] at ha
    cases ha
    exact ⟨hi, hw⟩
  obtain ⟨dat, hdat⟩ := dat_of (g := g5) (xs := xs) (f := fun i => scan (leadOf ((T0.getD i 0).fmod 1000000)).cps.toList .zero) fun i x hx => (hxi i x hx).2
  have hok : ∀ i x, xs[i]? = some x → LeadOk (dat x) (Cc i) := fun i x hx => by
    rw [(hdat i x hx).1, hCc]; exact (lead_ok _).2
  have hmem : ∀ x ∈ xs, ∃ i, xs[i]? = some x := fun x hx => by
    obtain ⟨i, hi, e⟩ := List.mem_iff_getElem.mp hx
    exact ⟨i, by rw [List.getElem?_eq_getElem hi, e]⟩
  have hleads : Leads g11 dat xs := fun x hx => by
    obtain ⟨i, hi⟩ := hmem x hx
    exact ⟨(hdat i x hi).2.up u5B, (hok i x hi).sm⟩
  have hall : AllOk dat xs := fun x hx => by
    obtain ⟨i, hi⟩ := hmem x hx
    exact ⟨_, hok i x hi⟩
  have hrow : IsRow g11 D2 xs := ⟨la, isList_up hLl u5B, exs⟩
  have sub_take : ∀ i x, x ∈ xs.take i → x ∈ xs := fun i x h => List.mem_of_mem_take h
  have len_max : ∀ (lt : Addr → Addr → Bool) i, (maxs lt (xs.take i)).length ≤ 1000 := fun lt i => by
    have h1 : (maxs lt (xs.take i)).length ≤ (xs.take i).length := List.length_filter_le _ _
    have h2 := List.length_take_le i xs
    have h3 : (xs.take i).length ≤ xs.length := by rw [List.length_take]; omega
    omega
  have leads_take : ∀ {g' : Heap} (lt : Addr → Addr → Bool) i, Sub g11 g' → Leads g' dat (maxs lt (xs.take i)) := fun {g'} lt i u x hx => ((hleads.up u) x (sub_take i x (mem_maxs hx)))
  refine bz_cons (bx_if (ts_not (ts_value (ev_call (ev_glob WG (by k_is) ?_ rfl rfl rfl)))))
  refine go_ref (KeepOk.of WG.K (by k_is)) (evL_cons (ev_call (ev_glob WG (by k_is) ?_ rfl rfl rfl)))
  refine go_ref (KeepOk.of WG.K (by k_is)) (evL_cons (ev_glob WG (by k_is) (evL_cons ?_) rfl rfl rfl))
  refine ev_comp T0.length (fun i v => ∃ x, xs[i]? = some x ∧ v = Value.ref x) (fun _ => true) (fun v y g => ∀ a, v = .ref a → ∃ D, y = .ref D ∧ IsRow g D [a]) (fun _ _ _ _ u h a e => by obtain ⟨D, e1, e2⟩ := h a e; exact ⟨D, e1, e2.up u⟩)
    (by with_unfolding_all rfl) (by decide) rfl (by decide) rfl (by intro _; with_unfolding_all rfl) ?_
  refine ev_local rfl rfl rfl rfl ⟨src_listN rfl (isList_up hLl u5B) zLa (fun i v hv => ?_), by omega, fun i v g' C m' _ _ _ => tests_nil rfl, ?_, ?_⟩
  · rw [← Array.getElem?_toList, exs, List.getElem?_map] at hv
    obtain ⟨x, hx, rfl⟩ := Option.map_eq_some_iff.mp hv
    exact ⟨x, hx, rfl⟩
  · rintro i v g' C m' ⟨x, hx, rfl⟩ _ u' hm
    refine ev_list (evL_cons (ev_local rfl rfl rfl hm (evL_nil ⟨by simp [sl], fun Q g'' u'' hQn hQ a e => ?_⟩)))
    cases e
    exact ⟨Q, rfl, _, ⟨_, hQ, rfl, 0, rfl⟩, rfl⟩
  rintro DR rs vs5 g12 u12 hDRn hlen5 hvs5 hpair5 hDR
  obtain ⟨zr, hr'⟩ := comp_all hpair5
  have hRs : ∀ (i : Nat) (x : Addr), xs[i]? = some x → ∃ D, rs[i]? = some (Value.ref D) ∧ IsRow g12 D [x] := fun i x hx => by
    have hi : i < vs5.length := by rw [hlen5]; exact (hxi i x hx).1
    obtain ⟨x', hx', hv⟩ := hvs5 i _ (List.getElem?_eq_getElem hi)
    rw [hx] at hx'; cases hx'
    obtain ⟨y', hy', hF⟩ := hr' i _ (List.getElem?_eq_getElem hi)
    obtain ⟨D, e, hw⟩ := hF x hv
    exact ⟨D, by rw [← Array.getElem?_toList, hy', e], hw⟩
  have zRs : rs.size = T0.length := by rw [← hlen5, ← zr, Array.length_toList]
  have hRl : g12.IsList DR rs := hDR.isList
  clear hpair5 hr' hvs5 hDR
  have WH := WG.up u12
  refine evL_nil ?_
  obtain ⟨x0, hx0⟩ : ∃ x, xs[0]? = some x := ⟨xs[0], List.getElem?_eq_getElem (by omega)⟩
  obtain ⟨Dz, hDz, rowz⟩ := hRs 0 x0 hx0
  refine f_reduce0 (v₀ := .ref Dz) (Inv := fun i v g' => Sub g12 g' ∧ ∃ D, v = .ref D ∧ IsRow g' D (maxs (ltA dat) (xs.take i))) (items := rs) ((r _).less (e := 5) (by decide)).depth (.inl rfl) WH hRl (KeepOk.of WH.K (by k_is)) hDz ?_ ?_ ?_
  · intro g' u'
    refine ⟨u', Dz, rfl, ?_⟩
    have : maxs (ltA dat) (xs.take 1) = [x0] := by
      have e1 : xs.take 1 = [x0] := by rw [take_snoc (i := 0) hx0]; rfl
      rw [e1]; exact maxs_one _ [] x0 (irrA dat x0)
    rw [this]; exact rowz.up u'
  · rintro env i v xv g' hxv u' ⟨_, D, rfl, hrowD⟩
    have hi : i < T0.length := by
      rcases Nat.lt_or_ge i T0.length with h | h
      · exact h
      · rw [Array.getElem?_eq_none (by omega)] at hxv; cases hxv
    obtain ⟨x, hx⟩ : ∃ x, xs[i]? = some x := ⟨xs[i], List.getElem?_eq_getElem (by omega)⟩
    obtain ⟨Di, hDi, rowi⟩ := hRs i x hx
    rw [hxv] at hDi; cases hDi
    refine f_joined ((((r _).less (e := 4) (by decide)).deeper env)) (WH.up u') hrowD (rowi.up u') (leads_take _ i (Sub.trans u12 u')) (fun y hy => ?_) (len_max _ i) (by simp) fun D' g'' u'' hD' => ⟨Sub.trans u' u'', D', rfl, ?_⟩
    · rw [List.mem_singleton.mp hy]
      exact hleads.up (Sub.trans u12 u') x (List.mem_of_getElem? hx)
    · rw [join_step (fun z hz => ?_)] at hD'
      · rw [take_snoc hx]; exact hD'
      · rcases List.mem_append.mp hz with h | h
        · exact hall z (sub_take i z h)
        · rw [List.mem_singleton.mp h]; exact hall x (List.mem_of_getElem? hx)
  rintro v g13 g14 u13 u14 ⟨_, DT, rfl, hDT⟩
  rw [zRs, ← zxs, List.take_length] at hDT
  have u14' := Sub.trans u12 (Sub.trans u13 u14)
  have WI := WG.up u14'
  refine evL_cons (ev_local rfl rfl rfl rfl (evL_cons (ev_local rfl rfl rfl rfl (evL_nil ?_))))
  have vf := very_fits (lt := ltA dat) (leads := xs) (q := qF) (fun k x hx => by rw [hqF]; exact (q_of zxs hok hx).1) (by omega)
  have ldF : (((List.range xs.length).filter qF).map fun (k : Nat) => (k : Int)).length ≤ 1000 := by
    rw [List.length_map]
    have := List.length_filter_le qF (List.range xs.length)
    simp at this; omega
  rw [← zxs] at hzF hzN
  refine f_very ((r _).less (by decide)) WI (hDT.up u14) (hrow.up u14') (isList_up hlF (Sub.trans u11 u14')) hzF vf.1 vf.2 ldF fun g15 u15 => op_truthB ?_
  rw [if_neg (by decide)]
  refine bx_nil ⟨rfl, ?_⟩
  have uF := Sub.trans u14' u15
  have WJ := WG.up uF
  refine bz_cons (bx_if (ts_not (ts_value (ev_call (ev_glob WJ (by k_is) ?_ rfl rfl rfl)))))
  refine go_ref (KeepOk.of WJ.K (by k_is)) (evL_cons (ev_call (ev_glob WJ (by k_is) ?_ rfl rfl rfl)))
  refine go_ref (KeepOk.of WJ.K (by k_is)) (evL_cons (ev_glob WJ (by k_is) (evL_cons ?_) rfl rfl rfl))
  refine ev_local rfl rfl rfl rfl (evL_cons (ev_list (evL_nil ⟨by decide, fun DE g16 u16 hDEn hDE => evL_nil ?_⟩)))
  have uG := Sub.trans uF u16
  have WK := WG.up uG
  have hDEl : g16.IsList DE #[] := ⟨_, hDE, rfl, 0, rfl⟩
  refine f_reduce (Inv := fun i v g' => Sub g16 g' ∧ ∃ D, v = .ref D ∧ IsRow g' D (maxs (gtA dat) (xs.take i))) (items := la) ((r _).less (e := 5) (by decide)).depth (.inl rfl) WK (isList_up hLl (Sub.trans u5B uG)) (KeepOk.of WK.K (by k_is)) (fun A' g' P u h' => op_list_is22 (WK.up u) (isList_up hDEl u) h') ?_ ?_ ?_
  · intro g' u'
    exact ⟨u', DE, rfl, #[], isList_up hDEl u', rfl⟩
  · rintro env i v xv g' hxv u' ⟨_, D, rfl, hrowD⟩
    rw [← Array.getElem?_toList, exs, List.getElem?_map] at hxv
    obtain ⟨x, hx, rfl⟩ := Option.map_eq_some_iff.mp hxv
    have hxm := List.mem_of_getElem? hx
    have uu := Sub.trans uG u'
    refine f_laid ((((r _).less (e := 4) (by decide)).deeper env)) (WK.up u') hrowD (leads_take _ i uu) ((hleads.up uu) x hxm).1 ((hleads.up uu) x hxm).2 (len_max _ i) fun D' g'' u'' hD' => ⟨Sub.trans u' u'', D', rfl, ?_⟩
    rw [laid_step (fun z hz => ?_)] at hD'
    · rw [take_snoc hx]; exact hD'
    · rcases List.mem_append.mp hz with h | h
      · exact hall z (sub_take i z h)
      · rw [List.mem_singleton.mp h]; exact hall x hxm
  rintro v g17 g18 u17 u18 ⟨_, DU, rfl, hDU⟩
  rw [zLa, ← zxs, List.take_length] at hDU
  have uH := Sub.trans uG (Sub.trans u17 u18)
  have WL := WG.up uH
  refine evL_cons (ev_local rfl rfl rfl rfl (evL_cons (ev_local rfl rfl rfl rfl (evL_nil ?_))))
  have vn := very_fits (lt := gtA dat) (leads := xs) (q := qN) (fun k x hx => by rw [hqN]; exact (q_of zxs hok hx).2) (by omega)
  have ldN : (((List.range xs.length).filter qN).map fun (k : Nat) => (k : Int)).length ≤ 1000 := by
    rw [List.length_map]
    have := List.length_filter_le qN (List.range xs.length)
    simp at this; omega
  refine f_very ((r _).less (by decide)) WL (hDU.up u18) (hrow.up uH) (isList_up hlN uH) hzN vn.1 vn.2 ldN fun g19 u19 => op_truthB ?_
  rw [if_neg (by decide)]
  refine bx_nil ⟨rfl, ?_⟩
  have uZ := Sub.trans uH u19
  have WZ := WG.up uZ
  obtain ⟨xs', rfl⟩ : ∃ xs', xs = x0 :: xs' := by
    cases xs with
    | nil => simp at hx0
    | cons a l => simp at hx0; subst hx0; exact ⟨l, rfl⟩
  refine bz_ends (l := D2) (x0 := x0) (xs := xs') ((r _).less (by decide)) rfl rfl (fun q => nomatch q) WZ (hrow.up uZ) (by simp at zxs; omega) (ev_glob WZ (by k_is) rfl rfl rfl rfl) (KeepOk.of WZ.K (by k_is)) (ev_local rfl rfl rfl rfl rfl) fun h tk hkeep => ?_
  refine ⟨.inl ⟨.bool true, ?_⟩, hkeep, rfl, hg⟩
  refine ⟨.bool true, [], rfl, fun cls => rfl, .bool true, ?_, fun _ => ⟨.nil, fun a ha => (nomatch ha)⟩⟩
  exact postW_of (by first | rfl | wrow_shape) (w_eq_bool (w_res rfl) w_lit) rfl)
