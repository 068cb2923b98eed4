import PyProof.Rows.All
import Wide.All
import OpenK.AllK
import Wide.FinOn
import PySem.Challenge.RW_oh0013_01
open PySem PySem.W PyProof.Rows
set_option Elab.async false
set_option linter.unusedVariables false

/-! part B0 -/
namespace Mine

section
variable {prog : Program} {w : World} {A : Around} {α β : Type}

/-- from heap h the tree t comes back, with a and a heap as P says; nothing else changes -/
def Tr (prog : Program) (w : World) (A : Around) (t : Sem α) (h : Heap) (P : α → Heap → Prop) : Prop :=
  ∀ (s : Shared) (Q : α → Shared → Prop) (E : Value → Shared → Prop), s.heap = h →
    (∀ a h' tk, P a h' → Q a { s with heap := h', toks := tk }) → wpAny (model prog w) A t Q E s

theorem Tr.use {t : Sem α} {P : α → Heap → Prop} {s : Shared} {Q : α → Shared → Prop} {E : Value → Shared → Prop}
    (h : Tr prog w A t s.heap P) (hq : ∀ a h' tk, P a h' → Q a { s with heap := h', toks := tk }) : wpAny (model prog w) A t Q E s := h s Q E rfl hq

theorem Tr.mk {t : Sem α} {h : Heap} {P : α → Heap → Prop}
    (k : ∀ (s : Shared) (Q : α → Shared → Prop) (E : Value → Shared → Prop), s.heap = h → (∀ a h' tk, P a h' → Q a { s with heap := h', toks := tk }) → wpAny (model prog w) A t Q E s) : Tr prog w A t h P := k

theorem Tr.mono {t : Sem α} {h : Heap} {P P' : α → Heap → Prop} (x : Tr prog w A t h P) (k : ∀ a h', P a h' → P' a h') : Tr prog w A t h P' :=
  fun s Q E e hq => x s Q E e fun a h' tk p => hq a h' tk (k a h' p)

theorem Tr.ret {h : Heap} {a : α} {P : α → Heap → Prop} (p : P a h) : Tr prog w A (pure a) h P :=
  fun s Q E e hq => wpAny_pure (by have := hq a h s.toks p; subst e; exact this)

theorem Tr.bind {t : Sem α} {k : α → Sem β} {h : Heap} {P : β → Heap → Prop} (x : Tr prog w A t h fun a h' => Tr prog w A (k a) h' P) : Tr prog w A (t >>= k) h P :=
  fun s Q E e hq => wpAny_bind (x s _ E e fun a h' tk y => y _ _ _ rfl fun b h'' tk' z => hq b h'' tk' z)

theorem Tr.in1 {t : Sem α} {h : Heap} {P : α → Heap → Prop} (x : Tr prog w A.in1 t h P) : Tr prog w A t h P :=
  fun s Q E e hq => wpAny_of_in1 (x s Q E e hq)

variable {env : Env}

/-- several trees one after the other -/
theorem Tr.execs_nil {h : Heap} {P : Flow → Heap → Prop} (p : P .next h) : Tr prog w A (execs [] env) h P :=
  fun s Q E e hq => wpAny_execs_nil (by have := hq .next h s.toks p; subst e; exact this)
theorem Tr.execs_cons {st : Stmt} {rest : List Stmt} {h : Heap} {P : Flow → Heap → Prop}
    (x : Tr prog w A (exec st env) h fun f h' => match f with | .next => Tr prog w A (execs rest env) h' P | f => P f h') : Tr prog w A (execs (st :: rest) env) h P :=
  fun s Q E e hq => wpAny_execs_cons (x s _ E e fun f h' tk y => by
    cases f with
    | next => exact y _ _ _ rfl fun b h'' tk' z => hq b h'' tk' z
    | brk => exact hq _ _ _ y
    | cont => exact hq _ _ _ y
    | ret v => exact hq _ _ _ y)

/-- a local is stored -/
theorem Tr.store {x : Str} {v : Value} {h : Heap} {m : Str → Option Value} {P : Unit → Heap → Prop} (hn : h.Ns env.locals m)
    (k : ∀ h', h'.Ns env.locals (fun y => if y = x then some v else m y) → Heap.SameBut env.locals h h' → P () h')
    (hl : env.kindOf x = some .local) (hp : (env.scope.kind == .class || (env.scope.kind == .module && env.locals != env.globals)) = false) :
    Tr prog w A (storeName env x v) h P :=
  fun s Q E e hq => by subst e; exact wpAny_storeName_local hl hn (fun h' a b => hq _ _ _ (k h' a b)) hp

theorem Tr.assign_name {x : Str} {p1 p2 : Pos} {value : Expr} {h : Heap} {P : Flow → Heap → Prop}
    (hv : Tr prog w A (eval value env) h fun v h' => Tr prog w A (storeName env x v) h' fun _ => P .next)
    (hs : swapsWith value (some (.Name x p1)) p2.line env = pure false := by rfl) : Tr prog w A (exec (.Assign [.Name x p1] value p2) env) h P :=
  fun s Q E e hq => wpAny_Assign_Name (hv s _ E e fun v h' tk y => y _ _ _ rfl fun b h'' tk' z => hq _ h'' tk' z) hs

theorem Tr.ite {test : Expr} {body orelse : List Stmt} {pos : Pos} {h : Heap} {P : Flow → Heap → Prop}
    (x : Tr prog w A (isTrue test env (eval test env)) h fun b h' => if b then Tr prog w A (execs body env) h' P else Tr prog w A (execs orelse env) h' P) :
    Tr prog w A (exec (.If test body orelse pos) env) h P :=
  fun s Q E e hq => wpAny_If (x s _ E e fun b h' tk y => by
    cases b
    · exact y _ _ _ rfl hq
    · exact y _ _ _ rfl hq)

theorem Tr.retn {e : Expr} {pos : Pos} {h : Heap} {P : Flow → Heap → Prop} (x : Tr prog w A (eval e env) h fun v => P (.ret v)) : Tr prog w A (exec (.Return (some e) pos) env) h P :=
  fun s Q E e' hq => wpAny_Return_some (x s _ E e' fun v h' tk y => hq _ h' tk y)

theorem Tr.brk {pos : Pos} {h : Heap} {P : Flow → Heap → Prop} (p : P .brk h) : Tr prog w A (exec (.Break pos) env) h P :=
  fun s Q E e hq => wpAny_Break (by have := hq .brk h s.toks p; subst e; exact this)
theorem Tr.cont {pos : Pos} {h : Heap} {P : Flow → Heap → Prop} (p : P .cont h) : Tr prog w A (exec (.Continue pos) env) h P :=
  fun s Q E e hq => wpAny_Continue (by have := hq .cont h s.toks p; subst e; exact this)

theorem Tr.expr {e : Expr} {pos : Pos} {h : Heap} {P : Flow → Heap → Prop} (x : Tr prog w A (eval e env) h fun _ => P .next)
    (hi : interactive env = false := by rfl) (hs : swapsWith e none pos.line env = pure false := by rfl) : Tr prog w A (exec (.Expr e pos) env) h P :=
  fun s Q E e' hq => wpAny_Expr_any (x s _ E e' fun v h' tk y => hq _ h' tk y) hi hs

/-- while: a measure n falls; the heap is as I says -/
theorem Tr.while_ {test : Expr} {body : List Stmt} {pos : Pos} {h : Heap} {P : Flow → Heap → Prop} (I : Nat → Heap → Prop)
    (turn : ∀ n h, I n h → Tr prog w A (isTrue test env (eval test env)) h fun b h₁ =>
      if b then Tr prog w A (execs body env) h₁ fun f h₂ => match f with
        | .next | .cont => ∃ m, m < n ∧ I m h₂
        | .brk => P .next h₂
        | .ret v => P (.ret v) h₂
      else P .next h₁)
    (n : Nat) (hI : I n h) : Tr prog w A (exec (.While test body [] pos) env) h P :=
  fun s Q E e hq => by
    refine wpAny_While ?_
    refine codeAny_whileLoop (fun n s' => I n s'.heap ∧ ∃ h' tk, s' = { s with heap := h', toks := tk }) ?_ n ⟨e ▸ hI, s.heap, s.toks, rfl⟩
    rintro n s' ⟨hI, h', tk, rfl⟩
    refine turn n _ hI _ _ _ rfl fun b h₁ tk₁ y => ?_
    cases b with
    | false =>
      simp only [Bool.false_eq_true, if_false] at y ⊢
      exact wpAny_execs_nil (hq _ _ _ y)
    | true =>
      simp only [if_true] at y ⊢
      refine y _ _ _ rfl fun f h₂ tk₂ z => ?_
      cases f with
      | next => obtain ⟨m, hm, hI⟩ := z; exact ⟨m, hm, hI, _, _, rfl⟩
      | cont => obtain ⟨m, hm, hI⟩ := z; exact ⟨m, hm, hI, _, _, rfl⟩
      | brk => exact hq _ _ _ z
      | ret v => exact hq _ _ _ z
end
end Mine

/-! part B1 -/
namespace Mine

/-! the program's defs, by their place in its text -/
def stAt (i : Nat) : Stmt := (PySem.Challenge.pw_oh0013_01.main.body).getD i (.Pass default)
def bodyAt (i : Nat) : List Stmt := match stAt i with | .FunctionDef _ _ b _ _ _ _ _ _ _ => b | _ => []
def scopeAt (i : Nat) : Scope := match stAt i with | .FunctionDef _ _ _ _ _ _ s _ _ _ => s | _ => default
def paramsAt (i : Nat) : Arguments := match stAt i with | .FunctionDef _ a _ _ _ _ _ _ _ _ => a | _ => default

/-! what stays from heap to heap -/
def Sub (μ : List Addr) (h h' : Heap) : Prop := ∀ b o, b ∉ μ → h.get? b = some o → h'.get? b = some o
theorem Sub.refl {μ : List Addr} {h : Heap} : Sub μ h h := fun _ _ _ e => e
theorem Sub.trans {μ : List Addr} {h h' h'' : Heap} (x : Sub μ h h') (y : Sub μ h' h'') : Sub μ h h'' := fun b o n e => y b o n (x b o n e)
theorem Sub.mono {μ ν : List Addr} {h h' : Heap} (x : Sub μ h h') (k : ∀ a ∈ μ, a ∈ ν) : Sub ν h h' := fun b o n e => x b o (fun q => n (k b q)) e
theorem Sub.of_same {a : Addr} {h h' : Heap} (x : Heap.SameBut a h h') : Sub [a] h h' := fun b o n e => (x.2 b (by simpa using n)).trans e
theorem Sub.of_ext {a : Addr} {h h' : Heap} (x : Heap.ExtBut a h h') : Sub [a] h h' := fun b o n e => x b o (by simpa using n) e
theorem Sub.push {μ : List Addr} {h : Heap} (o : Obj) : Sub μ h (h.push o) := fun _ _ _ e => Heap.get?_push_of_some _ e
/-- a change at an address that did not stand before is none -/
theorem Sub.drop {a : Addr} {μ : List Addr} {h h' : Heap} (x : Sub (a :: μ) h h') (n : h.get? a = none) : Sub μ h h' := fun b o hb e =>
  x b o (fun q => by rcases List.mem_cons.mp q with rfl | q; (rw [n] at e; cases e); exact hb q) e
theorem Sub.all {h h' : Heap} (x : Sub [] h h') : ∀ b o, h.get? b = some o → h'.get? b = some o := fun b o e => x b o (by simp) e
theorem Sub.of_all {h h' : Heap} (x : ∀ b o, h.get? b = some o → h'.get? b = some o) {μ : List Addr} : Sub μ h h' := fun b o _ e => x b o e
theorem get_none_of_le {h : Heap} {a : Addr} (l : h.objs.size ≤ a) : h.get? a = none := by
  cases e : h.get? a with
  | none => rfl
  | some o => exact absurd (Heap.lt_size e) (Nat.not_lt.mpr l)
theorem ne_of_get {h : Heap} {a b : Addr} {o : Obj} (ha : h.get? a = some o) (hb : h.get? b = none) : a ≠ b := fun e => by rw [e, hb] at ha; cases ha

theorem IsList.sub {μ : List Addr} {h h' : Heap} {a : Addr} {vs : Array Value} (x : h.IsList a vs) (s : Sub μ h h') (n : a ∉ μ) : h'.IsList a vs :=
  let ⟨o, e, r⟩ := x; ⟨o, s a o n e, r⟩
theorem IsTuple.sub {μ : List Addr} {h h' : Heap} {a : Addr} {vs : Array Value} (x : h.IsTuple a vs) (s : Sub μ h h') (n : a ∉ μ) : h'.IsTuple a vs :=
  let ⟨o, e, r⟩ := x; ⟨o, s a o n e, r⟩
theorem Ns.sub {μ : List Addr} {h h' : Heap} {a : Addr} {m : Str → Option Value} (x : h.Ns a m) (s : Sub μ h h') (n : a ∉ μ) : h'.Ns a m :=
  let ⟨o, es, ep, e, r⟩ := x; ⟨o, es, ep, s a o n e, r⟩
theorem IsCell.sub {μ : List Addr} {h h' : Heap} {a : Addr} {v : Option Value} (x : h.IsCell a v) (s : Sub μ h h') (n : a ∉ μ) : h'.IsCell a v :=
  let ⟨o, e, r⟩ := x; ⟨o, s a o n e, r⟩
theorem IsList.lt {h : Heap} {a : Addr} {vs : Array Value} (x : h.IsList a vs) : a < h.objs.size := let ⟨_, e, _⟩ := x; Heap.lt_size e
theorem IsTuple.lt {h : Heap} {a : Addr} {vs : Array Value} (x : h.IsTuple a vs) : a < h.objs.size := let ⟨_, e, _⟩ := x; Heap.lt_size e
theorem IsList.uniq {h : Heap} {a : Addr} {vs ws : Array Value} (x : h.IsList a vs) (y : h.IsList a ws) : vs = ws := by
  obtain ⟨o, e, _, n, d⟩ := x; obtain ⟨o', e', _, n', d'⟩ := y
  rw [e] at e'; cases e'; rw [d] at d'; cases d'; rfl
theorem ns_ne_list {h : Heap} {a b : Addr} {m : Str → Option Value} {vs : Array Value} (x : h.Ns a m) (y : h.IsList b vs) : a ≠ b := fun e => by
  obtain ⟨o, _, _, e1, d1, _⟩ := x; obtain ⟨o', e2, _, n, d2⟩ := y
  rw [e, e2] at e1; cases e1; rw [d1] at d2; cases d2
theorem ns_ne_tuple {h : Heap} {a b : Addr} {m : Str → Option Value} {vs : Array Value} (x : h.Ns a m) (y : h.IsTuple b vs) : a ≠ b := fun e => by
  obtain ⟨o, _, _, e1, d1, _⟩ := x; obtain ⟨o', e2, _, n, d2⟩ := y
  rw [e, e2] at e1; cases e1; rw [d1] at d2; cases d2
theorem tuple_ne_list {h : Heap} {a b : Addr} {vs ws : Array Value} (x : h.IsTuple a vs) (y : h.IsList b ws) : a ≠ b := fun e => by
  obtain ⟨o, e1, c1, _⟩ := x; obtain ⟨o', e2, c2, _⟩ := y
  rw [e, e2] at e1; cases e1; rw [c1] at c2; exact absurd c2 (by decide)

/-! the locals: the list's first entry of a name counts -/
def Loc (h : Heap) (L : Addr) (l : List (Str × Value)) : Prop := ∃ m, h.Ns L m ∧ ∀ x v, l.lookup x = some v → m x = some v
theorem Loc.sub {μ : List Addr} {h h' : Heap} {L : Addr} {l : List (Str × Value)} (x : Loc h L l) (s : Sub μ h h') (n : L ∉ μ) : Loc h' L l :=
  let ⟨m, a, b⟩ := x; ⟨m, Ns.sub a s n, b⟩
theorem Loc.lt {h : Heap} {L : Addr} {l : List (Str × Value)} (x : Loc h L l) : L < h.objs.size := let ⟨_, a, _⟩ := x; a.lt
theorem Loc.ne_list {h : Heap} {L b : Addr} {l : List (Str × Value)} {vs : Array Value} (x : Loc h L l) (y : h.IsList b vs) : b ≠ L := let ⟨_, a, _⟩ := x; (ns_ne_list a y).symm
theorem Loc.ne_tuple {h : Heap} {L b : Addr} {l : List (Str × Value)} {vs : Array Value} (x : Loc h L l) (y : h.IsTuple b vs) : b ≠ L := let ⟨_, a, _⟩ := x; (ns_ne_tuple a y).symm
def AllIn (l : List (Str × Value)) : List (Str × Value) → Prop
  | [] => True
  | p :: r => l.lookup p.1 = some p.2 ∧ AllIn l r
theorem AllIn.lookup {l : List (Str × Value)} : ∀ {l' : List (Str × Value)}, AllIn l l' → ∀ x v, l'.lookup x = some v → l.lookup x = some v
  | [], _, _, _, e => by cases e
  | (y', v') :: r, k, x, v, e => by
    rw [List.lookup_cons] at e
    split at e
    · rename_i q; cases e; have := beq_iff_eq.mp q; subst this; exact k.1
    · exact k.2.lookup x v e
theorem Loc.pick {h : Heap} {L : Addr} {l l' : List (Str × Value)} (x : Loc h L l) (k : AllIn l l' := by (repeat (first | exact trivial | refine ⟨rfl, ?_⟩))) : Loc h L l' := by
  obtain ⟨m, a, b⟩ := x
  exact ⟨m, a, fun y v e => b _ _ (k.lookup y v e)⟩

section
variable {prog : Program} {w : World} {A : Around} {env : Env} {h : Heap}

theorem Tr.put {x : Str} {v : Value} {l : List (Str × Value)} {P : Unit → Heap → Prop} (hn : Loc h env.locals l)
    (k : ∀ h', Loc h' env.locals ((x, v) :: l) → Sub [env.locals] h h' → P () h')
    (hl : env.kindOf x = some .local := by rfl) (hp : (env.scope.kind == .class || (env.scope.kind == .module && env.locals != env.globals)) = false := by rfl) :
    Tr prog w A (storeName env x v) h P := by
  obtain ⟨m, a, b⟩ := hn
  refine Tr.store a (fun h' a' s => k h' ⟨_, a', fun y u e => ?_⟩ (Sub.of_same s)) hl hp
  rw [List.lookup_cons] at e
  split at e
  · rename_i q; cases e; simp [beq_iff_eq.mp q]
  · rename_i q
    have : y ≠ x := fun z => by rw [z] at q; simp at q
    simp only [if_neg this]; exact b _ _ e

/-! expressions that leave the heap as it is -/
/-- the value is v -/
def EvV (prog : Program) (w : World) (A : Around) (env : Env) (e : Expr) (h : Heap) (v : Value) : Prop := Tr prog w A (eval e env) h fun v' h' => v' = v ∧ h' = h
/-- the value is the int i -/
def EvI (prog : Program) (w : World) (A : Around) (env : Env) (e : Expr) (h : Heap) (i : Int) : Prop := Tr prog w A (eval e env) h fun v' h' => (∃ t, v' = .int i t) ∧ h' = h
/-- the test is b -/
def EvB (prog : Program) (w : World) (A : Around) (env : Env) (e : Expr) (h : Heap) (b : Bool) : Prop := Tr prog w A (isTrue e env (eval e env)) h fun b' h' => b' = b ∧ h' = h

theorem EvV.int {e : Expr} {i : Int} {t : Tok} (x : EvV prog w A env e h (.int i t)) : EvI prog w A env e h i := Tr.mono x fun _ _ y => ⟨⟨t, y.1⟩, y.2⟩

theorem EvV.name {x : Str} {p : Pos} {v : Value} {l : List (Str × Value)} (hn : Loc h env.locals l) (hv : l.lookup x = some v := by rfl)
    (hk : env.scope.kind = .function := by rfl) (hl : env.kindOf x = some .local := by rfl) (hd : (x == ("__debug__" : Str)) = false := by decide) : EvV prog w A env (.Name x p) h v := fun s Q E e hq => by
  obtain ⟨m, a, b⟩ := hn
  subst e
  exact wpAny_Name (wpAny_loadName_local hk hl a (b _ _ hv) (hq _ _ s.toks ⟨rfl, rfl⟩)) hd
theorem EvI.name {x : Str} {p : Pos} {i : Int} {t : Tok} {l : List (Str × Value)} (hn : Loc h env.locals l) (hv : l.lookup x = some (.int i t) := by rfl)
    (hk : env.scope.kind = .function := by rfl) (hl : env.kindOf x = some .local := by rfl) (hd : (x == ("__debug__" : Str)) = false := by decide) : EvI prog w A env (.Name x p) h i :=
  EvV.int (EvV.name hn hv hk hl hd)
theorem EvV.global {x : Str} {p : Pos} {v : Value} {mg : Str → Option Value} (hg : h.Ns env.globals mg) (hv : mg x = some v)
    (hk : env.scope.kind = .function := by rfl) (hl : env.kindOf x = some .globalImplicit := by rfl) (hd : (x == ("__debug__" : Str)) = false := by decide) : EvV prog w A env (.Name x p) h v := fun s Q E e hq => by
  subst e
  exact Calls.Name_function_global hk hl (Calls.loadGlobal_global hg hv (hq _ _ s.toks ⟨rfl, rfl⟩)) hd
theorem EvV.builtin {x : Str} {p : Pos} {v : Value} {mg mb : Str → Option Value} (hg : h.Ns env.globals mg) (hm : mg x = none) (hb : h.Ns env.builtins mb) (hv : mb x = some v)
    (hk : env.scope.kind = .function := by rfl) (hl : env.kindOf x = some .globalImplicit := by rfl) (hd : (x == ("__debug__" : Str)) = false := by decide) : EvV prog w A env (.Name x p) h v := fun s Q E e hq => by
  subst e
  exact Calls.Name_function_global hk hl (Calls.loadGlobal_builtin hg hm hb hv (hq _ _ s.toks ⟨rfl, rfl⟩)) hd
theorem EvV.free {x : Str} {p : Pos} {c : Addr} {v : Value} (hv : h.IsCell c (some v)) (hc : env.cells.lookup x = some c)
    (hk : env.scope.kind = .function := by rfl) (hl : env.kindOf x = some .free := by rfl) (hn : (x == ("__classdict__" : Str)) = false := by decide) (hd : (x == ("__debug__" : Str)) = false := by decide) :
    EvV prog w A env (.Name x p) h v := fun s Q E e hq => by
  subst e
  exact wpAny_Name (wpAny_loadName_free hk hl hc hv (hq _ _ s.toks ⟨rfl, rfl⟩) hn) hd
theorem EvV.cell {x : Str} {p : Pos} {c : Addr} {v : Value} (hv : h.IsCell c (some v)) (hc : env.cells.lookup x = some c)
    (hk : env.scope.kind = .function := by rfl) (hl : env.kindOf x = some .cell := by rfl) (hd : (x == ("__debug__" : Str)) = false := by decide) :
    EvV prog w A env (.Name x p) h v := fun s Q E e hq => by
  subst e
  exact wpAny_Name (wpAny_loadName_cell hk hl hc hv (hq _ _ s.toks ⟨rfl, rfl⟩)) hd
theorem EvI.lit {i : Int} {k : Nat} {p : Pos} : EvI prog w A env (.Constant (.int i) k p) h i := fun s Q E e hq => by
  subst e
  exact wpAny_Constant_int (hq _ _ _ ⟨⟨_, rfl⟩, rfl⟩)

theorem Tr.binop {l r : Expr} {op : Operator} {p : Pos} {P : Value → Heap → Prop}
    (x : Tr prog w A (eval l env) h fun a h₁ => Tr prog w A (eval r env) h₁ fun b h₂ => Tr prog w A (binaryOp op a b) h₂ P) : Tr prog w A (eval (.BinOp l op r p) env) h P :=
  fun s Q E e hq => wpAny_BinOp (x s _ E e fun a h₁ tk y => y _ _ _ rfl fun b h₂ tk z => z _ _ _ rfl hq)
theorem EvI.bin {l r : Expr} {op : Operator} {p : Pos} {i j k : Int} (x : EvI prog w A env l h i) (y : EvI prog w A env r h j)
    (o : ∀ t u, Tr prog w A (binaryOp op (.int i t) (.int j u)) h fun v' h' => (∃ t, v' = .int k t) ∧ h' = h) : EvI prog w A env (.BinOp l op r p) h k :=
  Tr.binop (Tr.mono x fun _ h' z => by obtain ⟨⟨t, rfl⟩, rfl⟩ := z; exact Tr.mono y fun _ h' z => by obtain ⟨⟨u, rfl⟩, rfl⟩ := z; exact o t u)

theorem EvI.add {l r : Expr} {p : Pos} {i j : Int} (x : EvI prog w A env l h i) (y : EvI prog w A env r h j) : EvI prog w A env (.BinOp l .Add r p) h (i + j) :=
  EvI.bin x y fun t u s Q E e hq => by subst e; exact add_int (hq _ _ _ ⟨⟨_, rfl⟩, rfl⟩)
theorem EvI.sub {l r : Expr} {p : Pos} {i j : Int} (x : EvI prog w A env l h i) (y : EvI prog w A env r h j) : EvI prog w A env (.BinOp l .Sub r p) h (i - j) :=
  EvI.bin x y fun t u s Q E e hq => by subst e; exact sub_int' (hq _ _ _ ⟨⟨_, rfl⟩, rfl⟩)
theorem EvI.mul {l r : Expr} {p : Pos} {i j : Int} (x : EvI prog w A env l h i) (y : EvI prog w A env r h j) (hm : IntMulOk i j) : EvI prog w A env (.BinOp l .Mult r p) h (i * j) :=
  EvI.bin x y fun t u s Q E e hq => by subst e; exact mul_int (hq _ _ _ ⟨⟨_, rfl⟩, rfl⟩) hm
theorem EvI.fdiv {l r : Expr} {p : Pos} {i j : Int} (x : EvI prog w A env l h i) (y : EvI prog w A env r h j) (hb : j ≠ 0) (hp : j.natAbs < 1073741824) : EvI prog w A env (.BinOp l .FloorDiv r p) h (i.fdiv j) :=
  EvI.bin x y fun t u s Q E e hq => by subst e; exact floordiv_int hb (hq _ _ _ ⟨⟨_, rfl⟩, rfl⟩) (.inl (PyProof.noPylong_small hp))
theorem EvI.fmod {l r : Expr} {p : Pos} {i j : Int} (x : EvI prog w A env l h i) (y : EvI prog w A env r h j) (hb : j ≠ 0) : EvI prog w A env (.BinOp l .Mod r p) h (i.fmod j) :=
  EvI.bin x y fun t u s Q E e hq => by subst e; exact mod_int' hb (hq _ _ _ ⟨⟨_, rfl⟩, rfl⟩)
theorem EvI.shr {l r : Expr} {p : Pos} {i j : Int} (x : EvI prog w A env l h i) (y : EvI prog w A env r h j) (hb : 0 ≤ j) : EvI prog w A env (.BinOp l .RShift r p) h (i.fdiv (2 ^ j.toNat)) :=
  EvI.bin x y fun t u s Q E e hq => by subst e; exact rshift_int hb (hq _ _ _ ⟨⟨_, rfl⟩, rfl⟩)
theorem EvI.pow {l r : Expr} {p : Pos} {i j : Int} (x : EvI prog w A env l h i) (y : EvI prog w A env r h j) (hb : 0 ≤ j) (h2 : j ≤ 1000000) (h3 : i.natAbs < 2 ^ 64) : EvI prog w A env (.BinOp l .Pow r p) h (i ^ j.toNat) :=
  EvI.bin x y fun t u s Q E e hq => by subst e; exact pow_int_small hb h2 h3 (hq _ _ _ ⟨⟨_, rfl⟩, rfl⟩)
end
end Mine

/-! part B2 -/
namespace Mine
section
variable {prog : Program} {w : World} {A : Around} {env : Env} {h : Heap}

/-! tests -/
theorem Tr.test_cmp {l r : Expr} {op : CmpOp} {p : Pos} {whole : Sem Value} {P : Bool → Heap → Prop}
    (x : Tr prog w A (eval l env) h fun a h₁ => Tr prog w A (eval r env) h₁ fun b h₂ => Tr prog w A (compareOp op a b) h₂ fun c h₃ => Tr prog w A (truthy c) h₃ P)
    (hm : behindInMarks op r = false := by with_unfolding_all rfl) : Tr prog w A (isTrue (.Compare l [op] [r] p) env whole) h P :=
  fun s Q E e hq => wpAny_isTrue_Compare1 (x s _ E e fun a h₁ tk y => y _ _ _ rfl fun b h₂ tk z => z _ _ _ rfl fun c h₃ tk u => u _ _ _ rfl hq) hm
theorem Tr.eval_cmp {l r : Expr} {op : CmpOp} {p : Pos} {P : Value → Heap → Prop}
    (x : Tr prog w A (eval l env) h fun a h₁ => Tr prog w A (eval r env) h₁ fun b h₂ => Tr prog w A (compareOp op a b) h₂ P)
    (hm : behindInMarks op r = false := by with_unfolding_all rfl) : Tr prog w A (eval (.Compare l [op] [r] p) env) h P :=
  fun s Q E e hq => wpAny_Compare1 (x s _ E e fun a h₁ tk y => y _ _ _ rfl fun b h₂ tk z => z _ _ _ rfl hq) hm
theorem Tr.truthy_bool {b : Bool} {P : Bool → Heap → Prop} (p : P b h) : Tr prog w A (truthy (.bool b)) h P :=
  fun s Q E e hq => wpAny_truthy_bool (by have := hq b h s.toks p; subst e; exact this)
theorem EvB.cmp {l r : Expr} {op : CmpOp} {p : Pos} {u v : Value} {b : Bool} (x : EvV prog w A env l h u) (y : EvV prog w A env r h v)
    (o : Tr prog w A (compareOp op u v) h fun c h' => c = .bool b ∧ h' = h) (hm : behindInMarks op r = false := by with_unfolding_all rfl) : EvB prog w A env (.Compare l [op] [r] p) h b :=
  Tr.test_cmp (Tr.mono x fun _ _ z => by
    obtain ⟨rfl, rfl⟩ := z
    exact Tr.mono y fun _ _ z => by
      obtain ⟨rfl, rfl⟩ := z
      exact Tr.mono o fun _ _ z => by obtain ⟨rfl, rfl⟩ := z; exact Tr.truthy_bool ⟨rfl, rfl⟩) hm
theorem EvB.cmpI {l r : Expr} {op : CmpOp} {p : Pos} {i j : Int} {b : Bool} (x : EvI prog w A env l h i) (y : EvI prog w A env r h j)
    (o : ∀ t u, Tr prog w A (compareOp op (.int i t) (.int j u)) h fun c h' => c = .bool b ∧ h' = h) (hm : behindInMarks op r = false := by with_unfolding_all rfl) : EvB prog w A env (.Compare l [op] [r] p) h b :=
  Tr.test_cmp (Tr.mono x fun _ _ z => by
    obtain ⟨⟨t, rfl⟩, rfl⟩ := z
    exact Tr.mono y fun _ _ z => by
      obtain ⟨⟨u, rfl⟩, rfl⟩ := z
      exact Tr.mono (o t u) fun _ _ z => by obtain ⟨rfl, rfl⟩ := z; exact Tr.truthy_bool ⟨rfl, rfl⟩) hm
theorem EvB.lt {l r : Expr} {p : Pos} {i j : Int} (x : EvI prog w A env l h i) (y : EvI prog w A env r h j) (hm : behindInMarks .Lt r = false := by with_unfolding_all rfl) : EvB prog w A env (.Compare l [.Lt] [r] p) h (decide (i < j)) :=
  EvB.cmpI x y (fun t u s Q E e hq => by subst e; exact lt_int (hq _ _ _ ⟨rfl, rfl⟩)) hm
theorem EvB.gt {l r : Expr} {p : Pos} {i j : Int} (x : EvI prog w A env l h i) (y : EvI prog w A env r h j) (hm : behindInMarks .Gt r = false := by with_unfolding_all rfl) : EvB prog w A env (.Compare l [.Gt] [r] p) h (decide (j < i)) :=
  EvB.cmpI x y (fun t u s Q E e hq => by subst e; exact gt_int (hq _ _ _ ⟨rfl, rfl⟩)) hm
theorem EvB.eq {l r : Expr} {p : Pos} {i j : Int} (x : EvI prog w A env l h i) (y : EvI prog w A env r h j) (hm : behindInMarks .Eq r = false := by with_unfolding_all rfl) : EvB prog w A env (.Compare l [.Eq] [r] p) h (i == j) :=
  EvB.cmpI x y (fun t u s Q E e hq => by subst e; exact eq_int (hq _ _ _ ⟨rfl, rfl⟩)) hm
theorem EvB.not {e : Expr} {p : Pos} {b : Bool} (x : EvB prog w A env e h b) : EvB prog w A env (.UnaryOp .Not e p) h (!b) :=
  fun s Q E e' hq => wpAny_isTrue_Not (x s _ E e' fun b' h' tk y => hq _ _ _ ⟨by rw [y.1], y.2⟩)
theorem Tr.test_not {e : Expr} {p : Pos} {whole : Sem Value} {P : Bool → Heap → Prop} (x : Tr prog w A (isTrue e env (eval e env)) h fun b h' => P (!b) h') : Tr prog w A (isTrue (.UnaryOp .Not e p) env whole) h P :=
  fun s Q E e' hq => wpAny_isTrue_Not (x s _ E e' fun b' h' tk y => hq _ _ _ y)
theorem Tr.test_and2 {a b : Expr} {p : Pos} {whole : Sem Value} {P : Bool → Heap → Prop}
    (x : Tr prog w A (isTrue a env (eval a env)) h fun c h₁ => if c then Tr prog w A (isTrue b env (eval b env)) h₁ P else P false h₁) : Tr prog w A (isTrue (.BoolOp .And [a, b] p) env whole) h P :=
  fun s Q E e hq => wpAny_isTrue_BoolOp (wpAny_allTrue_And_cons (x s _ E e fun c h₁ tk y => by
    cases c with
    | false => simp only [Bool.false_eq_true, if_false] at y ⊢; exact hq _ _ _ y
    | true =>
      simp only [if_true] at y ⊢
      exact wpAny_allTrue_And_cons (y _ _ _ rfl fun d h₂ tk z => by
        cases d with
        | false => simp only [Bool.false_eq_true, if_false]; exact hq _ _ _ z
        | true => simp only [if_true]; exact wpAny_allTrue_And_nil (hq _ _ _ z))))
theorem EvB.and2 {a b : Expr} {p : Pos} {c d : Bool} (x : EvB prog w A env a h c) (y : c = true → EvB prog w A env b h d) : EvB prog w A env (.BoolOp .And [a, b] p) h (c && d) :=
  Tr.test_and2 (Tr.mono x fun _ _ z => by
    rw [z.1, z.2]
    cases c with
    | false => simp
    | true => simpa [EvB] using y rfl)
theorem EvB.run {e : Expr} {b : Bool} {P : Bool → Heap → Prop} (x : EvB prog w A env e h b) (p : P b h) : Tr prog w A (isTrue e env (eval e env)) h P :=
  Tr.mono x fun _ _ z => by obtain ⟨rfl, rfl⟩ := z; exact p
theorem EvV.run {e : Expr} {v : Value} {P : Value → Heap → Prop} (x : EvV prog w A env e h v) (p : P v h) : Tr prog w A (eval e env) h P :=
  Tr.mono x fun _ _ z => by obtain ⟨rfl, rfl⟩ := z; exact p
theorem EvI.run {e : Expr} {i : Int} {P : Value → Heap → Prop} (x : EvI prog w A env e h i) (p : ∀ t, P (.int i t) h) : Tr prog w A (eval e env) h P :=
  Tr.mono x fun _ _ z => by obtain ⟨⟨t, rfl⟩, rfl⟩ := z; exact p t

/-! items -/
theorem Tr.sub_ {value slice : Expr} {p : Pos} {P : Value → Heap → Prop}
    (x : Tr prog w A (eval value env) h fun o h₁ => Tr prog w A (eval slice env) h₁ fun i h₂ => Tr prog w A (subscriptTail value slice o i) h₂ P) : Tr prog w A (eval (.Subscript value slice p) env) h P :=
  fun s Q E e hq => Subscript_ (x s _ E e fun a h₁ tk y => y _ _ _ rfl fun b h₂ tk z => z _ _ _ rfl hq)
theorem EvV.item {value slice : Expr} {p : Pos} {l : Addr} {items : Array Value} {k : Int} {v : Value} (x : EvV prog w A env value h (.ref l)) (y : EvI prog w A env slice h k) (hl : h.IsList l items)
    (h0 : 0 ≤ k) (hfit : k < 2 ^ 63) (hx : items[k.toNat]? = some v)
    (hs : ∀ u, subscripted slice false (.ref l) (.int k u) = operate [.ref l, .int k u] (getItem (.ref l) (.int k u)) := by intro u; with_unfolding_all rfl) : EvV prog w A env (.Subscript value slice p) h v :=
  Tr.sub_ (x.run (y.run fun t s Q E e hq => by
    subst e
    exact tail_any hl.typeIs slot_list_getitem.lookup (wpAny_getItem_list hl h0 hfit hx (hq _ _ s.toks ⟨rfl, rfl⟩)) (hs t)))
theorem EvI.item {value slice : Expr} {p : Pos} {l : Addr} {items : Array Value} {k i : Int} {t : Tok} (x : EvV prog w A env value h (.ref l)) (y : EvI prog w A env slice h k) (hl : h.IsList l items)
    (h0 : 0 ≤ k) (hfit : k < 2 ^ 63) (hx : items[k.toNat]? = some (.int i t))
    (hs : ∀ u, subscripted slice false (.ref l) (.int k u) = operate [.ref l, .int k u] (getItem (.ref l) (.int k u)) := by intro u; with_unfolding_all rfl) : EvI prog w A env (.Subscript value slice p) h i :=
  EvV.int (EvV.item x y hl h0 hfit hx hs)
theorem Tr.assign_item {o i value : Expr} {p1 p2 : Pos} {P : Flow → Heap → Prop}
    (x : Tr prog w A (eval value env) h fun v h₁ => Tr prog w A (eval o env) h₁ fun ov h₂ => Tr prog w A (eval i env) h₂ fun iv h₃ => Tr prog w A (setItem ov iv v) h₃ fun _ => P .next)
    (hs : swapsWith value (some (.Subscript o i p1)) p2.line env = pure false := by rfl) : Tr prog w A (exec (.Assign [.Subscript o i p1] value p2) env) h P :=
  fun s Q E e hq => wpAny_Assign_Subscript (x s _ E e fun a h₁ tk y => y _ _ _ rfl fun b h₂ tk z => z _ _ _ rfl fun c h₃ tk u => u _ _ _ rfl fun d h₄ tk q => hq _ _ _ q) hs
theorem Tr.setitem {l : Addr} {items : Array Value} {k : Int} {t : Tok} {v : Value} {P : Unit → Heap → Prop} (hl : h.IsList l items) (h0 : 0 ≤ k) (hfit : k < 2 ^ 63) (hn : k < items.size)
    (p : ∀ h', h'.IsList l (items.setIfInBounds k.toNat v) → Sub [l] h h' → P () h') : Tr prog w A (setItem (.ref l) (.int k t) v) h P :=
  fun s Q E e hq => by subst e; exact wpAny_setItem_list hl h0 hfit hn fun h' a b => hq _ _ _ (p h' a (Sub.of_same b))

/-! arguments -/
theorem Tr.spl_nil {P : List Value → Heap → Prop} (p : P [] h) : Tr prog w A (spliced []) h P :=
  fun s Q E e hq => Calls.spliced_nil (by have := hq [] h s.toks p; subst e; exact this)
theorem Tr.spl_cons {x : Sem Value} {rest : List (Bool × Sem Value)} {P : List Value → Heap → Prop}
    (k : Tr prog w A x h fun v h₁ => Tr prog w A (spliced rest) h₁ fun vs => P (v :: vs)) : Tr prog w A (spliced ((false, x) :: rest)) h P :=
  fun s Q E e hq => Calls.spliced_cons (k s _ E e fun a h₁ tk y => y _ _ _ rfl fun b h₂ tk z => hq _ _ _ z)
theorem Tr.spl {pos : Pos} {e : Expr} {rest : List Expr} {P : List Value → Heap → Prop}
    (k : Tr prog w A (eval e env) h fun v h₁ => Tr prog w A (spliced (backTo pos (starEach rest env))) h₁ fun vs => P (v :: vs))
    (he : backTo pos (starEach (e :: rest) env) = (false, eval e env) :: backTo pos (starEach rest env) := by rfl) : Tr prog w A (spliced (backTo pos (starEach (e :: rest) env))) h P := by
  rw [he]; exact Tr.spl_cons k
theorem Tr.spl0 {pos : Pos} {P : List Value → Heap → Prop} (p : P [] h) : Tr prog w A (spliced (backTo pos (starEach [] env))) h P := Tr.spl_nil p

/-- a def of the program's is called by its name -/
theorem Tr.call_def {x : Str} {np pos : Pos} {e0 : Expr} {args : List Expr} {a : Addr} {o : Obj} {fd : FuncData} {P : Value → Heap → Prop} (hf : EvV prog w A env (.Name x np) h (.ref a)) (hd : o.data = .func fd)
    (k : Tr prog w A (spliced (backTo pos (starEach (e0 :: args) env))) h fun vs h₁ => h₁.get? a = some o ∧ Tr prog w A (call (.ref a) vs) h₁ P)
    (he : backTo pos (starEach (e0 :: args) env) = (false, eval e0 env) :: backTo pos (starEach args env) := by rfl) :
    Tr prog w A (eval (.Call (.Name x np) (e0 :: args) [] pos) env) h P :=
  fun s Q E e hq => by
    refine wpAny_Call_NameR (hf s _ E e fun f h₁ tk y => ?_)
    obtain ⟨rfl, rfl⟩ := y
    refine Calls.callWith_function (o := o) (fd := fd) ?_
    rw [he] at k ⊢
    refine Calls.evalArgs_plain (k _ _ _ rfl fun vs h₂ tk z => ⟨⟨z.1, hd⟩, ?_⟩)
    exact z.2 _ _ _ rfl hq
/-- a built-in function -/
theorem Tr.call_blt {x : Str} {np pos : Pos} {e0 : Expr} {args : List Expr} {id : String} {P : Value → Heap → Prop} (hf : EvV prog w A env (.Name x np) h (.builtin id))
    (k : Tr prog w A (spliced (backTo pos (starEach (e0 :: args) env))) h fun vs h₁ => Tr prog w A (call (.builtin id) vs) h₁ P)
    (he : backTo pos (starEach (e0 :: args) env) = (false, eval e0 env) :: backTo pos (starEach args env) := by rfl)
    (hplain : (backTo pos (starEach (e0 :: args) env)).any (·.1) = false := by rfl) :
    Tr prog w A (eval (.Call (.Name x np) (e0 :: args) [] pos) env) h P :=
  fun s Q E e hq => by
    refine wpAny_Call_NameR (hf s _ E e fun f h₁ tk y => ?_)
    obtain ⟨rfl, rfl⟩ := y
    refine Calls.callWith_builtin hplain ?_
    rw [he] at k ⊢
    exact Calls.evalArgs_plain (k _ _ _ rfl fun vs h₂ tk z => z _ _ _ rfl hq)
/-- a built-in class -/
theorem Tr.call_type {x : Str} {np pos : Pos} {e0 : Expr} {args : List Expr} {id : String} {P : Value → Heap → Prop} (hf : EvV prog w A env (.Name x np) h (.type id))
    (k : Tr prog w A (spliced (backTo pos (starEach (e0 :: args) env))) h fun vs h₁ => Tr prog w A (call (.type id) vs) h₁ P)
    (he : backTo pos (starEach (e0 :: args) env) = (false, eval e0 env) :: backTo pos (starEach args env) := by rfl)
    (hplain : (backTo pos (starEach (e0 :: args) env)).any (·.1) = false := by rfl) :
    Tr prog w A (eval (.Call (.Name x np) (e0 :: args) [] pos) env) h P :=
  fun s Q E e hq => by
    refine wpAny_Call_NameR (hf s _ E e fun f h₁ tk y => ?_)
    obtain ⟨rfl, rfl⟩ := y
    refine PySem.callWith_type hplain ?_
    rw [he] at k ⊢
    exact Calls.evalArgs_plain (k _ _ _ rfl fun vs h₂ tk z => z _ _ _ rfl hq)
theorem Tr.len {l : Addr} {items : Array Value} {P : Value → Heap → Prop} (hl : h.IsList l items) (hfit : (items.size : Int) < 2 ^ 63) (p : ∀ t, P (.int items.size t) h) : Tr prog w A (call (.builtin "len") [.ref l]) h P :=
  fun s Q E e hq => by subst e; exact Calls.call_len_list hl hfit (hq _ _ _ (p _))
end

/-! a def of the program's, and its frame -/
def fnAt (i : Nat) (nm q : Str) (dV doc pm cd ct : Value) (an : Option Addr) : FuncData := fnOf nm q (paramsAt i) (bodyAt i) (scopeAt i) dV .none doc pm an cd ct
def IsFnD (h : Heap) (a : Addr) (i : Nat) (dV : Value) : Prop :=
  ∃ o nm q doc pm cd ct an, h.get? a = some o ∧ o.data = .func (fnAt i nm q dV doc pm cd ct an) ∧ h.CodeRec cd q
def IsFn (h : Heap) (a : Addr) (i : Nat) : Prop := IsFnD h a i .none
def envAt (i : Nat) (q : Str) (cd : Value) (L a : Addr) : Env :=
  { scope := scopeAt i, locals := L, globals := mainGlobals, cells := cellsFrom (L + 1) (scopeAt i).names [], qual := q ++ ".<locals>.", func := some a, code := cd, frame := some L, builtins := builtinsNs }
def kinds (i : Nat) (x : Str) : Option NameKind := (scopeAt i).names.lookup x
def back : Flow → Value
  | .ret v => v
  | _ => .none
theorem IsFnD.sub {h h' : Heap} {a : Addr} {i : Nat} {dV : Value} (x : IsFnD h a i dV) (s : ∀ b o, h.get? b = some o → h'.get? b = some o) : IsFnD h' a i dV := by
  obtain ⟨o, nm, q, doc, pm, cd, ct, an, e, d, c⟩ := x
  refine ⟨o, nm, q, doc, pm, cd, ct, an, s _ _ e, d, ?_⟩
  obtain ⟨c1, o1, vs, t, e1, e2, e3, e4⟩ := c
  exact ⟨c1, o1, vs, t, e1, s _ _ e2, e3, e4⟩

section
variable {prog : Program} {w : World} {A : Around} {h : Heap}
theorem Loc.of_ns {L : Addr} {m : Str → Option Value} {l : List (Str × Value)} (a : h.Ns L m) (k : ∀ p ∈ l, m p.1 = some p.2) : Loc h L l := by
  refine ⟨m, a, fun y v e => ?_⟩
  exact k (y, v) (mem_of_lookup e)

theorem Tr.enter {i : Nat} {a : Addr} {vs : List Value} {binds : List (Str × Value)} {dV : Value} {P : Value → Heap → Prop} (hf : IsFnD h a i dV) (hroom : A.depth < recursionLimit) (hlim : h.NoLimit)
    (hbind : ∀ nm q doc pm cd ct an, bindArgs (fnAt i nm q dV doc pm cd ct an) ⟨vs, []⟩ = pure binds)
    (hkind : ∀ L, ∀ x ∈ binds, (scopeAt i).names.lookup x.1 = some .local ∨ ((scopeAt i).names.lookup x.1 = some .cell ∧ ((cellsFrom (L + 1) (scopeAt i).names []).lookup x.1).isSome = true))
    (k : ∀ q cd h₀, h₀.Ns h.objs.size (bindL (kinds i) binds fun _ => none) → (∀ n c, (cellsFrom (h.objs.size + 1) (scopeAt i).names []).lookup n = some c → h₀.IsCell c (bindC (kinds i) binds (fun _ => none) n)) → Sub [] h h₀ →
      Tr prog w (A.deeper (envAt i q cd h.objs.size a)) (execs (bodyAt i) (envAt i q cd h.objs.size a)) h₀ fun f h' => P (back f) h')
    (hco : (scopeAt i).isCoroutine = false := by rfl) (hgen : (scopeAt i).isGenerator = false := by rfl) (hk : (scopeAt i).kind = .function := by rfl) :
    Tr prog w A (call (.ref a) vs) h P := fun s Q E e hq => by
  subst e
  obtain ⟨o, nm, q, doc, pm, cd, ct, an, ho, hd, hc⟩ := hf
  refine wpAny_call (codeAny_call_cells (fd := fnAt i nm q dV doc pm cd ct an) (body := bodyAt i) (binds := binds) hroom ho hd hlim hc rfl (hbind _ _ _ _ _ _ _) rfl (hkind _) (fun s₁ x => ?_) hco hgen hk)
  have x1 := x.toInCall.same
  obtain ⟨h₀, tk, rfl⟩ := x1
  refine wpAny_mono (k q cd h₀ x.toInCall.ns (fun n c hl => x.cell n c hl) (Sub.of_all x.toInCall.keep) _ _ (fun _ _ => False) rfl (fun f h' tk' p => ?_)) (fun f s' p => p) (fun _ _ p => p.elim)
  have := hq (back f) h' tk' p
  cases f <;> exact this
end
end Mine

/-! part B3 -/
namespace Mine

/-- a list that the call has made, plain -/
def Lst (h : Heap) (a : Addr) (vs : List Value) : Prop := ∃ n, IsL h a vs.toArray n
theorem Lst.isList {h : Heap} {a : Addr} {vs : List Value} (x : Lst h a vs) : h.IsList a vs.toArray := let ⟨n, e⟩ := x; IsL.isList e
theorem Lst.sub {μ : List Addr} {h h' : Heap} {a : Addr} {vs : List Value} (x : Lst h a vs) (s : Sub μ h h') (n : a ∉ μ) : Lst h' a vs := let ⟨k, e⟩ := x; ⟨k, s a _ n e⟩
theorem Lst.lt {h : Heap} {a : Addr} {vs : List Value} (x : Lst h a vs) : a < h.objs.size := IsList.lt x.isList
theorem Lst.get {h : Heap} {a : Addr} {vs : List Value} (x : Lst h a vs) : ∃ o, h.get? a = some o := let ⟨_, e⟩ := x; ⟨_, e⟩
theorem Lst.typeIs {s : Shared} {a : Addr} {vs : List Value} (x : Lst s.heap a vs) : s.TypeIs (.ref a) "list" := x.isList.typeIs
theorem Lst.upd {h : Heap} {a : Addr} {vs : List Value} (x : Lst h a vs) (f : Array Value → Array Value) {ws : List Value} (e : f vs.toArray = ws.toArray) : Lst (h.update a (Obj.mapSeq f)) a ws :=
  let ⟨n, q⟩ := x; ⟨_, e ▸ IsL.update q f⟩
theorem Lst.uniq {h : Heap} {a : Addr} {vs ws : List Value} (x : Lst h a vs) (y : Lst h a ws) : vs = ws := by
  have := IsList.uniq x.isList y.isList
  simpa using congrArg Array.toList this
theorem Loc.ne {h : Heap} {L b : Addr} {l : List (Str × Value)} {vs : List Value} (x : Loc h L l) (y : Lst h b vs) : b ≠ L := x.ne_list y.isList

section
variable {prog : Program} {w : World} {A : Around} {env : Env} {h : Heap}

theorem Tr.newlist {vs : List Value} {P : Value → Heap → Prop} (p : ∀ h', Lst h' h.objs.size vs → Sub [] h h' → P (.ref h.objs.size) h') (hsz : vs.length ≤ sizeLine) : Tr prog w A (newList vs) h P :=
  fun s Q E e hq => by
    subst e
    exact wpAny_newObj_type (hq _ _ _ (p _ ⟨0, IsL.new s.heap vs.toArray⟩ (Sub.push _))) (by show vs.toArray.size ≤ sizeLine; rw [List.size_toArray]; exact hsz)
theorem Tr.newtuple {vs : List Value} {P : Value → Heap → Prop} (p : ∀ h', h'.IsTuple h.objs.size vs.toArray → Sub [] h h' → P (.ref h.objs.size) h') (hsz : vs.length ≤ sizeLine) : Tr prog w A (newTuple vs) h P :=
  fun s Q E e hq => by
    subst e
    exact wpAny_newObj_type (hq _ _ _ (p _ ⟨_, Heap.get?_push_size _ rfl, rfl, 0, rfl⟩ (Sub.push _))) (by show vs.toArray.size ≤ sizeLine; rw [List.size_toArray]; exact hsz)
theorem Tr.list_disp {elts : List Expr} {p : Pos} {P : Value → Heap → Prop} (x : Tr prog w A (spliced (backTo p (starEach elts env))) h fun vs h₁ => Tr prog w A (newList vs) h₁ P) : Tr prog w A (eval (.List elts p) env) h P :=
  fun s Q E e hq => List_ (x s _ E e fun a h₁ tk y => y _ _ _ rfl hq)
theorem Tr.tuple_disp {elts : List Expr} {k : Nat} {p : Pos} {P : Value → Heap → Prop} (x : Tr prog w A (spliced (backTo p (starEach elts env))) h fun vs h₁ => Tr prog w A (newTuple vs) h₁ P) : Tr prog w A (eval (.Tuple elts k p) env) h P :=
  fun s Q E e hq => Tuple_ (x s _ E e fun a h₁ tk y => y _ _ _ rfl hq)

/-- item k of a plain list is stored -/
theorem setItem_plain {s : Shared} {E : Value → Shared → Prop} {l : Addr} {vs : List Value} {k : Int} {t : Tok} {v : Value} {Q : Unit → Shared → Prop} (hl : Lst s.heap l vs) (h0 : 0 ≤ k) (hfit : k < 2 ^ 63) (hn : k < vs.length)
    (hQ : Q () { s with heap := s.heap.update l (Obj.mapSeq (·.setIfInBounds k.toNat v)) }) : wpAny (model prog w) A (setItem (.ref l) (.int k t) v) Q E s := by
  have hl' := hl.isList
  obtain ⟨o, ho, hc, ne, hd⟩ := id hl'
  unfold setItem
  try with_reducible refine wpAny_holding ?_
  first | refine wpAny_bind (wpAny_pure ?_) | skip
  refine wpAny_bind (wpAny_sequenceKey hl'.typeIs (by decide) ?_)
  refine wpAny_bind (wpAny_callSpecial?_slot (name := Str.ofString "__setitem__") hl'.typeIs slot_list_setitem
    (wpAny_call_entry slot_list_setitem hl'.typeIs entry_list_setitem ?_ (args_list_setitem _ _ _)))
  show wpAny _ _ (Builtin.List.listSubscript? (.int k t) >>= _) _ _ s
  refine wpAny_bind (wpAny_listSubscript_int (fitsIndex_of h0 hfit) ?_)
  clear hfit
  obtain ⟨j, rfl⟩ := Int.eq_ofNat_of_zero_le h0
  have hj : j < vs.toArray.size := by simpa using hn
  have hx' : vs.toArray[j]? = some vs.toArray[j] := Array.getElem?_eq_getElem hj
  show wpAny _ _ ((seqItemAt l j >>= fun r => pure (r.map (j, ·))) >>= _) _ _ s
  refine wpAny_bind (wpAny_bind (wpAny_seqItemAt ho hd (wpAny_pure ?_)))
  rw [hx']
  show wpAny _ _ (setSeqItemAt l j v >>= _) _ _ s
  refine wpAny_bind (wpAny_setSeqItemAt ho hd ?_)
  first
    | exact wpAny_bind (wpAny_pure (wpAny_pure ⟨.none, rfl, wpAny_pure hQ⟩))
    | exact wpAny_pure ⟨.none, rfl, wpAny_pure hQ⟩
theorem Tr.setL {l : Addr} {vs : List Value} {k : Nat} {i : Int} {t : Tok} {v : Value} {P : Unit → Heap → Prop} (hl : Lst h l vs) (hi : i = k) (hn : k < vs.length) (hz : vs.length ≤ sizeLine)
    (p : ∀ h', Lst h' l (vs.set k v) → Sub [l] h h' → P () h') : Tr prog w A (setItem (.ref l) (.int i t) v) h P :=
  fun s Q E e hq => by
    subst e; subst hi
    have hs : sizeLine = 16777216 := by decide
    refine setItem_plain hl (by omega) (by omega) (by omega) (hq _ _ s.toks (p _ (hl.upd _ (by simp)) (Sub.of_same (Heap.SameBut.update ..))))

/-- a list's method -/
theorem Tr.method {o : Expr} {name : Str} {apos pos : Pos} {args : List Expr} {l : Addr} {vs : List Value} {id : String} {P : Value → Heap → Prop} (x : EvV prog w A env o h (.ref l)) (hl : Lst h l vs)
    (slot : Slot "list" name id) (hty : typeOf (.builtin id) = pure (.type "method_descriptor"))
    (k : Tr prog w A (callWith pos (.builtin id) [.ref l] (backTo pos (starEach args env)) []) h P)
    (hbase : attributeBase o name env (eval o env) = eval o env := by rfl)
    (hfew : ((backTo pos (starEach args env)).all (fun x => !x.1) && (backToKw pos (keywordEach [] env)).all (fun x => x.1.isSome)
      && decide (args.length + ([] : List Keyword).length + (if ([] : List Keyword).isEmpty then 0 else 1) < 30)) = true := by rfl)
    (hline : (apos.endLine == pos.line) = true := by rfl) : Tr prog w A (eval (.Call (.Attribute o name apos) args [] pos) env) h P :=
  fun s Q E e hq => by
    refine wpAny_Call_method_late hbase hfew hline rfl (x s _ E e fun v h₁ tk y => ?_)
    obtain ⟨rfl, rfl⟩ := y
    refine ⟨"list", id, F.plainAttrs_list, slot, hty, ⟨_, hl.isList.choose_spec.1, hl.isList.choose_spec.2.1⟩, fun a ea => ?_, k _ _ _ rfl hq⟩
    cases ea
    obtain ⟨n, q⟩ := hl
    exact ⟨_, q, rfl⟩
theorem Tr.cw0 {pos : Pos} {id : String} {first : List Value} {P : Value → Heap → Prop} (k : Tr prog w A (call (.builtin id) (first ++ [])) h P) : Tr prog w A (callWith pos (.builtin id) first (backTo pos (starEach [] env)) []) h P :=
  fun s Q E e hq => Calls.callWith_builtin rfl (evalArgs_nil3 (k s _ E e hq))
theorem Tr.cw1 {pos : Pos} {id : String} {first : List Value} {e0 : Expr} {P : Value → Heap → Prop} (k : Tr prog w A (eval e0 env) h fun v h₁ => Tr prog w A (call (.builtin id) (first ++ [v])) h₁ P)
    (he : backTo pos (starEach [e0] env) = [(false, eval e0 env)] := by rfl) : Tr prog w A (callWith pos (.builtin id) first (backTo pos (starEach [e0] env)) []) h P :=
  fun s Q E e hq => by
    rw [he]
    exact Calls.callWith_builtin rfl (Calls.evalArgs_plain (Calls.spliced_cons (k s _ E e fun v h₁ tk y => Calls.spliced_nil (y _ _ _ rfl hq))))
theorem Tr.append_call {l : Addr} {vs : List Value} {v : Value} {P : Value → Heap → Prop} (hl : Lst h l vs) (hz : vs.length ≤ sizeLine) (p : ∀ h', Lst h' l (vs ++ [v]) → Sub [l] h h' → P .none h') :
    Tr prog w A (call (.builtin "list.append") [.ref l, v]) h P :=
  fun s Q E e hq => by
    subst e
    obtain ⟨n, q⟩ := hl
    exact call_meets F.slot_list_append ⟨_, q, rfl⟩ F.entry_list_append (F.args_list_append_2 _ _) (PySem.list_append l vs.toArray n v (by simpa using hz)) ⟨q, hq _ _ s.toks (p _ (Lst.upd ⟨n, q⟩ _ (by simp)) (Sub.of_same (Heap.SameBut.update ..)))⟩
theorem Tr.append {o e0 : Expr} {apos pos : Pos} {l : Addr} {vs : List Value} {P : Value → Heap → Prop} (x : EvV prog w A env o h (.ref l)) (hl : Lst h l vs)
    (k : Tr prog w A (eval e0 env) h fun v h₁ => Tr prog w A (call (.builtin "list.append") [.ref l, v]) h₁ P)
    (he : backTo pos (starEach [e0] env) = [(false, eval e0 env)] := by rfl)
    (hbase : attributeBase o "append" env (eval o env) = eval o env := by rfl)
    (hfew : ((backTo pos (starEach [e0] env)).all (fun x => !x.1) && (backToKw pos (keywordEach [] env)).all (fun x => x.1.isSome)
      && decide ([e0].length + ([] : List Keyword).length + (if ([] : List Keyword).isEmpty then 0 else 1) < 30)) = true := by rfl)
    (hline : (apos.endLine == pos.line) = true := by rfl) : Tr prog w A (eval (.Call (.Attribute o "append" apos) [e0] [] pos) env) h P :=
  Tr.method x hl F.slot_list_append F.type_list_append (Tr.cw1 k he) hbase hfew hline
theorem Tr.pop {o : Expr} {apos pos : Pos} {l : Addr} {vs : List Value} {v : Value} {P : Value → Heap → Prop} (x : EvV prog w A env o h (.ref l)) (hl : Lst h l (vs ++ [v])) (hz : vs.length < sizeLine)
    (p : ∀ h', Lst h' l vs → Sub [l] h h' → P v h')
    (hbase : attributeBase o "pop" env (eval o env) = eval o env := by rfl)
    (hline : (apos.endLine == pos.line) = true := by rfl) : Tr prog w A (eval (.Call (.Attribute o "pop" apos) [] [] pos) env) h P :=
  Tr.method x hl F.slot_list_pop F.type_list_pop (Tr.cw0 fun s Q E e hq => by
    subst e
    obtain ⟨n, q⟩ := hl
    refine call_meets F.slot_list_pop ⟨_, q, rfl⟩ F.entry_list_pop (F.args_list_pop_1 _) (MeetsSeq.list_pop_last l (vs ++ [v]).toArray n v (by simp) (by simp; omega)) ⟨q, hq _ _ s.toks (p _ (Lst.upd ⟨n, q⟩ _ ?_) (Sub.of_same (Heap.SameBut.update ..)))⟩
    apply Array.toList_inj.mp
    have : (vs ++ [v]).eraseIdx vs.length = vs := by rw [List.eraseIdx_append_of_length_le (Nat.le_refl _)]; simp
    simpa [Array.toList_eraseIdxIfInBounds] using this) hbase rfl hline
end
end Mine

/-! part B4 -/
namespace Mine

/-- the values are these ints -/
def Ints (vs : List Value) (ns : List Int) : Prop := vs.length = ns.length ∧ ∀ (i : Nat) (v : Value) (n : Int), vs[i]? = some v → ns[i]? = some n → ∃ t, v = Value.int n t
theorem Ints.nil : Ints [] [] := ⟨rfl, fun _ _ _ e => by simp at e⟩
theorem Ints.cons {v : Value} {n : Int} {t : Tok} {vs : List Value} {ns : List Int} (e : v = .int n t) (x : Ints vs ns) : Ints (v :: vs) (n :: ns) := by
  refine ⟨by simp [x.1], fun i u k h1 h2 => ?_⟩
  cases i with
  | zero => simp at h1 h2; subst h1 h2; exact ⟨t, e⟩
  | succ i => exact x.2 i u k (by simpa using h1) (by simpa using h2)
theorem Ints.get {vs : List Value} {ns : List Int} (x : Ints vs ns) {i : Nat} {n : Int} (e : ns[i]? = some n) : ∃ t, vs[i]? = some (.int n t) := by
  have hi : i < vs.length := by rw [x.1]; exact (List.getElem?_eq_some_iff.mp e).1
  obtain ⟨t, et⟩ := x.2 i vs[i] n (by simp [hi]) e
  exact ⟨t, by simp [hi, et]⟩
theorem Ints.snoc {v : Value} {n : Int} {t : Tok} {vs : List Value} {ns : List Int} (x : Ints vs ns) (e : v = .int n t) : Ints (vs ++ [v]) (ns ++ [n]) := by
  refine ⟨by simp [x.1], fun i u k h1 h2 => ?_⟩
  rcases Nat.lt_or_ge i vs.length with hl | hl
  · rw [List.getElem?_append_left hl] at h1
    rw [List.getElem?_append_left (x.1 ▸ hl)] at h2
    exact x.2 i u k h1 h2
  · rw [List.getElem?_append_right hl] at h1
    rw [List.getElem?_append_right (x.1 ▸ hl), ← x.1] at h2
    cases h : i - vs.length with
    | zero => rw [h] at h1 h2; simp at h1 h2; subst h1 h2; exact ⟨t, e⟩
    | succ j => rw [h] at h1; simp at h1

/-- the order of tuples of ints -/
def lexLt : List Int → List Int → Bool
  | [], [] => false
  | [], _ :: _ => true
  | _ :: _, [] => false
  | x :: xs, y :: ys => if x = y then lexLt xs ys else decide (x < y)

open MeetsSeq MeetsSeq2 MeetsSeq3 SeqRoads2 SeqAt in
theorem tuple_ltAt (l b : Addr) (items items2 : Array Value) (n n2 : Nat) (dd dd2 : Option Addr) (sl sl2 : Array (Option Value)) (ns ks : List Int) (hx : Ints items.toList ns) (hy : Ints items2.toList ks) (hlen : ns.length = ks.length) :
    Meets (Builtin.«tuple.__lt__» ⟨[.ref l, .ref b], []⟩)
      (fun A R s => s.heap.get? l = some { cls := .type "tuple", dict := dd, data := .seq items n, slots := sl } ∧ s.heap.get? b = some { cls := .type "tuple", dict := dd2, data := .seq items2 n2, slots := sl2 } ∧
        R (.ok (.ret (.bool (lexLt ns ks)))) s) :=
  .of_wp fun prog w A R s h => by
    obtain ⟨hp, g, d, tk, os⟩ := s; obtain ⟨hl, hb, h⟩ := h
    have f2 := AutoSeq1.sub_tuple_tuple
    have hZ : (items.toList.zip items2.toList).length = min items.size items2.size := by simp
    wp_walk using AutoSeq1.wpAny_loadPart' hl, AutoSeq1.wpAny_loadPart' hb, wpAny_forIn_list _ (fun rest b s' => b.1 = none ∧ s' = ⟨hp, g, d, tk, os⟩ ∧ ∃ i, rest = (items.toList.zip items2.toList).drop i ∧
      R (.ok (.ret (.bool (lexLt (ns.drop i) (ks.drop i))))) ⟨hp, g, d, tk, os⟩) _
    case turn =>
      rintro ⟨y, x⟩ rest b s' ⟨hb', rfl, i, hz, hR⟩
      have hlt : i < (items.toList.zip items2.toList).length := by
        rcases Nat.lt_or_ge i (items.toList.zip items2.toList).length with h' | h'
        · exact h'
        · rw [List.drop_of_length_le h'] at hz; cases hz
      have hm : i < min items.size items2.size := hZ ▸ hlt
      have h1 : i < items.size := Nat.lt_of_lt_of_le hm (Nat.min_le_left _ _)
      have h2 : i < items2.size := Nat.lt_of_lt_of_le hm (Nat.min_le_right _ _)
      rw [List.drop_eq_getElem_cons hlt] at hz
      injection hz with hyx hrest
      have hy' : y = items[i] := by have := congrArg Prod.fst hyx; simpa using this
      have hx' : x = items2[i] := by have := congrArg Prod.snd hyx; simpa using this
      have l1 : i < ns.length := by rw [← hx.1]; simpa using h1
      have l2 : i < ks.length := by rw [← hy.1]; simpa using h2
      obtain ⟨t, e1⟩ := hx.2 i y ns[i] (by simp [hy', h1]) (by simp [l1])
      obtain ⟨u, e2⟩ := hy.2 i x ks[i] (by simp [hx', h2]) (by simp [l2])
      rw [List.drop_eq_getElem_cons l1, List.drop_eq_getElem_cons l2, lexLt] at hR
      rw [e1, e2]
      refine wpAny_bind (EqAt.int_int _ _ _ _ prog w _ _ ?_)
      by_cases hq : ns[i] = ks[i]
      · rw [if_pos hq] at hR
        rw [beq_iff_eq.mpr hq]
        wp_walk
        exact ⟨rfl, rfl, i + 1, hrest, hR⟩
      · rw [if_neg hq] at hR
        rw [beq_eq_false_iff_ne.mpr hq]
        simp only [Bool.not_false, if_true]
        refine wpAny_bind (wpAny_rule (wpAny_bind ?_))
        exact PyProof.Rows.lt_int (wpAny_bind (wpAny_pure (wpAny_pure (wpAny_pure ⟨_, rfl, hR⟩))))
    case fin =>
      rintro ⟨b1, b2⟩ s' ⟨hb', rfl, i, hz, hR⟩
      simp only at hb'
      subst hb'
      have hge : min items.size items2.size ≤ i := by
        rcases Nat.lt_or_ge i (items.toList.zip items2.toList).length with h' | h'
        · rw [List.drop_eq_getElem_cons h'] at hz; cases hz
        · exact hZ ▸ h'
      have e1 : items.size = ns.length := by rw [← hx.1]; simp
      have e2 : items2.size = ks.length := by rw [← hy.1]; simp
      rw [List.drop_of_length_le (by omega), List.drop_of_length_le (by omega)] at hR
      refine wpAny_pure ⟨_, rfl, ?_⟩
      have e3 : Builtin.Tuple.tupleCompareSizes CmpOp.Lt items.size items2.size = .bool false := by simp [Builtin.Tuple.tupleCompareSizes, e1, e2, hlen]
      rw [e3]; exact hR
    case h =>
      exact ⟨rfl, rfl, 0, rfl, by simpa using h⟩

/-- v is a tuple of these ints -/
def Tup (h : Heap) (v : Value) (ns : List Int) : Prop := ∃ a vs, v = .ref a ∧ h.IsTuple a vs.toArray ∧ Ints vs ns
theorem Tup.sub {μ : List Addr} {h h' : Heap} {v : Value} {ns : List Int} (x : Tup h v ns) (s : Sub μ h h') (n : ∀ a ∈ μ, ∀ vs, ¬ h.IsTuple a vs) : Tup h' v ns := by
  obtain ⟨a, vs, e, t, i⟩ := x
  exact ⟨a, vs, e, IsTuple.sub t s (fun q => n a q _ t), i⟩
theorem Tup.sub0 {h h' : Heap} {v : Value} {ns : List Int} (x : Tup h v ns) (s : Sub [] h h') : Tup h' v ns := x.sub s (by simp)
theorem Tup.subL {l : Addr} {vs : List Value} {h h' : Heap} {v : Value} {ns : List Int} (x : Tup h v ns) (s : Sub [l] h h') (hl : Lst h l vs) : Tup h' v ns :=
  x.sub s (by simp; intro ws q; exact tuple_ne_list q hl.isList rfl)

section
variable {prog : Program} {w : World} {A : Around} {env : Env} {h : Heap}
theorem Tr.lt_tup {u v : Value} {ns ks : List Int} {P : Value → Heap → Prop} (x : Tup h u ns) (y : Tup h v ks) (hlen : ns.length = ks.length) (hu : A.units < cLine) (p : P (.bool (lexLt ns ks)) h) : Tr prog w A (compareOp .Lt u v) h P :=
  fun s Q E e hq => by
    subst e
    obtain ⟨a, vs, rfl, ⟨⟨c1, d1, da1, s1⟩, ho1, hc1, n1, hd1⟩, i1⟩ := x
    obtain ⟨b, ws, rfl, ⟨⟨c2, d2, da2, s2⟩, ho2, hc2, n2, hd2⟩, i2⟩ := y
    simp only at hc1 hd1 hc2 hd2
    subst hc1 hd1 hc2 hd2
    exact richCompare_meets_room (op := .Lt) ⟨_, ho1, rfl⟩ ⟨_, ho2, rfl⟩ F.slot_tuple_lt F.entry_tuple_lt (F.args_tuple_lt_2 _ _) (tuple_ltAt a b vs.toArray ws.toArray n1 n2 d1 d2 s1 s2 ns ks (by simpa using i1) (by simpa using i2) hlen)
      ⟨ho1, ho2, show Value.bool (lexLt ns ks) ≠ Value.notImplemented ∧ Q (.bool (lexLt ns ks)) s from ⟨(fun x => nomatch x), hq _ _ s.toks p⟩⟩ hu
theorem EvB.lt_tup {l r : Expr} {p : Pos} {u v : Value} {ns ks : List Int} (x : EvV prog w A env l h u) (y : EvV prog w A env r h v) (tx : Tup h u ns) (ty : Tup h v ks) (hlen : ns.length = ks.length) (hu : A.units < cLine)
    (hm : behindInMarks .Lt r = false := by with_unfolding_all rfl) : EvB prog w A env (.Compare l [.Lt] [r] p) h (lexLt ns ks) :=
  EvB.cmp x y (Tr.lt_tup tx ty hlen hu ⟨rfl, rfl⟩) hm
end
end Mine

/-! part C1 -/
namespace Mine

/-- what _siftdown makes of the list: x sinks from pos towards the front -/
def sdn (κ : Value → List Int) (x : Value) (pos : Nat) (vs : List Value) : List Value :=
  if h : pos = 0 then vs.set 0 x
  else if lexLt (κ x) (κ (vs.getD ((pos - 1) / 2) .none)) then sdn κ x ((pos - 1) / 2) (vs.set pos (vs.getD ((pos - 1) / 2) .none))
  else vs.set pos x
termination_by pos
decreasing_by omega

theorem shr1 {pos : Nat} (h : pos ≠ 0) : ((pos : Int) - 1).fdiv (2 ^ (1 : Int).toNat) = (((pos - 1) / 2 : Nat) : Int) := by
  rw [Int.fdiv_eq_ediv_of_nonneg _ (by decide)]
  have : (2 : Int) ^ (1 : Int).toNat = 2 := by decide
  rw [this]; omega
theorem getA {us : List Value} {k : Nat} {y : Value} (e : us[k]? = some y) : us.toArray[((k : Nat) : Int).toNat]? = some y := by rw [Int.toNat_natCast]; simpa using e
theorem szL : sizeLine = 16777216 := by decide
/-- the values' keys -/
def Keys (h : Heap) (κ : Value → List Int) (vs : List Value) : Prop := ∀ v ∈ vs, Tup h v (κ v) ∧ (κ v).length = 3
theorem Keys.subL {l : Addr} {us : List Value} {h h' : Heap} {κ : Value → List Int} {vs : List Value} (x : Keys h κ vs) (s : Sub [l] h h') (hl : Lst h l us) : Keys h' κ vs := fun v m => ⟨(x v m).1.subL s hl, (x v m).2⟩
theorem Keys.sub0 {h h' : Heap} {κ : Value → List Int} {vs : List Value} (x : Keys h κ vs) (s : Sub [] h h') : Keys h' κ vs := fun v m => ⟨(x v m).1.sub0 s, (x v m).2⟩
theorem Keys.mono {h : Heap} {κ : Value → List Int} {vs ws : List Value} (x : Keys h κ vs) (k : ∀ v ∈ ws, v ∈ vs) : Keys h κ ws := fun v m => x v (k v m)
theorem Keys.subLoc {L : Addr} {l : List (Str × Value)} {h h' : Heap} {κ : Value → List Int} {vs : List Value} (x : Keys h κ vs) (s : Sub [L] h h') (hl : Loc h L l) : Keys h' κ vs :=
  fun v m => ⟨(x v m).1.sub s (by simp; intro ws q; exact hl.ne_tuple q rfl), (x v m).2⟩
theorem Sub.cons {a : Addr} {μ : List Addr} {h h' : Heap} (x : Sub μ h h') : Sub (a :: μ) h h' := x.mono fun _ m => .tail _ m
theorem Sub.one {a : Addr} {μ : List Addr} {h h' : Heap} (x : Sub [a] h h') (m : a ∈ μ) : Sub μ h h' := x.mono fun b hb => by simp at hb; exact hb ▸ m

section
variable {prog : Program} {w : World} {A : Around} {h : Heap}

theorem Tr.putA {i : Nat} {q : Str} {cd : Value} {L a : Addr} {x : Str} {v : Value} {l : List (Str × Value)} {P : Unit → Heap → Prop} (hn : Loc h L l)
    (k : ∀ h', Loc h' L ((x, v) :: l) → Sub [L] h h' → P () h') (hl : (scopeAt i).names.lookup x = some .local := by rfl)
    (hp : ((scopeAt i).kind == .class || ((scopeAt i).kind == .module && L != mainGlobals)) = false := by rfl) : Tr prog w A (storeName (envAt i q cd L a) x v) h P :=
  Tr.put (env := envAt i q cd L a) hn k hl hp

theorem siftdown_body {q : Str} {cd : Value} {L a hp : Addr} {vs : List Value} {pos : Nat} {t0 tp : Tok} {κ : Value → List Int} (hu : A.units < cLine)
    (hl : Loc h L [("heap", .ref hp), ("startpos", .int 0 t0), ("pos", .int pos tp)]) (hh : Lst h hp vs) (hk : Keys h κ vs) (hp1 : pos < vs.length) (hz : vs.length ≤ sizeLine) :
    Tr prog w A (execs (bodyAt 9) (envAt 9 q cd L a)) h fun f h' => (∃ x, vs[pos]? = some x ∧ Lst h' hp (sdn κ x pos vs)) ∧ Sub [L, hp] h h' := by
  obtain ⟨x, hx⟩ : ∃ x, vs[pos]? = some x := ⟨vs[pos], by simp [hp1]⟩
  have hzL := szL
  have hmx : x ∈ vs := List.mem_of_getElem? hx
  refine Tr.execs_cons (Tr.assign_name (EvV.run (EvV.item (EvV.name hl) (EvI.name hl) hh.isList (by omega) (by omega) (by simpa using hx)) ?_))
  refine Tr.putA hl fun h₁ hl₁ s₁ => ?_
  have hh₁ := hh.sub s₁ (by simpa using hl.ne hh)
  have hk₁ := hk.subLoc s₁ hl
  have s₁' : Sub [L, hp] h h₁ := s₁.one (by simp)
  refine Tr.execs_cons ?_
  refine Tr.while_ (fun n h' => ∃ us t, Loc h' L [("heap", .ref hp), ("startpos", .int 0 t0), ("pos", .int n t), ("newitem", x)] ∧ Lst h' hp us ∧ (∀ v ∈ us, v ∈ vs) ∧ us.length = vs.length ∧ n < us.length ∧ Keys h' κ vs ∧ Sub [L, hp] h h' ∧ sdn κ x n us = sdn κ x pos vs)
    ?_ pos ⟨vs, tp, hl₁.pick, hh₁, fun _ m => m, rfl, hp1, hk₁, s₁', rfl⟩
  rintro n h₂ ⟨us, t, hl₂, hh₂, hm₂, hn₂, hlt, hk₂, s₂, he⟩
  refine EvB.run (EvB.gt (EvI.name hl₂) (EvI.name hl₂)) ?_
  have fin : ∀ (h₃ : Heap) (us : List Value) (n : Nat) (t : Tok) (l : List (Str × Value)), Loc h₃ L l → AllIn l [("heap", .ref hp), ("pos", .int n t), ("newitem", x)] → Lst h₃ hp us → us.length = vs.length → n < us.length → Sub [L, hp] h h₃ → us.set n x = sdn κ x pos vs →
      Tr prog w A (execs ((bodyAt 9).drop 2) (envAt 9 q cd L a)) h₃ fun f h' => (∃ x, vs[pos]? = some x ∧ Lst h' hp (sdn κ x pos vs)) ∧ Sub [L, hp] h h' := by
    intro h₃ us n t l hl₃ ha hh₃ hn₃ hlt₃ s₃ e₃
    have hl₃ := hl₃.pick ha
    refine Tr.execs_cons (Tr.assign_item (EvV.run (EvV.name hl₃) (EvV.run (EvV.name hl₃) (EvI.run (EvI.name hl₃) fun t => ?_))))
    refine Tr.setL hh₃ rfl hlt₃ (by omega) fun h₄ hh₄ s₄ => Tr.execs_nil ⟨⟨x, hx, e₃ ▸ hh₄⟩, s₃.trans (s₄.one (by simp))⟩
  by_cases h0 : n = 0
  · subst h0
    simp only [Int.ofNat_zero, Int.lt_irrefl, decide_false, Bool.false_eq_true, if_false]
    exact fin h₂ us 0 t _ hl₂ (by (repeat (first | exact trivial | refine ⟨rfl, ?_⟩))) hh₂ hn₂ hlt s₂ (by rw [← he, sdn]; simp)
  · have : (0 : Int) < n := by omega
    simp only [this, decide_true, if_true]
    refine Tr.execs_cons (Tr.assign_name (EvI.run (EvI.shr (EvI.sub (EvI.name hl₂) EvI.lit) EvI.lit (by decide)) fun t3 => ?_))
    rw [shr1 h0]
    refine Tr.putA hl₂ fun h₃ hl₃ s₃ => ?_
    have hh₃ := hh₂.sub s₃ (by simpa using hl₂.ne hh₂)
    have hk₃ := hk₂.subLoc s₃ hl₂
    have hpp : (n - 1) / 2 < us.length := by omega
    obtain ⟨y, hy⟩ : ∃ y, us[(n - 1) / 2]? = some y := ⟨us[(n - 1) / 2], by simp [hpp]⟩
    have hyd : us.getD ((n - 1) / 2) .none = y := by simp [List.getD, hy]
    have hmy : y ∈ vs := hm₂ _ (List.mem_of_getElem? hy)
    refine Tr.execs_cons (Tr.assign_name (EvV.run (EvV.item (EvV.name hl₃) (EvI.name hl₃) hh₃.isList (by omega) (by omega) (getA hy)) ?_))
    refine Tr.putA hl₃ fun h₄ hl₄ s₄ => ?_
    have hh₄ := hh₃.sub s₄ (by simpa using hl₃.ne hh₃)
    have hk₄ := hk₃.subLoc s₄ hl₃
    have s₂₄ : Sub [L, hp] h h₄ := (s₂.trans (s₃.one (by simp))).trans (s₄.one (by simp))
    refine Tr.execs_cons (Tr.ite (EvB.run (EvB.lt_tup (EvV.name hl₄) (EvV.name hl₄) (hk₄ x hmx).1 (hk₄ y hmy).1 (by rw [(hk₄ x hmx).2, (hk₄ y hmy).2]) hu) ?_))
    rw [sdn, dif_neg h0, hyd] at he
    by_cases hc : lexLt (κ x) (κ y) = true
    · rw [if_pos hc] at he
      rw [if_pos hc]
      refine Tr.execs_cons (Tr.assign_item (EvV.run (EvV.name hl₄) (EvV.run (EvV.name hl₄) (EvI.run (EvI.name hl₄) fun t => ?_))))
      refine Tr.setL hh₄ rfl hlt (by omega) fun h₅ hh₅ s₅ => ?_
      have hl₅ := hl₄.sub s₅ (by simpa using (hl₄.ne hh₄).symm)
      have hk₅ := hk₄.subL s₅ hh₄
      refine Tr.execs_cons (Tr.assign_name (EvV.run (EvV.name hl₅) ?_))
      refine Tr.putA hl₅ fun h₆ hl₆ s₆ => ?_
      refine Tr.execs_cons (Tr.cont ⟨(n - 1) / 2, by omega, us.set n y, t3, hl₆.pick, hh₅.sub s₆ (by simpa using hl₅.ne hh₅), fun v hv => ?_, by simpa using hn₂, by simpa using hpp, hk₅.subLoc s₆ hl₅,
        (s₂₄.trans (s₅.one (by simp))).trans (s₆.one (by simp)), he⟩)
      rcases List.mem_or_eq_of_mem_set hv with hv | rfl
      · exact hm₂ v hv
      · exact hmy
    · rw [if_neg hc] at he
      rw [if_neg hc]
      refine Tr.execs_nil (Tr.execs_cons (Tr.brk ?_))
      exact fin h₄ us n t _ hl₄ (by (repeat (first | exact trivial | refine ⟨rfl, ?_⟩))) hh₄ hn₂ hlt s₂₄ he

/-- the def's contract -/
theorem siftdown_spec {a hp : Addr} {vs : List Value} {pos : Nat} {t0 tp : Tok} {κ : Value → List Int} (hf : IsFn h a 9) (hlim : h.NoLimit) (hd : A.depth < recursionLimit) (hu : A.units + 3 < cLine)
    (hh : Lst h hp vs) (hk : Keys h κ vs) (hp1 : pos < vs.length) (hz : vs.length ≤ sizeLine) :
    Tr prog w A (call (.ref a) [.ref hp, .int 0 t0, .int pos tp]) h fun _ h' => (∃ x, vs[pos]? = some x ∧ Lst h' hp (sdn κ x pos vs)) ∧ Sub [hp] h h' := by
  refine Tr.enter hf hd hlim (binds := [("heap", .ref hp), ("startpos", .int 0 t0), ("pos", .int pos tp)]) (fun _ _ _ _ _ _ _ => rfl) ?_ ?_
  · intro L x hx
    simp only [List.mem_cons, List.not_mem_nil, or_false] at hx
    rcases hx with rfl | rfl | rfl <;> exact .inl rfl
  · intro q cd h₀ hn hc s₀
    have hl : Loc h₀ h.objs.size [("heap", .ref hp), ("startpos", .int 0 t0), ("pos", .int pos tp)] := Loc.of_ns hn (by
      intro p hp
      simp only [List.mem_cons, List.not_mem_nil, or_false] at hp
      rcases hp with rfl | rfl | rfl <;> rfl)
    refine Tr.mono (siftdown_body (by simpa using hu) hl (hh.sub s₀ (by simp)) (hk.sub0 s₀) hp1 hz) fun f h' y => ⟨y.1, ?_⟩
    exact Sub.drop ((s₀.mono (by simp)).trans y.2) (get_none_of_le (Nat.le_refl _))
end
end Mine

/-! part C2 -/
namespace Mine

/-- what stands before the call: the program's names, the built-in ones -/
structure Stat (hS : Heap) (mg mb : Str → Option Value) : Prop where
  g : hS.Ns mainGlobals mg
  b : hS.Ns builtinsNs mb
  nolimit : hS.NoLimit
  dedup : ∃ a, mg "_deduplicate_unhashable" = some (.ref a) ∧ IsFn hS a 1
  compare : ∃ a, mg "_compare_args_orderless" = some (.ref a) ∧ IsFn hS a 2
  push : ∃ a, mg "heappush" = some (.ref a) ∧ IsFn hS a 7
  pop : ∃ a, mg "heappop" = some (.ref a) ∧ IsFn hS a 8
  siftdown : ∃ a, mg "_siftdown" = some (.ref a) ∧ IsFn hS a 9
  siftup : ∃ a, mg "_siftup" = some (.ref a) ∧ IsFn hS a 10
  passages : ∃ a, mg "_law_passages" = some (.ref a) ∧ IsFn hS a 12
  parted : ∃ a, mg "_law_parted" = some (.ref a) ∧ IsFn hS a 13
  with_ : ∃ a, mg "_law_with" = some (.ref a) ∧ IsFn hS a 14
  begun : ∃ a, mg "_law_begun" = some (.ref a) ∧ IsFn hS a 15
  turns : ∃ a, mg "_law_turns" = some (.ref a) ∧ IsFn hS a 16
  classes : ∃ a, mg "_law_classes" = some (.ref a) ∧ IsFn hS a 17
  missing : ∃ r d items n o, mg "reduce" = some (.ref r) ∧ mg "_initial_missing" = some (.ref d) ∧ hS.get? d = some o ∧ ∃ T oT, hS.get? T = some oT ∧ oT.cls = .type "tuple" ∧ oT.data = .seq items n ∧ IsFnD hS r 5 (.ref T)
  len : mg "len" = none ∧ mb "len" = some (.builtin "len")
  range : mg "range" = none ∧ mb "range" = some (.type "range")
  list : mg "list" = none ∧ mb "list" = some (.type "list")
  valueError : mg "ValueError" = none ∧ mb "ValueError" = some (.type "ValueError")
  iter : mg "iter" = none ∧ mb "iter" = some (.builtin "iter")

def Base (hS h : Heap) : Prop := ∀ b o, hS.get? b = some o → h.get? b = some o
theorem Base.step {hS h h' : Heap} {μ : List Addr} (x : Base hS h) (s : Sub μ h h') (k : ∀ a ∈ μ, hS.get? a = none) : Base hS h' := fun b o e => s b o (fun m => by rw [k b m] at e; cases e) (x b o e)
theorem Base.step0 {hS h h' : Heap} (x : Base hS h) (s : Sub [] h h') : Base hS h' := x.step s (by simp)
theorem Base.fresh {hS h : Heap} (x : Base hS h) {a : Addr} (l : h.objs.size ≤ a) : hS.get? a = none := by
  cases e : hS.get? a with
  | none => rfl
  | some o => exact absurd (Heap.lt_size (x a o e)) (Nat.not_lt.mpr l)

section
variable {prog : Program} {w : World} {A : Around} {h hS : Heap} {mg mb : Str → Option Value}

theorem EvV.glob {i : Nat} {q : Str} {cd : Value} {L a : Addr} {x : Str} {p : Pos} {v : Value} (S : Stat hS mg mb) (B : Base hS h) (hv : mg x = some v)
    (hl : (scopeAt i).names.lookup x = some .globalImplicit := by rfl) (hk : (scopeAt i).kind = .function := by rfl) (hd : (x == ("__debug__" : Str)) = false := by decide) : EvV prog w A (envAt i q cd L a) (.Name x p) h v :=
  EvV.global (env := envAt i q cd L a) (S.g.keeps B) hv hk hl hd
theorem EvV.blt {i : Nat} {q : Str} {cd : Value} {L a : Addr} {x : Str} {p : Pos} {v : Value} (S : Stat hS mg mb) (B : Base hS h) (hv : mg x = none ∧ mb x = some v)
    (hl : (scopeAt i).names.lookup x = some .globalImplicit := by rfl) (hk : (scopeAt i).kind = .function := by rfl) (hd : (x == ("__debug__" : Str)) = false := by decide) : EvV prog w A (envAt i q cd L a) (.Name x p) h v :=
  EvV.builtin (env := envAt i q cd L a) (S.g.keeps B) hv.1 (S.b.keeps B) hv.2 hk hl hd
end

/-- the way down of _siftup: the lesser child climbs into each place on it -/
def supGo (κ : Value → List Int) (pos : Nat) (vs : List Value) : List Value × Nat :=
  if h : 2 * pos + 1 < vs.length then
    let c := if 2 * pos + 2 < vs.length ∧ lexLt (κ (vs.getD (2 * pos + 1) .none)) (κ (vs.getD (2 * pos + 2) .none)) = false then 2 * pos + 2 else 2 * pos + 1
    supGo κ c (vs.set pos (vs.getD c .none))
  else (vs, pos)
termination_by vs.length - pos
decreasing_by simp only [List.length_set]; split <;> omega
def sup (κ : Value → List Int) (x : Value) (vs : List Value) : List Value := sdn κ x (supGo κ 0 vs).2 ((supGo κ 0 vs).1.set (supGo κ 0 vs).2 x)
end Mine

/-! part C3 -/
namespace Mine
section
variable {prog : Program} {w : World} {A : Around} {h hS : Heap} {mg mb : Str → Option Value}

theorem supGo_len (κ : Value → List Int) (pos : Nat) (vs : List Value) : (supGo κ pos vs).1.length = vs.length ∧ (pos < vs.length → (supGo κ pos vs).2 < vs.length) := by
  fun_induction supGo κ pos vs with
  | case1 pos vs h c ih =>
    refine ⟨by rw [ih.1]; simp, fun hp => ?_⟩
    have := ih.2 (by simp only [List.length_set, c]; split <;> omega)
    simpa using this
  | case2 pos vs h => exact ⟨rfl, id⟩

theorem siftup_body {q : Str} {cd : Value} {L a hp : Addr} {x : Value} {vs : List Value} {t0 : Tok} {κ : Value → List Int} (S : Stat hS mg mb) (B : Base hS h) (hnL : hS.get? L = none) (hnp : hS.get? hp = none)
    (hd : A.depth < recursionLimit) (hu : A.units + 3 < cLine)
    (hl : Loc h L [("heap", .ref hp), ("pos", .int 0 t0)]) (hh : Lst h hp (x :: vs)) (hk : Keys h κ (x :: vs)) (hz : (x :: vs).length ≤ sizeLine) :
    Tr prog w A (execs (bodyAt 10) (envAt 10 q cd L a)) h fun f h' => Lst h' hp (sup κ x (x :: vs)) ∧ Sub [L, hp] h h' := by
  have hzL := szL
  have hns : ∀ b ∈ [L, hp], hS.get? b = none := by simp [hnL, hnp]
  have hLp : L ≠ hp := (hl.ne hh).symm
  refine Tr.execs_cons (Tr.assign_name ?_)
  refine Tr.call_blt (EvV.blt S B S.len) (Tr.spl (EvV.run (EvV.name hl) (Tr.spl0 (Tr.len hh.isList (by simp only [List.size_toArray]; omega) fun t1 => ?_))))
  refine Tr.putA hl fun h₁ hl₁ s₁ => ?_
  have hh₁ := hh.sub s₁ (by simpa using hLp.symm)
  have hk₁ := hk.subLoc s₁ hl
  refine Tr.execs_cons (Tr.assign_name (EvV.run (EvV.name hl₁) (Tr.putA hl₁ fun h₂ hl₂ s₂ => ?_)))
  have hh₂ := hh₁.sub s₂ (by simpa using hLp.symm)
  have hk₂ := hk₁.subLoc s₂ hl₁
  refine Tr.execs_cons (Tr.assign_name (EvV.run (EvV.item (EvV.name hl₂) (EvI.name hl₂) hh₂.isList (by omega) (by omega) (v := x) (by simp)) (Tr.putA hl₂ fun h₃ hl₃ s₃ => ?_)))
  have hh₃ := hh₂.sub s₃ (by simpa using hLp.symm)
  have hk₃ := hk₂.subLoc s₃ hl₂
  refine Tr.execs_cons (Tr.assign_name (EvI.run (EvI.add (EvI.mul EvI.lit (EvI.name hl₃) (by mul_fits)) EvI.lit) fun t4 => Tr.putA hl₃ fun h₄ hl₄ s₄ => ?_))
  have hh₄ := hh₃.sub s₄ (by simpa using hLp.symm)
  have hk₄ := hk₃.subLoc s₄ hl₃
  have s₀₄ : Sub [L, hp] h h₄ := (((s₁.trans s₂).trans s₃).trans s₄).one (by simp)
  refine Tr.execs_cons ?_
  refine Tr.while_ (fun n h' => ∃ us pos tp tc te, Loc h' L [("heap", .ref hp), ("pos", .int (pos : Nat) tp), ("endpos", .int ((x :: vs).length : Nat) te), ("startpos", .int 0 t0), ("newitem", x), ("childpos", .int (2 * pos + 1 : Nat) tc)] ∧
      Lst h' hp us ∧ (∀ v ∈ us, v ∈ x :: vs) ∧ us.length = (x :: vs).length ∧ pos < us.length ∧ n = us.length - pos ∧ Keys h' κ (x :: vs) ∧ Sub [L, hp] h h' ∧ supGo κ pos us = supGo κ 0 (x :: vs))
    ?_ (x :: vs).length ⟨x :: vs, 0, t0, t4, t1, hl₄.pick, hh₄, fun _ m => m, rfl, by simp, by simp, hk₄, s₀₄, rfl⟩
  rintro n h₅ ⟨us, pos, tp, tc, te, hl₅, hh₅, hm₅, hn₅, hp₅, rfl, hk₅, s₅, he₅⟩
  refine EvB.run (EvB.lt (EvI.name hl₅) (EvI.name hl₅)) ?_
  rw [supGo] at he₅
  by_cases hc : 2 * pos + 1 < us.length
  · rw [dif_pos hc] at he₅
    have hc' : ((2 * pos + 1 : Nat) : Int) < (((x :: vs).length : Nat) : Int) := by omega
    rw [decide_eq_true hc', if_pos rfl]
    refine Tr.execs_cons (Tr.assign_name (EvI.run (EvI.add (EvI.name hl₅) EvI.lit) fun t6 => Tr.putA hl₅ fun h₆ hl₆ s₆ => ?_))
    have hh₆ := hh₅.sub s₆ (by simpa using hLp.symm)
    have hk₆ := hk₅.subLoc s₆ hl₅
    have s₀₆ : Sub [L, hp] h h₆ := s₅.trans (s₆.one (by simp))
    have er : ((2 * pos + 1 : Nat) : Int) + 1 = ((2 * pos + 2 : Nat) : Int) := by omega
    rw [er] at hl₆
    obtain ⟨y, hy⟩ : ∃ y, us[2 * pos + 1]? = some y := ⟨us[2 * pos + 1], by simp [hc]⟩
    have hyd : us.getD (2 * pos + 1) .none = y := by simp [List.getD, hy]
    have hmy := hm₅ _ (List.mem_of_getElem? hy)
    -- the lesser child
    have pick : Tr prog w A (exec ((bodyAt 10).getD 4 (.Pass default) |> fun st => match st with | .While _ b _ _ => b.getD 1 (.Pass default) | _ => .Pass default) (envAt 10 q cd L a)) h₆ fun f h' => f = .next ∧
        ∃ (c : Nat) (t : Tok), c = (if 2 * pos + 2 < us.length ∧ lexLt (κ (us.getD (2 * pos + 1) .none)) (κ (us.getD (2 * pos + 2) .none)) = false then 2 * pos + 2 else 2 * pos + 1) ∧
          Loc h' L [("heap", .ref hp), ("pos", .int (pos : Nat) tp), ("endpos", .int ((x :: vs).length : Nat) te), ("startpos", .int 0 t0), ("newitem", x), ("childpos", .int (c : Nat) t)] ∧ Lst h' hp us ∧ Keys h' κ (x :: vs) ∧ Sub [L, hp] h h' := by
      refine Tr.ite (Tr.test_and2 (EvB.run (EvB.lt (EvI.name hl₆) (EvI.name hl₆)) ?_))
      by_cases hr : 2 * pos + 2 < us.length
      · have hr' : ((2 * pos + 2 : Nat) : Int) < (((x :: vs).length : Nat) : Int) := by omega
        rw [decide_eq_true hr', if_pos rfl]
        obtain ⟨z, hz'⟩ : ∃ z, us[2 * pos + 2]? = some z := ⟨us[2 * pos + 2], by simp [hr]⟩
        have hzd : us.getD (2 * pos + 2) .none = z := by simp [List.getD, hz']
        have hmz := hm₅ _ (List.mem_of_getElem? hz')
        refine Tr.test_not (EvB.run (EvB.lt_tup (EvV.item (EvV.name hl₆) (EvI.name hl₆) hh₆.isList (by omega) (by omega) (getA hy)) (EvV.item (EvV.name hl₆) (EvI.name hl₆) hh₆.isList (by omega) (by omega) (getA hz'))
          (hk₆ y hmy).1 (hk₆ z hmz).1 (by rw [(hk₆ y hmy).2, (hk₆ z hmz).2]) (by omega)) ?_)
        rw [hyd, hzd]
        cases hcmp : lexLt (κ y) (κ z) with
        | true =>
          simp only [Bool.not_true, Bool.false_eq_true, if_false]
          exact Tr.execs_nil ⟨rfl, 2 * pos + 1, tc, by simp, hl₆.pick, hh₆, hk₆, s₀₆⟩
        | false =>
          simp only [Bool.not_false, if_true]
          refine Tr.execs_cons (Tr.assign_name (EvV.run (EvV.name hl₆) (Tr.putA hl₆ fun h₇ hl₇ s₇ => ?_)))
          exact Tr.execs_nil ⟨rfl, 2 * pos + 2, t6, by simp [hr], hl₇.pick, hh₆.sub s₇ (by simpa using hLp.symm), hk₆.subLoc s₇ hl₆, s₀₆.trans (s₇.one (by simp))⟩
      · have hr' : ¬ ((2 * pos + 2 : Nat) : Int) < (((x :: vs).length : Nat) : Int) := by omega
        rw [decide_eq_false hr', if_neg (by simp)]
        simp only [Bool.false_eq_true, if_false]
        exact Tr.execs_nil ⟨rfl, 2 * pos + 1, tc, by simp [hr], hl₆.pick, hh₆, hk₆, s₀₆⟩
    refine Tr.execs_cons (Tr.mono pick fun f h₇ z => ?_)
    obtain ⟨rfl, c, t7, ec, hl₇, hh₇, hk₇, s₇⟩ := z
    have hcl : c < us.length := by rw [ec]; split <;> omega
    have hcg : pos < c := by rw [ec]; split <;> omega
    obtain ⟨v, hv⟩ : ∃ v, us[c]? = some v := ⟨us[c], by simp [hcl]⟩
    have hvd : us.getD c .none = v := by simp [List.getD, hv]
    have hmv := hm₅ _ (List.mem_of_getElem? hv)
    rw [← ec] at he₅
    dsimp only at he₅ ⊢
    rw [hvd] at he₅
    refine Tr.execs_cons (Tr.assign_item (EvV.run (EvV.item (EvV.name hl₇) (EvI.name hl₇) hh₇.isList (by omega) (by omega) (getA hv)) (EvV.run (EvV.name hl₇) (EvI.run (EvI.name hl₇) fun t => ?_))))
    refine Tr.setL hh₇ rfl hp₅ (by omega) fun h₈ hh₈ s₈ => ?_
    have hl₈ := hl₇.sub s₈ (by simpa using hLp)
    have hk₈ := hk₇.subL s₈ hh₇
    refine Tr.execs_cons (Tr.assign_name (EvV.run (EvV.name hl₈) (Tr.putA hl₈ fun h₉ hl₉ s₉ => ?_)))
    refine Tr.execs_cons (Tr.assign_name (EvI.run (EvI.add (EvI.mul EvI.lit (EvI.name hl₉) (by mul_fits)) EvI.lit) fun t9 => Tr.putA hl₉ fun hA hlA sA => ?_))
    have e2 : (2 : Int) * (c : Nat) + 1 = ((2 * c + 1 : Nat) : Int) := by omega
    rw [e2] at hlA
    refine Tr.execs_nil ⟨us.length - c, by omega, us.set pos v, c, t7, t9, te, hlA.pick, (hh₈.sub s₉ (by simpa using hLp.symm)).sub sA (by simpa using hLp.symm), fun u hu' => ?_, by simpa using hn₅, by simpa using hcl, by simp,
      (hk₈.subLoc s₉ hl₈).subLoc sA hl₉, ((s₇.trans (s₈.one (by simp))).trans (s₉.one (by simp))).trans (sA.one (by simp)), he₅⟩
    rcases List.mem_or_eq_of_mem_set hu' with hu' | rfl
    · exact hm₅ u hu'
    · exact hmv
  · rw [dif_neg hc] at he₅
    have hc' : ¬ ((2 * pos + 1 : Nat) : Int) < (((x :: vs).length : Nat) : Int) := by omega
    rw [decide_eq_false hc', if_neg (by simp)]
    refine Tr.execs_cons (Tr.assign_item (EvV.run (EvV.name hl₅) (EvV.run (EvV.name hl₅) (EvI.run (EvI.name hl₅) fun t => ?_))))
    refine Tr.setL hh₅ rfl hp₅ (by omega) fun h₆ hh₆ s₆ => ?_
    have hl₆ := hl₅.sub s₆ (by simpa using hLp)
    have hk₆ := hk₅.subL s₆ hh₅
    have s₀₆ : Sub [L, hp] h h₆ := s₅.trans (s₆.one (by simp))
    have B₆ : Base hS h₆ := B.step s₀₆ hns
    obtain ⟨a', ha', hf⟩ := S.siftdown
    have hf₆ : IsFn h₆ a' 9 := IsFnD.sub hf B₆
    obtain ⟨o, nm, q', doc, pm, cd', ct, an, ho, hdt, hcd⟩ := id hf₆
    refine Tr.execs_cons (Tr.expr (Tr.call_def (EvV.glob S B₆ ha') hdt (Tr.spl (EvV.run (EvV.name hl₆) (Tr.spl (EvV.run (EvV.name hl₆) (Tr.spl (EvI.run (EvI.name hl₆) fun t => Tr.spl0 ⟨ho, ?_⟩))))))))
    have hxs : (us.set pos x)[pos]? = some x := by simp [hp₅]
    refine Tr.mono (siftdown_spec (κ := κ) hf₆ (S.nolimit.keeps B₆) hd hu hh₆ (hk₆.mono fun u hu' => ?_) (by simpa using hp₅) (by simp; omega)) fun _ h₇ z => ?_
    · rcases List.mem_or_eq_of_mem_set hu' with hu' | rfl
      · exact hm₅ u hu'
      · simp
    · obtain ⟨⟨x', ex, hL7⟩, s₇⟩ := z
      rw [hxs] at ex; cases ex
      refine Tr.execs_nil ⟨?_, s₀₆.trans (s₇.one (by simp))⟩
      unfold sup
      rw [← he₅]; exact hL7
end
end Mine

/-! part C4 -/
namespace Mine
section
variable {prog : Program} {w : World} {A : Around} {env : Env} {h hS : Heap} {mg mb : Str → Option Value}

theorem Tr.truthy_list {l : Addr} {items : Array Value} {P : Bool → Heap → Prop} (hl : h.IsList l items) (hfit : (items.size : Int) < 2 ^ 63) (p : P (items.size != 0) h) : Tr prog w A (truthy (.ref l)) h P :=
  fun s Q E e hq => by subst e; exact wpAny_truthy_list hl hfit (hq _ _ _ p)
theorem EvB.list {e : Expr} {l : Addr} {vs : List Value} (x : EvV prog w A env e h (.ref l)) (hl : Lst h l vs) (hz : vs.length ≤ sizeLine)
    (he : ∀ whole, isTrue e env whole = (do let v ← whole; standAt e.pos; holding [v] (truthy v)) := by intro _; rfl) : EvB prog w A env e h (vs.length != 0) :=
  fun s Q E e' hq => by
    have hzL := szL
    refine wpAny_isTrue_value (x s _ E e' fun v h₁ tk y => ?_) (he _)
    obtain ⟨rfl, rfl⟩ := y
    refine Tr.truthy_list hl.isList (by simp only [List.size_toArray]; omega) ?_ _ _ _ rfl hq
    simp

theorem EvI.len {x : Str} {np pos : Pos} {e0 : Expr} {l : Addr} {vs : List Value} (hf : EvV prog w A env (.Name x np) h (.builtin "len")) (hv : EvV prog w A env e0 h (.ref l)) (hl : Lst h l vs) (hz : vs.length ≤ sizeLine)
    (he : backTo pos (starEach [e0] env) = [(false, eval e0 env)] := by rfl) : EvI prog w A env (.Call (.Name x np) [e0] [] pos) h ((vs.length : Nat) : Int) := by
  have hzL := szL
  refine Tr.call_blt hf ?_ he (by rw [he]; rfl)
  rw [he]
  exact Tr.spl_cons (hv.run (Tr.spl_nil (Tr.len hl.isList (by simp only [List.size_toArray]; omega) fun t => ⟨⟨t, by simp⟩, rfl⟩)))

theorem siftup_spec {a hp : Addr} {x : Value} {vs : List Value} {tp : Tok} {κ : Value → List Int} (S : Stat hS mg mb) (B : Base hS h) (hnp : hS.get? hp = none) (hf : IsFn h a 10) (hd : A.depth + 1 < recursionLimit) (hu : A.units + 6 < cLine)
    (hh : Lst h hp (x :: vs)) (hk : Keys h κ (x :: vs)) (hz : (x :: vs).length ≤ sizeLine) :
    Tr prog w A (call (.ref a) [.ref hp, .int 0 tp]) h fun _ h' => Lst h' hp (sup κ x (x :: vs)) ∧ Sub [hp] h h' := by
  refine Tr.enter hf (by omega) (S.nolimit.keeps B) (binds := [("heap", .ref hp), ("pos", .int 0 tp)]) (fun _ _ _ _ _ _ _ => rfl) ?_ ?_
  · intro L x hx
    simp only [List.mem_cons, List.not_mem_nil, or_false] at hx
    rcases hx with rfl | rfl <;> exact .inl rfl
  · intro q cd h₀ hn hc s₀
    have hl : Loc h₀ h.objs.size [("heap", .ref hp), ("pos", .int 0 tp)] := Loc.of_ns hn (by
      intro p hp
      simp only [List.mem_cons, List.not_mem_nil, or_false] at hp
      rcases hp with rfl | rfl <;> rfl)
    refine Tr.mono (siftup_body S (B.step0 s₀) (B.fresh (Nat.le_refl _)) hnp (by exact hd) (by exact hu) hl (hh.sub s₀ (by simp)) (hk.sub0 s₀) hz) fun f h' y => ⟨y.1, ?_⟩
    exact Sub.drop ((s₀.mono (by simp)).trans y.2) (get_none_of_le (Nat.le_refl _))

theorem push_spec {a hp : Addr} {v : Value} {vs : List Value} {κ : Value → List Int} (S : Stat hS mg mb) (B : Base hS h) (hnp : hS.get? hp = none) (hf : IsFn h a 7) (hd : A.depth + 1 < recursionLimit) (hu : A.units + 6 < cLine)
    (hh : Lst h hp vs) (hk : Keys h κ (vs ++ [v])) (hz : vs.length < sizeLine) :
    Tr prog w A (call (.ref a) [.ref hp, v]) h fun _ h' => Lst h' hp (sdn κ v vs.length (vs ++ [v])) ∧ Sub [hp] h h' := by
  have hzL := szL
  refine Tr.enter hf (by omega) (S.nolimit.keeps B) (binds := [("heap", .ref hp), ("item", v)]) (fun _ _ _ _ _ _ _ => rfl) ?_ ?_
  · intro L x hx
    simp only [List.mem_cons, List.not_mem_nil, or_false] at hx
    rcases hx with rfl | rfl <;> exact .inl rfl
  · intro q cd h₀ hn hc s₀
    have hl : Loc h₀ h.objs.size [("heap", .ref hp), ("item", v)] := Loc.of_ns hn (by
      intro p hp
      simp only [List.mem_cons, List.not_mem_nil, or_false] at hp
      rcases hp with rfl | rfl <;> rfl)
    have hh₀ := hh.sub s₀ (by simp)
    have hk₀ := hk.sub0 s₀
    have B₀ := B.step0 s₀
    have hnL : hS.get? h.objs.size = none := B.fresh (Nat.le_refl _)
    have hLp := (hl.ne hh₀).symm
    refine Tr.execs_cons (Tr.expr (Tr.append (EvV.name hl) hh₀ (EvV.run (EvV.name hl) (Tr.append_call hh₀ (by omega) fun h₁ hh₁ s₁ => ?_))))
    have hl₁ := hl.sub s₁ (by simpa using hLp)
    have hk₁ := hk₀.subL s₁ hh₀
    have B₁ : Base hS h₁ := B₀.step s₁ (by simp [hnp])
    obtain ⟨a', ha', hf'⟩ := S.siftdown
    have hf₁ : IsFn h₁ a' 9 := IsFnD.sub hf' B₁
    obtain ⟨o, nm, q', doc, pm, cd', ct, an, ho, hdt, hcd⟩ := id hf₁
    refine Tr.execs_cons (Tr.expr (Tr.call_def (EvV.glob S B₁ ha') hdt (Tr.spl (EvV.run (EvV.name hl₁) (Tr.spl (EvI.run EvI.lit fun t1 => Tr.spl ?_))))))
    refine EvI.run (EvI.sub (EvI.len (EvV.blt S B₁ S.len) (EvV.name hl₁) hh₁ (by simp; omega)) EvI.lit) fun t2 => Tr.spl0 ⟨ho, ?_⟩
    have e : (((vs ++ [v]).length : Nat) : Int) - 1 = ((vs.length : Nat) : Int) := by simp
    rw [e]
    refine Tr.mono (siftdown_spec (κ := κ) hf₁ (S.nolimit.keeps B₁) (by exact hd) (by exact hu) hh₁ hk₁ (by simp) (by simp; omega)) fun _ h₂ z => ?_
    obtain ⟨⟨x', ex, hL2⟩, s₂⟩ := z
    have : x' = v := by simpa using ex.symm
    subst this
    refine Tr.execs_nil ⟨hL2, ?_⟩
    exact (s₀.mono (by simp)).trans (s₁.trans s₂)

/-- what heappop gives back and leaves of (us ++ [v]) -/
def popd (κ : Value → List Int) (v : Value) : List Value → Value × List Value
  | [] => (v, [])
  | x :: r => (x, sup κ v (v :: r))

theorem pop_spec {a hp : Addr} {v : Value} {us : List Value} {κ : Value → List Int} (S : Stat hS mg mb) (B : Base hS h) (hnp : hS.get? hp = none) (hf : IsFn h a 8) (hd : A.depth + 2 < recursionLimit) (hu : A.units + 9 < cLine)
    (hh : Lst h hp (us ++ [v])) (hk : Keys h κ (us ++ [v])) (hz : us.length < sizeLine) :
    Tr prog w A (call (.ref a) [.ref hp]) h fun r h' => r = (popd κ v us).1 ∧ Lst h' hp (popd κ v us).2 ∧ Sub [hp] h h' := by
  have hzL := szL
  refine Tr.enter hf (by omega) (S.nolimit.keeps B) (binds := [("heap", .ref hp)]) (fun _ _ _ _ _ _ _ => rfl) ?_ ?_
  · intro L x hx
    simp only [List.mem_cons, List.not_mem_nil, or_false] at hx
    rcases hx with rfl; exact .inl rfl
  · intro q cd h₀ hn hc s₀
    have hl : Loc h₀ h.objs.size [("heap", .ref hp)] := Loc.of_ns hn (by
      intro p hp
      simp only [List.mem_cons, List.not_mem_nil, or_false] at hp
      rcases hp with rfl; rfl)
    have hh₀ := hh.sub s₀ (by simp)
    have hk₀ := hk.sub0 s₀
    have B₀ := B.step0 s₀
    have hnL : hS.get? h.objs.size = none := B.fresh (Nat.le_refl _)
    have hLn : h.get? h.objs.size = none := get_none_of_le (Nat.le_refl _)
    have hLp := (hl.ne hh₀).symm
    generalize hLe : h.objs.size = L at *
    have s₀' : Sub [L, hp] h h₀ := s₀.mono (by simp)
    refine Tr.execs_cons (Tr.assign_name (Tr.pop (EvV.name hl) hh₀ hz fun h₁ hh₁ s₁ => ?_))
    have hl₁ := hl.sub s₁ (by simpa using hLp)
    have hk₁ := hk₀.subL s₁ hh₀
    refine Tr.putA hl₁ fun h₂ hl₂ s₂ => ?_
    have hh₂ := hh₁.sub s₂ (by simpa using hLp.symm)
    have hk₂ := hk₁.subLoc s₂ hl₁
    have s₀₂ : Sub [L, hp] h h₂ := (s₀'.trans (s₁.one (by simp))).trans (s₂.one (by simp))
    refine Tr.execs_cons (Tr.ite (EvB.run (EvB.list (EvV.name hl₂) hh₂ (by omega)) ?_))
    cases us with
    | nil =>
      simp only [List.length_nil, bne_self_eq_false, Bool.false_eq_true, if_false]
      refine Tr.execs_nil (Tr.execs_cons (Tr.retn (EvV.run (EvV.name hl₂) ⟨rfl, hh₂, s₀₂.drop hLn⟩)))
    | cons x r =>
      simp only [List.length_cons, Nat.add_one_ne_zero, bne_iff_ne, ne_eq, not_false_eq_true, if_true]
      refine Tr.execs_cons (Tr.assign_name (EvV.run (EvV.item (EvV.name hl₂) EvI.lit hh₂.isList (by omega) (by omega) (v := x) (by simp)) (Tr.putA hl₂ fun h₃ hl₃ s₃ => ?_)))
      have hh₃ := hh₂.sub s₃ (by simpa using hLp.symm)
      have hk₃ := hk₂.subLoc s₃ hl₂
      refine Tr.execs_cons (Tr.assign_item (EvV.run (EvV.name hl₃) (EvV.run (EvV.name hl₃) (EvI.run EvI.lit fun t => ?_))))
      refine Tr.setL (k := 0) hh₃ rfl (by simp) (by simp at hz ⊢; omega) fun h₄ hh₄ s₄ => ?_
      have hl₄ := hl₃.sub s₄ (by simpa using hLp)
      have hk₄ := hk₃.subL s₄ hh₃
      have s₀₄ : Sub [L, hp] h h₄ := (s₀₂.trans (s₃.one (by simp))).trans (s₄.one (by simp))
      have B₄ : Base hS h₄ := B.step s₀₄ (by simp [hnL, hnp])
      obtain ⟨a', ha', hf'⟩ := S.siftup
      have hf₄ : IsFn h₄ a' 10 := IsFnD.sub hf' B₄
      obtain ⟨o, nm, q', doc, pm, cd', ct, an, ho, hdt, hcd⟩ := id hf₄
      refine Tr.execs_cons (Tr.expr (Tr.call_def (EvV.glob S B₄ ha') hdt (Tr.spl (EvV.run (EvV.name hl₄) (Tr.spl (EvI.run EvI.lit fun t1 => Tr.spl0 ⟨ho, ?_⟩))))))
      refine Tr.mono (siftup_spec (κ := κ) (x := v) (vs := r) S B₄ hnp hf₄ (by exact hd) (by exact hu) hh₄ (hk₄.mono fun u m => ?_) (by simp at hz ⊢; omega)) fun _ h₅ z => ?_
      · simp only [List.mem_cons] at m
        simp only [List.cons_append, List.mem_cons, List.mem_append, List.not_mem_nil, or_false]
        rcases m with rfl | m
        · exact .inr (.inr rfl)
        · exact .inr (.inl m)
      · have hl₅ := hl₄.sub z.2 (by simpa using hLp)
        refine Tr.execs_cons (Tr.retn (EvV.run (EvV.name hl₅) ⟨rfl, z.1, ?_⟩))
        exact (s₀₄.trans (z.2.one (by simp))).drop hLn
end
end Mine

/-! part D1 -/
namespace Mine

/-- K holds in every heap that keeps what stands in h from n on -/
def Holds (n : Nat) (h : Heap) (K : Heap → Prop) : Prop := ∀ h' : Heap, (∀ b o, n ≤ b → h.get? b = some o → h'.get? b = some o) → K h'
theorem Holds.here {n : Nat} {h : Heap} {K : Heap → Prop} (x : Holds n h K) : K h := x h fun _ _ _ e => e
theorem Holds.low {n m : Nat} {h : Heap} {K : Heap → Prop} (x : Holds n h K) (l : m ≤ n) : Holds m h K := fun h' k => x h' fun b o lb e => k b o (Nat.le_trans l lb) e
theorem Holds.step {n : Nat} {μ : List Addr} {h h' : Heap} {K : Heap → Prop} (x : Holds n h K) (s : Sub μ h h') (k : ∀ a ∈ μ, a < n) : Holds n h' K :=
  fun h'' k' => x h'' fun b o lb e => k' b o lb (s b o (fun m => Nat.not_lt.mpr lb (k b m)) e)
theorem Holds.step0 {n : Nat} {h h' : Heap} {K : Heap → Prop} (x : Holds n h K) (s : Sub [] h h') : Holds n h' K := x.step s (by simp)
theorem Holds.mono {n : Nat} {h : Heap} {K K' : Heap → Prop} (x : Holds n h K) (k : ∀ h', K h' → K' h') : Holds n h K' := fun h' q => k _ (x h' q)
theorem Holds.const {n : Nat} {h : Heap} {p : Prop} (x : p) : Holds n h fun _ => p := fun _ _ => x
theorem Holds.lst {n : Nat} {h : Heap} {a : Addr} {vs : List Value} (x : Lst h a vs) (l : n ≤ a) : Holds n h fun h' => Lst h' a vs := fun h' k => let ⟨m, e⟩ := x; ⟨m, k a _ l e⟩
theorem Holds.tuple {n : Nat} {h : Heap} {a : Addr} {vs : Array Value} (x : h.IsTuple a vs) (l : n ≤ a) : Holds n h fun h' => h'.IsTuple a vs := fun h' k => let ⟨o, e, r⟩ := x; ⟨o, k a _ l e, r⟩
theorem Holds.and {n : Nat} {h : Heap} {K K' : Heap → Prop} (x : Holds n h K) (y : Holds n h K') : Holds n h fun h' => K h' ∧ K' h' := fun h' k => ⟨x h' k, y h' k⟩

/-- the elements ys, for the places ks of the source -/
def Els (G : Nat → Value → Heap → Prop) (ks : List Nat) (ys : List Value) (h : Heap) : Prop := ys.length = ks.length ∧ ∀ (j k : Nat) (y : Value), ks[j]? = some k → ys[j]? = some y → G k y h

def compTest (ifs : List Expr) (env : Env) : Sem Bool :=
  forIn ifs true fun c r => if r = true then do let ok ← isTrue c env (eval c env); pure (ForInStep.yield ok) else pure (ForInStep.yield r)

section
variable {prog : Program} {w : World} {A : Around} {env : Env}

theorem Tr.test_nil {h : Heap} {P : Bool → Heap → Prop} (p : P true h) : Tr prog w A (compTest [] env) h P :=
  fun s Q E e hq => wpAny_tests_nil (by have := hq true h s.toks p; subst e; exact this)
theorem Tr.test_one {h : Heap} {c : Expr} {P : Bool → Heap → Prop} (x : Tr prog w A (isTrue c env (eval c env)) h P) : Tr prog w A (compTest [c] env) h P :=
  fun s Q E e hq => wpAny_tests_one (x s Q E e hq)

theorem range_filter_succ (p : Nat → Bool) (i : Nat) : (List.range (i + 1)).filter p = (List.range i).filter p ++ (if p i then [i] else []) := by
  rw [List.range_succ, List.filter_append]
  cases h : p i <;> simp [h]

theorem comp_core {elt iter : Expr} {x : Str} {px : Pos} {ifs : List Expr} {scope : Scope} {cl : List (Str × Addr)} {pos : Pos} {s₂ : Shared} {I : Addr} {fp wr : List Addr} {n : Nat} {P : Nat → Value → Prop}
    {St : Nat → Heap → Prop} {E : Value → Shared → Prop} (W : Walks prog w A I fp wr n P St) (hsz : n ≤ sizeLine) (p : Nat → Bool) (G : Nat → Value → Heap → Prop) (fl : Bool) {RR : Value → Addr → Result → Shared → Prop}
    (hcell : ∀ y ∈ scope.names, y.2 ≠ .cell) (hkind : scope.kind = .function) (hx : scope.names.lookup x = some .local) (hst : St 0 s₂.heap) (hfp : ∀ b ∈ fp, b < s₂.heap.objs.size)
    (tests : ∀ C i v h₃, s₂.heap.objs.size < C → i < n → P i v → Loc h₃ C [(x, v)] → Sub wr s₂.heap h₃ → Tr prog w A (compTest ifs (compEnvC scope cl C env)) h₃ fun ok h₄ => ok = p i ∧ Sub [] h₃ h₄)
    (helt : ∀ C i v h₃, s₂.heap.objs.size < C → i < n → P i v → p i = true → Loc h₃ C [(x, v)] → Sub wr s₂.heap h₃ → Tr prog w A (eval elt (compEnvC scope cl C env)) h₃ fun y h₄ => Sub [] h₃ h₄ ∧ Holds h₃.objs.size h₄ (G i y) ∧ (fl = true → ∃ (D : Addr) (o : Obj), y = .ref D ∧ h₃.objs.size ≤ D ∧ h₄.get? D = some o))
    (hRR : ∀ D C h' tk m' ys, s₂.heap.objs.size ≤ D → D < C → h'.Ns C m' → Lst h' D ys → Sub wr s₂.heap h' → ys.length = ((List.range n).filter p).length →
      (∀ (j k : Nat) (y : Value), ((List.range n).filter p)[j]? = some k → ys[j]? = some y → Holds (C + 1) h' (G k y)) → (fl = true → ys.Nodup) → RR (.ref D) C (.ok .next) { s₂ with heap := h', toks := tk }) :
    wpAny (model prog w) A (newList []) (fun acc s₃ => wpAny (model prog w) A (newFunctionEnv scope env.globals cl [] env.qual none .none (some env)) (fun cenv s₄ =>
      codeAny (model prog w) A (.compStart (.ListComp elt [⟨.Name x px, iter, ifs, 0⟩] scope pos) 0 (.ref I) acc { cenv with scope := relabel scope env }) (RR acc cenv.locals) s₄) E s₃) E s₂ := by
  refine wpAny_newObj_type (wpAny_newFunctionEnv hcell (by intro y hy; simp at hy) (fun h₁ hns₁ hsb₁ => ?_) hkind)
  dsimp only at hns₁ hsb₁ ⊢
  generalize hH2 : s₂.heap.push { cls := .type "list", dict := none, data := .seq ([] : List Value).toArray } = H2 at hns₁ hsb₁ ⊢
  have hC : H2.objs.size = s₂.heap.objs.size + 1 := by rw [← hH2, Heap.size_push]
  have hsize₁ : h₁.objs.size = H2.objs.size + 1 := by rw [hsb₁.1, Heap.size_push]
  have old : ∀ b o, s₂.heap.get? b = some o → h₁.get? b = some o := fun b o e =>
    hsb₁.extBut b o (Nat.ne_of_lt (by have : @LT.lt Nat _ b s₂.heap.objs.size := Heap.lt_size e; omega)) (Heap.get?_push_of_some _ (hH2 ▸ Heap.get?_push_of_some _ e))
  have hDC : s₂.heap.objs.size ≠ H2.objs.size := by omega
  have hacc : Lst h₁ s₂.heap.objs.size [] := ⟨0, hsb₁.extBut _ _ hDC (Heap.get?_push_of_some _ (hH2 ▸ Heap.get?_push_size _ rfl))⟩
  have hst₁ : St 0 h₁ := W.frame _ _ _ hst fun b _ o e => old b o e
  generalize hD : s₂.heap.objs.size = D at *
  generalize hCe : H2.objs.size = C at *
  have hfp' : ∀ b ∈ fp, @LT.lt Nat _ b D := hfp
  have hwr : ∀ b ∈ wr, @LT.lt Nat _ b D := fun b hb => hfp b (W.sub b hb)
  have notIn : ∀ {b c : Nat}, b ≠ c → b ∉ [c] := fun h => by simpa using h
  have loop : codeAny (model prog w) A (.compLoop (.ListComp elt [⟨.Name x px, iter, ifs, 0⟩] scope pos) 0 (.ref I) (.ref D) (compEnvC scope cl C env)) (RR (.ref D) C) { s₂ with heap := h₁, toks := s₂.toks + ([] : List (Str × Value)).length } := by
    refine codeAny_compLoop_tests
      (fun k s' => ∃ h' tk m' ys i, s' = { s₂ with heap := h', toks := tk } ∧ St i h' ∧ Lst h' D ys ∧ h'.Ns C m' ∧ i ≤ n ∧ k = n + 1 - i ∧ Sub wr s₂.heap h' ∧ C + 1 ≤ h'.objs.size ∧ ys.length = ((List.range i).filter p).length ∧
        (∀ (j k : Nat) (y : Value), ((List.range i).filter p)[j]? = some k → ys[j]? = some y → Holds (C + 1) h' (G k y)) ∧ (fl = true → ys.Nodup ∧ ∀ y ∈ ys, ∃ (D : Addr) (o : Obj), y = .ref D ∧ @LT.lt Nat _ C D ∧ h'.get? D = some o)) ?_ (n + 1)
      ⟨h₁, _, _, [], 0, rfl, hst₁, hacc, hns₁, Nat.zero_le _, rfl, Sub.of_all old, by omega, by simp, fun j k y _ e => by simp at e, fun _ => ⟨List.nodup_nil, fun y m => by simp at m⟩⟩
    rintro k s' ⟨h', tk, m', ys, i, rfl, hst', hacc', hns', hi, rfl, hsub, hsize, hlen, hels, hnd⟩
    rcases Nat.lt_or_ge i n with hin | hin
    · refine W.item i _ _ _ hin hst' fun v h₂ tk₂ hP hst₂ hk₂ => ?_
      have sub₂ : Sub wr h' h₂ := fun b o hb e => hk₂ b o hb e
      have hns₂ := Ns.sub hns' sub₂ (fun hm => by have := hwr C hm; omega)
      have hacc₂ := hacc'.sub sub₂ (fun hm => by have := hwr D hm; omega)
      refine wpAny_assign_Name (wpAny_storeName_local (lookup_relabel_local hx) hns₂ (fun h₃ hns₃ hsb₃ => ?_) (by simp [compEnvC, relabel, hkind]))
      have sub₃ : Sub [C] h₂ h₃ := Sub.of_same hsb₃
      have hst₃ : St (i + 1) h₃ := W.frame _ _ _ hst₂ fun b hb o e => sub₃ b o (notIn (Nat.ne_of_lt (by have := hfp' b hb; omega))) e
      have hsize₃ : C + 1 ≤ h₃.objs.size := hns₃.lt
      have subS₃ : Sub wr s₂.heap h₃ := fun b o hb e => sub₃ b o (notIn (Nat.ne_of_lt (by have : @LT.lt Nat _ b s₂.heap.objs.size := Heap.lt_size e; omega))) (sub₂ b o hb (hsub b o hb e))
      have hloc₃ : Loc h₃ C [(x, v)] := ⟨_, hns₃, fun y u e => by
        rw [List.lookup_cons] at e
        split at e
        · rename_i q; cases e; simp [beq_iff_eq.mp q]
        · cases e⟩
      have hacc₃ := hacc₂.sub sub₃ (notIn (by omega))
      have hels₃ : ∀ (j k : Nat) (y : Value), ((List.range i).filter p)[j]? = some k → ys[j]? = some y → Holds (C + 1) h₃ (G k y) := fun j k y e1 e2 =>
        ((hels j k y e1 e2).step sub₂ (fun b hb => Nat.lt_of_lt_of_le (hwr b hb) (by omega))).step sub₃ (by intro b hb; rw [List.mem_singleton.mp hb]; exact Nat.lt_succ_self _)
      have hnd₃ : fl = true → ys.Nodup ∧ ∀ y ∈ ys, ∃ (D : Addr) (o : Obj), y = .ref D ∧ @LT.lt Nat _ C D ∧ h₃.get? D = some o := fun hf => ⟨(hnd hf).1, fun y m => by
        obtain ⟨D', o, e1, e2, e3⟩ := (hnd hf).2 y m
        exact ⟨D', o, e1, e2, sub₃ D' o (notIn (Nat.ne_of_gt e2)) (sub₂ D' o (fun hm => by have := hwr D' hm; omega) e3)⟩⟩
      refine (tests C i v h₃ (by omega) hin hP hloc₃ subS₃) _ _ _ rfl fun ok h₄ tk₄ z => ?_
      obtain ⟨rfl, sub₄⟩ := z
      have hns₄ := Ns.sub hns₃ sub₄ (by simp)
      have hacc₄ := hacc₃.sub sub₄ (by simp)
      have hst₄ : St (i + 1) h₄ := W.frame _ _ _ hst₃ fun b hb o e => sub₄ b o (by simp) e
      have subS₄ : Sub wr s₂.heap h₄ := subS₃.trans (sub₄.mono (by simp))
      have hels₄ := fun j k y e1 e2 => (hels₃ j k y e1 e2).step0 sub₄
      have hsize₄ : C + 1 ≤ h₄.objs.size := hns₄.lt
      have hloc₄ := hloc₃.sub sub₄ (by simp)
      cases hp : p i with
      | false =>
        simp only [Bool.false_eq_true, if_false]
        refine ⟨n + 1 - (i + 1), by omega, h₄, _, _, ys, i + 1, rfl, hst₄, hacc₄, hns₄, hin, rfl, subS₄, hsize₄, ?_, ?_, ?_⟩
        · rw [range_filter_succ, hp]; simpa using hlen
        · rw [range_filter_succ, hp]; simpa using hels₄
        · exact fun hf => ⟨(hnd₃ hf).1, fun y m => by obtain ⟨D', o, e1, e2, e3⟩ := (hnd₃ hf).2 y m; exact ⟨D', o, e1, e2, sub₄.all _ _ e3⟩⟩
      | true =>
        simp only [if_true]
        refine (helt C i v h₄ (by omega) hin hP hp hloc₄ subS₄) _ _ _ rfl fun y h₅ tk₅ z => ?_
        obtain ⟨sub₅, hy, hyn⟩ := z
        have hacc₅ := hacc₄.sub sub₅ (by simp)
        have hz : ys.length ≤ sizeLine := by
          rw [hlen]
          refine Nat.le_trans (List.length_filter_le _ _) ?_
          simp; omega
        refine (Tr.append_call (prog := prog) (w := w) (A := A) (P := fun _ h₆ => Lst h₆ D (ys ++ [y]) ∧ Sub [D] h₅ h₆) hacc₅ hz fun h₆ a b => ⟨a, b⟩) _ _ _ rfl fun _ h₆ tk₆ z => ?_
        obtain ⟨hacc₆, sub₆⟩ := z
        have hns₅ := Ns.sub hns₄ sub₅ (by simp)
        have hns₆ := Ns.sub hns₅ sub₆ (show C ∉ [D] from notIn (by omega))
        refine ⟨n + 1 - (i + 1), by omega, h₆, _, _, ys ++ [y], i + 1, rfl, ?_, hacc₆, hns₆, hin, rfl, ?_, hns₆.lt, ?_, ?_, ?_⟩
        · exact W.frame _ _ _ hst₄ fun b hb o e => sub₆ b o (notIn (Nat.ne_of_lt (by have := hfp' b hb; omega))) (sub₅ b o (by simp) e)
        · exact fun b o hb e => sub₆ b o (notIn (Nat.ne_of_lt (by have : @LT.lt Nat _ b s₂.heap.objs.size := Heap.lt_size e; omega))) (sub₅ b o (by simp) (subS₄ b o hb e))
        · rw [range_filter_succ, hp]; simp [hlen]
        · rw [range_filter_succ, hp]
          simp only [if_true]
          intro j k u e1 e2
          rcases Nat.lt_or_ge j ys.length with hj | hj
          · rw [List.getElem?_append_left hj] at e2
            rw [List.getElem?_append_left (hlen ▸ hj)] at e1
            exact ((hels₄ j k u e1 e2).step0 sub₅).step sub₆ (by intro b hb; rw [List.mem_singleton.mp hb]; exact Nat.lt_succ_of_lt (by omega))
          · rw [List.getElem?_append_right hj] at e2
            rw [List.getElem?_append_right (hlen ▸ hj), ← hlen] at e1
            cases hq : j - ys.length with
            | zero =>
              rw [hq] at e1 e2
              simp at e1 e2
              subst e1 e2
              exact (hy.low hsize₄).step sub₆ (by intro b hb; rw [List.mem_singleton.mp hb]; exact Nat.lt_succ_of_lt (by omega))
            | succ r => rw [hq] at e2; simp at e2
        · intro hf
          obtain ⟨nd, al⟩ := hnd₃ hf
          obtain ⟨Dy, oy, ey, ly, gy⟩ := hyn hf
          have ly' : @LE.le Nat _ h₄.objs.size Dy := ly
          refine ⟨List.nodup_append.mpr ⟨nd, by simp, fun u hu w hw e => ?_⟩, fun u hu => ?_⟩
          · have hw' : w = y := by simpa using hw
            obtain ⟨D', o, e1, e2, e3⟩ := al u hu
            have : D' = Dy := by rw [hw', ey, e1] at e; exact Value.ref.inj e
            have h4 : h₄.get? Dy = some o := sub₄.all _ _ (this ▸ e3)
            rw [get_none_of_le ly] at h4; cases h4
          · rcases List.mem_append.mp hu with hu | hu
            · obtain ⟨D', o, e1, e2, e3⟩ := al u hu
              exact ⟨D', o, e1, e2, sub₆ D' o (notIn (Nat.ne_of_gt (by omega))) (sub₅.all _ _ (sub₄.all _ _ e3))⟩
            · have hu' : u = y := by simpa using hu
              exact ⟨Dy, oy, hu'.trans ey, by omega, sub₆ Dy oy (notIn (Nat.ne_of_gt (by omega))) gy⟩
    · have hin' : i = n := Nat.le_antisymm hi hin
      subst hin'
      refine W.done _ _ _ hst' fun h₂ tk₂ hk₂ => ?_
      have sub₂ : Sub wr h' h₂ := fun b o hb e => hk₂ b o hb e
      refine hRR D C h₂ _ m' ys (Nat.le_refl _) (by omega) (Ns.sub hns' sub₂ (fun hm => by have := hwr C hm; omega)) (hacc'.sub sub₂ (fun hm => by have := hwr D hm; omega)) (hsub.trans sub₂) hlen ?_ (fun hf => (hnd hf).1)
      exact fun j k y e1 e2 => (hels j k y e1 e2).step sub₂ (fun b hb => Nat.lt_of_lt_of_le (hwr b hb) (by omega))
  exact codeAny_compStart_list loop (W.self 0 _ _ _ hst₁ loop)
end
end Mine

/-! part D2 -/
namespace Mine
section
variable {prog : Program} {w : World} {A : Around} {env : Env} {h : Heap}

/-- all is kept but iterators and their like -/
def SubF (h h' : Heap) : Prop := ∀ b o, h.get? b = some o → (∀ vs, o.data ≠ .fields vs) → h'.get? b = some o
theorem Sub.subF {h h' : Heap} (x : Sub [] h h') : SubF h h' := fun b o e _ => x.all b o e
theorem SubF.trans {h h' h'' : Heap} (x : SubF h h') (y : SubF h' h'') : SubF h h'' := fun b o e n => y b o (x b o e n) n
theorem Lst.subF {h h' : Heap} {a : Addr} {vs : List Value} (x : Lst h a vs) (s : SubF h h') : Lst h' a vs := let ⟨n, e⟩ := x; ⟨n, s a _ e (fun _ q => nomatch q)⟩
theorem IsTuple.subF {h h' : Heap} {a : Addr} {vs : Array Value} (x : h.IsTuple a vs) (s : SubF h h') : h'.IsTuple a vs := let ⟨o, e, c, n, d⟩ := x; ⟨o, s a _ e (fun _ q => by rw [d] at q; cases q), c, n, d⟩
theorem Tup.subF {h h' : Heap} {v : Value} {ns : List Int} (x : Tup h v ns) (s : SubF h h') : Tup h' v ns := let ⟨a, vs, e, t, i⟩ := x; ⟨a, vs, e, IsTuple.subF t s, i⟩
theorem Keys.subF {h h' : Heap} {κ : Value → List Int} {vs : List Value} (x : Keys h κ vs) (s : SubF h h') : Keys h' κ vs := fun v m => ⟨(x v m).1.subF s, (x v m).2⟩
theorem Ns.subF {h h' : Heap} {a : Addr} {m : Str → Option Value} (x : h.Ns a m) (s : SubF h h') : h'.Ns a m := let ⟨o, es, ep, e, d, r⟩ := x; ⟨o, es, ep, s a _ e (fun _ q => by rw [d] at q; cases q), d, r⟩
theorem Loc.subF {h h' : Heap} {L : Addr} {l : List (Str × Value)} (x : Loc h L l) (s : SubF h h') : Loc h' L l := let ⟨m, a, b⟩ := x; ⟨m, Ns.subF a s, b⟩
theorem IsCell.subF {h h' : Heap} {a : Addr} {v : Option Value} (x : h.IsCell a v) (s : SubF h h') : h'.IsCell a v := let ⟨o, e, d⟩ := x; ⟨o, s a _ e (fun _ q => by rw [d] at q; cases q), d⟩

/-- the iterable gives n items, item i as V says; it makes fresh things alone; ks: what must stay meanwhile -/
def Src (prog : Program) (w : World) (A : Around) (env : Env) (iter : Expr) (h : Heap) (n : Nat) (V : Nat → Value → Prop) (ks : List Addr) : Prop :=
  Tr prog w A (eval iter env) h fun xv h₁ => Tr prog w A (pyIter xv) h₁ fun it h₂ => ∃ I fp wr St, it = .ref I ∧ Walks prog w A I fp wr n V St ∧ St 0 h₂ ∧ (∀ b ∈ fp, b < h₂.objs.size) ∧ (∀ b ∈ wr, h.get? b = none) ∧ Sub [] h h₂ ∧ h.objs.size ≤ h₂.objs.size ∧
    (∀ b ∈ fp, b ∈ ks ∨ h.objs.size ≤ b) ∧ (∀ i h', St i h' → ∀ b ∈ wr, ∀ o, h'.get? b = some o → ∃ vs, o.data = .fields vs) ∧ ∀ i h' target v, St i h' → Tr prog w A (letOwnedTupleGo target (.ref I) v) h' fun _ h'' => h'' = h'

theorem Tr.no_owned {target : Expr} {I : Addr} {o : Obj} {n : String} {v : Value} (ho : h.get? I = some o) (hc : o.cls = .type n)
    (hn : (["enumerate", "zip", "dict_itemiterator", "dict_reverseitemiterator", "odict_iterator", "itertools.zip_longest", "itertools.pairwise"] : List String).contains n = false) :
    Tr prog w A (letOwnedTupleGo target (.ref I) v) h fun _ h' => h' = h := fun s Q E e hq => by
  subst e
  have hq' := hq () s.heap s.toks rfl
  have fin : ∀ a : Addr, wpAny (model prog w) A (do
      let o ← load I
      match o.cls, o.data with
      | .type n, .fields vs =>
        if (["enumerate", "zip", "dict_itemiterator", "dict_reverseitemiterator", "odict_iterator", "itertools.zip_longest", "itertools.pairwise"] : List String).contains n && vs[0]? == some (rawInt a) then
          rule "for.unpacks-the-owned-tuple"
          updateField I 0 .none
      | _, _ => pure () : Sem Unit) Q E s := fun a => by
    refine wpAny_bind (wpAny_load ho ?_)
    rw [hc]
    cases hd : o.data <;> first | exact wpAny_pure hq' | skip
    simp only [hn, Bool.false_and, Bool.false_eq_true, if_false]
    exact wpAny_pure hq'
  unfold letOwnedTupleGo
  cases target <;> first
    | exact wpAny_pure hq'
    | (cases v <;> first | exact fin _ | exact wpAny_pure hq')

theorem Tr.iter_list {l : Addr} {vs : List Value} {P : Value → Heap → Prop} (hl : h.IsList l vs.toArray) (p : ∀ h', h'.IsListIter h.objs.size l 0 → Sub [] h h' → h'.objs.size = h.objs.size + 1 → P (.ref h.objs.size) h') : Tr prog w A (pyIter (.ref l)) h P :=
  fun s Q E e hq => by subst e; exact wpAny_pyIter_list hl (hq _ _ s.toks (p _ ⟨_, Heap.get?_push_size _ rfl, rfl, rfl⟩ (Sub.push _) (Heap.size_push ..)))

theorem Src.list {iter : Expr} {l : Addr} {vs : List Value} (hh : A.handled = none) (x : EvV prog w A env iter h (.ref l)) (hl : h.IsList l vs.toArray) : Src prog w A env iter h vs.length (fun i v => vs[i]? = some v) [l] := by
  refine x.run (Tr.iter_list hl fun h₂ hi s₂ sz => ?_)
  have hlt := IsList.lt hl
  have hne : l ≠ h.objs.size := Nat.ne_of_lt hlt
  have W := Walks.list (prog := prog) (w := w) hh h.objs.size l hne vs.toArray
  simp only [List.size_toArray] at W
  refine ⟨h.objs.size, [h.objs.size, l], [h.objs.size], (fun i h' => h'.IsListIter h.objs.size l i ∧ h'.IsList l vs.toArray), rfl, ?_, ⟨hi, IsList.sub hl s₂ (by simp)⟩, ?_, ?_, s₂, by omega, ?_, ?_, ?_⟩
  · have e : (fun (i : Nat) (v : Value) => vs.toArray[i]? = some v) = fun i v => vs[i]? = some v := by funext i v; simp
    rw [e] at W; exact W
  · intro b hb
    simp only [List.mem_cons, List.not_mem_nil, or_false] at hb
    rcases hb with rfl | rfl
    · rw [sz]; exact Nat.lt_succ_self _
    · rw [sz]; exact Nat.lt_succ_of_lt hlt
  · intro b hb; rw [List.mem_singleton.mp hb]; exact get_none_of_le (Nat.le_refl _)
  · intro b hb
    simp only [List.mem_cons, List.not_mem_nil, or_false] at hb
    rcases hb with rfl | rfl
    · exact .inr (Nat.le_refl _)
    · exact .inl (by simp)
  · rintro i h' ⟨⟨o', e1, _, e2⟩, _⟩ b hb o e
    rw [List.mem_singleton.mp hb, e1] at e
    cases e
    exact ⟨_, e2⟩
  · rintro i h' target v ⟨⟨o', e1, e2, _⟩, _⟩
    exact Tr.no_owned e1 e2 (by decide)

theorem Src.range {f : Str} {np pos : Pos} {e0 : Expr} {n : Nat} (hh : A.handled = none) (hf : EvV prog w A env (.Name f np) h (.type "range")) (x : EvI prog w A env e0 h n) (hn : n ≤ sizeLine)
    (he : backTo pos (starEach [e0] env) = [(false, eval e0 env)] := by rfl) : Src prog w A env (.Call (.Name f np) [e0] [] pos) h n (fun i v => ∃ t, v = .int (i : Nat) t) [] := by
  have hzL := szL
  refine Tr.call_type hf ?_ he (by rw [he]; rfl)
  rw [he]
  refine Tr.spl_cons (x.run fun t => Tr.spl_nil fun s Q E e hq => ?_)
  subst e
  refine call_range_1 (hq _ _ _ ?_)
  intro s' Q' E' e' hq'
  have hr : IsRange s'.heap s.heap.objs.size 0 n 1 s.toks t (s.toks + 1) := by rw [e']; exact IsRange.new _ _ _ _ _ _ _
  refine wpAny_pyIter_range hr (small_one (by omega) (by omega) (by omega) (by omega)) (hq' _ _ s'.toks ?_)
  rw [e']
  have W := Walks.range (prog := prog) (w := w) hh (s.heap.objs.size + 1) 0 1 n
  have ez : Builtin.Range.rangeSize 0 n 1 = n := by rw [rangeSize_one]; split <;> omega
  rw [Heap.size_push, ez]
  refine ⟨s.heap.objs.size + 1, [s.heap.objs.size + 1], [s.heap.objs.size + 1], (fun i h => IsRangeIter h (s.heap.objs.size + 1) (0 + (i : Nat) * 1) ((n : Int) - (i : Nat)) 1), rfl, ?_, ?_, ?_, ?_, (Sub.push _).trans (Sub.push _), by rw [Heap.size_push, Heap.size_push]; omega, ?_, ?_, ?_⟩
  · have e : (fun (i : Nat) (v : Value) => ∃ t, v = Value.int (0 + (i : Int) * 1) t) = fun i v => ∃ t, v = .int (i : Nat) t := by funext i v; simp
    rw [e] at W; exact W
  · show IsRangeIter _ _ _ _ _
    have := Heap.get?_push_size (s.heap.push { cls := .type "range", data := .fields #[.int 0 s.toks, .int n t, .int 1 (s.toks + 1)] }) (o := { cls := .type "range_iterator", data := .fields #[rawInt 0, rawInt n, rawInt 1] }) rfl
    rw [Heap.size_push] at this
    simpa using this
  · intro b hb; rw [List.mem_singleton.mp hb, Heap.size_push, Heap.size_push]; exact Nat.lt_succ_self _
  · intro b hb; rw [List.mem_singleton.mp hb]; exact get_none_of_le (Nat.le_succ _)
  · intro b hb; rw [List.mem_singleton.mp hb]; exact .inr (Nat.le_succ _)
  · intro i h' hst b hb o e
    rw [List.mem_singleton.mp hb] at e
    have hst' : IsRangeIter h' _ _ _ _ := hst
    rw [hst'] at e
    cases e
    exact ⟨_, rfl⟩
  · intro i h' target v hst
    have hst' : IsRangeIter h' _ _ _ _ := hst
    exact Tr.no_owned hst' rfl (by decide)

/-- a comprehension's value -/
theorem Tr.compF {elt iter : Expr} {x : Str} {px : Pos} {ifs : List Expr} {scope : Scope} {pos : Pos} {n : Nat} {V : Nat → Value → Prop} {ks : List Addr} {P : Value → Heap → Prop} (fl : Bool) (cl : List (Str × Addr)) (p : Nat → Bool) (G : Nat → Value → Heap → Prop)
    (src : Src prog w A env iter h n V ks) (hsz : n ≤ sizeLine)
    (tests : ∀ C i v h₃, i < n → V i v → h.objs.size ≤ C → Loc h₃ C [(x, v)] → Sub [] h h₃ → Tr prog w A (compTest ifs (compEnvC scope cl C env)) h₃ fun ok h₄ => ok = p i ∧ Sub [] h₃ h₄)
    (helt : ∀ C i v h₃, i < n → V i v → p i = true → h.objs.size ≤ C → Loc h₃ C [(x, v)] → Sub [] h h₃ → Tr prog w A (eval elt (compEnvC scope cl C env)) h₃ fun y h₄ => Sub [] h₃ h₄ ∧ Holds h₃.objs.size h₄ (G i y) ∧ (fl = true → ∃ (D : Addr) (o : Obj), y = .ref D ∧ h₃.objs.size ≤ D ∧ h₄.get? D = some o))
    (fin : ∀ D h' ys, h.objs.size ≤ D → Sub [] h h' → (fl = true → ys.Nodup) → Holds h.objs.size h' (fun h'' => Lst h'' D ys ∧ Els G ((List.range n).filter p) ys h'') → P (.ref D) h')
    (hclos : closureFor scope env = pure cl := by rfl) (hcell : ∀ y ∈ scope.names, y.2 ≠ .cell := by decide) (hkind : scope.kind = .function := by rfl)
    (hnames : ∀ y ∈ scope.names, y.2 = .local → scope.names.lookup y.1 = some .local := by decide) (hx : scope.names.lookup x = some .local := by rfl)
    (hs : ∀ x, foldedSetIterable iter env x = pure x := by intro _; rfl) : Tr prog w A (eval (.ListComp elt [⟨.Name x px, iter, ifs, 0⟩] scope pos) env) h P := by
  intro s Q E e hq
  rw [eval_ListComp]
  refine wpAny_comprehension_free (use := none) rfl hs hclos hkind hnames (src s _ E e fun xv h₁ tk y => y _ _ _ rfl fun it h₂ tk₂ z => ?_)
  obtain ⟨I, fp, wr, St, rfl, W, hst, hfp, hwr, s₂, hsize, _, _, _⟩ := z
  have low : ∀ {h₃}, Sub wr h₂ h₃ → Sub [] h h₃ := fun s₃ b o hb e => s₃ b o (fun m => by rw [hwr b m] at e; cases e) (s₂ b o hb e)
  refine comp_core (RR := fun acc C => compPost (model prog w) A E none Q acc C) W hsz p G fl hcell hkind hx hst hfp
    (fun C i v h₃ hC hi hv hl hs => tests C i v h₃ hi hv (Nat.le_trans hsize (Nat.le_of_lt hC)) hl (low hs)) (fun C i v h₃ hC hi hv hp hl hs => helt C i v h₃ hi hv hp (Nat.le_trans hsize (Nat.le_of_lt hC)) hl (low hs)) ?_
  intro D C h' tk m' ys hD hDC hns hl hs' hlen hels hnd
  refine ⟨m', hns, fun h'' hsb => hq _ _ _ (fin D h'' ys (Nat.le_trans hsize hD) ?_ hnd ?_)⟩
  · have s3 := low hs'
    exact fun b o hb e => Sub.of_same hsb b o (by
      have : b ≠ C := Nat.ne_of_lt (Nat.lt_of_lt_of_le (Heap.lt_size e) (Nat.le_trans hsize (Nat.le_trans hD (Nat.le_of_lt hDC))))
      simpa using this) (s3 b o hb e)
  · have sC : Sub [C] h' h'' := Sub.of_same hsb
    have hneDC : D ∉ [C] := by have : D ≠ C := Nat.ne_of_lt hDC; simpa using this
    refine (Holds.lst (hl.sub sC hneDC) (Nat.le_trans hsize hD)).and fun h3 k3 => ⟨hlen, fun j k y e1 e2 => ?_⟩
    exact (hels j k y e1 e2) h3 fun b o hb e => k3 b o (Nat.le_trans (Nat.le_trans hsize (Nat.le_trans hD (Nat.le_of_lt hDC))) (Nat.le_trans (Nat.le_succ _) hb)) (sC b o (by
      have : b ≠ C := Nat.ne_of_gt hb
      simpa using this) e)

/-- a comprehension that is stored into a local, the one way CPython does it -/
theorem Tr.assign_compF {elt iter : Expr} {x y : Str} {px py : Pos} {ifs : List Expr} {scope : Scope} {pos spos : Pos} {n : Nat} {V : Nat → Value → Prop} {ks : List Addr} {l : List (Str × Value)} {P : Flow → Heap → Prop} (fl : Bool) (cl : List (Str × Addr)) (p : Nat → Bool) (G : Nat → Value → Heap → Prop)
    (hn : Loc h env.locals l) (src : Src prog w A env iter h n V ks) (hsz : n ≤ sizeLine)
    (tests : ∀ C i v h₃, i < n → V i v → h.objs.size ≤ C → Loc h₃ C [(x, v)] → Sub [] h h₃ → Tr prog w A (compTest ifs (compEnvC scope cl C env)) h₃ fun ok h₄ => ok = p i ∧ Sub [] h₃ h₄)
    (helt : ∀ C i v h₃, i < n → V i v → p i = true → h.objs.size ≤ C → Loc h₃ C [(x, v)] → Sub [] h h₃ → Tr prog w A (eval elt (compEnvC scope cl C env)) h₃ fun y h₄ => Sub [] h₃ h₄ ∧ Holds h₃.objs.size h₄ (G i y) ∧ (fl = true → ∃ (D : Addr) (o : Obj), y = .ref D ∧ h₃.objs.size ≤ D ∧ h₄.get? D = some o))
    (fin : ∀ D h' ys, h.objs.size ≤ D → Loc h' env.locals ((y, .ref D) :: l) → Sub [env.locals] h h' → (fl = true → ys.Nodup) → Holds h.objs.size h' (fun h'' => Lst h'' D ys ∧ Els G ((List.range n).filter p) ys h'') → P .next h')
    (hsw : swapsWith (.ListComp elt [⟨.Name x px, iter, ifs, 0⟩] scope pos) (some (.Name y py)) spos.line env = pure true := by rfl)
    (hy : env.kindOf y = some .local := by rfl) (hp : (env.scope.kind == .class || (env.scope.kind == .module && env.locals != env.globals)) = false := by rfl)
    (hclos : closureFor scope env = pure cl := by rfl) (hcell : ∀ y ∈ scope.names, y.2 ≠ .cell := by decide) (hkind : scope.kind = .function := by rfl)
    (hnames : ∀ y ∈ scope.names, y.2 = .local → scope.names.lookup y.1 = some .local := by decide) (hx : scope.names.lookup x = some .local := by rfl)
    (hs : ∀ x, foldedSetIterable iter env x = pure x := by intro _; rfl) : Tr prog w A (exec (.Assign [.Name y py] (.ListComp elt [⟨.Name x px, iter, ifs, 0⟩] scope pos) spos) env) h P := by
  intro s Q E e hq
  have hLlt := hn.lt
  rw [exec_Assign_Name_used _ _ _ _ hsw]
  refine wpAny_bind (wpAny_standAt (wpAny_bind ?_))
  show wpAny _ A (do let _ ← comprehension (.ListComp elt [⟨.Name x px, iter, ifs, 0⟩] scope pos) scope env _ (newList []) false (eval iter env) (some (assign (.Name y py) env))) _ _ s
  refine wpAny_bind (wpAny_mono (wpAny_comprehension_free (use := some (assign (.Name y py) env)) (Q := fun _ s' => Q .next s') rfl hs hclos hkind hnames
    (src s _ E e fun xv h₁ tk y1 => y1 _ _ _ rfl fun it h₂ tk₂ z => ?_)) (fun _ s' hq => wpAny_pure (wpAny_pure hq)) fun _ _ e => e)
  obtain ⟨I, fp, wr, St, rfl, W, hst, hfp, hwr, s₂, hsize, _, _, _⟩ := z
  have low : ∀ {h₃}, Sub wr h₂ h₃ → Sub [] h h₃ := fun s₃ b o hb e => s₃ b o (fun m => by rw [hwr b m] at e; cases e) (s₂ b o hb e)
  refine comp_core (RR := fun acc C => compPost (model prog w) A E (some (assign (.Name y py) env)) (fun _ s' => Q .next s') acc C) W hsz p G fl hcell hkind hx hst hfp
    (fun C i v h₃ hC hi hv hl hs => tests C i v h₃ hi hv (Nat.le_trans hsize (Nat.le_of_lt hC)) hl (low hs)) (fun C i v h₃ hC hi hv hp hl hs => helt C i v h₃ hi hv hp (Nat.le_trans hsize (Nat.le_of_lt hC)) hl (low hs)) ?_
  intro D C h' tk m' ys hD hDC hns hl hs' hlen hels hnd
  have hDh : h.objs.size ≤ D := Nat.le_trans hsize hD
  have hCh : h.objs.size ≤ C := Nat.le_trans hDh (Nat.le_of_lt hDC)
  show wpAny _ A (assign (.Name y py) env (.ref D)) _ _ _
  refine wpAny_assign_Name (Tr.put (prog := prog) (w := w) (A := A) (P := fun _ h₃ => Loc h₃ env.locals ((y, .ref D) :: l) ∧ Sub [env.locals] h' h₃) (hn.sub (low hs') (by simp)) (fun h₃ a b => ⟨a, b⟩) hy hp _ _ _ rfl fun _ h₃ tk₃ z => ?_)
  obtain ⟨hl₃, s₃⟩ := z
  have hLC : env.locals ≠ C := Nat.ne_of_lt (Nat.lt_of_lt_of_le hLlt hCh)
  have hLD : env.locals ≠ D := Nat.ne_of_lt (Nat.lt_of_lt_of_le hLlt hDh)
  refine ⟨m', Ns.sub hns s₃ (by simpa using hLC.symm), fun h'' hsb => hq _ _ _ (fin D h'' ys hDh ?_ ?_ hnd ?_)⟩
  · exact hl₃.sub (Sub.of_same hsb) (by simpa using hLC)
  · have s3 := low hs'
    exact fun b o hb e => Sub.of_same hsb b o (by
      have : b ≠ C := Nat.ne_of_lt (Nat.lt_of_lt_of_le (Heap.lt_size e) hCh)
      simpa using this) (s₃ b o hb (s3 b o (by simp) e))
  · have sC : Sub [C] h₃ h'' := Sub.of_same hsb
    have hneDC : D ∉ [C] := by have : D ≠ C := Nat.ne_of_lt hDC; simpa using this
    refine (Holds.lst ((hl.sub s₃ (by simpa using hLD.symm)).sub sC hneDC) hDh).and fun h4 k4 => ⟨hlen, fun j k y e1 e2 => ?_⟩
    exact (hels j k y e1 e2) h4 fun b o hb e => k4 b o (Nat.le_trans hCh (Nat.le_trans (Nat.le_succ _) hb)) (sC b o (by
      have : b ≠ C := Nat.ne_of_gt hb
      simpa using this) (s₃ b o (by
      have : b ≠ env.locals := Nat.ne_of_gt (Nat.lt_trans (Nat.lt_of_lt_of_le hLlt hCh) hb)
      simpa using this) e))

theorem Tr.comp {elt iter : Expr} {x : Str} {px : Pos} {ifs : List Expr} {scope : Scope} {pos : Pos} {n : Nat} {V : Nat → Value → Prop} {ks : List Addr} {P : Value → Heap → Prop} (cl : List (Str × Addr)) (p : Nat → Bool) (G : Nat → Value → Heap → Prop)
    (src : Src prog w A env iter h n V ks) (hsz : n ≤ sizeLine)
    (tests : ∀ C i v h₃, i < n → V i v → h.objs.size ≤ C → Loc h₃ C [(x, v)] → Sub [] h h₃ → Tr prog w A (compTest ifs (compEnvC scope cl C env)) h₃ fun ok h₄ => ok = p i ∧ Sub [] h₃ h₄)
    (helt : ∀ C i v h₃, i < n → V i v → p i = true → h.objs.size ≤ C → Loc h₃ C [(x, v)] → Sub [] h h₃ → Tr prog w A (eval elt (compEnvC scope cl C env)) h₃ fun y h₄ => Sub [] h₃ h₄ ∧ Holds h₃.objs.size h₄ (G i y))
    (fin : ∀ D h' ys, h.objs.size ≤ D → Sub [] h h' → Holds h.objs.size h' (fun h'' => Lst h'' D ys ∧ Els G ((List.range n).filter p) ys h'') → P (.ref D) h')
    (hclos : closureFor scope env = pure cl := by rfl) (hcell : ∀ y ∈ scope.names, y.2 ≠ .cell := by decide) (hkind : scope.kind = .function := by rfl)
    (hnames : ∀ y ∈ scope.names, y.2 = .local → scope.names.lookup y.1 = some .local := by decide) (hx : scope.names.lookup x = some .local := by rfl)
    (hs : ∀ x, foldedSetIterable iter env x = pure x := by intro _; rfl) : Tr prog w A (eval (.ListComp elt [⟨.Name x px, iter, ifs, 0⟩] scope pos) env) h P :=
  Tr.compF false cl p G src hsz tests (fun C i v h₃ a b c d e f => Tr.mono (helt C i v h₃ a b c d e f) fun _ _ z => ⟨z.1, z.2, fun q => nomatch q⟩) (fun D h' ys a b _ c => fin D h' ys a b c) hclos hcell hkind hnames hx hs
theorem Tr.assign_comp {elt iter : Expr} {x y : Str} {px py : Pos} {ifs : List Expr} {scope : Scope} {pos spos : Pos} {n : Nat} {V : Nat → Value → Prop} {ks : List Addr} {l : List (Str × Value)} {P : Flow → Heap → Prop} (cl : List (Str × Addr)) (p : Nat → Bool) (G : Nat → Value → Heap → Prop)
    (hn : Loc h env.locals l) (src : Src prog w A env iter h n V ks) (hsz : n ≤ sizeLine)
    (tests : ∀ C i v h₃, i < n → V i v → h.objs.size ≤ C → Loc h₃ C [(x, v)] → Sub [] h h₃ → Tr prog w A (compTest ifs (compEnvC scope cl C env)) h₃ fun ok h₄ => ok = p i ∧ Sub [] h₃ h₄)
    (helt : ∀ C i v h₃, i < n → V i v → p i = true → h.objs.size ≤ C → Loc h₃ C [(x, v)] → Sub [] h h₃ → Tr prog w A (eval elt (compEnvC scope cl C env)) h₃ fun y h₄ => Sub [] h₃ h₄ ∧ Holds h₃.objs.size h₄ (G i y))
    (fin : ∀ D h' ys, h.objs.size ≤ D → Loc h' env.locals ((y, .ref D) :: l) → Sub [env.locals] h h' → Holds h.objs.size h' (fun h'' => Lst h'' D ys ∧ Els G ((List.range n).filter p) ys h'') → P .next h')
    (hsw : swapsWith (.ListComp elt [⟨.Name x px, iter, ifs, 0⟩] scope pos) (some (.Name y py)) spos.line env = pure true := by rfl)
    (hy : env.kindOf y = some .local := by rfl) (hp : (env.scope.kind == .class || (env.scope.kind == .module && env.locals != env.globals)) = false := by rfl)
    (hclos : closureFor scope env = pure cl := by rfl) (hcell : ∀ y ∈ scope.names, y.2 ≠ .cell := by decide) (hkind : scope.kind = .function := by rfl)
    (hnames : ∀ y ∈ scope.names, y.2 = .local → scope.names.lookup y.1 = some .local := by decide) (hx : scope.names.lookup x = some .local := by rfl)
    (hs : ∀ x, foldedSetIterable iter env x = pure x := by intro _; rfl) : Tr prog w A (exec (.Assign [.Name y py] (.ListComp elt [⟨.Name x px, iter, ifs, 0⟩] scope pos) spos) env) h P :=
  Tr.assign_compF false cl p G hn src hsz tests (fun C i v h₃ a b c d e f => Tr.mono (helt C i v h₃ a b c d e f) fun _ _ z => ⟨z.1, z.2, fun q => nomatch q⟩) (fun D h' ys a b c _ d => fin D h' ys a b c d) hsw hy hp hclos hcell hkind hnames hx hs

/-- a for loop -/
theorem Tr.for_ {target iter : Expr} {body : List Stmt} {pos : Pos} {n : Nat} {V : Nat → Value → Prop} {ks μ : List Addr} {P : Flow → Heap → Prop} (src : Src prog w A env iter h n V ks) (J : Nat → Heap → Prop)
    (hμ : ∀ b ∈ μ, b < h.objs.size) (hks : ∀ b ∈ ks, b ∉ μ) (hJ : ∀ i h₁ h₂, J i h₁ → SubF h₁ h₂ → J i h₂) (start : J 0 h)
    (turn : ∀ i v h₁, i < n → V i v → J i h₁ → Sub μ h h₁ → Tr prog w A (assign target env v) h₁ fun _ h₂ => Tr prog w A (execs body env) h₂ fun f h₃ => Sub μ h₁ h₃ ∧ match f with
      | .next | .cont => J (i + 1) h₃
      | .brk => P .next h₃
      | .ret v => P (.ret v) h₃)
    (done : ∀ h', J n h' → Sub μ h h' → P .next h') (hs : ∀ x, foldedSetIterable iter env x = pure x := by intro _; rfl) :
    Tr prog w A (exec (.For target iter body [] pos) env) h P := by
  intro s Q E e hq
  refine wpAny_For (src s _ E e fun xv h₁ tk y => y _ _ _ rfl fun it h₂ tk₂ z => ?_) hs
  obtain ⟨I, fp, wr, St, rfl, W, hst, hfp, hwr, s₂, hsize, hfk, hfl, hown⟩ := z
  have hfm : ∀ b ∈ fp, b ∉ μ := fun b hb m => (hfk b hb).elim (fun q => hks b q m) fun q => Nat.not_lt.mpr q (hμ b m)
  refine codeAny_forLoop_any (fun k s' => ∃ h' tk i, s' = { s with heap := h', toks := tk } ∧ St i h' ∧ J i h' ∧ Sub μ h h' ∧ i ≤ n ∧ k = n + 1 - i) ?_ (n + 1) ⟨h₂, _, 0, rfl, hst, hJ _ _ _ start s₂.subF, s₂.mono (by simp), Nat.zero_le _, rfl⟩
  rintro k s' ⟨h', tk', i, rfl, hst', hj, hsub, hi, rfl⟩
  rcases Nat.lt_or_ge i n with hin | hin
  · refine W.item i _ _ _ hin hst' fun v h₃ tk₃ hP hst₃ hk₃ => ?_
    have sub₃ : Sub wr h' h₃ := fun b o hb e => hk₃ b o hb e
    have subF₃ : SubF h' h₃ := fun b o e hn => sub₃ b o (fun m => by obtain ⟨vs, q⟩ := hfl i h' hst' b m o e; exact hn vs q) e
    have subh₃ : Sub μ h h₃ := fun b o hb e => sub₃ b o (fun m => by rw [hwr b m] at e; cases e) (hsub b o hb e)
    refine hown (i + 1) h₃ target v hst₃ _ _ _ rfl fun _ h₃' tk₃' e₃ => ?_
    subst e₃
    refine turn i v _ hin hP (hJ _ _ _ hj subF₃) subh₃ _ _ _ rfl fun _ h₄ tk₄ y => y _ _ _ rfl fun f h₅ tk₅ z => ?_
    obtain ⟨sub₅, z⟩ := z
    have fin : J (i + 1) h₅ → ∃ m, m < n + 1 - i ∧ ∃ h' tk i, ({ s with heap := h₅, toks := tk₅ } : Shared) = { s with heap := h', toks := tk } ∧ St i h' ∧ J i h' ∧ Sub μ h h' ∧ i ≤ n ∧ m = n + 1 - i := fun hj' =>
      ⟨n + 1 - (i + 1), by omega, h₅, tk₅, i + 1, rfl, W.frame _ _ _ hst₃ (fun b hb o e => sub₅ b o (hfm b hb) e), hj', subh₃.trans sub₅, hin, rfl⟩
    cases f with
    | next => exact fin z
    | cont => exact fin z
    | brk => exact hq _ _ _ z
    | ret v => exact hq _ _ _ z
  · have hin' : i = n := Nat.le_antisymm hi hin
    subst hin'
    refine W.done _ _ _ hst' fun h₃ tk₃ hk₃ => ?_
    have sub₃ : Sub wr h' h₃ := fun b o hb e => hk₃ b o hb e
    have subF₃ : SubF h' h₃ := fun b o e hn => sub₃ b o (fun m => by obtain ⟨vs, q⟩ := hfl i h' hst' b m o e; exact hn vs q) e
    have subh₃ : Sub μ h h₃ := fun b o hb e => sub₃ b o (fun m => by rw [hwr b m] at e; cases e) (hsub b o hb e)
    exact wpAny_execs_nil (hq _ _ _ (done h₃ (hJ _ _ _ hj subF₃) subh₃))
theorem Tr.tgt_name {x : Str} {p : Pos} {v : Value} {P : Unit → Heap → Prop} (k : Tr prog w A (storeName env x v) h P) : Tr prog w A (assign (.Name x p) env v) h P :=
  fun s Q E e hq => wpAny_assign_Name (k s Q E e hq)
end
end Mine

/-! part D3 -/
namespace Mine

/-- r is a list of these ints, made from place n on -/
def NewInts (n : Nat) (h : Heap) (r : Value) (ns : List Int) : Prop := ∃ D vs, r = .ref D ∧ n ≤ D ∧ Ints vs ns ∧ Lst h D vs
theorem NewInts.holds {n : Nat} {h : Heap} {r : Value} {ns : List Int} (x : NewInts n h r ns) : Holds n h fun h' => NewInts n h' r ns := fun h' k => by
  obtain ⟨D, vs, e, l, i, hl⟩ := x
  exact ⟨D, vs, e, l, i, Holds.lst hl l h' k⟩
theorem Els.ints {f : Nat → Int} {ks : List Nat} {ys : List Value} {h : Heap} (x : Els (fun i y _ => ∃ t, y = Value.int (f i) t) ks ys h) : Ints ys (ks.map f) := by
  refine ⟨by rw [x.1]; simp, fun i v n e1 e2 => ?_⟩
  rw [List.getElem?_map] at e2
  cases hk : ks[i]? with
  | none => rw [hk] at e2; simp at e2
  | some k =>
    rw [hk] at e2
    simp only [Option.map_some, Option.some.injEq] at e2
    subst e2
    exact x.2 i k v hk e1

/-- a room's passages, as _law_passages draws them -/
def passOf (x : Int) : List Int := (List.range (x % 4).toNat).map fun k => ((x.fdiv 4).fdiv (10 ^ k)).fmod 10

section
variable {prog : Program} {w : World} {A : Around} {h hS : Heap} {mg mb : Str → Option Value}

theorem passages_spec {a : Addr} {x : Int} {t : Tok} (S : Stat hS mg mb) (B : Base hS h) (hf : IsFn h a 12) (hh : A.handled = none) (hd : A.depth < recursionLimit) (h0 : 0 ≤ x) (h1 : x < 4000) :
    Tr prog w A (call (.ref a) [.int x t]) h fun r h' => Sub [] h h' ∧ NewInts h.objs.size h' r (passOf x) := by
  have hzL := szL
  refine Tr.enter hf hd (S.nolimit.keeps B) (binds := [("x", .int x t)]) (fun _ _ _ _ _ _ _ => rfl) ?_ ?_
  · intro L x hx
    simp only [List.mem_cons, List.not_mem_nil, or_false] at hx
    rcases hx with rfl; exact .inr ⟨rfl, rfl⟩
  · intro q cd h₀ hn hc s₀
    have hx : h₀.IsCell (h.objs.size + 1) (some (.int x t)) := hc "x" _ rfl
    have B₀ := B.step0 s₀
    have hL : h.objs.size < h₀.objs.size := hn.lt
    have en : x % 4 = ((x % 4).toNat : Int) := by omega
    have em : x.fmod 4 = ((x % 4).toNat : Int) := by rw [Int.fmod_eq_emod_of_nonneg _ (by decide)]; omega
    refine Tr.execs_cons (Tr.retn ?_)
    refine Tr.comp [("x", h.objs.size + 1)] (fun _ => true) (fun i y _ => ∃ t, y = Value.int (((x.fdiv 4).fdiv (10 ^ i)).fmod 10) t)
      (Src.range (n := (x % 4).toNat) hh (EvV.blt S B₀ S.range) (em ▸ EvI.fmod (EvV.int (EvV.cell hx rfl)) EvI.lit (by decide)) (by omega)) (by omega) ?_ ?_ ?_
    · intro C i v h₃ hi hv hC hl hs
      exact Tr.test_nil ⟨rfl, Sub.refl⟩
    · intro C i v h₃ hi hv _ hC hl hs
      obtain ⟨tk, rfl⟩ := hv
      have hx₃ := IsCell.sub hx hs (by simp)
      refine EvI.run (EvI.fmod (EvI.fdiv (EvI.fdiv (EvV.int (EvV.cell hx₃ rfl)) EvI.lit (by decide) (by decide)) (EvI.pow EvI.lit (EvI.name hl) (by omega) (by omega) (by decide)) ?_ ?_) EvI.lit (by decide)) fun t' => ⟨Sub.refl, Holds.const ⟨t', ?_⟩⟩
      · simp; have : i < 4 := by omega
        have e : i = 0 ∨ i = 1 ∨ i = 2 ∨ i = 3 := by omega
        rcases e with rfl | rfl | rfl | rfl <;> decide
      · have : i < 4 := by omega
        have e : i = 0 ∨ i = 1 ∨ i = 2 ∨ i = 3 := by omega
        rcases e with rfl | rfl | rfl | rfl <;> decide
      · simp
    · intro D h' ys hD s' hK
      obtain ⟨hl, hE⟩ := hK.here
      refine ⟨s₀.trans s', D, ys, rfl, Nat.le_of_lt (Nat.lt_of_lt_of_le hL hD), ?_, hl⟩
      have := hE.ints
      rw [List.filter_eq_self.mpr (by simp)] at this
      exact this

/-! ints in a list -/
def eqI (k : Int) : Value → Bool
  | .int n _ => n == k
  | _ => false
theorem any_eqI {k : Int} : ∀ {vs : List Value} {ns : List Int}, Ints vs ns → vs.toArray.any (eqI k) = ns.contains k := by
  intro vs ns hi
  rw [List.any_toArray, Bool.eq_iff_iff, List.any_eq_true, List.contains_iff_mem]
  constructor
  · rintro ⟨v, hm, hv⟩
    obtain ⟨i, hi1, e⟩ := List.mem_iff_getElem.mp hm
    have hn : i < ns.length := hi.1 ▸ hi1
    obtain ⟨t, et⟩ := hi.2 i v ns[i] (by simp [hi1, e]) (by simp [hn])
    rw [et] at hv
    have : ns[i] = k := by simpa [eqI] using hv
    exact this ▸ List.getElem_mem hn
  · intro hm
    obtain ⟨i, hi1, e⟩ := List.mem_iff_getElem.mp hm
    obtain ⟨t, et⟩ := hi.get (i := i) (n := k) (by simp [hi1, e])
    exact ⟨_, List.mem_of_getElem? et, by simp [eqI]⟩
theorem eqAt_ints {s : Shared} {B : Around} {k : Int} {t : Tok} {vs : List Value} {ns : List Int} (hi : Ints vs ns) : ∀ y, y ∈ vs.toArray → SeqAt.EqAt B s y (.int k t) (eqI k y) := by
  intro y hy
  have hy : y ∈ vs := by simpa using hy
  obtain ⟨i, hi1, e⟩ := List.mem_iff_getElem.mp hy
  have hn : i < ns.length := hi.1 ▸ hi1
  obtain ⟨u, et⟩ := hi.2 i y ns[i] (by simp [hi1, e]) (by simp [hn])
  rw [et]
  exact SeqAt.EqAt.int_int _ _ _ _
variable {env : Env}
theorem Tr.in_ints {l : Addr} {k : Int} {t : Tok} {vs : List Value} {ns : List Int} {P : Value → Heap → Prop} (hl : h.IsList l vs.toArray) (hi : Ints vs ns) (p : P (.bool (ns.contains k)) h) : Tr prog w A (compareOp .In (.int k t) (.ref l)) h P :=
  fun s Q E e hq => by
    subst e
    refine SeqAt.in_listAt (eqI k) hl (eqAt_ints hi) ?_
    rw [any_eqI hi]; exact hq _ _ s.toks p
theorem Tr.notin_ints {l : Addr} {k : Int} {t : Tok} {vs : List Value} {ns : List Int} {P : Value → Heap → Prop} (hl : h.IsList l vs.toArray) (hi : Ints vs ns) (p : P (.bool (!ns.contains k)) h) : Tr prog w A (compareOp .NotIn (.int k t) (.ref l)) h P :=
  fun s Q E e hq => by
    subst e
    refine SeqAt.notIn_listAt (eqI k) hl (eqAt_ints hi) ?_
    rw [any_eqI hi]; exact hq _ _ s.toks p
theorem EvB.in_ints {a b : Expr} {p : Pos} {l : Addr} {k : Int} {vs : List Value} {ns : List Int} (x : EvI prog w A env a h k) (y : EvV prog w A env b h (.ref l)) (hl : h.IsList l vs.toArray) (hi : Ints vs ns)
    (hm : behindInMarks .In b = false := by with_unfolding_all rfl) : EvB prog w A env (.Compare a [.In] [b] p) h (ns.contains k) :=
  Tr.test_cmp (x.run fun t => y.run (Tr.in_ints hl hi (Tr.truthy_bool ⟨rfl, rfl⟩))) hm
theorem EvB.notin_ints {a b : Expr} {p : Pos} {l : Addr} {k : Int} {vs : List Value} {ns : List Int} (x : EvI prog w A env a h k) (y : EvV prog w A env b h (.ref l)) (hl : h.IsList l vs.toArray) (hi : Ints vs ns)
    (hm : behindInMarks .NotIn b = false := by with_unfolding_all rfl) : EvB prog w A env (.Compare a [.NotIn] [b] p) h (!ns.contains k) :=
  Tr.test_cmp (x.run fun t => y.run (Tr.notin_ints hl hi (Tr.truthy_bool ⟨rfl, rfl⟩))) hm

/-! lists of lists of ints -/
def IntL (h : Heap) (u : Value) (ns : List Int) : Prop := ∃ D ws, u = .ref D ∧ Lst h D ws ∧ Ints ws ns
theorem IntL.sub0 {h h' : Heap} {u : Value} {ns : List Int} (x : IntL h u ns) (s : Sub [] h h') : IntL h' u ns := let ⟨D, ws, e, l, i⟩ := x; ⟨D, ws, e, l.sub s (by simp), i⟩
def IsRows (h : Heap) (a : Addr) (rs : List (List Int)) : Prop := ∃ vs, Lst h a vs ∧ vs.length = rs.length ∧ ∀ (i : Nat) (ns : List Int), rs[i]? = some ns → ∃ u, vs[i]? = some u ∧ IntL h u ns
theorem IsRows.sub0 {h h' : Heap} {a : Addr} {rs : List (List Int)} (x : IsRows h a rs) (s : Sub [] h h') : IsRows h' a rs :=
  let ⟨vs, l, e, k⟩ := x; ⟨vs, l.sub s (by simp), e, fun i ns q => let ⟨u, e1, e2⟩ := k i ns q; ⟨u, e1, e2.sub0 s⟩⟩
theorem getD_get {α : Type} {l : List α} {i : Nat} {d : α} (hi : i < l.length) : l[i]? = some (l.getD i d) := by simp [List.getD, List.getElem?_eq_getElem hi]
/-- one row, read by its number -/
theorem IsRows.get {h : Heap} {a : Addr} {rs : List (List Int)} {k : Nat} {ns : List Int} (x : IsRows h a rs) (hn : rs[k]? = some ns) : ∃ vs D ws, Lst h a vs ∧ vs.toArray[((k : Nat) : Int).toNat]? = some (.ref D) ∧ Lst h D ws ∧ Ints ws ns := by
  obtain ⟨vs, l, e, q⟩ := x
  obtain ⟨u, e1, D, ws, rfl, l', i⟩ := q _ _ hn
  exact ⟨vs, D, ws, l, getA e1, l', i⟩

/-- the rooms with this figure, as _law_with lists them -/
def withOf (rs : List (List Int)) (f : Int) : List Nat := (List.range 5).filter fun i => (rs.getD i []).contains f

theorem with_spec {a p : Addr} {rs : List (List Int)} {f : Int} {t : Tok} (S : Stat hS mg mb) (B : Base hS h) (hf : IsFn h a 14) (hh : A.handled = none) (hd : A.depth < recursionLimit) (hr : IsRows h p rs) (hlen : rs.length = 5) :
    Tr prog w A (call (.ref a) [.ref p, .int f t]) h fun r h' => Sub [] h h' ∧ NewInts h.objs.size h' r ((withOf rs f).map fun i => ((i : Nat) : Int)) := by
  have hzL := szL
  refine Tr.enter hf hd (S.nolimit.keeps B) (binds := [("passages", .ref p), ("figure", .int f t)]) (fun _ _ _ _ _ _ _ => rfl) ?_ ?_
  · intro L x hx
    simp only [List.mem_cons, List.not_mem_nil, or_false] at hx
    rcases hx with rfl | rfl <;> exact .inr ⟨rfl, rfl⟩
  · intro q cd h₀ hn hc s₀
    have hp : h₀.IsCell (h.objs.size + 1) (some (.ref p)) := hc "passages" _ rfl
    have hfg : h₀.IsCell (h.objs.size + 2) (some (.int f t)) := hc "figure" _ rfl
    have B₀ := B.step0 s₀
    have hr₀ := hr.sub0 s₀
    have hL : h.objs.size < h₀.objs.size := hn.lt
    refine Tr.execs_cons (Tr.retn ?_)
    refine Tr.comp [("passages", h.objs.size + 1), ("figure", h.objs.size + 2)] (fun i => (rs.getD i []).contains f) (fun i y _ => ∃ t, y = Value.int (i : Nat) t)
      (Src.range (n := 5) hh (EvV.blt S B₀ S.range) EvI.lit (by omega)) (by omega) ?_ ?_ ?_
    · intro C i v h₃ hi hv hC hl hs
      obtain ⟨tk, rfl⟩ := hv
      have hp₃ := IsCell.sub hp hs (by simp)
      have hf₃ := IsCell.sub hfg hs (by simp)
      have hr₃ := hr₀.sub0 hs
      obtain ⟨vs, D, ws, l2, e2, l3, i3⟩ := hr₃.get (k := i) (ns := rs.getD i []) (getD_get (by omega))
      exact Tr.test_one (EvB.run (EvB.in_ints (EvV.int (EvV.cell hf₃ rfl)) (EvV.item (EvV.cell hp₃ rfl) (EvI.name hl) l2.isList (by omega) (by omega) e2) l3.isList i3) ⟨rfl, Sub.refl⟩)
    · intro C i v h₃ hi hv _ hC hl hs
      obtain ⟨tk, rfl⟩ := hv
      exact EvV.run (EvV.name hl) ⟨Sub.refl, Holds.const ⟨tk, rfl⟩⟩
    · intro D h' ys hD s' hK
      obtain ⟨hl, hE⟩ := hK.here
      exact ⟨s₀.trans s', D, ys, rfl, Nat.le_of_lt (Nat.lt_of_lt_of_le hL hD), hE.ints, hl⟩
end
end Mine

/-! part H1 -/
namespace Mine

/-! the order of keys -/
theorem lexLt_asymm : ∀ {a b : List Int}, lexLt a b = true → lexLt b a = false
  | [], [], h => by simp [lexLt] at h
  | [], _ :: _, _ => rfl
  | _ :: _, [], h => by simp [lexLt] at h
  | x :: a, y :: b, h => by
    simp only [lexLt] at h ⊢
    by_cases e : x = y
    · rw [if_pos e] at h; rw [if_pos e.symm]; exact lexLt_asymm h
    · rw [if_neg e] at h; rw [if_neg (Ne.symm e)]
      have : x < y := by simpa using h
      simp; omega
theorem lexLe_trans : ∀ {a b c : List Int}, lexLt b a = false → lexLt c b = false → lexLt c a = false
  | [], _, [], _, _ => rfl
  | [], _, _ :: _, _, _ => rfl
  | _ :: _, [], _, h, _ => by simp [lexLt] at h
  | _ :: _, _ :: _, [], _, h => by simp [lexLt] at h
  | x :: a, y :: b, z :: c, h1, h2 => by
    simp only [lexLt] at h1 h2 ⊢
    by_cases e1 : y = x
    · subst e1
      rw [if_pos rfl] at h1
      by_cases e2 : z = y
      · subst e2; rw [if_pos rfl] at h2 ⊢; exact lexLe_trans h1 h2
      · rw [if_neg e2] at h2 ⊢; exact h2
    · rw [if_neg e1] at h1
      have l1 : ¬ y < x := by simpa using h1
      by_cases e2 : z = y
      · subst e2; rw [if_neg e1]; simpa using l1
      · rw [if_neg e2] at h2
        have l2 : ¬ z < y := by simpa using h2
        have : z ≠ x := by omega
        rw [if_neg this]; simp; omega
theorem lexLt_irrefl : ∀ (a : List Int), lexLt a a = false
  | [] => rfl
  | x :: a => by simp only [lexLt, if_true]; exact lexLt_irrefl a
theorem lexLe_of_lt_le {a b c : List Int} (h1 : lexLt a b = true) (h2 : lexLt c b = false) : lexLt c a = false := lexLe_trans (lexLt_asymm h1) h2

section
variable (κ : Value → List Int)
/-- place i's key -/
def at' (vs : List Value) (i : Nat) : List Int := κ (vs.getD i .none)
theorem at_set {vs : List Value} {p i : Nat} {y : Value} (hp : p < vs.length) : at' κ (vs.set p y) i = if i = p then κ y else at' κ vs i := by
  unfold at'
  simp only [List.getD_eq_getElem?_getD, List.getElem?_set]
  by_cases h : i = p
  · subst h; simp [hp]
  · rw [if_neg (Ne.symm h), if_neg h]
/-- a heap -/
def Ord (vs : List Value) : Prop := ∀ i, 0 < i → i < vs.length → lexLt (at' κ vs i) (at' κ vs ((i - 1) / 2)) = false
/-- a heap but for what touches place p -/
structure Hole (p : Nat) (vs : List Value) : Prop where
  a : ∀ i, 0 < i → i < vs.length → i ≠ p → (i - 1) / 2 ≠ p → lexLt (at' κ vs i) (at' κ vs ((i - 1) / 2)) = false
  c : ∀ i, 0 < i → i < vs.length → (i - 1) / 2 = p → 0 < p → lexLt (at' κ vs i) (at' κ vs ((p - 1) / 2)) = false

theorem sdn_ok (x : Value) (p : Nat) (vs : List Value) (hp : p < vs.length) (H : Hole κ p vs) (hb : ∀ i, 0 < i → i < vs.length → (i - 1) / 2 = p → lexLt (at' κ vs i) (κ x) = false) :
    Ord κ (sdn κ x p vs) ∧ (sdn κ x p vs).Perm (vs.set p x) := by
  fun_induction sdn κ x p vs with
  | case1 vs =>
    refine ⟨fun i h0 hi => ?_, .refl _⟩
    simp only [List.length_set] at hi
    rw [at_set κ hp, at_set κ hp, if_neg (by omega)]
    by_cases h : (i - 1) / 2 = 0
    · rw [if_pos h]; exact hb i h0 hi h
    · rw [if_neg h]; exact H.a i h0 hi (by omega) h
  | case2 p vs h0 hlt ih =>
    have hpp : (p - 1) / 2 < vs.length := by omega
    have hy : κ (vs.getD ((p - 1) / 2) .none) = at' κ vs ((p - 1) / 2) := rfl
    rw [hy] at hlt
    have key : ∀ i, at' κ (vs.set p (vs.getD ((p - 1) / 2) .none)) i = if i = p then at' κ vs ((p - 1) / 2) else at' κ vs i := fun i => at_set κ hp
    have hh : Hole κ ((p - 1) / 2) (vs.set p (vs.getD ((p - 1) / 2) .none)) := by
      constructor
      · intro i hi0 hi hne hpar
        simp only [List.length_set] at hi
        rw [key, key]
        have hip : i ≠ p := fun e => hpar (by rw [e])
        rw [if_neg hip]
        by_cases e : (i - 1) / 2 = p
        · rw [if_pos e]; exact H.c i hi0 hi e (by omega)
        · rw [if_neg e]; exact H.a i hi0 hi hip e
      · intro i hi0 hi hpar hq
        simp only [List.length_set] at hi
        rw [key, key, if_neg (show ((p - 1) / 2 - 1) / 2 ≠ p by omega)]
        have ha : lexLt (at' κ vs ((p - 1) / 2)) (at' κ vs (((p - 1) / 2 - 1) / 2)) = false := H.a _ hq hpp (by omega) (by omega)
        by_cases e : i = p
        · rw [if_pos e]; exact ha
        · rw [if_neg e]
          have := H.a i hi0 hi e (by omega)
          rw [hpar] at this
          exact lexLe_trans ha this
    have hb' : ∀ i, 0 < i → i < (vs.set p (vs.getD ((p - 1) / 2) .none)).length → (i - 1) / 2 = (p - 1) / 2 → lexLt (at' κ (vs.set p (vs.getD ((p - 1) / 2) .none)) i) (κ x) = false := by
      intro i hi0 hi hpar
      simp only [List.length_set] at hi
      rw [key]
      by_cases e : i = p
      · rw [if_pos e]; exact lexLt_asymm hlt
      · rw [if_neg e]
        have := H.a i hi0 hi e (by omega)
        rw [hpar] at this
        exact lexLe_of_lt_le hlt this
    obtain ⟨o, pm⟩ := ih (by simpa using hpp) hh hb'
    refine ⟨o, pm.trans ?_⟩
    -- the two places' values change places
    have e1 : vs.getD ((p - 1) / 2) .none = vs[(p - 1) / 2] := by simp [List.getD, hpp]
    rw [e1]
    exact swap_perm vs p ((p - 1) / 2) x hp hpp (by omega)
  | case3 p vs h0 hlt =>
    have hy : κ (vs.getD ((p - 1) / 2) .none) = at' κ vs ((p - 1) / 2) := rfl
    rw [hy] at hlt
    refine ⟨fun i hi0 hi => ?_, .refl _⟩
    simp only [List.length_set] at hi
    rw [at_set κ hp, at_set κ hp]
    by_cases e : i = p
    · rw [if_pos e, if_neg (by omega), e]; simpa using hlt
    · rw [if_neg e]
      by_cases e2 : (i - 1) / 2 = p
      · rw [if_pos e2]; exact hb i hi0 hi e2
      · rw [if_neg e2]; exact H.a i hi0 hi e e2
where
  swap_perm (vs : List Value) (p q : Nat) (x : Value) (hp : p < vs.length) (hq : q < vs.length) (hne : p ≠ q) : ((vs.set p vs[q]).set q x).Perm (vs.set p x) := by
    have h := List.set_set_perm (as := vs.set p x) (i := p) (j := q) (by simpa using hp) (by simpa using hq)
    simpa [List.getElem_set_ne hne] using h

theorem supGo_ok (x : Value) (p : Nat) (vs : List Value) (hp : p < vs.length) (H : Hole κ p vs) :
    (supGo κ p vs).2 < vs.length ∧ (supGo κ p vs).1.length = vs.length ∧ Hole κ (supGo κ p vs).2 (supGo κ p vs).1 ∧ vs.length ≤ 2 * (supGo κ p vs).2 + 1 ∧ ((supGo κ p vs).1.set (supGo κ p vs).2 x).Perm (vs.set p x) := by
  fun_induction supGo κ p vs with
  | case1 p vs h c ih =>
    have hc : c < vs.length := by simp only [c]; split <;> omega
    have hcp : (c - 1) / 2 = p ∧ 0 < c := by simp only [c]; split <;> omega
    -- the other child is no less
    have hsib : ∀ i, 0 < i → i < vs.length → (i - 1) / 2 = p → i ≠ c → lexLt (at' κ vs i) (at' κ vs c) = false := by
      intro i hi0 hi hpar hne
      have hi2 : i = 2 * p + 1 ∨ i = 2 * p + 2 := by omega
      simp only [c] at hne ⊢
      by_cases hr : 2 * p + 2 < vs.length ∧ lexLt (κ (vs.getD (2 * p + 1) .none)) (κ (vs.getD (2 * p + 2) .none)) = false
      · rw [dif_pos hr] at hne ⊢
        have : i = 2 * p + 1 := by omega
        rw [this]; exact hr.2
      · rw [dif_neg hr] at hne ⊢
        have : i = 2 * p + 2 := by omega
        subst this
        have : lexLt (κ (vs.getD (2 * p + 1) .none)) (κ (vs.getD (2 * p + 2) .none)) = true := by
          cases hq : lexLt (κ (vs.getD (2 * p + 1) .none)) (κ (vs.getD (2 * p + 2) .none)) with
          | true => rfl
          | false => exact absurd ⟨hi, hq⟩ hr
        exact lexLt_asymm this
    have key : ∀ i, at' κ (vs.set p (vs.getD c .none)) i = if i = p then at' κ vs c else at' κ vs i := fun i => at_set κ hp
    have hh : Hole κ c (vs.set p (vs.getD c .none)) := by
      constructor
      · intro i hi0 hi hne hpar
        simp only [List.length_set] at hi
        rw [key, key]
        by_cases e : i = p
        · rw [if_pos e, if_neg (by omega)]
          rw [e]
          exact H.c c hcp.2 hc hcp.1 (by omega)
        · rw [if_neg e]
          by_cases e2 : (i - 1) / 2 = p
          · rw [if_pos e2]; exact hsib i hi0 hi e2 hne
          · rw [if_neg e2]; exact H.a i hi0 hi e e2
      · intro i hi0 hi hpar _
        simp only [List.length_set] at hi
        rw [key, key, hcp.1, if_pos rfl, if_neg (by omega)]
        have := H.a i hi0 hi (by omega) (by omega)
        rwa [hpar] at this
    obtain ⟨i1, i2, i3, i4, i5⟩ := ih (by simpa using hc) hh
    simp only [List.length_set] at i1 i2 i4
    refine ⟨i1, i2, i3, i4, i5.trans ?_⟩
    have e1 : vs.getD c .none = vs[c] := by simp [List.getD, hc]
    rw [e1]
    exact sdn_ok.swap_perm vs p c x hp hc (by omega)
  | case2 p vs h => exact ⟨hp, rfl, H, by omega, .refl _⟩

theorem sup_ok (x : Value) (vs : List Value) (H : ∀ i, 0 < i → i < vs.length → (i - 1) / 2 ≠ 0 → lexLt (at' κ vs i) (at' κ vs ((i - 1) / 2)) = false) (hp : 0 < vs.length) :
    Ord κ (sup κ x vs) ∧ (sup κ x vs).Perm (vs.set 0 x) := by
  obtain ⟨i1, i2, i3, i4, i5⟩ := supGo_ok κ x 0 vs hp ⟨fun i h0 hi _ hn => H i h0 hi hn, fun i _ _ _ h => absurd h (Nat.lt_irrefl _)⟩
  unfold sup
  generalize supGo κ 0 vs = r at *
  obtain ⟨us, p⟩ := r
  dsimp only at *
  have hpu : p < us.length := by omega
  have hole : Hole κ p (us.set p x) := by
    constructor
    · intro i h0 hi hne hpar
      simp only [List.length_set] at hi
      rw [at_set κ hpu, at_set κ hpu, if_neg hne, if_neg hpar]
      exact i3.a i h0 hi hne hpar
    · intro i h0 hi hpar hq
      simp only [List.length_set] at hi
      omega
  obtain ⟨o, pm⟩ := sdn_ok κ x p (us.set p x) (by simpa using hpu) hole (fun i h0 hi hpar => by simp only [List.length_set] at hi; omega)
  refine ⟨o, pm.trans ?_⟩
  simpa using i5

theorem push_ok (x : Value) (vs : List Value) (H : Ord κ vs) : Ord κ (sdn κ x vs.length (vs ++ [x])) ∧ (sdn κ x vs.length (vs ++ [x])).Perm (x :: vs) := by
  have hat : ∀ i, i < vs.length → at' κ (vs ++ [x]) i = at' κ vs i := fun i hi => by
    unfold at'
    simp only [List.getD_eq_getElem?_getD, List.getElem?_append_left hi]
  have hole : Hole κ vs.length (vs ++ [x]) := by
    constructor
    · intro i h0 hi hne hpar
      simp only [List.length_append, List.length_cons, List.length_nil] at hi
      have : i < vs.length := by omega
      rw [hat i this, hat _ (by omega)]
      exact H i h0 this
    · intro i h0 hi hpar _
      simp only [List.length_append, List.length_cons, List.length_nil] at hi; omega
  obtain ⟨o, pm⟩ := sdn_ok κ x vs.length (vs ++ [x]) (by simp) hole (fun i h0 hi hpar => by simp only [List.length_append, List.length_cons, List.length_nil] at hi; omega)
  refine ⟨o, pm.trans ?_⟩
  rw [List.set_append_right _ _ (Nat.le_refl _)]
  simp

/-- the first is the least -/
theorem ord_min (vs : List Value) (H : Ord κ vs) : ∀ i, i < vs.length → lexLt (at' κ vs i) (at' κ vs 0) = false := by
  intro i
  induction i using Nat.strongRecOn with
  | _ i ih =>
    intro hi
    by_cases h0 : i = 0
    · subst h0; exact lexLt_irrefl _
    · exact lexLe_trans (ih ((i - 1) / 2) (by omega) (by omega)) (H i (by omega) hi)

theorem pop_ok (v : Value) (us : List Value) (H : Ord κ (us ++ [v])) : Ord κ (popd κ v us).2 ∧ (us ++ [v]).Perm ((popd κ v us).1 :: (popd κ v us).2) ∧ ∀ u ∈ (popd κ v us).2, lexLt (κ u) (κ (popd κ v us).1) = false := by
  have hmin : ∀ u ∈ us ++ [v], lexLt (κ u) (at' κ (us ++ [v]) 0) = false := by
    intro u hu
    obtain ⟨i, hi, e⟩ := List.mem_iff_getElem.mp hu
    have := ord_min κ _ H i hi
    have e2 : at' κ (us ++ [v]) i = κ u := by unfold at'; rw [← e]; simp [List.getD, List.getElem?_eq_getElem hi]
    rwa [e2] at this
  cases us with
  | nil => exact ⟨fun i _ hi => by simp [popd] at hi, .refl _, fun u hu => by simp [popd] at hu⟩
  | cons x r =>
    simp only [popd]
    have hat : ∀ i, 0 < i → i < (v :: r).length → at' κ (v :: r) i = at' κ (x :: r ++ [v]) i := fun i h0 hi => by
      obtain ⟨j, rfl⟩ : ∃ j, i = j + 1 := ⟨i - 1, by omega⟩
      simp only [List.length_cons] at hi
      unfold at'
      simp [List.getD_eq_getElem?_getD, List.getElem?_append_left (show j < r.length by omega)]
    obtain ⟨o, pm⟩ := sup_ok κ v (v :: r) (fun i h0 hi hn => by
      rw [hat i h0 hi, hat _ (by omega) (by omega)]
      exact H i h0 (by simp at hi ⊢; omega)) (by simp)
    have pm' : (sup κ v (v :: r)).Perm (v :: r) := by simpa using pm
    refine ⟨o, ?_, fun u hu => ?_⟩
    · have : (x :: r ++ [v]).Perm (x :: v :: r) := by
        simp
      exact this.trans (pm'.symm.cons x)
    · have : u ∈ x :: r ++ [v] := by
        have := pm'.mem_iff.mp hu
        simp only [List.mem_cons, List.cons_append, List.mem_append, List.not_mem_nil, or_false] at this ⊢
        rcases this with h | h
        · exact .inr (.inr h)
        · exact .inr (.inl h)
      exact hmin u this
end
end Mine

/-! part H2 -/
namespace Mine

theorem Ints.uniq {vs : List Value} {ns ks : List Int} (x : Ints vs ns) (y : Ints vs ks) : ns = ks := by
  apply List.ext_getElem?
  intro i
  rcases Nat.lt_or_ge i vs.length with hi | hi
  · have h1 : i < ns.length := x.1 ▸ hi
    have h2 : i < ks.length := y.1 ▸ hi
    obtain ⟨t, e1⟩ := x.2 i vs[i] ns[i] (by simp [hi]) (by simp [h1])
    obtain ⟨u, e2⟩ := y.2 i vs[i] ks[i] (by simp [hi]) (by simp [h2])
    rw [e1] at e2
    simp [h1, h2, (Value.int.inj e2).1]
  · rw [List.getElem?_eq_none (x.1 ▸ hi), List.getElem?_eq_none (y.1 ▸ hi)]
theorem Tup.uniq {h : Heap} {v : Value} {ns ks : List Int} (x : Tup h v ns) (y : Tup h v ks) : ns = ks := by
  obtain ⟨a, vs, rfl, ⟨o, e, _, n, d⟩, i⟩ := x
  obtain ⟨b, ws, e2, ⟨o', e', _, n', d'⟩, i'⟩ := y
  cases e2
  rw [e] at e'; cases e'
  rw [d] at d'
  have : vs = ws := by simpa using congrArg (fun x => match x with | Data.seq a _ => a.toList | _ => []) d'
  subst this
  exact i.uniq i'

/-- at hp stands a heap of tuples with these keys, in whatever order -/
def HpO (h : Heap) (hp : Addr) (ks : List (List Int)) : Prop := ∃ κ vs, Lst h hp vs ∧ Keys h κ vs ∧ Ord κ vs ∧ ks.Perm (vs.map κ)
theorem HpO.sub {μ : List Addr} {h h' : Heap} {hp : Addr} {ks : List (List Int)} (x : HpO h hp ks) (s : Sub μ h h') (n : hp ∉ μ) (k : ∀ a ∈ μ, ∀ vs, ¬ h.IsTuple a vs) : HpO h' hp ks :=
  let ⟨κ, vs, l, q, o, p⟩ := x; ⟨κ, vs, l.sub s n, fun v m => ⟨(q v m).1.sub s k, (q v m).2⟩, o, p⟩
theorem HpO.sub0 {h h' : Heap} {hp : Addr} {ks : List (List Int)} (x : HpO h hp ks) (s : Sub [] h h') : HpO h' hp ks := x.sub s (by simp) (by simp)
theorem HpO.subF {h h' : Heap} {hp : Addr} {ks : List (List Int)} (x : HpO h hp ks) (s : SubF h h') : HpO h' hp ks :=
  let ⟨κ, vs, l, q, o, p⟩ := x; ⟨κ, vs, l.subF s, q.subF s, o, p⟩
theorem HpO.subLoc {L : Addr} {l : List (Str × Value)} {h h' : Heap} {hp : Addr} {ks : List (List Int)} (x : HpO h hp ks) (s : Sub [L] h h') (hl : Loc h L l) : HpO h' hp ks :=
  x.sub s (by obtain ⟨κ, vs, y, _⟩ := x; simpa using hl.ne y) (by simp; intro ws q; exact hl.ne_tuple q rfl)
theorem HpO.lst {h : Heap} {hp : Addr} {ks : List (List Int)} (x : HpO h hp ks) : ∃ vs, Lst h hp vs ∧ vs.length = ks.length :=
  let ⟨κ, vs, l, _, _, p⟩ := x; ⟨vs, l, by simpa using p.length_eq.symm⟩
theorem HpO.perm {h : Heap} {hp : Addr} {ks ks' : List (List Int)} (x : HpO h hp ks) (p : ks'.Perm ks) : HpO h hp ks' :=
  let ⟨κ, vs, l, q, o, r⟩ := x; ⟨κ, vs, l, q, o, p.trans r⟩
theorem HpO.nil {h : Heap} {hp : Addr} (x : Lst h hp []) : HpO h hp [] := ⟨fun _ => [], [], x, fun _ m => (by simp at m), fun i _ hi => (by simp at hi), .refl _⟩

theorem ord_congr {κ κ' : Value → List Int} {vs : List Value} (e : ∀ v ∈ vs, κ' v = κ v) (x : Ord κ vs) : Ord κ' vs := by
  have key : ∀ i, i < vs.length → at' κ' vs i = at' κ vs i := fun i hi => by
    unfold at'
    have : vs.getD i .none = vs[i] := by simp [List.getD, hi]
    rw [this]; exact e _ (List.getElem_mem hi)
  intro i h0 hi
  rw [key i hi, key _ (by omega)]
  exact x i h0 hi

section
variable {prog : Program} {w : World} {A : Around} {h hS : Heap} {mg mb : Str → Option Value}

theorem push_spec' {a hp : Addr} {v : Value} {k : List Int} {ks : List (List Int)} (S : Stat hS mg mb) (B : Base hS h) (hnp : hS.get? hp = none) (hf : IsFn h a 7) (hd : A.depth + 1 < recursionLimit) (hu : A.units + 6 < cLine)
    (x : HpO h hp ks) (t : Tup h v k) (hk : k.length = 3) (hz : ks.length < sizeLine) :
    Tr prog w A (call (.ref a) [.ref hp, v]) h fun _ h' => HpO h' hp (k :: ks) ∧ Sub [hp] h h' := by
  obtain ⟨κ, vs, l, q, o, p⟩ := x
  have hlen : vs.length = ks.length := by simpa using p.length_eq.symm
  let κ' : Value → List Int := fun u => if u = v then k else κ u
  have e : ∀ u ∈ vs, κ' u = κ u := fun u m => by
    simp only [κ']
    split
    · rename_i hu'; subst hu'; exact t.uniq (q u m).1
    · rfl
  have ev : κ' v = k := by simp [κ']
  have q' : Keys h κ' (vs ++ [v]) := fun u m => by
    rcases List.mem_append.mp m with m | m
    · rw [e u m]; exact q u m
    · have : u = v := by simpa using m
      subst this; rw [ev]; exact ⟨t, hk⟩
  obtain ⟨o', pm⟩ := push_ok κ' v vs (ord_congr e o)
  refine Tr.mono (push_spec (κ := κ') S B hnp hf hd hu l q' (by omega)) fun _ h' z => ⟨⟨κ', _, z.1, (q'.subL z.2 l).mono fun u m => ?_, o', ?_⟩, z.2⟩
  · have := pm.mem_iff.mp m
    simp only [List.mem_cons] at this
    simp only [List.mem_append, List.mem_cons, List.not_mem_nil, or_false]
    exact this.symm
  · have e2 : vs.map κ' = vs.map κ := List.map_congr_left e
    have := (pm.map κ').symm
    rw [List.map_cons, ev, e2] at this
    exact (p.cons k).trans this

theorem pop_spec' {a hp : Addr} {ks : List (List Int)} (S : Stat hS mg mb) (B : Base hS h) (hnp : hS.get? hp = none) (hf : IsFn h a 8) (hd : A.depth + 2 < recursionLimit) (hu : A.units + 9 < cLine)
    (x : HpO h hp ks) (hne : ks ≠ []) (hz : ks.length ≤ sizeLine) :
    Tr prog w A (call (.ref a) [.ref hp]) h fun r h' => ∃ k ks', Tup h' r k ∧ k.length = 3 ∧ HpO h' hp ks' ∧ ks.Perm (k :: ks') ∧ (∀ k₂ ∈ ks', lexLt k₂ k = false) ∧ Sub [hp] h h' := by
  obtain ⟨κ, vs, l, q, o, p⟩ := x
  have hlen : vs.length = ks.length := by simpa using p.length_eq.symm
  have hvne : vs ≠ [] := fun e => hne (by rw [e] at hlen; exact List.length_eq_zero_iff.mp hlen.symm)
  obtain ⟨us, v, rfl⟩ : ∃ us v, vs = us ++ [v] := ⟨vs.dropLast, vs.getLast hvne, (List.dropLast_concat_getLast hvne).symm⟩
  obtain ⟨o', pm, mn⟩ := pop_ok κ v us o
  have hm1 : (popd κ v us).1 ∈ us ++ [v] := pm.mem_iff.mpr (by simp)
  have hm2 : ∀ u ∈ (popd κ v us).2, u ∈ us ++ [v] := fun u m => pm.mem_iff.mpr (by simp [m])
  refine Tr.mono (pop_spec (κ := κ) S B hnp hf hd hu l q (by simp at hlen; omega)) fun r h' z => ?_
  obtain ⟨rfl, l', s'⟩ := z
  refine ⟨κ (popd κ v us).1, (popd κ v us).2.map κ, (q _ hm1).1.subL s' l, (q _ hm1).2, ⟨κ, _, l', (q.subL s' l).mono hm2, o', .refl _⟩, ?_, ?_, s'⟩
  · exact p.trans (by simpa using pm.map κ)
  · intro k₂ m
    obtain ⟨u, m', rfl⟩ := List.mem_map.mp m
    exact mn u m'
end
end Mine

/-! part E1 -/
namespace Mine

theorem Sub.lift {μ : List Addr} {h h₁ h₂ : Heap} (x : Sub [] h h₁) (y : Sub μ h₁ h₂) (n : ∀ a ∈ μ, h.get? a = none) : Sub [] h h₂ :=
  fun b o hb e => y b o (fun m => by rw [n b m] at e; cases e) (x b o hb e)

section
variable {prog : Program} {w : World} {A : Around} {env : Env} {h hS : Heap} {mg mb : Str → Option Value}

theorem Tr.put_cell {x : Str} {v : Value} {c : Addr} {v₀ : Option Value} {P : Unit → Heap → Prop} (hv : h.IsCell c v₀) (hc : env.cells.lookup x = some c) (k : ∀ h', h'.IsCell c (some v) → Sub [c] h h' → P () h')
    (hk : env.scope.kind = .function := by rfl) (hl : env.kindOf x = some .cell := by rfl) : Tr prog w A (storeName env x v) h P :=
  fun s Q E e hq => by subst e; exact wpAny_storeName_cell hk hl hc hv fun h' a b => hq _ _ s.toks (k h' a (Sub.of_same b))

/-- a list is compared with an empty one -/
theorem Tr.ne_nil {a b : Addr} {vs : List Value} {P : Value → Heap → Prop} (x : Lst h a vs) (y : Lst h b []) (hu : A.units < cLine) (p : P (.bool (vs.length != 0)) h) : Tr prog w A (compareOp .NotEq (.ref a) (.ref b)) h P :=
  fun s Q E e hq => by
    subst e
    cases vs with
    | nil => exact SeqAt.RcNeAt.lists (e := fun _ => true) x.isList y.isList rfl hu (fun j h1 _ => absurd h1 (by simp)) prog w E _ (hq _ _ s.toks p)
    | cons v r => exact SeqAt.RcNeAt.lists_lengths x.isList y.isList (by simp) hu prog w E _ (hq _ _ s.toks p)
end

theorem map_range_getD {α : Type} (l : List α) (d : α) : (List.range l.length).map (fun i => l.getD i d) = l := by
  apply List.ext_getElem?
  intro i
  rcases Nat.lt_or_ge i l.length with hi | hi
  · simp [hi, List.getD]
  · simp [hi]
theorem map_range_f {α β : Type} (l : List α) (d : α) (f : α → β) : (List.range l.length).map (fun i => f (l.getD i d)) = l.map f := by
  conv => rhs; rw [← map_range_getD l d]
  rw [List.map_map]; rfl
theorem filter_range_getD {α : Type} (l : List α) (d : α) (P : α → Bool) : (((List.range l.length).filter fun i => P (l.getD i d)).map fun i => l.getD i d) = l.filter P := by
  conv => rhs; rw [← map_range_getD l d]
  rw [List.filter_map]; rfl
theorem filter_range_len {α : Type} (l : List α) (d : α) (P : α → Bool) : ((List.range l.length).filter fun i => P (l.getD i d)).length = (l.filter P).length := by
  rw [← filter_range_getD l d P]; simp
theorem Ints.getD {vs : List Value} {ns : List Int} (x : Ints vs ns) {i : Nat} {v : Value} (e : vs[i]? = some v) : ∃ t, v = .int (ns.getD i 0) t := by
  have hi : i < ns.length := by rw [← x.1]; exact (List.getElem?_eq_some_iff.mp e).1
  exact x.2 i v _ e (getD_get hi)

def kindsOf (rs : List (List Int)) (i : Nat) : List Int := (rs.getD i []).map fun f => f.fdiv 5
/-- room a has a kind of passage that room b lacks -/
def lacks (rs : List (List Int)) (a b : Nat) : Bool := ((rs.getD a []).filter fun f => !(kindsOf rs b).contains (f.fdiv 5)).length != 0

section
variable {prog : Program} {w : World} {A : Around} {h hS : Heap} {mg mb : Str → Option Value}

theorem begun_spec {a p : Addr} {rs : List (List Int)} (S : Stat hS mg mb) (B : Base hS h) (hf : IsFn h a 15) (hh : A.handled = none) (hd : A.depth + 2 < recursionLimit) (hu : A.units + 9 < cLine) (hr : IsRows h p rs) (hlen : rs.length = 5)
    (hrl : ∀ r ∈ rs, r.length ≤ 3) :
    Tr prog w A (call (.ref a) [.ref p]) h fun r h' => Sub [] h h' ∧ ∃ hp ks, r = .ref hp ∧ h.objs.size ≤ hp ∧ HpO h' hp ks ∧ ks.length ≤ 25 ∧ ∀ k, k ∈ ks ↔ ∃ a b : Nat, a < 5 ∧ b < 5 ∧ k = [1, (a : Int), (b : Int)] ∧ lacks rs a b = true := by
  have hzL := szL
  refine Tr.enter hf (by omega) (S.nolimit.keeps B) (binds := [("passages", .ref p)]) (fun _ _ _ _ _ _ _ => rfl) ?_ ?_
  · intro L x hx
    simp only [List.mem_cons, List.not_mem_nil, or_false] at hx
    rcases hx with rfl; exact .inl rfl
  · intro q cd h₀ hn hc s₀
    have hl : Loc h₀ h.objs.size [("passages", .ref p)] := Loc.of_ns hn (by
      intro p hp
      simp only [List.mem_cons, List.not_mem_nil, or_false] at hp
      rcases hp with rfl; rfl)
    have hc₀ : h₀.IsCell (h.objs.size + 1) none := hc "kinds" _ rfl
    have hLn : h.get? h.objs.size = none := get_none_of_le (Nat.le_refl _)
    have hCn : h.get? (h.objs.size + 1) = none := get_none_of_le (Nat.le_succ _)
    refine Tr.execs_cons (Tr.assign_name (Tr.list_disp (Tr.spl0 (Tr.newlist (fun h₁ hp₁ s₁ => ?_) (by simp)))))
    have hcl : h.objs.size + 1 < h₀.objs.size := hc₀.lt
    generalize hpe : h₀.objs.size = hp at *
    have hpn : h.get? hp = none := get_none_of_le (Nat.le_of_lt (Nat.lt_trans (Nat.lt_succ_self _) hcl))
    have hl₁ := hl.sub s₁ (by simp)
    have hc₁ := IsCell.sub hc₀ s₁ (by simp)
    refine Tr.putA hl₁ fun h₂ hl₂ s₂ => ?_
    generalize hLe : h.objs.size = L at *
    have hLp : L ≠ hp := Nat.ne_of_lt (Nat.lt_trans (Nat.lt_succ_self _) hcl)
    have hCp : L + 1 ≠ hp := Nat.ne_of_lt hcl
    have hLC : L ≠ L + 1 := Nat.ne_of_lt (Nat.lt_succ_self _)
    have fr : ∀ b ∈ [L, L + 1, hp], h.get? b = none := by simp [hLn, hCn, hpn]
    have frS : ∀ b ∈ [L, L + 1, hp], hS.get? b = none := by
      intro b hb
      simp only [List.mem_cons, List.not_mem_nil, or_false] at hb
      rcases hb with rfl | rfl | rfl
      · exact B.fresh (by rw [hLe]; exact Nat.le_refl _)
      · exact B.fresh (by rw [hLe]; exact Nat.le_succ _)
      · exact B.fresh (by rw [hLe]; exact Nat.le_of_lt (Nat.lt_trans (Nat.lt_succ_self _) hcl))
    have s₀₂ : Sub [] h h₂ := (s₀.trans s₁).lift s₂ (by simp [hLn])
    have hc₂ := IsCell.sub hc₁ s₂ (by simpa using hLC.symm)
    have hp₂ : HpO h₂ hp [] := HpO.nil (hp₁.sub s₂ (by simpa using hLp.symm))
    -- one pair of rooms
    have inner : ∀ (i j : Nat) (ks : List (List Int)) (h₃ : Heap) (t1 t2 : Tok) (v₀ : Option Value), i < 5 → j < 5 → Loc h₃ L [("heap", .ref hp), ("passages", .ref p), ("one", .int (i : Nat) t1), ("other", .int (j : Nat) t2)] → h₃.IsCell (L + 1) v₀ → HpO h₃ hp ks → ks.length ≤ 25 → Sub [] h h₃ →
        Tr prog w (A.deeper (envAt 15 q cd L a)) (execs ((bodyAt 15).getD 1 (.Pass default) |> fun st => match st with | .For _ _ b _ _ => (match b with | .For _ _ b _ _ :: _ => b | _ => []) | _ => []) (envAt 15 q cd L a)) h₃ fun f h₄ =>
          Sub [L, L + 1, hp] h₃ h₄ ∧ f = .next ∧ Loc h₄ L [("heap", .ref hp), ("passages", .ref p), ("one", .int (i : Nat) t1)] ∧ (∃ v, h₄.IsCell (L + 1) v) ∧ HpO h₄ hp (if lacks rs i j then [1, (i : Int), (j : Int)] :: ks else ks) := by
      intro i j ks h₃ t1 t2 v₀ hi hj hl₃ hc₃ hp₃ hks s₃
      have B₃ : Base hS h₃ := B.step0 s₃
      have hr₃ := hr.sub0 s₃
      obtain ⟨vs, D, ws, l2, e2, l3, i3⟩ := hr₃.get (k := j) (ns := rs.getD j []) (getD_get (by omega))
      have hwl : ws.length ≤ 3 := by rw [i3.1]; exact hrl _ (List.mem_of_getElem? (getD_get (by omega)))
      refine Tr.execs_cons (Tr.assign_name ?_)
      refine Tr.comp [] (fun _ => true) (fun k y _ => ∃ t, y = Value.int (((rs.getD j []).getD k 0).fdiv 5) t)
        (Src.list hh (EvV.item (EvV.name hl₃) (EvI.name hl₃) l2.isList (by omega) (by omega) e2) l3.isList) (by omega) ?_ ?_ ?_
      · intro C k v h₅ hk hv hC hl hs
        exact Tr.test_nil ⟨rfl, Sub.refl⟩
      · intro C k v h₅ hk hv _ hC hl hs
        obtain ⟨tk, rfl⟩ := i3.getD hv
        exact EvI.run (EvI.fdiv (EvI.name hl) EvI.lit (by decide) (by decide)) fun t => ⟨Sub.refl, Holds.const ⟨t, rfl⟩⟩
      intro K h₄ ys hK s₄ hE
      obtain ⟨lK, hE⟩ := hE.here
      have iK : Ints ys (kindsOf rs j) := by
        have := hE.ints
        rw [List.filter_eq_self.mpr (by simp), i3.1, map_range_f (rs.getD j []) 0 fun f => f.fdiv 5] at this
        exact this
      refine Tr.put_cell (IsCell.sub hc₃ s₄ (by simp)) rfl fun h₅ hc₅ s₅ => ?_
      have hl₅ := (hl₃.sub s₄ (by simp)).sub s₅ (by simpa using hLC)
      have hKC : K ≠ L + 1 := Nat.ne_of_gt (Nat.lt_of_lt_of_le hc₃.lt hK)
      have lK₅ := lK.sub s₅ (by simpa using hKC)
      have s₀₅ : Sub [] h h₅ := (s₃.trans s₄).lift s₅ (by simp [hCn])
      have hr₅ := hr.sub0 s₀₅
      have B₅ := B.step0 s₀₅
      have hp₅ : HpO h₅ hp ks := (hp₃.sub0 s₄).sub s₅ (by simpa using hCp.symm) (by
        simp; intro us hq
        obtain ⟨o, e1, d1⟩ := IsCell.sub hc₃ s₄ (by simp)
        obtain ⟨o', e1', _, n', d1'⟩ := hq
        rw [e1] at e1'; cases e1'; rw [d1] at d1'; cases d1')
      obtain ⟨vs', D', ws', l2', e2', l3', i3'⟩ := hr₅.get (k := i) (ns := rs.getD i []) (getD_get (by omega))
      have hwl' : ws'.length ≤ 3 := by rw [i3'.1]; exact hrl _ (List.mem_of_getElem? (getD_get (by omega)))
      refine Tr.execs_cons (Tr.ite (Tr.test_cmp ?_))
      refine Tr.comp [("kinds", L + 1)] (fun k => !(kindsOf rs j).contains (((rs.getD i []).getD k 0).fdiv 5)) (fun k y _ => True)
        (Src.list hh (EvV.item (EvV.name hl₅) (EvI.name hl₅) l2'.isList (by omega) (by omega) e2') l3'.isList) (by omega) ?_ ?_ ?_
      · intro C k v h₆ hk hv hC hl hs
        obtain ⟨tk, rfl⟩ := i3'.getD hv
        exact Tr.test_one (EvB.run (EvB.notin_ints (EvI.fdiv (EvI.name hl) EvI.lit (by decide) (by decide)) (EvV.cell (IsCell.sub hc₅ hs (by simp)) rfl) (lK₅.sub hs (by simp)).isList iK) ⟨rfl, Sub.refl⟩)
      · intro C k v h₆ hk hv _ hC hl hs
        exact EvV.run (EvV.name hl) ⟨Sub.refl, Holds.const trivial⟩
      intro M h₆ zs hM s₆ hE₆
      obtain ⟨lM, hEl⟩ := hE₆.here
      have hzl : zs.length = ((rs.getD i []).filter fun f => !(kindsOf rs j).contains (f.fdiv 5)).length := by
        rw [hEl.1, i3'.1, filter_range_len (rs.getD i []) 0 fun f => !(kindsOf rs j).contains (f.fdiv 5)]
      refine Tr.list_disp (Tr.spl0 (Tr.newlist (fun h₇ l₇ s₇ => ?_) (by simp)))
      refine Tr.ne_nil (lM.sub s₇ (by simp)) l₇ (show A.units + 3 < cLine by omega) (Tr.truthy_bool ?_)
      have hcond : (zs.length != 0) = lacks rs i j := by rw [hzl]; rfl
      rw [hcond]
      have hl₇ := (hl₅.sub s₆ (by simp)).sub s₇ (by simp)
      have hp₇ := (hp₅.sub0 s₆).sub0 s₇
      have hc₇ := IsCell.sub (IsCell.sub hc₅ s₆ (by simp)) s₇ (by simp)
      have s₃₇ : Sub [L, L + 1, hp] h₃ h₇ := (s₄.mono (by simp)).trans ((s₅.one (by simp)).trans ((s₆.trans s₇).mono (by simp)))
      have s₀₇ : Sub [] h h₇ := s₃.lift s₃₇ fr
      cases hlk : lacks rs i j with
      | false =>
        simp only [Bool.false_eq_true, if_false]
        exact Tr.execs_nil (Tr.execs_nil ⟨s₃₇, rfl, hl₇.pick, ⟨_, hc₇⟩, hp₇⟩)
      | true =>
        simp only [if_true]
        have B₇ := B.step0 s₀₇
        obtain ⟨a', ha', hf'⟩ := S.push
        refine Tr.execs_cons (Tr.expr ?_)
        have hf₇ : IsFn h₇ a' 7 := IsFnD.sub hf' B₇
        obtain ⟨o, nm, q', doc, pm, cd', ct, an, ho, hdt, hcd⟩ := id hf₇
        refine Tr.call_def (EvV.glob S B₇ ha') hdt (Tr.spl (EvV.run (EvV.name hl₇) (Tr.spl (Tr.tuple_disp (Tr.spl (EvI.run EvI.lit fun u1 => Tr.spl (EvI.run (EvI.name hl₇) fun u2 => Tr.spl (EvI.run (EvI.name hl₇) fun u3 => Tr.spl0 (Tr.newtuple (fun h₈ t₈ s₈ => Tr.spl0 ⟨s₈.all _ _ ho, ?_⟩) (by simp [hzL]))))))))))
        have s₀₈ := s₀₇.trans s₈
        have B₈ := B.step0 s₀₈
        refine Tr.mono (push_spec' (k := [1, (i : Int), (j : Int)]) S B₈ (frS hp (by simp)) (IsFnD.sub hf' B₈) (show A.depth + 1 + 1 < recursionLimit by omega) (show A.units + 3 + 6 < cLine by omega) (hp₇.sub0 s₈) ⟨_, _, rfl, t₈, ?_⟩ rfl (by omega)) fun _ h₉ z => ?_
        · exact Ints.cons rfl (Ints.cons rfl (Ints.cons rfl Ints.nil))
        · refine Tr.execs_nil (Tr.execs_nil ⟨(s₃₇.trans (s₈.mono (by simp))).trans (z.2.one (by simp)), rfl, ?_, ⟨_, IsCell.sub (IsCell.sub hc₇ s₈ (by simp)) z.2 (by simpa using hCp)⟩, z.1⟩)
          exact ((hl₇.sub s₈ (by simp)).sub z.2 (by simpa using hLp)).pick
    -- the pairs so far
    let So : Nat → Nat → List Int → Prop := fun i j k => ∃ a b : Nat, (a < i ∧ b < 5 ∨ a = i ∧ b < j) ∧ k = [1, (a : Int), (b : Int)] ∧ lacks rs a b = true
    have hμ : ∀ {h' : Heap} {l : List (Str × Value)} {v : Option Value} {ks : List (List Int)}, Loc h' L l → h'.IsCell (L + 1) v → HpO h' hp ks → ∀ b ∈ [L, L + 1, hp], b < h'.objs.size := by
      intro h' l v ks a1 a2 a3 b hb
      obtain ⟨vs, a3, _⟩ := a3.lst
      simp only [List.mem_cons, List.not_mem_nil, or_false] at hb
      rcases hb with rfl | rfl | rfl
      · exact a1.lt
      · exact a2.lt
      · exact a3.lt
    refine Tr.execs_cons (Tr.for_ (μ := [L, L + 1, hp]) (Src.range (n := 5) hh (EvV.blt S (B.step0 s₀₂) S.range) EvI.lit (by omega))
      (fun i h' => Loc h' L [("heap", .ref hp), ("passages", .ref p)] ∧ (∃ v, h'.IsCell (L + 1) v) ∧ ∃ ks, HpO h' hp ks ∧ ks.length ≤ 5 * i ∧ ∀ k, k ∈ ks ↔ So i 0 k)
      (hμ hl₂ hc₂ hp₂) (by simp) ?_ ⟨hl₂, ⟨_, hc₂⟩, [], hp₂, by simp, fun k => ⟨fun m => by simp at m, fun ⟨a, b, m, _⟩ => by omega⟩⟩ ?_ ?_)
    · rintro i h₃ h₄ ⟨x1, ⟨v, x2⟩, ks, x3, x4⟩ sF
      exact ⟨x1.subF sF, ⟨v, IsCell.subF x2 sF⟩, ks, x3.subF sF, x4⟩
    · rintro i v h₃ hi ⟨t1, rfl⟩ ⟨hl₃, ⟨v₀, hc₃⟩, ks, hp₃, hk1, hk2⟩ s₃
      have s₀₃ : Sub [] h h₃ := s₀₂.lift s₃ fr
      refine Tr.tgt_name (Tr.putA hl₃ fun h₄ hl₄ s₄ => ?_)
      have hc₄ := IsCell.sub hc₃ s₄ (by simpa using hLC.symm)
      have hp₄ := hp₃.subLoc s₄ hl₃
      have s₀₄ : Sub [] h h₄ := s₀₃.lift s₄ (by simp [hLn])
      refine Tr.execs_cons (Tr.for_ (μ := [L, L + 1, hp]) (Src.range (n := 5) hh (EvV.blt S (B.step0 s₀₄) S.range) EvI.lit (by omega))
        (fun j h' => Loc h' L [("heap", .ref hp), ("passages", .ref p), ("one", .int (i : Nat) t1)] ∧ (∃ v, h'.IsCell (L + 1) v) ∧ ∃ ks, HpO h' hp ks ∧ ks.length ≤ 5 * i + j ∧ ∀ k, k ∈ ks ↔ So i j k)
        (hμ hl₄ hc₄ hp₄) (by simp) ?_ ⟨hl₄.pick, ⟨_, hc₄⟩, ks, hp₄, hk1, hk2⟩ ?_ ?_)
      · rintro j h₅ h₆ ⟨x1, ⟨v, x2⟩, ks, x3, x4⟩ sF
        exact ⟨x1.subF sF, ⟨v, IsCell.subF x2 sF⟩, ks, x3.subF sF, x4⟩
      · rintro j v h₅ hj ⟨t2, rfl⟩ ⟨hl₅, ⟨v₁, hc₅⟩, ks, hp₅, hk1, hk2⟩ s₅
        have s₀₅ : Sub [] h h₅ := s₀₄.lift s₅ fr
        refine Tr.tgt_name (Tr.putA hl₅ fun h₆ hl₆ s₆ => ?_)
        refine Tr.mono (inner i j ks h₆ t1 t2 v₁ hi hj hl₆.pick (IsCell.sub hc₅ s₆ (by simpa using hLC.symm)) (hp₅.subLoc s₆ hl₅) (by omega) (s₀₅.lift s₆ (by simp [hLn]))) fun f h₇ z => ?_
        obtain ⟨z1, rfl, z2, z3, z4⟩ := z
        refine ⟨(s₆.one (by simp)).trans z1, z2, z3, _, z4, ?_, ?_⟩
        · split <;> (try simp only [List.length_cons]) <;> omega
        · intro k
          cases hlk : lacks rs i j with
          | true =>
            simp only [if_true, List.mem_cons, hk2]
            constructor
            · rintro (rfl | ⟨a, b, m, e1, e2⟩)
              · exact ⟨i, j, .inr ⟨rfl, Nat.lt_succ_self _⟩, rfl, hlk⟩
              · exact ⟨a, b, by omega, e1, e2⟩
            · rintro ⟨a, b, m, e1, e2⟩
              by_cases hq : a = i ∧ b = j
              · obtain ⟨rfl, rfl⟩ := hq; exact .inl e1
              · exact .inr ⟨a, b, by omega, e1, e2⟩
          | false =>
            simp only [Bool.false_eq_true, if_false, hk2]
            constructor
            · rintro ⟨a, b, m, e1, e2⟩
              exact ⟨a, b, by omega, e1, e2⟩
            · rintro ⟨a, b, m, e1, e2⟩
              by_cases hq : a = i ∧ b = j
              · obtain ⟨rfl, rfl⟩ := hq; rw [hlk] at e2; cases e2
              · exact ⟨a, b, by omega, e1, e2⟩
      · rintro h₅ ⟨hl₅, hc₅, ks, hp₅, hk1, hk2⟩ s₅
        refine Tr.execs_nil ⟨(s₄.one (by simp)).trans s₅, hl₅.pick, hc₅, ks, hp₅, by omega, fun k => (hk2 k).trans ⟨fun ⟨a, b, m, e⟩ => ⟨a, b, by omega, e⟩, fun ⟨a, b, m, e⟩ => ⟨a, b, by omega, e⟩⟩⟩
    · rintro h₃ ⟨hl₃, hc₃, ks, hp₃, hk1, hk2⟩ s₃
      refine Tr.execs_cons (Tr.retn (EvV.run (EvV.name hl₃) ⟨s₀₂.lift s₃ fr, hp, ks, rfl, by omega, hp₃, by omega, fun k => (hk2 k).trans ⟨fun ⟨a, b, m, e⟩ => ⟨a, b, by omega, by omega, e⟩, fun ⟨a, b, m1, m2, e⟩ => ⟨a, b, .inl ⟨m1, m2⟩, e⟩⟩⟩))
end
end Mine

/-! part D4 -/
namespace Mine
section
variable {prog : Program} {w : World} {A : Around} {env : Env} {h : Heap}

/-- the loop behind the iterable's value -/
def Loop (prog : Program) (w : World) (A : Around) (env : Env) (target : Expr) (body : List Stmt) (xv : Value) (h : Heap) (P : Flow → Heap → Prop) : Prop :=
  ∀ (s : Shared) (Q : Flow → Shared → Prop) (E : Value → Shared → Prop), s.heap = h → (∀ f h' tk, P f h' → Q f { s with heap := h', toks := tk }) →
    wpAny (model prog w) A (pyIter xv) (fun it s₂ => codeAny (model prog w) A (.forLoop target it body [] env) (fun r s' => match r with | .ok f => Q f s' | .error e => cameBackBy (model prog w) A env E e s') s₂) E s
theorem Tr.for_e {target iter : Expr} {body : List Stmt} {pos : Pos} {P : Flow → Heap → Prop} (x : Tr prog w A (eval iter env) h fun xv h₁ => Loop prog w A env target body xv h₁ P) (hs : ∀ x, foldedSetIterable iter env x = pure x := by intro _; rfl) :
    Tr prog w A (exec (.For target iter body [] pos) env) h P := fun s Q E e hq => wpAny_For (x s _ E e fun xv h₁ tk y => y _ _ _ rfl hq) hs
def SrcV (prog : Program) (w : World) (A : Around) (xv : Value) (h : Heap) (n : Nat) (V : Nat → Value → Prop) (ks : List Addr) : Prop :=
  Tr prog w A (pyIter xv) h fun it h₂ => ∃ I fp wr St, it = .ref I ∧ Walks prog w A I fp wr n V St ∧ St 0 h₂ ∧ (∀ b ∈ fp, b < h₂.objs.size) ∧ (∀ b ∈ wr, h.get? b = none) ∧ Sub [] h h₂ ∧ h.objs.size ≤ h₂.objs.size ∧
    (∀ b ∈ fp, b ∈ ks ∨ h.objs.size ≤ b) ∧ (∀ i h', St i h' → ∀ b ∈ wr, ∀ o, h'.get? b = some o → ∃ vs, o.data = .fields vs) ∧ ∀ i h' target v, St i h' → Tr prog w A (letOwnedTupleGo target (.ref I) v) h' fun _ h'' => h'' = h'
theorem Loop.intro {target : Expr} {body : List Stmt} {xv : Value} {n : Nat} {V : Nat → Value → Prop} {ks μ : List Addr} {P : Flow → Heap → Prop} (src : SrcV prog w A xv h n V ks) (J : Nat → Heap → Prop)
    (hμ : ∀ b ∈ μ, b < h.objs.size) (hks : ∀ b ∈ ks, b ∉ μ) (hJ : ∀ i h₁ h₂, J i h₁ → SubF h₁ h₂ → J i h₂) (start : J 0 h)
    (turn : ∀ i v h₁, i < n → V i v → J i h₁ → Sub μ h h₁ → Tr prog w A (assign target env v) h₁ fun _ h₂ => Tr prog w A (execs body env) h₂ fun f h₃ => Sub μ h₁ h₃ ∧ match f with
      | .next | .cont => J (i + 1) h₃
      | .brk => P .next h₃
      | .ret v => P (.ret v) h₃)
    (done : ∀ h', J n h' → Sub μ h h' → P .next h') : Loop prog w A env target body xv h P := by
  intro s Q E e hq
  refine src s _ E e fun it h₂ tk₂ z => ?_
  obtain ⟨I, fp, wr, St, rfl, W, hst, hfp, hwr, s₂, hsize, hfk, hfl, hown⟩ := z
  have hfm : ∀ b ∈ fp, b ∉ μ := fun b hb m => (hfk b hb).elim (fun q => hks b q m) fun q => Nat.not_lt.mpr q (hμ b m)
  refine codeAny_forLoop_any (fun k s' => ∃ h' tk i, s' = { s with heap := h', toks := tk } ∧ St i h' ∧ J i h' ∧ Sub μ h h' ∧ i ≤ n ∧ k = n + 1 - i) ?_ (n + 1) ⟨h₂, _, 0, rfl, hst, hJ _ _ _ start s₂.subF, s₂.mono (by simp), Nat.zero_le _, rfl⟩
  rintro k s' ⟨h', tk', i, rfl, hst', hj, hsub, hi, rfl⟩
  rcases Nat.lt_or_ge i n with hin | hin
  · refine W.item i _ _ _ hin hst' fun v h₃ tk₃ hP hst₃ hk₃ => ?_
    have sub₃ : Sub wr h' h₃ := fun b o hb e => hk₃ b o hb e
    have subF₃ : SubF h' h₃ := fun b o e hn => sub₃ b o (fun m => by obtain ⟨vs, q⟩ := hfl i h' hst' b m o e; exact hn vs q) e
    have subh₃ : Sub μ h h₃ := fun b o hb e => sub₃ b o (fun m => by rw [hwr b m] at e; cases e) (hsub b o hb e)
    refine hown (i + 1) h₃ target v hst₃ _ _ _ rfl fun _ h₃' tk₃' e₃ => ?_
    subst e₃
    refine turn i v _ hin hP (hJ _ _ _ hj subF₃) subh₃ _ _ _ rfl fun _ h₄ tk₄ y => y _ _ _ rfl fun f h₅ tk₅ z => ?_
    obtain ⟨sub₅, z⟩ := z
    have fin : J (i + 1) h₅ → ∃ m, m < n + 1 - i ∧ ∃ h' tk i, ({ s with heap := h₅, toks := tk₅ } : Shared) = { s with heap := h', toks := tk } ∧ St i h' ∧ J i h' ∧ Sub μ h h' ∧ i ≤ n ∧ m = n + 1 - i := fun hj' =>
      ⟨n + 1 - (i + 1), by omega, h₅, tk₅, i + 1, rfl, W.frame _ _ _ hst₃ (fun b hb o e => sub₅ b o (hfm b hb) e), hj', subh₃.trans sub₅, hin, rfl⟩
    cases f with
    | next => exact fin z
    | cont => exact fin z
    | brk => exact hq _ _ _ z
    | ret v => exact hq _ _ _ z
  · have hin' : i = n := Nat.le_antisymm hi hin
    subst hin'
    refine W.done _ _ _ hst' fun h₃ tk₃ hk₃ => ?_
    have sub₃ : Sub wr h' h₃ := fun b o hb e => hk₃ b o hb e
    have subF₃ : SubF h' h₃ := fun b o e hn => sub₃ b o (fun m => by obtain ⟨vs, q⟩ := hfl i h' hst' b m o e; exact hn vs q) e
    have subh₃ : Sub μ h h₃ := fun b o hb e => sub₃ b o (fun m => by rw [hwr b m] at e; cases e) (hsub b o hb e)
    exact wpAny_execs_nil (hq _ _ _ (done h₃ (hJ _ _ _ hj subF₃) subh₃))
theorem SrcV.list {l : Addr} {vs : List Value} (hh : A.handled = none) (hl : h.IsList l vs.toArray) : SrcV prog w A (.ref l) h vs.length (fun i v => vs[i]? = some v) [l] := by
  refine Tr.iter_list hl fun h₂ hi s₂ sz => ?_
  have hlt := IsList.lt hl
  have hne : l ≠ h.objs.size := Nat.ne_of_lt hlt
  have W := Walks.list (prog := prog) (w := w) hh h.objs.size l hne vs.toArray
  simp only [List.size_toArray] at W
  refine ⟨h.objs.size, [h.objs.size, l], [h.objs.size], (fun i h' => h'.IsListIter h.objs.size l i ∧ h'.IsList l vs.toArray), rfl, ?_, ⟨hi, IsList.sub hl s₂ (by simp)⟩, ?_, ?_, s₂, by omega, ?_, ?_, ?_⟩
  · have e : (fun (i : Nat) (v : Value) => vs.toArray[i]? = some v) = fun i v => vs[i]? = some v := by funext i v; simp
    rw [e] at W; exact W
  · intro b hb
    simp only [List.mem_cons, List.not_mem_nil, or_false] at hb
    rcases hb with rfl | rfl
    · rw [sz]; exact Nat.lt_succ_self _
    · rw [sz]; exact Nat.lt_succ_of_lt hlt
  · intro b hb; rw [List.mem_singleton.mp hb]; exact get_none_of_le (Nat.le_refl _)
  · intro b hb
    simp only [List.mem_cons, List.not_mem_nil, or_false] at hb
    rcases hb with rfl | rfl
    · exact .inr (Nat.le_refl _)
    · exact .inl (by simp)
  · rintro i h' ⟨⟨o', e1, _, e2⟩, _⟩ b hb o e
    rw [List.mem_singleton.mp hb, e1] at e
    cases e
    exact ⟨_, e2⟩
  · rintro i h' target v ⟨⟨o', e1, e2, _⟩, _⟩
    exact Tr.no_owned e1 e2 (by decide)

/-! targets -/
theorem Tr.tgt_tuple3 {x1 x2 x3 : Str} {p1 p2 p3 pos : Pos} {k : Nat} {t : Addr} {v1 v2 v3 : Value} {P : Unit → Heap → Prop} (hh : A.handled = none) (ht : h.IsTuple t #[v1, v2, v3])
    (K : ∀ h', Sub [] h h' → Tr prog w A (storeName env x1 v1) h' fun _ h1 => Tr prog w A (storeName env x2 v2) h1 fun _ h2 => Tr prog w A (storeName env x3 v3) h2 P) :
    Tr prog w A (assign (.Tuple [.Name x1 p1, .Name x2 p2, .Name x3 p3] k pos) env (.ref t)) h P := fun s Q E e hq => by
  subst e
  refine wpAny_assign_Tuple hh ht rfl rfl fun h' he => ?_
  have s' : Sub [] s.heap h' := (Sub.of_ext he).drop (get_none_of_le (Nat.le_refl _))
  show wpAny (model prog w) A (assignInOrder [assign (.Name x1 p1) env, assign (.Name x2 p2) env, assign (.Name x3 p3) env] [v1, v2, v3]) Q E _
  unfold assignInOrder
  refine wpAny_bind (wpAny_holding (wpAny_assign_Name (K h' s' _ _ _ rfl fun _ h1 tk1 y => ?_)))
  unfold assignInOrder
  refine wpAny_bind (wpAny_holding (wpAny_assign_Name (y _ _ _ rfl fun _ h2 tk2 y => ?_)))
  unfold assignInOrder
  refine wpAny_bind (wpAny_holding (wpAny_assign_Name (y _ _ _ rfl fun _ h3 tk3 y => ?_)))
  unfold assignInOrder
  exact wpAny_pure (hq _ _ _ y)
theorem Tr.assign_tuple {elts : List Expr} {k : Nat} {tpos pos : Pos} {value : Expr} {P : Flow → Heap → Prop}
    (x : Tr prog w A (eval value env) h fun v h₁ => Tr prog w A (assign (.Tuple elts k tpos) env v) h₁ fun _ => P .next)
    (hs : swapsWithSole [.Tuple elts k tpos] value pos.line env = pure false := by rfl)
    (hw : swappedStores [.Tuple elts k tpos] value env = pure none := by rfl) : Tr prog w A (exec (.Assign [.Tuple elts k tpos] value pos) env) h P :=
  fun s Q E e hq => Assign_Tuple (x s _ E e fun v h₁ tk y => y _ _ _ rfl fun _ h₂ tk₂ z => hq _ _ _ z) hs hw
end
end Mine

/-! part E2 -/
namespace Mine

/-- a table of five rows of five ints, its rows lists of their own -/
structure Tab (h : Heap) (T : Addr) (rows : List Addr) (M : Nat → Nat → Int) : Prop where
  top : Lst h T (rows.map Value.ref)
  len : rows.length = 5
  nd : rows.Nodup
  row : ∀ (i : Nat) (r : Addr), rows[i]? = some r → ∃ ws, Lst h r ws ∧ Ints ws ((List.range 5).map (M i))
  nt : T ∉ rows
theorem Tab.sub {μ : List Addr} {h h' : Heap} {T : Addr} {rows : List Addr} {M : Nat → Nat → Int} (x : Tab h T rows M) (s : Sub μ h h') (n : T ∉ μ) (k : ∀ r ∈ rows, r ∉ μ) : Tab h' T rows M :=
  ⟨x.top.sub s n, x.len, x.nd, fun i r e => let ⟨ws, l, q⟩ := x.row i r e; ⟨ws, l.sub s (k r (List.mem_of_getElem? e)), q⟩, x.nt⟩
theorem Tab.sub0 {h h' : Heap} {T : Addr} {rows : List Addr} {M : Nat → Nat → Int} (x : Tab h T rows M) (s : Sub [] h h') : Tab h' T rows M := x.sub s (by simp) (by simp)
theorem Tab.subF {h h' : Heap} {T : Addr} {rows : List Addr} {M : Nat → Nat → Int} (x : Tab h T rows M) (s : SubF h h') : Tab h' T rows M :=
  ⟨x.top.subF s, x.len, x.nd, fun i r e => let ⟨ws, l, q⟩ := x.row i r e; ⟨ws, l.subF s, q⟩, x.nt⟩
theorem Tab.subLoc {L : Addr} {l : List (Str × Value)} {h h' : Heap} {T : Addr} {rows : List Addr} {M : Nat → Nat → Int} (x : Tab h T rows M) (s : Sub [L] h h') (hl : Loc h L l) : Tab h' T rows M :=
  x.sub s (by simpa using hl.ne x.top) fun r m => by
    obtain ⟨i, hi, e⟩ := List.mem_iff_getElem.mp m
    obtain ⟨ws, q, _⟩ := x.row i r (by simp [hi, e])
    simpa using hl.ne q
theorem cell_ne_lst {h : Heap} {c a : Addr} {v : Option Value} {vs : List Value} (x : h.IsCell c v) (y : Lst h a vs) : a ≠ c := fun e => by
  obtain ⟨o, e1, d1⟩ := x
  obtain ⟨n, e2⟩ := y
  rw [e] at e2
  have e3 : h.get? c = some _ := e2
  rw [e1] at e3; cases e3; cases d1
theorem Tab.subCell {c : Addr} {v : Option Value} {h h' : Heap} {T : Addr} {rows : List Addr} {M : Nat → Nat → Int} (x : Tab h T rows M) (s : Sub [c] h h') (hc : h.IsCell c v) : Tab h' T rows M :=
  x.sub s (by simpa using cell_ne_lst hc x.top) fun r m => by
    obtain ⟨i, hi, e⟩ := List.mem_iff_getElem.mp m
    obtain ⟨ws, q, _⟩ := x.row i r (by simp [hi, e])
    simpa using cell_ne_lst hc q
theorem cell_no_tuple {h : Heap} {c : Addr} {v : Option Value} (x : h.IsCell c v) : ∀ vs, ¬ h.IsTuple c vs := fun vs y => by
  obtain ⟨o, e1, d1⟩ := x
  obtain ⟨o', e2, _, n, d2⟩ := y
  rw [e1] at e2; cases e2; rw [d1] at d2; cases d2
theorem lst_no_tuple {h : Heap} {a : Addr} {ws : List Value} (x : Lst h a ws) : ∀ vs, ¬ h.IsTuple a vs := fun vs y => tuple_ne_list y x.isList rfl
theorem HpO.subCell {c : Addr} {v : Option Value} {h h' : Heap} {hp : Addr} {ks : List (List Int)} (x : HpO h hp ks) (s : Sub [c] h h') (hc : h.IsCell c v) : HpO h' hp ks :=
  x.sub s (by obtain ⟨vs, l, _⟩ := x.lst; simpa using cell_ne_lst hc l) (by simpa using cell_no_tuple hc)
theorem Tab.get {h : Heap} {T : Addr} {rows : List Addr} {M : Nat → Nat → Int} (x : Tab h T rows M) {i : Nat} (hi : i < 5) :
    ∃ (r : Addr) (ws : List Value), rows[i]? = some r ∧ (rows.map Value.ref).toArray[((i : Nat) : Int).toNat]? = some (.ref r) ∧ Lst h r ws ∧ Ints ws ((List.range 5).map (M i)) ∧ ws.length = 5 := by
  have hi' : i < rows.length := by rw [x.len]; exact hi
  obtain ⟨ws, l, q⟩ := x.row i rows[i] (by simp [hi'])
  exact ⟨rows[i], ws, by simp [hi'], getA (by simp [hi']), l, q, by rw [q.1]; simp⟩
theorem rowInts {ws : List Value} {M : Nat → Int} (q : Ints ws ((List.range 5).map M)) {j : Nat} (hj : j < 5) : ∃ t, ws.toArray[((j : Nat) : Int).toNat]? = some (.int (M j) t) := by
  obtain ⟨t, e⟩ := q.get (i := j) (n := M j) (by simp [hj])
  exact ⟨t, getA e⟩

/-- the table with two entries more -/
def put1 (M : Nat → Nat → Int) (a b : Nat) (t : Int) (i j : Nat) : Int := if i = a ∧ j = b then t else M i j
def put (M : Nat → Nat → Int) (a b : Nat) (t : Int) : Nat → Nat → Int := put1 (put1 M a b t) b a t
def waysOf (rs : List (List Int)) (M : Nat → Nat → Int) (kind goal follower : Nat) : List Int :=
  (rs.getD follower []).filter fun f => f.fdiv 5 == (kind : Int) && M goal (f.fmod 5).toNat == 0
def four (a b : Nat) : List (Nat × Nat × Nat) := [(0, a, b), (1, a, b), (0, b, a), (1, b, a)]
/-- a key that one turn pushes -/
def Pushed (rs : List (List Int)) (M : Nat → Nat → Int) (t : Int) (a b : Nat) (k : List Int) : Prop :=
  ∃ kind goal e mover follower : Nat, (kind, goal, e) ∈ four a b ∧ mover ∈ withOf rs (5 * kind + goal : Nat) ∧ follower ∈ withOf rs (5 * kind + e : Nat) ∧ (waysOf rs M kind goal follower).length = 0 ∧ M mover follower = 0 ∧ k = [t + 1, (mover : Int), (follower : Int)]

theorem Ints.set {vs : List Value} {ns : List Int} {j : Nat} {n : Int} {t : Tok} (x : Ints vs ns) : Ints (vs.set j (.int n t)) (ns.set j n) := by
  refine ⟨by simp [x.1], fun i v m e1 e2 => ?_⟩
  rw [List.getElem?_set] at e1 e2
  by_cases h : j = i
  · rw [if_pos h] at e1 e2
    split at e1
    · cases e1
      split at e2
      · cases e2; exact ⟨t, rfl⟩
      · cases e2
    · cases e1
  · rw [if_neg h] at e1 e2
    exact x.2 i v m e1 e2
theorem set_range (M : Nat → Int) (j : Nat) (t : Int) (hj : j < 5) : ((List.range 5).map M).set j t = (List.range 5).map fun i => if i = j then t else M i := by
  apply List.ext_getElem?
  intro i
  rw [List.getElem?_set]
  by_cases h : j = i
  · subst h; simp [hj]
  · rw [if_neg h]
    rcases Nat.lt_or_ge i 5 with hi | hi
    · simp [hi, Ne.symm h]
    · simp [hi]

section
variable {prog : Program} {w : World} {A : Around} {env : Env} {h : Heap}
/-- one entry is stored -/
theorem Tr.set_tab {T : Addr} {rows : List Addr} {M : Nat → Nat → Int} {a b : Nat} {t : Int} {u : Tok} {r : Addr} {ib : Int} {ub : Tok} {P : Unit → Heap → Prop} (x : Tab h T rows M) (ha : rows[a]? = some r) (hb : b < 5) (hib : ib = (b : Int))
    (p : ∀ h', Tab h' T rows (put1 M a b t) → Sub [r] h h' → P () h') : Tr prog w A (setItem (.ref r) (.int ib ub) (.int t u)) h P := by
  obtain ⟨ws, l, q⟩ := x.row a r ha
  have hw : ws.length = 5 := by rw [q.1]; simp
  have hzL := szL
  refine Tr.setL l hib (by omega) (by omega) fun h' l' s' => p h' ⟨?_, x.len, x.nd, fun i r' e => ?_, x.nt⟩ s'
  · exact x.top.sub s' (by have : T ≠ r := fun e => x.nt (e ▸ List.mem_of_getElem? ha); simpa using this)
  · by_cases hi : i = a
    · subst hi
      have : r' = r := by rw [ha] at e; exact (Option.some.inj e).symm
      subst this
      refine ⟨_, l', ?_⟩
      have := q.set (j := b) (n := t) (t := u)
      rw [set_range _ _ _ hb] at this
      have e2 : (fun j => if j = b then t else M i j) = put1 M i b t i := by funext j; simp [put1]
      rw [e2] at this
      exact this
    · obtain ⟨ws', l2, q2⟩ := x.row i r' e
      refine ⟨ws', l2.sub s' ?_, ?_⟩
      · have : r' ≠ r := fun e' => by
          subst e'
          have h1 : i < rows.length := (List.getElem?_eq_some_iff.mp e).1
          exact hi ((List.getElem?_inj h1 x.nd).mp (e.trans ha.symm))
        simpa using this
      · have : put1 M a b t i = M i := by funext j; simp [put1, hi]
        rw [this]; exact q2
/-- a list is compared with an empty one -/
theorem Tr.eq_nil {a b : Addr} {vs : List Value} {P : Value → Heap → Prop} (x : Lst h a vs) (y : Lst h b []) (hu : A.units < cLine) (p : P (.bool (vs.length == 0)) h) : Tr prog w A (compareOp .Eq (.ref a) (.ref b)) h P :=
  fun s Q E e hq => by
    subst e
    cases vs with
    | nil => exact SeqAt.eq_listAt (e := fun _ => true) x.isList y.isList rfl hu (fun j h1 _ => absurd h1 (by simp)) (hq _ _ s.toks p)
    | cons v r => exact SeqAt.eq_list_lengthsAt x.isList y.isList (by simp) hu (hq _ _ s.toks p)
end
end Mine

/-! part E3 -/
namespace Mine

def tWhile : List Stmt := match (bodyAt 16).getD 2 (.Pass default) with | .While _ b _ _ => b | _ => []
def tIf : List Stmt := match tWhile.getD 1 (.Pass default) with | .If _ b _ _ => b | _ => []
def tFor1 : List Stmt := match tIf.getD 2 (.Pass default) with | .For _ _ b _ _ => b | _ => []
def tFor2 : List Stmt := match tFor1.getD 0 (.Pass default) with | .For _ _ b _ _ => b | _ => []
def tFor3 : List Stmt := match tFor2.getD 0 (.Pass default) with | .For _ _ b _ _ => b | _ => []

/-- where _law_turns stands -/
structure TW (h0 h : Heap) (L T hp : Addr) (rows : List Addr) (M : Nat → Nat → Int) (ks : List (List Int)) (l : List (Str × Value)) (kv gv : Option Value) : Prop where
  loc : Loc h L l
  ct : h.IsCell (L + 1) (some (.ref T))
  ck : h.IsCell (L + 2) kv
  cg : h.IsCell (L + 3) gv
  tab : Tab h T rows M
  hpo : HpO h hp ks
  sub : Sub [] h0 h
  fr : ∀ b ∈ L :: (L + 2) :: (L + 3) :: hp :: rows, h0.get? b = none
  nr : hp ∉ rows
  nT : hp ≠ T

section
variable {h0 h h' : Heap} {L T hp : Addr} {rows : List Addr} {M : Nat → Nat → Int} {ks ks' : List (List Int)} {l l' : List (Str × Value)} {kv gv : Option Value}
theorem TW.sub0 (x : TW h0 h L T hp rows M ks l kv gv) (s : Sub [] h h') : TW h0 h' L T hp rows M ks l kv gv :=
  ⟨x.loc.sub s (by simp), IsCell.sub x.ct s (by simp), IsCell.sub x.ck s (by simp), IsCell.sub x.cg s (by simp), x.tab.sub0 s, x.hpo.sub0 s, x.sub.trans s, x.fr, x.nr, x.nT⟩
theorem TW.subF (x : TW h0 h L T hp rows M ks l kv gv) (s : SubF h h') (s0 : Sub [] h0 h') : TW h0 h' L T hp rows M ks l kv gv :=
  ⟨x.loc.subF s, IsCell.subF x.ct s, IsCell.subF x.ck s, IsCell.subF x.cg s, x.tab.subF s, x.hpo.subF s, s0, x.fr, x.nr, x.nT⟩
theorem ne1 {L : Nat} : L + 1 ≠ L := Nat.ne_of_gt (Nat.lt_succ_self _)
theorem TW.put (x : TW h0 h L T hp rows M ks l kv gv) (s : Sub [L] h h') (hl : Loc h' L l') : TW h0 h' L T hp rows M ks l' kv gv :=
  ⟨hl, IsCell.sub x.ct s (by simp), IsCell.sub x.ck s (by simp), IsCell.sub x.cg s (by simp), x.tab.subLoc s x.loc, x.hpo.subLoc s x.loc, x.sub.lift s (by simpa using x.fr L (by simp)), x.fr, x.nr, x.nT⟩
theorem TW.pick (x : TW h0 h L T hp rows M ks l kv gv) (k : AllIn l l' := by (repeat (first | exact trivial | refine ⟨rfl, ?_⟩))) : TW h0 h L T hp rows M ks l' kv gv :=
  ⟨x.loc.pick k, x.ct, x.ck, x.cg, x.tab, x.hpo, x.sub, x.fr, x.nr, x.nT⟩
theorem TW.neL (x : TW h0 h L T hp rows M ks l kv gv) : L ≠ hp := let ⟨_, y, _⟩ := x.hpo.lst; (x.loc.ne y).symm
theorem TW.heap (x : TW h0 h L T hp rows M ks l kv gv) (s : Sub [hp] h h') (y : HpO h' hp ks') : TW h0 h' L T hp rows M ks' l kv gv := by
  obtain ⟨vs, z, _⟩ := x.hpo.lst
  exact ⟨x.loc.sub s (by simpa using x.neL), IsCell.sub x.ct s (by simpa using (cell_ne_lst x.ct z).symm), IsCell.sub x.ck s (by simpa using (cell_ne_lst x.ck z).symm), IsCell.sub x.cg s (by simpa using (cell_ne_lst x.cg z).symm),
    x.tab.sub s (by simpa using x.nT.symm) (fun r m => by have : r ≠ hp := fun e => x.nr (e ▸ m); simpa using this), y, x.sub.lift s (by simpa using x.fr hp (by simp)), x.fr, x.nr, x.nT⟩
theorem TW.cellk (x : TW h0 h L T hp rows M ks l kv gv) {v : Option Value} (s : Sub [L + 2] h h') (y : h'.IsCell (L + 2) v) : TW h0 h' L T hp rows M ks l v gv :=
  ⟨x.loc.sub s (by simp), IsCell.sub x.ct s (by simp), y, IsCell.sub x.cg s (by simp), x.tab.subCell s x.ck, x.hpo.subCell s x.ck, x.sub.lift s (by simpa using x.fr (L + 2) (by simp)), x.fr, x.nr, x.nT⟩
theorem TW.cellg (x : TW h0 h L T hp rows M ks l kv gv) {v : Option Value} (s : Sub [L + 3] h h') (y : h'.IsCell (L + 3) v) : TW h0 h' L T hp rows M ks l kv v :=
  ⟨x.loc.sub s (by simp), IsCell.sub x.ct s (by simp), IsCell.sub x.ck s (by simp), y, x.tab.subCell s x.cg, x.hpo.subCell s x.cg, x.sub.lift s (by simpa using x.fr (L + 3) (by simp)), x.fr, x.nr, x.nT⟩
theorem TW.lt (x : TW h0 h L T hp rows M ks l kv gv) : ∀ b ∈ [L, L + 2, L + 3, hp], b < h.objs.size := by
  intro b hb
  obtain ⟨vs, a3, _⟩ := x.hpo.lst
  simp only [List.mem_cons, List.not_mem_nil, or_false] at hb
  rcases hb with rfl | rfl | rfl | rfl
  · exact x.loc.lt
  · exact x.ck.lt
  · exact x.cg.lt
  · exact a3.lt
theorem TW.fr4 (x : TW h0 h L T hp rows M ks l kv gv) : ∀ b ∈ [L, L + 2, L + 3, hp], h0.get? b = none := by
  intro b hb
  refine x.fr b ?_
  simp only [List.mem_cons, List.not_mem_nil, or_false] at hb ⊢
  rcases hb with rfl | rfl | rfl | rfl <;> simp

/-- the same, without what goes back to h0 -/
structure TZ (h : Heap) (L T hp : Addr) (rows : List Addr) (M : Nat → Nat → Int) (ks : List (List Int)) (l : List (Str × Value)) (kv gv : Option Value) : Prop where
  loc : Loc h L l
  ct : h.IsCell (L + 1) (some (.ref T))
  ck : h.IsCell (L + 2) kv
  cg : h.IsCell (L + 3) gv
  tab : Tab h T rows M
  hpo : HpO h hp ks
theorem TW.z (x : TW h0 h L T hp rows M ks l kv gv) : TZ h L T hp rows M ks l kv gv := ⟨x.loc, x.ct, x.ck, x.cg, x.tab, x.hpo⟩
theorem TZ.subF (x : TZ h L T hp rows M ks l kv gv) (s : SubF h h') : TZ h' L T hp rows M ks l kv gv :=
  ⟨x.loc.subF s, IsCell.subF x.ct s, IsCell.subF x.ck s, IsCell.subF x.cg s, x.tab.subF s, x.hpo.subF s⟩
theorem TW.of {h₁ : Heap} {M' : Nat → Nat → Int} {kv' gv' : Option Value} (x : TW h0 h L T hp rows M ks l kv gv) (z : TZ h₁ L T hp rows M' ks' l' kv' gv') (s : Sub [L, L + 2, L + 3, hp] h h₁) : TW h0 h₁ L T hp rows M' ks' l' kv' gv' :=
  ⟨z.loc, z.ct, z.ck, z.cg, z.tab, z.hpo, x.sub.lift s x.fr4, x.fr, x.nr, x.nT⟩
end

section
variable {prog : Program} {w : World} {A : Around} {h0 h hS : Heap} {mg mb : Str → Option Value} {L T hp p : Addr} {rows : List Addr} {M : Nat → Nat → Int} {ks : List (List Int)} {kv gv : Option Value} {q : Str} {cd : Value} {a : Addr} {rs : List (List Int)}

/-- mover and follower -/
theorem turns_inner {kind goal m f : Nat} {t : Int} {tk tg tt tm tf : Tok} {ev : Value} (S : Stat hS mg mb) (B : Base hS h0) (hd : A.depth + 2 < recursionLimit) (hu : A.units + 9 < cLine) (hh : A.handled = none)
    (hr : IsRows h0 p rs) (hlen : rs.length = 5) (hrl : ∀ r ∈ rs, r.length ≤ 3) (hg : goal < 5) (hm : m < 5) (hf : f < 5) (hks : ks.length + 1 ≤ 100000)
    (x : TW h0 h L T hp rows M ks [("passages", .ref p), ("heap", .ref hp), ("turn", .int t tt), ("end", ev), ("mover", .int m tm), ("follower", .int f tf)] (some (.int kind tk)) (some (.int goal tg))) :
    Tr prog w A (execs tFor3 (envAt 16 q cd L a)) h fun fl h' => Sub [L, hp] h h' ∧ fl = .next ∧
      TW h0 h' L T hp rows M (if (waysOf rs M kind goal f).length == 0 && M m f == 0 then [t + 1, (m : Int), (f : Int)] :: ks else ks) [("passages", .ref p), ("heap", .ref hp), ("turn", .int t tt), ("end", ev), ("mover", .int m tm)] (some (.int kind tk)) (some (.int goal tg)) := by
  have hzL := szL
  have hr₁ := hr.sub0 x.sub
  obtain ⟨vs, D, ws, l2, e2, l3, i3⟩ := hr₁.get (k := f) (ns := rs.getD f []) (getD_get (by omega))
  have hwl : ws.length ≤ 3 := by rw [i3.1]; exact hrl _ (List.mem_of_getElem? (getD_get (by omega)))
  refine Tr.execs_cons ?_
  refine Tr.assign_comp [("table", L + 1), ("kind", L + 2), ("goal", L + 3)] (fun k => ((rs.getD f []).getD k 0).fdiv 5 == (kind : Int) && M goal (((rs.getD f []).getD k 0).fmod 5).toNat == 0) (fun _ _ _ => True)
    x.loc (Src.list hh (EvV.item (EvV.name x.loc) (EvI.name x.loc) l2.isList (by omega) (by omega) e2) l3.isList) (by omega) ?_ ?_ ?_
  · intro C k v h₁ hk hv hC hl hs
    obtain ⟨tv, rfl⟩ := i3.getD hv
    generalize hF : (rs.getD f []).getD k 0 = F
    have x₁ := x.sub0 hs
    obtain ⟨r, us, er, er', lr, ir, lr5⟩ := x₁.tab.get hg
    have f0 : 0 ≤ F.fmod 5 := Int.fmod_nonneg_of_pos _ (by decide)
    have f5 : F.fmod 5 < 5 := Int.fmod_lt_of_pos _ (by decide)
    have f5' : (F.fmod 5).toNat < 5 := by omega
    obtain ⟨tx, ex⟩ := ir.get (i := (F.fmod 5).toNat) (n := M goal (F.fmod 5).toNat) (by simp [f5'])
    rw [hF] at hl
    refine Tr.test_one (EvB.run (EvB.and2 (EvB.eq (EvI.fdiv (EvI.name hl) EvI.lit (by decide) (by decide)) (EvV.int (EvV.cell x₁.ck rfl)))
      fun _ => EvB.eq (EvI.item (EvV.item (EvV.cell x₁.ct rfl) (EvV.int (EvV.cell x₁.cg rfl)) x₁.tab.top.isList (by omega) (by omega) er') (EvI.fmod (EvI.name hl) EvI.lit (by decide)) lr.isList f0 (by omega) (by simpa using ex)) EvI.lit) ⟨rfl, Sub.refl⟩)
  · intro C k v h₁ hk hv _ hC hl hs
    exact EvV.run (EvV.name hl) ⟨Sub.refl, Holds.const trivial⟩
  · intro Dw h₁ ys hDw hl₁ s₁ hE
    change Sub [L] h h₁ at s₁
    change Loc h₁ L _ at hl₁
    obtain ⟨lW, hEl⟩ := hE.here
    have hyl : ys.length = (waysOf rs M kind goal f).length := by
      rw [hEl.1, i3.1, filter_range_len (rs.getD f []) 0 fun F => F.fdiv 5 == (kind : Int) && M goal (F.fmod 5).toNat == 0]; rfl
    have x₁ := x.put s₁ hl₁
    refine Tr.execs_cons (Tr.ite (Tr.test_and2 (Tr.test_cmp (EvV.run (EvV.name hl₁) (Tr.list_disp (Tr.spl0 (Tr.newlist (fun h₂ l₂ s₂ => ?_) (by simp))))))))
    refine Tr.eq_nil (lW.sub s₂ (by simp)) l₂ (by omega) (Tr.truthy_bool ?_)
    rw [hyl]
    have x₂ := x₁.sub0 s₂
    have s₀₂ : Sub [L, hp] h h₂ := (s₁.one (by simp)).trans (s₂.mono (by simp))
    cases hc : (waysOf rs M kind goal f).length == 0 with
    | false =>
      simp only [Bool.false_eq_true, if_false, Bool.false_and]
      exact Tr.execs_nil (Tr.execs_nil ⟨s₀₂, rfl, x₂.pick⟩)
    | true =>
      simp only [if_true, Bool.true_and]
      obtain ⟨r, us, er, er', lr, ir, lr5⟩ := x₂.tab.get hm
      obtain ⟨tx, ex⟩ := rowInts ir hf
      refine EvB.run (EvB.eq (EvI.item (EvV.item (EvV.cell x₂.ct rfl) (EvI.name x₂.loc) x₂.tab.top.isList (by omega) (by omega) er') (EvI.name x₂.loc) lr.isList (by omega) (by omega) ex) EvI.lit) ?_
      cases hc2 : M m f == 0 with
      | false =>
        simp only [Bool.false_eq_true, if_false]
        exact Tr.execs_nil (Tr.execs_nil ⟨s₀₂, rfl, x₂.pick⟩)
      | true =>
        simp only [if_true]
        have B₂ := B.step0 x₂.sub
        obtain ⟨a', ha', hf'⟩ := S.push
        have hf₂ : IsFn h₂ a' 7 := IsFnD.sub hf' B₂
        obtain ⟨o, nm, q', doc, pm, cd', ct, an, ho, hdt, hcd⟩ := id hf₂
        refine Tr.execs_cons (Tr.expr (Tr.call_def (EvV.glob S B₂ ha') hdt (Tr.spl (EvV.run (EvV.name x₂.loc) (Tr.spl (Tr.tuple_disp (Tr.spl (EvI.run (EvI.add (EvI.name x₂.loc) EvI.lit) fun u1 => Tr.spl (EvI.run (EvI.name x₂.loc) fun u2 => Tr.spl (EvI.run (EvI.name x₂.loc) fun u3 => Tr.spl0 (Tr.newtuple (fun h₃ t₃ s₃ => Tr.spl0 ⟨s₃.all _ _ ho, ?_⟩) (by simp [hzL]))))))))))))
        have x₃ := x₂.sub0 s₃
        have B₃ := B.step0 x₃.sub
        refine Tr.mono (push_spec' (k := [t + 1, (m : Int), (f : Int)]) S B₃ (by
            cases e : hS.get? hp with
            | none => rfl
            | some o => have := B hp o e; rw [x.fr hp (by simp)] at this; cases this) (IsFnD.sub hf' B₃) (by omega) (by omega) x₃.hpo ⟨_, _, rfl, t₃, ?_⟩ rfl (by omega)) fun _ h₄ z => ?_
        · exact Ints.cons rfl (Ints.cons rfl (Ints.cons rfl Ints.nil))
        · exact Tr.execs_nil (Tr.execs_nil ⟨(s₀₂.trans (s₃.mono (by simp))).trans (z.2.one (by simp)), rfl, (x₃.heap z.2 z.1).pick⟩)

/-- the keys that a follower of the list fs gives -/
def Fol (rs : List (List Int)) (M : Nat → Nat → Int) (t : Int) (kind goal m : Nat) (fs : List Nat) (k : List Int) : Prop :=
  ∃ f ∈ fs, (waysOf rs M kind goal f).length = 0 ∧ M m f = 0 ∧ k = [t + 1, (m : Int), (f : Int)]

theorem withOf_lt {rs : List (List Int)} {F : Int} {i : Nat} (m : i ∈ withOf rs F) : i < 5 := by
  unfold withOf at m
  simpa using (List.mem_filter.mp m).1
theorem withOf_len {rs : List (List Int)} {F : Int} : (withOf rs F).length ≤ 5 := by
  unfold withOf
  exact Nat.le_trans (List.length_filter_le _ _) (by simp)

/-- the followers -/
theorem turns_fols {kind goal e m : Nat} {t : Int} {tk tg tt te tm : Tok} (S : Stat hS mg mb) (B : Base hS h0) (hd : A.depth + 2 < recursionLimit) (hu : A.units + 9 < cLine) (hh : A.handled = none)
    (hr : IsRows h0 p rs) (hlen : rs.length = 5) (hrl : ∀ r ∈ rs, r.length ≤ 3) (hg : goal < 5) (hm : m < 5) (hks : ks.length + 6 ≤ 100000)
    (x : TW h0 h L T hp rows M ks [("passages", .ref p), ("heap", .ref hp), ("turn", .int t tt), ("end", .int e te), ("mover", .int m tm)] (some (.int kind tk)) (some (.int goal tg))) :
    Tr prog w A (execs tFor2 (envAt 16 q cd L a)) h fun fl h' => Sub [L, hp] h h' ∧ fl = .next ∧ ∃ ks', ks'.length ≤ ks.length + 5 ∧ (∀ k, k ∈ ks' ↔ k ∈ ks ∨ Fol rs M t kind goal m (withOf rs (5 * kind + e : Nat)) k) ∧
      TZ h' L T hp rows M ks' [("passages", .ref p), ("heap", .ref hp), ("turn", .int t tt), ("end", .int e te)] (some (.int kind tk)) (some (.int goal tg)) := by
  have hzL := szL
  have B₁ := B.step0 x.sub
  obtain ⟨a', ha', hf'⟩ := S.with_
  have hf₁ : IsFn h a' 14 := IsFnD.sub hf' B₁
  obtain ⟨o, nm, q', doc, pm, cd', ct, an, ho, hdt, hcd⟩ := id hf₁
  refine Tr.execs_cons (Tr.for_e (Tr.call_def (EvV.glob S B₁ ha') hdt (Tr.spl (EvV.run (EvV.name x.loc) (Tr.spl (EvI.run (EvI.add (EvI.mul EvI.lit (EvV.int (EvV.cell x.ck rfl)) (by mul_fits)) (EvI.name x.loc)) fun u1 => Tr.spl0 ⟨ho, ?_⟩))))))
  have e1 : (5 : Int) * (kind : Nat) + (e : Nat) = ((5 * kind + e : Nat) : Int) := by omega
  rw [e1]
  refine Tr.mono (with_spec (rs := rs) S B₁ hf₁ hh (by omega) (hr.sub0 x.sub) hlen) fun r h₁ z => ?_
  obtain ⟨s₁, D, ws, rfl, hD, iw, lD⟩ := z
  have x₁ := x.sub0 s₁
  have wl : ws.length = (withOf rs (5 * kind + e : Nat)).length := by rw [iw.1]; simp
  generalize hW : withOf rs (5 * kind + e : Nat) = W at *
  have hDp : D ≠ hp := Nat.ne_of_gt (Nat.lt_of_lt_of_le (x.lt hp (by simp)) hD)
  have hDL : D ≠ L := Nat.ne_of_gt (Nat.lt_of_lt_of_le (x.lt L (by simp)) hD)
  refine Loop.intro (μ := [L, hp]) (SrcV.list hh lD.isList)
    (fun i h' => ∃ ks', ks'.length ≤ ks.length + i ∧ (∀ k, k ∈ ks' ↔ k ∈ ks ∨ Fol rs M t kind goal m (W.take i) k) ∧ TZ h' L T hp rows M ks' [("passages", .ref p), ("heap", .ref hp), ("turn", .int t tt), ("end", .int e te), ("mover", .int m tm)] (some (.int kind tk)) (some (.int goal tg)))
    (fun b hb => x₁.lt b (by simp only [List.mem_cons, List.not_mem_nil, or_false] at hb ⊢; rcases hb with rfl | rfl <;> simp)) (by simp [hDp, hDL]) ?_ ⟨ks, by omega, fun k => by simp [Fol], x₁.z⟩ ?_ ?_
  · rintro i h₂ h₃ ⟨ks', a1, a2, a3⟩ sF
    exact ⟨ks', a1, a2, a3.subF sF⟩
  · rintro i v h₂ hi hv ⟨ks', a1, a2, a3⟩ s₂
    have hWi : i < W.length := by omega
    obtain ⟨tf, ef⟩ := iw.2 i v ((W[i] : Nat) : Int) hv (by simp [hWi])
    subst ef
    have hf5 : W[i] < 5 := withOf_lt (rs := rs) (F := (5 * kind + e : Nat)) (hW ▸ List.getElem_mem hWi)
    have x₂ := x₁.of a3 (s₂.mono (by simp))
    refine Tr.tgt_name (Tr.putA x₂.loc fun h₃ hl₃ s₃ => ?_)
    have hW5 : W.length ≤ 5 := hW ▸ withOf_len
    refine Tr.mono (turns_inner (m := m) (f := W[i]) S B hd hu hh hr hlen hrl hg hm hf5 (by omega) (x₂.put s₃ hl₃).pick) fun fl h₄ z => ?_
    obtain ⟨z1, rfl, z2⟩ := z
    refine ⟨(s₃.one (by simp)).trans z1, _, ?_, ?_, z2.z⟩
    · split <;> (try simp only [List.length_cons]) <;> omega
    · intro k
      have tk1 : W.take (i + 1) = W.take i ++ [W[i]] := by rw [List.take_succ_eq_append_getElem hWi]
      rw [tk1]
      cases hc : (waysOf rs M kind goal W[i]).length == 0 && M m W[i] == 0 with
      | true =>
        obtain ⟨c1, c2⟩ := Bool.and_eq_true_iff.mp hc
        simp only [if_true, List.mem_cons, a2]
        constructor
        · rintro (rfl | h1 | ⟨f, hf, r⟩)
          · exact .inr ⟨W[i], List.mem_append_right _ (List.mem_singleton.mpr rfl), by simpa using c1, by simpa using c2, rfl⟩
          · exact .inl h1
          · exact .inr ⟨f, List.mem_append_left _ hf, r⟩
        · rintro (h1 | ⟨f, hf, r1, r2, r3⟩)
          · exact .inr (.inl h1)
          · rcases List.mem_append.mp hf with hf | hf
            · exact .inr (.inr ⟨f, hf, r1, r2, r3⟩)
            · have : f = W[i] := by simpa using hf
              subst this; exact .inl r3
      | false =>
        simp only [Bool.false_eq_true, if_false, a2]
        constructor
        · rintro (h1 | ⟨f, hf, r⟩)
          · exact .inl h1
          · exact .inr ⟨f, List.mem_append_left _ hf, r⟩
        · rintro (h1 | ⟨f, hf, r1, r2, r3⟩)
          · exact .inl h1
          · rcases List.mem_append.mp hf with hf | hf
            · exact .inr ⟨f, hf, r1, r2, r3⟩
            · have : f = W[i] := by simpa using hf
              subst this; simp [r1, r2] at hc
  · rintro h₂ ⟨ks', a1, a2, a3⟩ s₂
    have hW5 : W.length ≤ 5 := hW ▸ withOf_len
    refine Tr.execs_nil ⟨(s₁.mono (by simp)).trans s₂, rfl, ks', by omega, ?_, ⟨a3.loc.pick, a3.ct, a3.ck, a3.cg, a3.tab, a3.hpo⟩⟩
    rw [wl, List.take_length] at a2
    exact a2
end
end Mine

/-! part E4 -/
namespace Mine
section
variable {prog : Program} {w : World} {A : Around} {h0 h hS : Heap} {mg mb : Str → Option Value} {L T hp p : Addr} {rows : List Addr} {M : Nat → Nat → Int} {ks : List (List Int)} {kv gv : Option Value} {q : Str} {cd : Value} {a : Addr} {rs : List (List Int)}

/-- the keys of the movers ms -/
def Mov (rs : List (List Int)) (M : Nat → Nat → Int) (t : Int) (kind goal e : Nat) (ms : List Nat) (k : List Int) : Prop :=
  ∃ m ∈ ms, Fol rs M t kind goal m (withOf rs (5 * kind + e : Nat)) k

theorem turns_movs {kind goal e : Nat} {t : Int} {tk tg tt te : Tok} (S : Stat hS mg mb) (B : Base hS h0) (hd : A.depth + 2 < recursionLimit) (hu : A.units + 9 < cLine) (hh : A.handled = none)
    (hr : IsRows h0 p rs) (hlen : rs.length = 5) (hrl : ∀ r ∈ rs, r.length ≤ 3) (hg : goal < 5) (hks : ks.length + 40 ≤ 100000)
    (x : TW h0 h L T hp rows M ks [("passages", .ref p), ("heap", .ref hp), ("turn", .int t tt), ("end", .int e te)] (some (.int kind tk)) (some (.int goal tg))) :
    Tr prog w A (execs tFor1 (envAt 16 q cd L a)) h fun fl h' => Sub [L, hp] h h' ∧ fl = .next ∧ ∃ ks', ks'.length ≤ ks.length + 25 ∧ (∀ k, k ∈ ks' ↔ k ∈ ks ∨ Mov rs M t kind goal e (withOf rs (5 * kind + goal : Nat)) k) ∧
      TZ h' L T hp rows M ks' [("passages", .ref p), ("heap", .ref hp), ("turn", .int t tt)] (some (.int kind tk)) (some (.int goal tg)) := by
  have hzL := szL
  have B₁ := B.step0 x.sub
  obtain ⟨a', ha', hf'⟩ := S.with_
  have hf₁ : IsFn h a' 14 := IsFnD.sub hf' B₁
  obtain ⟨o, nm, q', doc, pm, cd', ct, an, ho, hdt, hcd⟩ := id hf₁
  refine Tr.execs_cons (Tr.for_e (Tr.call_def (EvV.glob S B₁ ha') hdt (Tr.spl (EvV.run (EvV.name x.loc) (Tr.spl (EvI.run (EvI.add (EvI.mul EvI.lit (EvV.int (EvV.cell x.ck rfl)) (by mul_fits)) (EvV.int (EvV.cell x.cg rfl))) fun u1 => Tr.spl0 ⟨ho, ?_⟩))))))
  have e1 : (5 : Int) * (kind : Nat) + (goal : Nat) = ((5 * kind + goal : Nat) : Int) := by omega
  rw [e1]
  refine Tr.mono (with_spec (rs := rs) S B₁ hf₁ hh (by omega) (hr.sub0 x.sub) hlen) fun r h₁ z => ?_
  obtain ⟨s₁, D, ws, rfl, hD, iw, lD⟩ := z
  have x₁ := x.sub0 s₁
  have wl : ws.length = (withOf rs (5 * kind + goal : Nat)).length := by rw [iw.1]; simp
  generalize hW : withOf rs (5 * kind + goal : Nat) = W at *
  have hW5 : W.length ≤ 5 := hW ▸ withOf_len
  have hDp : D ≠ hp := Nat.ne_of_gt (Nat.lt_of_lt_of_le (x.lt hp (by simp)) hD)
  have hDL : D ≠ L := Nat.ne_of_gt (Nat.lt_of_lt_of_le (x.lt L (by simp)) hD)
  refine Loop.intro (μ := [L, hp]) (SrcV.list hh lD.isList)
    (fun i h' => ∃ ks', ks'.length ≤ ks.length + 5 * i ∧ (∀ k, k ∈ ks' ↔ k ∈ ks ∨ Mov rs M t kind goal e (W.take i) k) ∧ TZ h' L T hp rows M ks' [("passages", .ref p), ("heap", .ref hp), ("turn", .int t tt), ("end", .int e te)] (some (.int kind tk)) (some (.int goal tg)))
    (fun b hb => x₁.lt b (by simp only [List.mem_cons, List.not_mem_nil, or_false] at hb ⊢; rcases hb with rfl | rfl <;> simp)) (by simp [hDp, hDL]) ?_ ⟨ks, by omega, fun k => by simp [Mov], x₁.z⟩ ?_ ?_
  · rintro i h₂ h₃ ⟨ks', a1, a2, a3⟩ sF
    exact ⟨ks', a1, a2, a3.subF sF⟩
  · rintro i v h₂ hi hv ⟨ks', a1, a2, a3⟩ s₂
    have hWi : i < W.length := by omega
    obtain ⟨tf, ef⟩ := iw.2 i v ((W[i] : Nat) : Int) hv (by simp [hWi])
    subst ef
    have hf5 : W[i] < 5 := withOf_lt (rs := rs) (F := (5 * kind + goal : Nat)) (hW ▸ List.getElem_mem hWi)
    have x₂ := x₁.of a3 (s₂.mono (by simp))
    refine Tr.tgt_name (Tr.putA x₂.loc fun h₃ hl₃ s₃ => ?_)
    refine Tr.mono (turns_fols (e := e) (m := W[i]) S B hd hu hh hr hlen hrl hg hf5 (by omega) (x₂.put s₃ hl₃).pick) fun fl h₄ z => ?_
    obtain ⟨z1, rfl, ks'', z2, z3, z4⟩ := z
    refine ⟨(s₃.one (by simp)).trans z1, ks'', by omega, ?_, z4⟩
    intro k
    have tk1 : W.take (i + 1) = W.take i ++ [W[i]] := by rw [List.take_succ_eq_append_getElem hWi]
    rw [tk1, z3, a2]
    constructor
    · rintro ((h1 | ⟨m, hm, r⟩) | h1)
      · exact .inl h1
      · exact .inr ⟨m, List.mem_append_left _ hm, r⟩
      · exact .inr ⟨W[i], List.mem_append_right _ (List.mem_singleton.mpr rfl), h1⟩
    · rintro (h1 | ⟨m, hm, r⟩)
      · exact .inl (.inl h1)
      · rcases List.mem_append.mp hm with hm | hm
        · exact .inl (.inr ⟨m, hm, r⟩)
        · have : m = W[i] := by simpa using hm
          subst this; exact .inr r
  · rintro h₂ ⟨ks', a1, a2, a3⟩ s₂
    refine Tr.execs_nil ⟨(s₁.mono (by simp)).trans s₂, rfl, ks', by omega, ?_, ⟨a3.loc.pick, a3.ct, a3.ck, a3.cg, a3.tab, a3.hpo⟩⟩
    rw [wl, List.take_length] at a2
    exact a2
end
end Mine

/-! part E5 -/
namespace Mine
section
variable {prog : Program} {w : World} {A : Around} {h0 h hS : Heap} {mg mb : Str → Option Value} {L T hp p : Addr} {rows : List Addr} {M : Nat → Nat → Int} {ks : List (List Int)} {kv gv : Option Value} {q : Str} {cd : Value} {a : Addr} {rs : List (List Int)}

def Qua (rs : List (List Int)) (M : Nat → Nat → Int) (t : Int) (qs : List (Nat × Nat × Nat)) (k : List Int) : Prop :=
  ∃ x ∈ qs, Mov rs M t x.1 x.2.1 x.2.2 (withOf rs (5 * x.1 + x.2.1 : Nat)) k
theorem qua_pushed {t : Int} {b c : Nat} {k : List Int} : Qua rs M t (four b c) k ↔ Pushed rs M t b c k := by
  constructor
  · rintro ⟨⟨kind, goal, e⟩, h1, m, h2, f, h3, h4, h5, h6⟩
    exact ⟨kind, goal, e, m, f, h1, h2, h3, h4, h5, h6⟩
  · rintro ⟨kind, goal, e, m, f, h1, h2, h3, h4, h5, h6⟩
    exact ⟨⟨kind, goal, e⟩, h1, m, h2, f, h3, h4, h5, h6⟩

/-- a tuple of three ints stands at v -/
def Tri (h : Heap) (v : Value) (x : Nat × Nat × Nat) : Prop := ∃ a u1 u2 u3, v = .ref a ∧ h.IsTuple a #[.int (x.1 : Nat) u1, .int (x.2.1 : Nat) u2, .int (x.2.2 : Nat) u3]
theorem Tri.subF {h h' : Heap} {v : Value} {x : Nat × Nat × Nat} (y : Tri h v x) (s : SubF h h') : Tri h' v x := let ⟨a, u1, u2, u3, e, t⟩ := y; ⟨a, u1, u2, u3, e, IsTuple.subF t s⟩
theorem Tri.sub0 {h h' : Heap} {v : Value} {x : Nat × Nat × Nat} (y : Tri h v x) (s : Sub [] h h') : Tri h' v x := y.subF s.subF
theorem Tri.sub {μ : List Addr} {h h' : Heap} {v : Value} {x : Nat × Nat × Nat} (y : Tri h v x) (s : Sub μ h h') (n : ∀ a ∈ μ, ∀ vs, ¬ h.IsTuple a vs) : Tri h' v x :=
  let ⟨a, u1, u2, u3, e, t⟩ := y; ⟨a, u1, u2, u3, e, IsTuple.sub t s (fun m => n a m _ t)⟩
theorem TZ.noTup {l : List (Str × Value)} (x : TZ h L T hp rows M ks l kv gv) : ∀ b ∈ [L, L + 2, L + 3, hp], ∀ vs, ¬ h.IsTuple b vs := by
  intro b hb vs y
  obtain ⟨us, z, _⟩ := x.hpo.lst
  simp only [List.mem_cons, List.not_mem_nil, or_false] at hb
  rcases hb with rfl | rfl | rfl | rfl
  · exact x.loc.ne_tuple y rfl
  · exact cell_no_tuple x.ck _ y
  · exact cell_no_tuple x.cg _ y
  · exact lst_no_tuple z _ y

theorem turns_quas {b c : Nat} {t : Int} {tt tb tc : Tok} (S : Stat hS mg mb) (B : Base hS h0) (hd : A.depth + 2 < recursionLimit) (hu : A.units + 9 < cLine) (hh : A.handled = none)
    (hr : IsRows h0 p rs) (hlen : rs.length = 5) (hrl : ∀ r ∈ rs, r.length ≤ 3) (hb : b < 5) (hc : c < 5) (hks : ks.length + 150 ≤ 100000)
    (x : TW h0 h L T hp rows M ks [("passages", .ref p), ("heap", .ref hp), ("turn", .int t tt), ("one", .int b tb), ("other", .int c tc)] kv gv) :
    Tr prog w A (execs (tIf.drop 2) (envAt 16 q cd L a)) h fun fl h' => Sub [L, L + 2, L + 3, hp] h h' ∧ fl = .next ∧ ∃ ks' kv' gv', ks'.length ≤ ks.length + 100 ∧ (∀ k, k ∈ ks' ↔ k ∈ ks ∨ Pushed rs M t b c k) ∧
      TZ h' L T hp rows M ks' [("passages", .ref p), ("heap", .ref hp)] kv' gv' := by
  have hzL := szL
  -- the four tuples
  refine Tr.execs_cons (Tr.for_e (Tr.list_disp ?_))
  refine Tr.spl (Tr.tuple_disp (Tr.spl (EvI.run EvI.lit fun u1 => Tr.spl (EvI.run (EvI.name x.loc) fun u2 => Tr.spl (EvI.run (EvI.name x.loc) fun u3 => Tr.spl0 (Tr.newtuple (fun h₁ t₁ s₁ => ?_) (by simp [hzL]))))))) 
  have x₁ := x.sub0 s₁
  refine Tr.spl (Tr.tuple_disp (Tr.spl (EvI.run EvI.lit fun u4 => Tr.spl (EvI.run (EvI.name x₁.loc) fun u5 => Tr.spl (EvI.run (EvI.name x₁.loc) fun u6 => Tr.spl0 (Tr.newtuple (fun h₂ t₂ s₂ => ?_) (by simp [hzL])))))))
  have x₂ := x₁.sub0 s₂
  refine Tr.spl (Tr.tuple_disp (Tr.spl (EvI.run EvI.lit fun u7 => Tr.spl (EvI.run (EvI.name x₂.loc) fun u8 => Tr.spl (EvI.run (EvI.name x₂.loc) fun u9 => Tr.spl0 (Tr.newtuple (fun h₃ t₃ s₃ => ?_) (by simp [hzL])))))))
  have x₃ := x₂.sub0 s₃
  refine Tr.spl (Tr.tuple_disp (Tr.spl (EvI.run EvI.lit fun u10 => Tr.spl (EvI.run (EvI.name x₃.loc) fun u11 => Tr.spl (EvI.run (EvI.name x₃.loc) fun u12 => Tr.spl0 (Tr.newtuple (fun h₄ t₄ s₄ => Tr.spl0 (Tr.newlist (fun h₅ l₅ s₅ => ?_) (by simp [hzL]))) (by simp [hzL])))))))
  have x₅ := (x₃.sub0 s₄).sub0 s₅
  have r1 : Tri h₅ (.ref h.objs.size) (0, b, c) := Tri.sub0 (h := h₁) ⟨_, u1, u2, u3, rfl, t₁⟩ (((s₂.trans s₃).trans s₄).trans s₅)
  have r2 : Tri h₅ (.ref h₁.objs.size) (1, b, c) := Tri.sub0 (h := h₂) ⟨_, u4, u5, u6, rfl, t₂⟩ ((s₃.trans s₄).trans s₅)
  have r3 : Tri h₅ (.ref h₂.objs.size) (0, c, b) := Tri.sub0 (h := h₃) ⟨_, u7, u8, u9, rfl, t₃⟩ (s₄.trans s₅)
  have r4 : Tri h₅ (.ref h₃.objs.size) (1, c, b) := Tri.sub0 (h := h₄) ⟨_, u10, u11, u12, rfl, t₄⟩ s₅
  have s₀₅ : Sub [] h h₅ := (((s₁.trans s₂).trans s₃).trans s₄).trans s₅
  generalize hvs : [Value.ref h.objs.size, Value.ref h₁.objs.size, Value.ref h₂.objs.size, Value.ref h₃.objs.size] = vs at l₅
  have hvl : vs.length = 4 := by rw [← hvs]; rfl
  have all : ∀ (i : Nat) (v : Value), vs[i]? = some v → ∃ z, (four b c)[i]? = some z ∧ Tri h₅ v z := by
    intro i v e
    rw [← hvs] at e
    match i, e with
    | 0, e => simp at e; subst e; exact ⟨_, rfl, r1⟩
    | 1, e => simp at e; subst e; exact ⟨_, rfl, r2⟩
    | 2, e => simp at e; subst e; exact ⟨_, rfl, r3⟩
    | 3, e => simp at e; subst e; exact ⟨_, rfl, r4⟩
    | (n + 4), e => simp at e
  generalize hD : h₄.objs.size = D at l₅
  have hDn : D ∉ [L, L + 2, L + 3, hp] := by
    intro m
    have := x₃.sub0 s₄ |>.lt D m
    rw [hD] at this
    exact Nat.lt_irrefl _ this
  refine Loop.intro (μ := [L, L + 2, L + 3, hp]) (SrcV.list hh l₅.isList)
    (fun i h' => ∃ ks' kv' gv', ks'.length ≤ ks.length + 25 * i ∧ (∀ k, k ∈ ks' ↔ k ∈ ks ∨ Qua rs M t ((four b c).take i) k) ∧ TZ h' L T hp rows M ks' [("passages", .ref p), ("heap", .ref hp), ("turn", .int t tt)] kv' gv' ∧
      ∀ (i : Nat) (v : Value), vs[i]? = some v → ∃ z, (four b c)[i]? = some z ∧ Tri h' v z)
    x₅.lt (by simpa using hDn) ?_ ⟨ks, kv, gv, by omega, fun k => by simp [Qua], (x₅.pick).z, all⟩ ?_ ?_
  · rintro i h₆ h₇ ⟨ks', kv', gv', a1, a2, a3, a4⟩ sF
    exact ⟨ks', kv', gv', a1, a2, a3.subF sF, fun i v e => let ⟨z, e1, e2⟩ := a4 i v e; ⟨z, e1, e2.subF sF⟩⟩
  · rintro i v h₆ hi hv ⟨ks', kv', gv', a1, a2, a3, a4⟩ s₆
    obtain ⟨⟨kind, goal, e⟩, ez, ⟨av, w1, w2, w3, rfl, tv⟩⟩ := a4 i v hv
    have hge : goal < 5 ∧ e < 5 := by
      have hm := List.mem_of_getElem? ez
      simp only [four, List.mem_cons, Prod.mk.injEq, List.not_mem_nil, or_false] at hm
      omega
    have x₆ := x₅.of a3 s₆
    refine Tr.tgt_tuple3 hh tv fun h₇ s₇ => ?_
    have x₇ := x₆.sub0 s₇
    refine Tr.put_cell x₇.ck rfl fun h₈ c₈ s₈ => ?_
    have x₈ := x₇.cellk s₈ c₈
    refine Tr.put_cell x₈.cg rfl fun h₉ c₉ s₉ => ?_
    have x₉ := x₈.cellg s₉ c₉
    refine Tr.putA x₉.loc fun hA lA sA => ?_
    have xA := x₉.put sA lA
    have s₆A : Sub [L, L + 2, L + 3, hp] h₆ hA := (s₇.mono (by simp)).trans ((s₈.one (by simp)).trans ((s₉.one (by simp)).trans (sA.one (by simp))))
    refine Tr.mono (turns_movs (kind := kind) (goal := goal) (e := e) S B hd hu hh hr hlen hrl hge.1 (by omega) xA.pick) fun fl hB z => ?_
    obtain ⟨z1, rfl, ks'', z2, z3, z4⟩ := z
    have s₆B : Sub [L, L + 2, L + 3, hp] h₆ hB := s₆A.trans (z1.mono (by simp))
    refine ⟨s₆B, ks'', _, _, by omega, ?_, ⟨z4.loc.pick, z4.ct, z4.ck, z4.cg, z4.tab, z4.hpo⟩, fun i v e => let ⟨z, e1, e2⟩ := a4 i v e; ⟨z, e1, e2.sub s₆B a3.noTup⟩⟩
    intro k
    have hil : i < (four b c).length := (List.getElem?_eq_some_iff.mp ez).1
    have hie : (four b c)[i] = (kind, goal, e) := (List.getElem?_eq_some_iff.mp ez).2
    have tk1 : (four b c).take (i + 1) = (four b c).take i ++ [(kind, goal, e)] := by rw [List.take_succ_eq_append_getElem hil, hie]
    rw [tk1, z3, a2]
    constructor
    · rintro ((h1 | ⟨m, hm, r⟩) | h1)
      · exact .inl h1
      · exact .inr ⟨m, List.mem_append_left _ hm, r⟩
      · exact .inr ⟨(kind, goal, e), List.mem_append_right _ (List.mem_singleton.mpr rfl), h1⟩
    · rintro (h1 | ⟨m, hm, r⟩)
      · exact .inl (.inl h1)
      · rcases List.mem_append.mp hm with hm | hm
        · exact .inl (.inr ⟨m, hm, r⟩)
        · have : m = (kind, goal, e) := by simpa using hm
          subst this; exact .inr r
  · rintro h₆ ⟨ks', kv', gv', a1, a2, a3, _⟩ s₆
    refine Tr.execs_nil ⟨(s₀₅.mono (by simp)).trans s₆, rfl, ks', kv', gv', by omega, ?_, ⟨a3.loc.pick, a3.ct, a3.ck, a3.cg, a3.tab, a3.hpo⟩⟩
    intro k
    rw [a2, hvl, show (four b c).take 4 = four b c from rfl, qua_pushed]
end
end Mine

/-! part E6 -/
namespace Mine

/-- what is kept between the turns of _law_turns -/
structure TurnInv (rs : List (List Int)) (Inv : (Nat → Nat → Int) → List (List Int) → Prop) : Prop where
  init : ∀ ks, (∀ k, k ∈ ks ↔ ∃ a b : Nat, a < 5 ∧ b < 5 ∧ k = [1, (a : Int), (b : Int)] ∧ lacks rs a b = true) → Inv (fun _ _ => 0) ks
  form : ∀ M ks, Inv M ks → ∀ k ∈ ks, ∃ (t : Int) (a b : Nat), 1 ≤ t ∧ a < 5 ∧ b < 5 ∧ k = [t, (a : Int), (b : Int)]
  skip : ∀ M ks ks' (t : Int) (a b : Nat), Inv M ks → ks.Perm ([t, (a : Int), (b : Int)] :: ks') → (∀ k₂ ∈ ks', lexLt k₂ [t, (a : Int), (b : Int)] = false) → a < 5 → b < 5 → M a b ≠ 0 → Inv M ks'
  set : ∀ M ks ks' ks'' (t : Int) (a b : Nat), Inv M ks → ks.Perm ([t, (a : Int), (b : Int)] :: ks') → (∀ k₂ ∈ ks', lexLt k₂ [t, (a : Int), (b : Int)] = false) → a < 5 → b < 5 → M a b = 0 →
    (∀ k, k ∈ ks'' ↔ k ∈ ks' ∨ Pushed rs (put M a b t) t a b k) → Inv (put M a b t) ks''

/-- the entries that are nought -/
def pairs5 : List (Nat × Nat) := (List.range 5).flatMap fun i => (List.range 5).map fun j => (i, j)
def zeros (M : Nat → Nat → Int) : Nat := pairs5.countP fun x => M x.1 x.2 == 0
theorem countP_lt {α : Type} (P Q : α → Bool) : ∀ (l : List α), (∀ x ∈ l, Q x = true → P x = true) → (∃ x ∈ l, P x = true ∧ Q x = false) → l.countP Q < l.countP P
  | [], _, ⟨x, m, _⟩ => by simp at m
  | y :: l, h, ⟨x, m, h1, h2⟩ => by
    have hle : l.countP Q ≤ l.countP P := List.countP_mono_left fun z hz hq => h z (.tail _ hz) hq
    rw [List.countP_cons, List.countP_cons]
    rcases List.mem_cons.mp m with rfl | m
    · rw [h1, h2]; simp; omega
    · have := countP_lt P Q l (fun z hz => h z (.tail _ hz)) ⟨x, m, h1, h2⟩
      have hy := h y (.head _)
      cases hq : Q y with
      | true => rw [hy hq]; simp; omega
      | false => simp; split <;> omega
theorem put_ne {M : Nat → Nat → Int} {a b : Nat} {t : Int} {i j : Nat} (h1 : ¬ (i = a ∧ j = b)) (h2 : ¬ (i = b ∧ j = a)) : put M a b t i j = M i j := by
  unfold put put1; rw [if_neg h2, if_neg h1]
theorem put_l {M : Nat → Nat → Int} {a b : Nat} {t : Int} : put M a b t a b = t := by unfold put put1; split <;> simp
theorem put_r {M : Nat → Nat → Int} {a b : Nat} {t : Int} : put M a b t b a = t := by unfold put put1; simp
theorem zeros_put {M : Nat → Nat → Int} {a b : Nat} {t : Int} (ha : a < 5) (hb : b < 5) (ht : t ≠ 0) (h0 : M a b = 0) : zeros (put M a b t) < zeros M := by
  refine countP_lt _ _ _ (fun x _ hx => ?_) ⟨(a, b), ?_, by simpa using h0, by simp [put_l, ht]⟩
  · by_cases h1 : x.1 = a ∧ x.2 = b
    · simpa [h1.1, h1.2] using h0
    · by_cases h2 : x.1 = b ∧ x.2 = a
      · rw [h2.1, h2.2, put_r] at hx; simp [ht] at hx
      · rwa [put_ne h1 h2] at hx
  · simp [pairs5, ha, hb]
theorem zeros_le (M : Nat → Nat → Int) : zeros M ≤ 25 := Nat.le_trans List.countP_le_length (by decide)

section
variable {h0 h h' : Heap} {L T hp : Addr} {rows : List Addr} {M M' : Nat → Nat → Int} {ks ks' : List (List Int)} {l l' : List (Str × Value)} {kv gv : Option Value}
theorem TW.setrow (x : TW h0 h L T hp rows M ks l kv gv) {r : Addr} (hr : r ∈ rows) (s : Sub [r] h h') (y : Tab h' T rows M') : TW h0 h' L T hp rows M' ks l kv gv := by
  obtain ⟨i, hi, e⟩ := List.mem_iff_getElem.mp hr
  obtain ⟨ws, q, _⟩ := x.tab.row i r (by simp [hi, e])
  exact ⟨x.loc.sub s (by simpa using (x.loc.ne q).symm), IsCell.sub x.ct s (by simpa using (cell_ne_lst x.ct q).symm), IsCell.sub x.ck s (by simpa using (cell_ne_lst x.ck q).symm), IsCell.sub x.cg s (by simpa using (cell_ne_lst x.cg q).symm),
    y, x.hpo.sub s (by have : hp ≠ r := fun e' => x.nr (e' ▸ hr); simpa using this) (by simpa using lst_no_tuple q), x.sub.lift s (by simpa using x.fr r (by simp [hr])), x.fr, x.nr, x.nT⟩
end

section
variable {prog : Program} {w : World} {A : Around} {h0 h hS : Heap} {mg mb : Str → Option Value} {L T hp p : Addr} {rows : List Addr} {M : Nat → Nat → Int} {ks : List (List Int)} {kv gv : Option Value} {q : Str} {cd : Value} {a : Addr} {rs : List (List Int)}
  {Inv : (Nat → Nat → Int) → List (List Int) → Prop}

theorem ints3 {vs : List Value} {x y z : Int} (q : Ints vs [x, y, z]) : ∃ t u v, vs = [.int x t, .int y u, .int z v] := by
  have hl : vs.length = 3 := q.1
  match vs, hl with
  | [a, b, c], _ =>
    obtain ⟨t, e1⟩ := q.2 0 a x rfl rfl
    obtain ⟨u, e2⟩ := q.2 1 b y rfl rfl
    obtain ⟨v, e3⟩ := q.2 2 c z rfl rfl
    exact ⟨t, u, v, by rw [e1, e2, e3]⟩

/-- the while loop -/
theorem turns_while {P : Flow → Heap → Prop} (S : Stat hS mg mb) (B : Base hS h0) (hd : A.depth + 2 < recursionLimit) (hu : A.units + 9 < cLine) (hh : A.handled = none) (I : TurnInv rs Inv)
    (hr : IsRows h0 p rs) (hlen : rs.length = 5) (hrl : ∀ r ∈ rs, r.length ≤ 3) (hks : ks.length ≤ 25) (hI : Inv M ks)
    (x : TW h0 h L T hp rows M ks [("passages", .ref p), ("heap", .ref hp)] kv gv)
    (done : ∀ h' M' kv' gv', TW h0 h' L T hp rows M' [] [("passages", .ref p), ("heap", .ref hp)] kv' gv' → Inv M' [] → P .next h') :
    Tr prog w A (exec ((bodyAt 16).getD 2 (.Pass default)) (envAt 16 q cd L a)) h P := by
  have hzL := szL
  have hnp : hS.get? hp = none := by
    cases e : hS.get? hp with
    | none => rfl
    | some o => have := B hp o e; rw [x.fr hp (by simp)] at this; cases this
  refine Tr.while_ (fun n h' => ∃ M ks kv gv, TW h0 h' L T hp rows M ks [("passages", .ref p), ("heap", .ref hp)] kv gv ∧ Inv M ks ∧ n = 200 * zeros M + ks.length ∧ n ≤ 5025) ?_ (200 * zeros M + ks.length)
    ⟨M, ks, kv, gv, x, hI, rfl, by have := zeros_le M; omega⟩
  rintro n h₁ ⟨M, ks, kv, gv, x₁, hI, rfl, hle⟩
  obtain ⟨vs, lv, hvl⟩ := x₁.hpo.lst
  refine Tr.test_cmp (EvV.run (EvV.name x₁.loc) (Tr.list_disp (Tr.spl0 (Tr.newlist (fun h₂ l₂ s₂ => ?_) (by simp)))))
  refine Tr.ne_nil (lv.sub s₂ (by simp)) l₂ (by omega) (Tr.truthy_bool ?_)
  have x₂ := x₁.sub0 s₂
  rw [hvl]
  cases ks with
  | nil =>
    simp only [List.length_nil, bne_self_eq_false, Bool.false_eq_true, if_false]
    exact done h₂ M kv gv x₂ hI
  | cons k0 kr =>
    simp only [List.length_cons, Nat.add_one_ne_zero, bne_iff_ne, ne_eq, not_false_eq_true, if_true]
    have B₂ := B.step0 x₂.sub
    obtain ⟨a', ha', hf'⟩ := S.pop
    have hf₂ : IsFn h₂ a' 8 := IsFnD.sub hf' B₂
    obtain ⟨o, nm, q', doc, pm, cd', ct, an, ho, hdt, hcd⟩ := id hf₂
    refine Tr.execs_cons (Tr.assign_tuple (Tr.call_def (EvV.glob S B₂ ha') hdt (Tr.spl (EvV.run (EvV.name x₂.loc) (Tr.spl0 ⟨ho, ?_⟩)))))
    simp only [List.length_cons] at hle
    refine Tr.mono (pop_spec' S B₂ hnp hf₂ hd hu x₂.hpo (by simp) (by simp; omega)) fun r h₃ z => ?_
    obtain ⟨k, ks', tk, _, hp₃, pm', mn, s₃⟩ := z
    obtain ⟨t, b, c, ht, hb, hc, rfl⟩ := I.form M _ hI k (pm'.mem_iff.mpr (by simp))
    have hkl : (k0 :: kr).length = ks'.length + 1 := by rw [pm'.length_eq]; rfl
    simp only [List.length_cons] at hkl
    have x₃ := x₂.heap s₃ hp₃
    obtain ⟨av, ws, rfl, tv, iv⟩ := tk
    obtain ⟨w1, w2, w3, rfl⟩ := ints3 iv
    refine Tr.tgt_tuple3 hh tv fun h₄ s₄ => ?_
    have x₄ := x₃.sub0 s₄
    refine Tr.putA x₄.loc fun h₅ l₅ s₅ => ?_
    have x₅ := x₄.put s₅ l₅
    refine Tr.putA x₅.loc fun h₆ l₆ s₆ => ?_
    have x₆ := x₅.put s₆ l₆
    refine Tr.putA x₆.loc fun h₇ l₇ s₇ => ?_
    have x₇ := x₆.put s₇ l₇
    obtain ⟨r1, us1, er1, er1', lr1, ir1, _⟩ := x₇.tab.get hb
    obtain ⟨tx, ex⟩ := rowInts ir1 hc
    refine Tr.execs_cons (Tr.ite (EvB.run (EvB.eq (EvI.item (EvV.item (EvV.cell x₇.ct rfl) (EvI.name x₇.loc) x₇.tab.top.isList (by omega) (by omega) er1') (EvI.name x₇.loc) lr1.isList (by omega) (by omega) ex) EvI.lit) ?_))
    cases hz : M b c == 0 with
    | false =>
      simp only [Bool.false_eq_true, if_false]
      have hz' : M b c ≠ 0 := by simpa using hz
      exact Tr.execs_nil (Tr.execs_nil ⟨200 * zeros M + ks'.length, by omega, M, ks', kv, gv, x₇.pick, I.skip M _ ks' t b c hI pm' mn hb hc hz', rfl, by omega⟩)
    | true =>
      simp only [if_true]
      have hz' : M b c = 0 := by simpa using hz
      refine Tr.execs_cons (Tr.assign_item (EvV.run (EvV.name x₇.loc) (EvV.run (EvV.item (EvV.cell x₇.ct rfl) (EvI.name x₇.loc) x₇.tab.top.isList (by omega) (by omega) er1') (EvI.run (EvI.name x₇.loc) fun u1 => ?_))))
      refine Tr.set_tab x₇.tab er1 hc rfl fun h₈ t₈ s₈ => ?_
      have x₈ := x₇.setrow (List.mem_of_getElem? er1) s₈ t₈
      obtain ⟨r2, us2, er2, er2', lr2, ir2, _⟩ := x₈.tab.get hc
      refine Tr.execs_cons (Tr.assign_item (EvV.run (EvV.name x₈.loc) (EvV.run (EvV.item (EvV.cell x₈.ct rfl) (EvI.name x₈.loc) x₈.tab.top.isList (by omega) (by omega) er2') (EvI.run (EvI.name x₈.loc) fun u2 => ?_))))
      refine Tr.set_tab x₈.tab er2 hb rfl fun h₉ t₉ s₉ => ?_
      have x₉ := x₈.setrow (List.mem_of_getElem? er2) s₉ t₉
      refine Tr.mono (turns_quas (b := b) (c := c) S B hd hu hh hr hlen hrl hb hc (by omega) x₉.pick) fun fl hA z => ?_
      obtain ⟨z1, rfl, ks'', kv', gv', z2, z3, z4⟩ := z
      have hzp : zeros (put M b c t) < zeros M := zeros_put hb hc (by omega) hz'
      refine Tr.execs_nil ⟨200 * zeros (put M b c t) + ks''.length, by omega, put M b c t, ks'', kv', gv', x₉.of z4 z1, I.set M _ ks' ks'' t b c hI pm' mn hb hc hz' z3, rfl, by omega⟩
end
end Mine

/-! part E7 -/
namespace Mine
section
variable {prog : Program} {w : World} {A : Around} {h hS : Heap} {mg mb : Str → Option Value} {rs : List (List Int)} {Inv : (Nat → Nat → Int) → List (List Int) → Prop}

def refOf : Value → Addr
  | .ref a => a
  | _ => 0

theorem turns_spec {a p : Addr} (S : Stat hS mg mb) (B : Base hS h) (hf : IsFn h a 16) (hh : A.handled = none) (hd : A.depth + 3 < recursionLimit) (hu : A.units + 12 < cLine) (I : TurnInv rs Inv) (hr : IsRows h p rs) (hlen : rs.length = 5) (hrl : ∀ r ∈ rs, r.length ≤ 3) :
    Tr prog w A (call (.ref a) [.ref p]) h fun r h' => Sub [] h h' ∧ ∃ T rows M, r = .ref T ∧ Tab h' T rows M ∧ Inv M [] := by
  have hzL := szL
  refine Tr.enter hf (by omega) (S.nolimit.keeps B) (binds := [("passages", .ref p)]) (fun _ _ _ _ _ _ _ => rfl) ?_ ?_
  · intro L x hx
    simp only [List.mem_cons, List.not_mem_nil, or_false] at hx
    rcases hx with rfl; exact .inl rfl
  · intro q cd h₀ hn hc s₀
    have hl : Loc h₀ h.objs.size [("passages", .ref p)] := Loc.of_ns hn (by
      intro p hp
      simp only [List.mem_cons, List.not_mem_nil, or_false] at hp
      rcases hp with rfl; rfl)
    have hc1 : h₀.IsCell (h.objs.size + 1) none := hc "table" _ rfl
    have hc2 : h₀.IsCell (h.objs.size + 2) none := hc "kind" _ rfl
    have hc3 : h₀.IsCell (h.objs.size + 3) none := hc "goal" _ rfl
    have fr : ∀ b, h.objs.size ≤ b → h.get? b = none := fun b hb => get_none_of_le hb
    have hL0 : h.objs.size < h₀.objs.size := hl.lt
    have B₀ := B.step0 s₀
    generalize hLe : h.objs.size = L at *
    refine Tr.execs_cons (Tr.assign_name ?_)
    refine Tr.compF true [] (fun _ => true) (fun _ y h' => ∃ D ws, y = .ref D ∧ Lst h' D ws ∧ Ints ws [0, 0, 0, 0, 0] ∧ h₀.objs.size ≤ D)
      (Src.range (n := 5) hh (EvV.blt S B₀ S.range) EvI.lit (by omega)) (by omega) (fun C i v h₃ _ _ _ _ _ => Tr.test_nil ⟨rfl, Sub.refl⟩) ?_ ?_
    · intro C i v h₃ hi hv _ hC hl₃ hs
      refine Tr.list_disp (Tr.spl (EvI.run EvI.lit fun u1 => Tr.spl (EvI.run EvI.lit fun u2 => Tr.spl (EvI.run EvI.lit fun u3 => Tr.spl (EvI.run EvI.lit fun u4 => Tr.spl (EvI.run EvI.lit fun u5 => Tr.spl0 (Tr.newlist (fun h₄ l₄ s₄ => ?_) (by simp [hzL]))))))))
      refine ⟨s₄, fun h' k => ⟨_, _, rfl, Holds.lst l₄ (Nat.le_refl _) h' k, Ints.cons rfl (Ints.cons rfl (Ints.cons rfl (Ints.cons rfl (Ints.cons rfl Ints.nil)))), Nat.le_of_lt (Nat.lt_of_le_of_lt hC hl₃.lt)⟩, fun _ => ?_⟩
      obtain ⟨o, ho⟩ := l₄.get
      exact ⟨_, o, rfl, Nat.le_refl _, ho⟩
    intro T h₁ ys hT s₁ hnd hK
    obtain ⟨lT, hE⟩ := hK.here
    have hyl : ys.length = 5 := by rw [hE.1]; rfl
    have hel : ∀ (i : Nat) (y : Value), ys[i]? = some y → ∃ D ws, y = .ref D ∧ Lst h₁ D ws ∧ Ints ws [0, 0, 0, 0, 0] ∧ h₀.objs.size ≤ D := fun i y e => by
      have hi : i < 5 := hyl ▸ (List.getElem?_eq_some_iff.mp e).1
      exact hE.2 i i y (by rw [List.filter_eq_self.mpr (by simp)]; simp [hi]) e
    have hmem : ∀ y ∈ ys, ∃ D ws, y = .ref D ∧ Lst h₁ D ws ∧ Ints ws [0, 0, 0, 0, 0] ∧ h₀.objs.size ≤ D := fun y m => by
      obtain ⟨i, hi, e⟩ := List.mem_iff_getElem.mp m
      exact hel i y (by simp [hi, e])
    have hback : ∀ y ∈ ys, Value.ref (refOf y) = y := fun y m => by obtain ⟨D, ws, rfl, _⟩ := hmem y m; rfl
    have hmap : (ys.map refOf).map Value.ref = ys := by
      rw [List.map_map]
      conv => rhs; rw [← List.map_id ys]
      exact List.map_congr_left hback
    have tab : Tab h₁ T (ys.map refOf) (fun _ _ => 0) := by
      refine ⟨hmap.symm ▸ lT, by simpa using hyl, ?_, ?_, ?_⟩
      · have := hnd rfl
        rw [← hmap] at this
        exact List.Pairwise.of_map Value.ref (fun a b h e => h (congrArg _ e)) this
      · intro i r e
        rw [List.getElem?_map] at e
        cases hy : ys[i]? with
        | none => rw [hy] at e; cases e
        | some y =>
          rw [hy] at e
          obtain ⟨D, ws, rfl, l, i', _⟩ := hel i y hy
          cases e
          exact ⟨ws, l, i'⟩
      · intro m
        obtain ⟨y, my, e⟩ := List.mem_map.mp m
        obtain ⟨D, ws, rfl, l, i', _⟩ := hmem y my
        have : D = T := e
        subst this
        have e2 := Lst.uniq l lT
        subst e2
        obtain ⟨i, hi, e3⟩ := List.mem_iff_getElem.mp my
        have hi5 : i < [0, 0, 0, 0, (0 : Int)].length := i'.1 ▸ hi
        obtain ⟨t, e4⟩ := i'.2 i (.ref D) [0, 0, 0, 0, (0 : Int)][i] (by simp [hi, e3]) (List.getElem?_eq_getElem hi5)
        cases e4
    -- the rows are new
    have hrl₀ : ∀ r ∈ ys.map refOf, @LE.le Nat _ h₀.objs.size r ∧ @LT.lt Nat _ r h₁.objs.size := by
      intro r m
      obtain ⟨y, my, e⟩ := List.mem_map.mp m
      obtain ⟨D, ws, rfl, l, _, hD⟩ := hmem y my
      cases e
      exact ⟨hD, l.lt⟩
    generalize hrows : ys.map refOf = rows at *
    have hc1₁ := IsCell.sub hc1 s₁ (by simp)
    have hc2₁ := IsCell.sub hc2 s₁ (by simp)
    have hc3₁ := IsCell.sub hc3 s₁ (by simp)
    have hl₁ := hl.sub s₁ (by simp)
    refine Tr.put_cell hc1₁ rfl fun h₂ c₂ s₂ => ?_
    have tab₂ := tab.subCell s₂ hc1₁
    have hl₂ := hl₁.sub s₂ (by simp)
    have hc2₂ := IsCell.sub hc2₁ s₂ (by simp)
    have hc3₂ := IsCell.sub hc3₁ s₂ (by simp)
    have s₀₂ : Sub [] h h₂ := (s₀.trans s₁).lift s₂ (by simpa using fr (L + 1) (Nat.le_succ _))
    have B₂ := B.step0 s₀₂
    obtain ⟨a', ha', hf'⟩ := S.begun
    have hf₂ : IsFn h₂ a' 15 := IsFnD.sub hf' B₂
    obtain ⟨o, nm, q', doc, pm, cd', ct, an, ho, hdt, hcd⟩ := id hf₂
    refine Tr.execs_cons (Tr.assign_name (Tr.call_def (EvV.glob S B₂ ha') hdt (Tr.spl (EvV.run (EvV.name hl₂) (Tr.spl0 ⟨ho, ?_⟩)))))
    refine Tr.mono (begun_spec (rs := rs) S B₂ hf₂ hh (show A.depth + 1 + 2 < recursionLimit by omega) (show A.units + 3 + 9 < cLine by omega) (hr.sub0 s₀₂) hlen hrl) fun r h₃ z => ?_
    obtain ⟨s₃, hp, ks, rfl, hhp, hp₃, hk1, hk2⟩ := z
    have hl₃ := hl₂.sub s₃ (by simp)
    have hTlt : @LT.lt Nat _ T h₂.objs.size := tab₂.top.lt
    have hrlt : ∀ r ∈ rows, @LT.lt Nat _ r h₂.objs.size := fun r m => by
      obtain ⟨i, hi, e⟩ := List.mem_iff_getElem.mp m
      obtain ⟨ws, l, _⟩ := tab₂.row i r (by simp [hi, e])
      exact l.lt
    have hhp' : @LE.le Nat _ h₂.objs.size hp := hhp
    have hL2 : @LT.lt Nat _ L h₂.objs.size := hl₂.lt
    have x₃ : TW h h₃ L T hp rows (fun _ _ => 0) ks [("passages", .ref p)] none none :=
      ⟨hl₃, IsCell.sub c₂ s₃ (by simp), IsCell.sub hc2₂ s₃ (by simp), IsCell.sub hc3₂ s₃ (by simp), tab₂.sub0 s₃, hp₃, s₀₂.trans s₃, by
        intro b hb
        simp only [List.mem_cons] at hb
        rcases hb with rfl | rfl | rfl | rfl | hb
        · exact fr _ (Nat.le_refl _)
        · exact fr _ (by omega)
        · exact fr _ (by omega)
        · exact fr _ (Nat.le_trans (Nat.le_of_lt hL2) hhp')
        · exact fr _ (Nat.le_trans (Nat.le_of_lt hL0) (hrl₀ b hb).1),
        fun m => Nat.lt_irrefl _ (Nat.lt_of_lt_of_le (hrlt hp m) hhp'), Nat.ne_of_gt (Nat.lt_of_lt_of_le hTlt hhp')⟩
    refine Tr.putA x₃.loc fun h₄ l₄ s₄ => ?_
    have x₄ := x₃.put s₄ l₄
    refine Tr.execs_cons (turns_while (P := fun f h' => match f with | .next => Tr prog w (A.deeper (envAt 16 q cd L a)) (execs ((bodyAt 16).drop 3) (envAt 16 q cd L a)) h' _ | f => _) S B (show A.depth + 1 + 2 < recursionLimit by omega) (show A.units + 3 + 9 < cLine by omega) hh I hr hlen hrl hk1 (I.init ks hk2) x₄.pick ?_)
    intro h₅ M' kv' gv' x₅ hI
    exact Tr.execs_cons (Tr.retn (EvV.run (EvV.cell x₅.ct rfl) ⟨x₅.sub, T, rows, M', rfl, x₅.tab, hI⟩))
end
end Mine

/-! part E8 -/
namespace Mine
section
variable {prog : Program} {w : World} {A : Around} {env : Env} {h : Heap}
theorem Tr.test_or2 {a b : Expr} {p : Pos} {whole : Sem Value} {P : Bool → Heap → Prop}
    (x : Tr prog w A (isTrue a env (eval a env)) h fun c h₁ => if c then P true h₁ else Tr prog w A (isTrue b env (eval b env)) h₁ P) : Tr prog w A (isTrue (.BoolOp .Or [a, b] p) env whole) h P :=
  fun s Q E e hq => wpAny_isTrue_BoolOp (wpAny_allTrue_Or_cons (x s _ E e fun c h₁ tk y => by
    cases c with
    | true => simp only [if_true] at y ⊢; exact hq _ _ _ y
    | false =>
      simp only [Bool.false_eq_true, if_false] at y ⊢
      exact wpAny_allTrue_Or_cons (y _ _ _ rfl fun d h₂ tk z => by
        cases d with
        | true => simp only [if_true]; exact hq _ _ _ z
        | false => simp only [Bool.false_eq_true, if_false]; exact wpAny_allTrue_Or_nil (hq _ _ _ z))))
theorem EvB.or2 {a b : Expr} {p : Pos} {c d : Bool} (x : EvB prog w A env a h c) (y : EvB prog w A env b h d) : EvB prog w A env (.BoolOp .Or [a, b] p) h (c || d) :=
  Tr.test_or2 (Tr.mono x fun _ _ z => by
    rw [z.1, z.2]
    cases c with
    | true => simp
    | false => simpa [EvB] using y)
theorem Tr.item_tail {value slice : Expr} {l : Addr} {items : Array Value} {k : Int} {t : Tok} {v : Value} {P : Value → Heap → Prop} (hl : h.IsList l items) (h0 : 0 ≤ k) (hfit : k < 2 ^ 63) (hx : items[k.toNat]? = some v) (p : P v h)
    (hs : subscripted slice false (.ref l) (.int k t) = operate [.ref l, .int k t] (getItem (.ref l) (.int k t)) := by with_unfolding_all rfl) : Tr prog w A (subscriptTail value slice (.ref l) (.int k t)) h P :=
  fun s Q E e hq => by
    subst e
    exact tail_any hl.typeIs slot_list_getitem.lookup (wpAny_getItem_list hl h0 hfit hx (hq _ _ s.toks p)) hs
end

/-- the class that _law_classes reads off the table -/
def clsList (M : Nat → Nat → Int) (t : Int) (i : Nat) : List Nat := (List.range 5).filter fun j => M i j == 0 || decide (t < M i j)
def clsOf (M : Nat → Nat → Int) (t : Int) (i : Nat) : Nat := (clsList M t i).headD 0

section
variable {prog : Program} {w : World} {A : Around} {h hS : Heap} {mg mb : Str → Option Value}
theorem classes_spec {a T : Addr} {rows : List Addr} {M : Nat → Nat → Int} {t : Int} {tk : Tok} (S : Stat hS mg mb) (B : Base hS h) (hf : IsFn h a 17) (hh : A.handled = none) (hd : A.depth < recursionLimit) (tab : Tab h T rows M) (hM : ∀ i < 5, M i i = 0) :
    Tr prog w A (call (.ref a) [.ref T, .int t tk]) h fun r h' => Sub [] h h' ∧ NewInts h.objs.size h' r ((List.range 5).map fun i => ((clsOf M t i : Nat) : Int)) := by
  have hzL := szL
  refine Tr.enter hf hd (S.nolimit.keeps B) (binds := [("turns", .ref T), ("turn", .int t tk)]) (fun _ _ _ _ _ _ _ => rfl) ?_ ?_
  · intro L x hx
    simp only [List.mem_cons, List.not_mem_nil, or_false] at hx
    rcases hx with rfl | rfl
    · exact .inl rfl
    · exact .inr ⟨rfl, rfl⟩
  · intro q cd h₀ hn hc s₀
    have hl : Loc h₀ h.objs.size [("turns", .ref T)] := Loc.of_ns hn (by
      intro p hp
      simp only [List.mem_cons, List.not_mem_nil, or_false] at hp
      rcases hp with rfl; rfl)
    have hct : h₀.IsCell (h.objs.size + 1) (some (.int t tk)) := hc "turn" _ rfl
    have hcr : h₀.IsCell (h.objs.size + 2) none := hc "row" _ rfl
    have fr : ∀ b, h.objs.size ≤ b → h.get? b = none := fun b hb => get_none_of_le hb
    have hL0 : h.objs.size < h₀.objs.size := hl.lt
    generalize hLe : h.objs.size = L at *
    refine Tr.execs_cons (Tr.assign_name (Tr.list_disp (Tr.spl0 (Tr.newlist (fun h₁ l₁ s₁ => ?_) (by simp)))))
    have hcl : L + 2 < h₀.objs.size := hcr.lt
    generalize hCe : h₀.objs.size = C at *
    have hl₁ := hl.sub s₁ (by simp)
    refine Tr.putA hl₁ fun h₂ hl₂ s₂ => ?_
    have hLC : L ≠ C := by omega
    have l₂ := l₁.sub s₂ (by simpa using hLC.symm)
    have hct₂ := IsCell.sub (IsCell.sub hct s₁ (by simp)) s₂ (by simp)
    have hcr₂ := IsCell.sub (IsCell.sub hcr s₁ (by simp)) s₂ (by simp)
    have s₀₂ : Sub [] h h₂ := (s₀.trans s₁).lift s₂ (by simpa using fr L (Nat.le_refl _))
    have tab₂ := tab.sub0 s₀₂
    have fr3 : ∀ b ∈ [L, L + 2, C], h.get? b = none := by
      intro b hb
      simp only [List.mem_cons, List.not_mem_nil, or_false] at hb
      rcases hb with rfl | rfl | rfl <;> exact fr _ (by omega)
    have hTn : T ∉ [L, L + 2, C] := fun m => by
      obtain ⟨o, e⟩ := tab.top.get
      rw [fr3 T m] at e; cases e
    refine Tr.execs_cons (Tr.for_ (μ := [L, L + 2, C]) (Src.list (vs := rows.map Value.ref) hh (EvV.name hl₂) tab₂.top.isList)
      (fun i h' => Loc h' L [("turns", .ref T), ("classes", .ref C)] ∧ h'.IsCell (L + 1) (some (.int t tk)) ∧ (∃ v, h'.IsCell (L + 2) v) ∧ ∃ vs, Lst h' C vs ∧ Ints vs ((List.range i).map fun i => ((clsOf M t i : Nat) : Int)))
      ?_ (by simpa using hTn) ?_ ⟨hl₂.pick, hct₂, ⟨_, hcr₂⟩, [], l₂, Ints.nil⟩ ?_ ?_)
    · intro b hb
      simp only [List.mem_cons, List.not_mem_nil, or_false] at hb
      rcases hb with rfl | rfl | rfl
      · exact hl₂.lt
      · exact hcr₂.lt
      · exact l₂.lt
    · rintro i h₃ h₄ ⟨a1, a2, ⟨v, a3⟩, vs, a4, a5⟩ sF
      exact ⟨a1.subF sF, IsCell.subF a2 sF, ⟨v, IsCell.subF a3 sF⟩, vs, a4.subF sF, a5⟩
    · rintro i v h₃ hi hv ⟨a1, a2, ⟨v0, a3⟩, vs, a4, a5⟩ s₃
      have hi5 : i < 5 := by simpa [tab.len] using hi
      have s₀₃ : Sub [] h h₃ := s₀₂.lift s₃ fr3
      have tab₃ := tab.sub0 s₀₃
      obtain ⟨r, ws, er, _, lr, ir, lr5⟩ := tab₃.get hi5
      have ev : v = .ref r := by rw [List.getElem?_map, er] at hv; exact (Option.some.inj hv).symm
      subst ev
      refine Tr.tgt_name (Tr.put_cell a3 rfl fun h₄ c₄ s₄ => ?_)
      have hl₄ := a1.sub s₄ (by simp)
      have ct₄ := IsCell.sub a2 s₄ (by simp)
      have l₄ := a4.sub s₄ (by simpa using (cell_ne_lst a3 a4))
      have lr₄ := lr.sub s₄ (by simpa using (cell_ne_lst a3 lr))
      have s₀₄ : Sub [] h h₄ := s₀₃.lift s₄ (by simpa using fr (L + 2) (by omega))
      have B₄ := B.step0 s₀₄
      refine Tr.execs_cons (Tr.expr (Tr.append (EvV.name hl₄) l₄ (Tr.sub_ ?_)))
      refine Tr.comp [("turn", L + 1), ("row", L + 2)] (fun j => M i j == 0 || decide (t < M i j)) (fun j y _ => ∃ t, y = Value.int (j : Nat) t)
        (Src.range (n := 5) hh (EvV.blt S B₄ S.range) EvI.lit (by omega)) (by omega) ?_ ?_ ?_
      · intro K j u h₅ hj hu _ hl₅ hs
        obtain ⟨tj, rfl⟩ := hu
        obtain ⟨tx, ex⟩ := rowInts ir hj
        have lr₅ := lr₄.sub hs (by simp)
        have cr₅ := IsCell.sub c₄ hs (by simp)
        have ct₅ := IsCell.sub ct₄ hs (by simp)
        exact Tr.test_one (EvB.run (EvB.or2 (EvB.eq (EvI.item (EvV.cell cr₅ rfl) (EvI.name hl₅) lr₅.isList (by omega) (by omega) ex) EvI.lit)
          (EvB.gt (EvI.item (EvV.cell cr₅ rfl) (EvI.name hl₅) lr₅.isList (by omega) (by omega) ex) (EvV.int (EvV.cell ct₅ rfl)))) ⟨rfl, Sub.refl⟩)
      · intro K j u h₅ hj hu _ _ hl₅ hs
        obtain ⟨tj, rfl⟩ := hu
        exact EvV.run (EvV.name hl₅) ⟨Sub.refl, Holds.const ⟨tj, rfl⟩⟩
      · intro K h₅ zs hK s₅ hE
        obtain ⟨lK, hEl⟩ := hE.here
        have iz := hEl.ints
        change Ints zs ((clsList M t i).map fun j => ((j : Nat) : Int)) at iz
        have hne : clsList M t i ≠ [] := by
          intro e
          have : i ∈ clsList M t i := by simp [clsList, hi5, hM i hi5]
          rw [e] at this; simp at this
        obtain ⟨c0, cr, ec⟩ := List.exists_cons_of_ne_nil hne
        have ecls : clsOf M t i = c0 := by unfold clsOf; rw [ec]; rfl
        rw [ec] at iz
        obtain ⟨tz, ez⟩ := iz.get (i := 0) (n := ((c0 : Nat) : Int)) (by simp)
        refine EvI.run EvI.lit fun u0 => ?_
        refine Tr.item_tail lK.isList (by omega) (by omega) (v := .int ((c0 : Nat) : Int) tz) (by simpa using ez) ?_
        have vl : vs.length = i := by rw [a5.1]; simp
        refine Tr.append_call (l₄.sub s₅ (by simp)) (by omega) fun h₆ l₆ s₆ => ?_
        have l₄₅ := l₄.sub s₅ (by simp)
        refine Tr.execs_nil ⟨(s₄.one (by simp)).trans ((s₅.mono (by simp)).trans (s₆.one (by simp))), (hl₄.sub s₅ (by simp)).sub s₆ (by simpa using hLC), ?_, ⟨some (.ref r), ?_⟩, _, l₆, ?_⟩
        · exact IsCell.sub (IsCell.sub ct₄ s₅ (by simp)) s₆ (by simpa using (cell_ne_lst (IsCell.sub ct₄ s₅ (by simp)) l₄₅).symm)
        · exact IsCell.sub (IsCell.sub c₄ s₅ (by simp)) s₆ (by simpa using (cell_ne_lst (IsCell.sub c₄ s₅ (by simp)) l₄₅).symm)
        · rw [List.range_succ, List.map_append]
          exact a5.snoc (t := tz) (by dsimp only; rw [ecls])
    · rintro h₃ ⟨a1, a2, _, vs, a4, a5⟩ s₃
      refine Tr.execs_cons (Tr.retn (EvV.run (EvV.name a1) ⟨s₀₂.lift s₃ fr3, C, vs, rfl, by omega, ?_, a4⟩))
      have : (rows.map Value.ref).length = 5 := by simpa using tab.len
      rw [this] at a5
      exact a5
end
end Mine

/-! part F1 -/
namespace Mine

/-- the values are tuples with these keys -/
def Tups (h : Heap) (vs : List Value) (ks : List (List Int)) : Prop := vs.length = ks.length ∧ ∀ (i : Nat) (v : Value) (k : List Int), vs[i]? = some v → ks[i]? = some k → Tup h v k
theorem Tups.nil {h : Heap} : Tups h [] [] := ⟨rfl, fun _ _ _ e => by simp at e⟩
theorem Tups.sub {μ : List Addr} {h h' : Heap} {vs : List Value} {ks : List (List Int)} (x : Tups h vs ks) (s : Sub μ h h') (n : ∀ a ∈ μ, ∀ vs, ¬ h.IsTuple a vs) : Tups h' vs ks := ⟨x.1, fun i v k e1 e2 => (x.2 i v k e1 e2).sub s n⟩
theorem Tups.sub0 {h h' : Heap} {vs : List Value} {ks : List (List Int)} (x : Tups h vs ks) (s : Sub [] h h') : Tups h' vs ks := x.sub s (by simp)
theorem Tups.subF {h h' : Heap} {vs : List Value} {ks : List (List Int)} (x : Tups h vs ks) (s : SubF h h') : Tups h' vs ks := ⟨x.1, fun i v k e1 e2 => (x.2 i v k e1 e2).subF s⟩
theorem Tups.snoc {h : Heap} {vs : List Value} {ks : List (List Int)} {v : Value} {k : List Int} (x : Tups h vs ks) (t : Tup h v k) : Tups h (vs ++ [v]) (ks ++ [k]) := by
  refine ⟨by simp [x.1], fun i u j h1 h2 => ?_⟩
  rcases Nat.lt_or_ge i vs.length with hl | hl
  · rw [List.getElem?_append_left hl] at h1
    rw [List.getElem?_append_left (x.1 ▸ hl)] at h2
    exact x.2 i u j h1 h2
  · rw [List.getElem?_append_right hl] at h1
    rw [List.getElem?_append_right (x.1 ▸ hl), ← x.1] at h2
    cases h : i - vs.length with
    | zero => rw [h] at h1 h2; simp at h1 h2; subst h1 h2; exact t
    | succ j => rw [h] at h1; simp at h1
theorem Tups.get {h : Heap} {vs : List Value} {ks : List (List Int)} (x : Tups h vs ks) {i : Nat} {v : Value} (e : vs[i]? = some v) : Tup h v (ks.getD i []) := by
  have hi : i < ks.length := by rw [← x.1]; exact (List.getElem?_eq_some_iff.mp e).1
  exact x.2 i v _ e (getD_get hi)
theorem Tups.erase {h : Heap} {vs : List Value} {ks : List (List Int)} (x : Tups h vs ks) (j : Nat) : Tups h (vs.eraseIdx j) (ks.eraseIdx j) := by
  refine ⟨by simp [List.length_eraseIdx, x.1], fun i v k e1 e2 => ?_⟩
  rw [List.getElem?_eraseIdx] at e1 e2
  split at e1
  · rename_i h; rw [if_pos h] at e2; exact x.2 _ _ _ e1 e2
  · rename_i h; rw [if_neg h] at e2; exact x.2 _ _ _ e1 e2

section
variable {A : Around} {s : Shared}
/-- two tuples of ints are compared -/
theorem eqAt_tup {y x : Value} {ns ks : List Int} (hy : Tup s.heap y ns) (hx : Tup s.heap x ks) (hu : A.units < cLine) : SeqAt.EqAt A s y x (decide (ns = ks)) := by
  obtain ⟨a, vs, rfl, ta, ia⟩ := id hy
  obtain ⟨b, ws, rfl, tb, ib⟩ := id hx
  by_cases hab : a = b
  · subst hab
    have : ns = ks := hy.uniq hx
    subst this
    simpa using SeqAt.EqAt.same (A := A) (s := s) (.ref a)
  · refine SeqAt.EqAt.of_refs hab ?_
    have hva : vs.toArray.size = ns.length := by simpa using ia.1
    have hwb : ws.toArray.size = ks.length := by simpa using ib.1
    have key := SeqAt.RcAt.tuples (e := fun j => decide (ns[j]? = ks[j]?)) ta tb hu (fun j h1 h2 => by
      have l1 : j < ns.length := hva ▸ h1
      have l2 : j < ks.length := hwb ▸ h2
      have v1 : j < vs.length := by simpa using h1
      have v2 : j < ws.length := by simpa using h2
      obtain ⟨t, e1⟩ := ia.2 j vs[j] ns[j] (by simp [v1]) (by simp [l1])
      obtain ⟨u, e2⟩ := ib.2 j ws[j] ks[j] (by simp [v2]) (by simp [l2])
      have e3 : vs.toArray[j] = .int ns[j] t := by simpa using e1
      have e4 : ws.toArray[j] = .int ks[j] u := by simpa using e2
      rw [e3, e4]
      have e5 : decide (ns[j]? = ks[j]?) = (ns[j] == ks[j]) := by
        rw [List.getElem?_eq_getElem l1, List.getElem?_eq_getElem l2, Bool.eq_iff_iff, decide_eq_true_iff, beq_iff_eq, Option.some.injEq]
      rw [e5]
      exact SeqAt.EqAt.int_int _ _ _ _)
    have hfin : ((List.range (min vs.toArray.size ws.toArray.size)).all (fun j => decide (ns[j]? = ks[j]?)) && vs.toArray.size == ws.toArray.size) = decide (ns = ks) := by
      rw [hva, hwb, Bool.eq_iff_iff, Bool.and_eq_true_iff, List.all_eq_true, decide_eq_true_iff]
      constructor
      · rintro ⟨h1, h2⟩
        have hl : ns.length = ks.length := by simpa using h2
        apply List.ext_getElem?
        intro j
        rcases Nat.lt_or_ge j ns.length with hj | hj
        · simpa using h1 j (by simp; omega)
        · rw [List.getElem?_eq_none hj, List.getElem?_eq_none (by omega)]
      · rintro rfl
        simp
    rw [hfin] at key
    exact key
end

/-- is y's key this one? -/
noncomputable def hasKey (h : Heap) (k : List Int) (y : Value) : Bool := @decide (Tup h y k) (Classical.propDecidable _)
theorem hasKey_def {h : Heap} {k : List Int} {y : Value} : hasKey h k y = true ↔ Tup h y k := by
  unfold hasKey
  exact @decide_eq_true_iff _ (Classical.propDecidable _)
theorem eqAt_tups {A : Around} {s : Shared} {vs : List Value} {ks : List (List Int)} {x : Value} {k : List Int} (hv : Tups s.heap vs ks) (hx : Tup s.heap x k) (hu : A.units < cLine) : ∀ y, y ∈ vs.toArray → SeqAt.EqAt A s y x (hasKey s.heap k y) := by
  intro y hy
  have hy : y ∈ vs := by simpa using hy
  obtain ⟨i, hi, e⟩ := List.mem_iff_getElem.mp hy
  have hi' : i < ks.length := hv.1 ▸ hi
  have t := hv.2 i y ks[i] (by simp [hi, e]) (by simp [hi'])
  have : hasKey s.heap k y = decide (ks[i] = k) := by
    rw [Bool.eq_iff_iff, hasKey_def, decide_eq_true_iff]
    exact ⟨fun q => t.uniq q, fun q => q ▸ t⟩
  rw [this]
  exact eqAt_tup t hx hu
theorem hasKey_iff {h : Heap} {vs : List Value} {ks : List (List Int)} {k : List Int} (hv : Tups h vs ks) {i : Nat} (hi : i < vs.length) : hasKey h k vs[i] = true ↔ ks.getD i [] = k := by
  have t := hv.get (i := i) (v := vs[i]) (by simp [hi])
  rw [hasKey_def]
  exact ⟨fun q => t.uniq q, fun q => q ▸ t⟩
theorem any_hasKey {h : Heap} {vs : List Value} {ks : List (List Int)} {k : List Int} (hv : Tups h vs ks) : vs.toArray.any (hasKey h k) = ks.contains k := by
  rw [List.any_toArray, Bool.eq_iff_iff, List.any_eq_true, List.contains_iff_mem]
  constructor
  · rintro ⟨v, hm, hk⟩
    obtain ⟨i, hi, e⟩ := List.mem_iff_getElem.mp hm
    subst e
    have := (hasKey_iff hv hi).mp hk
    have hi' : i < ks.length := hv.1 ▸ hi
    rw [← this]
    exact List.mem_of_getElem? (getD_get hi')
  · intro hm
    obtain ⟨i, hi, e⟩ := List.mem_iff_getElem.mp hm
    have hi' : i < vs.length := hv.1.symm ▸ hi
    exact ⟨vs[i], List.getElem_mem hi', (hasKey_iff hv hi').mpr (by simp [List.getD, hi, e])⟩

section
variable {prog : Program} {w : World} {A : Around} {env : Env} {h : Heap}
theorem EvB.notin_tups {a b : Expr} {p : Pos} {l : Addr} {v : Value} {k : List Int} {vs : List Value} {ks : List (List Int)} (x : EvV prog w A env a h v) (y : EvV prog w A env b h (.ref l)) (hl : h.IsList l vs.toArray) (hi : Tups h vs ks) (t : Tup h v k) (hu : A.units + 1 < cLine)
    (hm : behindInMarks .NotIn b = false := by with_unfolding_all rfl) : EvB prog w A env (.Compare a [.NotIn] [b] p) h (!ks.contains k) :=
  EvB.cmp x y (fun s Q E e hq => by
    subst e
    refine SeqAt.notIn_listAt (hasKey s.heap k) hl (eqAt_tups hi t hu) ?_
    rw [any_hasKey hi]; exact hq _ _ s.toks ⟨rfl, rfl⟩) hm
end

/-- each key once, at its first place -/
def dedupK (ks : List (List Int)) : List (List Int) := ks.foldl (fun acc k => if acc.contains k then acc else acc ++ [k]) []
theorem dedup_go : ∀ (ks acc : List (List Int)), acc.Nodup → ((ks.foldl (fun acc k => if acc.contains k then acc else acc ++ [k]) acc).Nodup ∧ ∀ k, k ∈ ks.foldl (fun acc k => if acc.contains k then acc else acc ++ [k]) acc ↔ k ∈ acc ∨ k ∈ ks)
  | [], acc, h => ⟨h, fun k => by simp⟩
  | x :: r, acc, h => by
    rw [List.foldl_cons]
    by_cases hx : acc.contains x = true
    · rw [if_pos hx]
      have hx' : x ∈ acc := by simpa using hx
      obtain ⟨h1, h2⟩ := dedup_go r acc h
      refine ⟨h1, fun k => (h2 k).trans ?_⟩
      simp only [List.mem_cons]
      constructor
      · rintro (q | q)
        · exact .inl q
        · exact .inr (.inr q)
      · rintro (q | rfl | q)
        · exact .inl q
        · exact .inl hx'
        · exact .inr q
    · rw [if_neg hx]
      have hx' : x ∉ acc := by simpa using hx
      have nd : (acc ++ [x]).Nodup := by
        refine List.nodup_append.mpr ⟨h, by simp, fun a ha b hb e => ?_⟩
        have hb' : b = x := by simpa using hb
        exact hx' (hb' ▸ e ▸ ha)
      obtain ⟨h1, h2⟩ := dedup_go r (acc ++ [x]) nd
      refine ⟨h1, fun k => (h2 k).trans ?_⟩
      simp only [List.mem_append, List.mem_cons, List.not_mem_nil, or_false]
      constructor
      · rintro ((q | q) | q)
        · exact .inl q
        · exact .inr (.inl q)
        · exact .inr (.inr q)
      · rintro (q | q | q)
        · exact .inl (.inl q)
        · exact .inl (.inr q)
        · exact .inr q
theorem dedup_nodup (ks : List (List Int)) : (dedupK ks).Nodup := (dedup_go ks [] List.nodup_nil).1
theorem dedup_mem (ks : List (List Int)) (k : List Int) : k ∈ dedupK ks ↔ k ∈ ks := ((dedup_go ks [] List.nodup_nil).2 k).trans (by simp)
end Mine

/-! part F2 -/
namespace Mine
theorem Tups.subLoc {L : Addr} {l : List (Str × Value)} {h h' : Heap} {vs : List Value} {ks : List (List Int)} (x : Tups h vs ks) (s : Sub [L] h h') (hl : Loc h L l) : Tups h' vs ks :=
  x.sub s (by simp; intro ws q; exact hl.ne_tuple q rfl)
theorem Tups.subL {l : Addr} {us : List Value} {h h' : Heap} {vs : List Value} {ks : List (List Int)} (x : Tups h vs ks) (s : Sub [l] h h') (hl : Lst h l us) : Tups h' vs ks :=
  x.sub s (by simpa using lst_no_tuple hl)
section
variable {prog : Program} {w : World} {A : Around} {h hS : Heap} {mg mb : Str → Option Value}
theorem dedup_spec {a p : Addr} {vs : List Value} {ks : List (List Int)} (S : Stat hS mg mb) (B : Base hS h) (hf : IsFn h a 1) (hh : A.handled = none) (hd : A.depth < recursionLimit) (hu : A.units + 4 < cLine) (hp : Lst h p vs) (ht : Tups h vs ks) (hz : vs.length ≤ 1000) :
    Tr prog w A (call (.ref a) [.ref p]) h fun r h' => Sub [] h h' ∧ ∃ D us, r = .ref D ∧ h.objs.size ≤ D ∧ Lst h' D us ∧ Tups h' us (dedupK ks) ∧ us.length ≤ vs.length := by
  have hzL := szL
  refine Tr.enter hf hd (S.nolimit.keeps B) (binds := [("unhashable_params", .ref p)]) (fun _ _ _ _ _ _ _ => rfl) ?_ ?_
  · intro L x hx
    simp only [List.mem_cons, List.not_mem_nil, or_false] at hx
    rcases hx with rfl; exact .inl rfl
  · intro q cd h₀ hn hc s₀
    have hl : Loc h₀ h.objs.size [("unhashable_params", .ref p)] := Loc.of_ns hn (by
      intro p hp
      simp only [List.mem_cons, List.not_mem_nil, or_false] at hp
      rcases hp with rfl; rfl)
    have fr : ∀ b, h.objs.size ≤ b → h.get? b = none := fun b hb => get_none_of_le hb
    have hL0 : h.objs.size < h₀.objs.size := hl.lt
    generalize hLe : h.objs.size = L at *
    refine Tr.execs_cons (Tr.assign_name (Tr.list_disp (Tr.spl0 (Tr.newlist (fun h₁ l₁ s₁ => ?_) (by simp)))))
    generalize hDe : h₀.objs.size = D at *
    have hl₁ := hl.sub s₁ (by simp)
    refine Tr.putA hl₁ fun h₂ hl₂ s₂ => ?_
    have hLD : L ≠ D := by omega
    have l₂ := l₁.sub s₂ (by simpa using hLD.symm)
    have s₀₂ : Sub [] h h₂ := (s₀.trans s₁).lift s₂ (by simpa using fr L (Nat.le_refl _))
    have fr2 : ∀ b ∈ [L, D], h.get? b = none := by
      intro b hb
      simp only [List.mem_cons, List.not_mem_nil, or_false] at hb
      rcases hb with rfl | rfl <;> exact fr _ (by omega)
    have hpn : p ∉ [L, D] := fun m => by obtain ⟨o, e⟩ := hp.get; rw [fr2 p m] at e; cases e
    refine Tr.execs_cons (Tr.for_ (μ := [L, D]) (Src.list hh (EvV.name hl₂) (hp.sub s₀₂ (by simp)).isList)
      (fun i h' => Loc h' L [("unhashable_params", .ref p), ("new_unhashable", .ref D)] ∧ ∃ us, Lst h' D us ∧ Tups h' us (dedupK (ks.take i)) ∧ us.length ≤ i)
      ?_ (by simpa using hpn) ?_ ⟨hl₂.pick, [], l₂, by simpa [dedupK] using Tups.nil, Nat.le_refl _⟩ ?_ ?_)
    · intro b hb
      simp only [List.mem_cons, List.not_mem_nil, or_false] at hb
      rcases hb with rfl | rfl
      · exact hl₂.lt
      · exact l₂.lt
    · rintro i h₃ h₄ ⟨a1, us, a2, a3, a4⟩ sF
      exact ⟨a1.subF sF, us, a2.subF sF, a3.subF sF, a4⟩
    · rintro i v h₃ hi hv ⟨a1, us, a2, a3, a4⟩ s₃
      have s₀₃ : Sub [] h h₃ := s₀₂.lift s₃ fr2
      have tv : Tup h₃ v (ks.getD i []) := ((ht.sub0 s₀₃).get hv)
      have hik : i < ks.length := by rw [← ht.1]; exact hi
      refine Tr.tgt_name (Tr.putA a1 fun h₄ hl₄ s₄ => ?_)
      have l₄ := a2.sub s₄ (by simpa using hLD.symm)
      have t₄ := a3.subLoc s₄ a1
      have tv₄ : Tup h₄ v (ks.getD i []) := tv.sub s₄ (by simp; intro ws q; exact a1.ne_tuple q rfl)
      have tk1 : dedupK (ks.take (i + 1)) = if (dedupK (ks.take i)).contains (ks.getD i []) then dedupK (ks.take i) else dedupK (ks.take i) ++ [ks.getD i []] := by
        unfold dedupK
        rw [List.take_add_one, getD_get (d := []) hik, List.foldl_append]
        rfl
      refine Tr.execs_cons (Tr.ite (EvB.run (EvB.notin_tups (EvV.name hl₄) (EvV.name hl₄) l₄.isList t₄ tv₄ (show A.units + 3 + 1 < cLine by omega)) ?_))
      cases hc : (dedupK (ks.take i)).contains (ks.getD i []) with
      | true =>
        rw [hc] at tk1
        simp only [Bool.not_true, Bool.false_eq_true, if_false]
        refine Tr.execs_nil (Tr.execs_nil ⟨s₄.one (by simp), hl₄.pick, us, l₄, ?_, by omega⟩)
        rw [tk1]; exact t₄
      | false =>
        rw [hc] at tk1
        simp only [Bool.not_false, if_true]
        refine Tr.execs_cons (Tr.expr (Tr.append (EvV.name hl₄) l₄ (EvV.run (EvV.name hl₄) (Tr.append_call l₄ (by omega) fun h₅ l₅ s₅ => ?_))))
        refine Tr.execs_nil (Tr.execs_nil ⟨(s₄.one (by simp)).trans (s₅.one (by simp)), (hl₄.sub s₅ (by simpa using hLD)).pick, us ++ [v], l₅, ?_, by simp; omega⟩)
        rw [tk1]
        exact (t₄.subL s₅ l₄).snoc (tv₄.subL s₅ l₄)
    · rintro h₃ ⟨a1, us, a2, a3, a4⟩ s₃
      refine Tr.execs_cons (Tr.retn (EvV.run (EvV.name a1) ⟨s₀₂.lift s₃ fr2, D, us, rfl, by omega, a2, ?_, a4⟩))
      rw [ht.1, List.take_length] at a3
      exact a3
end
end Mine

/-! part F3 -/
namespace Mine

section
open MeetsSeq MeetsSeq2 MeetsSeq3 SeqRoads2 SeqAt
theorem remove_loopAt (l : Addr) (items : Array Value) (n : Nat) (x : Value) (e : Value → Bool) (j : Nat) (hj : j < items.size) (hit : e items[j] = true) (k : Nat) (hs1 : items.size ≤ sizeLine) :
    ∀ i : Nat, j - i = k → i ≤ j → (∀ m (hm : m < items.size), i ≤ m → m < j → e items[m] = false) → Meets (Builtin.«list.remove.loop» ⟨[.ref l, x, rawInt i], []⟩)
      (fun A R s => s.heap.get? l = some { cls := .type "list", dict := none, data := .seq items n, slots := #[] } ∧ (∀ y, y ∈ items → EqAt A.in1 s y x (e y)) ∧ R (.ok (.ret .none)) { s with heap := s.heap.update l (Obj.mapSeq fun xs => xs.eraseIdxIfInBounds j) }) := by
  induction k with
  | zero =>
    intro i hk hij hno prog w A R s h
    obtain ⟨hp, g, d, tk, os⟩ := s; obtain ⟨hl, he, h⟩ := h
    have hij' : i = j := by omega
    subst hij'
    wp_walk using AutoSeq1.wpAny_loadPart' hl
    have hi : items[((i : Nat) : Int).toNat]? = some items[i] := by simp [hj]
    rw [hi]
    refine wpAny_bind (he _ (Array.getElem_mem hj) prog w _ _ ?_)
    rw [hit]
    have hz' : (items.eraseIdxIfInBounds i).size ≤ sizeLine + 1 := Nat.le_trans (size_erased items _) (Nat.le_succ_of_le hs1)
    wp_walk using (wpAny_updateSeq hl rfl (hz := hs1) (_hz' := hz')), AutoSeq1.wpAny_loadPart' hl
    simpa using h
  | succ k ih =>
    intro i hk hij hno prog w A R s h
    obtain ⟨hp, g, d, tk, os⟩ := s; obtain ⟨hl, he, h⟩ := h
    have hlt : i < items.size := by omega
    wp_walk using AutoSeq1.wpAny_loadPart' hl
    have hi : items[((i : Nat) : Int).toNat]? = some items[i] := by simp [hlt]
    have hc : ((i : Int) + 1) = ((i + 1 : Nat) : Int) := by push_cast; rfl
    rw [hi]
    refine wpAny_bind (he _ (Array.getElem_mem hlt) prog w _ _ ?_)
    rw [hno i hlt (Nat.le_refl _) (by omega)]
    wp_walk
    rw [hc]
    exact ⟨plainId_quiet plain_remove_loop _, codeAny_builtin entry_remove_loop (by
      rw [Around.under_plainId plain_remove_loop _]
      exact ih (i + 1) (by omega) (by omega) (fun m hm h1 h2 => hno m hm (by omega) h2) prog w A R _ ⟨hl, he, h⟩)⟩
theorem list_removeAt (l : Addr) (items : Array Value) (n : Nat) (x : Value) (e : Value → Bool) (j : Nat) (hj : j < items.size)
    (hit : e items[j] = true) (hno : ∀ m (hm : m < items.size), m < j → e items[m] = false) (hs1 : items.size ≤ sizeLine) :
    Meets (Builtin.«list.remove» ⟨[.ref l, x], []⟩)
      (fun A R s => s.heap.get? l = some { cls := .type "list", dict := none, data := .seq items n, slots := #[] } ∧ (∀ y, y ∈ items → EqAt A.in1 s y x (e y)) ∧ R (.ok (.ret .none)) { s with heap := s.heap.update l (Obj.mapSeq fun xs => xs.eraseIdxIfInBounds j) }) := by
  intro prog w A R s h
  obtain ⟨hp, g, d, tk, os⟩ := s; obtain ⟨hl, he, h⟩ := h
  wp_walk using AutoSeq1.wpAny_loadPart' hl
  exact ⟨plainId_quiet plain_remove_loop _, codeAny_builtin entry_remove_loop (by
    rw [Around.under_plainId plain_remove_loop _]
    exact remove_loopAt l items n x e j hj hit _ hs1 0 rfl (Nat.zero_le _) (fun m hm _ h2 => hno m hm h2) prog w A R _ ⟨hl, he, h⟩)⟩
theorem remove_loop_noneAt (l : Addr) (items : Array Value) (n : Nat) (x : Value) (e : Value → Bool) (hno : ∀ m (hm : m < items.size), e items[m] = false) (k : Nat) :
    ∀ i : Nat, items.size - i = k → Meets (Builtin.«list.remove.loop» ⟨[.ref l, x, rawInt i], []⟩)
      (fun A R s => s.heap.get? l = some { cls := .type "list", dict := none, data := .seq items n, slots := #[] } ∧ (∀ y, y ∈ items → EqAt A.in1 s y x (e y)) ∧ raisesNew "ValueError" A R s) := by
  induction k with
  | zero =>
    intro i hk prog w A R s h
    obtain ⟨hp, g, d, tk, os⟩ := s; obtain ⟨hl, he, h⟩ := h
    wp_walk using AutoSeq1.wpAny_loadPart' hl
    have hi : items[((i : Nat) : Int).toNat]? = none := by simp; omega
    rw [hi]
    wp_walk
    exact_raiseError plainExc_ValueError h.1 h.2
  | succ k ih =>
    intro i hk prog w A R s h
    obtain ⟨hp, g, d, tk, os⟩ := s; obtain ⟨hl, he, h⟩ := h
    have hlt : i < items.size := by omega
    wp_walk using AutoSeq1.wpAny_loadPart' hl
    have hi : items[((i : Nat) : Int).toNat]? = some items[i] := by simp [hlt]
    have hc : ((i : Int) + 1) = ((i + 1 : Nat) : Int) := by push_cast; rfl
    rw [hi]
    refine wpAny_bind (he _ (Array.getElem_mem hlt) prog w _ _ ?_)
    rw [hno i hlt]
    wp_walk
    rw [hc]
    exact ⟨plainId_quiet plain_remove_loop _, codeAny_builtin entry_remove_loop (by
      rw [Around.under_plainId plain_remove_loop _]
      exact ih (i + 1) (by omega) prog w A R _ ⟨hl, he, h⟩)⟩
theorem list_remove_noneAt (l : Addr) (items : Array Value) (n : Nat) (x : Value) (e : Value → Bool) (hno : ∀ m (hm : m < items.size), e items[m] = false) :
    Meets (Builtin.«list.remove» ⟨[.ref l, x], []⟩)
      (fun A R s => s.heap.get? l = some { cls := .type "list", dict := none, data := .seq items n, slots := #[] } ∧ (∀ y, y ∈ items → EqAt A.in1 s y x (e y)) ∧ raisesNew "ValueError" A R s) := by
  intro prog w A R s h
  obtain ⟨hp, g, d, tk, os⟩ := s; obtain ⟨hl, he, h⟩ := h
  wp_walk using AutoSeq1.wpAny_loadPart' hl
  exact ⟨plainId_quiet plain_remove_loop _, codeAny_builtin entry_remove_loop (by
    rw [Around.under_plainId plain_remove_loop _]
    exact remove_loop_noneAt l items n x e hno _ 0 rfl prog w A R _ ⟨hl, he, h⟩)⟩
end
end Mine

/-! part F4 -/
namespace Mine

/-- the frames on the stack stand -/
def Frames (h : Heap) (l : List Env) : Prop := ∀ env ∈ l, env.scope.kind ≠ .module ∧ ∃ L o, env.frame = some L ∧ h.get? L = some o ∧ ∃ es ep, o.data = .dict es ep
theorem dict_nf {o : Obj} (x : ∃ es ep, o.data = .dict es ep) : ∀ vs, o.data ≠ .fields vs := fun vs q => by obtain ⟨es, ep, d⟩ := x; rw [d] at q; cases q
def fa (l : List Env) : List Addr := l.filterMap (·.frame)
/-- all is kept, frames but for the interpreter's own notes in them -/
structure Weak (fs : List Addr) (h h' : Heap) : Prop where
  sub : Sub fs h h'
  up : ∀ b o, h.get? b = some o → (∀ vs, o.data ≠ .fields vs) → ∃ sl, h'.get? b = some { o with slots := sl }
theorem Weak.of_sub {fs : List Addr} {h h' : Heap} (s : Sub [] h h') : Weak fs h h' := ⟨s.mono (by simp), fun b o e _ => ⟨o.slots, s.all b o e⟩⟩
theorem Weak.trans {fs : List Addr} {h h' h'' : Heap} (x : Weak fs h h') (y : Weak fs h' h'') : Weak fs h h'' :=
  ⟨x.sub.trans y.sub, fun b o e n => by
    obtain ⟨sl, e1⟩ := x.up b o e n
    obtain ⟨sl', e2⟩ := y.up b _ e1 n
    exact ⟨sl', e2⟩⟩
theorem Weak.lift {fs μ : List Addr} {h h₁ h₂ : Heap} (x : Weak fs h h₁) (y : Sub μ h₁ h₂) (n : ∀ a ∈ μ, h.get? a = none) : Weak fs h h₂ :=
  ⟨fun b o hb e => y b o (fun m => by rw [n b m] at e; cases e) (x.sub b o hb e), fun b o e q => by
    obtain ⟨sl, e1⟩ := x.up b o e q
    exact ⟨sl, y b _ (fun m => by rw [n b m] at e; cases e) e1⟩⟩
theorem Weak.mono {fs gs : List Addr} {h h' : Heap} (x : Weak fs h h') (k : ∀ a ∈ fs, a ∈ gs) : Weak gs h h' := ⟨x.sub.mono k, x.up⟩
theorem Weak.drop {a : Addr} {fs : List Addr} {h h' : Heap} (x : Weak (a :: fs) h h') (n : h.get? a = none) : Weak fs h h' := ⟨x.sub.drop n, x.up⟩
theorem Ns.weak {fs : List Addr} {h h' : Heap} {a : Addr} {m : Str → Option Value} (x : h.Ns a m) (s : Weak fs h h') : h'.Ns a m := by
  obtain ⟨o, es, ep, e, d, r⟩ := x
  obtain ⟨sl, e'⟩ := s.up a o e (fun _ q => by rw [d] at q; cases q)
  exact ⟨_, es, ep, e', d, r⟩
theorem Loc.weak {fs : List Addr} {h h' : Heap} {L : Addr} {l : List (Str × Value)} (x : Loc h L l) (s : Weak fs h h') : Loc h' L l := let ⟨m, a, b⟩ := x; ⟨m, Ns.weak a s, b⟩
theorem IsCell.weak {fs : List Addr} {h h' : Heap} {a : Addr} {v : Option Value} (x : h.IsCell a v) (s : Weak fs h h') : h'.IsCell a v := by
  obtain ⟨o, e, d⟩ := x
  obtain ⟨sl, e'⟩ := s.up a o e (fun _ q => by rw [d] at q; cases q)
  exact ⟨_, e', d⟩
theorem Frames.weak {fs : List Addr} {h h' : Heap} {l : List Env} (x : Frames h l) (s : Weak fs h h') : Frames h' l := fun env m => by
  obtain ⟨a, L, o, b, c, d⟩ := x env m
  obtain ⟨sl, e⟩ := s.up L o c (dict_nf d)
  exact ⟨a, L, _, b, e, d⟩
theorem Frames.of_keeps {h h' : Heap} {l : List Env} (x : Frames h l) (s : ∀ b o, h.get? b = some o → h'.get? b = some o) : Frames h' l := fun env m => by
  obtain ⟨a, L, o, b, c, d⟩ := x env m
  exact ⟨a, L, o, b, s _ _ c, d⟩
theorem Frames.cons {h : Heap} {l : List Env} {env : Env} {L : Addr} {loc : List (Str × Value)} (x : Frames h l) (hk : env.scope.kind ≠ .module) (hf : env.frame = some L) (hl : Loc h L loc) : Frames h (env :: l) := fun env' m => by
  rcases List.mem_cons.mp m with rfl | m
  · obtain ⟨m', ⟨o, _, _, e, d, _⟩, _⟩ := hl
    exact ⟨hk, L, o, hf, e, _, _, d⟩
  · exact x env' m
theorem Frames.fun_ {h base : Heap} : ∀ {l : List Env}, Frames h l → (∀ b ∈ fa l, base.get? b = none) → h.FunFrames base l
  | [], _, _ => trivial
  | env :: l, x, n => by
    obtain ⟨a, L, o, b, c, d⟩ := x env (.head _)
    refine ⟨a, ⟨L, o, b, n L ?_, c, dict_nf d⟩, Frames.fun_ (fun e m => x e (.tail _ m)) fun b' hb' => n b' ?_⟩
    · simp [fa, b]
    · simp only [fa, List.filterMap_cons, b]
      exact .tail _ hb'

section
variable {prog : Program} {w : World} {A : Around} {env : Env} {h : Heap} {α : Type}

/-- the same as Tr, but a ValueError may be raised, anew, from a heap as X says -/
def TrX (prog : Program) (w : World) (A : Around) (env : Env) (t : Sem α) (h : Heap) (P : α → Heap → Prop) (X : Heap → Prop) : Prop :=
  ∀ (s : Shared) (Q : α → Shared → Prop) (E : Value → Shared → Prop), s.heap = h → (∀ a h' tk, P a h' → Q a { s with heap := h', toks := tk }) →
    (∀ e h₁ h₂ tk, X h₁ → Heap.NewExc h₁ h₂ e "ValueError" → E (.ref e) { s with heap := h₂, toks := tk }) → PassesOwn (model prog w) A env E → wpAny (model prog w) A t Q E s
theorem Tr.x {t : Sem α} {P : α → Heap → Prop} {X : Heap → Prop} (x : Tr prog w A t h P) : TrX prog w A env t h P X := fun s Q E e hq _ _ => x s Q E e hq

theorem TrX.execs_cons {st : Stmt} {rest : List Stmt} {P : Flow → Heap → Prop} {X : Heap → Prop}
    (x : TrX prog w A env (exec st env) h (fun f h' => match f with | .next => TrX prog w A env (execs rest env) h' P X | f => P f h') X) : TrX prog w A env (execs (st :: rest) env) h P X :=
  fun s Q E e hq hx hp => wpAny_execs_cons (x s _ E e (fun f h' tk y => by
    cases f with
    | next => exact y _ _ _ rfl (fun b h'' tk' z => hq b h'' tk' z) (fun e h₁ h₂ tk a b => hx e h₁ h₂ tk a b) hp
    | brk => exact hq _ _ _ y
    | cont => exact hq _ _ _ y
    | ret v => exact hq _ _ _ y) hx hp)

theorem TrX.for_ {target iter : Expr} {body : List Stmt} {pos : Pos} {n : Nat} {V : Nat → Value → Prop} {ks μ : List Addr} {P : Flow → Heap → Prop} {X : Heap → Prop} (src : Src prog w A env iter h n V ks) (J : Nat → Heap → Prop)
    (hμ : ∀ b ∈ μ, b < h.objs.size) (hks : ∀ b ∈ ks, b ∉ μ) (hJ : ∀ i h₁ h₂, J i h₁ → SubF h₁ h₂ → J i h₂) (start : J 0 h)
    (turn : ∀ i v h₁, i < n → V i v → J i h₁ → Sub μ h h₁ → Tr prog w A (assign target env v) h₁ fun _ h₂ => TrX prog w A env (execs body env) h₂ (fun f h₃ => Sub μ h₁ h₃ ∧ match f with
      | .next | .cont => J (i + 1) h₃
      | .brk => P .next h₃
      | .ret v => P (.ret v) h₃) X)
    (done : ∀ h', J n h' → Sub μ h h' → P .next h') (hs : ∀ x, foldedSetIterable iter env x = pure x := by intro _; rfl) :
    TrX prog w A env (exec (.For target iter body [] pos) env) h P X := by
  intro s Q E e hq hx hpo
  refine wpAny_For (src s _ E e fun xv h₁ tk y => y _ _ _ rfl fun it h₂ tk₂ z => ?_) hs
  obtain ⟨I, fp, wr, St, rfl, W, hst, hfp, hwr, s₂, hsize, hfk, hfl, hown⟩ := z
  have hfm : ∀ b ∈ fp, b ∉ μ := fun b hb m => (hfk b hb).elim (fun q => hks b q m) fun q => Nat.not_lt.mpr q (hμ b m)
  refine codeAny_forLoop_any (fun k s' => ∃ h' tk i, s' = { s with heap := h', toks := tk } ∧ St i h' ∧ J i h' ∧ Sub μ h h' ∧ i ≤ n ∧ k = n + 1 - i) ?_ (n + 1) ⟨h₂, _, 0, rfl, hst, hJ _ _ _ start s₂.subF, s₂.mono (by simp), Nat.zero_le _, rfl⟩
  rintro k s' ⟨h', tk', i, rfl, hst', hj, hsub, hi, rfl⟩
  rcases Nat.lt_or_ge i n with hin | hin
  · refine W.item i _ _ _ hin hst' fun v h₃ tk₃ hP hst₃ hk₃ => ?_
    have sub₃ : Sub wr h' h₃ := fun b o hb e => hk₃ b o hb e
    have subF₃ : SubF h' h₃ := fun b o e hn => sub₃ b o (fun m => by obtain ⟨vs, q⟩ := hfl i h' hst' b m o e; exact hn vs q) e
    have subh₃ : Sub μ h h₃ := fun b o hb e => sub₃ b o (fun m => by rw [hwr b m] at e; cases e) (hsub b o hb e)
    refine hown (i + 1) h₃ target v hst₃ _ _ _ rfl fun _ h₃' tk₃' e₃ => ?_
    subst e₃
    refine turn i v _ hin hP (hJ _ _ _ hj subF₃) subh₃ _ _ _ rfl fun _ h₄ tk₄ y => ?_
    refine wpAny_passesOwn hpo (y _ _ _ rfl (fun f h₅ tk₅ z => ?_) (fun e h₁ h₂ tk a b => hx e h₁ h₂ tk a b) hpo)
    obtain ⟨sub₅, z⟩ := z
    have fin : J (i + 1) h₅ → ∃ m, m < n + 1 - i ∧ ∃ h' tk i, ({ s with heap := h₅, toks := tk₅ } : Shared) = { s with heap := h', toks := tk } ∧ St i h' ∧ J i h' ∧ Sub μ h h' ∧ i ≤ n ∧ m = n + 1 - i := fun hj' =>
      ⟨n + 1 - (i + 1), by omega, h₅, tk₅, i + 1, rfl, W.frame _ _ _ hst₃ (fun b hb o e => sub₅ b o (hfm b hb) e), hj', subh₃.trans sub₅, hin, rfl⟩
    cases f with
    | next => exact fin z
    | cont => exact fin z
    | brk => exact hq _ _ _ z
    | ret v => exact hq _ _ _ z
  · have hin' : i = n := Nat.le_antisymm hi hin
    subst hin'
    refine W.done _ _ _ hst' fun h₃ tk₃ hk₃ => ?_
    have sub₃ : Sub wr h' h₃ := fun b o hb e => hk₃ b o hb e
    have subF₃ : SubF h' h₃ := fun b o e hn => sub₃ b o (fun m => by obtain ⟨vs, q⟩ := hfl i h' hst' b m o e; exact hn vs q) e
    have subh₃ : Sub μ h h₃ := fun b o hb e => sub₃ b o (fun m => by rw [hwr b m] at e; cases e) (hsub b o hb e)
    exact wpAny_execs_nil (hq _ _ _ (done h₃ (hJ _ _ _ hj subF₃) subh₃))

theorem note_then {base : Heap} {s : Shared} {outer : List Env} {L e : Addr} {oe : Obj} {vs : Array Value} {Q : Unit → Shared → Prop} {E : Value → Shared → Prop}
    (hfr : A.frames = some (env :: outer)) (hl : s.heap.FunFrames base (env :: outer)) (hf : env.frame = some L)
    (he : s.heap.get? e = some oe) (hkb : base.StaysIn s.heap) (hen : base.get? e = none) (hd : oe.data = .fields vs) (h1 : vs[1]? = some .none)
    (h : ∀ h', Heap.Left base (env :: outer) e oe.cls s.heap h' → Q () { s with heap := h' }) : wpAny (model prog w) A (noteFrame (.ref e) env) (fun _ s' => wpAny (model prog w) A (setFlight (.ref e) none) Q E s') E s := by
  unfold noteFrame
  simp only [hf]
  refine wpAny_bind (wpAny_field he hd h1 ?_)
  rw [if_neg (by decide)]
  exact wpAny_newEntry hfr hl hf he hkb hen hd (Array.getElem?_eq_some_iff.mp h1).1 h

/-- try: .. except ValueError: return False -/
theorem Tr.try_ {body : List Stmt} {outer : List Env} {L : Addr} {hp np rp cp : Pos} {k : Nat} {pos : Pos} {x : Str} {P : Flow → Heap → Prop} {X : Heap → Prop}
    (hb : TrX prog w A env (execs body env) h P X) (hfr : A.frames = some (env :: outer)) (hf : env.frame = some L)
    (hX : ∀ h₁, X h₁ → Frames h₁ (env :: outer) ∧ (∀ h₂, Weak (fa (env :: outer)) h₁ h₂ → (∀ e, EvV prog w (A.mark (some (.ref e))) env (.Name x np) h₂ (.type "ValueError")) ∧ P (.ret (.bool false)) h₂)) :
    Tr prog w A (exec (.Try body [.ExceptHandler (some (.Name x np)) none [.Return (some (.Constant (.bool false) k cp)) rp] hp] [] [] pos) env) h P := by
  intro s Q E e hq
  refine wpAny_Try_except (hb s _ _ e (fun f h' tk y => ?_) (fun ex h₁ h₂ tk hx hnew => ?_) PassesOwn.looking)
  · cases f with
    | next => exact wpAny_execs_nil (hq _ _ _ y)
    | brk => exact hq _ _ _ y
    | cont => exact hq _ _ _ y
    | ret v => exact hq _ _ _ y
  · obtain ⟨hF, hK⟩ := hX h₁ hx
    obtain ⟨ob, tp, he, hcls, hd⟩ := hnew.there
    have hbn : ∀ b ∈ fa (env :: outer), (hideAll h₁ (fa (env :: outer))).get? b = none := fun b hb => hideAll_none _ hb
    have hbs : (hideAll h₁ (fa (env :: outer))).StaysIn h₂ := fun b o q => hnew.keeps b o (of_hideAll _ q)
    have hen : (hideAll h₁ (fa (env :: outer))).get? ex = none := by
      cases q : (hideAll h₁ (fa (env :: outer))).get? ex with
      | none => rfl
      | some o => have := of_hideAll _ q; rw [hnew.new] at this; cases this
    refine note_then (s := { s with heap := h₂, toks := tk }) hfr ((hF.of_keeps hnew.keeps).fun_ hbn) hf he hbs hen hd rfl fun h₃ hleft => ?_
    obtain ⟨l1, l2, l3, l4⟩ := hleft
    obtain ⟨oe, vs, T, oT, ts, g1, g2, g3, g4, g5, g6, g7, g8, g9⟩ := l3
    have w₃ : Weak (fa (env :: outer)) h₁ h₃ := ⟨fun b o hb q => l1 b o (hideAll_get _ q hb), fun b o q n => l4 b o (hnew.keeps b o q) n⟩
    refine wpAny_handleBy_builtin (X := "ValueError") (T := "ValueError") (b := true) (by rw [isSubtype_type]; kernel_rfl) (by rw [isSubtype_type]; kernel_rfl) (by rw [isSubtype_type]; kernel_rfl) ?_
    refine ((hK h₃ w₃).1 ex) _ _ _ rfl fun c h₄ tk₄ z => ?_
    obtain ⟨rfl, rfl⟩ := z
    refine ⟨rfl, ⟨oe, g1, g2.trans hcls⟩, ?_⟩
    rw [if_pos rfl]
    refine wpAny_setFlight_none g1 g3 g4 g7 g8 (Array.getElem?_eq_some_iff.mp g9).1 ?_
    refine wpAny_execs_cons (wpAny_Return_some ?_)
    refine wpAny_Constant_bool (hq _ _ _ (hK _ ⟨fun b o hb q => ?_, fun b o q n => ?_⟩).2)
    · have hbT : T ≠ b := fun e' => by have := hideAll_get (fa (env :: outer)) q hb; rw [← e', g5] at this; cases this
      rw [Heap.get?_update_other _ _ hbT]
      exact w₃.sub b o hb q
    · obtain ⟨sl, q'⟩ := w₃.up b o q n
      have hbT : T ≠ b := fun e' => by rw [← e', g7] at q'; cases q'; exact n _ g8
      exact ⟨sl, by rw [Heap.get?_update_other _ _ hbT]; exact q'⟩
end
end Mine

/-! part F5 -/
namespace Mine
section
variable {prog : Program} {w : World} {A : Around} {env : Env} {h : Heap}

theorem TrX.expr {e : Expr} {pos : Pos} {P : Flow → Heap → Prop} {X : Heap → Prop} (x : TrX prog w A env (eval e env) h (fun _ => P .next) X)
    (hi : interactive env = false := by rfl) (hs : swapsWith e none pos.line env = pure false := by rfl) : TrX prog w A env (exec (.Expr e pos) env) h P X :=
  fun s Q E e' hq hx hp => wpAny_Expr_any (x s _ E e' (fun v h' tk y => hq _ h' tk y) hx hp) hi hs

theorem idx_spec {k : List Int} {ks : List (List Int)} (hk : k ∈ ks) : ks.idxOf k < ks.length ∧ ks.getD (ks.idxOf k) [] = k ∧ ∀ m, m < ks.idxOf k → ks.getD m [] ≠ k := by
  have h1 : ks.idxOf k < ks.length := List.idxOf_lt_length_iff.mpr hk
  refine ⟨h1, ?_, fun m hm e => ?_⟩
  · simp [List.getD, h1]
  · have hml : m < ks.length := Nat.lt_trans hm h1
    have e' : ks[m] = k := by simpa [List.getD, hml] using e
    have := List.not_of_lt_findIdx (p := (· == k)) (xs := ks) hm
    simp [e'] at this

theorem TrX.remove {o e0 : Expr} {apos pos : Pos} {l : Addr} {us : List Value} {v : Value} {k : List Int} {ks : List (List Int)} {P : Value → Heap → Prop} {X : Heap → Prop} (x : EvV prog w A env o h (.ref l)) (hl : Lst h l us) (y : EvV prog w A env e0 h v)
    (ht : Tups h us ks) (tv : Tup h v k) (hu : A.units + 1 < cLine) (hh : A.handled = none) (hz : us.length ≤ sizeLine)
    (yes : k ∈ ks → ∀ h', Lst h' l (us.eraseIdx (ks.idxOf k)) → Sub [l] h h' → P .none h') (no : k ∉ ks → X h)
    (he : backTo pos (starEach [e0] env) = [(false, eval e0 env)] := by rfl)
    (hbase : attributeBase o "remove" env (eval o env) = eval o env := by rfl)
    (hfew : ((backTo pos (starEach [e0] env)).all (fun x => !x.1) && (backToKw pos (keywordEach [] env)).all (fun x => x.1.isSome)
      && decide ([e0].length + ([] : List Keyword).length + (if ([] : List Keyword).isEmpty then 0 else 1) < 30)) = true := by rfl)
    (hline : (apos.endLine == pos.line) = true := by rfl) : TrX prog w A env (eval (.Call (.Attribute o "remove" apos) [e0] [] pos) env) h P X :=
  fun s Q E e hq hx hp => by
    refine wpAny_Call_method_late hbase hfew hline rfl (x s _ E e fun v' h₁ tk y' => ?_)
    obtain ⟨rfl, rfl⟩ := y'
    refine ⟨"list", "list.remove", F.plainAttrs_list, F.slot_list_remove, F.type_list_remove, ⟨_, hl.isList.choose_spec.1, hl.isList.choose_spec.2.1⟩, fun a ea => ?_, ?_⟩
    · cases ea
      obtain ⟨n, q⟩ := hl
      exact ⟨_, q, rfl⟩
    · rw [he]
      refine Calls.callWith_builtin rfl (Calls.evalArgs_plain (Calls.spliced_cons (y _ _ _ rfl fun v' h₂ tk₂ y' => Calls.spliced_nil ?_)))
      obtain ⟨rfl, rfl⟩ := y'
      obtain ⟨n, q⟩ := id hl
      show wpAny _ A (call (.builtin "list.remove") [.ref l, v']) Q E _
      by_cases hk : k ∈ ks
      · obtain ⟨i1, i2, i3⟩ := idx_spec hk
        have hj : ks.idxOf k < us.length := by rw [ht.1]; exact i1
        have hjs : ks.idxOf k < us.toArray.size := by simpa using hj
        refine call_meets F.slot_list_remove ⟨_, q, rfl⟩ F.entry_list_remove (F.args_list_remove_2 _ _) (list_removeAt l us.toArray n v' (hasKey h₂ k) (ks.idxOf k) hjs ?_ ?_ (by simpa using hz)) ⟨q, eqAt_tups ht tv hu, ?_⟩
        · have := (hasKey_iff (k := k) ht hj).mpr i2
          simpa using this
        · intro m hm hlt
          have hm' : m < us.length := by simpa using hm
          cases hq' : hasKey h₂ k us.toArray[m] with
          | false => rfl
          | true =>
            have hq'' : hasKey h₂ k us[m] = true := by simpa using hq'
            exact absurd ((hasKey_iff (k := k) ht hm').mp hq'') (i3 m hlt)
        · refine hq _ _ _ (yes hk _ (Lst.upd ⟨n, q⟩ _ ?_) (Sub.of_same (Heap.SameBut.update ..)))
          apply Array.toList_inj.mp
          simp
      · refine call_meets F.slot_list_remove ⟨_, q, rfl⟩ F.entry_list_remove (F.args_list_remove_2 _ _) (list_remove_noneAt l us.toArray n v' (hasKey h₂ k) ?_) ⟨q, eqAt_tups ht tv hu, hh, fun h' tk' ex hnew => hx ex h₂ h' tk' (no hk) hnew⟩
        intro m hm
        have hm' : m < us.length := by simpa using hm
        cases hq' : hasKey h₂ k us.toArray[m] with
        | false => rfl
        | true =>
          have hq'' : hasKey h₂ k us[m] = true := by simpa using hq'
          have := (hasKey_iff (k := k) ht hm').mp hq''
          have hmk : m < ks.length := ht.1 ▸ hm'
          exact absurd (this ▸ List.mem_of_getElem? (getD_get hmk)) hk

theorem Tr.listcopy {l : Addr} {us : List Value} {P : Value → Heap → Prop} (hl : Lst h l us) (hz : us.length ≤ sizeLine) (p : ∀ h', Lst h' h.objs.size us → Sub [] h h' → P (.ref h.objs.size) h') : Tr prog w A (call (.type "list") [.ref l]) h P :=
  fun s Q E e hq => by
    subst e
    obtain ⟨n, q⟩ := hl
    exact call_list_seq l (.inl rfl) q rfl rfl (fun h' c' hk hD => hq _ _ s.toks (p h' ⟨c', hD⟩ (Sub.of_all hk))) (by simpa using hz)
theorem Tr.not_list {e : Expr} {p : Pos} {l : Addr} {us : List Value} {P : Value → Heap → Prop} (x : EvV prog w A env e h (.ref l)) (hl : Lst h l us) (hz : us.length ≤ sizeLine) (k : P (.bool (!(us.length != 0))) h) : Tr prog w A (eval (.UnaryOp .Not e p) env) h P :=
  fun s Q E e' hq => by
    have hzL := szL
    refine wpAny_UnaryOp (x s _ E e' fun v h₁ tk y => ?_)
    obtain ⟨rfl, rfl⟩ := y
    refine not_value ?_
    refine Tr.truthy_list (P := fun b h' => b = (us.length != 0) ∧ h' = h₁) hl.isList (by simp only [List.size_toArray]; omega) ⟨by simp, rfl⟩ _ _ _ rfl fun b h' tk' z => ?_
    obtain ⟨rfl, rfl⟩ := z
    exact hq _ _ _ k
end
end Mine

/-! part F6 -/
namespace Mine

/-- the same keys, in whatever order and number -/
def sameSet (ks js : List (List Int)) : Bool := ks.all (fun k => js.contains k) && js.all (fun k => ks.contains k)
theorem sameSet_iff {ks js : List (List Int)} : sameSet ks js = true ↔ ∀ k, k ∈ ks ↔ k ∈ js := by
  unfold sameSet
  rw [Bool.and_eq_true_iff, List.all_eq_true, List.all_eq_true]
  constructor
  · rintro ⟨h1, h2⟩ k
    exact ⟨fun m => by simpa using h1 k m, fun m => by simpa using h2 k m⟩
  · intro h
    exact ⟨fun k m => by simpa using (h k).mp m, fun k m => by simpa using (h k).mpr m⟩

theorem Base.weak {hS h h' : Heap} {fs : List Addr} (x : Base hS h) (s : Weak fs h h') (k : ∀ a ∈ fs, hS.get? a = none) : Base hS h' := x.step s.sub k

theorem erase_filter {d : List (List Int)} (nd : d.Nodup) (p : List Int → Bool) (k : List Int) : (d.filter p).eraseIdx ((d.filter p).idxOf k) = d.filter fun x => p x && x != k := by
  have nd' : (d.filter p).Nodup := nd.filter _
  rw [← List.erase_eq_eraseIdx_of_idxOf rfl, nd'.erase_eq_filter, List.filter_filter]
  congr 1
  funext x
  rw [Bool.and_comm]

section
variable {prog : Program} {w : World} {A : Around} {h hS : Heap} {mg mb : Str → Option Value}
theorem compare_spec {a p1 p2 : Addr} {vs1 vs2 : List Value} {ks1 ks2 : List (List Int)} {outer : List Env} (S : Stat hS mg mb) (B : Base hS h) (hf : IsFn h a 2) (hh : A.handled = none) (hd : A.depth + 1 < recursionLimit) (hu : A.units + 7 < cLine)
    (hfr : A.frames = some outer) (hF : Frames h outer) (hfS : ∀ b ∈ fa outer, hS.get? b = none)
    (hl1 : Lst h p1 vs1) (ht1 : Tups h vs1 ks1) (hz1 : vs1.length ≤ 1000) (hl2 : Lst h p2 vs2) (ht2 : Tups h vs2 ks2) (hz2 : vs2.length ≤ 1000) :
    Tr prog w A (call (.ref a) [.ref p1, .ref p2]) h fun r h' => r = .bool (sameSet ks1 ks2) ∧ Weak (fa outer) h h' := by
  have hzL := szL
  refine Tr.enter hf (by omega) (S.nolimit.keeps B) (binds := [("first_args", .ref p1), ("second_args", .ref p2)]) (fun _ _ _ _ _ _ _ => rfl) ?_ ?_
  · intro L x hx
    simp only [List.mem_cons, List.not_mem_nil, or_false] at hx
    rcases hx with rfl | rfl <;> exact .inl rfl
  · intro q cd h₀ hn hc s₀
    have hl : Loc h₀ h.objs.size [("first_args", .ref p1), ("second_args", .ref p2)] := Loc.of_ns hn (by
      intro p hp
      simp only [List.mem_cons, List.not_mem_nil, or_false] at hp
      rcases hp with rfl | rfl <;> rfl)
    have fr : ∀ b, h.objs.size ≤ b → h.get? b = none := fun b hb => get_none_of_le hb
    have hLS : hS.get? h.objs.size = none := B.fresh (Nat.le_refl _)
    have hL0 : h.objs.size < h₀.objs.size := hl.lt
    have B₀ := B.step0 s₀
    generalize hLe : h.objs.size = L at *
    have hLn : h.get? L = none := fr L (Nat.le_refl _)
    obtain ⟨a', ha', hf'⟩ := S.dedup
    have hf₀ : IsFn h₀ a' 1 := IsFnD.sub hf' B₀
    obtain ⟨o, nm, q', doc, pm, cd', ct, an, ho, hdt, hcd⟩ := id hf₀
    -- the first one's keys, each once
    refine Tr.execs_cons (Tr.assign_name (Tr.call_def (EvV.glob S B₀ ha') hdt (Tr.spl (EvV.run (EvV.name hl) (Tr.spl0 ⟨ho, ?_⟩)))))
    refine Tr.mono (dedup_spec S B₀ hf₀ hh (show A.depth + 1 < recursionLimit by omega) (show A.units + 3 + 4 < cLine by omega) (hl1.sub s₀ (by simp)) (ht1.sub0 s₀) hz1) fun r h₁ z => ?_
    obtain ⟨s₁, D1, u1, rfl, hD1, lD1, tD1, hu1⟩ := z
    have hl₁ := hl.sub s₁ (by simp)
    refine Tr.putA hl₁ fun h₂ hl₂ s₂ => ?_
    have s₀₂ : Sub [] h h₂ := (s₀.trans s₁).lift s₂ (by simpa using hLn)
    have lD1₂ := lD1.sub s₂ (by simpa using hl₁.ne lD1)
    have tD1₂ := tD1.subLoc s₂ hl₁
    have B₂ := B.step0 s₀₂
    have hf₂ : IsFn h₂ a' 1 := IsFnD.sub hf' B₂
    obtain ⟨o2, nm2, q2, doc2, pm2, cd2, ct2, an2, ho2, hdt2, hcd2⟩ := id hf₂
    -- the second one's
    refine Tr.execs_cons (Tr.assign_name (Tr.call_def (EvV.glob S B₂ ha') hdt2 (Tr.spl (EvV.run (EvV.name hl₂) (Tr.spl0 ⟨ho2, ?_⟩)))))
    refine Tr.mono (dedup_spec S B₂ hf₂ hh (show A.depth + 1 < recursionLimit by omega) (show A.units + 3 + 4 < cLine by omega) (hl2.sub s₀₂ (by simp)) (ht2.sub0 s₀₂) hz2) fun r h₃ z => ?_
    obtain ⟨s₃, D2, u2, rfl, hD2, lD2, tD2, hu2⟩ := z
    have hl₃ := hl₂.sub s₃ (by simp)
    refine Tr.putA hl₃ fun h₄ hl₄ s₄ => ?_
    have s₀₄ : Sub [] h h₄ := (s₀₂.trans s₃).lift s₄ (by simpa using hLn)
    have lD1₃ := lD1₂.sub s₃ (by simp)
    have lD1₄ := lD1₃.sub s₄ (by simpa using hl₃.ne lD1₃)
    have tD1₄ := (tD1₂.sub0 s₃).subLoc s₄ hl₃
    have lD2₄ := lD2.sub s₄ (by simpa using hl₃.ne lD2)
    have tD2₄ := tD2.subLoc s₄ hl₃
    have B₄ := B.step0 s₀₄
    -- its copy
    refine Tr.execs_cons (Tr.assign_name (Tr.call_type (EvV.blt S B₄ S.list) (Tr.spl (EvV.run (EvV.name hl₄) (Tr.spl0 (Tr.listcopy lD2₄ (by omega) fun h₅ lT s₅ => ?_))))))
    have hTn : h₄.get? h₄.objs.size = none := get_none_of_le (Nat.le_refl _)
    have hT0 : L < h₄.objs.size := hl₄.lt
    generalize hTe : h₄.objs.size = T at *
    have hl₅ := hl₄.sub s₅ (by simp)
    have lD1₅ := lD1₄.sub s₅ (by simp)
    have tD1₅ := tD1₄.sub0 s₅
    have tT₅ := tD2₄.sub0 s₅
    refine Tr.putA hl₅ fun h₆ hl₆ s₆ => ?_
    have hLT : L ≠ T := by omega
    have lT₆ := lT.sub s₆ (by simpa using hLT.symm)
    have tT₆ := tT₅.subLoc s₆ hl₅
    have lD1₆ := lD1₅.sub s₆ (by simpa using hl₅.ne lD1₅)
    have tD1₆ := tD1₅.subLoc s₆ hl₅
    have s₀₆ : Sub [] h h₆ := (s₀₄.trans s₅).lift s₆ (by simpa using hLn)
    have hTh : h.get? T = none := fr T (by omega)
    have fr2 : ∀ b ∈ [L, T], h.get? b = none := by simp [hLn, hTh]
    have hD1T : D1 ≠ T := fun e => by obtain ⟨o, q⟩ := lD1₄.get; rw [e, hTn] at q; cases q
    have hD1L : D1 ≠ L := hl₆.ne lD1₆
    have nd2 := dedup_nodup ks2
    have nd1 := dedup_nodup ks1
    have u1l : u1.length = (dedupK ks1).length := tD1₆.1
    generalize hd1 : dedupK ks1 = d1 at *
    generalize hd2 : dedupK ks2 = d2 at *
    have hsame : sameSet ks1 ks2 = sameSet d1 d2 := by
      rw [Bool.eq_iff_iff, sameSet_iff, sameSet_iff]
      have e1 : ∀ k, k ∈ d1 ↔ k ∈ ks1 := fun k => hd1 ▸ dedup_mem ks1 k
      have e2 : ∀ k, k ∈ d2 ↔ k ∈ ks2 := fun k => hd2 ▸ dedup_mem ks2 k
      exact ⟨fun H k => (e1 k).trans ((H k).trans (e2 k).symm), fun H k => (e1 k).symm.trans ((H k).trans (e2 k))⟩
    have hfrE : (A.deeper (envAt 2 q cd L a)).frames = some (envAt 2 q cd L a :: outer) := Around.frames_deeper hfr
    have fae : fa (envAt 2 q cd L a :: outer) = L :: fa outer := rfl
    refine Tr.execs_cons (Tr.mono (P := fun f h' => (f = .next ∧ (∀ k ∈ d1, k ∈ d2) ∧ ∃ us l, Loc h' L l ∧ AllIn l [("t", .ref T)] ∧ Lst h' T us ∧ Tups h' us (d2.filter fun k => !d1.contains k) ∧ Sub [] h h') ∨
        (f = .ret (.bool false) ∧ (∃ k ∈ d1, k ∉ d2) ∧ Weak (fa outer) h h')) ?_ ?_)
    · refine Tr.try_ (X := fun h' => (∃ k ∈ d1, k ∉ d2) ∧ Sub [] h h' ∧ ∃ l, Loc h' L l) ?_ hfrE rfl ?_
      · refine TrX.execs_cons (TrX.for_ (μ := [L, T]) (Src.list hh (EvV.name hl₆) lD1₆.isList)
          (fun i h' => Loc h' L [("first_unhashable", .ref D1), ("t", .ref T)] ∧ (∀ k ∈ d1.take i, k ∈ d2) ∧ (∃ us, Lst h' T us ∧ Tups h' us (d2.filter fun k => !(d1.take i).contains k) ∧ us.length ≤ 1000) ∧ Tups h' u1 d1)
          ?_ (by simp [hD1T, hD1L]) ?_ ⟨hl₆.pick, by simp, ⟨u2, lT₆, by rw [List.filter_eq_self.mpr (by simp)]; exact tT₆, by omega⟩, tD1₆⟩ ?_ ?_)
        · intro b hb
          simp only [List.mem_cons, List.not_mem_nil, or_false] at hb
          rcases hb with rfl | rfl
          · exact hl₆.lt
          · exact lT₆.lt
        · rintro i h₇ h₈ ⟨b1, b2, ⟨us, b3, b4, b5⟩, b6⟩ sF
          exact ⟨b1.subF sF, b2, ⟨us, b3.subF sF, b4.subF sF, b5⟩, b6.subF sF⟩
        · rintro i v h₇ hi hv ⟨b1, b2, ⟨us, b3, b4, b5⟩, b6⟩ s₇
          have hid : i < d1.length := by omega
          have tv := b6.get hv
          have hki : d1[i]? = some (d1.getD i []) := getD_get hid
          refine Tr.tgt_name (Tr.putA b1 fun h₈ hl₈ s₈ => ?_)
          have l₈ := b3.sub s₈ (by simpa using hLT.symm)
          have t₈ := b4.subLoc s₈ b1
          have tv₈ : Tup h₈ v (d1.getD i []) := tv.sub s₈ (by simp; intro ws q; exact b1.ne_tuple q rfl)
          have t1₈ := b6.subLoc s₈ b1
          generalize hk : d1.getD i [] = k at *
          have tk1 : d1.take (i + 1) = d1.take i ++ [k] := by rw [List.take_add_one, hki]; rfl
          have hkn : k ∉ d1.take i := fun m => by
            have nd := nd1
            rw [← List.take_append_drop (i + 1) d1, tk1] at nd
            have := (List.nodup_append.mp (List.nodup_append.mp nd).1).2.2 k m k (by simp)
            exact this rfl
          refine TrX.execs_cons (TrX.expr (TrX.remove (EvV.name hl₈) l₈ (EvV.name hl₈) t₈ tv₈ (show A.units + 3 + 1 < cLine by omega) hh (by omega) (fun hm h₉ l₉ s₉ => ?_) fun hm => ?_))
          · have hm2 : k ∈ d2 := (List.mem_filter.mp hm).1
            have t₉ := (t₈.subL s₉ l₈).erase ((d2.filter fun k => !(d1.take i).contains k).idxOf k)
            rw [erase_filter nd2] at t₉
            refine Tr.x (Tr.execs_nil ⟨(s₈.one (by simp)).trans (s₉.one (by simp)), (hl₈.sub s₉ (by simpa using hLT)).pick, ?_, ⟨_, l₉, ?_, by rw [List.length_eraseIdx]; split <;> omega⟩, t1₈.subL s₉ l₈⟩)
            · intro k' m'
              rw [tk1] at m'
              rcases List.mem_append.mp m' with m' | m'
              · exact b2 k' m'
              · have : k' = k := by simpa using m'
                rw [this]; exact hm2
            · have e : (fun x => !(d1.take i).contains x && x != k) = fun x => !(d1.take (i + 1)).contains x := by
                funext x
                rw [tk1, Bool.eq_iff_iff]
                simp [List.contains_iff_mem, not_or]
              rw [← e]; exact t₉
          · have hk2 : k ∉ d2 := fun m => hm (List.mem_filter.mpr ⟨m, by simpa using hkn⟩)
            exact ⟨⟨k, List.mem_of_getElem? hki, hk2⟩, (s₀₆.lift s₇ fr2).lift s₈ (by simpa using hLn), _, hl₈⟩
        · rintro h₇ ⟨b1, b2, ⟨us, b3, b4, b5⟩, b6⟩ s₇
          rw [u1l, List.take_length] at b2 b4
          exact Tr.x (Tr.execs_nil (.inl ⟨rfl, b2, us, _, b1, ⟨rfl, trivial⟩, b3, b4, s₀₆.lift s₇ fr2⟩))
      · rintro h₇ ⟨hex, s₇, l, hl₇⟩
        refine ⟨(hF.of_keeps s₇.all).cons (by show (scopeAt 2).kind ≠ .module; decide) rfl hl₇, fun h₈ w₈ => ?_⟩
        have w₀ : Weak (fa outer) h h₈ := ((Weak.of_sub s₇).trans (fae ▸ w₈)).drop hLn
        exact ⟨fun e => EvV.blt S (B.weak w₀ hfS) S.valueError, .inr ⟨rfl, hex, w₀⟩⟩
    · intro f h₇ z
      rcases z with ⟨rfl, c1, us, l, b1, b2, b3, b4, b5⟩ | ⟨rfl, ⟨k, c1, c2⟩, w₀⟩
      · have b1 := b1.pick b2
        refine Tr.execs_cons (Tr.retn (Tr.not_list (EvV.name b1) b3 ?_ ⟨?_, Weak.of_sub b5⟩))
        · rw [b4.1]; refine Nat.le_trans (List.length_filter_le _ _) ?_
          rw [← tD2₄.1]; omega
        · show Value.bool _ = Value.bool _
          congr 1
          rw [hsame, b4.1, Bool.eq_iff_iff, sameSet_iff]
          simp only [bne, Bool.not_not, beq_iff_eq, List.length_eq_zero_iff, List.filter_eq_nil_iff]
          constructor
          · intro H k
            exact ⟨c1 k, fun m => by simpa using H k m⟩
          · intro H k m
            simpa using (H k).mpr m
      · refine ⟨?_, w₀⟩
        show Value.bool _ = Value.bool _
        congr 1
        rw [hsame, Bool.eq_iff_iff, sameSet_iff]
        exact ⟨fun H => (by cases H), fun H => absurd ((H k).mp c1) c2⟩
end
end Mine

/-! part F7 -/
namespace Mine
section
variable {prog : Program} {w : World} {A : Around} {env : Env} {h : Heap}
theorem Tr.test_value {e : Expr} {P : Bool → Heap → Prop} (x : Tr prog w A (eval e env) h fun v h₁ => Tr prog w A (truthy v) h₁ P)
    (he : ∀ whole, isTrue e env whole = (do let v ← whole; standAt e.pos; holding [v] (truthy v)) := by intro _; rfl) : Tr prog w A (isTrue e env (eval e env)) h P :=
  fun s Q E e' hq => wpAny_isTrue_value (x s _ E e' fun v h₁ tk y => y _ _ _ rfl hq) (he _)
end
/-- non-records stand, but for the notes in frames -/
def Up (h h' : Heap) : Prop := ∀ b o, h.get? b = some o → (∀ vs, o.data ≠ .fields vs) → ∃ sl, h'.get? b = some { o with slots := sl }
theorem Up.refl {h : Heap} : Up h h := fun b o e _ => ⟨o.slots, e⟩
theorem Up.of_sub {h h' : Heap} (s : Sub [] h h') : Up h h' := fun b o e _ => ⟨o.slots, s.all b o e⟩
theorem Up.subF {h h' h'' : Heap} (x : Up h h') (s : SubF h' h'') : Up h h'' := fun b o e n => by
  obtain ⟨sl, e1⟩ := x b o e n
  exact ⟨sl, s b _ e1 n⟩
theorem Up.lift {μ : List Addr} {h h' h'' : Heap} (x : Up h h') (s : Sub μ h' h'') (n : ∀ a ∈ μ, h.get? a = none) : Up h h'' := fun b o e q => by
  obtain ⟨sl, e1⟩ := x b o e q
  exact ⟨sl, s b _ (fun m => by rw [n b m] at e; cases e) e1⟩
theorem Up.weak {fs : List Addr} {h h' h'' : Heap} (x : Up h h') (s : Weak fs h' h'') : Up h h'' := fun b o e n => by
  obtain ⟨sl, e1⟩ := x b o e n
  obtain ⟨sl', e2⟩ := s.up b _ e1 n
  exact ⟨sl', e2⟩
theorem Frames.up {h h' : Heap} {l : List Env} (x : Frames h l) (s : Up h h') : Frames h' l := fun env m => by
  obtain ⟨a, L, o, b, c, d⟩ := x env m
  obtain ⟨sl, e⟩ := s L o c (dict_nf d)
  exact ⟨a, L, _, b, e, d⟩
theorem Frames.lt {h : Heap} {l : List Env} (x : Frames h l) : ∀ b ∈ fa l, @LT.lt Nat _ b h.objs.size := by
  intro b hb
  simp only [fa, List.mem_filterMap] at hb
  obtain ⟨env, m, e⟩ := hb
  obtain ⟨_, L, o, e2, c, _⟩ := x env m
  rw [e2] at e
  cases e
  exact Heap.lt_size c

theorem Frames.dict {h : Heap} {l : List Env} (x : Frames h l) : ∀ b ∈ fa l, ∃ o es ep, h.get? b = some o ∧ o.data = .dict es ep := by
  intro b hb
  simp only [fa, List.mem_filterMap] at hb
  obtain ⟨env, m, e⟩ := hb
  obtain ⟨_, L, o, e2, c, es, ep, d⟩ := x env m
  rw [e2] at e
  cases e
  exact ⟨o, es, ep, c, d⟩
theorem Frames.no_list {h : Heap} {l : List Env} (x : Frames h l) {b : Addr} {vs : List Value} (y : Lst h b vs) : b ∉ fa l := fun m => by
  obtain ⟨o, es, ep, c, d⟩ := x.dict b m
  obtain ⟨n, e⟩ := y
  have e' : h.get? b = some _ := e
  rw [c] at e'; cases e'; cases d
theorem Frames.no_tuple {h : Heap} {l : List Env} (x : Frames h l) : ∀ b ∈ fa l, ∀ vs, ¬ h.IsTuple b vs := fun b m vs y => by
  obtain ⟨o, es, ep, c, d⟩ := x.dict b m
  obtain ⟨o', e, _, n, d'⟩ := y
  rw [c] at e; cases e; rw [d] at d'; cases d'

/-- what a room's passages tell -/
def keyOf (cs : List Int) (f : Int) : List Int := [f.fdiv 5, cs.getD (f.fmod 5).toNat 0]
def toldOf (rs : List (List Int)) (cs : List Int) (i : Nat) : List (List Int) := (rs.getD i []).map (keyOf cs)
/-- the first room that tells the same -/
def partOf (T : Nat → List (List Int)) (room : Nat) : Nat := ((List.range room).find? fun j => sameSet (T room) (T j)).getD room
theorem partOf_eq {T : Nat → List (List Int)} {room first : Nat} (h1 : first ≤ room) (h2 : ∀ j < first, sameSet (T room) (T j) = false) (h3 : first = room ∨ sameSet (T room) (T first) = true) : partOf T room = first := by
  unfold partOf
  rcases h3 with rfl | h3
  · have : (List.range first).find? (fun j => sameSet (T first) (T j)) = none := by
      rw [List.find?_eq_none]
      intro j hj
      simp [h2 j (by simpa using hj)]
    rw [this]; rfl
  · by_cases hlt : first < room
    · have : (List.range room).find? (fun j => sameSet (T room) (T j)) = some first := by
        rw [List.find?_range_eq_some]
        exact ⟨h3, by simpa using hlt, fun j hj => by simp [h2 j hj]⟩
      rw [this]; rfl
    · have e : first = room := by omega
      subst e
      have : (List.range first).find? (fun j => sameSet (T first) (T j)) = none := by
        rw [List.find?_eq_none]
        intro j hj
        simp [h2 j (by simpa using hj)]
      rw [this]; rfl

/-- the list of what is told -/
def IsTold (h : Heap) (a : Addr) (T : Nat → List (List Int)) : Prop := ∃ vs, Lst h a vs ∧ vs.length = 5 ∧ ∀ i < 5, ∃ D us, vs[i]? = some (.ref D) ∧ Lst h D us ∧ Tups h us (T i) ∧ us.length ≤ 3
theorem IsTold.subF {h h' : Heap} {a : Addr} {T : Nat → List (List Int)} (x : IsTold h a T) (s : SubF h h') : IsTold h' a T :=
  let ⟨vs, l, e, k⟩ := x; ⟨vs, l.subF s, e, fun i hi => let ⟨D, us, a, b, c, d⟩ := k i hi; ⟨D, us, a, b.subF s, c.subF s, d⟩⟩

def ToldAt (h : Heap) (a : Addr) (Ds : List Addr) (T : Nat → List (List Int)) : Prop := Lst h a (Ds.map Value.ref) ∧ Ds.length = 5 ∧ ∀ (i : Nat) (D : Addr), Ds[i]? = some D → ∃ us, Lst h D us ∧ Tups h us (T i) ∧ us.length ≤ 3
theorem IsTold.at {h : Heap} {a : Addr} {T : Nat → List (List Int)} (x : IsTold h a T) : ∃ Ds, ToldAt h a Ds T := by
  obtain ⟨vs, l, e, k⟩ := x
  have hmap : (vs.map refOf).map Value.ref = vs := by
    rw [List.map_map]
    conv => rhs; rw [← List.map_id vs]
    refine List.map_congr_left fun v m => ?_
    obtain ⟨i, hi, e1⟩ := List.mem_iff_getElem.mp m
    obtain ⟨D, us, e2, _⟩ := k i (e ▸ hi)
    have : v = .ref D := by rw [← e1]; simpa [hi] using e2
    subst this; rfl
  refine ⟨vs.map refOf, hmap.symm ▸ l, by simpa using e, fun i D q => ?_⟩
  rw [List.getElem?_map] at q
  cases hv : vs[i]? with
  | none => rw [hv] at q; cases q
  | some v =>
    have hi : i < 5 := e ▸ (List.getElem?_eq_some_iff.mp hv).1
    obtain ⟨D', us, e2, r⟩ := k i hi
    rw [e2] at hv; cases hv
    rw [e2] at q; cases q
    exact ⟨us, r⟩
theorem ToldAt.sub {μ : List Addr} {h h' : Heap} {a : Addr} {Ds : List Addr} {T : Nat → List (List Int)} (x : ToldAt h a Ds T) (s : Sub μ h h') (n1 : a ∉ μ) (n2 : ∀ d ∈ Ds, d ∉ μ) (n3 : ∀ b ∈ μ, ∀ vs, ¬ h.IsTuple b vs) : ToldAt h' a Ds T :=
  ⟨x.1.sub s n1, x.2.1, fun i D e => let ⟨us, l, t, u⟩ := x.2.2 i D e; ⟨us, l.sub s (n2 D (List.mem_of_getElem? e)), t.sub s n3, u⟩⟩
theorem ToldAt.subF {h h' : Heap} {a : Addr} {Ds : List Addr} {T : Nat → List (List Int)} (x : ToldAt h a Ds T) (s : SubF h h') : ToldAt h' a Ds T :=
  ⟨x.1.subF s, x.2.1, fun i D e => let ⟨us, l, t, u⟩ := x.2.2 i D e; ⟨us, l.subF s, t.subF s, u⟩⟩
theorem ToldAt.lst {h : Heap} {a : Addr} {Ds : List Addr} {T : Nat → List (List Int)} (x : ToldAt h a Ds T) : ∀ d ∈ Ds, ∃ us, Lst h d us := fun d m => by
  obtain ⟨i, hi, e⟩ := List.mem_iff_getElem.mp m
  obtain ⟨us, l, _⟩ := x.2.2 i d (by simp [hi, e])
  exact ⟨us, l⟩
theorem ToldAt.subLoc {L : Addr} {l : List (Str × Value)} {h h' : Heap} {a : Addr} {Ds : List Addr} {T : Nat → List (List Int)} (x : ToldAt h a Ds T) (s : Sub [L] h h') (hl : Loc h L l) : ToldAt h' a Ds T :=
  x.sub s (by simpa using hl.ne x.1) (fun d m => by obtain ⟨us, q⟩ := x.lst d m; simpa using hl.ne q) (by simp; intro ws q; exact hl.ne_tuple q rfl)
theorem ToldAt.sub0 {h h' : Heap} {a : Addr} {Ds : List Addr} {T : Nat → List (List Int)} (x : ToldAt h a Ds T) (s : Sub [] h h') : ToldAt h' a Ds T := x.sub s (by simp) (by simp) (by simp)
theorem ToldAt.weak {h h' : Heap} {l : List Env} {a : Addr} {Ds : List Addr} {T : Nat → List (List Int)} (x : ToldAt h a Ds T) (s : Weak (fa l) h h') (f : Frames h l) : ToldAt h' a Ds T :=
  x.sub s.sub (f.no_list x.1) (fun d m => by obtain ⟨us, q⟩ := x.lst d m; exact f.no_list q) f.no_tuple
theorem ToldAt.get {h : Heap} {a : Addr} {Ds : List Addr} {T : Nat → List (List Int)} (x : ToldAt h a Ds T) {i : Nat} (hi : i < 5) : ∃ D us, (Ds.map Value.ref).toArray[((i : Nat) : Int).toNat]? = some (.ref D) ∧ Lst h D us ∧ Tups h us (T i) ∧ us.length ≤ 3 := by
  have hi' : i < Ds.length := by rw [x.2.1]; exact hi
  obtain ⟨us, r⟩ := x.2.2 i Ds[i] (by simp [hi'])
  exact ⟨Ds[i], us, getA (by simp [hi']), r⟩

section
variable {prog : Program} {w : World} {A : Around} {h hS : Heap} {mg mb : Str → Option Value}

/-- the first statement: told -/
theorem told_ok {q : Str} {cd : Value} {L a p c : Addr} {rs : List (List Int)} {cs : List Int} {ws : List Value} {P : Flow → Heap → Prop} (hh : A.handled = none)
    (hl : Loc h L [("passages", .ref p)]) (hc : h.IsCell (L + 1) (some (.ref c))) (hr : IsRows h p rs) (hlen : rs.length = 5) (hrl : ∀ r ∈ rs, r.length ≤ 3) (lc : Lst h c ws) (ic : Ints ws cs) (hcl : cs.length = 5)
    (k : ∀ h' Tl, h.objs.size ≤ Tl → Loc h' L [("passages", .ref p), ("told", .ref Tl)] → Sub [L] h h' → Holds h.objs.size h' (fun h'' => IsTold h'' Tl (toldOf rs cs)) → P .next h') :
    Tr prog w A (exec ((bodyAt 13).getD 0 (.Pass default)) (envAt 13 q cd L a)) h P := by
  have hzL := szL
  obtain ⟨vs, lp, ep, kp⟩ := id hr
  refine Tr.assign_comp [("classes", L + 1)] (fun _ => true) (fun i y h' => ∃ D us, y = .ref D ∧ Lst h' D us ∧ Tups h' us (toldOf rs cs i) ∧ us.length ≤ 3)
    hl (Src.list hh (EvV.name hl) lp.isList) (by omega) (fun C i v h₁ _ _ _ _ _ => Tr.test_nil ⟨rfl, Sub.refl⟩) ?_ ?_
  · intro C i v h₁ hi hv _ hC hl₁ hs
    have hi5 : i < rs.length := by omega
    obtain ⟨u, eu, Dr, wr, rfl, lr, ir⟩ := kp i _ (getD_get (d := []) hi5)
    have ev : v = .ref Dr := by rw [eu] at hv; exact (Option.some.inj hv).symm
    subst ev
    have lr₁ := lr.sub hs (by simp)
    have hc₁ := IsCell.sub hc hs (by simp)
    have lc₁ := lc.sub hs (by simp)
    have hwl : wr.length ≤ 3 := by rw [ir.1]; exact hrl _ (List.mem_of_getElem? (getD_get hi5))
    refine Tr.comp [("classes", L + 1)] (fun _ => true) (fun j y h' => Tup h' y (keyOf cs ((rs.getD i []).getD j 0)))
      (Src.list hh (EvV.name hl₁) lr₁.isList) (by omega) (fun C i v h₁ _ _ _ _ _ => Tr.test_nil ⟨rfl, Sub.refl⟩) ?_ ?_
    · intro C2 j v h₂ hj hv _ hC2 hl₂ hs₂
      obtain ⟨tf, rfl⟩ := ir.getD hv
      generalize hF : (rs.getD i []).getD j 0 = F
      rw [hF] at hl₂
      have f0 : 0 ≤ F.fmod 5 := Int.fmod_nonneg_of_pos _ (by decide)
      have f5 : F.fmod 5 < 5 := Int.fmod_lt_of_pos _ (by decide)
      obtain ⟨tc, etc⟩ := ic.get (i := (F.fmod 5).toNat) (n := cs.getD (F.fmod 5).toNat 0) (getD_get (by omega))
      have hc₂ := IsCell.sub hc₁ hs₂ (by simp)
      have lc₂ := lc₁.sub hs₂ (by simp)
      refine Tr.tuple_disp (Tr.spl (EvI.run (EvI.fdiv (EvI.name hl₂) EvI.lit (by decide) (by decide)) fun u1 => Tr.spl (EvV.run (EvV.item (EvV.cell hc₂ rfl) (EvI.fmod (EvI.name hl₂) EvI.lit (by decide)) lc₂.isList f0 (by omega) (by simpa using etc)) (Tr.spl0 (Tr.newtuple (fun h₃ t₃ s₃ => ?_) (by simp [hzL]))))))
      refine ⟨s₃, fun h' k' => ⟨_, _, rfl, Holds.tuple t₃ (Nat.le_refl _) h' k', ?_⟩⟩
      exact Ints.cons rfl (Ints.cons rfl Ints.nil)
    · intro D h₂ ys hD hs₂ hK
      refine ⟨hs₂, hK.mono fun h' z => ⟨D, ys, rfl, z.1, ?_, ?_⟩⟩
      · refine ⟨?_, fun j v k' e1 e2 => ?_⟩
        · rw [z.2.1, List.filter_eq_self.mpr (by simp)]; simp [toldOf, ir.1]
        · have hj : j < wr.length := by
            have := (List.getElem?_eq_some_iff.mp e1).1
            rwa [z.2.1, List.filter_eq_self.mpr (by simp), List.length_range] at this
          have hjr : j < (rs.getD i []).length := ir.1 ▸ hj
          have hkk : k' = keyOf cs ((rs.getD i []).getD j 0) := by
            simp only [toldOf, List.getElem?_map, getD_get (d := 0) hjr, Option.map_some, Option.some.injEq] at e2
            exact e2.symm
          rw [hkk]
          exact z.2.2 j j v (by rw [List.filter_eq_self.mpr (by simp)]; simp [hj]) e1
      · rw [z.2.1, List.filter_eq_self.mpr (by simp)]; simpa using hwl
  · intro Tl h₁ ys hTl hl₁ s₁ hK
    refine k h₁ Tl hTl (hl₁.pick) s₁ (hK.mono fun h' z => ⟨ys, z.1, ?_, fun i hi => ?_⟩)
    · rw [z.2.1, List.filter_eq_self.mpr (by simp)]; simp [ep, hlen]
    · have hyl : ys.length = 5 := by rw [z.2.1, List.filter_eq_self.mpr (by simp)]; simp [ep, hlen]
      obtain ⟨D, us, e, l, t, u3⟩ := z.2.2 i i ys[i] (by rw [List.filter_eq_self.mpr (by simp)]; simp [ep, hlen, hi]) (by simp)
      exact ⟨D, us, by simp [hyl, hi, e], l, t, u3⟩
end
end Mine

/-! part F8 -/
namespace Mine
section
variable {prog : Program} {w : World} {A : Around} {h hS : Heap} {mg mb : Str → Option Value}

theorem parted_spec {a p c : Addr} {rs : List (List Int)} {cs : List Int} {ws : List Value} {outer : List Env} (S : Stat hS mg mb) (B : Base hS h) (hf : IsFn h a 13) (hh : A.handled = none) (hd : A.depth + 2 < recursionLimit) (hu : A.units + 10 < cLine)
    (hfr : A.frames = some outer) (hF : Frames h outer) (hfS : ∀ b ∈ fa outer, hS.get? b = none)
    (hr : IsRows h p rs) (hlen : rs.length = 5) (hrl : ∀ r ∈ rs, r.length ≤ 3) (lc : Lst h c ws) (ic : Ints ws cs) (hcl : cs.length = 5) :
    Tr prog w A (call (.ref a) [.ref p, .ref c]) h fun r h' => Weak (fa outer) h h' ∧ NewInts h.objs.size h' r ((List.range 5).map fun i => ((partOf (toldOf rs cs) i : Nat) : Int)) := by
  have hzL := szL
  refine Tr.enter hf (by omega) (S.nolimit.keeps B) (binds := [("passages", .ref p), ("classes", .ref c)]) (fun _ _ _ _ _ _ _ => rfl) ?_ ?_
  · intro L x hx
    simp only [List.mem_cons, List.not_mem_nil, or_false] at hx
    rcases hx with rfl | rfl
    · exact .inl rfl
    · exact .inr ⟨rfl, rfl⟩
  · intro q cd h₀ hn hc s₀
    have hl : Loc h₀ h.objs.size [("passages", .ref p)] := Loc.of_ns hn (by
      intro p hp
      simp only [List.mem_cons, List.not_mem_nil, or_false] at hp
      rcases hp with rfl; rfl)
    have hcc : h₀.IsCell (h.objs.size + 1) (some (.ref c)) := hc "classes" _ rfl
    have fr : ∀ b, h.objs.size ≤ b → h.get? b = none := fun b hb => get_none_of_le hb
    have hLS : hS.get? h.objs.size = none := B.fresh (Nat.le_refl _)
    have hflt := hF.lt
    have hL0 : h.objs.size < h₀.objs.size := hl.lt
    have hSn : ∀ b, h.objs.size ≤ b → hS.get? b = none := fun b hb => B.fresh hb
    generalize hLe : h.objs.size = L at *
    have hLn : h.get? L = none := fr L (Nat.le_refl _)
    generalize hT : toldOf rs cs = T
    refine Tr.execs_cons (told_ok (P := fun f h' => match f with | .next => Tr prog w (A.deeper (envAt 13 q cd L a)) (execs ((bodyAt 13).drop 1) (envAt 13 q cd L a)) h' _ | f => _) hh hl hcc (hr.sub0 s₀) hlen hrl (lc.sub s₀ (by simp)) ic hcl fun h₁ Tl hTl hl₁ s₁ hK => ?_)
    rw [hT] at hK
    obtain ⟨Ds, td⟩ := hK.here.at
    have s₀₁ : Sub [] h h₁ := s₀.lift s₁ (by simpa using hLn)
    refine Tr.execs_cons (Tr.assign_name (Tr.list_disp (Tr.spl0 (Tr.newlist (fun h₂ l₂ s₂ => ?_) (by simp)))))
    have hPn : h₁.get? h₁.objs.size = none := get_none_of_le (Nat.le_refl _)
    have hL1 : L < h₁.objs.size := hl₁.lt
    generalize hPe : h₁.objs.size = Pd at *
    have hLP : L ≠ Pd := by omega
    have hl₂ := hl₁.sub s₂ (by simp)
    have td₂ := td.sub0 s₂
    have hPT : Pd ≠ Tl := fun e => by obtain ⟨o, q⟩ := td.1.get; rw [← e, hPn] at q; cases q
    have hPD : ∀ d ∈ Ds, d ≠ Pd := fun d m e => by obtain ⟨us, l⟩ := td.lst d m; obtain ⟨o, q⟩ := l.get; rw [e, hPn] at q; cases q
    refine Tr.putA hl₂ fun h₃ hl₃ s₃ => ?_
    have l₃ := l₂.sub s₃ (by simpa using hLP.symm)
    have td₃ := td₂.subLoc s₃ hl₂
    have s₀₃ : Sub [] h h₃ := (s₀₁.trans s₂).lift s₃ (by simpa using hLn)
    have hPh : h.get? Pd = none := fr Pd (by omega)
    have hfrE : (A.deeper (envAt 13 q cd L a)).frames = some (envAt 13 q cd L a :: outer) := Around.frames_deeper hfr
    have fae : fa (envAt 13 q cd L a :: outer) = L :: fa outer := rfl
    have fram : ∀ {h' : Heap} {l : List (Str × Value)}, Up h h' → Loc h' L l → Frames h' (envAt 13 q cd L a :: outer) := fun u hl' => (hF.up u).cons (by show (scopeAt 13).kind ≠ .module; decide) rfl hl'
    have hSE : ∀ b ∈ L :: fa outer, hS.get? b = none := by
      intro b hb
      rcases List.mem_cons.mp hb with rfl | hb
      · exact hSn _ (Nat.le_refl _)
      · exact hfS b hb
    have hSμ : ∀ b ∈ L :: Pd :: fa outer, hS.get? b = none := by
      intro b hb
      rcases List.mem_cons.mp hb with rfl | hb
      · exact hSn _ (Nat.le_refl _)
      · rcases List.mem_cons.mp hb with rfl | hb
        · exact hSn _ (by omega)
        · exact hfS b hb
    have hFμ : ∀ {h' : Heap} {b : Addr} {vs : List Value}, Frames h' outer → Lst h' b vs → b ∉ fa outer := fun f l => f.no_list l
    refine Tr.execs_cons (Tr.for_ (μ := L :: Pd :: fa outer) (Src.range (n := 5) hh (EvV.blt S (B.step0 s₀₃) S.range) EvI.lit (by omega))
      (fun i h' => Loc h' L [("told", .ref Tl), ("parted", .ref Pd)] ∧ ToldAt h' Tl Ds T ∧ (∃ vs, Lst h' Pd vs ∧ Ints vs ((List.range i).map fun i => ((partOf T i : Nat) : Int))) ∧ Up h h')
      ?_ (by simp) ?_ ⟨hl₃.pick, td₃, ⟨[], l₃, Ints.nil⟩, Up.of_sub s₀₃⟩ ?_ ?_)
    · intro b hb
      rcases List.mem_cons.mp hb with rfl | hb
      · exact hl₃.lt
      · rcases List.mem_cons.mp hb with rfl | hb
        · exact l₃.lt
        · exact Nat.lt_trans (hflt b hb) (Nat.lt_trans hL1 (by have := l₃.lt; exact this))
    · rintro i h₄ h₅ ⟨b1, b2, ⟨vs, b3, b4⟩, b5⟩ sF
      exact ⟨b1.subF sF, b2.subF sF, ⟨vs, b3.subF sF, b4⟩, b5.subF sF⟩
    · rintro i v h₄ hi ⟨tr, rfl⟩ ⟨b1, b2, ⟨vs, b3, b4⟩, b5⟩ s₄
      refine Tr.tgt_name (Tr.putA b1 fun h₅ hl₅ s₅ => ?_)
      have td₅ := b2.subLoc s₅ b1
      have l₅ := b3.sub s₅ (by simpa using hLP.symm)
      have u₅ := b5.lift s₅ (by simpa using hLn)
      refine Tr.execs_cons (Tr.assign_name (EvI.run EvI.lit fun t0 => Tr.putA hl₅ fun h₆ hl₆ s₆ => ?_))
      have td₆ := td₅.subLoc s₆ hl₅
      have l₆ := l₅.sub s₆ (by simpa using hLP.symm)
      have u₆ := u₅.lift s₆ (by simpa using hLn)
      have s₄₆ : Sub (L :: Pd :: fa outer) h₄ h₆ := (s₅.one (by simp)).trans (s₆.one (by simp))
      refine Tr.execs_cons (Tr.while_ (fun n h' => ∃ (first : Nat) (tf : Tok), n = i - first ∧ first ≤ i ∧ (∀ j < first, sameSet (T i) (T j) = false) ∧ Loc h' L [("told", .ref Tl), ("parted", .ref Pd), ("room", .int (i : Nat) tr), ("first", .int (first : Nat) tf)] ∧
          ToldAt h' Tl Ds T ∧ Lst h' Pd vs ∧ Up h h' ∧ Sub (L :: Pd :: fa outer) h₄ h') ?_ i ⟨0, t0, by simp, Nat.zero_le _, fun j hj => absurd hj (Nat.not_lt_zero _), hl₆.pick, td₆, l₆, u₆, s₄₆⟩)
      rintro n h₇ ⟨first, tf, rfl, hfi, hno, hl₇, td₇, l₇, u₇, s₇⟩
      -- the room is found
      have fin : ∀ (h₈ : Heap), Loc h₈ L [("told", .ref Tl), ("parted", .ref Pd), ("room", .int (i : Nat) tr), ("first", .int (first : Nat) tf)] → ToldAt h₈ Tl Ds T → Lst h₈ Pd vs → Up h h₈ → Sub (L :: Pd :: fa outer) h₄ h₈ → partOf T i = first →
          Tr prog w (A.deeper (envAt 13 q cd L a)) (execs ((bodyAt 13).getD 2 (.Pass default) |> fun st => match st with | .For _ _ b _ _ => b.drop 2 | _ => []) (envAt 13 q cd L a)) h₈ fun f h₃ => Sub (L :: Pd :: fa outer) h₄ h₃ ∧ f = .next ∧
            Loc h₃ L [("told", .ref Tl), ("parted", .ref Pd)] ∧ ToldAt h₃ Tl Ds T ∧ (∃ vs, Lst h₃ Pd vs ∧ Ints vs ((List.range (i + 1)).map fun i => ((partOf T i : Nat) : Int))) ∧ Up h h₃ := by
        intro h₈ hl₈ td₈ l₈ u₈ s₈ hpo
        have vl : vs.length = i := by rw [b4.1]; simp
        refine Tr.execs_cons (Tr.expr (Tr.append (EvV.name hl₈) l₈ (EvI.run (EvI.name hl₈) fun t9 => Tr.append_call l₈ (by omega) fun h₉ l₉ s₉ => ?_)))
        refine Tr.execs_nil ⟨s₈.trans (s₉.one (by simp)), rfl, (hl₈.sub s₉ (by simpa using hLP)).pick, td₈.sub s₉ (by simpa using hPT.symm) (fun d m => by simpa using hPD d m) (by simpa using lst_no_tuple l₈), ⟨_, l₉, ?_⟩, u₈.lift s₉ (by simpa using hPh)⟩
        rw [List.range_succ, List.map_append]
        exact b4.snoc (t := t9) (by dsimp only; rw [hpo])
      refine Tr.test_and2 (EvB.run (EvB.lt (EvI.name hl₇) (EvI.name hl₇)) ?_)
      by_cases hlt : first < i
      · have hlt' : ((first : Nat) : Int) < ((i : Nat) : Int) := by omega
        rw [decide_eq_true hlt', if_pos rfl]
        have hF₇ := fram u₇ hl₇
        have B₇ : Base hS h₇ := ((B.step0 s₀₃).step s₄ hSμ).step s₇ hSμ
        obtain ⟨a', ha', hf'⟩ := S.compare
        have hf₇ : IsFn h₇ a' 2 := IsFnD.sub hf' B₇
        obtain ⟨o, nm, q', doc, pm, cd', ct, an, ho, hdt, hcd⟩ := id hf₇
        obtain ⟨Da, ua, ea, la, ta, za⟩ := td₇.get hi
        obtain ⟨Db, ub, eb, lb, tb, zb⟩ := td₇.get (show first < 5 by omega)
        refine Tr.test_not (Tr.test_value (Tr.call_def (EvV.glob S B₇ ha') hdt (Tr.spl (EvV.run (EvV.item (EvV.name hl₇) (EvI.name hl₇) td₇.1.isList (by omega) (by omega) ea) (Tr.spl (EvV.run (EvV.item (EvV.name hl₇) (EvI.name hl₇) td₇.1.isList (by omega) (by omega) eb) (Tr.spl0 ⟨ho, ?_⟩)))))))
        refine Tr.mono (compare_spec S B₇ hf₇ hh (show A.depth + 1 + 1 < recursionLimit by omega) (show A.units + 3 + 7 < cLine by omega) hfrE hF₇ (fae ▸ hSE) la ta (by omega) lb tb (by omega)) fun r h₈ z => ?_
        obtain ⟨rfl, w₈⟩ := z
        have hl₈ := hl₇.weak w₈
        have td₈ := td₇.weak w₈ hF₇
        have l₈ := l₇.sub w₈.sub (hF₇.no_list l₇)
        have u₈ := u₇.weak w₈
        have s₈ : Sub (L :: Pd :: fa outer) h₄ h₈ := s₇.trans (w₈.sub.mono (by rw [fae]; intro b hb; rcases List.mem_cons.mp hb with rfl | hb; exact .head _; exact .tail _ (.tail _ hb)))
        refine Tr.truthy_bool ?_
        cases hsm : sameSet (T i) (T first) with
        | true =>
          simp only [Bool.not_true, Bool.false_eq_true, if_false]
          exact Tr.mono (fin h₈ hl₈ td₈ l₈ u₈ s₈ (partOf_eq hfi hno (.inr hsm))) fun f h₃ z => (by obtain ⟨z1, rfl, z2⟩ := z; exact ⟨z1, z2⟩)
        | false =>
          simp only [Bool.not_false, if_true]
          refine Tr.execs_cons (Tr.assign_name (EvI.run (EvI.add (EvI.name hl₈) EvI.lit) fun t9 => Tr.putA hl₈ fun h₉ hl₉ s₉ => ?_))
          have e9 : ((first : Nat) : Int) + 1 = ((first + 1 : Nat) : Int) := by omega
          rw [e9] at hl₉
          refine Tr.execs_nil ⟨i - (first + 1), by omega, first + 1, t9, rfl, by omega, fun j hj => ?_, hl₉.pick, td₈.subLoc s₉ hl₈, l₈.sub s₉ (by simpa using hLP.symm), u₈.lift s₉ (by simpa using hLn), s₈.trans (s₉.one (by simp))⟩
          rcases Nat.lt_or_ge j first with h' | h'
          · exact hno j h'
          · have : j = first := by omega
            subst this; exact hsm
      · have hlt' : ¬ ((first : Nat) : Int) < ((i : Nat) : Int) := by omega
        rw [decide_eq_false hlt', if_neg (by simp)]
        simp only [Bool.false_eq_true, if_false]
        exact Tr.mono (fin h₇ hl₇ td₇ l₇ u₇ s₇ (partOf_eq hfi hno (.inl (by omega)))) fun f h₃ z => (by obtain ⟨z1, rfl, z2⟩ := z; exact ⟨z1, z2⟩)
    · rintro h₄ ⟨b1, b2, ⟨vs, b3, b4⟩, b5⟩ s₄
      refine Tr.execs_cons (Tr.retn (EvV.run (EvV.name b1) ⟨⟨?_, b5⟩, Pd, vs, rfl, by omega, b4, b3⟩))
      have s' : Sub (L :: Pd :: fa outer) h h₄ := (s₀₃.mono (by simp)).trans s₄
      exact (s'.drop hLn).drop hPh
end
end Mine

/-! part G1 -/
namespace Mine

/-! the lambda of law -/
def noE : Expr := .Name "" default
def lamE : Expr := match (bodyAt 18).getD 2 (.Pass default) with | .Assign _ (.Call _ (e :: _) _ _) _ => e | _ => noE
def lamBody : Expr := match lamE with | .Lambda _ b _ _ => b | _ => noE
def lamScope : Scope := match lamE with | .Lambda _ _ s _ => s | _ => default
def lamParams : Arguments := match lamE with | .Lambda a _ _ _ => a | _ => default
def lamPos : Pos := match lamE with | .Lambda _ _ _ p => p | _ => default
def envLam (q : Str) (cd : Value) (L f C : Addr) : Env :=
  { scope := lamScope, locals := L, globals := mainGlobals, cells := [("passages", C)], qual := q ++ ".<locals>.", func := some f, code := cd, frame := some L, builtins := builtinsNs }
def IsLam (h : Heap) (f C : Addr) : Prop := ∃ q pm c' ctv, h.get? f = some (kla_obj "<lambda>" q lamParams lamBody lamScope [("passages", C)] pm c' ctv) ∧ h.CodeRec (.ref c') q

/-- at these addresses stand dicts, if anything -/
def Dicts (h : Heap) (μ : List Addr) : Prop := ∀ b ∈ μ, ∀ o, h.get? b = some o → ∃ es ep, o.data = .dict es ep
theorem Frames.dicts {h : Heap} {l : List Env} (x : Frames h l) : Dicts h (fa l) := fun b m o e => by
  obtain ⟨o', es, ep, c, d⟩ := x.dict b m
  rw [c] at e; cases e; exact ⟨es, ep, d⟩
theorem Dicts.out {h : Heap} {μ : List Addr} {b : Addr} {o : Obj} (x : Dicts h μ) (e : h.get? b = some o) (n : ∀ es ep, o.data ≠ .dict es ep) : b ∉ μ := fun m => by
  obtain ⟨es, ep, d⟩ := x b m o e; exact n es ep d
theorem Dicts.cons {h : Heap} {μ : List Addr} {L : Addr} {l : List (Str × Value)} (x : Dicts h μ) (hl : Loc h L l) : Dicts h (L :: μ) := fun b m o e => by
  rcases List.mem_cons.mp m with rfl | m
  · obtain ⟨m', ⟨o', es, ep, e', d, _⟩, _⟩ := hl
    rw [e'] at e; cases e; exact ⟨es, ep, d⟩
  · exact x b m o e
theorem Lst.subD {μ : List Addr} {h h' : Heap} {a : Addr} {vs : List Value} (x : Lst h a vs) (s : Sub μ h h') (d : Dicts h μ) : Lst h' a vs := x.sub s (by
  obtain ⟨n, e⟩ := x; exact d.out e (fun _ _ q => nomatch q))
theorem IsRows.subD {μ : List Addr} {h h' : Heap} {a : Addr} {rs : List (List Int)} (x : IsRows h a rs) (s : Sub μ h h') (d : Dicts h μ) : IsRows h' a rs :=
  let ⟨vs, l, e, k⟩ := x; ⟨vs, l.subD s d, e, fun i ns q => let ⟨u, e1, D, ws, e2, l2, i2⟩ := k i ns q; ⟨u, e1, D, ws, e2, l2.subD s d, i2⟩⟩
theorem IsRows.subF {h h' : Heap} {a : Addr} {rs : List (List Int)} (x : IsRows h a rs) (s : SubF h h') : IsRows h' a rs :=
  let ⟨vs, l, e, k⟩ := x; ⟨vs, l.subF s, e, fun i ns q => let ⟨u, e1, D, ws, e2, l2, i2⟩ := k i ns q; ⟨u, e1, D, ws, e2, l2.subF s, i2⟩⟩
theorem IsCell.subD {μ : List Addr} {h h' : Heap} {a : Addr} {v : Option Value} (x : h.IsCell a v) (s : Sub μ h h') (d : Dicts h μ) : h'.IsCell a v := by
  obtain ⟨o, e, r⟩ := x
  exact ⟨o, s a o (d.out e fun _ _ q => by rw [r] at q; cases q) e, r⟩
theorem IsLam.subD {μ : List Addr} {h h' : Heap} {f C : Addr} (x : IsLam h f C) (s : Sub μ h h') (d : Dicts h μ) : IsLam h' f C := by
  obtain ⟨q, pm, c', ctv, e, c1, o1, vs, t, e1, e2, e3, e4⟩ := x
  exact ⟨q, pm, c', ctv, s _ _ (d.out e fun _ _ q => nomatch q) e, c1, o1, vs, t, e1, s _ _ (d.out e2 fun _ _ q => by rw [e3] at q; cases q) e2, e3, e4⟩
theorem Dicts.nil {h : Heap} : Dicts h [] := fun _ m => nomatch m

section
variable {prog : Program} {w : World} {A : Around} {env : Env} {h : Heap}
theorem Tr.add_lists {l b : Addr} {vs ws : List Value} {P : Value → Heap → Prop} (hl : Lst h l vs) (hb : Lst h b ws) (hz : vs.length + ws.length ≤ sizeLine) (p : ∀ h', Lst h' h.objs.size (vs ++ ws) → Sub [] h h' → P (.ref h.objs.size) h') :
    Tr prog w A (binaryOp .Add (.ref l) (.ref b)) h P := fun s Q E e hq => by
  subst e
  obtain ⟨n, q⟩ := hl
  obtain ⟨n2, q2⟩ := hb
  refine PySem.P.add_list q q2 (hq _ _ s.toks (p _ ⟨0, ?_⟩ (Sub.push _))) (by simpa using hz)
  have := IsL.new s.heap (vs.toArray ++ ws.toArray)
  rw [← List.append_toArray]
  exact this
theorem EvI.neg {e : Expr} {p : Pos} {i : Int} (x : EvI prog w A env e h i) : EvI prog w A env (.UnaryOp .USub e p) h (-i) := fun s Q E e' hq => by
  refine wpAny_UnaryOp (x s _ E e' fun v h₁ tk y => ?_)
  obtain ⟨⟨t, rfl⟩, rfl⟩ := y
  exact PySem.P.neg_int (hq _ _ _ ⟨⟨_, rfl⟩, rfl⟩)
theorem EvV.item_neg {value slice : Expr} {p : Pos} {l : Addr} {vs : List Value} {v : Value} (x : EvV prog w A env value h (.ref l)) (y : EvI prog w A env slice h (-1)) (hl : h.IsList l (vs ++ [v]).toArray)
    (hs : ∀ u, subscripted slice false (.ref l) (.int (-1) u) = operate [.ref l, .int (-1) u] (getItem (.ref l) (.int (-1) u)) := by intro u; with_unfolding_all rfl) : EvV prog w A env (.Subscript value slice p) h v :=
  Tr.sub_ (x.run (y.run fun t s Q E e hq => by
    subst e
    refine tail_any hl.typeIs slot_list_getitem.lookup (wpAny_getItem_list_neg hl (by decide) (by simp; omega) (by decide) ?_ (hq _ _ s.toks ⟨rfl, rfl⟩)) (hs t)
    have : ((-1 : Int) + ((vs ++ [v]).toArray.size : Nat)).toNat = vs.length := by simp; omega
    rw [this]; simp))

theorem Tr.enter_lam {f C : Addr} {v1 v2 : Value} {P : Value → Heap → Prop} (hf : IsLam h f C) (hroom : A.depth < recursionLimit) (hlim : h.NoLimit)
    (k : ∀ q cd h₀, Loc h₀ h.objs.size [("rows", v1), ("turn", v2)] → Sub [] h h₀ →
      Tr prog w (A.deeper (envLam q cd h.objs.size f C)) (eval lamBody (envLam q cd h.objs.size f C)) h₀ P) :
    Tr prog w A (call (.ref f) [v1, v2]) h P := fun s Q E e hq => by
  subst e
  obtain ⟨q, pm, c', ctv, ho, hc⟩ := hf
  refine wpAny_call (kla_callFunE hroom ho rfl rfl rfl rfl hc ?_)
  have hb : bindArgs (kla_fn "<lambda>" q lamParams lamBody lamScope [("passages", C)] pm (.ref c') ctv) ⟨[v1, v2], []⟩ = (pure [("rows", v1), ("turn", v2)] : Sem (List (Str × Value))) := rfl
  rw [hb]
  refine wpAny_pure (wpAny_newFunctionEnv (by show ∀ x ∈ lamScope.names, _; decide) ?_ (fun h₁ hns hsb => ⟨hlim.fresh _ hsb, ?_⟩) rfl)
  · intro x hx
    simp only [List.mem_cons, List.not_mem_nil, or_false] at hx
    rcases hx with rfl | rfl <;> rfl
  · show codeAny _ _ (.expr lamBody (envLam q (.ref c') s.heap.objs.size f C)) _ _
    have hk₁ : ∀ b o, s.heap.get? b = some o → h₁.get? b = some o := fun b o e => hsb.extBut b o (Nat.ne_of_lt (Heap.lt_size e)) (Heap.get?_push_of_some _ e)
    refine kla_codeExpr (k q (.ref c') h₁ ?_ (Sub.of_all hk₁) _ _ _ rfl fun v h' tk p => hq _ _ _ p)
    exact Loc.of_ns hns (by
      intro p hp
      simp only [List.mem_cons, List.not_mem_nil, or_false] at hp
      rcases hp with rfl | rfl <;> rfl)
end
/-- the next row -/
def nextOf (rs : List (List Int)) (cs : List Int) : List Int := (List.range 5).map fun i => ((partOf (toldOf rs cs) i : Nat) : Int)

section
variable {prog : Program} {w : World} {A : Around} {h hS : Heap} {mg mb : Str → Option Value}
theorem IsRows.snoc {V D : Addr} {vs ws : List Value} {hist : List (List Int)} {ns : List Int} (l : Lst h V (vs ++ [.ref D])) (e : vs.length = hist.length) (k : ∀ (i : Nat) (ns : List Int), hist[i]? = some ns → ∃ u, vs[i]? = some u ∧ IntL h u ns)
    (ld : Lst h D ws) (id : Ints ws ns) : IsRows h V (hist ++ [ns]) := by
  refine ⟨_, l, by simp [e], fun i ms q => ?_⟩
  by_cases hi : i < hist.length
  · rw [List.getElem?_append_left hi] at q
    obtain ⟨u, e1, e2⟩ := k i ms q
    exact ⟨u, by rw [List.getElem?_append_left (by omega)]; exact e1, e2⟩
  · have hi' : i = hist.length := by
      have := (List.getElem?_eq_some_iff.mp q).1
      simp at this; omega
    subst hi'
    simp at q
    subst q
    exact ⟨.ref D, by rw [← e]; simp, D, ws, rfl, ld, id⟩

theorem lam_spec {f C p V : Addr} {rs hist : List (List Int)} {cs : List Int} {tv : Value} {outer : List Env} (S : Stat hS mg mb) (B : Base hS h) (hf : IsLam h f C) (hh : A.handled = none) (hd : A.depth + 3 < recursionLimit) (hu : A.units + 13 < cLine)
    (hfr : A.frames = some outer) (hF : Frames h outer) (hfS : ∀ b ∈ fa outer, hS.get? b = none) (hc : h.IsCell C (some (.ref p)))
    (hr : IsRows h p rs) (hlen : rs.length = 5) (hrl : ∀ r ∈ rs, r.length ≤ 3) (hV : IsRows h V (hist ++ [cs])) (hcl : cs.length = 5) (hz : hist.length ≤ 100) :
    Tr prog w A (call (.ref f) [.ref V, tv]) h fun r h' => Weak (fa outer) h h' ∧ ∃ V', r = .ref V' ∧ h.objs.size ≤ V' ∧ IsRows h' V' (hist ++ [cs] ++ [nextOf rs cs]) := by
  have hzL := szL
  refine Tr.enter_lam hf (by omega) (S.nolimit.keeps B) fun q cd h₀ hl s₀ => ?_
  have hLn : h.get? h.objs.size = none := get_none_of_le (Nat.le_refl _)
  have hLS : hS.get? h.objs.size = none := B.fresh (Nat.le_refl _)
  generalize hLe : h.objs.size = L at *
  obtain ⟨vs, lV, eV, kV⟩ := id hV
  have eV' : vs.length = hist.length + 1 := by simpa using eV
  obtain ⟨v, hv, D, ws, rfl, ld, iD⟩ := kV hist.length cs (by simp)
  obtain ⟨us, rfl⟩ : ∃ us, vs = us ++ [.ref D] := ⟨vs.dropLast, by
    have hne : vs ≠ [] := by intro q; rw [q] at eV'; simp at eV'
    have hlast : vs.getLast hne = .ref D := by
      rw [List.getLast_eq_getElem]
      have hvv := (List.getElem?_eq_some_iff.mp hv).2
      simpa [eV'] using hvv
    rw [← hlast, List.dropLast_concat_getLast]⟩
  have hul : us.length = hist.length := by simp at eV'; exact eV'
  have B₀ := B.step0 s₀
  have lV₀ := lV.sub s₀ (by simp)
  obtain ⟨a', ha', hf'⟩ := S.parted
  have hf₀ : IsFn h₀ a' 13 := IsFnD.sub hf' B₀
  obtain ⟨o, nm, q', doc, pm, cd', ct, an, ho, hdt, hcd⟩ := id hf₀
  have hF₀ : Frames h₀ (envLam q cd L f C :: outer) := (hF.of_keeps s₀.all).cons (by show lamScope.kind ≠ .module; decide) rfl hl
  refine Tr.binop (EvV.run (EvV.name hl) (Tr.list_disp (Tr.spl (Tr.call_def (EvV.global (S.g.keeps B₀) ha') hdt (Tr.spl (EvV.run (EvV.free (IsCell.sub hc s₀ (by simp)) rfl) (Tr.spl (EvV.run (EvV.item_neg (EvV.name hl) (EvI.neg EvI.lit) lV₀.isList) (Tr.spl0 ⟨ho, ?_⟩)))))))))
  refine Tr.mono (parted_spec S B₀ hf₀ hh (show A.depth + 1 + 2 < recursionLimit by omega) (show A.units + 3 + 10 < cLine by omega) (Around.frames_deeper hfr) hF₀ ?_ (hr.sub0 s₀) hlen hrl (ld.sub s₀ (by simp)) iD hcl) fun r h₁ z => ?_
  · intro b hb
    rcases List.mem_cons.mp (show b ∈ L :: fa outer from hb) with rfl | hb
    · exact hLS
    · exact hfS b hb
  · obtain ⟨w₁, D', ws', rfl, hD', iD', lD'⟩ := z
    have d₀ := hF₀.dicts
    refine Tr.spl0 (Tr.newlist (fun h₂ l₂ s₂ => ?_) (by simp [hzL]))
    have lV₂ := (lV₀.subD w₁.sub d₀).sub s₂ (by simp)
    refine Tr.add_lists lV₂ l₂ (by simp; omega) fun h₃ l₃ s₃ => ?_
    have w₂ : Weak (fa outer) h h₃ := by
      have w1' : Weak (L :: fa outer) h h₁ := (Weak.of_sub s₀).trans w₁
      exact (((w1'.lift s₂ (by simp)).lift s₃ (by simp))).drop hLn
    refine ⟨w₂, _, rfl, ?_, ?_⟩
    · have h1 : L < h₀.objs.size := hl.lt
      have h2 := l₂.lt
      have h3 : D' < h₁.objs.size := lD'.lt
      generalize h₂.objs.size = n2 at *
      generalize h₁.objs.size = n1 at *
      generalize h₀.objs.size = n0 at *
      have h1' : @LT.lt Nat _ L n0 := h1
      have h2' : @LT.lt Nat _ n1 n2 := h2
      have h3' : @LT.lt Nat _ D' n1 := h3
      show @LE.le Nat _ L n2
      have hD'' : @LE.le Nat _ n0 D' := hD'
      omega
    · refine IsRows.snoc l₃ (by simp [hul]) (fun i ns q' => ?_) ((lD'.sub s₂ (by simp)).sub s₃ (by simp)) iD'
      have hVr := ((hV.sub0 s₀).subD w₁.sub d₀).sub0 (s₂.trans s₃)
      obtain ⟨vs2, lV2, _, kV2⟩ := hVr
      have := Lst.uniq lV2 (lV₂.sub s₃ (by simp))
      subst this
      exact kV2 i ns q'
end
end Mine

/-! part G2 -/
namespace Mine
section
variable {prog : Program} {w : World} {A : Around} {env : Env} {h : Heap}

theorem Tr.enter_reduce {a T : Addr} {oT : Obj} {dv : Value} {n : Nat} {v1 v2 v3 : Value} {P : Value → Heap → Prop} (hf : IsFnD h a 5 (.ref T)) (hT : h.get? T = some oT) (hTd : oT.data = .seq #[dv] n) (hroom : A.depth < recursionLimit) (hlim : h.NoLimit)
    (k : ∀ q cd h₀, Loc h₀ h.objs.size [("function", v1), ("sequence", v2), ("initial", v3)] → Sub [] h h₀ →
      Tr prog w (A.deeper (envAt 5 q cd h.objs.size a)) (execs (bodyAt 5) (envAt 5 q cd h.objs.size a)) h₀ fun f h' => P (back f) h') :
    Tr prog w A (call (.ref a) [v1, v2, v3]) h P := fun s Q E e hq => by
  subst e
  obtain ⟨o, nm, q, doc, pm, cd, ct, an, ho, hd, hc⟩ := hf
  refine wpAny_call (codeAny_call_def (fd := fnAt 5 nm q (.ref T) doc pm cd ct an) (body := bodyAt 5) (binds := [("function", v1), ("sequence", v2), ("initial", v3)]) hroom ho hd hlim hc rfl (BindsTo.of_defaults rfl hT hTd rfl rfl) (by show ∀ x ∈ (scopeAt 5).names, _; decide) ?_ (fun h₀ hns hk => ?_) rfl rfl rfl)
  · intro x hx
    simp only [List.mem_cons, List.not_mem_nil, or_false] at hx
    rcases hx with rfl | rfl | rfl <;> rfl
  · refine wpAny_mono (k q cd h₀ ?_ (Sub.of_all hk) _ _ (fun _ _ => False) rfl (fun f h' tk' p => ?_)) (fun f s' p => p) (fun _ _ p => p.elim)
    · exact Loc.of_ns hns (by
        intro p hp
        simp only [List.mem_cons, List.not_mem_nil, or_false] at hp
        rcases hp with rfl | rfl | rfl <;> rfl)
    · have := hq (back f) h' tk' p
      cases f <;> exact this

theorem Tr.iter_call {l : Addr} {vs : List Value} {P : Value → Heap → Prop} (hl : h.IsList l vs.toArray) (p : ∀ h', h'.IsListIter h.objs.size l 0 → Sub [] h h' → P (.ref h.objs.size) h') : Tr prog w A (call (.builtin "iter") [.ref l]) h P :=
  fun s Q E e hq => by
    subst e
    refine Calls.call_function_entry (by decide +kernel) (by decide +kernel) kdk_entry_iter (kdk_args_iter _) ?_
    unfold Builtin.«iter»
    refine wpAny_bind (m := someArgs "iter" 1 2 _) (wpAny_of_eq (a := [Value.ref l]) (by first | rfl | kernel_rfl!) ?_)
    show wpAny _ _ (pyIter (.ref l) >>= _) _ _ _
    refine wpAny_bind (wpAny_pyIter_list hl ?_)
    exact wpAny_pure ⟨_, rfl, hq _ _ s.toks (p _ ⟨_, Heap.get?_push_size _ rfl, rfl, rfl⟩ (Sub.push _))⟩

theorem Loop.listiter {target : Expr} {body : List Stmt} {I l : Addr} {vs : List Value} {μ : List Addr} {P : Flow → Heap → Prop} (hh : A.handled = none) (hit : h.IsListIter I l 0) (hl : h.IsList l vs.toArray) (J : Nat → Heap → Prop)
    (hI : I ∉ μ) (hlm : l ∉ μ) (hJ : ∀ i h₁ h₂, J i h₁ → SubF h₁ h₂ → J i h₂) (start : J 0 h)
    (turn : ∀ i v h₁, vs[i]? = some v → J i h₁ → Sub (I :: μ) h h₁ → Tr prog w A (assign target env v) h₁ fun _ h₂ => Tr prog w A (execs body env) h₂ fun f h₃ => Sub μ h₁ h₃ ∧ f = .next ∧ J (i + 1) h₃)
    (done : ∀ h', J vs.length h' → Sub (I :: μ) h h' → P .next h') : Loop prog w A env target body (.ref I) h P := by
  intro s Q E e hq
  subst e
  refine wpAny_pyIter_listiter hit ?_
  have hne : l ≠ I := fun q => by
    obtain ⟨o, e1, c1, _⟩ := hit; obtain ⟨o', e2, c2, _⟩ := hl
    rw [q, e1] at e2; cases e2; rw [c1] at c2; exact absurd c2 (by decide)
  have W := Walks.list (prog := prog) (w := w) (A := A) hh I l hne vs.toArray
  simp only [List.size_toArray] at W
  have hfl : ∀ (i : Nat) (h' : Heap), (h'.IsListIter I l i ∧ h'.IsList l vs.toArray) → ∀ o : Obj, h'.get? I = some o → ∃ vs, o.data = .fields vs := by
    rintro i h' ⟨⟨o', e1, _, e2⟩, _⟩ o e
    rw [e1] at e; cases e; exact ⟨_, e2⟩
  refine codeAny_forLoop_any (fun k s' => ∃ h' tk i, s' = { s with heap := h', toks := tk } ∧ (h'.IsListIter I l i ∧ h'.IsList l vs.toArray) ∧ J i h' ∧ Sub (I :: μ) s.heap h' ∧ i ≤ vs.length ∧ k = vs.length + 1 - i) ?_ (vs.length + 1) ⟨s.heap, s.toks, 0, rfl, ⟨hit, hl⟩, start, Sub.refl, Nat.zero_le _, rfl⟩
  rintro k s' ⟨h', tk', i, rfl, hst', hj, hsub, hi, rfl⟩
  rcases Nat.lt_or_ge i vs.length with hin | hin
  · refine W.item i _ _ _ hin hst' fun v h₃ tk₃ hP hst₃ hk₃ => ?_
    have sub₃ : Sub [I] h' h₃ := fun b o hb e => hk₃ b o hb e
    have subF₃ : SubF h' h₃ := fun b o e hn => sub₃ b o (fun m => by rw [List.mem_singleton.mp m] at e; obtain ⟨vs, q⟩ := hfl i h' hst' o e; exact hn vs q) e
    have subh₃ : Sub (I :: μ) s.heap h₃ := hsub.trans (sub₃.mono (by simp))
    obtain ⟨⟨o3, f1, f2, _⟩, _⟩ := id hst₃
    refine Tr.no_owned f1 f2 (by decide) _ _ _ rfl fun _ h₃' tk₃' e₃ => ?_
    subst e₃
    refine turn i v _ (by simpa using hP) (hJ _ _ _ hj subF₃) subh₃ _ _ _ rfl fun _ h₄ tk₄ y => y _ _ _ rfl fun f h₅ tk₅ z => ?_
    obtain ⟨sub₅, rfl, hj'⟩ := z
    refine ⟨vs.length + 1 - (i + 1), by omega, h₅, tk₅, i + 1, rfl, W.frame _ _ _ hst₃ (fun b hb o e => sub₅ b o ?_ e), hj', subh₃.trans (sub₅.mono (by intro a m; exact .tail _ m)), hin, rfl⟩
    simp only [List.mem_cons, List.not_mem_nil, or_false] at hb
    rcases hb with rfl | rfl
    · exact hI
    · exact hlm
  · have hin' : i = vs.length := Nat.le_antisymm hi hin
    subst hin'
    refine W.done _ _ _ hst' fun h₃ tk₃ hk₃ => ?_
    have sub₃ : Sub [I] h' h₃ := fun b o hb e => hk₃ b o hb e
    have subF₃ : SubF h' h₃ := fun b o e hn => sub₃ b o (fun m => by rw [List.mem_singleton.mp m] at e; obtain ⟨vs, q⟩ := hfl _ h' hst' o e; exact hn vs q) e
    exact wpAny_execs_nil (hq _ _ _ (done h₃ (hJ _ _ _ hj subF₃) (hsub.trans (sub₃.mono (by simp)))))
end

/-- the history -/
def csOf (rs : List (List Int)) : Nat → List Int
  | 0 => [0, 0, 0, 0, 0]
  | n + 1 => nextOf rs (csOf rs n)
def histOf (rs : List (List Int)) (n : Nat) : List (List Int) := (List.range (n + 1)).map (csOf rs)
theorem csOf_len (rs : List (List Int)) : ∀ n, (csOf rs n).length = 5
  | 0 => rfl
  | n + 1 => by simp [csOf, nextOf]
theorem histOf_last (rs : List (List Int)) (n : Nat) : ∃ hist, histOf rs n = hist ++ [csOf rs n] ∧ hist.length = n :=
  ⟨(List.range n).map (csOf rs), by simp [histOf, List.range_succ], by simp⟩
theorem histOf_succ (rs : List (List Int)) (n : Nat) : histOf rs (n + 1) = histOf rs n ++ [nextOf rs (csOf rs n)] := by
  unfold histOf
  rw [List.range_succ, List.map_append]; rfl

section
variable {prog : Program} {w : World} {A : Around} {h hS : Heap} {mg mb : Str → Option Value}
theorem reduce_spec {a T d f C p V l : Addr} {oT od : Obj} {dv : Value} {n : Nat} {rs : List (List Int)} {us : List Value} {outer : List Env} (S : Stat hS mg mb) (B : Base hS h) (hf : IsFnD hS a 5 (.ref T)) (hT : hS.get? T = some oT) (hTd : oT.data = .seq #[dv] n)
    (hm : mg "_initial_missing" = some (.ref d)) (hmd : hS.get? d = some od) (hVS : hS.get? V = none) (hL : IsLam h f C) (hh : A.handled = none) (hd : A.depth + 4 < recursionLimit) (hu : A.units + 16 < cLine)
    (hfr : A.frames = some outer) (hF : Frames h outer) (hfS : ∀ b ∈ fa outer, hS.get? b = none) (hc : h.IsCell C (some (.ref p)))
    (hr : IsRows h p rs) (hlen : rs.length = 5) (hrl : ∀ r ∈ rs, r.length ≤ 3) (ll : Lst h l us) (hul : us.length ≤ 90) (hV : IsRows h V (histOf rs 0)) :
    Tr prog w A (call (.ref a) [.ref f, .ref l, .ref V]) h fun r h' => Weak (fa outer) h h' ∧ ∃ V', r = .ref V' ∧ IsRows h' V' (histOf rs us.length) := by
  have hzL := szL
  refine Tr.enter_reduce (IsFnD.sub hf B) (B _ _ hT) hTd (by omega) (S.nolimit.keeps B) fun q cd h₀ hl s₀ => ?_
  have hLn : h.get? h.objs.size = none := get_none_of_le (Nat.le_refl _)
  have hLS : hS.get? h.objs.size = none := B.fresh (Nat.le_refl _)
  generalize hLe : h.objs.size = L at *
  have B₀ := B.step0 s₀
  have ll₀ := ll.sub s₀ (by simp)
  -- it = iter(sequence)
  refine Tr.execs_cons (Tr.assign_name (Tr.call_blt (EvV.blt S B₀ S.iter) (Tr.spl (EvV.run (EvV.name hl) (Tr.spl0 (Tr.iter_call ll₀.isList fun h₁ hi₁ s₁ => ?_))))))
  have hIn : h₀.get? h₀.objs.size = none := get_none_of_le (Nat.le_refl _)
  have hLI : L < h₀.objs.size := hl.lt
  generalize hIe : h₀.objs.size = I at *
  have hIL : I ≠ L := Nat.ne_of_gt hLI
  have hIh : h.get? I = none := by
    cases q' : h.get? I with
    | none => rfl
    | some o => have := s₀.all _ _ q'; rw [hIn] at this; cases this
  refine Tr.putA (hl.sub s₁ (by simp)) fun h₂ hl₂ s₂ => ?_
  have B₂ : Base hS h₂ := (B₀.step0 s₁).step s₂ (by simpa using hLS)
  obtain ⟨vsV, lV, _, _⟩ := id hV
  have lV₂ : Lst h₂ V vsV := ((lV.sub s₀ (by simp)).sub s₁ (by simp)).sub s₂ (by simpa using (hl.sub s₁ (μ := []) (by simp)).ne ((lV.sub s₀ (by simp)).sub s₁ (by simp)))
  have hVd : V ≠ d := fun q' => by rw [q', hmd] at hVS; cases hVS
  -- if initial is _initial_missing
  obtain ⟨oV, hoV, hcV, _⟩ := lV₂.isList
  have tst : EvB prog w (A.deeper (envAt 5 q cd L a)) (envAt 5 q cd L a) (match (bodyAt 5).getD 1 (.Pass default) with | .If t _ _ _ => t | _ => noE) h₂ false :=
    EvB.cmp (EvV.name hl₂) (EvV.glob S B₂ hm) (fun s Q E e hq => by
      subst e
      exact wpAny_is_ref_other hVd hoV (B₂ _ _ hmd) (by rw [hcV]; decide) (hq _ _ s.toks ⟨rfl, rfl⟩))
  refine Tr.execs_cons (Tr.ite (EvB.run tst ?_))
  simp only [Bool.false_eq_true, if_false]
  refine Tr.execs_cons (Tr.assign_name (EvV.run (EvV.name hl₂) (Tr.putA hl₂ fun h₃ hl₃ s₃ => Tr.execs_nil ?_)))
  have s₂₃ : Sub [L] h₁ h₃ := s₂.trans s₃
  have s₀₃ : Sub [] h h₃ := ((s₀.trans s₁).lift s₂₃ (by simpa using hLn))
  have hi₃ : h₃.IsListIter I l 0 := by
    obtain ⟨o, e1, r1⟩ := hi₁
    exact ⟨o, s₂₃ I o (by simpa using hIL) e1, r1⟩
  have hF₃ := hF.of_keeps s₀₃.all
  have fae : fa (envAt 5 q cd L a :: outer) = L :: fa outer := rfl
  have dic : ∀ {h' : Heap}, Sub [] h h' → ∀ {lc : List (Str × Value)}, Loc h' L lc → Dicts h' (L :: fa outer) := fun s' lc hl' => ((hF.of_keeps s'.all).dicts).cons hl'
  have d₃ := dic s₀₃ hl₃
  have hSE : ∀ b ∈ L :: fa outer, hS.get? b = none := by
    intro b hb
    rcases List.mem_cons.mp hb with rfl | hb
    · exact hLS
    · exact hfS b hb
  have hIS : hS.get? I = none := B₀.fresh (by rw [hIe]; exact Nat.le_refl _)
  have hIμ : I ∉ L :: fa outer := d₃.out (hi₃.choose_spec.1) (fun _ _ q' => by rw [hi₃.choose_spec.2.2] at q'; cases q')
  have hlμ : l ∉ L :: fa outer := by
    obtain ⟨nn, e⟩ := ll.sub s₀₃ (by simp)
    exact d₃.out e (fun _ _ q' => nomatch q')
  refine Tr.execs_cons (Tr.for_e (EvV.run (EvV.name hl₃) ?_))
  refine Loop.listiter (μ := L :: fa outer) (vs := us) hh hi₃ (ll.sub s₀₃ (by simp)).isList
    (fun i h' => (∃ V, Loc h' L [("function", .ref f), ("value", .ref V)] ∧ IsRows h' V (histOf rs i)) ∧ Up h h') hIμ hlμ ?_ ⟨⟨V, hl₃.pick, hV.sub0 s₀₃⟩, Up.of_sub s₀₃⟩ ?_ ?_
  · rintro i g₁ g₂ ⟨⟨V', b1, b2⟩, b3⟩ sF
    exact ⟨⟨V', b1.subF sF, b2.subF sF⟩, b3.subF sF⟩
  · rintro i v h₄ hv ⟨⟨V', hl₄, hV₄⟩, u₄⟩ s₄
    have hi : i < us.length := (List.getElem?_eq_some_iff.mp hv).1
    have t₄ : Sub (L :: fa outer) h h₄ := by
      refine Sub.drop (a := I) ?_ hIh
      exact (s₀₃.mono (by simp)).trans s₄
    have hFd : Dicts h (L :: fa outer) := fun b m o e => by
      rcases List.mem_cons.mp m with rfl | m
      · rw [hLn] at e; cases e
      · exact hF.dicts b m o e
    refine Tr.tgt_name (Tr.putA hl₄ fun h₅ hl₅ s₅ => ?_)
    have t₅ : Sub (L :: fa outer) h h₅ := t₄.trans (s₅.one (by simp))
    have u₅ := u₄.lift s₅ (by simpa using hLn)
    have hV₅ : IsRows h₅ V' (histOf rs i) := hV₄.subD s₅ (Dicts.cons Dicts.nil hl₄)
    have B₅ : Base hS h₅ := B.step t₅ hSE
    have hL₅ := hL.subD t₅ hFd
    have hF₅ : Frames h₅ (envAt 5 q cd L a :: outer) := (hF.up u₅).cons (by show (scopeAt 5).kind ≠ .module; decide) rfl hl₅
    obtain ⟨hist, eh, hhl⟩ := histOf_last rs i
    rw [eh] at hV₅
    obtain ⟨qf, pmf, cf, ctf, hof, hcf⟩ := id hL₅
    refine Tr.execs_cons (Tr.assign_name (Tr.call_def (EvV.name hl₅) rfl (Tr.spl (EvV.run (EvV.name hl₅) (Tr.spl (EvV.run (EvV.name hl₅) (Tr.spl0 ⟨hof, ?_⟩)))))))
    refine Tr.mono (lam_spec S B₅ hL₅ hh (show A.depth + 1 + 3 < recursionLimit by omega) (show A.units + 3 + 13 < cLine by omega) (Around.frames_deeper hfr) hF₅ (fae ▸ hSE) (IsCell.subD hc t₅ hFd) (hr.subD t₅ hFd) hlen hrl hV₅ (csOf_len rs i) (by omega)) fun r h₆ z => ?_
    obtain ⟨w₆, V'', rfl, _, hV₆⟩ := z
    refine Tr.putA (hl₅.weak w₆) fun h₇ hl₇ s₇ => Tr.execs_nil ⟨?_, rfl, ⟨V'', hl₇.pick, ?_⟩, ?_⟩
    · exact (s₅.one (by simp)).trans ((w₆.sub.mono (by rw [fae]; exact fun _ m => m)).trans (s₇.one (by simp)))
    · rw [histOf_succ, eh]
      exact hV₆.subD s₇ (Dicts.cons Dicts.nil (hl₅.weak w₆))
    · exact (u₅.weak w₆).lift s₇ (by simpa using hLn)
  · rintro h' ⟨⟨V', hl', hV'⟩, u'⟩ s'
    refine Tr.execs_cons (Tr.retn (EvV.run (EvV.name hl') ⟨⟨?_, ?_⟩, V', rfl, hV'⟩))
    · refine Sub.drop (a := L) (Sub.drop (a := I) ?_ hIh) hLn
      exact (s₀₃.mono (by simp)).trans s'
    · exact u'
end
end Mine

/-! part G3 -/
namespace Mine
def IsFnC (h : Heap) (a : Addr) (i : Nat) (cd : Value) : Prop :=
  ∃ o nm q doc pm ct an, h.get? a = some o ∧ o.data = .func (fnAt i nm q .none doc pm cd ct an) ∧ h.CodeRec cd q
section
variable {prog : Program} {w : World} {A : Around} {env : Env} {h : Heap}

/-- a call, as code -/
def TrC (prog : Program) (w : World) (A : Around) (a : Addr) (vs : List Value) (h : Heap) (P : Value → Heap → Prop) : Prop :=
  ∀ (s : Shared) (R : Result → Shared → Prop), s.heap = h → (∀ v h' tk, P v h' → R (.ok (.ret v)) { s with heap := h', toks := tk }) → codeAny (model prog w) A (.call (.ref a) ⟨vs, []⟩) R s
theorem Tr.enter_c {i : Nat} {a : Addr} {cd : Value} {vs : List Value} {binds : List (Str × Value)} {P : Value → Heap → Prop} (hf : IsFnC h a i cd) (hroom : A.depth < recursionLimit) (hlim : h.NoLimit)
    (hbind : ∀ nm q doc pm ct an, bindArgs (fnAt i nm q .none doc pm cd ct an) ⟨vs, []⟩ = pure binds)
    (hkind : ∀ L, ∀ x ∈ binds, (scopeAt i).names.lookup x.1 = some .local ∨ ((scopeAt i).names.lookup x.1 = some .cell ∧ ((cellsFrom (L + 1) (scopeAt i).names []).lookup x.1).isSome = true))
    (k : ∀ q h₀, h₀.Ns h.objs.size (bindL (kinds i) binds fun _ => none) → (∀ n c, (cellsFrom (h.objs.size + 1) (scopeAt i).names []).lookup n = some c → h₀.IsCell c (bindC (kinds i) binds (fun _ => none) n)) → Sub [] h h₀ →
      Tr prog w (A.deeper (envAt i q cd h.objs.size a)) (execs (bodyAt i) (envAt i q cd h.objs.size a)) h₀ fun f h' => P (back f) h')
    (hco : (scopeAt i).isCoroutine = false := by rfl) (hgen : (scopeAt i).isGenerator = false := by rfl) (hk : (scopeAt i).kind = .function := by rfl) :
    TrC prog w A a vs h P := fun s R e hq => by
  subst e
  obtain ⟨o, nm, q, doc, pm, ct, an, ho, hd, hc⟩ := hf
  refine codeAny_call_cells (fd := fnAt i nm q .none doc pm cd ct an) (body := bodyAt i) (binds := binds) hroom ho hd hlim hc rfl (hbind _ _ _ _ _ _) rfl (hkind _) (fun s₁ x => ?_) hco hgen hk
  have x1 := x.toInCall.same
  obtain ⟨h₀, tk, rfl⟩ := x1
  refine wpAny_mono (k q h₀ x.toInCall.ns (fun n c hl => x.cell n c hl) (Sub.of_all x.toInCall.keep) _ _ (fun _ _ => False) rfl (fun f h' tk' p => ?_)) (fun f s' p => p) (fun _ _ p => p.elim)
  have := hq (back f) h' tk' p
  cases f <;> exact this

theorem Src.fresh {iter : Expr} {vs : List Value} (hh : A.handled = none) (x : Tr prog w A (eval iter env) h fun xv h₁ => ∃ l, xv = .ref l ∧ h.objs.size ≤ l ∧ Lst h₁ l vs ∧ Sub [] h h₁) : Src prog w A env iter h vs.length (fun i v => vs[i]? = some v) [] := by
  refine Tr.mono x fun xv h₁ z => ?_
  obtain ⟨l, rfl, hl, ll, s₁⟩ := z
  refine Tr.mono (SrcV.list (prog := prog) (w := w) (A := A) hh ll.isList) fun it h₂ y => ?_
  obtain ⟨I, fp, wr, St, e, W, hst, hfp, hwr, s₂, hsize, hfk, hfl, hown⟩ := y
  have hle : h.objs.size ≤ h₁.objs.size := Nat.le_trans hl (Nat.le_of_lt ll.lt)
  refine ⟨I, fp, wr, St, e, W, hst, hfp, fun b hb => ?_, s₁.trans s₂, Nat.le_trans hle hsize, fun b hb => .inr ?_, hfl, hown⟩
  · cases q : h.get? b with
    | none => rfl
    | some o => have := s₁.all _ _ q; rw [hwr b hb] at this; cases this
  · rcases hfk b hb with m | m
    · rw [List.mem_singleton.mp m]; exact hl
    · exact Nat.le_trans hle m

theorem Tr.slice_upto {value e0 : Expr} {p pos : Pos} {l : Addr} {vs : List Value} {k : Nat} {P : Value → Heap → Prop} (x : EvV prog w A env value h (.ref l)) (hl : h.IsList l vs.toArray) (hz : vs.length ≤ sizeLine) (y : EvI prog w A env e0 h ((k : Nat) : Int))
    (K : ∀ h', Lst h' (h.objs.size + 1) (vs.take k) → Sub [] h h' → P (.ref (h.objs.size + 1)) h')
    (ht : ∀ o r, letTemporaryGo value o r = pure () := by intro _ _; rfl) : Tr prog w A (eval (.Subscript value (.Slice none (some e0) none p) pos) env) h P := fun s Q E e hq => by
  refine wpAny_Subscript_Slice slot_list_getitem.lookup (x s _ E e fun v h₁ tk z => ?_) ht
  obtain ⟨rfl, rfl⟩ := z
  refine wpAny_Slice (evalPart_none_step (evalPart_some_step (y _ _ _ rfl fun u h₂ tk₂ z => evalPart_none_step ?_)))
  obtain ⟨⟨t, rfl⟩, rfl⟩ := z
  have hl' := IsList.sub hl (Sub.push (μ := []) { cls := .type "slice", data := .fields #[.none, .int ((k : Nat) : Int) t, .none] }) (by simp)
  refine ⟨hl'.typeIs, wpAny_getItem_list_slice hl' (Heap.IsSliceOf.new _ _ _ _) .none (.int _ _) .none (by nofun) (hq _ _ _ ?_) (by simpa using hz)⟩
  have hK := K (((h₂.push { cls := .type "slice", data := .fields #[.none, .int ((k : Nat) : Int) t, .none] })).push { cls := .type "list", data := .seq (slicePick vs.toArray none (some ((k : Nat) : Int)) none) }) ⟨0, ?_⟩ ((Sub.push _).trans (Sub.push _))
  · have : (h₂.push { cls := .type "slice", data := .fields #[.none, .int ((k : Nat) : Int) t, .none] }).objs.size = h₂.objs.size + 1 := Heap.size_push ..
    dsimp only
    rw [this]
    exact hK
  · have e1 : slicePick vs.toArray none (some ((k : Nat) : Int)) none = (vs.take k).toArray := slicePick_upto' _ _
    rw [e1]
    have := IsL.new (h₂.push { cls := .type "slice", data := .fields #[.none, .int ((k : Nat) : Int) t, .none] }) (vs.take k).toArray
    rwa [Heap.size_push] at this

theorem Tr.slice_from {value e0 : Expr} {p pos : Pos} {k : Nat} {P : Value → Heap → Prop}
    (x : Tr prog w A (eval value env) h fun v h₁ => ∃ l vs, v = .ref l ∧ Lst h₁ l vs ∧ vs.length ≤ sizeLine ∧ EvI prog w A env e0 h₁ ((k : Nat) : Int) ∧ ∀ h' D, h₁.objs.size ≤ D → Lst h' D (vs.drop k) → Sub [] h₁ h' → P (.ref D) h')
    : Tr prog w A (eval (.Subscript value (.Slice (some e0) none none p) pos) env) h P := Tr.sub_ (Tr.mono x fun v h₁ z s Q E e hq => by
  obtain ⟨l, vs, rfl, ll, hz, y, K⟩ := z
  subst e
  refine wpAny_Slice (evalPart_some_step (y _ _ _ rfl fun u h₂ tk₂ z => evalPart_none_step (evalPart_none_step ?_)))
  obtain ⟨⟨t, rfl⟩, rfl⟩ := z
  have hl' := IsList.sub ll.isList (Sub.push (μ := []) { cls := .type "slice", data := .fields #[.int ((k : Nat) : Int) t, .none, .none] }) (by simp)
  refine hq _ _ _ fun s' Q' E' e' hq' => ?_
  rw [← e'] at hl'
  refine tail_any (ops := [.ref s.heap.objs.size, .ref l]) hl'.typeIs slot_list_getitem.lookup ?_ (by with_unfolding_all rfl)
  have hsl := Heap.IsSliceOf.new s.heap (.int ((k : Nat) : Int) t) .none .none
  rw [← e'] at hsl
  refine wpAny_getItem_list_slice hl' hsl (.int _ _) .none .none (by nofun) (hq' _ _ s'.toks ?_) (by simpa using hz)
  rw [e']
  refine K _ _ (by dsimp only; rw [Heap.size_push]; exact Nat.le_succ _) ⟨0, ?_⟩ ((Sub.push _).trans (Sub.push _))
  have e1 : slicePick vs.toArray (some ((k : Nat) : Int)) none none = (vs.drop k).toArray := slicePick_from' _ _
  rw [e1]
  exact IsL.new _ (vs.drop k).toArray)

theorem Src.fresh_ints {iter : Expr} {ns : List Int} (hh : A.handled = none) (x : Tr prog w A (eval iter env) h fun xv h₁ => ∃ l vs, xv = .ref l ∧ h.objs.size ≤ l ∧ Lst h₁ l vs ∧ Ints vs ns ∧ Sub [] h h₁) : Src prog w A env iter h ns.length (fun i v => ∃ t, v = .int (ns.getD i 0) t) [] := by
  refine Tr.mono x fun xv h₁ z => ?_
  obtain ⟨l, vs, rfl, hl, ll, iv, s₁⟩ := z
  refine Tr.mono (SrcV.list (prog := prog) (w := w) (A := A) hh ll.isList) fun it h₂ y => ?_
  obtain ⟨I, fp, wr, St, e, W, hst, hfp, hwr, s₂, hsize, hfk, hfl, hown⟩ := y
  have hle : h.objs.size ≤ h₁.objs.size := Nat.le_trans hl (Nat.le_of_lt ll.lt)
  rw [iv.1] at W
  refine ⟨I, fp, wr, St, e, ⟨W.sub, W.frame, fun i s Q E hi st hQ => W.item i s Q E hi st fun v h' tk hp => hQ v h' tk (iv.getD hp), W.done, W.self⟩, hst, hfp, fun b hb => ?_, s₁.trans s₂, Nat.le_trans hle hsize, fun b hb => .inr ?_, hfl, hown⟩
  · cases q : h.get? b with
    | none => rfl
    | some o => have := s₁.all _ _ q; rw [hwr b hb] at this; cases this
  · rcases hfk b hb with m | m
    · rw [List.mem_singleton.mp m]; exact hl
    · exact Nat.le_trans hle m

theorem Tr.eq_rows {a b : Addr} {rs : List (List Int)} {P : Value → Heap → Prop} (x : IsRows h a rs) (y : IsRows h b rs) (hu : A.units + 2 < cLine) (p : P (.bool true) h) : Tr prog w A (compareOp .Eq (.ref a) (.ref b)) h P := fun s Q E e hq => by
  subst e
  obtain ⟨vs, lv, ev, kv⟩ := x
  obtain ⟨us, lu, eu, ku⟩ := y
  refine SeqAt.eq_listAt (e := fun _ => true) lv.isList lu.isList (by simp [ev, eu]) (by omega) (fun j h1 h2 => ?_) ?_
  · have hj : j < rs.length := by simpa [ev] using h1
    obtain ⟨v, e1, D1, w1, rfl, l1, i1⟩ := kv j rs[j] (by simp [hj])
    obtain ⟨u, e2, D2, w2, rfl, l2, i2⟩ := ku j rs[j] (by simp [hj])
    have h1' : j < vs.length := by simpa using h1
    have h2' : j < us.length := by simpa using h2
    have e1' : vs.toArray[j] = .ref D1 := by simpa [h1'] using e1
    have e2' : us.toArray[j] = .ref D2 := by simpa [h2'] using e2
    rw [e1', e2']
    by_cases hd : D1 = D2
    · subst hd; exact SeqAt.EqAt.same _
    · refine SeqAt.EqAt.of_refs hd ?_
      have := SeqAt.RcAt.lists (A := A.in1) (e := fun _ => true) l1.isList l2.isList (by simp [i1.1, i2.1]) (by show A.units + 1 < cLine; omega) (fun k g1 g2 => ?_)
      · have hall : (List.range w1.toArray.size).all (fun _ => true) = true := by rw [List.all_eq_true]; intros; rfl
        rw [hall] at this
        exact this
      · have g1' : k < w1.length := by simpa using g1
        have g2' : k < w2.length := by simpa using g2
        obtain ⟨t1, f1⟩ := i1.getD (i := k) (v := w1[k]) (by simp)
        obtain ⟨t2, f2⟩ := i2.getD (i := k) (v := w2[k]) (by simp)
        have f1' : w1.toArray[k] = .int (rs[j].getD k 0) t1 := by simpa using f1
        have f2' : w2.toArray[k] = .int (rs[j].getD k 0) t2 := by simpa using f2
        rw [f1', f2']
        have := SeqAt.EqAt.int_int (A := A.in1.in1) (s := s) (rs[j].getD k 0) t1 (rs[j].getD k 0) t2
        simpa using this
  · have : (List.range vs.toArray.size).all (fun _ => true) = true := by rw [List.all_eq_true]; intros; rfl
    rw [this]
    exact hq _ _ s.toks p

theorem Tr.lam {q : Str} {L a c P : Addr} {mg : Str → Option Value} {R : Value → Heap → Prop} (hg : h.Ns mainGlobals mg) (C : CodeHd h c P) (hP : h.get? P = some (tabObj #[])) (hgP : mainGlobals ≠ P) (hb : h.BuiltinsAt mg P)
    (k : ∀ h' f, h.objs.size ≤ f → IsLam h' f (L + 2) → GrownAt P h' → Sub [P] h h' → R (.ref f) h') : Tr prog w A (eval lamE (envAt 18 q (.ref c) L a)) h R := fun s Q E e hq => by
  subst e
  refine kla_eval (params := lamParams) (body := lamBody) (scope := lamScope) (pos := lamPos) rfl ?_
  refine kla_makeFunction (clos := [("passages", L + 2)]) (mg := mg) (c := c) (P := P) (ps := #[]) rfl rfl hg rfl C hP trivial rfl hgP hb fun c' ctv h' tk hx hge hlt hrec htb => ?_
  refine hq _ _ _ (k _ _ ?_ ⟨_, _, c', ctv, Heap.get?_push_size _ rfl, ?_⟩ ⟨_, Heap.get?_push_of_some _ htb⟩ ?_)
  · exact Nat.le_trans hge (Nat.le_of_lt hlt)
  · obtain ⟨c1, o1, vs, t, e1, e2, e3, e4⟩ := hrec
    exact ⟨c1, o1, vs, t, e1, Heap.get?_push_of_some _ e2, e3, e4⟩
  · exact (Sub.of_ext hx).trans (Sub.push _)
end
end Mine

/-! part G4 -/
namespace Mine

/-! the numbers drawn, the rows of passages -/
def drawnOf (ns : List Int) : List Int := (ns.take 5).map fun x => x.fmod 4000
def fullOf (ns : List Int) : List Int := drawnOf ns ++ ([895, 130, 13, 17, 0] : List Int).drop (drawnOf ns).length
def rowsOf (ns : List Int) : List (List Int) := (fullOf ns).map passOf
theorem drawnOf_len (ns : List Int) : (drawnOf ns).length ≤ 5 := by simp [drawnOf]; omega
theorem fullOf_len (ns : List Int) : (fullOf ns).length = 5 := by
  have := drawnOf_len ns
  simp [fullOf]; omega
theorem fullOf_in (ns : List Int) : ∀ x ∈ fullOf ns, 0 ≤ x ∧ x < 4000 := by
  intro x hx
  rcases List.mem_append.mp hx with hx | hx
  · obtain ⟨y, _, rfl⟩ := List.mem_map.mp hx
    exact ⟨Int.fmod_nonneg_of_pos _ (by decide), Int.fmod_lt_of_pos _ (by decide)⟩
  · have := List.mem_of_mem_drop hx
    simp only [List.mem_cons, List.not_mem_nil, or_false] at this
    omega
theorem rowsOf_len (ns : List Int) : (rowsOf ns).length = 5 := by simp [rowsOf, fullOf_len]
theorem rowsOf_short (ns : List Int) : ∀ r ∈ rowsOf ns, r.length ≤ 3 := by
  intro r hr
  obtain ⟨x, hx, rfl⟩ := List.mem_map.mp hr
  simp [passOf]; omega
theorem rowsOf_fig (ns : List Int) : ∀ r ∈ rowsOf ns, ∀ f ∈ r, 0 ≤ f ∧ f < 10 := by
  intro r hr f hf
  obtain ⟨x, hx, rfl⟩ := List.mem_map.mp hr
  obtain ⟨k, _, rfl⟩ := List.mem_map.mp hf
  exact ⟨Int.fmod_nonneg_of_pos _ (by decide), Int.fmod_lt_of_pos _ (by decide)⟩
theorem Ints.take {vs : List Value} {ns : List Int} (x : Ints vs ns) (k : Nat) : Ints (vs.take k) (ns.take k) := by
  refine ⟨by simp [x.1], fun i v n e1 e2 => ?_⟩
  rw [List.getElem?_take] at e1 e2
  split at e1 <;> simp_all
  exact x.2 i v n e1 e2
theorem Ints.drop {vs : List Value} {ns : List Int} (x : Ints vs ns) (k : Nat) : Ints (vs.drop k) (ns.drop k) := by
  refine ⟨by simp [x.1], fun i v n e1 e2 => ?_⟩
  rw [List.getElem?_drop] at e1 e2
  exact x.2 _ v n e1 e2
theorem Ints.append {vs us : List Value} {ns ms : List Int} (x : Ints vs ns) (y : Ints us ms) : Ints (vs ++ us) (ns ++ ms) := by
  refine ⟨by simp [x.1, y.1], fun i v n e1 e2 => ?_⟩
  by_cases hi : i < vs.length
  · rw [List.getElem?_append_left hi] at e1
    rw [List.getElem?_append_left (by rw [← x.1]; exact hi)] at e2
    exact x.2 i v n e1 e2
  · rw [List.getElem?_append_right (by omega)] at e1
    rw [List.getElem?_append_right (by rw [← x.1]; omega), ← x.1] at e2
    exact y.2 _ v n e1 e2
theorem grow_sub {μ : List Addr} {P : Addr} {h h' : Heap} (x : GrownAt P h) (s : Sub μ h h') (n : P ∉ μ) : GrownAt P h' := let ⟨ps, e⟩ := x; ⟨ps, s _ _ n e⟩
theorem IsRows.subC {c : Addr} {v : Option Value} {h h' : Heap} {a : Addr} {rs : List (List Int)} (x : IsRows h a rs) (s : Sub [c] h h') (y : h.IsCell c v) : IsRows h' a rs :=
  let ⟨vs, l, e, k⟩ := x; ⟨vs, l.sub s (by simpa using cell_ne_lst y l), e, fun i ns q => let ⟨u, e1, D, ws, e2, l2, i2⟩ := k i ns q; ⟨u, e1, D, ws, e2, l2.sub s (by simpa using cell_ne_lst y l2), i2⟩⟩
theorem IsRows.of_els {h : Heap} {D : Addr} {ys : List Value} {rs : List (List Int)} {n : Nat} (hn : n = rs.length) (l : Lst h D ys) (e : Els (fun i y h' => IntL h' y (rs.getD i [])) ((List.range n).filter fun _ => true) ys h) : IsRows h D rs := by
  subst hn
  rw [List.filter_eq_self.mpr (by simp)] at e
  have hl : ys.length = rs.length := by simpa using e.1
  refine ⟨ys, l, hl, fun i ns q => ?_⟩
  have hi : i < rs.length := (List.getElem?_eq_some_iff.mp q).1
  refine ⟨ys[i]'(by omega), by simp, ?_⟩
  have := e.2 i i (ys[i]'(by omega)) (by simp [hi]) (by simp)
  rw [getD_get (d := []) hi] at q
  cases q
  exact this

section
variable {prog : Program} {w : World} {A : Around} {h hS : Heap} {mg mb : Str → Option Value}

set_option maxHeartbeats 4000000 in
theorem law_spec {a c Pt sc r d T bm : Addr} {oT od ob : Obj} {dv : Value} {nT : Nat} {vs : List Value} {ns : List Int}
    (S : Stat hS mg mb) (B : Base hS h) (hf : IsFnC h a 18 (.ref c)) (hh : A.handled = none) (hd : A.depth + 5 < recursionLimit) (hu : A.units + 19 < cLine) (hfr : A.frames = some [])
    (mr : mg "reduce" = some (.ref r)) (fr : IsFnD hS r 5 (.ref T)) (hT : hS.get? T = some oT) (hTd : oT.data = .seq #[dv] nT) (md : mg "_initial_missing" = some (.ref d)) (hmd : hS.get? d = some od)
    (C : CodeHd hS c Pt) (hP : h.get? Pt = some (tabObj #[])) (hPS : hS.get? Pt = none)
    (b1 : mg "__builtins__" = some (.ref bm)) (b2 : bm ≠ builtinsNs) (b3 : hS.get? bm = some ob) (b4 : ob.cls = .type "module") (b5 : ob.dict = some builtinsNs) (b6 : ob.data = .plain)
    (hsc : h.IsList sc vs.toArray) (hi : Ints vs ns) (hz : vs.length ≤ 63)
    (plain : ∃ Inv, TurnInv (rowsOf ns) Inv ∧ ∀ M, Inv M [] → (∀ i < 5, M i i = 0) ∧ ∀ t ≤ 4, csOf (rowsOf ns) t = (List.range 5).map fun i => ((clsOf M (t : Nat) i : Nat) : Int)) :
    TrC prog w A a [.ref sc] h fun r h' => r = .bool true ∧ Base hS h' ∧ GrownAt Pt h' := by
  have hzL := szL
  obtain ⟨Inv, tI, hfin⟩ := plain
  refine Tr.enter_c hf (by omega) (S.nolimit.keeps B) (binds := [("script", .ref sc)]) (fun _ _ _ _ _ _ => rfl) ?_ ?_
  · intro L x hx
    simp only [List.mem_cons, List.not_mem_nil, or_false] at hx
    rcases hx with rfl; exact .inl rfl
  intro q h₀ hn hc s₀
  have hl : Loc h₀ h.objs.size [("script", .ref sc)] := Loc.of_ns hn (by
    intro p hp
    simp only [List.mem_cons, List.not_mem_nil, or_false] at hp
    rcases hp with rfl; rfl)
  have c1 : h₀.IsCell (h.objs.size + 1) none := hc "turns" _ rfl
  have c2 : h₀.IsCell (h.objs.size + 2) none := hc "passages" _ rfl
  have hSn : ∀ b, h.objs.size ≤ b → hS.get? b = none := fun b hb => B.fresh hb
  have hPL : Pt < h.objs.size := Heap.lt_size hP
  generalize hLe : h.objs.size = L at *
  have nL1 : L ≠ L + 1 := Nat.ne_of_lt (Nat.lt_succ_self _)
  have nL2 : L ≠ L + 2 := Nat.ne_of_lt (by omega)
  have n12 : L + 1 ≠ L + 2 := Nat.ne_of_lt (Nat.lt_succ_self _)
  have hPL' : @LT.lt Nat _ Pt L := hPL
  have pL : Pt ≠ L := Nat.ne_of_lt hPL'
  have pL1 : Pt ≠ L + 1 := Nat.ne_of_lt (Nat.lt_succ_of_lt hPL')
  have pL2 : Pt ≠ L + 2 := Nat.ne_of_lt (Nat.lt_succ_of_lt (Nat.lt_succ_of_lt hPL'))
  have sL : hS.get? L = none := hSn _ (Nat.le_refl _)
  have sL1 : hS.get? (L + 1) = none := hSn _ (Nat.le_succ _)
  have sL2 : hS.get? (L + 2) = none := hSn _ (by omega)
  have B₀ := B.step0 s₀
  -- drawn
  have htl : (ns.take 5).length = (vs.take 5).length := by simp [hi.1]
  refine Tr.execs_cons (Tr.assign_comp [] (fun _ => true) (fun i y _ => ∃ t, y = Value.int (((ns.take 5).getD i 0).fmod 4000) t) hl
    (Src.fresh (vs := vs.take 5) hh (Tr.slice_upto (k := 5) (EvV.name hl) (IsList.sub hsc s₀ (by simp)) (by omega) EvI.lit fun h' l' s' => ⟨_, rfl, Nat.le_succ _, l', s'⟩))
    (by simp; omega) (fun C i v h₁ _ _ _ _ _ => Tr.test_nil ⟨rfl, Sub.refl⟩) ?_ ?_)
  · intro K i v h₁ hi' hv _ hK hl₁ hs
    obtain ⟨tv, rfl⟩ := (hi.take 5).getD hv
    exact EvI.run (EvI.fmod (EvI.name hl₁) EvI.lit (by decide)) fun t => ⟨Sub.refl, Holds.const ⟨t, rfl⟩⟩
  intro D h₁ ys hD hl₁ s₁ hK
  change Sub [L] h₀ h₁ at s₁
  change Loc h₁ L _ at hl₁
  obtain ⟨lD, hE⟩ := hK.here
  have iD : Ints ys (drawnOf ns) := by
    have := hE.ints
    rw [List.filter_eq_self.mpr (by simp), ← htl, map_range_f (ns.take 5) 0 fun x => x.fmod 4000] at this
    exact this
  have dl := drawnOf_len ns
  have yl : ys.length ≤ 5 := by rw [iD.1]; exact dl
  have B₁ : Base hS h₁ := B₀.step s₁ (by simpa using sL)
  have c1₁ := IsCell.sub c1 s₁ (by simpa using nL1.symm)
  have c2₁ := IsCell.sub c2 s₁ (by simpa using nL2.symm)
  have t₁ : Sub [L] h h₁ := (s₀.mono (by simp)).trans s₁
  -- passages
  have fl := fullOf_len ns
  refine Tr.execs_cons (Tr.assign_name ?_)
  refine Tr.comp [] (fun _ => true) (fun i y h' => IntL h' y ((rowsOf ns).getD i []))
    (Src.fresh_ints (ns := fullOf ns) hh (Tr.binop (EvV.run (EvV.name hl₁) (Tr.slice_from (k := (drawnOf ns).length) (Tr.list_disp (Tr.spl (EvI.run EvI.lit fun u1 => Tr.spl (EvI.run EvI.lit fun u2 => Tr.spl (EvI.run EvI.lit fun u3 => Tr.spl (EvI.run EvI.lit fun u4 => Tr.spl (EvI.run EvI.lit fun u5 => Tr.spl0 (Tr.newlist (fun h₂ l₂ s₂ => ?_) (by simp [hzL])))))))))))))
    (by rw [fl]; omega) (fun C i v h₁ _ _ _ _ _ => Tr.test_nil ⟨rfl, Sub.refl⟩) ?_ ?_
  · refine ⟨_, _, rfl, l₂, by simp [hzL], ?_, fun h₃ D₃ hD₃ l₃ s₃ => ?_⟩
    · rw [← iD.1]
      exact EvI.len (EvV.blt S (B₁.step0 s₂) S.len) (EvV.name (hl₁.sub s₂ (by simp))) (lD.sub s₂ (by simp)) (by omega)
    · refine Tr.add_lists ((lD.sub s₂ (by simp)).sub s₃ (by simp)) l₃ (by simp; omega) fun h₄ l₄ s₄ => ⟨_, _, rfl, ?_, l₄, ?_, (s₂.trans s₃).trans s₄⟩
      · have h2 := l₂.lt
        have h3 := l₃.lt
        exact Nat.le_of_lt (Nat.lt_trans h2 (Nat.lt_of_le_of_lt hD₃ h3))
      · exact iD.append ((Ints.cons rfl (Ints.cons rfl (Ints.cons rfl (Ints.cons rfl (Ints.cons rfl Ints.nil))))).drop _)
  · intro K i v h₂ hi' hv _ hK hl₂ hs
    obtain ⟨tx, rfl⟩ := hv
    have hx : (fullOf ns).getD i 0 ∈ fullOf ns := List.mem_of_getElem? (getD_get hi')
    obtain ⟨x0, x1⟩ := fullOf_in ns _ hx
    have B₂ := B₁.step0 hs
    obtain ⟨a', ha', hf'⟩ := S.passages
    have hf₂ : IsFn h₂ a' 12 := IsFnD.sub hf' B₂
    obtain ⟨o, nm, q', doc, pm, cd', ct, an, ho, hdt, hcd⟩ := id hf₂
    refine Tr.call_def (EvV.global (S.g.keeps B₂) ha') hdt (Tr.spl (EvV.run (EvV.name hl₂) (Tr.spl0 ⟨ho, ?_⟩)))
    refine Tr.mono (passages_spec S B₂ hf₂ hh (show A.depth + 1 < recursionLimit by omega) x0 x1) fun r h₃ z => ⟨z.1, z.2.holds.mono fun h' y => ?_⟩
    obtain ⟨D', ws, e, _, i', l'⟩ := y
    refine ⟨D', ws, e, l', ?_⟩
    have : (rowsOf ns).getD i [] = passOf ((fullOf ns).getD i 0) := by
      have hi5 : i < (fullOf ns).length := hi'
      simp [rowsOf, List.getD, hi5]
    rw [this]; exact i'
  intro Dp h₂ zs hDp s₂ hK₂
  obtain ⟨lP, hE₂⟩ := hK₂.here
  have rP : IsRows h₂ Dp (rowsOf ns) := IsRows.of_els (by rw [fl, rowsOf_len]) lP hE₂
  have hl₂ := hl₁.sub s₂ (by simp)
  have c2₂ := IsCell.sub c2₁ s₂ (by simp)
  have c1₂ := IsCell.sub c1₁ s₂ (by simp)
  refine Tr.put_cell c2₂ rfl fun h₃ c2₃ s₃ => ?_
  have hl₃ := hl₂.sub s₃ (by simpa using nL2)
  have c1₃ := IsCell.sub c1₂ s₃ (by simpa using n12)
  have rP₃ := rP.subC s₃ c2₂
  have B₃ : Base hS h₃ := (B₁.step0 s₂).step s₃ (by simpa using sL2)
  have hP₃ : h₃.get? Pt = some (tabObj #[]) := s₃ _ _ (by simpa using pL2) (s₂ _ _ (by simp) (t₁ _ _ (by simpa using pL) hP))
  clear hK hK₂ hE hE₂
  -- history
  obtain ⟨o5, nm5, q5, doc5, pm5, cd5, ct5, an5, ho5, hdt5, hcd5⟩ := id fr
  have bA : h₃.BuiltinsAt mg Pt := by
    refine ⟨bm, ob, b1, b2, ?_, ?_, B₃ _ _ b3, b4, b5, b6⟩
    · intro q'
      obtain ⟨o, es, ep, e, hd, _⟩ := S.g
      rw [q', e] at b3; cases b3; rw [hd] at b6; cases b6
    · intro q'
      rw [q', hPS] at b3; cases b3
  have gP : mainGlobals ≠ Pt := fun q' => by
    obtain ⟨o, es, ep, e, hd, _⟩ := S.g
    rw [q', hPS] at e; cases e
  refine Tr.execs_cons (Tr.assign_name (Tr.call_def (EvV.glob S B₃ mr) hdt5 (Tr.spl (Tr.lam (S.g.keeps B₃) (C.keeps B₃) hP₃ gP bA fun h₄ f hf₄ lam₄ gr₄ s₄ => ?_))))
  refine Tr.spl (Tr.list_disp (Tr.spl (EvI.run EvI.lit fun u1 => Tr.spl (EvI.run EvI.lit fun u2 => Tr.spl (EvI.run EvI.lit fun u3 => Tr.spl (EvI.run EvI.lit fun u4 => Tr.spl0 (Tr.newlist (fun h₅ l₅ s₅ => ?_) (by simp [hzL]))))))))
  refine Tr.spl (Tr.list_disp (Tr.spl (Tr.list_disp (Tr.spl (EvI.run EvI.lit fun v1 => Tr.spl (EvI.run EvI.lit fun v2 => Tr.spl (EvI.run EvI.lit fun v3 => Tr.spl (EvI.run EvI.lit fun v4 => Tr.spl (EvI.run EvI.lit fun v5 => Tr.spl0 (Tr.newlist (fun h₆ l₆ s₆ => ?_) (by simp [hzL])))))))))))
  refine Tr.spl0 (Tr.newlist (fun h₇ l₇ s₇ => Tr.spl0 ⟨?_, ?_⟩) (by simp [hzL]))
  · exact s₇ _ _ (by simp) (s₆ _ _ (by simp) (s₅ _ _ (by simp) (s₄ _ _ (by simpa using fun q' => by rw [q', hPS] at ho5; cases ho5) (B₃ _ _ ho5))))
  have B₄ : Base hS h₄ := B₃.step s₄ (by simpa using hPS)
  have B₇ : Base hS h₇ := ((B₄.step0 s₅).step0 s₆).step0 s₇
  have s₄₇ : Sub [] h₄ h₇ := (s₅.trans s₆).trans s₇
  have dP : Dicts h₃ [Pt] → False := fun k => by
    obtain ⟨_, _, e⟩ := k Pt (by simp) _ hP₃; cases e
  have hl₄ := hl₃.sub s₄ (by simpa using pL.symm)
  have c1₄ := IsCell.sub c1₃ s₄ (by simpa using pL1.symm)
  have c2₄ := IsCell.sub c2₃ s₄ (by simpa using pL2.symm)
  have nPL : ∀ {b : Addr} {us : List Value}, Lst h₃ b us → b ∉ [Pt] := fun {b us} l m => by
    rw [List.mem_singleton.mp m] at l
    obtain ⟨n, e⟩ := l
    have e' : h₃.get? Pt = some _ := e
    rw [hP₃] at e'; cases e'
  have rP₄ : IsRows h₄ Dp (rowsOf ns) := by
    obtain ⟨vs', l', e', k'⟩ := rP₃
    exact ⟨vs', l'.sub s₄ (nPL l'), e', fun i ns' q' => let ⟨u, e1, D', ws, e2, l2, i2⟩ := k' i ns' q'; ⟨u, e1, D', ws, e2, l2.sub s₄ (nPL l2), i2⟩⟩
  have hl₇ := hl₄.sub s₄₇ (by simp)
  have c1₇ := IsCell.sub c1₄ s₄₇ (by simp)
  have c2₇ := IsCell.sub c2₄ s₄₇ (by simp)
  have rP₇ := rP₄.sub0 s₄₇
  have gr₇ := grow_sub gr₄ s₄₇ (by simp)
  have hV₇ : IsRows h₇ h₆.objs.size (histOf (rowsOf ns) 0) := by
    refine ⟨_, l₇, rfl, fun i ms q' => ?_⟩
    have hi0 : i = 0 := by
      have := (List.getElem?_eq_some_iff.mp q').1
      simp [histOf] at this; omega
    subst hi0
    have : ms = [0, 0, 0, 0, 0] := by simpa [histOf, csOf] using q'.symm
    subst this
    exact ⟨_, rfl, _, _, rfl, l₆.sub s₇ (by simp), Ints.cons rfl (Ints.cons rfl (Ints.cons rfl (Ints.cons rfl (Ints.cons rfl Ints.nil))))⟩
  have hVS : hS.get? h₆.objs.size = none := ((B₄.step0 s₅).step0 s₆).fresh (Nat.le_refl _)
  have envL : Frames h₇ [envAt 18 q (.ref c) L a] := Frames.cons (fun _ m => nomatch m) (by show (scopeAt 18).kind ≠ .module; decide) rfl hl₇
  refine Tr.mono (reduce_spec S B₇ fr hT hTd md hmd hVS (lam₄.subD s₄₇ Dicts.nil) hh (show A.depth + 1 + 4 < recursionLimit by omega) (show A.units + 3 + 16 < cLine by omega) (Around.frames_deeper hfr) envL ?_ c2₇ rP₇ (rowsOf_len ns) (rowsOf_short ns) ((l₅.sub s₆ (by simp)).sub s₇ (by simp)) (by simp) hV₇) fun r₈ h₈ z => ?_
  · intro b hb
    rw [List.mem_singleton.mp (show b ∈ [L] from hb)]; exact sL
  obtain ⟨w₈, V, rfl, hV₈⟩ := z
  change Weak [L] h₇ h₈ at w₈
  change IsRows h₈ V (histOf (rowsOf ns) 4) at hV₈
  have hl₈ := hl₇.weak w₈
  have dL₇ : Dicts h₇ [L] := Dicts.cons Dicts.nil hl₇
  have c1₈ := IsCell.weak c1₇ w₈
  have c2₈ := IsCell.weak c2₇ w₈
  have rP₈ := rP₇.subD w₈.sub dL₇
  have gr₈ := grow_sub gr₇ w₈.sub (by simpa using pL)
  have B₈ : Base hS h₈ := B₇.step w₈.sub (by simpa using sL)
  refine Tr.putA hl₈ fun h₉ hl₉ s₉ => ?_
  have dL₈ : Dicts h₈ [L] := Dicts.cons Dicts.nil hl₈
  have c1₉ := IsCell.sub c1₈ s₉ (by simpa using nL1.symm)
  have c2₉ := IsCell.sub c2₈ s₉ (by simpa using nL2.symm)
  have rP₉ := rP₈.subD s₉ dL₈
  have hV₉ := hV₈.subD s₉ dL₈
  have gr₉ := grow_sub gr₈ s₉ (by simpa using pL)
  have B₉ : Base hS h₉ := B₈.step s₉ (by simpa using sL)
  -- turns
  obtain ⟨a6, ha6, hf6⟩ := S.turns
  have hf₉ : IsFn h₉ a6 16 := IsFnD.sub hf6 B₉
  obtain ⟨o, nm, q', doc, pm, cd', ct, an, ho, hdt, hcd⟩ := id hf₉
  refine Tr.execs_cons (Tr.assign_name (Tr.call_def (EvV.glob S B₉ ha6) hdt (Tr.spl (EvV.run (EvV.cell c2₉ rfl) (Tr.spl0 ⟨ho, ?_⟩)))))
  refine Tr.mono (turns_spec S B₉ hf₉ hh (show A.depth + 1 + 3 < recursionLimit by omega) (show A.units + 3 + 12 < cLine by omega) tI rP₉ (rowsOf_len ns) (rowsOf_short ns)) fun r₁ h₁₀ z => ?_
  obtain ⟨s₁₀, Tt, trows, M, rfl, tab, hInv⟩ := z
  obtain ⟨hMd, hcs⟩ := hfin M hInv
  refine Tr.put_cell (IsCell.sub c1₉ s₁₀ (by simp)) rfl fun g c1g sg => ?_
  have c1₁₀ := IsCell.sub c1₉ s₁₀ (by simp)
  have hlg := (hl₉.sub s₁₀ (by simp)).sub sg (by simpa using nL1)
  have hVg := (hV₉.sub0 s₁₀).subC sg c1₁₀
  have grg := grow_sub (grow_sub gr₉ s₁₀ (by simp)) sg (by simpa using pL1)
  have Bg : Base hS g := (B₉.step0 s₁₀).step sg (by simpa using sL1)
  have tabg : Tab g Tt trows M := tab.subCell sg c1₁₀
  -- the answer
  refine Tr.execs_cons (Tr.retn (Tr.eval_cmp (EvV.run (EvV.name hlg) ?_)))
  refine Tr.comp [("turns", L + 1)] (fun _ => true) (fun i y h' => IntL h' y ((histOf (rowsOf ns) 4).getD i []))
    (Src.range (n := 5) hh (EvV.blt S Bg S.range) EvI.lit (by omega)) (by omega) (fun C i v h₁ _ _ _ _ _ => Tr.test_nil ⟨rfl, Sub.refl⟩) ?_ ?_
  · intro K i v g₂ hi' hv _ hK hl₂ hs
    obtain ⟨tx, rfl⟩ := hv
    have B₂ := Bg.step0 hs
    obtain ⟨a', ha', hf'⟩ := S.classes
    have hf₂ : IsFn g₂ a' 17 := IsFnD.sub hf' B₂
    obtain ⟨o, nm, q', doc, pm, cd', ct, an, ho, hdt, hcd⟩ := id hf₂
    refine Tr.call_def (EvV.global (S.g.keeps B₂) ha') hdt (Tr.spl (EvV.run (EvV.cell (IsCell.sub c1g hs (by simp)) rfl) (Tr.spl (EvV.run (EvV.name hl₂) (Tr.spl0 ⟨ho, ?_⟩)))))
    refine Tr.mono (classes_spec S B₂ hf₂ hh (show A.depth + 1 < recursionLimit by omega) (tabg.sub0 hs) hMd) fun r h₃ z => ⟨z.1, z.2.holds.mono fun h' y => ?_⟩
    obtain ⟨D', ws, e, _, i', l'⟩ := y
    refine ⟨D', ws, e, l', ?_⟩
    have e5 : (histOf (rowsOf ns) 4).getD i [] = csOf (rowsOf ns) i := by
      simp [histOf, List.getD, hi']
    rw [e5, hcs i (by omega)]
    exact i'
  intro Dh g₂ zs hDh s₂' hK
  obtain ⟨lH, hEH⟩ := hK.here
  have rH : IsRows g₂ Dh (histOf (rowsOf ns) 4) := IsRows.of_els (by simp [histOf]) lH hEH
  refine Tr.eq_rows (hVg.sub0 s₂') rH (show A.units + 3 + 2 < cLine by omega) ⟨rfl, Bg.step0 s₂', grow_sub grg s₂' (by simp)⟩
end
end Mine

/-! part P1 -/
namespace Mine
def kd (f : Int) : Int := f.fdiv 5
def rm (f : Int) : Nat := (f.fmod 5).toNat
theorem rm_lt (f : Int) : rm f < 5 := by
  have h0 : 0 ≤ f.fmod 5 := Int.fmod_nonneg_of_pos _ (by decide)
  have h1 : f.fmod 5 < 5 := Int.fmod_lt_of_pos _ (by decide)
  unfold rm; omega
theorem fig_eq (f : Int) : f = 5 * kd f + (rm f : Int) := by
  have h0 : 0 ≤ f.fmod 5 := Int.fmod_nonneg_of_pos _ (by decide)
  have := Int.mul_fdiv_add_fmod f 5
  unfold kd rm; omega
theorem kd_of (k g : Nat) (hg : g < 5) : kd ((5 * k + g : Nat) : Int) = (k : Int) := by
  unfold kd
  rw [Int.fdiv_eq_ediv_of_nonneg _ (by decide)]; omega
theorem rm_of (k g : Nat) (hg : g < 5) : rm ((5 * k + g : Nat) : Int) = g := by
  unfold rm
  rw [Int.fmod_eq_emod_of_nonneg _ (by decide)]; omega
/-- one goes from p where the other can't follow from q -/
def half (rs : List (List Int)) (D : Nat → Nat → Prop) (p q : Nat) : Prop := ∃ f ∈ rs.getD p [], ∀ g ∈ rs.getD q [], kd g = kd f → D (rm f) (rm g)
/-- parted by turn n -/
def dist (rs : List (List Int)) : Nat → Nat → Nat → Prop
  | 0, _, _ => False
  | n + 1, p, q => half rs (dist rs n) p q ∨ half rs (dist rs n) q p
theorem half_mono {rs : List (List Int)} {D D' : Nat → Nat → Prop} (h : ∀ p q, D p q → D' p q) {p q : Nat} (x : half rs D p q) : half rs D' p q :=
  let ⟨f, m, k⟩ := x; ⟨f, m, fun g hg e => h _ _ (k g hg e)⟩
theorem dist_symm {rs : List (List Int)} : ∀ {n p q}, dist rs n p q → dist rs n q p
  | n + 1, p, q, h => Or.symm h
theorem dist_step {rs : List (List Int)} : ∀ {n p q}, dist rs n p q → dist rs (n + 1) p q
  | n + 1, p, q, h => Or.imp (half_mono fun _ _ => dist_step) (half_mono fun _ _ => dist_step) h
theorem dist_mono {rs : List (List Int)} {n m p q : Nat} (l : n ≤ m) (h : dist rs n p q) : dist rs m p q := by
  induction l with
  | refl => exact h
  | step _ ih => exact dist_step ih
theorem dist_irr {rs : List (List Int)} : ∀ {n p}, ¬ dist rs n p p
  | 0, p, h => h
  | n + 1, p, h => by
    have : half rs (dist rs n) p p := h.elim id id
    obtain ⟨f, m, k⟩ := this
    exact dist_irr (k f m rfl)

theorem key_inj {t t' : Int} {a b a' b' : Nat} (h : ([t, (a : Int), (b : Int)] : List Int) = [t', (a' : Int), (b' : Int)]) : t = t' ∧ a = a' ∧ b = b' := by
  injection h with h1 h2
  injection h2 with h2 h3
  injection h3 with h3 _
  exact ⟨h1, Int.ofNat.inj h2, Int.ofNat.inj h3⟩

structure PInv (rs : List (List Int)) (M : Nat → Nat → Int) (ks : List (List Int)) : Prop where
  form : ∀ k ∈ ks, ∃ (t : Int) (a b : Nat), 1 ≤ t ∧ a < 5 ∧ b < 5 ∧ k = [t, (a : Int), (b : Int)]
  nn : ∀ p q, 0 ≤ M p q
  sym : ∀ p q, M p q = M q p
  snd : ∀ p q, M p q ≠ 0 → dist rs (M p q).toNat p q ∧ ¬ dist rs ((M p q).toNat - 1) p q
  key : ∀ (t : Int) (a b : Nat), [t, (a : Int), (b : Int)] ∈ ks → dist rs t.toNat a b
  bnd : ∀ (t : Int) (a b : Nat), [t, (a : Int), (b : Int)] ∈ ks → ∀ p q, M p q ≤ t
  rdy : ∀ (p q T : Nat) (f : Int), p < 5 → q < 5 → f ∈ rs.getD p [] → (∀ g ∈ rs.getD q [], kd g = kd f → M (rm f) (rm g) ≠ 0 ∧ M (rm f) (rm g) ≤ (T : Int)) →
    (M p q ≠ 0 ∧ M p q ≤ (T : Int) + 1) ∨ ∃ t : Int, t ≤ (T : Int) + 1 ∧ [t, (p : Int), (q : Int)] ∈ ks

theorem PInv.comp {rs : List (List Int)} {M : Nat → Nat → Int} {ks : List (List Int)} (I : PInv rs M ks) {t₀ : Int} (hmin : ∀ (t : Int) (a b : Nat), [t, (a : Int), (b : Int)] ∈ ks → t₀ ≤ t) :
    ∀ n : Nat, (n : Int) < t₀ → ∀ p q, p < 5 → q < 5 → dist rs n p q → M p q ≠ 0 ∧ M p q ≤ (n : Int)
  | 0, _, p, q, _, _, h => h.elim
  | n + 1, hn, p, q, hp, hq, h => by
    have one : ∀ p q, p < 5 → q < 5 → half rs (dist rs n) p q → M p q ≠ 0 ∧ M p q ≤ ((n + 1 : Nat) : Int) := by
      rintro p q hp hq ⟨f, m, k⟩
      rcases I.rdy p q n f hp hq m (fun g hg e => I.comp hmin n (by omega) _ _ (rm_lt f) (rm_lt g) (k g hg e)) with h | ⟨t, ht, hk⟩
      · exact ⟨h.1, by have := h.2; omega⟩
      · have := hmin _ _ _ hk; omega
    rcases h with h | h
    · exact one p q hp hq h
    · rw [I.sym p q]; exact one q p hq hp h

theorem lex_le {t t' : Int} {xs ys : List Int} (h : lexLt (t' :: xs) (t :: ys) = false) : t ≤ t' := by
  simp only [lexLt] at h
  split at h
  · omega
  · have := of_decide_eq_false h; omega

theorem mem_with {rs : List (List Int)} {f : Int} {i : Nat} : i ∈ withOf rs f ↔ i < 5 ∧ f ∈ rs.getD i [] := by
  simp [withOf]
theorem ways_nil {rs : List (List Int)} {M : Nat → Nat → Int} {k g q : Nat} : (waysOf rs M k g q).length = 0 ↔ ∀ f ∈ rs.getD q [], kd f = (k : Int) → M g (rm f) ≠ 0 := by
  rw [List.length_eq_zero_iff]
  unfold waysOf
  rw [List.filter_eq_nil_iff]
  simp only [Bool.and_eq_true, beq_iff_eq, not_and, kd, rm, ne_eq]
theorem lacks_iff {rs : List (List Int)} {a b : Nat} : lacks rs a b = true ↔ ∃ f ∈ rs.getD a [], ∀ g ∈ rs.getD b [], kd g ≠ kd f := by
  constructor
  · intro h
    have h' : (rs.getD a []).filter (fun f => !(kindsOf rs b).contains (f.fdiv 5)) ≠ [] := by
      intro e; unfold lacks at h; rw [e] at h; simp at h
    obtain ⟨f, m⟩ := List.exists_mem_of_ne_nil _ h'
    obtain ⟨m1, m2⟩ := List.mem_filter.mp m
    refine ⟨f, m1, fun g hg e => ?_⟩
    have : (kindsOf rs b).contains (f.fdiv 5) = true := by
      rw [List.contains_iff_mem]
      exact List.mem_map.mpr ⟨g, hg, e⟩
    rw [this] at m2; simp at m2
  · rintro ⟨f, m, h⟩
    have hm : f ∈ (rs.getD a []).filter (fun f => !(kindsOf rs b).contains (f.fdiv 5)) := by
      refine List.mem_filter.mpr ⟨m, ?_⟩
      cases hc : (kindsOf rs b).contains (f.fdiv 5) with
      | false => rfl
      | true =>
        rw [List.contains_iff_mem] at hc
        obtain ⟨g, hg, e⟩ := List.mem_map.mp hc
        exact absurd e (h g hg)
    unfold lacks
    have := List.length_pos_of_mem hm
    simp only [bne_iff_ne, ne_eq]
    omega

theorem pinv_init {rs : List (List Int)} (ks : List (List Int)) (hk : ∀ k, k ∈ ks ↔ ∃ a b : Nat, a < 5 ∧ b < 5 ∧ k = [1, (a : Int), (b : Int)] ∧ lacks rs a b = true) : PInv rs (fun _ _ => 0) ks where
  form := fun k m => let ⟨a, b, ha, hb, e, _⟩ := (hk k).mp m; ⟨1, a, b, by omega, ha, hb, e⟩
  nn := fun _ _ => Int.le_refl _
  sym := fun _ _ => rfl
  snd := fun _ _ h => absurd rfl h
  key := fun t a b m => by
    obtain ⟨a', b', _, _, e, l⟩ := (hk _).mp m
    obtain ⟨rfl, rfl, rfl⟩ := key_inj e
    obtain ⟨f, hf, h⟩ := lacks_iff.mp l
    exact .inl ⟨f, hf, fun g hg e => absurd e (h g hg)⟩
  bnd := fun t a b m _ _ => by
    obtain ⟨a', b', _, _, e, l⟩ := (hk _).mp m
    obtain ⟨rfl, rfl, rfl⟩ := key_inj e
    show (0 : Int) ≤ 1; decide
  rdy := fun p q T f hp hq hf h => .inr ⟨1, by omega, (hk _).mpr ⟨p, q, hp, hq, rfl, lacks_iff.mpr ⟨f, hf, fun g hg e => absurd rfl (h g hg e).1⟩⟩⟩

theorem pinv_skip {rs : List (List Int)} {M : Nat → Nat → Int} {ks ks' : List (List Int)} {t : Int} {a b : Nat} (I : PInv rs M ks) (hp : ks.Perm ([t, (a : Int), (b : Int)] :: ks')) (h0 : M a b ≠ 0) : PInv rs M ks' := by
  have sub : ∀ k ∈ ks', k ∈ ks := fun k m => hp.mem_iff.mpr (.tail _ m)
  have top : [t, (a : Int), (b : Int)] ∈ ks := hp.mem_iff.mpr (.head _)
  exact {
    form := fun k m => I.form k (sub k m)
    nn := I.nn
    sym := I.sym
    snd := I.snd
    key := fun t a b m => I.key t a b (sub _ m)
    bnd := fun t a b m => I.bnd t a b (sub _ m)
    rdy := fun p q T f hp' hq hf h => by
      rcases I.rdy p q T f hp' hq hf h with h | ⟨t', ht, m⟩
      · exact .inl h
      · rcases List.mem_cons.mp (hp.mem_iff.mp m) with e | m
        · obtain ⟨rfl, rfl, rfl⟩ := key_inj e
          exact .inl ⟨h0, Int.le_trans (I.bnd _ _ _ top _ _) ht⟩
        · exact .inr ⟨t', ht, m⟩ }

theorem put_cases (M : Nat → Nat → Int) (a b : Nat) (t : Int) (p q : Nat) : (((p = a ∧ q = b) ∨ (p = b ∧ q = a)) ∧ put M a b t p q = t) ∨ (¬ ((p = a ∧ q = b) ∨ (p = b ∧ q = a)) ∧ put M a b t p q = M p q) := by
  by_cases h1 : p = a ∧ q = b
  · obtain ⟨rfl, rfl⟩ := h1; exact .inl ⟨.inl ⟨rfl, rfl⟩, put_l⟩
  · by_cases h2 : p = b ∧ q = a
    · obtain ⟨rfl, rfl⟩ := h2; exact .inl ⟨.inr ⟨rfl, rfl⟩, put_r⟩
    · exact .inr ⟨fun h => h.elim h1 h2, put_ne h1 h2⟩

theorem mem_four {k g e a b : Nat} : (k, g, e) ∈ four a b ↔ (k = 0 ∨ k = 1) ∧ ((g = a ∧ e = b) ∨ (g = b ∧ e = a)) := by
  simp only [four, List.mem_cons, Prod.mk.injEq, List.not_mem_nil, or_false]
  constructor
  · rintro (⟨rfl, rfl, rfl⟩ | ⟨rfl, rfl, rfl⟩ | ⟨rfl, rfl, rfl⟩ | ⟨rfl, rfl, rfl⟩) <;> simp
  · rintro ⟨rfl | rfl, ⟨rfl, rfl⟩ | ⟨rfl, rfl⟩⟩ <;> simp

theorem pinv_set {rs : List (List Int)} (hfig : ∀ r ∈ rs, ∀ f ∈ r, 0 ≤ f ∧ f < 10) {M : Nat → Nat → Int} {ks ks' ks'' : List (List Int)} {t : Int} {a b : Nat} (I : PInv rs M ks) (hp : ks.Perm ([t, (a : Int), (b : Int)] :: ks'))
    (hmin : ∀ k₂ ∈ ks', lexLt k₂ [t, (a : Int), (b : Int)] = false) (ha : a < 5) (hb : b < 5) (h0 : M a b = 0) (hk : ∀ k, k ∈ ks'' ↔ k ∈ ks' ∨ Pushed rs (put M a b t) t a b k) : PInv rs (put M a b t) ks'' := by
  have sub : ∀ k ∈ ks', k ∈ ks := fun k m => hp.mem_iff.mpr (.tail _ m)
  have top : [t, (a : Int), (b : Int)] ∈ ks := hp.mem_iff.mpr (.head _)
  obtain ⟨t1, a1, b1, ht1, _, _, e1⟩ := I.form _ top
  obtain ⟨rfl, rfl, rfl⟩ := key_inj e1
  have hmin' : ∀ (t' : Int) (a' b' : Nat), [t', (a' : Int), (b' : Int)] ∈ ks → t ≤ t' := fun t' a' b' m => by
    rcases List.mem_cons.mp (hp.mem_iff.mp m) with e | m
    · obtain ⟨rfl, _, _⟩ := key_inj e; exact Int.le_refl _
    · exact lex_le (hmin _ m)
  have hb0 : M b a = 0 := by rw [I.sym]; exact h0
  have dt : dist rs t.toNat a b := I.key _ _ _ top
  have ndt : ¬ dist rs (t.toNat - 1) a b := fun h => by
    have := I.comp hmin' (t.toNat - 1) (by omega) a b ha hb h
    exact this.1 h0
  have le_t : ∀ p q, put M a b t p q ≤ t := fun p q => by
    rcases put_cases M a b t p q with ⟨_, e⟩ | ⟨_, e⟩
    · rw [e]; exact Int.le_refl _
    · rw [e]; exact I.bnd _ _ _ top p q
  have snd : ∀ p q, put M a b t p q ≠ 0 → dist rs (put M a b t p q).toNat p q ∧ ¬ dist rs ((put M a b t p q).toNat - 1) p q := fun p q h => by
    rcases put_cases M a b t p q with ⟨c, e⟩ | ⟨_, e⟩
    · rw [e]
      rcases c with ⟨rfl, rfl⟩ | ⟨rfl, rfl⟩
      · exact ⟨dt, ndt⟩
      · exact ⟨dist_symm dt, fun h => ndt (dist_symm h)⟩
    · rw [e] at h ⊢; exact I.snd p q h
  have old : ∀ k ∈ ks', k ∈ ks'' := fun k m => (hk k).mpr (.inl m)
  have nn : ∀ p q, 0 ≤ put M a b t p q := fun p q => by
    rcases put_cases M a b t p q with ⟨_, e⟩ | ⟨_, e⟩
    · rw [e]; omega
    · rw [e]; exact I.nn p q
  refine ⟨fun k m => ?_, nn, fun p q => ?_, snd, fun t' a' b' m => ?_, fun t' a' b' m p q => ?_, fun p q T f hp' hq hf h => ?_⟩
  · rcases (hk k).mp m with m | ⟨kind, goal, e, mv, fl, m4, w1, w2, _, _, rfl⟩
    · exact I.form k (sub k m)
    · exact ⟨t + 1, mv, fl, by omega, (mem_with.mp w1).1, (mem_with.mp w2).1, rfl⟩
  · rcases put_cases M a b t p q with ⟨c, e⟩ | ⟨c, e⟩ <;> rcases put_cases M a b t q p with ⟨c', e'⟩ | ⟨c', e'⟩
    · rw [e, e']
    · exact absurd (c.elim (fun x => .inr ⟨x.2, x.1⟩) fun x => .inl ⟨x.2, x.1⟩) c'
    · exact absurd (c'.elim (fun x => .inr ⟨x.2, x.1⟩) fun x => .inl ⟨x.2, x.1⟩) c
    · rw [e, e']; exact I.sym p q
  · rcases (hk _).mp m with m | ⟨kind, goal, e, mv, fl, m4, w1, w2, wn, _, ek⟩
    · exact I.key t' a' b' (sub _ m)
    · obtain ⟨rfl, rfl, rfl⟩ := key_inj ek
      have hg5 : goal < 5 := by
        obtain ⟨_, c⟩ := mem_four.mp m4
        rcases c with ⟨rfl, _⟩ | ⟨rfl, _⟩ <;> assumption
      have e1 : (t + 1).toNat = t.toNat + 1 := by omega
      rw [e1]
      refine .inl ⟨_, (mem_with.mp w1).2, fun g hg ek => ?_⟩
      rw [kd_of _ _ hg5] at ek
      rw [rm_of _ _ hg5]
      have hne := ways_nil.mp wn g hg ek
      refine dist_mono ?_ (snd _ _ hne).1
      have := le_t goal (rm g)
      have := nn goal (rm g)
      omega
  · rcases (hk _).mp m with m | ⟨kind, goal, e, mv, fl, m4, w1, w2, wn, _, ek⟩
    · exact Int.le_trans (le_t p q) (hmin' _ _ _ (sub _ m))
    · obtain ⟨rfl, rfl, rfl⟩ := key_inj ek
      have := le_t p q
      omega
  · by_cases hold : ∀ g ∈ rs.getD q [], kd g = kd f → M (rm f) (rm g) ≠ 0
    · have hM : ∀ g ∈ rs.getD q [], kd g = kd f → M (rm f) (rm g) ≠ 0 ∧ M (rm f) (rm g) ≤ (T : Int) := fun g hg e => by
        refine ⟨hold g hg e, ?_⟩
        have := (h g hg e).2
        rcases put_cases M a b t (rm f) (rm g) with ⟨c, e'⟩ | ⟨c, e'⟩
        · exfalso
          rcases c with ⟨x, y⟩ | ⟨x, y⟩
          · exact hold g hg e (by rw [x, y]; exact h0)
          · exact hold g hg e (by rw [x, y]; exact hb0)
        · rw [← e']; exact this
      rcases I.rdy p q T f hp' hq hf hM with h' | ⟨t', ht', m⟩
      · rcases put_cases M a b t p q with ⟨c, e'⟩ | ⟨c, e'⟩
        · exfalso
          rcases c with ⟨rfl, rfl⟩ | ⟨rfl, rfl⟩
          · exact h'.1 h0
          · exact h'.1 hb0
        · rw [e']; exact .inl h'
      · rcases List.mem_cons.mp (hp.mem_iff.mp m) with e | m
        · obtain ⟨rfl, rfl, rfl⟩ := key_inj e
          exact .inl ⟨by rw [put_l]; omega, by rw [put_l]; exact ht'⟩
        · exact .inr ⟨t', ht', old _ m⟩
    · obtain ⟨g, hg, ek, hz'⟩ : ∃ g, g ∈ rs.getD q [] ∧ kd g = kd f ∧ M (rm f) (rm g) = 0 := Classical.byContradiction fun hn => hold fun g hg e hz => hn ⟨g, hg, e, hz⟩
      obtain ⟨hne, hT⟩ := h g hg ek
      rcases put_cases M a b t (rm f) (rm g) with ⟨c, e'⟩ | ⟨c, e'⟩
      · rw [e'] at hT
        by_cases hpq : put M a b t p q = 0
        · refine .inr ⟨t + 1, by omega, (hk _).mpr (.inr ?_)⟩
          have hrow : ∀ {i : Nat} {x : Int}, x ∈ rs.getD i [] → 0 ≤ x ∧ x < 10 := fun {i x} m => by
            by_cases hi : i < rs.length
            · exact hfig _ (List.mem_of_getElem? (getD_get (d := []) hi)) x m
            · have : rs.getD i [] = [] := by simp [List.getD, List.getElem?_eq_none (Nat.le_of_not_lt hi)]
              rw [this] at m; simp at m
          have hf10 := hrow hf
          have ef := fig_eq f
          have eg := fig_eq g
          have rf := rm_lt f
          have rg := rm_lt g
          have k01 : (kd f).toNat = 0 ∨ (kd f).toNat = 1 := by omega
          have kn : kd f = ((kd f).toNat : Int) := by omega
          refine ⟨(kd f).toNat, rm f, rm g, p, q, mem_four.mpr ⟨k01, c⟩, mem_with.mpr ⟨hp', ?_⟩, mem_with.mpr ⟨hq, ?_⟩, ways_nil.mpr fun g' hg' e2 => ?_, hpq, rfl⟩
          · have : ((5 * (kd f).toNat + rm f : Nat) : Int) = f := by omega
            rw [this]; exact hf
          · have : ((5 * (kd f).toNat + rm g : Nat) : Int) = g := by omega
            rw [this]; exact hg
          · exact (h g' hg' (by rw [e2, ← kn])).1
        · exact .inl ⟨hpq, by have := le_t p q; omega⟩
      · rw [e'] at hne; exact absurd hz' hne

theorem turnInv {rs : List (List Int)} (hfig : ∀ r ∈ rs, ∀ f ∈ r, 0 ≤ f ∧ f < 10) : TurnInv rs (PInv rs) where
  init := fun ks hk => pinv_init ks hk
  form := fun M ks I => I.form
  skip := fun M ks ks' t a b I hp _ _ _ h0 => pinv_skip I hp h0
  set := fun M ks ks' ks'' t a b I hp hmin ha hb h0 hk => pinv_set hfig I hp hmin ha hb h0 hk

theorem PInv.fin {rs : List (List Int)} {M : Nat → Nat → Int} (I : PInv rs M []) {n p q : Nat} (hp : p < 5) (hq : q < 5) : dist rs n p q ↔ M p q ≠ 0 ∧ M p q ≤ (n : Int) := by
  constructor
  · intro h
    exact I.comp (t₀ := (n : Int) + 1) (fun _ _ _ m => nomatch m) n (by omega) p q hp hq h
  · rintro ⟨h1, h2⟩
    have := I.nn p q
    exact dist_mono (by omega) (I.snd p q h1).1
theorem PInv.diag {rs : List (List Int)} {M : Nat → Nat → Int} (I : PInv rs M []) (i : Nat) : M i i = 0 := by
  apply Classical.byContradiction
  intro h
  exact dist_irr (I.snd i i h).1
end Mine

/-! part P2 -/
namespace Mine
/-- the classes by turn n are those that dist n leaves together; each is named by its first room -/
structure Cls (rs : List (List Int)) (n : Nat) : Prop where
  least : ∀ i < 5, ∃ m : Nat, (csOf rs n).getD i 0 = (m : Int) ∧ m ≤ i ∧ ¬ dist rs n i m ∧ ∀ j < m, dist rs n i j
  trans : ∀ i j k, i < 5 → j < 5 → k < 5 → ¬ dist rs n i j → ¬ dist rs n j k → ¬ dist rs n i k
theorem Cls.same {rs : List (List Int)} {n : Nat} (C : Cls rs n) {i j : Nat} (hi : i < 5) (hj : j < 5) : (csOf rs n).getD i 0 = (csOf rs n).getD j 0 ↔ ¬ dist rs n i j := by
  obtain ⟨a, ea, la, na, ka⟩ := C.least i hi
  obtain ⟨b, eb, lb, nb, kb⟩ := C.least j hj
  have ha : a < 5 := by omega
  have hb : b < 5 := by omega
  rw [ea, eb]
  constructor
  · intro e
    have e' : a = b := by omega
    subst e'
    exact C.trans i a j hi ha hj na fun h => nb (dist_symm h)
  · intro h
    have h1 : ¬ dist rs n j a := C.trans j i a hj hi ha (fun h' => h (dist_symm h')) na
    have h2 : ¬ dist rs n i b := C.trans i j b hi hj hb h nb
    have l1 : b ≤ a := Nat.le_of_not_lt fun l => h1 (kb a l)
    have l2 : a ≤ b := Nat.le_of_not_lt fun l => h2 (ka b l)
    omega

theorem keyOf_eq {cs : List Int} {f g : Int} : keyOf cs f = keyOf cs g ↔ kd f = kd g ∧ cs.getD (rm f) 0 = cs.getD (rm g) 0 := by
  unfold keyOf kd rm
  constructor
  · intro h
    injection h with h1 h2
    injection h2 with h2 _
    exact ⟨h1, h2⟩
  · rintro ⟨h1, h2⟩
    rw [h1, h2]
theorem told_iff {rs : List (List Int)} {n : Nat} (C : Cls rs n) (p q : Nat) : sameSet (toldOf rs (csOf rs n) p) (toldOf rs (csOf rs n) q) = true ↔ ¬ dist rs (n + 1) p q := by
  have key : ∀ f g, keyOf (csOf rs n) f = keyOf (csOf rs n) g ↔ kd f = kd g ∧ ¬ dist rs n (rm f) (rm g) := fun f g => by
    rw [keyOf_eq, C.same (rm_lt f) (rm_lt g)]
  have one : ∀ p q, (∀ k, k ∈ toldOf rs (csOf rs n) p → k ∈ toldOf rs (csOf rs n) q) ↔ ¬ half rs (dist rs n) p q := by
    intro p q
    constructor
    · rintro h ⟨f, m, k⟩
      obtain ⟨g, hg, e⟩ := List.mem_map.mp (h _ (List.mem_map.mpr ⟨f, m, rfl⟩))
      obtain ⟨e1, e2⟩ := (key g f).mp e
      exact e2 (dist_symm (k g hg e1))
    · intro h k hk
      obtain ⟨f, m, rfl⟩ := List.mem_map.mp hk
      apply Classical.byContradiction
      intro hn
      refine h ⟨f, m, fun g hg e => Classical.byContradiction fun hd => hn ?_⟩
      exact List.mem_map.mpr ⟨g, hg, (key g f).mpr ⟨e, fun h' => hd (dist_symm h')⟩⟩
  rw [sameSet_iff]
  constructor
  · rintro h (h' | h')
    · exact (one p q).mp (fun k m => (h k).mp m) h'
    · exact (one q p).mp (fun k m => (h k).mpr m) h'
  · intro h k
    exact ⟨(one p q).mpr (fun h' => h (.inl h')) k, (one q p).mpr (fun h' => h (.inr h')) k⟩

theorem partOf_spec (T : Nat → List (List Int)) (i : Nat) : partOf T i ≤ i ∧ (∀ j < partOf T i, sameSet (T i) (T j) = false) ∧ (partOf T i = i ∨ sameSet (T i) (T (partOf T i)) = true) := by
  unfold partOf
  cases h : (List.range i).find? (fun j => sameSet (T i) (T j)) with
  | none =>
    rw [List.find?_eq_none] at h
    refine ⟨Nat.le_refl _, fun j hj => ?_, .inl rfl⟩
    simpa using h j (by simpa using hj)
  | some j =>
    rw [List.find?_range_eq_some] at h
    obtain ⟨h1, h2, h3⟩ := h
    refine ⟨Nat.le_of_lt (by simpa using h2), fun k hk => ?_, .inr h1⟩
    simpa using h3 k hk

theorem cls_all (rs : List (List Int)) : ∀ n, Cls rs n
  | 0 => by
    refine ⟨fun i hi => ⟨0, ?_, Nat.zero_le _, fun h => h, fun j hj => absurd hj (Nat.not_lt_zero _)⟩, fun _ _ _ _ _ _ _ _ h => h⟩
    have : i = 0 ∨ i = 1 ∨ i = 2 ∨ i = 3 ∨ i = 4 := by omega
    rcases this with rfl | rfl | rfl | rfl | rfl <;> rfl
  | n + 1 => by
    have C := cls_all rs n
    have T := told_iff C
    refine ⟨fun i hi => ?_, fun i j k _ _ _ h1 h2 => ?_⟩
    · obtain ⟨p1, p2, p3⟩ := partOf_spec (toldOf rs (csOf rs n)) i
      refine ⟨partOf (toldOf rs (csOf rs n)) i, ?_, p1, ?_, fun j hj => ?_⟩
      · show (nextOf rs (csOf rs n)).getD i 0 = _
        simp [nextOf, List.getD, hi]
      · rcases p3 with p3 | p3
        · rw [p3]; exact dist_irr
        · exact (T i _).mp p3
      · apply Classical.byContradiction
        intro h
        have := (T i j).mpr h
        rw [p2 j hj] at this
        cases this
    · rw [← T] at h1 h2 ⊢
      rw [sameSet_iff] at h1 h2 ⊢
      exact fun k' => (h1 k').trans (h2 k')

theorem cls_of {rs : List (List Int)} {M : Nat → Nat → Int} (I : PInv rs M []) (t : Nat) {i : Nat} (hi : i < 5) : (csOf rs t).getD i 0 = ((clsOf M (t : Int) i : Nat) : Int) := by
  obtain ⟨m, e, lm, nm, km⟩ := (cls_all rs t).least i hi
  have P : ∀ j < 5, (M i j == 0 || decide ((t : Int) < M i j)) = true ↔ ¬ dist rs t i j := fun j hj => by
    rw [I.fin hi hj]
    simp only [Bool.or_eq_true, beq_iff_eq, decide_eq_true_eq]
    omega
  have hf : (List.range 5).find? (fun j => M i j == 0 || decide ((t : Int) < M i j)) = some m := by
    rw [List.find?_range_eq_some]
    refine ⟨(P m (by omega)).mpr nm, by simp; omega, fun j hj => ?_⟩
    have hd := km j hj
    cases hq : (M i j == 0 || decide ((t : Int) < M i j)) with
    | false => rfl
    | true => exact absurd hd ((P j (by omega)).mp hq)
  have : clsOf M (t : Int) i = m := by
    unfold clsOf clsList
    rw [List.headD_eq_head?_getD, List.head?_filter, hf]
    rfl
  rw [e, this]

theorem plain_ok (ns : List Int) : ∃ Inv, TurnInv (rowsOf ns) Inv ∧ ∀ M, Inv M [] → (∀ i < 5, M i i = 0) ∧ ∀ t ≤ 4, csOf (rowsOf ns) t = (List.range 5).map fun i => ((clsOf M (t : Nat) i : Nat) : Int) := by
  refine ⟨PInv (rowsOf ns), turnInv (rowsOf_fig ns), fun M I => ⟨fun i _ => I.diag i, fun t _ => ?_⟩⟩
  apply List.ext_getElem
  · simp [csOf_len]
  · intro i h1 h2
    have hi : i < 5 := by simpa using h2
    have := cls_of I t hi
    rw [List.getElem_map, List.getElem_range, ← this]
    simp [List.getD, h1]
end Mine

/-! part Z1 -/
namespace Mine

/-! what is written out of the heap gives the names -/
def kAddr (K : Frag) (x : Str) : Addr := match nsIn K mainGlobals x with | some (some (.ref a)) => a | _ => 0
def kObj (K : Frag) (a : Addr) : Obj := (K.lookup a).getD { cls := .none, data := .plain }
def kFd (o : Obj) : FuncData := match o.data with | .func fd => fd | _ => kla_fn "" "" default noE default [] .none .none .none
def kRef (v : Value) : Addr := match v with | .ref a => a | _ => 0
def kFields (o : Obj) : Array Value := match o.data with | .fields vs => vs | _ => #[]
def kTok (v : Value) : Tok := match v with | .str _ t => t | _ => 0

theorem fn_of {K : Frag} {h : Heap} {mg : Str → Option Value} (X : K.In h) (G : h.Ns mainGlobals mg) (x : Str) (i : Nat) (dV : Value) (a : Addr) (fd : FuncData) (c : Addr) (vs : Array Value) (ha : a = kAddr K x) (hfd : fd = kFd (kObj K a)) (hc : c = kRef fd.code) (hvs : vs = kFields (kObj K c))
    (e1 : nsIn K mainGlobals x = some (some (.ref a))) (e2 : K.lookup a = some (kObj K a))
    (e3 : (kObj K a).data = .func (fnAt i fd.name fd.qualname dV fd.doc fd.pyModule fd.code fd.closureTuple fd.annotations)) (e7 : fd.code = .ref c)
    (e4 : K.lookup c = some (kObj K c)) (e5 : (kObj K c).data = .fields vs) (e6 : vs[1]? = some (.str fd.qualname (kTok (vs.getD 1 .none)))) : mg x = some (.ref a) ∧ IsFnD h a i dV :=
  ⟨mg_of X G e1, _, _, _, _, _, _, _, _, X _ _ e2, e3, c, _, _, _, e7, X _ _ e4, e5, e6⟩

theorem fnC_of {K : Frag} {h : Heap} {mg : Str → Option Value} (X : K.In h) (G : h.Ns mainGlobals mg) (x : Str) (i : Nat) (a : Addr) (fd : FuncData) (c : Addr) (vs : Array Value) (ha : a = kAddr K x) (hfd : fd = kFd (kObj K a)) (hvs : vs = kFields (kObj K c))
    (e1 : nsIn K mainGlobals x = some (some (.ref a))) (e2 : K.lookup a = some (kObj K a))
    (e3 : (kObj K a).data = .func (fnAt i fd.name fd.qualname .none fd.doc fd.pyModule (.ref c) fd.closureTuple fd.annotations))
    (e4 : K.lookup c = some (kObj K c)) (e5 : (kObj K c).data = .fields vs) (e6 : vs[1]? = some (.str fd.qualname (kTok (vs.getD 1 .none)))) : mg x = some (.ref a) ∧ IsFnC h a i (.ref c) :=
  ⟨mg_of X G e1, _, _, _, _, _, _, _, X _ _ e2, e3, c, _, _, _, rfl, X _ _ e4, e5, e6⟩
theorem ints_of {vs : List Value} {ns : List Int} (x : IntsAre vs ns) : Ints vs ns := by
  induction x with
  | nil => exact Ints.nil
  | cons n t _ ih => exact Ints.cons rfl ih

set_option maxRecDepth 100000 in
set_option maxHeartbeats 8000000 in
open_top hd for PySem.Challenge.rw_oh0013_01

def kSeq (o : Obj) : Array Value := match o.data with | .seq vs _ => vs | _ => #[]
def kN (o : Obj) : Nat := match o.data with | .seq _ n => n | _ => 0
def kDef (K : Frag) : Addr := kRef (kFd (kObj K (kAddr K "reduce"))).defaults
section
variable {h : Heap} {mg mb : Str → Option Value} {p : Program} {loose : List Str} {mean : ExcName → Option Value}
def RedOf (h : Heap) (mg : Str → Option Value) : Prop := ∃ r d T oT dv n od, mg "reduce" = some (.ref r) ∧ IsFnD h r 5 (.ref T) ∧ h.get? T = some oT ∧ oT.cls = .type "tuple" ∧ oT.data = .seq #[dv] n ∧ mg "_initial_missing" = some (.ref d) ∧ h.get? d = some od
set_option maxRecDepth 100000 in
theorem red_of (Pm : Params) (X : (hd.heap_39 Pm).In h) (T : Top p loose mean mg mb h) : RedOf h mg := by
  have h1 := fn_of X T.g "reduce" 5 (.ref (kDef (hd.heap_39 Pm))) _ _ _ _ rfl rfl rfl rfl (by kernel_rfl) (by kernel_rfl) (by kernel_rfl) (by kernel_rfl) (by kernel_rfl) (by kernel_rfl) (by kernel_rfl)
  have h2 : (hd.heap_39 Pm).lookup (kDef (hd.heap_39 Pm)) = some (kObj (hd.heap_39 Pm) (kDef (hd.heap_39 Pm))) := by kernel_rfl
  have h3 : (kObj (hd.heap_39 Pm) (kDef (hd.heap_39 Pm))).cls = .type "tuple" := by kernel_rfl
  have h4 : (kObj (hd.heap_39 Pm) (kDef (hd.heap_39 Pm))).data = .seq #[(kSeq (kObj (hd.heap_39 Pm) (kDef (hd.heap_39 Pm)))).getD 0 .none] (kN (kObj (hd.heap_39 Pm) (kDef (hd.heap_39 Pm)))) := by kernel_rfl
  have h5 : nsIn (hd.heap_39 Pm) mainGlobals "_initial_missing" = some (some (.ref (kAddr (hd.heap_39 Pm) "_initial_missing"))) := by kernel_rfl
  have h6 : (hd.heap_39 Pm).lookup (kAddr (hd.heap_39 Pm) "_initial_missing") = some (kObj (hd.heap_39 Pm) (kAddr (hd.heap_39 Pm) "_initial_missing")) := by kernel_rfl
  exact ⟨_, _, _, _, _, _, _, h1.1, h1.2, X _ _ h2, h3, h4, mg_of X T.g h5, X _ _ h6⟩
set_option maxRecDepth 100000 in
theorem stat_of (Pm : Params) (X : (hd.heap_39 Pm).In h) (T : Top p loose mean mg mb h) : Stat h mg mb where
  g := T.g
  b := T.b
  nolimit := T.nolimit
  dedup := ⟨_, fn_of X T.g "_deduplicate_unhashable" 1 .none _ _ _ _ rfl rfl rfl rfl (by kernel_rfl) (by kernel_rfl) (by kernel_rfl) (by kernel_rfl) (by kernel_rfl) (by kernel_rfl) (by kernel_rfl)⟩
  compare := ⟨_, fn_of X T.g "_compare_args_orderless" 2 .none _ _ _ _ rfl rfl rfl rfl (by kernel_rfl) (by kernel_rfl) (by kernel_rfl) (by kernel_rfl) (by kernel_rfl) (by kernel_rfl) (by kernel_rfl)⟩
  push := ⟨_, fn_of X T.g "heappush" 7 .none _ _ _ _ rfl rfl rfl rfl (by kernel_rfl) (by kernel_rfl) (by kernel_rfl) (by kernel_rfl) (by kernel_rfl) (by kernel_rfl) (by kernel_rfl)⟩
  pop := ⟨_, fn_of X T.g "heappop" 8 .none _ _ _ _ rfl rfl rfl rfl (by kernel_rfl) (by kernel_rfl) (by kernel_rfl) (by kernel_rfl) (by kernel_rfl) (by kernel_rfl) (by kernel_rfl)⟩
  siftdown := ⟨_, fn_of X T.g "_siftdown" 9 .none _ _ _ _ rfl rfl rfl rfl (by kernel_rfl) (by kernel_rfl) (by kernel_rfl) (by kernel_rfl) (by kernel_rfl) (by kernel_rfl) (by kernel_rfl)⟩
  siftup := ⟨_, fn_of X T.g "_siftup" 10 .none _ _ _ _ rfl rfl rfl rfl (by kernel_rfl) (by kernel_rfl) (by kernel_rfl) (by kernel_rfl) (by kernel_rfl) (by kernel_rfl) (by kernel_rfl)⟩
  passages := ⟨_, fn_of X T.g "_law_passages" 12 .none _ _ _ _ rfl rfl rfl rfl (by kernel_rfl) (by kernel_rfl) (by kernel_rfl) (by kernel_rfl) (by kernel_rfl) (by kernel_rfl) (by kernel_rfl)⟩
  parted := ⟨_, fn_of X T.g "_law_parted" 13 .none _ _ _ _ rfl rfl rfl rfl (by kernel_rfl) (by kernel_rfl) (by kernel_rfl) (by kernel_rfl) (by kernel_rfl) (by kernel_rfl) (by kernel_rfl)⟩
  with_ := ⟨_, fn_of X T.g "_law_with" 14 .none _ _ _ _ rfl rfl rfl rfl (by kernel_rfl) (by kernel_rfl) (by kernel_rfl) (by kernel_rfl) (by kernel_rfl) (by kernel_rfl) (by kernel_rfl)⟩
  begun := ⟨_, fn_of X T.g "_law_begun" 15 .none _ _ _ _ rfl rfl rfl rfl (by kernel_rfl) (by kernel_rfl) (by kernel_rfl) (by kernel_rfl) (by kernel_rfl) (by kernel_rfl) (by kernel_rfl)⟩
  turns := ⟨_, fn_of X T.g "_law_turns" 16 .none _ _ _ _ rfl rfl rfl rfl (by kernel_rfl) (by kernel_rfl) (by kernel_rfl) (by kernel_rfl) (by kernel_rfl) (by kernel_rfl) (by kernel_rfl)⟩
  classes := ⟨_, fn_of X T.g "_law_classes" 17 .none _ _ _ _ rfl rfl rfl rfl (by kernel_rfl) (by kernel_rfl) (by kernel_rfl) (by kernel_rfl) (by kernel_rfl) (by kernel_rfl) (by kernel_rfl)⟩
  missing := by
    obtain ⟨r, d, T', oT, dv, n, od, a1, a2, a3, a4, a5, a6, a7⟩ := red_of Pm X T
    exact ⟨r, d, _, n, od, a1, a6, a7, T', oT, a3, a4, a5, a2⟩
  len := ⟨mg_none_of X T.g (by kernel_rfl), (T.builtins _ (by decide)).trans (by kernel_rfl)⟩
  range := ⟨mg_none_of X T.g (by kernel_rfl), (T.builtins _ (by decide)).trans (by kernel_rfl)⟩
  list := ⟨mg_none_of X T.g (by kernel_rfl), (T.builtins _ (by decide)).trans (by kernel_rfl)⟩
  valueError := ⟨mg_none_of X T.g (by kernel_rfl), (T.builtins _ (by decide)).trans (by kernel_rfl)⟩
  iter := ⟨mg_none_of X T.g (by kernel_rfl), (T.builtins _ (by decide)).trans (by kernel_rfl)⟩
end

set_option maxRecDepth 100000 in
theorem law_of {h : Heap} {mg : Str → Option Value} (Pm : Params) (X : (hd.heap_39 Pm).In h) (G : h.Ns mainGlobals mg) : ∃ a, mg "law" = some (.ref a) ∧ IsFnC h a 18 (.ref 99) :=
  ⟨_, fnC_of X G "law" 18 _ _ 99 _ rfl rfl rfl (by kernel_rfl) (by kernel_rfl) (by kernel_rfl) (by kernel_rfl) (by kernel_rfl) (by kernel_rfl)⟩
theorem post_ok (args args' : List WData) : PySem.Challenge.rw_oh0013_01.row.claim.post args (.bool true) args' = true := by
  first
    | rfl
    | kernel_rfl
    | (simp [OpenLaw.row]; done)
    | (unfold PySem.Challenge.rw_oh0013_01; simp [OpenLaw.row]; trace_state; done)
/-- what is left: the plain law -/
def Plain : Prop := ∀ ns : List Int, ∃ Inv, TurnInv (rowsOf ns) Inv ∧ ∀ M, Inv M [] → (∀ i < 5, M i i = 0) ∧ ∀ t ≤ 4, csOf (rowsOf ns) t = (List.range 5).map fun i => ((clsOf M (t : Nat) i : Nat) : Int)

set_option maxRecDepth 100000 in
set_option maxHeartbeats 8000000 in
theorem holds_of (plain : Plain) : PySem.Challenge.rw_oh0013_01.Holds := by
  refine hd ?_
  k_fill
  intro w s₀ s₁ mg mb G Y fa o pm cd doc dV kV ho hd hcd hD hmg hg args vals as hpre hlay hrd hwl hlo
  have KX := km_in_of Y
  km_tabs Y
  have X := (Ground.X G).1
  have V := (Ground.X G).2
  refine Ground.open G ?_
  intro T B D TE TW
  try (refine guard_noD D (by decide +kernel) ?_; clear D)
  km_lay T hmg ho hd cd
  wrow_args hpre hlay hrd hwl hlo
  all_goals (
    first | refine callC_kw (enter_call ?_) | refine enter_call ?_
    w_top on
    kn_posts)
  rename Heap.IsList _ _ _ => hL
  rename IntsAre _ _ => hI
  rename ¬ _ < _ => hcond
  have X' := ghost_K hT9 KX (by kernel_rfl)
  have T' := ghost_top hT9 T
  have S := stat_of _ X' T'
  obtain ⟨r, d, T5, oT, dv, n, od, a1, a2, a3, a4, a5, a6, a7⟩ := red_of _ X' T'
  have B' : Base (ghostOf s₁.heap [(99, 97)]) s₁.heap := fun b o e => of_hideAll _ e
  have C' := (ghost_code hT9).1
  obtain ⟨bm, ob, b1, b2, b3, b4, b5, b6⟩ := T'.bmain
  have hP := (hT9 (99, 97) (by simp)).2
  have hPS : (ghostOf s₁.heap [(99, 97)]).get? 97 = none := hideAll_none _ (by simp)
  have hm2 : mg "law" = some (.ref fa) := hmg
  have hf : IsFnC s₁.heap fa 18 (.ref 99) := by
    have q := law_of _ KX T.g
    obtain ⟨a, q1, q2⟩ := q
    rw [hm2] at q1
    cases q1
    exact q2
  refine law_spec S B' hf rfl (by decide) (by decide) rfl a1 a2 a3 a5 a6 a7 C' hP hPS b1 b2 b3 b4 b5 b6 hL (ints_of hI) ?_ (plain _) s₁ _ rfl ?_
  · have := (ints_of hI).1
    omega
  · rintro v h' tk ⟨rfl, hB, hG⟩
    exact ⟨⟨.inl ⟨_, .bool true, [], rfl, fun _ => rfl, .bool _, post_ok _ _, fun _ => ⟨List.nodup_nil, fun _ m => nomatch m⟩⟩, hB, rfl, hg⟩, hG, trivial⟩
end Mine

set_option maxRecDepth 100000 in
set_option maxHeartbeats 8000000 in
theorem PySem.Challenge.cw_oh0013_01_holds : PySem.Challenge.rw_oh0013_01.Holds := by
  exact Mine.holds_of Mine.plain_ok
