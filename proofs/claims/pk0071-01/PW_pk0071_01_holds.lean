import PyProof.Rows.All
import Wide.All
import OpenK.AllK
import Wide.FinOn
import PyProof.EqAt
import KE.KSortAsk
import KE.KSortTup
import KE.KSorted
import KE.KNest
import Lean
import PySem.Challenge.RW_pk0071_01
set_option Elab.async false
section
open PySem PySem.W PyProof.Rows
set_option Elab.async false
namespace Mine

/-! ## heaps that grow -/
def Ext (h h' : Heap) : Prop := ∀ b o, h.get? b = some o → h'.get? b = some o
theorem Ext.refl (h : Heap) : Ext h h := fun _ _ e => e
theorem Ext.trans {a b c : Heap} (x : Ext a b) (y : Ext b c) : Ext a c := fun i o e => y i o (x i o e)
theorem Ext.push (h : Heap) (o : Obj) : Ext h (h.push o) := fun _ _ e => Heap.get?_push_of_some o e

/-! ## membership, cheaply -/
theorem im1 {α : Type} {a : α} {l : List α} : a ∈ a :: l := .head _
theorem im2 {α : Type} {a b : α} {l : List α} : a ∈ b :: a :: l := .tail _ (.head _)
theorem im3 {α : Type} {a b c : α} {l : List α} : a ∈ b :: c :: a :: l := .tail _ (.tail _ (.head _))
theorem sb0 {α : Type} {S : List α} : ∀ a ∈ ([] : List α), a ∈ S := fun _ h => nomatch h
theorem sb1 {α : Type} {a : α} {S : List α} (h : a ∈ S) : ∀ b ∈ [a], b ∈ S := fun b hb => by cases hb with
  | head => exact h
  | tail _ q => cases q
theorem sb2 {α : Type} {a c : α} {S : List α} (h : a ∈ S) (h2 : c ∈ S) : ∀ b ∈ [a, c], b ∈ S := fun b hb => by cases hb with
  | head => exact h
  | tail _ q => exact sb1 h2 b q
theorem nm0 {α : Type} {a : α} : a ∉ ([] : List α) := fun h => nomatch h
theorem nmc {α : Type} {a b : α} {l : List α} (h : a ≠ b) (h2 : a ∉ l) : a ∉ b :: l := fun q => by cases q with
  | head => exact h rfl
  | tail _ q => exact h2 q
theorem adne {L i : Nat} (h : i ≠ 0) : L + i ≠ L := fun q => h (Nat.add_left_cancel (q.trans (Nat.add_zero L).symm))
theorem adnn {L i j : Nat} (h : i ≠ j) : L + i ≠ L + j := fun q => h (Nat.add_left_cancel q)

/-! ## room for n more frames -/
structure OkA (n : Nat) (A : Around) : Prop where
  depth : A.depth + n < recursionLimit
  units : A.units + 20 * n < cLine
  handled : A.handled = none
theorem OkA.deeper {n : Nat} {A : Around} (h : OkA (n + 1) A) (env : Env) : OkA n (A.deeper env) :=
  ⟨by have := h.depth; show A.depth + 1 + n < _; lia, by have := h.units; show A.units + 3 + 20 * n < _; lia, h.handled⟩
theorem OkA.mono {n k : Nat} {A : Around} (h : OkA n A) (hk : k ≤ n) : OkA k A :=
  ⟨by have := h.depth; lia, by have := h.units; lia, h.handled⟩
theorem OkA.in1 {n : Nat} {A : Around} (h : OkA (n + 1) A) : OkA n A.in1 :=
  ⟨by have := h.depth; show A.depth + n < _; lia, by have := h.units; show A.units + 1 + 20 * n < _; lia, h.handled⟩

abbrev NoE : Value → Shared → Prop := fun _ _ => False

/-! ## the logic of heaps: a tree that ends without an exception -/
def Wp {α : Type} (M : Model) (A : Around) (t : Sem α) (Q : α → Heap → Prop) (h : Heap) : Prop :=
  ∀ s : Shared, s.heap = h → wpAny M A t (fun a s' => (s'.os = s.os ∧ s'.gens = s.gens) ∧ Q a s'.heap) NoE s

section
variable {α β : Type} {M : Model} {A : Around} {h : Heap}
theorem Wp.run {t : Sem α} {Q : α → Heap → Prop} {s : Shared} {Q' : α → Shared → Prop} {E : Value → Shared → Prop} (x : Wp M A t Q s.heap) (k : ∀ a s', s'.os = s.os → s'.gens = s.gens → Q a s'.heap → Q' a s') : wpAny M A t Q' E s :=
  wpAny_mono (x s rfl) (fun a s' y => k a s' y.1.1 y.1.2 y.2) fun _ _ y => y.elim
theorem w_pure {a : α} {Q : α → Heap → Prop} (k : Q a h) : Wp M A (pure a) Q h := fun _ hs => wpAny_pure ⟨⟨rfl, rfl⟩, hs ▸ k⟩
theorem Wp.mono {t : Sem α} {Q Q' : α → Heap → Prop} (x : Wp M A t Q h) (k : ∀ a h', Q a h' → Q' a h') : Wp M A t Q' h :=
  fun s hs => wpAny_mono (x s hs) (fun a s' y => ⟨y.1, k a _ y.2⟩) fun _ _ y => y
theorem w_bind {m : Sem α} {f : α → Sem β} {Q : β → Heap → Prop} (x : Wp M A m (fun a h' => Wp M A (f a) Q h') h) : Wp M A (m >>= f) Q h :=
  fun s hs => wpAny_bind (wpAny_mono (x s hs) (fun _ s' y => wpAny_mono (y.2 s' rfl) (fun _ _ z => ⟨⟨z.1.1.trans y.1.1, z.1.2.trans y.1.2⟩, z.2⟩) fun _ _ z => z) fun _ _ y => y)
theorem w_holding {vs : List Value} {t : Sem α} {Q : α → Heap → Prop} (x : Wp M A t Q h) : Wp M A (holding vs t) Q h := fun s hs => wpAny_holding (x s hs)
theorem w_standAt {p : Pos} {Q : Unit → Heap → Prop} (k : Q () h) : Wp M A (standAt p) Q h := fun _ hs => wpAny_standAt ⟨⟨rfl, rfl⟩, hs ▸ k⟩
theorem w_point {Q : Unit → Heap → Prop} (k : Q () h) : Wp M A point Q h := fun _ hs => wpAny_point ⟨⟨rfl, rfl⟩, hs ▸ k⟩
theorem w_operate {vs : List Value} {t : Sem Value} {Q : Value → Heap → Prop} (x : Wp M A t Q h) : Wp M A (operate vs t) Q h :=
  fun s hs Γ p hΓ => by rw [Sem.wp_operate]; exact x s hs Γ p hΓ
theorem w_rule {tag : String} {Q : Unit → Heap → Prop} (k : Q () h) : Wp M A (rule tag) Q h := fun _ hs => wpAny_rule ⟨⟨rfl, rfl⟩, hs ▸ k⟩
theorem w_load {a : Addr} {o : Obj} {Q : Obj → Heap → Prop} (ho : h.get? a = some o) (k : Q o h) : Wp M A (load a) Q h := fun s hs => by subst hs; exact wpAny_load ho ⟨⟨rfl, rfl⟩, k⟩
theorem w_alloc {o : Obj} {Q : Addr → Heap → Prop} (k : Q h.objs.size (h.push o)) : Wp M A (alloc o) Q h := fun s hs => by subst hs; exact wpAny_alloc ⟨⟨rfl, rfl⟩, k⟩
theorem w_update {a : Addr} {f : Obj → Obj} {o : Obj} {Q : Unit → Heap → Prop} (ho : h.get? a = some o) (k : Q () (h.update a f)) : Wp M A (update a f) Q h := fun s hs => by subst hs; exact wpAny_update ho ⟨⟨rfl, rfl⟩, k⟩
theorem w_mkInt {i : Int} {Q : Value → Heap → Prop} (k : ∀ t, Q (.int i t) h) : Wp M A (mkInt i) Q h := fun s hs => by subst hs; exact wpAny_mkInt ⟨⟨rfl, rfl⟩, k _⟩
theorem w_mkStr {x : Str} {Q : Value → Heap → Prop} (k : ∀ t, Q (.str x t) h) (hx : x.length ≤ sizeLine) : Wp M A (mkStr x) Q h := fun s hs => by subst hs; exact wpAny_mkStr ⟨⟨rfl, rfl⟩, k _⟩ hx
theorem w_ite {c : Prop} [Decidable c] {a b : Sem α} {Q : α → Heap → Prop} (x : c → Wp M A a Q h) (y : ¬ c → Wp M A b Q h) : Wp M A (if c then a else b) Q h := by
  split
  · exact x (by assumption)
  · exact y (by assumption)
/-- a look that changes nothing -/
theorem w_looks {t : Sem α} {r : α} {Q : α → Heap → Prop} (x : Looks M h t r) (k : Q r h) : Wp M A t Q h := fun s hs => by subst hs; exact x.here ⟨⟨rfl, rfl⟩, k⟩
end

section
variable {M : Model} {A : Around} {h : Heap} {env : Env}

/-! ## names -/
theorem w_nm {x : Str} {pos : Pos} {v : Value} {m : Str → Option Value} {Q : Value → Heap → Prop} (hn : h.Ns env.locals m) (hv : m x = some v) (k : Q v h)
    (hk : env.scope.kind = .function := by rfl) (hl : env.kindOf x = some .local := by rfl) (hd : (x == ("__debug__" : Str)) = false := by decide) :
    Wp M A (eval (.Name x pos) env) Q h := fun s hs => by subst hs; exact wpAny_Name (wpAny_loadName_local hk hl hn hv ⟨⟨rfl, rfl⟩, k⟩) hd
theorem w_nmG {x : Str} {pos : Pos} {v : Value} {mg : Str → Option Value} {Q : Value → Heap → Prop} (hg : h.Ns env.globals mg) (hv : mg x = some v) (k : Q v h)
    (hk : env.scope.kind = .function := by rfl) (hl : env.kindOf x = some .globalImplicit := by rfl) (hd : (x == ("__debug__" : Str)) = false := by decide) :
    Wp M A (eval (.Name x pos) env) Q h := fun s hs => by subst hs; exact Calls.Name_function_global hk hl (Calls.loadGlobal_global hg hv ⟨⟨rfl, rfl⟩, k⟩) hd
theorem w_nmB {x : Str} {pos : Pos} {v : Value} {mg mb : Str → Option Value} {Q : Value → Heap → Prop} (hg : h.Ns env.globals mg) (hmiss : mg x = none) (hb : h.Ns env.builtins mb) (hv : mb x = some v) (k : Q v h)
    (hk : env.scope.kind = .function := by rfl) (hl : env.kindOf x = some .globalImplicit := by rfl) (hd : (x == ("__debug__" : Str)) = false := by decide) :
    Wp M A (eval (.Name x pos) env) Q h := fun s hs => by subst hs; exact Calls.Name_function_global hk hl (Calls.loadGlobal_builtin hg hmiss hb hv ⟨⟨rfl, rfl⟩, k⟩) hd
theorem w_store {x : Str} {v : Value} {m : Str → Option Value} {Q : Unit → Heap → Prop} (hn : h.Ns env.locals m)
    (k : ∀ h', h'.Ns env.locals (fun y => if y = x then some v else m y) → Heap.SameBut env.locals h h' → Q () h')
    (hl : env.kindOf x = some .local := by rfl) (hp : (env.scope.kind == .class || (env.scope.kind == .module && env.locals != env.globals)) = false := by rfl) :
    Wp M A (storeName env x v) Q h := fun s hs => by subst hs; exact wpAny_storeName_local hl hn (fun h' a b => ⟨⟨rfl, rfl⟩, k h' a b⟩) hp
theorem w_st {base : Heap} {L : Addr} {x : Str} {v : Value} {m : Str → Option Value} {Q : Unit → Heap → Prop} (F : Fr base L h m)
    (k : ∀ h', Fr base L h' (fun y => if y = x then some v else m y) → Q () h') (hL : env.locals = L := by rfl)
    (hl : env.kindOf x = some .local := by rfl) (hp : (env.scope.kind == .class || (env.scope.kind == .module && env.locals != env.globals)) = false := by rfl) :
    Wp M A (storeName env x v) Q h := by
  subst hL
  exact w_store F.ns (fun h' a b => k h' (F.set a b)) hl hp

/-! ## constants -/
theorem w_cInt {i : Int} {k' : Nat} {pos : Pos} {Q : Value → Heap → Prop} (k : ∀ t, Q (.int i t) h) : Wp M A (eval (.Constant (.int i) k' pos) env) Q h := fun s hs => by subst hs; exact wpAny_Constant_int ⟨⟨rfl, rfl⟩, k _⟩
theorem w_cStr {x : Str} {k' : Nat} {pos : Pos} {Q : Value → Heap → Prop} (k : ∀ t, Q (.str x t) h) : Wp M A (eval (.Constant (.str x) k' pos) env) Q h := fun s hs => by subst hs; exact wpAny_Constant_str ⟨⟨rfl, rfl⟩, k _⟩
theorem w_cNone {k' : Nat} {pos : Pos} {Q : Value → Heap → Prop} (k : Q .none h) : Wp M A (eval (.Constant .none k' pos) env) Q h := fun s hs => by subst hs; exact wpAny_Constant_none ⟨⟨rfl, rfl⟩, k⟩
theorem w_cBool {b : Bool} {k' : Nat} {pos : Pos} {Q : Value → Heap → Prop} (k : Q (.bool b) h) : Wp M A (eval (.Constant (.bool b) k' pos) env) Q h := fun s hs => by subst hs; exact wpAny_Constant_bool ⟨⟨rfl, rfl⟩, k⟩

/-! ## nodes -/
theorem w_binOp {l r : Expr} {op : Operator} {pos : Pos} {Q : Value → Heap → Prop}
    (x : Wp M A (eval l env) (fun a h₁ => Wp M A (eval r env) (fun b h₂ => Wp M A (binaryOp op a b) Q h₂) h₁) h) : Wp M A (eval (.BinOp l op r pos) env) Q h := by
  rw [eval_BinOp]
  exact w_bind (x.mono fun _ _ y => w_bind (w_holding (y.mono fun _ _ z => w_bind (w_standAt (w_operate z)))))
theorem w_cmp {l r : Expr} {op : CmpOp} {pos : Pos} {Q : Value → Heap → Prop}
    (x : Wp M A (eval l env) (fun a h₁ => Wp M A (eval r env) (fun b h₂ => Wp M A (compareOp op a b) Q h₂) h₁) h) (hm : behindInMarks op r = false := by with_unfolding_all rfl) :
    Wp M A (eval (.Compare l [op] [r] pos) env) Q h := by
  rw [eval_Compare1, markedBehindIn_of_false hm]
  exact w_bind (x.mono fun _ _ y => w_bind (w_holding (y.mono fun _ _ z => w_bind (w_standAt (w_operate z)))))
theorem w_tCmp {l r : Expr} {op : CmpOp} {pos : Pos} {whole : Sem Value} {Q : Bool → Heap → Prop}
    (x : Wp M A (eval l env) (fun a h₁ => Wp M A (eval r env) (fun b h₂ => Wp M A (compareOp op a b) (fun c h₃ => Wp M A (truthy c) Q h₃) h₂) h₁) h) (hm : behindInMarks op r = false := by with_unfolding_all rfl) :
    Wp M A (isTrue (.Compare l [op] [r] pos) env whole) Q h := by
  rw [isTrue_Compare1, markedBehindIn_of_false hm]
  exact w_bind (x.mono fun _ _ y => w_bind (w_holding (y.mono fun _ _ z => w_bind (w_standAt (w_bind (w_operate (z.mono fun _ _ u => w_holding u)))))))
theorem w_tBool {b : Bool} {Q : Bool → Heap → Prop} (k : Q b h) : Wp M A (truthy (.bool b)) Q h := fun s hs => by subst hs; exact wpAny_truthy_bool ⟨⟨rfl, rfl⟩, k⟩
theorem w_tPlain {e : Expr} {whole : Sem Value} {Q : Bool → Heap → Prop} (x : Wp M A whole (fun v h₁ => Wp M A (truthy v) Q h₁) h)
    (he : isTrue e env whole = (do let v ← whole; standAt e.pos; holding [v] (truthy v)) := by rfl) : Wp M A (isTrue e env whole) Q h := by
  rw [he]; exact w_bind (x.mono fun _ _ y => w_bind (w_standAt (w_holding y)))
theorem w_tNot {e : Expr} {pos : Pos} {whole : Sem Value} {Q : Bool → Heap → Prop} (x : Wp M A (isTrue e env (eval e env)) (fun c h₁ => Q (!c) h₁) h) :
    Wp M A (isTrue (.UnaryOp .Not e pos) env whole) Q h := by
  show Wp M A (do return !(← isTrue e env (eval e env))) Q h
  exact w_bind (x.mono fun _ _ y => w_pure y)
theorem w_tOr {e : Expr} {rest : List Expr} {pos : Pos} {whole : Sem Value} {Q : Bool → Heap → Prop}
    (x : Wp M A (isTrue e env (eval e env)) (fun c h' => (c = true → Q true h') ∧ (c = false → Wp M A (isTrue (.BoolOp .Or rest pos) env whole) Q h')) h) :
    Wp M A (isTrue (.BoolOp .Or (e :: rest) pos) env whole) Q h := by
  show Wp M A (do
    match BoolOp.Or, ← isTrue e env (eval e env) with
    | .And, false => pure false
    | .Or, true => pure true
    | _, _ => allTrue .Or rest env) Q h
  refine w_bind (x.mono fun c h' y => ?_)
  cases c with
  | false => exact y.2 rfl
  | true => exact w_pure (y.1 rfl)
theorem w_tOr0 {pos : Pos} {whole : Sem Value} {Q : Bool → Heap → Prop} (k : Q false h) : Wp M A (isTrue (.BoolOp .Or [] pos) env whole) Q h := w_pure (a := false) k
theorem w_tAnd {e : Expr} {rest : List Expr} {pos : Pos} {whole : Sem Value} {Q : Bool → Heap → Prop}
    (x : Wp M A (isTrue e env (eval e env)) (fun c h' => (c = true → Wp M A (isTrue (.BoolOp .And rest pos) env whole) Q h') ∧ (c = false → Q false h')) h) :
    Wp M A (isTrue (.BoolOp .And (e :: rest) pos) env whole) Q h := by
  show Wp M A (do
    match BoolOp.And, ← isTrue e env (eval e env) with
    | .And, false => pure false
    | .Or, true => pure true
    | _, _ => allTrue .And rest env) Q h
  refine w_bind (x.mono fun c h' y => ?_)
  cases c with
  | false => exact w_pure (y.2 rfl)
  | true => exact y.1 rfl
theorem w_tAnd0 {pos : Pos} {whole : Sem Value} {Q : Bool → Heap → Prop} (k : Q true h) : Wp M A (isTrue (.BoolOp .And [] pos) env whole) Q h := w_pure (a := true) k
theorem w_ifExp {test body orelse : Expr} {pos : Pos} {Q : Value → Heap → Prop}
    (x : Wp M A (isTrue test env (eval test env)) (fun c h' => (c = true → Wp M A (eval body env) Q h') ∧ (c = false → Wp M A (eval orelse env) Q h')) h) :
    Wp M A (eval (.IfExp test body orelse pos) env) Q h := by
  rw [PyProof.Rows.eval_IfExp]
  refine w_bind (x.mono fun c h' y => ?_)
  cases c with
  | false => exact y.2 rfl
  | true => exact y.1 rfl

/-! ## statements -/
theorem w_nil {Q : Flow → Heap → Prop} (k : Q .next h) : Wp M A (execs [] env) Q h := w_pure k
theorem w_cons {st : Stmt} {rest : List Stmt} {Q : Flow → Heap → Prop}
    (x : Wp M A (exec st env) (fun f h' => match f with | .next => Wp M A (execs rest env) Q h' | f => Q f h') h) : Wp M A (execs (st :: rest) env) Q h := by
  rw [execs_cons]
  refine w_bind (x.mono fun f h' y => ?_)
  cases f <;> first | exact y | exact w_pure y
theorem w_if_ {test : Expr} {body orelse : List Stmt} {pos : Pos} {Q : Flow → Heap → Prop}
    (x : Wp M A (isTrue test env (eval test env)) (fun c h' => (c = true → Wp M A (execs body env) Q h') ∧ (c = false → Wp M A (execs orelse env) Q h')) h) :
    Wp M A (exec (.If test body orelse pos) env) Q h := by
  rw [exec_If]
  refine w_bind (w_standAt (w_bind (x.mono fun c h' y => ?_)))
  cases c with
  | false => exact y.2 rfl
  | true => exact y.1 rfl
theorem w_ret {e : Expr} {pos : Pos} {Q : Flow → Heap → Prop} (x : Wp M A (eval e env) (fun v => Q (.ret v)) h) : Wp M A (exec (.Return (some e) pos) env) Q h := by
  rw [exec_Return_some]
  exact w_bind (w_standAt (w_bind (x.mono fun _ _ y => w_pure y)))
theorem w_bindName {x : Str} {v : Value} {Q : Unit → Heap → Prop} (y : Wp M A (storeName env x v) Q h) : Wp M A (bindName env x v) Q h := fun s hs => wpAny_bindName (y s hs)
theorem w_asg {x : Str} {pos' : Pos} {value : Expr} {pos : Pos} {Q : Flow → Heap → Prop}
    (y : Wp M A (eval value env) (fun v h₁ => Wp M A (storeName env x v) (fun _ => Q .next) h₁) h)
    (hs : swapsWith value (some (.Name x pos')) pos.line env = pure false := by rfl) : Wp M A (exec (.Assign [.Name x pos'] value pos) env) Q h := by
  rw [exec_Assign_Name env x pos' value pos hs]
  exact w_bind (w_standAt (w_bind (y.mono fun _ _ z => w_bind (w_standAt (w_bind (w_bindName (z.mono fun _ _ u => w_pure u)))))))
theorem w_aug {x : Str} {pos' : Pos} {op : Operator} {value : Expr} {pos : Pos} {Q : Flow → Heap → Prop}
    (y : Wp M A (loadName env x) (fun old h₁ => Wp M A (eval value env) (fun v h₂ => Wp M A (inplaceOp op old v) (fun r h₃ => Wp M A (storeName env x r) (fun _ => Q .next) h₃) h₂) h₁) h) :
    Wp M A (exec (.AugAssign (.Name x pos') op value pos) env) Q h := by
  rw [exec_AugAssign_Name]
  exact w_bind (w_standAt (w_bind (y.mono fun _ _ z => w_bind (w_holding (z.mono fun _ _ u => w_bind (w_standAt (w_bind (w_operate (u.mono fun _ _ o => w_bind (w_standAt (w_bind (w_bindName (o.mono fun _ _ q => w_pure q)))))))))))))
/-- an expression as a statement whose value is no object -/
theorem w_expr {e : Expr} {pos : Pos} {Q : Flow → Heap → Prop} (x : Wp M A (eval e env) (fun v h' => (∀ a, v ≠ .ref a) ∧ Q .next h') h)
    (hi : interactive env = false := by rfl) (hs : swapsWith e none pos.line env = pure false := by rfl) : Wp M A (exec (.Expr e pos) env) Q h := by
  rw [exec_Expr env e pos hi hs]
  refine w_bind (w_standAt (w_bind (x.mono fun v h' y => ?_)))
  rw [dropValue_plain y.1]
  exact w_pure y.2
end

section
variable {prog : Program} {w : World} {A : Around} {h : Heap} {env : Env}
theorem w_while_ {test : Expr} {body orelse : List Stmt} {pos : Pos} {Q : Flow → Heap → Prop} (I : Nat → Heap → Prop) (n : Nat) (h0 : I n h)
    (turn : ∀ n h, I n h → Wp (model prog w) A (isTrue test env (eval test env)) (fun b h₂ =>
        (b = true → Wp (model prog w) A (execs body env) (fun f h₃ => match f with
            | .next | .cont => ∃ m, m < n ∧ I m h₃
            | .brk => Q .next h₃
            | .ret v => Q (.ret v) h₃) h₂) ∧
        (b = false → Wp (model prog w) A (execs orelse env) Q h₂)) h) :
    Wp (model prog w) A (exec (.While test body orelse pos) env) Q h := by
  intro s hs
  subst hs
  refine wpAny_While (codeAny_whileLoop (fun k s' => (s'.os = s.os ∧ s'.gens = s.gens) ∧ I k s'.heap) (fun n s' hI => ?_) n ⟨⟨rfl, rfl⟩, h0⟩)
  refine Wp.run (turn n s'.heap hI.2) (fun b s₂ o₂ g₂ hb => ?_)
  cases b with
  | true =>
    rw [if_pos rfl]
    refine Wp.run (hb.1 rfl) (fun f s₃ o₃ g₃ hf => ?_)
    have q : s₃.os = s.os ∧ s₃.gens = s.gens := ⟨(o₃.trans o₂).trans hI.1.1, (g₃.trans g₂).trans hI.1.2⟩
    cases f with
    | next => obtain ⟨m, hm, hi⟩ := hf; exact ⟨m, hm, q, hi⟩
    | cont => obtain ⟨m, hm, hi⟩ := hf; exact ⟨m, hm, q, hi⟩
    | brk => exact ⟨q, hf⟩
    | ret v => exact ⟨q, hf⟩
  | false =>
    rw [if_neg (by decide)]
    exact Wp.run (hb.2 rfl) (fun f s₃ o₃ g₃ hf => ⟨⟨(o₃.trans o₂).trans hI.1.1, (g₃.trans g₂).trans hI.1.2⟩, hf⟩)

/-! ## ints -/
theorem w_addInt {a b : Int} {t u : Tok} {Q : Value → Heap → Prop} (k : ∀ t, Q (.int (a + b) t) h) : Wp (model prog w) A (binaryOp .Add (.int a t) (.int b u)) Q h := fun s hs => by subst hs; exact wpAny_add_int ⟨⟨rfl, rfl⟩, k _⟩
theorem w_subInt {a b : Int} {t u : Tok} {Q : Value → Heap → Prop} (k : ∀ t, Q (.int (a - b) t) h) : Wp (model prog w) A (binaryOp .Sub (.int a t) (.int b u)) Q h := fun s hs => by subst hs; exact sub_int ⟨⟨rfl, rfl⟩, k _⟩
theorem w_divInt {a b : Int} {t u : Tok} {Q : Value → Heap → Prop} (hb : b ≠ 0) (k : ∀ t, Q (.int (a.fdiv b) t) h) (hz : b.natAbs < 1073741824 := by decide) : Wp (model prog w) A (binaryOp .FloorDiv (.int a t) (.int b u)) Q h := fun s hs => by subst hs; exact floordiv_int hb ⟨⟨rfl, rfl⟩, k _⟩ (Or.inl (PyProof.noPylong_small hz))
theorem w_modInt {a b : Int} {t u : Tok} {Q : Value → Heap → Prop} (hb : b ≠ 0) (k : ∀ t, Q (.int (a.fmod b) t) h) : Wp (model prog w) A (binaryOp .Mod (.int a t) (.int b u)) Q h := fun s hs => by subst hs; exact mod_int' hb ⟨⟨rfl, rfl⟩, k _⟩
theorem w_ltInt {a b : Int} {t u : Tok} {Q : Value → Heap → Prop} (k : Q (.bool (decide (a < b))) h) : Wp (model prog w) A (compareOp .Lt (.int a t) (.int b u)) Q h := fun s hs => by subst hs; exact wpAny_lt_int ⟨⟨rfl, rfl⟩, k⟩
theorem w_isNone {v : Value} {Q : Value → Heap → Prop} (k : Q (.bool (v == .none)) h) : Wp (model prog w) A (compareOp .Is v .none) Q h := fun s hs => by subst hs; exact is_none_gen ⟨⟨rfl, rfl⟩, k⟩

/-! ## lists -/
theorem w_lenList {l : Addr} {items : Array Value} {Q : Value → Heap → Prop} (hl : h.IsList l items) (hfit : (items.size : Int) < 2 ^ 63) (k : ∀ t, Q (.int items.size t) h) :
    Wp (model prog w) A (call (.builtin "len") [.ref l]) Q h := fun s hs => by subst hs; exact len_list hl hfit ⟨⟨rfl, rfl⟩, k _⟩
theorem w_sub {value slice : Expr} {pos : Pos} {Q : Value → Heap → Prop}
    (x : Wp (model prog w) A (eval value env) (fun o h₁ => Wp (model prog w) A (eval slice env) (fun i h₂ => Wp (model prog w) A (subscriptTail value slice o i) Q h₂) h₁) h) : Wp (model prog w) A (eval (.Subscript value slice pos) env) Q h := by
  intro s hs
  refine Subscript_ ?_
  refine wpAny_mono (x s hs) (fun o s₁ y => ?_) fun _ _ z => z
  refine wpAny_mono (y.2 s₁ rfl) (fun i s₂ z => ?_) fun _ _ z => z
  exact wpAny_mono (z.2 s₂ rfl) (fun r s₃ u => ⟨⟨u.1.1.trans (z.1.1.trans y.1.1), u.1.2.trans (z.1.2.trans y.1.2)⟩, u.2⟩) fun _ _ z => z
theorem w_itemList {value slice : Expr} {l : Addr} {items : Array Value} {j : Int} {u : Tok} {x : Value} {Q : Value → Heap → Prop} (hl : h.IsList l items)
    (h0 : 0 ≤ j) (hfit : j < 2 ^ 63) (hx : items[j.toNat]? = some x) (k : Q x h)
    (hs : subscripted slice false (.ref l) (.int j u) = operate [.ref l, .int j u] (getItem (.ref l) (.int j u)) := by with_unfolding_all rfl) (hg : ∀ r, letTemporaryGo value (.ref l) r = pure () := by intro _; with_unfolding_all rfl) :
    Wp (model prog w) A (subscriptTail value slice (.ref l) (.int j u)) Q h := fun s hs' => by subst hs'; exact item_list hl h0 hfit hx ⟨⟨rfl, rfl⟩, k⟩ hs hg
end

/-! ## calls -/
section
variable {M : Model} {A : Around} {h : Heap} {env : Env} {pos : Pos}
/-- who keeps a callee's arguments alive: a look -/
def Kp (M : Model) (h : Heap) (f : Value) : Prop := ∃ k, Looks M h (keeperOf f) k
theorem Kp.ext {h' : Heap} {f : Value} (x : Kp M h f) (k : Ext h h') : Kp M h' f := let ⟨a, b⟩ := x; ⟨a, b.keeps k⟩
theorem Kp.func {a : Addr} {o : Obj} {fd : FuncData} (ho : h.get? a = some o) (hd : o.data = .func fd) : Kp M h (.ref a) :=
  ⟨.frame, fun A Q E s k q => by unfold keeperOf; exact wpAny_bind (wpAny_load (k _ _ ho) (by rw [hd]; exact wpAny_pure q))⟩
theorem Kp.builtin (i : String) : Kp M h (.builtin i) := ⟨.machine, Looks.of_pure rfl⟩
theorem Kp.type (i : String) : Kp M h (.type i) := ⟨.machine, Looks.of_pure rfl⟩
theorem w_keep {vs : List Value} {t : Sem Value} {Q : Value → Heap → Prop} (x : Wp M A t Q h) : Wp M A (t.keep vs) Q h := fun s hs => Calls.wpAny_keep (x s hs)
theorem w_callWith {f : Value} {first : List Value} {args : List (Bool × Sem Value)} {keywords : List (Option Str × Sem Value)} {Q : Value → Heap → Prop}
    (x : Wp M A (evalArgs f true args keywords) (fun a h₁ => Kp M h₁ f ∧ Wp M A (call f (first ++ a.pos) a.kw) Q h₁) h) : Wp M A (callWith pos f first args keywords) Q h := by
  unfold callWith
  refine w_bind (w_holding (x.mono fun a h₁ y => w_bind (w_standAt ?_)))
  obtain ⟨⟨k, hk⟩, y⟩ := y
  have tail : ∀ {t : Sem Value}, Wp M A t Q h₁ → Wp M A (t >>= fun r => holding [r] point >>= fun _ => pure r) Q h₁ :=
    fun ht => w_bind (ht.mono fun r h₂ hr => w_bind (w_holding (w_point (w_pure hr))))
  have marked (mk : Value) : Wp M A (callMarked mk f (first ++ a.pos) a.kw) Q h₁ := by unfold callMarked; exact w_keep y
  cases hs : (args.any (·.1) || keywords.any (·.1.isNone)) <;> dsimp only <;> refine w_bind (w_looks hk ?_) <;> cases k <;> dsimp only <;>
    first | exact tail y | exact tail (marked _) | exact tail (w_operate y) | (split <;> first | exact tail y | exact tail (marked _))
theorem w_callN {id : Str} {p : Pos} {args : List Expr} {kws : List Keyword} {Q : Value → Heap → Prop}
    (x : Wp M A (eval (.Name id p) env) (fun f h₁ => Wp M A (callWith pos f [] (backTo pos (starEach args env)) (backToKw pos (keywordEach kws env))) Q h₁) h) :
    Wp M A (eval (.Call (.Name id p) args kws pos) env) Q h := by
  rw [arm_eval_Call_Name']
  exact w_bind x
theorem w_arg {e : Expr} {rest : List Expr} {Q : List Value → Heap → Prop}
    (x : Wp M A (eval e env) (fun v h₁ => Wp M A (spliced (backTo pos (starEach rest env))) (fun vs h₂ => Q (v :: vs) h₂) h₁) h)
    (he : starEach (e :: rest) env = (false, eval e env) :: starEach rest env := by rfl) : Wp M A (spliced (backTo pos (starEach (e :: rest) env))) Q h := by
  rw [he]
  show Wp M A (do
    let v ← eval e env
    let here ← (pure [v] : Sem (List Value))
    return here ++ (← holding here (spliced (backTo pos (starEach rest env))))) Q h
  exact w_bind (x.mono fun v h₁ y => w_bind (w_pure (w_bind (w_holding (y.mono fun vs h₂ z => w_pure z)))))
theorem w_arg0 {Q : List Value → Heap → Prop} (k : Q [] h) : Wp M A (spliced (backTo pos (starEach [] env))) Q h := w_pure k
theorem w_kw0 {Q : List Value → Heap → Prop} (k : Q [] h) : Wp M A (evalAll ((backToKw pos (keywordEach [] env)).map (·.2))) Q h := w_pure k
theorem w_kw {n : Option Str} {e : Expr} {p : Pos} {rest : List Keyword} {Q : List Value → Heap → Prop}
    (x : Wp M A (eval e env) (fun v h₁ => Wp M A (evalAll ((backToKw pos (keywordEach rest env)).map (·.2))) (fun vs h₂ => Q (v :: vs) h₂) h₁) h) :
    Wp M A (evalAll ((backToKw pos (keywordEach (⟨n, e, p⟩ :: rest) env)).map (·.2))) Q h := by
  show Wp M A (do
    let v ← (do let v ← eval e env; standAt pos; pure v)
    return v :: (← holding [v] (evalAll ((backToKw pos (keywordEach rest env)).map (·.2))))) Q h
  refine w_bind (w_bind (x.mono fun v h₁ y => w_bind (w_standAt (w_pure ?_))))
  exact w_bind (w_holding (y.mono fun vs h₂ z => w_pure z))
theorem w_evalArgs {f : Value} {e : Expr} {es : List Expr} {kws : List Keyword} {Q : Args → Heap → Prop}
    (x : Wp M A (spliced (backTo pos (starEach (e :: es) env))) (fun vs h₁ => Wp M A (evalAll ((backToKw pos (keywordEach kws env)).map (·.2))) (fun ks h₂ => Q ⟨vs, ((backToKw pos (keywordEach kws env)).filterMap (·.1)).zip ks⟩ h₂) h₁) h)
    (hall : (backToKw pos (keywordEach kws env)).all (·.1.isSome) = true := by rfl) (he : starEach (e :: es) env = (false, eval e env) :: starEach es env := by rfl) :
    Wp M A (evalArgs f true (backTo pos (starEach (e :: es) env)) (backToKw pos (keywordEach kws env))) Q h := by
  intro s hs
  have hb : backTo pos (starEach (e :: es) env) = (false, eval e env) :: backTo pos (starEach es env) := by rw [he]; rfl
  rw [hb]
  refine evalArgs_kw hall ?_
  rw [← hb]
  refine wpAny_mono (x s hs) (fun vs s₁ y => ?_) fun _ _ z => z
  exact wpAny_mono (y.2 s₁ rfl) (fun ks s₂ z => ⟨⟨z.1.1.trans y.1.1, z.1.2.trans y.1.2⟩, z.2⟩) fun _ _ z => z
theorem w_evalArgs0 {f : Value} {kws : List Keyword} {Q : Args → Heap → Prop}
    (x : Wp M A (evalAll ((backToKw pos (keywordEach kws env)).map (·.2))) (fun ks h₂ => Q ⟨[], ((backToKw pos (keywordEach kws env)).filterMap (·.1)).zip ks⟩ h₂) h)
    (hall : (backToKw pos (keywordEach kws env)).all (·.1.isSome) = true := by rfl) :
    Wp M A (evalArgs f true (backTo pos (starEach [] env)) (backToKw pos (keywordEach kws env))) Q h := by
  intro s hs
  refine evalArgs_kw_nil hall ?_
  exact x s hs
/-- a call with positional arguments and keywords: the arguments from left to right, then the call -/
theorem w_args {f : Value} {first : List Value} {e : Expr} {es : List Expr} {kws : List Keyword} {Q : Value → Heap → Prop}
    (x : Wp M A (spliced (backTo pos (starEach (e :: es) env))) (fun vs h₁ => Wp M A (evalAll ((backToKw pos (keywordEach kws env)).map (·.2)))
      (fun ks h₂ => Kp M h₂ f ∧ Wp M A (call f (first ++ vs) (((backToKw pos (keywordEach kws env)).filterMap (·.1)).zip ks)) Q h₂) h₁) h)
    (hall : (backToKw pos (keywordEach kws env)).all (·.1.isSome) = true := by rfl) (he : starEach (e :: es) env = (false, eval e env) :: starEach es env := by rfl) :
    Wp M A (callWith pos f first (backTo pos (starEach (e :: es) env)) (backToKw pos (keywordEach kws env))) Q h := w_callWith (w_evalArgs x hall he)
theorem w_args0 {f : Value} {first : List Value} {Q : Value → Heap → Prop} (hk : Kp M h f) (x : Wp M A (call f (first ++ []) []) Q h) :
    Wp M A (callWith pos f first (backTo pos (starEach [] env)) (backToKw pos (keywordEach [] env))) Q h := w_callWith (w_evalArgs0 (w_kw0 ⟨hk, x⟩))
end

section
variable {prog : Program} {w : World} {A : Around} {h : Heap}
/-- a code that ends in a value -/
def Wc (M : Model) (A : Around) (c : Code) (Q : Value → Heap → Prop) (h : Heap) : Prop :=
  ∀ s : Shared, s.heap = h → codeAny M A c (fun r s' => match r with | .ok (.ret v) => (s'.os = s.os ∧ s'.gens = s.gens) ∧ Q v s'.heap | .ok _ => False | .error _ => False) s
theorem w_call {M : Model} {f : Value} {pos : List Value} {kw : List (Str × Value)} {Q : Value → Heap → Prop} (x : Wc M A (.call f ⟨pos, kw⟩) Q h) : Wp M A (call f pos kw) Q h :=
  fun s hs => wpAny_call (codeAny_mono (x s hs) fun r s' y => by rcases r with e | (v | _ | _ | _) <;> first | exact y | exact y.elim)
theorem Wc.mono {M : Model} {c : Code} {Q Q' : Value → Heap → Prop} (x : Wc M A c Q h) (k : ∀ a h', Q a h' → Q' a h') : Wc M A c Q' h :=
  fun s hs => codeAny_mono (x s hs) fun r s' y => by rcases r with e | (_ | _ | _ | v) <;> first | exact y.elim | exact ⟨y.1, k _ _ y.2⟩
/-- a plain def is called: its frame lies at the heap's end -/
theorem c_callDef {fa : Addr} {o : Obj} {fd : FuncData} {body : List Stmt} {pos : List Value} {kw : List (Str × Value)} {binds : List (Str × Value)} {Q : Value → Heap → Prop}
    (hroom : A.depth < recursionLimit) (ho : h.get? fa = some o) (hd : o.data = .func fd) (hlim : h.NoLimit) (hcd : h.CodeRec fd.code fd.qualname) (hbody : fd.body = .stmts body)
    (hb : ∀ s : Shared, s.heap = h → BindsTo s fd ⟨pos, kw⟩ binds) (hcell : ∀ x ∈ fd.scope.names, x.2 ≠ .cell) (hloc : ∀ x ∈ binds, fd.scope.names.lookup x.1 = some .local)
    (x : ∀ L h₁, L = h.objs.size → Fr h L h₁ (fun y => binds.reverse.lookup y) →
      Wp (model prog w) (A.deeper (callEnv fd L fa)) (execs body (callEnv fd L fa)) (fun f h' => Q (match f with | .ret v => v | _ => .none) h') h₁)
    (hco : fd.scope.isCoroutine = false := by rfl) (hgen : fd.scope.isGenerator = false := by rfl) (hk : fd.scope.kind = .function := by rfl) :
    Wc (model prog w) A (.call (.ref fa) ⟨pos, kw⟩) Q h := by
  intro s hs
  subst hs
  refine codeAny_call_def hroom ho hd hlim hcd hbody (hb s rfl) hcell hloc (fun h₀ hns hk₀ => ?_) hco hgen hk
  refine Wp.run (x s.heap.objs.size h₀ rfl ⟨hns, hk₀, Nat.le_refl _⟩) (fun f s' o g q => ?_)
  exact ⟨⟨o, g⟩, q⟩
end

theorem IsList.ext {h h' : Heap} {l : Addr} {items : Array Value} (hl : h.IsList l items) (k : Ext h h') : h'.IsList l items := let ⟨o, ho, r⟩ := hl; ⟨o, k _ _ ho, r⟩

/-- in every later heap the comparison v < x gives b and adds objects alone -/
def CmpLt (n : Nat) (prog : Program) (w : World) (h : Heap) (v x : Value) (b : Bool) : Prop :=
  ∀ (A : Around) (h' : Heap) (Q : Value → Heap → Prop), OkA n A → Ext h h' → (∀ h'', Ext h' h'' → Q (.bool b) h'') → Wp (model prog w) A (compareOp .Lt v x) Q h'
theorem CmpLt.ext {n : Nat} {prog : Program} {w : World} {h h' : Heap} {v x : Value} {b : Bool} (c : CmpLt n prog w h v x b) (k : Ext h h') : CmpLt n prog w h' v x b :=
  fun A s Q ok e q => c A s Q ok (k.trans e) q
def KeyIs (n : Nat) (prog : Program) (w : World) (h : Heap) (key v kv : Value) : Prop :=
  ∀ (A : Around) (h' : Heap) (Q : Value → Heap → Prop), OkA n A → Ext h h' → (∀ h'', Ext h' h'' → Q kv h'') → Wp (model prog w) A (call key [v]) Q h'
theorem KeyIs.ext {n : Nat} {prog : Program} {w : World} {h h' : Heap} {key v kv : Value} (c : KeyIs n prog w h key v kv) (k : Ext h h') : KeyIs n prog w h' key v kv :=
  fun A s Q ok e q => c A s Q ok (k.trans e) q
end Mine
end
section
open PySem PySem.W PyProof.Rows
set_option Elab.async false
namespace Mine
/-- the top is checked at once, not in pieces: the compiled text gets smaller by far -/
abbrev LeftAll (p q : Program) (loose : List Str) (Xt : Shared → Bool) {α : Type} (Yf : Shared → α) (Ya : World → α) (N : Nat) : Prop := LeftO p q loose Xt Yf Ya N
theorem PySem.W.holds_open {r : OpenRow} {q : Program} {loose : List Str} {Xt : Shared → Bool} {XP : (Str → Option Value) → Heap → Prop} {α : Type} {Yf : Shared → α} {Ya : World → α} {YP : World → Heap → Prop} {d : DefRec} {kwd : List (Str × Expr)} {N : Nat}
    (left : LeftAll r.prog q loose Xt Yf Ya N) (hY : ∀ w s, Yf s = Ya w → YP w s.heap) (hYk : ∀ w h h', YP w h → (∀ b o, h.get? b = some o → h'.get? b = some o) → YP w h')
    (hX : ∀ s, Xt s = true → XP (s.heap.nsMap mainGlobals) s.heap) (hXk : ∀ mg h h', XP mg h → (∀ b o, h.get? b = some o → h'.get? b = some o) → XP mg h')
    (hdef : defOf q r.name = some (d, kwd)) (hp : r.prog.theDef r.name = some (d.params, d.body, d.scope)) (hk : kwWritten? d.params.kwonlyargs d.params.kw_defaults = some kwd) (hRf : ∀ s, Xt s = true → RecFacts r.records s.heap) (hwr : (!r.writes || r.records.isEmpty) = true)
    (k1 : r.wellSaid = true) (ok : (chainsOk q && opensWell r.prog && (frees r.toRowW && r.within.isEmpty)) = true) (hb : r.prog.bare) (hw : r.toRowW.promised)
    (call : WalkO q loose XP YP r.toRowW d kwd fun f vs => PySem.call f vs) : r.Holds := _root_.PySem.W.holds_open left hY hYk hX hXk hdef hp hk hRf hwr k1 ok hb hw call
set_option maxRecDepth 100000 in
set_option maxHeartbeats 8000000 in
open_top hd for PySem.Challenge.rw_pk0071_01.row
set_option maxRecDepth 100000 in
theorem said : PySem.Challenge.rw_pk0071_01.wellSaid = true := by decide +kernel
end Mine
end
section
open PySem PySem.W PyProof.Rows
set_option Elab.async false
set_option maxRecDepth 100000
set_option linter.unusedVariables false
namespace Mine

/-! ## lists -/
abbrev lst (vs : List Value) (n : Nat) : Obj := { cls := .type "list", data := .seq vs.toArray n }
def Ls (h : Heap) (a : Addr) (vs : List Value) : Prop := ∃ n, h.get? a = some (lst vs n)
theorem Ls.isList {h : Heap} {a : Addr} {vs : List Value} (x : Ls h a vs) : h.IsList a vs.toArray := let ⟨n, e⟩ := x; ⟨_, e, rfl, n, rfl⟩
theorem Ls.ext {h h' : Heap} {a : Addr} {vs : List Value} (x : Ls h a vs) (k : Ext h h') : Ls h' a vs := let ⟨n, e⟩ := x; ⟨n, k _ _ e⟩
theorem Ls.same {h h' : Heap} {a b : Addr} {vs : List Value} (x : Ls h a vs) (k : Heap.SameBut b h h') (hab : a ≠ b) : Ls h' a vs := let ⟨n, e⟩ := x; ⟨n, (k.2 a hab).trans e⟩
theorem Ls.lt {h : Heap} {a : Addr} {vs : List Value} (x : Ls h a vs) : a < h.objs.size := let ⟨_, e⟩ := x; Heap.lt_size e
theorem Ls.upd {h : Heap} {a : Addr} {vs vs' : List Value} {n : Nat} (x : h.get? a = some (lst vs n)) (f : Array Value → Array Value) (he : f vs.toArray = vs'.toArray) : Ls (h.update a (Obj.mapSeq f)) a vs' :=
  ⟨_, by have := IsL.update (l := a) (items := vs.toArray) (n := n) x f; rw [he] at this; exact this⟩
theorem Ls.inj {h : Heap} {a : Addr} {vs vs' : List Value} (x : Ls h a vs) (y : Ls h a vs') : vs = vs' := by
  obtain ⟨n, e⟩ := x
  obtain ⟨n', e'⟩ := y
  rw [e] at e'
  injection e' with e'
  injection e' with _ _ e' _
  injection e' with e' _
  simpa using e'
theorem Ls.new (h : Heap) (vs : List Value) : Ls (h.push (lst vs 0)) h.objs.size vs := ⟨0, Heap.get?_push_size _ rfl⟩

section
variable {prog : Program} {w : World} {A : Around} {h : Heap} {env : Env}
/-- the value is of the built-in type -/
def Ty (h : Heap) (v : Value) (T : String) : Prop := ∀ s : Shared, s.heap = h → s.TypeIs v T
theorem Ls.ty {a : Addr} {vs : List Value} (x : Ls h a vs) : Ty h (.ref a) "list" := fun s hs => by obtain ⟨n, e⟩ := x; subst hs; exact ⟨_, e, rfl⟩
/-- a method of a built-in type by its name -/
theorem w_meth {o : Expr} {name : Str} {apos pos : Pos} {args : List Expr} {T id : String} {Q : Value → Heap → Prop}
    (pa : PlainAttrs T) (slot : Slot T name id) (hty : typeOf (.builtin id) = pure (.type "method_descriptor"))
    (x : Wp (model prog w) A (eval o env) (fun ov h₁ => Ty h₁ ov T ∧ (∀ a, ov = .ref a → ∃ ob, h₁.get? a = some ob ∧ ob.dict = none) ∧
      Wp (model prog w) A (callWith pos (.builtin id) [ov] (backTo pos (starEach args env)) (backToKw pos (keywordEach [] env))) Q h₁) h)
    (hbase : attributeBase o name env (eval o env) = eval o env := by rfl)
    (hfew : ((backTo pos (starEach args env)).all (fun x => !x.1) && (backToKw pos (keywordEach [] env)).all (fun x => x.1.isSome)
      && decide (args.length + ([] : List Keyword).length + (if ([] : List Keyword).isEmpty then 0 else 1) < 30)) = true := by rfl)
    (hline : (apos.endLine == pos.line) = true := by rfl) :
    Wp (model prog w) A (eval (.Call (.Attribute o name apos) args [] pos) env) Q h := by
  intro s hs
  refine wpAny_Call_method hbase hfew hline pa slot hty ?_
  refine wpAny_mono (x s hs) (fun ov s₁ y => ?_) fun _ _ z => z
  refine ⟨y.2.1 s₁ rfl, y.2.2.1, ?_⟩
  exact wpAny_mono (y.2.2.2 s₁ rfl) (fun v s₂ z => ⟨⟨z.1.1.trans y.1.1, z.1.2.trans y.1.2⟩, z.2⟩) fun _ _ z => z

theorem w_append {l : Addr} {vs : List Value} {x : Value} {Q : Value → Heap → Prop} (hl : Ls h l vs) (hz : vs.length ≤ sizeLine)
    (k : ∀ h', Ls h' l (vs ++ [x]) → Heap.SameBut l h h' → Q .none h') : Wp (model prog w) A (call (.builtin "list.append") [.ref l, x]) Q h := fun s hs => by
  subst hs
  obtain ⟨n, e⟩ := hl
  exact call_meets PySem.F.slot_list_append ⟨_, e, rfl⟩ PySem.F.entry_list_append (PySem.F.args_list_append_2 _ _) (PySem.AutoListH.list_append_list_val_0 l vs.toArray n x (by simpa using hz))
    ⟨e, ⟨rfl, rfl⟩, k _ (Ls.upd e _ (by simp)) (Heap.SameBut.update ..)⟩

theorem fits_nat {i : Nat} (hi : i < 2 ^ 62) : Builtin.List.listFitsIndex (i : Int) = true := by
  unfold Builtin.List.listFitsIndex; simp; lia
theorem insert_eq (vs : List Value) (x : Value) {i : Nat} (hi : i ≤ vs.length) :
    (have k := if (i : Int) < 0 then ((i : Int) + ((vs.toArray.size : Nat) : Int)).toNat else min (i : Int).toNat vs.toArray.size; (vs.toArray.extract 0 k).push x ++ vs.toArray.extract k) = (vs.take i ++ x :: vs.drop i).toArray := by
  have e : (if (i : Int) < 0 then ((i : Int) + ((vs.toArray.size : Nat) : Int)).toNat else min (i : Int).toNat vs.toArray.size) = i := by
    rw [if_neg (by lia), Int.toNat_natCast, List.size_toArray]; lia
  show (vs.toArray.extract 0 (if (i : Int) < 0 then _ else _)).push x ++ vs.toArray.extract (if (i : Int) < 0 then _ else _) = _
  rw [e]
  apply Array.ext'
  simp [List.extract_eq_take_drop, List.take_of_length_le]
theorem w_insert {l : Addr} {vs : List Value} {x : Value} {i : Nat} {t : Tok} {Q : Value → Heap → Prop} (hl : Ls h l vs) (hi : i ≤ vs.length) (hz : vs.length ≤ sizeLine)
    (k : ∀ h', Ls h' l (vs.take i ++ x :: vs.drop i) → Heap.SameBut l h h' → Q .none h') : Wp (model prog w) A (call (.builtin "list.insert") [.ref l, .int i t, x]) Q h := fun s hs => by
  subst hs
  obtain ⟨n, e⟩ := hl
  have hz2 : vs.length < 2 ^ 62 := by rw [sizeLine_eq] at hz; lia
  have hf := fits_nat (i := i) (by lia)
  have ie := insert_eq vs x hi
  revert hf ie
  generalize (i : Int) = j
  intro hf ie
  have g := PySem.AutoListH.list_insert_list_int_val_1 l vs.toArray n j t x (by rw [hf]; decide) (by simpa using hz)
  refine call_meets PySem.F.slot_list_insert ⟨_, e, rfl⟩ PySem.F.entry_list_insert (PySem.F.args_list_insert_3 _ _ _) g ?_
  refine ⟨e, ⟨rfl, rfl⟩, ?_⟩
  exact k _ (Ls.upd e _ ie) (Heap.SameBut.update ..)
theorem w_popAt {l : Addr} {vs : List Value} {i : Nat} {t : Tok} {y : Value} {Q : Value → Heap → Prop} (hl : Ls h l vs) (hy : vs[i]? = some y) (hz : vs.length ≤ sizeLine)
    (k : ∀ h', Ls h' l (vs.eraseIdx i) → Heap.SameBut l h h' → Q y h') : Wp (model prog w) A (call (.builtin "list.pop") [.ref l, .int i t]) Q h := fun s hs => by
  subst hs
  obtain ⟨n, e⟩ := hl
  have hi : i < vs.length := by
    rcases Nat.lt_or_ge i vs.length with q | q
    · exact q
    · rw [List.getElem?_eq_none q] at hy; cases hy
  have hz2 : vs.length < 2 ^ 62 := by rw [sizeLine_eq] at hz; lia
  have hk : seqIndex? (i : Int) vs.toArray.size = some i := by
    unfold seqIndex?; simp [hi]; lia
  have hf := fits_nat (i := i) (by lia)
  revert hf hk
  generalize (i : Int) = j
  intro hk hf
  have g := PySem.MeetsSeq.list_pop_at l vs.toArray n j t i y hf hk (by simpa using hy) (by simpa using hz)
  refine call_meets PySem.F.slot_list_pop ⟨_, e, rfl⟩ PySem.F.entry_list_pop (PySem.F.args_list_pop_2 _ _) g ?_
  refine ⟨e, ⟨rfl, rfl⟩, k _ (Ls.upd e _ ?_) (Heap.SameBut.update ..)⟩
  simp [Array.eraseIdxIfInBounds, hi]
end
end Mine
end
section
open PySem PySem.W PyProof.Rows
set_option Elab.async false
set_option maxRecDepth 100000
set_option linter.unusedVariables false
namespace Mine
noncomputable abbrev KH (w : World) : Frag := Mine.hd.heap_1 w.params
abbrev aBR : Addr := 32
abbrev aBL : Addr := 50

structure G0 (w : World) (mg mb : Str → Option Value) (h : Heap) : Prop where
  K : (KH w).In h
  lim : h.NoLimit
  g : h.Ns mainGlobals mg
  b : h.Ns builtinsNs mb
  bb : ∀ x : Str, x ≠ "__name__" → mb x = bootBuiltins x
theorem G0.ext {w : World} {mg mb : Str → Option Value} {h h' : Heap} (g : G0 w mg mb h) (k : Ext h h') : G0 w mg mb h' :=
  ⟨g.K.keeps k, g.lim.keeps k, g.g.keeps k, g.b.keeps k, g.bb⟩

noncomputable def fnAt (w : World) (a : Addr) : FuncData := match (KH w).lookup a with
  | some ⟨_, _, .func fd, _⟩ => fd
  | _ => default
noncomputable def bodyAt (w : World) (a : Addr) : List Stmt := match (fnAt w a).body with
  | .stmts b => b
  | _ => []
noncomputable def objAt (w : World) (a : Addr) : Obj := ((KH w).lookup a).getD default
/-- the token of a def's first default -/
noncomputable def dtok (w : World) (a : Addr) : Tok := match (fnAt w a).defaults with
  | .ref d => (match (objAt w d).data with
    | .seq xs _ => (match (xs.toList.headD Value.none) with | Value.int _ t => t | _ => 0)
    | _ => 0)
  | _ => 0
noncomputable def envAt (w : World) (a L : Addr) : Env := callEnv (fnAt w a) L a


section
variable {prog : Program} {w : World} {A : Around} {h : Heap} {mg mb : Str → Option Value} {env : Env}
theorem w_gK {x : Str} {pos : Pos} {v : Value} {Q : Value → Heap → Prop} (G : G0 w mg mb h) (e : nsIn (KH w) mainGlobals x = some (some v)) (k : Q v h)
    (hk : env.scope.kind = .function := by rfl) (hl : env.kindOf x = some .globalImplicit := by rfl) (hg : env.globals = mainGlobals := by rfl) (hd : (x == ("__debug__" : Str)) = false := by decide) :
    Wp (model prog w) A (eval (.Name x pos) env) Q h := w_nmG (hg ▸ G.g) (mg_of G.K G.g e) k hk hl hd
theorem w_gB {x : Str} {pos : Pos} {v : Value} {Q : Value → Heap → Prop} (G : G0 w mg mb h) (e : nsIn (KH w) mainGlobals x = some none) (hv : bootBuiltins x = some v) (hn : x ≠ "__name__") (k : Q v h)
    (hk : env.scope.kind = .function := by rfl) (hl : env.kindOf x = some .globalImplicit := by rfl) (hg : env.globals = mainGlobals := by rfl) (hbl : env.builtins = builtinsNs := by rfl) (hd : (x == ("__debug__" : Str)) = false := by decide) :
    Wp (model prog w) A (eval (.Name x pos) env) Q h := w_nmB (hg ▸ G.g) (mg_none_of G.K G.g e) (hbl ▸ G.b) ((G.bb x hn).trans hv) k hk hl hd
/-- a call of one of the text's own defs -/
theorem c_callK {fa : Addr} {pos : List Value} {kw : List (Str × Value)} {binds : List (Str × Value)} {Q : Value → Heap → Prop} {n : Nat} (G : G0 w mg mb h) (ok : OkA (n + 1) A)
    (ho : (KH w).lookup fa = some (objAt w fa)) (hd : (objAt w fa).data = .func (fnAt w fa)) (hcd : codeIn (KH w) (fnAt w fa).code (fnAt w fa).qualname = true) (hbody : (fnAt w fa).body = .stmts (bodyAt w fa))
    (hb : ∀ S, peek (KH w) S (bindArgs (fnAt w fa) ⟨pos, kw⟩) = some binds) (hcell : ((fnAt w fa).scope.names.all fun x => x.2 != .cell) = true) (hloc : (binds.all fun x => decide ((fnAt w fa).scope.names.lookup x.1 = some .local)) = true)
    (x : ∀ L h₁, Fr h L h₁ (fun y => binds.reverse.lookup y) → OkA n (A.deeper (envAt w fa L)) →
      Wp (model prog w) (A.deeper (envAt w fa L)) (execs (bodyAt w fa) (envAt w fa L)) (fun f h' => Q (match f with | .ret v => v | _ => .none) h') h₁)
    (hco : (fnAt w fa).scope.isCoroutine = false := by rfl) (hgen : (fnAt w fa).scope.isGenerator = false := by rfl) (hk : (fnAt w fa).scope.kind = .function := by rfl) :
    Wc (model prog w) A (.call (.ref fa) ⟨pos, kw⟩) Q h :=
  c_callDef (by have := ok.depth; lia) (G.K _ _ ho) hd G.lim (codeRec_of G.K hcd) hbody (fun s hs => kp_binds (hs ▸ G.K) hb) (fun x hx => by simpa using List.all_eq_true.mp hcell x hx) (locs hloc) (fun L h₁ _ F => x L h₁ F (ok.deeper _)) hco hgen hk
end

theorem mid_eq (a b : Nat) : ((a : Int) + (b : Int)).fdiv 2 = (((a + b) / 2 : Nat) : Int) := by
  rw [Int.fdiv_eq_ediv_of_nonneg _ (by decide)]; lia

abbrev nA : Str := Str.ofString "a"
abbrev nX : Str := Str.ofString "x"
abbrev nLo : Str := Str.ofString "lo"
abbrev nHi : Str := Str.ofString "hi"
abbrev nKey : Str := Str.ofString "key"

/-- the locals of a search -/
structure BisM (m : Str → Option Value) (la : Addr) (x key : Value) (lo hi : Nat) : Prop where
  a : m nA = some (.ref la)
  x : m nX = some x
  key : m nKey = some key
  lo : ∃ t, m nLo = some (.int lo t)
  hi : ∃ t, m nHi = some (.int hi t)
section
variable {prog : Program} {w : World} {A : Around} {h : Heap} {mg mb : Str → Option Value}

set_option maxHeartbeats 1000000 in
theorem bl_nokey {base : Heap} {L la : Addr} {m : Str → Option Value} {vs : List Value} {x : Value} {lo hi r : Nat} {less : Nat → Bool} {Q : Flow → Heap → Prop} {n : Nat}
    (F : Fr base L h m) (hla : base.IsList la vs.toArray) (B : BisM m la x .none lo hi) (ok : OkA n A)
    (h1 : lo ≤ r) (h2 : r ≤ hi) (h3 : hi ≤ vs.length) (hsz : vs.length < 2 ^ 62)
    (hl : ∀ i, lo ≤ i → i < r → less i = true) (hr : ∀ i, r ≤ i → i < hi → less i = false)
    (hc : ∀ i v, vs[i]? = some v → CmpLt n prog w base v x (less i))
    (hQ : ∀ h' t, Ext base h' → Q (.ret (.int r t)) h') :
    Wp (model prog w) A (execs ((bodyAt w aBL).drop 2) (envAt w aBL L)) Q h := by
  refine w_cons ?_
  refine w_if_ ?_
  refine w_tCmp ?_
  refine w_nm F.ns B.key ?_
  refine w_cNone ?_
  refine w_isNone ?_
  refine w_tBool ⟨fun _ => ?_, fun e => by cases e⟩
  refine w_cons ?_
  refine w_while_ (fun k h' => ∃ m' lo' hi', Fr base L h' m' ∧ BisM m' la x .none lo' hi' ∧ lo ≤ lo' ∧ lo' ≤ r ∧ r ≤ hi' ∧ hi' ≤ hi ∧ k = hi' - lo') (hi - lo)
    ⟨m, lo, hi, F, B, Nat.le_refl _, h1, h2, Nat.le_refl _, rfl⟩ ?_
  rintro k h' ⟨m', lo', hi', F', B', g1, g2, g3, g4, rfl⟩
  obtain ⟨tl, hlo⟩ := B'.lo
  obtain ⟨th, hhi⟩ := B'.hi
  refine w_tCmp ?_
  refine w_nm F'.ns hlo ?_
  refine w_nm F'.ns hhi ?_
  refine w_ltInt ?_
  refine w_tBool ⟨fun hlt => ?_, fun hlt => ?_⟩
  · have hlt : lo' < hi' := by simpa using hlt
    refine w_cons ?_
    refine w_asg ?_
    refine w_binOp ?_
    refine w_binOp ?_
    refine w_nm F'.ns hlo ?_
    refine w_nm F'.ns hhi ?_
    refine w_addInt fun _ => ?_
    refine w_cInt fun _ => ?_
    refine w_divInt (by decide) fun tm => ?_
    rw [mid_eq]
    refine w_st F' fun h1 F1 => ?_
    have hm : (lo' + hi') / 2 < vs.length := by lia
    have hv : vs.toArray[((((lo' + hi') / 2 : Nat) : Int)).toNat]? = some vs[(lo' + hi') / 2] := by rw [Int.toNat_natCast]; simp [hm]
    refine w_cons ?_
    refine w_if_ ?_
    refine w_tCmp ?_
    refine w_sub ?_
    refine w_nm F1.ns B'.a ?_
    refine w_nm F1.ns rfl ?_
    refine w_itemList (IsList.ext hla F1.keep) (by lia) (by lia) hv ?_
    refine w_nm F1.ns B'.x ?_
    refine hc _ _ (List.getElem?_eq_getElem hm) _ _ _ ok F1.keep fun h2 e2 => ?_
    have F2 := F1.kept e2
    refine w_tBool ⟨fun hle => ?_, fun hle => ?_⟩
    · refine w_cons ?_
      refine w_asg ?_
      refine w_binOp ?_
      refine w_nm F2.ns rfl ?_
      refine w_cInt fun _ => ?_
      refine w_addInt fun _ => ?_
      refine w_st F2 fun h3 F3 => ?_
      refine w_nil ?_
      refine w_nil ?_
      refine ⟨_, ?_, _, (lo' + hi') / 2 + 1, hi', F3, ⟨B'.a, B'.x, B'.key, ⟨_, rfl⟩, B'.hi⟩, by lia, ?_, g3, g4, rfl⟩
      · lia
      · have := hr ((lo' + hi') / 2)
        rcases Nat.lt_or_ge ((lo' + hi') / 2) r with q | q
        · lia
        · rw [this q (by lia)] at hle; cases hle
    · refine w_cons ?_
      refine w_asg ?_
      refine w_nm F2.ns rfl ?_
      refine w_st F2 fun h3 F3 => ?_
      refine w_nil ?_
      refine w_nil ?_
      refine ⟨_, ?_, _, lo', (lo' + hi') / 2, F3, ⟨B'.a, B'.x, B'.key, B'.lo, ⟨_, rfl⟩⟩, g1, g2, ?_, by lia, rfl⟩
      · lia
      · have := hl ((lo' + hi') / 2)
        rcases Nat.lt_or_ge ((lo' + hi') / 2) r with q | q
        · rw [this (by lia) q] at hle; cases hle
        · lia
  · have hlt : ¬ lo' < hi' := by simpa using hlt
    refine w_nil ?_
    refine w_nil ?_
    refine w_cons ?_
    refine w_ret ?_
    have e : lo' = r := by lia
    subst e
    refine w_nm F'.ns hlo ?_
    exact hQ _ _ F'.keep

set_option maxHeartbeats 1000000 in
theorem br_nokey {base : Heap} {L la : Addr} {m : Str → Option Value} {vs : List Value} {x : Value} {lo hi r : Nat} {less : Nat → Bool} {Q : Flow → Heap → Prop} {n : Nat}
    (F : Fr base L h m) (hla : base.IsList la vs.toArray) (B : BisM m la x .none lo hi) (ok : OkA n A)
    (h1 : lo ≤ r) (h2 : r ≤ hi) (h3 : hi ≤ vs.length) (hsz : vs.length < 2 ^ 62)
    (hl : ∀ i, lo ≤ i → i < r → less i = false) (hr : ∀ i, r ≤ i → i < hi → less i = true)
    (hc : ∀ i v, vs[i]? = some v → CmpLt n prog w base x v (less i))
    (hQ : ∀ h' t, Ext base h' → Q (.ret (.int r t)) h') :
    Wp (model prog w) A (execs ((bodyAt w aBR).drop 2) (envAt w aBR L)) Q h := by
  refine w_cons ?_
  refine w_if_ ?_
  refine w_tCmp ?_
  refine w_nm F.ns B.key ?_
  refine w_cNone ?_
  refine w_isNone ?_
  refine w_tBool ⟨fun _ => ?_, fun e => by cases e⟩
  refine w_cons ?_
  refine w_while_ (fun k h' => ∃ m' lo' hi', Fr base L h' m' ∧ BisM m' la x .none lo' hi' ∧ lo ≤ lo' ∧ lo' ≤ r ∧ r ≤ hi' ∧ hi' ≤ hi ∧ k = hi' - lo') (hi - lo)
    ⟨m, lo, hi, F, B, Nat.le_refl _, h1, h2, Nat.le_refl _, rfl⟩ ?_
  rintro k h' ⟨m', lo', hi', F', B', g1, g2, g3, g4, rfl⟩
  obtain ⟨tl, hlo⟩ := B'.lo
  obtain ⟨th, hhi⟩ := B'.hi
  refine w_tCmp ?_
  refine w_nm F'.ns hlo ?_
  refine w_nm F'.ns hhi ?_
  refine w_ltInt ?_
  refine w_tBool ⟨fun hlt => ?_, fun hlt => ?_⟩
  · have hlt : lo' < hi' := by simpa using hlt
    refine w_cons ?_
    refine w_asg ?_
    refine w_binOp ?_
    refine w_binOp ?_
    refine w_nm F'.ns hlo ?_
    refine w_nm F'.ns hhi ?_
    refine w_addInt fun _ => ?_
    refine w_cInt fun _ => ?_
    refine w_divInt (by decide) fun tm => ?_
    rw [mid_eq]
    refine w_st F' fun h1 F1 => ?_
    have hm : (lo' + hi') / 2 < vs.length := by lia
    have hv : vs.toArray[((((lo' + hi') / 2 : Nat) : Int)).toNat]? = some vs[(lo' + hi') / 2] := by rw [Int.toNat_natCast]; simp [hm]
    refine w_cons ?_
    refine w_if_ ?_
    refine w_tCmp ?_
    refine w_nm F1.ns B'.x ?_
    refine w_sub ?_
    refine w_nm F1.ns B'.a ?_
    refine w_nm F1.ns rfl ?_
    refine w_itemList (IsList.ext hla F1.keep) (by lia) (by lia) hv ?_
    refine hc _ _ (List.getElem?_eq_getElem hm) _ _ _ ok F1.keep fun h2 e2 => ?_
    have F2 := F1.kept e2
    refine w_tBool ⟨fun hle => ?_, fun hle => ?_⟩
    · refine w_cons ?_
      refine w_asg ?_
      refine w_nm F2.ns rfl ?_
      refine w_st F2 fun h3 F3 => ?_
      refine w_nil ?_
      refine w_nil ?_
      refine ⟨_, ?_, _, lo', (lo' + hi') / 2, F3, ⟨B'.a, B'.x, B'.key, B'.lo, ⟨_, rfl⟩⟩, g1, g2, ?_, by lia, rfl⟩
      · lia
      · have := hl ((lo' + hi') / 2)
        rcases Nat.lt_or_ge ((lo' + hi') / 2) r with q | q
        · rw [this (by lia) q] at hle; cases hle
        · lia
    · refine w_cons ?_
      refine w_asg ?_
      refine w_binOp ?_
      refine w_nm F2.ns rfl ?_
      refine w_cInt fun _ => ?_
      refine w_addInt fun _ => ?_
      refine w_st F2 fun h3 F3 => ?_
      refine w_nil ?_
      refine w_nil ?_
      refine ⟨_, ?_, _, (lo' + hi') / 2 + 1, hi', F3, ⟨B'.a, B'.x, B'.key, ⟨_, rfl⟩, B'.hi⟩, by lia, ?_, g3, g4, rfl⟩
      · lia
      · have := hr ((lo' + hi') / 2)
        rcases Nat.lt_or_ge ((lo' + hi') / 2) r with q | q
        · lia
        · rw [this q (by lia)] at hle; cases hle
  · have hlt : ¬ lo' < hi' := by simpa using hlt
    refine w_nil ?_
    refine w_nil ?_
    refine w_cons ?_
    refine w_ret ?_
    have e : lo' = r := by lia
    subst e
    refine w_nm F'.ns hlo ?_
    exact hQ _ _ F'.keep

set_option maxHeartbeats 1000000 in
theorem bl_key {base : Heap} {L la : Addr} {m : Str → Option Value} {vs ks : List Value} {x key : Value} {lo hi r : Nat} {less : Nat → Bool} {Q : Flow → Heap → Prop} {n : Nat}
    (F : Fr base L h m) (hla : base.IsList la vs.toArray) (B : BisM m la x key lo hi) (ok : OkA n A)
    (h1 : lo ≤ r) (h2 : r ≤ hi) (h3 : hi ≤ vs.length) (hsz : vs.length < 2 ^ 62)
    (hl : ∀ i, lo ≤ i → i < r → less i = true) (hr : ∀ i, r ≤ i → i < hi → less i = false)
    (hkf : ∃ a, key = .ref a) (hkk : Kp (model prog w) base key) (hkl : ks.length = vs.length) (hkey : ∀ (i : Nat) (v kv : Value), vs[i]? = some v → ks[i]? = some kv → KeyIs n prog w base key v kv)
    (hc : ∀ i v, ks[i]? = some v → CmpLt n prog w base v x (less i))
    (hQ : ∀ h' t, Ext base h' → Q (.ret (.int r t)) h') :
    Wp (model prog w) A (execs ((bodyAt w aBL).drop 2) (envAt w aBL L)) Q h := by
  refine w_cons ?_
  refine w_if_ ?_
  refine w_tCmp ?_
  refine w_nm F.ns B.key ?_
  refine w_cNone ?_
  refine w_isNone ?_
  obtain ⟨ka, rfl⟩ := hkf
  refine w_tBool ⟨fun e => (by cases e), fun _ => ?_⟩
  refine w_cons ?_
  refine w_while_ (fun k h' => ∃ m' lo' hi', Fr base L h' m' ∧ BisM m' la x (.ref ka) lo' hi' ∧ lo ≤ lo' ∧ lo' ≤ r ∧ r ≤ hi' ∧ hi' ≤ hi ∧ k = hi' - lo') (hi - lo)
    ⟨m, lo, hi, F, B, Nat.le_refl _, h1, h2, Nat.le_refl _, rfl⟩ ?_
  rintro k h' ⟨m', lo', hi', F', B', g1, g2, g3, g4, rfl⟩
  obtain ⟨tl, hlo⟩ := B'.lo
  obtain ⟨th, hhi⟩ := B'.hi
  refine w_tCmp ?_
  refine w_nm F'.ns hlo ?_
  refine w_nm F'.ns hhi ?_
  refine w_ltInt ?_
  refine w_tBool ⟨fun hlt => ?_, fun hlt => ?_⟩
  · have hlt : lo' < hi' := by simpa using hlt
    refine w_cons ?_
    refine w_asg ?_
    refine w_binOp ?_
    refine w_binOp ?_
    refine w_nm F'.ns hlo ?_
    refine w_nm F'.ns hhi ?_
    refine w_addInt fun _ => ?_
    refine w_cInt fun _ => ?_
    refine w_divInt (by decide) fun tm => ?_
    rw [mid_eq]
    refine w_st F' fun h1 F1 => ?_
    have hm : (lo' + hi') / 2 < vs.length := by lia
    have hv : vs.toArray[((((lo' + hi') / 2 : Nat) : Int)).toNat]? = some vs[(lo' + hi') / 2] := by rw [Int.toNat_natCast]; simp [hm]
    refine w_cons ?_
    refine w_if_ ?_
    refine w_tCmp ?_
    refine w_callN ?_
    refine w_nm F1.ns B'.key ?_
    refine w_args ?_
    refine w_arg ?_
    refine w_sub ?_
    refine w_nm F1.ns B'.a ?_
    refine w_nm F1.ns rfl ?_
    refine w_itemList (IsList.ext hla F1.keep) (by lia) (by lia) hv ?_
    refine w_arg0 ?_
    refine w_kw0 ⟨hkk.ext F1.keep, ?_⟩
    have hmk : (lo' + hi') / 2 < ks.length := by lia
    refine hkey _ _ _ (List.getElem?_eq_getElem hm) (List.getElem?_eq_getElem hmk) _ _ _ ok F1.keep fun h1k e1k => ?_
    have F1k := F1.kept e1k
    refine w_nm F1k.ns B'.x ?_
    refine hc _ _ (List.getElem?_eq_getElem hmk) _ _ _ ok F1k.keep fun h2 e2 => ?_
    have F2 := F1k.kept e2
    refine w_tBool ⟨fun hle => ?_, fun hle => ?_⟩
    · refine w_cons ?_
      refine w_asg ?_
      refine w_binOp ?_
      refine w_nm F2.ns rfl ?_
      refine w_cInt fun _ => ?_
      refine w_addInt fun _ => ?_
      refine w_st F2 fun h3 F3 => ?_
      refine w_nil ?_
      refine w_nil ?_
      refine ⟨_, ?_, _, (lo' + hi') / 2 + 1, hi', F3, ⟨B'.a, B'.x, B'.key, ⟨_, rfl⟩, B'.hi⟩, by lia, ?_, g3, g4, rfl⟩
      · lia
      · have := hr ((lo' + hi') / 2)
        rcases Nat.lt_or_ge ((lo' + hi') / 2) r with q | q
        · lia
        · rw [this q (by lia)] at hle; cases hle
    · refine w_cons ?_
      refine w_asg ?_
      refine w_nm F2.ns rfl ?_
      refine w_st F2 fun h3 F3 => ?_
      refine w_nil ?_
      refine w_nil ?_
      refine ⟨_, ?_, _, lo', (lo' + hi') / 2, F3, ⟨B'.a, B'.x, B'.key, B'.lo, ⟨_, rfl⟩⟩, g1, g2, ?_, by lia, rfl⟩
      · lia
      · have := hl ((lo' + hi') / 2)
        rcases Nat.lt_or_ge ((lo' + hi') / 2) r with q | q
        · rw [this (by lia) q] at hle; cases hle
        · lia
  · have hlt : ¬ lo' < hi' := by simpa using hlt
    refine w_nil ?_
    refine w_nil ?_
    refine w_cons ?_
    refine w_ret ?_
    have e : lo' = r := by lia
    subst e
    refine w_nm F'.ns hlo ?_
    exact hQ _ _ F'.keep

set_option maxHeartbeats 1000000 in
theorem br_key {base : Heap} {L la : Addr} {m : Str → Option Value} {vs ks : List Value} {x key : Value} {lo hi r : Nat} {less : Nat → Bool} {Q : Flow → Heap → Prop} {n : Nat}
    (F : Fr base L h m) (hla : base.IsList la vs.toArray) (B : BisM m la x key lo hi) (ok : OkA n A)
    (h1 : lo ≤ r) (h2 : r ≤ hi) (h3 : hi ≤ vs.length) (hsz : vs.length < 2 ^ 62)
    (hl : ∀ i, lo ≤ i → i < r → less i = false) (hr : ∀ i, r ≤ i → i < hi → less i = true)
    (hkf : ∃ a, key = .ref a) (hkk : Kp (model prog w) base key) (hkl : ks.length = vs.length) (hkey : ∀ (i : Nat) (v kv : Value), vs[i]? = some v → ks[i]? = some kv → KeyIs n prog w base key v kv)
    (hc : ∀ i v, ks[i]? = some v → CmpLt n prog w base x v (less i))
    (hQ : ∀ h' t, Ext base h' → Q (.ret (.int r t)) h') :
    Wp (model prog w) A (execs ((bodyAt w aBR).drop 2) (envAt w aBR L)) Q h := by
  refine w_cons ?_
  refine w_if_ ?_
  refine w_tCmp ?_
  refine w_nm F.ns B.key ?_
  refine w_cNone ?_
  refine w_isNone ?_
  obtain ⟨ka, rfl⟩ := hkf
  refine w_tBool ⟨fun e => (by cases e), fun _ => ?_⟩
  refine w_cons ?_
  refine w_while_ (fun k h' => ∃ m' lo' hi', Fr base L h' m' ∧ BisM m' la x (.ref ka) lo' hi' ∧ lo ≤ lo' ∧ lo' ≤ r ∧ r ≤ hi' ∧ hi' ≤ hi ∧ k = hi' - lo') (hi - lo)
    ⟨m, lo, hi, F, B, Nat.le_refl _, h1, h2, Nat.le_refl _, rfl⟩ ?_
  rintro k h' ⟨m', lo', hi', F', B', g1, g2, g3, g4, rfl⟩
  obtain ⟨tl, hlo⟩ := B'.lo
  obtain ⟨th, hhi⟩ := B'.hi
  refine w_tCmp ?_
  refine w_nm F'.ns hlo ?_
  refine w_nm F'.ns hhi ?_
  refine w_ltInt ?_
  refine w_tBool ⟨fun hlt => ?_, fun hlt => ?_⟩
  · have hlt : lo' < hi' := by simpa using hlt
    refine w_cons ?_
    refine w_asg ?_
    refine w_binOp ?_
    refine w_binOp ?_
    refine w_nm F'.ns hlo ?_
    refine w_nm F'.ns hhi ?_
    refine w_addInt fun _ => ?_
    refine w_cInt fun _ => ?_
    refine w_divInt (by decide) fun tm => ?_
    rw [mid_eq]
    refine w_st F' fun h1 F1 => ?_
    have hm : (lo' + hi') / 2 < vs.length := by lia
    have hv : vs.toArray[((((lo' + hi') / 2 : Nat) : Int)).toNat]? = some vs[(lo' + hi') / 2] := by rw [Int.toNat_natCast]; simp [hm]
    refine w_cons ?_
    refine w_if_ ?_
    refine w_tCmp ?_
    refine w_nm F1.ns B'.x ?_
    refine w_callN ?_
    refine w_nm F1.ns B'.key ?_
    refine w_args ?_
    refine w_arg ?_
    refine w_sub ?_
    refine w_nm F1.ns B'.a ?_
    refine w_nm F1.ns rfl ?_
    refine w_itemList (IsList.ext hla F1.keep) (by lia) (by lia) hv ?_
    refine w_arg0 ?_
    refine w_kw0 ⟨hkk.ext F1.keep, ?_⟩
    have hmk : (lo' + hi') / 2 < ks.length := by lia
    refine hkey _ _ _ (List.getElem?_eq_getElem hm) (List.getElem?_eq_getElem hmk) _ _ _ ok F1.keep fun h1k e1k => ?_
    have F1k := F1.kept e1k
    refine hc _ _ (List.getElem?_eq_getElem hmk) _ _ _ ok F1k.keep fun h2 e2 => ?_
    have F2 := F1k.kept e2
    refine w_tBool ⟨fun hle => ?_, fun hle => ?_⟩
    · refine w_cons ?_
      refine w_asg ?_
      refine w_nm F2.ns rfl ?_
      refine w_st F2 fun h3 F3 => ?_
      refine w_nil ?_
      refine w_nil ?_
      refine ⟨_, ?_, _, lo', (lo' + hi') / 2, F3, ⟨B'.a, B'.x, B'.key, B'.lo, ⟨_, rfl⟩⟩, g1, g2, ?_, by lia, rfl⟩
      · lia
      · have := hl ((lo' + hi') / 2)
        rcases Nat.lt_or_ge ((lo' + hi') / 2) r with q | q
        · rw [this (by lia) q] at hle; cases hle
        · lia
    · refine w_cons ?_
      refine w_asg ?_
      refine w_binOp ?_
      refine w_nm F2.ns rfl ?_
      refine w_cInt fun _ => ?_
      refine w_addInt fun _ => ?_
      refine w_st F2 fun h3 F3 => ?_
      refine w_nil ?_
      refine w_nil ?_
      refine ⟨_, ?_, _, (lo' + hi') / 2 + 1, hi', F3, ⟨B'.a, B'.x, B'.key, ⟨_, rfl⟩, B'.hi⟩, by lia, ?_, g3, g4, rfl⟩
      · lia
      · have := hr ((lo' + hi') / 2)
        rcases Nat.lt_or_ge ((lo' + hi') / 2) r with q | q
        · lia
        · rw [this q (by lia)] at hle; cases hle
  · have hlt : ¬ lo' < hi' := by simpa using hlt
    refine w_nil ?_
    refine w_nil ?_
    refine w_cons ?_
    refine w_ret ?_
    have e : lo' = r := by lia
    subst e
    refine w_nm F'.ns hlo ?_
    exact hQ _ _ F'.keep

def HiIs (hiV : Value) (hi len : Nat) : Prop := (hiV = .none ∧ hi = len) ∨ ∃ t, hiV = .int hi t

set_option maxHeartbeats 1000000 in
theorem bl_pre {base : Heap} {L la : Addr} {m : Str → Option Value} {vs : List Value} {x key hiV : Value} {lo hi : Nat} {Q : Flow → Heap → Prop}
    (G : G0 w mg mb base) (F : Fr base L h m) (hla : base.IsList la vs.toArray) (hsz : vs.length < 2 ^ 62)
    (ma : m nA = some (.ref la)) (mx : m nX = some x) (mk : m nKey = some key) (mlo : ∃ t, m nLo = some (.int lo t)) (mhi : m nHi = some hiV) (hhi : HiIs hiV hi vs.length)
    (k : ∀ m' h', Fr base L h' m' → BisM m' la x key lo hi → Wp (model prog w) A (execs ((bodyAt w aBL).drop 2) (envAt w aBL L)) Q h') :
    Wp (model prog w) A (execs (bodyAt w aBL) (envAt w aBL L)) Q h := by
  obtain ⟨tl, mlo⟩ := mlo
  refine w_cons (w_if_ (w_tCmp (w_nm F.ns mlo (w_cInt fun _ => w_ltInt (w_tBool ⟨fun e => ?_, fun _ => w_nil ?_⟩)))))
  · simp at e; lia
  refine w_cons (w_if_ (w_tCmp (w_nm F.ns mhi (w_cNone (w_isNone (w_tBool ⟨fun e => ?_, fun e => w_nil ?_⟩))))))
  · rcases hhi with ⟨rfl, rfl⟩ | ⟨t, rfl⟩
    · refine w_cons (w_asg (w_callN (w_gB (v := .builtin "len") (G.ext F.keep) (by kernel_rfl) (by kernel_rfl) (by decide) ?_)))
      refine w_args (w_arg (w_nm F.ns ma (w_arg0 (w_kw0 ⟨Kp.builtin _, ?_⟩))))
      refine w_lenList (IsList.ext hla F.keep) (by simp; lia) fun t => ?_
      refine w_st F fun h1 F1 => w_nil ?_
      refine k _ _ F1 ⟨ma, mx, mk, ⟨tl, mlo⟩, ⟨t, ?_⟩⟩
      simp
    · cases e
  · rcases hhi with ⟨rfl, rfl⟩ | ⟨t, rfl⟩
    · cases e
    · exact k m h F ⟨ma, mx, mk, ⟨tl, mlo⟩, ⟨t, mhi⟩⟩
set_option maxHeartbeats 1000000 in
theorem br_pre {base : Heap} {L la : Addr} {m : Str → Option Value} {vs : List Value} {x key hiV : Value} {lo hi : Nat} {Q : Flow → Heap → Prop}
    (G : G0 w mg mb base) (F : Fr base L h m) (hla : base.IsList la vs.toArray) (hsz : vs.length < 2 ^ 62)
    (ma : m nA = some (.ref la)) (mx : m nX = some x) (mk : m nKey = some key) (mlo : ∃ t, m nLo = some (.int lo t)) (mhi : m nHi = some hiV) (hhi : HiIs hiV hi vs.length)
    (k : ∀ m' h', Fr base L h' m' → BisM m' la x key lo hi → Wp (model prog w) A (execs ((bodyAt w aBR).drop 2) (envAt w aBR L)) Q h') :
    Wp (model prog w) A (execs (bodyAt w aBR) (envAt w aBR L)) Q h := by
  obtain ⟨tl, mlo⟩ := mlo
  refine w_cons (w_if_ (w_tCmp (w_nm F.ns mlo (w_cInt fun _ => w_ltInt (w_tBool ⟨fun e => ?_, fun _ => w_nil ?_⟩)))))
  · simp at e; lia
  refine w_cons (w_if_ (w_tCmp (w_nm F.ns mhi (w_cNone (w_isNone (w_tBool ⟨fun e => ?_, fun e => w_nil ?_⟩))))))
  · rcases hhi with ⟨rfl, rfl⟩ | ⟨t, rfl⟩
    · refine w_cons (w_asg (w_callN (w_gB (v := .builtin "len") (G.ext F.keep) (by kernel_rfl) (by kernel_rfl) (by decide) ?_)))
      refine w_args (w_arg (w_nm F.ns ma (w_arg0 (w_kw0 ⟨Kp.builtin _, ?_⟩))))
      refine w_lenList (IsList.ext hla F.keep) (by simp; lia) fun t => ?_
      refine w_st F fun h1 F1 => w_nil ?_
      refine k _ _ F1 ⟨ma, mx, mk, ⟨tl, mlo⟩, ⟨t, ?_⟩⟩
      simp
    · cases e
  · rcases hhi with ⟨rfl, rfl⟩ | ⟨t, rfl⟩
    · cases e
    · exact k m h F ⟨ma, mx, mk, ⟨tl, mlo⟩, ⟨t, mhi⟩⟩

/-- the key's values: the items themselves, or what the key gives of each -/
def KeyOk (n : Nat) (prog : Program) (w : World) (h : Heap) (key : Value) (vs ks : List Value) : Prop :=
  (key = .none ∧ ks = vs) ∨ ((∃ a, key = .ref a) ∧ Kp (model prog w) h key ∧ ks.length = vs.length ∧ ∀ (i : Nat) (v kv : Value), vs[i]? = some v → ks[i]? = some kv → KeyIs n prog w h key v kv)

set_option maxHeartbeats 1000000 in
theorem bl_call {la : Addr} {vs ks : List Value} {x key hiV : Value} {lo hi r : Nat} {less : Nat → Bool} {n : Nat} {pos : List Value} {kw : List (Str × Value)} {t : Tok} {Q : Value → Heap → Prop}
    (G : G0 w mg mb h) (ok : OkA (n + 1) A) (hla : h.IsList la vs.toArray) (hsz : vs.length < 2 ^ 62)
    (hb : ∀ S, peek (KH w) S (bindArgs (fnAt w aBL) ⟨pos, kw⟩) = some [(nA, .ref la), (nX, x), (nLo, .int lo t), (nHi, hiV), (nKey, key)])
    (hhi : HiIs hiV hi vs.length) (h1 : lo ≤ r) (h2 : r ≤ hi) (h3 : hi ≤ vs.length) (hkey : KeyOk n prog w h key vs ks)
    (hl : ∀ i, lo ≤ i → i < r → less i = true) (hr : ∀ i, r ≤ i → i < hi → less i = false)
    (hc : ∀ i v, ks[i]? = some v → CmpLt n prog w h v x (less i))
    (k : ∀ h' t, Ext h h' → Q (.int r t) h') : Wp (model prog w) A (call (.ref aBL) pos kw) Q h := by
  refine w_call (c_callK G ok (by kernel_rfl) (by kernel_rfl) (by kernel_rfl) (by kernel_rfl) hb (by kernel_rfl) (by kernel_rfl) (fun L h₁ F ok' => ?_))
  refine bl_pre (lo := lo) (hi := hi) G F hla hsz rfl rfl rfl ⟨t, rfl⟩ rfl hhi (fun m' h' F' B' => ?_)
  rcases hkey with ⟨rfl, rfl⟩ | ⟨hkf, hkk, hkl, hkey⟩
  · exact bl_nokey F' hla B' ok' h1 h2 h3 hsz hl hr hc (fun h'' t e => k h'' t e)
  · exact bl_key F' hla B' ok' h1 h2 h3 hsz hl hr hkf hkk hkl hkey hc (fun h'' t e => k h'' t e)
theorem bl_b2 (w : World) (a x : Value) : ∀ S, peek (KH w) S (bindArgs (fnAt w aBL) ⟨[a, x], []⟩) = some [(nA, a), (nX, x), (nLo, .int 0 (dtok w aBL)), (nHi, .none), (nKey, .none)] := fun _ => by kernel_rfl
theorem bl_b2k (w : World) (a x key : Value) : ∀ S, peek (KH w) S (bindArgs (fnAt w aBL) ⟨[a, x], [(nKey, key)]⟩) = some [(nA, a), (nX, x), (nLo, .int 0 (dtok w aBL)), (nHi, .none), (nKey, key)] := fun _ => by kernel_rfl
theorem bl_b4 (w : World) (a x lo hi : Value) : ∀ S, peek (KH w) S (bindArgs (fnAt w aBL) ⟨[a, x, lo, hi], []⟩) = some [(nA, a), (nX, x), (nLo, lo), (nHi, hi), (nKey, .none)] := fun _ => by kernel_rfl
theorem bl_b4k (w : World) (a x lo hi key : Value) : ∀ S, peek (KH w) S (bindArgs (fnAt w aBL) ⟨[a, x, lo, hi], [(nKey, key)]⟩) = some [(nA, a), (nX, x), (nLo, lo), (nHi, hi), (nKey, key)] := fun _ => by kernel_rfl

set_option maxHeartbeats 1000000 in
theorem br_call {la : Addr} {vs ks : List Value} {x key hiV : Value} {lo hi r : Nat} {less : Nat → Bool} {n : Nat} {pos : List Value} {kw : List (Str × Value)} {t : Tok} {Q : Value → Heap → Prop}
    (G : G0 w mg mb h) (ok : OkA (n + 1) A) (hla : h.IsList la vs.toArray) (hsz : vs.length < 2 ^ 62)
    (hb : ∀ S, peek (KH w) S (bindArgs (fnAt w aBR) ⟨pos, kw⟩) = some [(nA, .ref la), (nX, x), (nLo, .int lo t), (nHi, hiV), (nKey, key)])
    (hhi : HiIs hiV hi vs.length) (h1 : lo ≤ r) (h2 : r ≤ hi) (h3 : hi ≤ vs.length) (hkey : KeyOk n prog w h key vs ks)
    (hl : ∀ i, lo ≤ i → i < r → less i = false) (hr : ∀ i, r ≤ i → i < hi → less i = true)
    (hc : ∀ i v, ks[i]? = some v → CmpLt n prog w h x v (less i))
    (k : ∀ h' t, Ext h h' → Q (.int r t) h') : Wp (model prog w) A (call (.ref aBR) pos kw) Q h := by
  refine w_call (c_callK G ok (by kernel_rfl) (by kernel_rfl) (by kernel_rfl) (by kernel_rfl) hb (by kernel_rfl) (by kernel_rfl) (fun L h₁ F ok' => ?_))
  refine br_pre (lo := lo) (hi := hi) G F hla hsz rfl rfl rfl ⟨t, rfl⟩ rfl hhi (fun m' h' F' B' => ?_)
  rcases hkey with ⟨rfl, rfl⟩ | ⟨hkf, hkk, hkl, hkey⟩
  · exact br_nokey F' hla B' ok' h1 h2 h3 hsz hl hr hc (fun h'' t e => k h'' t e)
  · exact br_key F' hla B' ok' h1 h2 h3 hsz hl hr hkf hkk hkl hkey hc (fun h'' t e => k h'' t e)
theorem br_b2 (w : World) (a x : Value) : ∀ S, peek (KH w) S (bindArgs (fnAt w aBR) ⟨[a, x], []⟩) = some [(nA, a), (nX, x), (nLo, .int 0 (dtok w aBR)), (nHi, .none), (nKey, .none)] := fun _ => by kernel_rfl
theorem br_b2k (w : World) (a x key : Value) : ∀ S, peek (KH w) S (bindArgs (fnAt w aBR) ⟨[a, x], [(nKey, key)]⟩) = some [(nA, a), (nX, x), (nLo, .int 0 (dtok w aBR)), (nHi, .none), (nKey, key)] := fun _ => by kernel_rfl
theorem br_b4 (w : World) (a x lo hi : Value) : ∀ S, peek (KH w) S (bindArgs (fnAt w aBR) ⟨[a, x, lo, hi], []⟩) = some [(nA, a), (nX, x), (nLo, lo), (nHi, hi), (nKey, .none)] := fun _ => by kernel_rfl
theorem br_b4k (w : World) (a x lo hi key : Value) : ∀ S, peek (KH w) S (bindArgs (fnAt w aBR) ⟨[a, x, lo, hi], [(nKey, key)]⟩) = some [(nA, a), (nX, x), (nLo, lo), (nHi, hi), (nKey, key)] := fun _ => by kernel_rfl
end
end Mine
end
section
open PySem PySem.W PyProof.Rows
set_option Elab.async false
set_option maxRecDepth 100000
set_option linter.unusedVariables false
namespace Mine
abbrev aIR : Addr := 23
abbrev aIL : Addr := 41
theorem KeyOk.ext {n : Nat} {prog : Program} {w : World} {h h' : Heap} {key : Value} {vs ks : List Value} (x : KeyOk n prog w h key vs ks) (k : Ext h h') : KeyOk n prog w h' key vs ks := by
  rcases x with x | ⟨a, b, c, d⟩
  · exact .inl x
  · exact .inr ⟨a, b.ext k, c, fun i v kv e1 e2 => (d i v kv e1 e2).ext k⟩
/-- the key of one thing -/
def Key1 (n : Nat) (prog : Program) (w : World) (h : Heap) (key x kx : Value) : Prop := (key = .none ∧ kx = x) ∨ ((∃ a, key = .ref a) ∧ Kp (model prog w) h key ∧ KeyIs n prog w h key x kx)
section
variable {prog : Program} {w : World} {A : Around} {h : Heap} {mg mb : Str → Option Value}

set_option maxHeartbeats 1000000 in
theorem il_call {la : Addr} {vs ks : List Value} {x kx key hiV : Value} {lo hi r : Nat} {less : Nat → Bool} {n : Nat} {pos : List Value} {kw : List (Str × Value)} {t : Tok} {Q : Value → Heap → Prop}
    (G : G0 w mg mb h) (ok : OkA (n + 2) A) (hla : Ls h la vs) (hsz : vs.length ≤ sizeLine)
    (hb : ∀ S, peek (KH w) S (bindArgs (fnAt w aIL) ⟨pos, kw⟩) = some [(nA, .ref la), (nX, x), (nLo, .int lo t), (nHi, hiV), (nKey, key)])
    (hhi : HiIs hiV hi vs.length) (h1 : lo ≤ r) (h2 : r ≤ hi) (h3 : hi ≤ vs.length) (hkey : KeyOk n prog w h key vs ks) (hkx : Key1 (n + 1) prog w h key x kx)
    (hl : ∀ i, lo ≤ i → i < r → less i = true) (hr : ∀ i, r ≤ i → i < hi → less i = false)
    (hc : ∀ i v, ks[i]? = some v → CmpLt n prog w h v kx (less i))
    (k : ∀ h', Ls h' la (vs.take r ++ x :: vs.drop r) → Heap.ExtBut la h h' → Q .none h') : Wp (model prog w) A (call (.ref aIL) pos kw) Q h := by
  refine w_call (c_callK G ok (by kernel_rfl) (by kernel_rfl) (by kernel_rfl) (by kernel_rfl) hb (by kernel_rfl) (by kernel_rfl) (fun L h₁ F ok' => ?_))
  have hsz2 : vs.length < 2 ^ 62 := by rw [sizeLine_eq] at hsz; omega
  have fin : ∀ h2 m2 t2, Fr h L h2 m2 → m2 nA = some (.ref la) → m2 nX = some x → m2 nLo = some (.int r t2) →
      Wp (model prog w) (A.deeper (envAt w aIL L)) (execs ((bodyAt w aIL).drop 1) (envAt w aIL L)) (fun f h' => Q (match f with | .ret v => v | _ => .none) h') h2 := by
    intro h2 m2 t2 F2 e1 e2 e3
    refine w_cons (w_expr (w_meth PySem.F.plainAttrs_list PySem.F.slot_list_insert PySem.F.type_list_insert (w_nm F2.ns e1 ⟨(hla.ext F2.keep).ty, ?_, ?_⟩)))
    · intro a e; injection e with e; subst e; obtain ⟨nn, e⟩ := hla.ext F2.keep; exact ⟨_, e, rfl⟩
    refine w_args (w_arg (w_nm F2.ns e3 (w_arg (w_nm F2.ns e2 (w_arg0 (w_kw0 ⟨Kp.builtin _, ?_⟩))))))
    refine w_insert (hla.ext F2.keep) (by omega) hsz (fun h3 l3 sb3 => ⟨fun a e => (by cases e), w_nil ?_⟩)
    exact k _ l3 (fun b o hb e => (sb3.2 b hb).trans (F2.keep b o e))
  refine w_cons (w_if_ (w_tCmp (w_nm F.ns rfl (w_cNone (w_isNone (w_tBool ⟨fun e => ?_, fun e => ?_⟩))))))
  · rcases hkx with ⟨rfl, rfl⟩ | ⟨⟨ka, rfl⟩, _⟩
    · refine w_cons (w_asg (w_callN (w_gK (v := .ref aBL) (G.ext F.keep) (by kernel_rfl) ?_)))
      refine w_args (w_arg (w_nm F.ns rfl (w_arg (w_nm F.ns rfl (w_arg (w_nm F.ns rfl (w_arg (w_nm F.ns rfl (w_arg0 (w_kw0 ⟨?_, ?_⟩))))))))))
      · exact Kp.func ((G.ext F.keep).K aBL (objAt w aBL) (by kernel_rfl)) (fd := fnAt w aBL) (by kernel_rfl)
      refine bl_call (lo := lo) (hi := hi) (G.ext F.keep) (ok'.mono (by omega)) (hla.ext F.keep).isList hsz2 (bl_b4 w _ _ _ _) hhi h1 h2 h3 (hkey.ext F.keep) hl hr (fun i v e => (hc i v e).ext F.keep) (fun h2 t2 e2 => ?_)
      refine w_st (F.kept e2) (fun h3 F3 => w_nil ?_)
      exact fin h3 _ t2 F3 rfl rfl rfl
    · cases e
  · rcases hkx with ⟨rfl, rfl⟩ | ⟨⟨ka, rfl⟩, hkp, hkx⟩
    · cases e
    · refine w_cons (w_asg (w_callN (w_gK (v := .ref aBL) (G.ext F.keep) (by kernel_rfl) ?_)))
      refine w_args (w_arg (w_nm F.ns rfl (w_arg (w_callN (w_nm F.ns rfl (w_args (w_arg (w_nm F.ns rfl (w_arg0 (w_kw0 ⟨hkp.ext F.keep, ?_⟩)))))))))) 
      refine hkx _ _ _ ok' F.keep (fun h1k e1k => ?_)
      have F1 := F.kept e1k
      refine w_arg (w_nm F1.ns rfl (w_arg (w_nm F1.ns rfl (w_arg0 (w_kw (w_nm F1.ns rfl (w_kw0 ⟨?_, ?_⟩)))))))
      · exact Kp.func ((G.ext F1.keep).K aBL (objAt w aBL) (by kernel_rfl)) (fd := fnAt w aBL) (by kernel_rfl)
      refine bl_call (lo := lo) (hi := hi) (G.ext F1.keep) (ok'.mono (by omega)) (hla.ext F1.keep).isList hsz2 (bl_b4k w _ _ _ _ _) hhi h1 h2 h3 (hkey.ext F1.keep) hl hr (fun i v e => (hc i v e).ext F1.keep) (fun h2 t2 e2 => ?_)
      refine w_st (F1.kept e2) (fun h3 F3 => w_nil ?_)
      exact fin h3 _ t2 F3 rfl rfl rfl
theorem il_b2 (w : World) (a x : Value) : ∀ S, peek (KH w) S (bindArgs (fnAt w aIL) ⟨[a, x], []⟩) = some [(nA, a), (nX, x), (nLo, .int 0 (dtok w aIL)), (nHi, .none), (nKey, .none)] := fun _ => by kernel_rfl
theorem il_b2k (w : World) (a x key : Value) : ∀ S, peek (KH w) S (bindArgs (fnAt w aIL) ⟨[a, x], [(nKey, key)]⟩) = some [(nA, a), (nX, x), (nLo, .int 0 (dtok w aIL)), (nHi, .none), (nKey, key)] := fun _ => by kernel_rfl
theorem il_b4k (w : World) (a x lo hi key : Value) : ∀ S, peek (KH w) S (bindArgs (fnAt w aIL) ⟨[a, x, lo, hi], [(nKey, key)]⟩) = some [(nA, a), (nX, x), (nLo, lo), (nHi, hi), (nKey, key)] := fun _ => by kernel_rfl

set_option maxHeartbeats 1000000 in
theorem ir_call {la : Addr} {vs ks : List Value} {x kx key hiV : Value} {lo hi r : Nat} {less : Nat → Bool} {n : Nat} {pos : List Value} {kw : List (Str × Value)} {t : Tok} {Q : Value → Heap → Prop}
    (G : G0 w mg mb h) (ok : OkA (n + 2) A) (hla : Ls h la vs) (hsz : vs.length ≤ sizeLine)
    (hb : ∀ S, peek (KH w) S (bindArgs (fnAt w aIR) ⟨pos, kw⟩) = some [(nA, .ref la), (nX, x), (nLo, .int lo t), (nHi, hiV), (nKey, key)])
    (hhi : HiIs hiV hi vs.length) (h1 : lo ≤ r) (h2 : r ≤ hi) (h3 : hi ≤ vs.length) (hkey : KeyOk n prog w h key vs ks) (hkx : Key1 (n + 1) prog w h key x kx)
    (hl : ∀ i, lo ≤ i → i < r → less i = false) (hr : ∀ i, r ≤ i → i < hi → less i = true)
    (hc : ∀ i v, ks[i]? = some v → CmpLt n prog w h kx v (less i))
    (k : ∀ h', Ls h' la (vs.take r ++ x :: vs.drop r) → Heap.ExtBut la h h' → Q .none h') : Wp (model prog w) A (call (.ref aIR) pos kw) Q h := by
  refine w_call (c_callK G ok (by kernel_rfl) (by kernel_rfl) (by kernel_rfl) (by kernel_rfl) hb (by kernel_rfl) (by kernel_rfl) (fun L h₁ F ok' => ?_))
  have hsz2 : vs.length < 2 ^ 62 := by rw [sizeLine_eq] at hsz; omega
  have fin : ∀ h2 m2 t2, Fr h L h2 m2 → m2 nA = some (.ref la) → m2 nX = some x → m2 nLo = some (.int r t2) →
      Wp (model prog w) (A.deeper (envAt w aIR L)) (execs ((bodyAt w aIR).drop 1) (envAt w aIR L)) (fun f h' => Q (match f with | .ret v => v | _ => .none) h') h2 := by
    intro h2 m2 t2 F2 e1 e2 e3
    refine w_cons (w_expr (w_meth PySem.F.plainAttrs_list PySem.F.slot_list_insert PySem.F.type_list_insert (w_nm F2.ns e1 ⟨(hla.ext F2.keep).ty, ?_, ?_⟩)))
    · intro a e; injection e with e; subst e; obtain ⟨nn, e⟩ := hla.ext F2.keep; exact ⟨_, e, rfl⟩
    refine w_args (w_arg (w_nm F2.ns e3 (w_arg (w_nm F2.ns e2 (w_arg0 (w_kw0 ⟨Kp.builtin _, ?_⟩))))))
    refine w_insert (hla.ext F2.keep) (by omega) hsz (fun h3 l3 sb3 => ⟨fun a e => (by cases e), w_nil ?_⟩)
    exact k _ l3 (fun b o hb e => (sb3.2 b hb).trans (F2.keep b o e))
  refine w_cons (w_if_ (w_tCmp (w_nm F.ns rfl (w_cNone (w_isNone (w_tBool ⟨fun e => ?_, fun e => ?_⟩))))))
  · rcases hkx with ⟨rfl, rfl⟩ | ⟨⟨ka, rfl⟩, _⟩
    · refine w_cons (w_asg (w_callN (w_gK (v := .ref aBR) (G.ext F.keep) (by kernel_rfl) ?_)))
      refine w_args (w_arg (w_nm F.ns rfl (w_arg (w_nm F.ns rfl (w_arg (w_nm F.ns rfl (w_arg (w_nm F.ns rfl (w_arg0 (w_kw0 ⟨?_, ?_⟩))))))))))
      · exact Kp.func ((G.ext F.keep).K aBR (objAt w aBR) (by kernel_rfl)) (fd := fnAt w aBR) (by kernel_rfl)
      refine br_call (lo := lo) (hi := hi) (G.ext F.keep) (ok'.mono (by omega)) (hla.ext F.keep).isList hsz2 (br_b4 w _ _ _ _) hhi h1 h2 h3 (hkey.ext F.keep) hl hr (fun i v e => (hc i v e).ext F.keep) (fun h2 t2 e2 => ?_)
      refine w_st (F.kept e2) (fun h3 F3 => w_nil ?_)
      exact fin h3 _ t2 F3 rfl rfl rfl
    · cases e
  · rcases hkx with ⟨rfl, rfl⟩ | ⟨⟨ka, rfl⟩, hkp, hkx⟩
    · cases e
    · refine w_cons (w_asg (w_callN (w_gK (v := .ref aBR) (G.ext F.keep) (by kernel_rfl) ?_)))
      refine w_args (w_arg (w_nm F.ns rfl (w_arg (w_callN (w_nm F.ns rfl (w_args (w_arg (w_nm F.ns rfl (w_arg0 (w_kw0 ⟨hkp.ext F.keep, ?_⟩)))))))))) 
      refine hkx _ _ _ ok' F.keep (fun h1k e1k => ?_)
      have F1 := F.kept e1k
      refine w_arg (w_nm F1.ns rfl (w_arg (w_nm F1.ns rfl (w_arg0 (w_kw (w_nm F1.ns rfl (w_kw0 ⟨?_, ?_⟩)))))))
      · exact Kp.func ((G.ext F1.keep).K aBR (objAt w aBR) (by kernel_rfl)) (fd := fnAt w aBR) (by kernel_rfl)
      refine br_call (lo := lo) (hi := hi) (G.ext F1.keep) (ok'.mono (by omega)) (hla.ext F1.keep).isList hsz2 (br_b4k w _ _ _ _ _) hhi h1 h2 h3 (hkey.ext F1.keep) hl hr (fun i v e => (hc i v e).ext F1.keep) (fun h2 t2 e2 => ?_)
      refine w_st (F1.kept e2) (fun h3 F3 => w_nil ?_)
      exact fin h3 _ t2 F3 rfl rfl rfl
theorem ir_b2 (w : World) (a x : Value) : ∀ S, peek (KH w) S (bindArgs (fnAt w aIR) ⟨[a, x], []⟩) = some [(nA, a), (nX, x), (nLo, .int 0 (dtok w aIR)), (nHi, .none), (nKey, .none)] := fun _ => by kernel_rfl
theorem ir_b2k (w : World) (a x key : Value) : ∀ S, peek (KH w) S (bindArgs (fnAt w aIR) ⟨[a, x], [(nKey, key)]⟩) = some [(nA, a), (nX, x), (nLo, .int 0 (dtok w aIR)), (nHi, .none), (nKey, key)] := fun _ => by kernel_rfl
theorem ir_b4k (w : World) (a x lo hi key : Value) : ∀ S, peek (KH w) S (bindArgs (fnAt w aIR) ⟨[a, x, lo, hi], [(nKey, key)]⟩) = some [(nA, a), (nX, x), (nLo, lo), (nHi, hi), (nKey, key)] := fun _ => by kernel_rfl
end
end Mine
end
section
open PySem PySem.W PyProof.Rows PySem.Calls
set_option Elab.async false
set_option maxRecDepth 100000
set_option linter.unusedVariables false
namespace Mine

/-! ## the entries of an instance's dict: names and values -/
inductive EsAre : List DictEntry → List (Str × Value) → Prop
  | nil : EsAre [] []
  | cons (hsh : Int) (k : Str) (t : Tok) (v : Value) {es : List DictEntry} {kvs : List (Str × Value)} : EsAre es kvs → EsAre (⟨hsh, .str k t, v⟩ :: es) ((k, v) :: kvs)
def kvGet (name : Str) : List (Str × Value) → Option Value
  | [] => none
  | (k, v) :: r => if k = name then some v else kvGet name r
def kvPut (name : Str) (v : Value) : List (Str × Value) → List (Str × Value)
  | [] => [(name, v)]
  | (k, u) :: r => if k = name then (k, v) :: r else (k, u) :: kvPut name v r
theorem EsAre.noRef {es : List DictEntry} {kvs : List (Str × Value)} (x : EsAre es kvs) : es.any (·.refKey) = false := by
  induction x with
  | nil => rfl
  | cons hsh k t v _ ih => rw [List.any_cons, ih]; rfl
theorem EsAre.get {es : List DictEntry} {kvs : List (Str × Value)} (x : EsAre es kvs) (name : Str) : getL name es = some (kvGet name kvs) := by
  have nr := x.noRef
  unfold getL
  rw [nr]
  clear nr
  induction x with
  | nil => rfl
  | cons hsh k t v _ ih =>
    simp only [List.find?_cons, Value.isStr, kvGet]
    by_cases e : k = name
    · subst e; simp
    · rw [if_neg e, beq_eq_false_iff_ne.mpr e]; exact ih
theorem EsAre.put {es : List DictEntry} {kvs : List (Str × Value)} (x : EsAre es kvs) (name : Str) (hsh : Int) (t : Tok) (v : Value) : EsAre (putL name hsh (.str name t) v es) (kvPut name v kvs) := by
  induction x with
  | nil => exact .cons _ _ _ _ .nil
  | cons h' k t' u x ih =>
    unfold putL kvPut
    by_cases e : k = name
    · subst e
      rw [if_pos (show (Value.str k t').isStr k = true from by simp [Value.isStr]), if_pos rfl]
      exact .cons _ _ _ _ x
    · rw [if_neg (show ¬ (Value.str k t').isStr name = true from by simpa [Value.isStr] using e), if_neg e]
      exact .cons _ _ _ _ ih
theorem EsAre.length {es : List DictEntry} {kvs : List (Str × Value)} (x : EsAre es kvs) : es.length = kvs.length := by
  induction x with
  | nil => rfl
  | cons _ _ _ _ _ ih => simp [ih]

/-- a dict by names -/
def Dc (h : Heap) (d : Addr) (kvs : List (Str × Value)) : Prop := ∃ es n, h.get? d = some (dictOf es n) ∧ EsAre es kvs
theorem Dc.ext {h h' : Heap} {d : Addr} {kvs : List (Str × Value)} (x : Dc h d kvs) (k : Ext h h') : Dc h' d kvs := let ⟨es, n, e, r⟩ := x; ⟨es, n, k _ _ e, r⟩
theorem Dc.same {h h' : Heap} {d b : Addr} {kvs : List (Str × Value)} (x : Dc h d kvs) (k : Heap.SameBut b h h') (hd : d ≠ b) : Dc h' d kvs := let ⟨es, n, e, r⟩ := x; ⟨es, n, (k.2 d hd).trans e, r⟩
theorem Dc.lt {h : Heap} {d : Addr} {kvs : List (Str × Value)} (x : Dc h d kvs) : d < h.objs.size := let ⟨_, _, e, _⟩ := x; Heap.lt_size e
/-- an instance of C whose dict lies at d -/
def Ins (h : Heap) (C x d : Addr) : Prop := h.get? x = some ⟨.ref C, some d, .plain, #[]⟩
theorem Ins.ext {h h' : Heap} {C x d : Addr} (i : Ins h C x d) (k : Ext h h') : Ins h' C x d := k _ _ i
theorem Ins.same {h h' : Heap} {C x d b : Addr} (i : Ins h C x d) (k : Heap.SameBut b h h') (hx : x ≠ b) : Ins h' C x d := (k.2 x hx).trans i

section
variable {prog : Program} {w : World} {A : Around} {h : Heap} {K : Frag} {C x d : Addr} {name : Str} {v : Value} {kvs : List (Str × Value)}
theorem w_getOwn {expr : Bool} {attr : Option Value} {Q : Value → Heap → Prop} (X : K.In h) (I : Ins h C x d) (D : Dc h d kvs) (hg : plainGet K C name = true) (hh : hasDictIn K C = true)
    (ha : findIn K (.ref C) name = some attr) (hn : noGet K attr = true) (hl : kvGet name kvs = some v) (k : Q v h) (hv : handedIn v = true := by rfl) : Wp (model prog w) A (getAttr (.ref x) name expr) Q h := fun s hs => by
  subst hs
  obtain ⟨es, n, e, r⟩ := D
  exact get_value X (⟨I, rfl, rfl, e⟩ : InstAt s.heap x ⟨.ref C, some d, .plain, #[]⟩ C (some (dictOf es n))) (plainGet_of hg).1 (findObj_own hh ha hn ((lookIn_dict name es n).trans ((r.get name).trans (by rw [hl])))) hv ⟨⟨rfl, rfl⟩, k⟩
theorem w_method {pl : Sem Bool} {f : Addr} {Q : Value × List Value → Heap → Prop} (X : K.In h) (I : Ins h C x d) (D : Dc h d kvs) (hg : plainGet K C name = true)
    (hf : findIn K (.ref C) name = some (some (.ref f))) (ht : isFn K (.ref f) = true) (hl : kvGet name kvs = none) (k : Q (.ref f, [.ref x]) h) : Wp (model prog w) A (getMethod (.ref x) name pl) Q h := fun s hs => by
  subst hs
  obtain ⟨es, n, e, r⟩ := D
  refine method_fn X (⟨I, rfl, rfl, e⟩ : InstAt s.heap x ⟨.ref C, some d, .plain, #[]⟩ C (some (dictOf es n))) (plainGet_of hg).1 (plainGet_of hg).2 hf (beq_iff_eq.mp ht) ?_ ⟨⟨rfl, rfl⟩, k⟩
  show (lookIn name (dictOf es n)).map _ = _
  rw [lookIn_dict, r.get name, hl]; rfl
/-- a method's name that the instance itself bears -/
theorem w_methOwn {pl : Sem Bool} {Q : Value × List Value → Heap → Prop} (X : K.In h) (I : Ins h C x d) (D : Dc h d kvs) (hg : plainGet K C name = true) (hh : hasDictIn K C = true)
    (ha : findIn K (.ref C) name = some none) (hl : kvGet name kvs = some v) (k : Q (v, []) h) (hv : handedIn v = true := by rfl) : Wp (model prog w) A (getMethod (.ref x) name pl) Q h := fun s hs => by
  subst hs
  have z := w_getOwn (prog := prog) (w := w) (A := A) (expr := false) (Q := fun v h => Q (v, []) h) X I D hg hh ha rfl hl k hv
  obtain ⟨es, n, e, r⟩ := D
  exact method_usual X (⟨I, rfl, rfl, e⟩ : InstAt s.heap x ⟨.ref C, some d, .plain, #[]⟩ C (some (dictOf es n))) (plainGet_of hg).1 (plainGet_of hg).2 ha rfl (z s rfl)
/-- a function of the class, bound -/
theorem w_bound {expr : Bool} {f : Addr} {Q : Value → Heap → Prop} (X : K.In h) (I : Ins h C x d) (D : Dc h d kvs) (hg : plainGet K C name = true) (hh : hasDictIn K C = true) (ha : findIn K (.ref C) name = some (some (.ref f))) (hf : isFn K (.ref f) = true)
    (hgf : specialIn K (.ref f) "__get__" = some (some (.builtin "function.__get__"))) (ht : takesIn K (.ref f) = some false) (hc : copiedNames.contains name = false) (hl : kvGet name kvs = none)
    (k : ∀ h', Ext h h' → h'.get? h.objs.size = some (methodObj (.ref f) (.ref x)) → h'.objs.size = h.objs.size + 1 → Q (.ref h.objs.size) h') : Wp (model prog w) A (getAttr (.ref x) name expr) Q h := fun s hs => by
  subst hs
  obtain ⟨es, n, e, r⟩ := D
  have I' : InstAt s.heap x ⟨.ref C, some d, .plain, #[]⟩ C (some (dictOf es n)) := ⟨I, rfl, rfl, e⟩
  exact get_bind X I' (plainGet_of hg).1 (findObj_fn hh ha hgf ht hc (by show lookIn name (dictOf es n) = _; rw [lookIn_dict, r.get name, hl])) (plainGet_of hg).2
    (wpAny_call (fn_get (s := { s with toks := s.toks + 1 }) X (beq_iff_eq.mp hf) (handed_on rfl ⟨⟨rfl, rfl⟩, k _ (Ext.push _ _) (Heap.get?_push_size _ rfl) (by simp)⟩)))
theorem w_setAttr {Q : Unit → Heap → Prop} (X : K.In h) (I : Ins h C x d) (D : Dc h d kvs) (hs : findIn K (.ref C) "__setattr__" = some (some (.builtin "object.__setattr__"))) (hp : plainOver K C = true) (ht : takerIn K C name = some none)
    (hh : hasDictIn K C = true) (hz : kvs.length < 900) (k : ∀ h', Dc h' d (kvPut name v kvs) → Heap.SameBut d h h' → Q () h') : Wp (model prog w) A (setAttr (.ref x) name v) Q h := fun s hs' => by
  subst hs'
  obtain ⟨es, n, e, r⟩ := D
  have I' : InstAt s.heap x ⟨.ref C, some d, .plain, #[]⟩ C (some (dictOf es n)) := ⟨I, rfl, rfl, e⟩
  refine set_plain X I' hs ?_
  refine osa_open (s := { s with toks := s.toks + 1 }) X I' hp ht fun b => ?_
  obtain ⟨cd, hc, hd'⟩ := any_some hh
  have nf : (dictOf (putL name (PyData.keyHash w.params name) (.str name (s.toks + 1)) v es) (putN name es n)).isFreed = false := rfl
  have up : (s.heap.update d (Obj.putName name (PyData.keyHash w.params name) (.str name (s.toks + 1)) v)).get? d = some (dictOf (putL name (PyData.keyHash w.params name) (.str name (s.toks + 1)) v es) (putN name es n)) := by
    rw [← putName_dict]; rw [← putName_dict] at nf; exact Heap.get?_update_self _ e nf
  refine wpAny_bind (wpAny_pure (wpAny_bind (wpAny_bind (wpAny_loadPart I (wpAny_bind (Looks.here (s := { s with toks := s.toks + 1 }) (looks_clsIn X hc) ?_))))))
  rw [hd']
  refine wpAny_pure (a := some d) (wpAny_bind (wpAny_pure (wpAny_bind ?_)))
  unfold nsSet
  refine wpAny_bind (wpAny_bind (wpAny_askSetting (wpAny_pure (wpAny_bind (wpAny_mkText (wpAny_bind (wpAny_loadPart e ?_)))))))
  dsimp only
  have c : (!es.toArray.any (·.key.isStr name) && es.toArray.any (·.refKey)) = false := by
    rw [List.any_toArray, List.any_toArray, r.noRef, Bool.and_false]
  rw [aRefKeyMayBeTheName_at, c]
  refine wpAny_updatePart e ?_
  have hlen : (putL name (PyData.keyHash w.params name) (.str name (s.toks + 1)) v es).length ≤ kvs.length + 1 := by
    rw [(r.put name (PyData.keyHash w.params name) (s.toks + 1) v).length]
    have : ∀ l : List (Str × Value), (kvPut name v l).length ≤ l.length + 1 := by
      intro l
      induction l with
      | nil => simp [kvPut]
      | cons p l ih => obtain ⟨a, b⟩ := p; simp only [kvPut]; split <;> simp_all
    exact this kvs
  refine wpAny_bind (wpAny_lookBehind up (pastItsLine_dict (by rw [List.size_toArray, sizeLine_eq]; omega)) ?_)
  exact wpAny_pure ⟨⟨rfl, rfl⟩, k _ ⟨_, _, up, r.put name _ _ v⟩ (Heap.SameBut.update ..)⟩
end
end Mine
end
section
open PySem PySem.W PyProof.Rows PySem.Calls
set_option Elab.async false
set_option maxRecDepth 100000
set_option linter.unusedVariables false
namespace Mine
section
variable {M : Model} {A : Around} {h : Heap} {env : Env}
theorem w_attr {x attr : Str} {p pos : Pos} {Q : Value → Heap → Prop} (k : Wp M A (eval (.Name x p) env) (fun o h₁ => Wp M A (getAttr o attr true) Q h₁) h) :
    Wp M A (eval (.Attribute (.Name x p) attr pos) env) Q h := by
  rw [arm_eval_Attribute]
  refine w_bind ?_
  show Wp M A (eval (.Name x p) env) _ h
  refine k.mono fun o h₁ y => w_bind (w_standAt (w_bind (w_holding (y.mono fun r h₂ z => ?_))))
  exact w_bind (w_pure (w_pure z))
theorem w_mcall {o : Expr} {name : Str} {apos pos : Pos} {args : List Expr} {kws : List Keyword} {Q : Value → Heap → Prop}
    (k : Wp M A (eval o env) (fun ov h₁ => Wp M A (getMethod ov name (do return (← importBound o env).getD true)) (fun fv h₂ => Wp M A (callWith pos fv.1 fv.2 (backTo pos (starEach args env)) (backToKw pos (keywordEach kws env))) Q h₂) h₁) h)
    (hbase : attributeBase o name env (eval o env) = eval o env := by rfl)
    (hform : methodCallForm (args.length + kws.length) (backTo pos (starEach args env)) (backToKw pos (keywordEach kws env)) = true := by rfl)
    (hline : (apos.endLine == pos.line) = true := by rfl) :
    Wp M A (eval (.Call (.Attribute o name apos) args kws pos) env) Q h := by
  rw [arm_eval_Call, hbase]
  refine w_bind (k.mono fun ov h₁ y => w_bind (w_standAt ?_))
  unfold methodCall
  rw [hform]
  refine w_bind (w_holding ?_)
  show Wp M A (getMethod ov name (do return (← importBound o env).getD true)) _ h₁
  refine y.mono fun fv h₂ z => ?_
  obtain ⟨f, first⟩ := fv
  have hpos : methodCallPos true o env apos pos = pure pos := by unfold methodCallPos; simp [hline]
  show Wp M A (methodCallPos true o env apos pos >>= fun callPos => callWith callPos f first _ _) Q h₂
  rw [hpos]
  exact w_bind (w_pure z)
theorem w_asgAttr {x attr : Str} {p p' pos : Pos} {value : Expr} {Q : Flow → Heap → Prop}
    (k : Wp M A (eval value env) (fun v h₁ => Wp M A (eval (.Name x p) env) (fun ov h₂ => Wp M A (setAttr ov attr v) (fun _ h₃ => Q .next h₃) h₂) h₁) h)
    (h1 : swapsWithSole [.Attribute (.Name x p) attr p'] value pos.line env = pure false := by rfl)
    (h2 : swappedStores [.Attribute (.Name x p) attr p'] value env = pure none := by rfl) :
    Wp M A (exec (.Assign [.Attribute (.Name x p) attr p'] value pos) env) Q h := by
  have e : exec (.Assign [.Attribute (.Name x p) attr p'] value pos) env = (do
      standAt pos
      if ← swapsWithSole [.Attribute (.Name x p) attr p'] value pos.line env then do
        evalThenUse value env fun v => assignAll v ((assignEach [.Attribute (.Name x p) attr p'] env).map (·.2))
        pure .next
      else do
        let v ← eval value env
        assignStores env v (← swappedStores [.Attribute (.Name x p) attr p'] value env) ((assignEach [.Attribute (.Name x p) attr p'] env).map (·.2))) := rfl
  rw [e, h1, h2]
  refine w_bind (w_standAt (w_bind (w_pure ?_)))
  rw [if_neg (by decide)]
  refine w_bind (k.mono fun v h₁ y => w_bind (w_pure ?_))
  show Wp M A (do assignAll v [assign (.Attribute (.Name x p) attr p') env]; pure .next) Q h₁
  refine w_bind ?_
  show Wp M A (assign (.Attribute (.Name x p) attr p') env v) _ h₁
  rw [arm_assign_Attribute]
  refine w_bind (w_holding (y.mono fun ov h₂ z => w_bind (w_standAt (w_bind (w_holding (z.mono fun _ h₃ u => ?_))))))
  intro s hs Γ p hΓ
  rw [Sem.wp_release]
  exact ⟨⟨rfl, rfl⟩, fun s' hs' => wpAny_pure ⟨⟨rfl, rfl⟩, by rw [hs', hs]; exact u⟩⟩
theorem w_augAttr {x attr : Str} {op : Operator} {p p' pos : Pos} {value : Expr} {Q : Flow → Heap → Prop}
    (k : Wp M A (eval (.Name x p) env) (fun ov h₁ => Wp M A (getAttr ov attr true) (fun old h₂ => Wp M A (eval value env) (fun v h₃ => Wp M A (inplaceOp op old v) (fun new h₄ => Wp M A (setAttr ov attr new) (fun _ h₅ => Q .next h₅) h₄) h₃) h₂) h₁) h) :
    Wp M A (exec (.AugAssign (.Attribute (.Name x p) attr p') op value pos) env) Q h := by
  have e : exec (.AugAssign (.Attribute (.Name x p) attr p') op value pos) env = (do
    standAt pos
    let ov ← eval (.Name x p) env
    let new ← holding [ov] do
      standAt p'.atName
      let old ← getAttr ov attr true
      let v ← holding [old] (eval value env)
      standAt pos
      operate [old, v] (inplaceOp op old v)
    standAt p'.atName
    holding [new, ov] (setAttr ov attr new)
    release [new, ov] []
    pure .next) := rfl
  rw [e]
  refine w_bind (w_standAt (w_bind (k.mono fun ov h₁ y => w_bind (w_holding (w_bind (w_standAt (w_bind (y.mono fun old h₂ z => w_bind (w_holding (z.mono fun v h₃ u => w_bind (w_standAt (w_operate (u.mono fun new h₄ q => ?_))))))))))))) 
  refine w_bind (w_standAt (w_bind (w_holding (q.mono fun _ h₅ r => w_bind ?_))))
  intro s hs Γ p hΓ
  rw [Sem.wp_release]
  exact ⟨⟨rfl, rfl⟩, fun s' hs' => wpAny_pure ⟨⟨rfl, rfl⟩, by rw [hs', hs]; exact r⟩⟩
end

section
variable {prog : Program} {w : World} {A : Around} {h : Heap} {K : Frag}
/-- a class of the text is called: a new dict, a new instance, its __init__ -/
theorem w_make {C fI : Addr} {rest : List Value} {kw : List (Str × Value)} {Q : Value → Heap → Prop} (X : K.In h) (hm : makesIn K C = true)
    (hi : findIn K (.ref C) "__init__" = some (some (.ref fI))) (hf : typeIn K (.ref fI) = some (.type "function"))
    (k : ∀ x d h', x = h.objs.size + 1 → d = h.objs.size → Ext h h' → Ins h' C x d → Dc h' d [] → h'.objs.size = h.objs.size + 2 →
      Wc (model prog w) (A.under (.builtin "type.__call__" ⟨.ref C :: rest, kw⟩)) (.call (.ref fI) ⟨.ref x :: rest, kw⟩) (fun v h'' => v = .none ∧ Q (.ref x) h'') h') :
    Wp (model prog w) A (call (.ref C) rest kw) Q h := by
  intro s hs
  subst hs
  obtain ⟨hh, g, d, t, os⟩ := s
  refine wpAny_call ?_
  refine make_core (makes_of X hm) (looks_findIn X hi) (fun self => bind_fn X self hf) (.inl rfl) ?_
  have e1 : ((hh.push emptyDict).push (instObj C hh.objs.size)).get? (hh.objs.size + 1) = some (instObj C hh.objs.size) := by
    have := Heap.get?_push_size (hh.push emptyDict) (o := instObj C hh.objs.size) rfl
    rwa [Heap.size_push] at this
  have e2 : ((hh.push emptyDict).push (instObj C hh.objs.size)).get? hh.objs.size = some emptyDict := Heap.get?_push_of_some _ (Heap.get?_push_size _ rfl)
  have kk := k (hh.objs.size + 1) hh.objs.size ((hh.push emptyDict).push (instObj C hh.objs.size)) rfl rfl
    (fun b o e => Heap.get?_push_of_some _ (Heap.get?_push_of_some _ e)) e1 ⟨[], 0, e2, .nil⟩ (by simp)
  refine codeAny_mono (kk ⟨(hh.push emptyDict).push (instObj C hh.objs.size), g, d, t, os⟩ rfl) fun r s' y => ?_
  rcases r with e | (_ | _ | _ | v) <;> first | exact y.elim | skip
  exact ⟨y.2.1, y.1, y.2.2⟩
end
end Mine
end
section
open PySem PySem.W PyProof.Rows PySem.Calls
set_option Elab.async false
set_option maxRecDepth 100000
set_option linter.unusedVariables false
set_option linter.unusedSimpArgs false
namespace Mine
/-- a text by its signs -/
abbrev S (l : List Nat) : Str := ⟨l.toArray⟩
theorem S_append (a b : List Nat) : S a ++ S b = S (a ++ b) := by
  show Str.append _ _ = _
  simp [Str.append, S]
theorem S_length (a : List Nat) : (S a).length = a.length := by simp [Str.length, S]
theorem S_inj {a b : List Nat} (h : S a = S b) : a = b := by injection h with h; simpa using h
section
variable {prog : Program} {w : World} {A : Around} {h : Heap} {env : Env} {x y : List Nat} {t u : Tok}
theorem w_addStr {Q : Value → Heap → Prop} (k : ∀ t, Q (.str (S (x ++ y)) t) h) (hz : x.length + y.length ≤ sizeLine) : Wp (model prog w) A (binaryOp .Add (.str (S x) t) (.str (S y) u)) Q h := fun s hs => by
  subst hs; exact SB.add (fun t' _ => by rw [S_append]; exact ⟨⟨rfl, rfl⟩, k t'⟩) (by rw [S_length, S_length]; exact hz)
theorem w_iaddStr {Q : Value → Heap → Prop} (k : ∀ t, Q (.str (S (x ++ y)) t) h) (hz : x.length + y.length ≤ sizeLine) : Wp (model prog w) A (inplaceOp .Add (.str (S x) t) (.str (S y) u)) Q h := fun s hs => by
  subst hs; exact SB.iadd (fun t' _ => by rw [S_append]; exact ⟨⟨rfl, rfl⟩, k t'⟩) (by rw [S_length, S_length]; exact hz)
theorem w_eqStr {Q : Value → Heap → Prop} (k : Q (.bool (decide (x = y))) h) : Wp (model prog w) A (compareOp .Eq (.str (S x) t) (.str (S y) u)) Q h := fun s hs => by
  subst hs
  refine P.eq_str ⟨⟨rfl, rfl⟩, ?_⟩
  have e : ((S x).cps.toList == (S y).cps.toList) = decide (x = y) := by
    show (x == y) = decide (x = y)
    by_cases q : x = y
    · simp [q]
    · simp [q]
  rw [e]; exact k
theorem w_neStr {Q : Value → Heap → Prop} (k : Q (.bool (!decide (x = y))) h) : Wp (model prog w) A (compareOp .NotEq (.str (S x) t) (.str (S y) u)) Q h := fun s hs => by
  subst hs
  refine P.ne_str ⟨⟨rfl, rfl⟩, ?_⟩
  have e : ((S x).cps.toList != (S y).cps.toList) = !decide (x = y) := by
    by_cases q : x = y
    · simp [S, q]
    · simp [S, q, bne]
  rw [e]; exact k
theorem w_ltStr {Q : Value → Heap → Prop} (k : Q (.bool (decide (x < y))) h) : Wp (model prog w) A (compareOp .Lt (.str (S x) t) (.str (S y) u)) Q h := fun s hs => by
  subst hs
  refine P.lt_str ⟨⟨rfl, rfl⟩, ?_⟩
  have e : (decide ((S x).cps.toList < (S y).cps.toList)) = decide (x < y) := by simp [S]
  rw [e]; exact k
/-- one sign in a text -/
theorem w_inStr1 {c : Nat} {Q : Value → Heap → Prop} (k : Q (.bool (decide (c ∈ y))) h) : Wp (model prog w) A (compareOp .In (.str (S [c]) t) (.str (S y) u)) Q h := fun s hs => by
  subst hs
  refine P.in_str ⟨⟨rfl, rfl⟩, ?_⟩
  have e := StrLaws.found_one (S y) c
  have e2 : ((S y).cps.toList) = y := by simp [S]
  rw [e2] at e
  rw [e]; exact k
theorem w_lenStr {Q : Value → Heap → Prop} (k : ∀ t, Q (.int x.length t) h) (hz : x.length ≤ sizeLine) : Wp (model prog w) A (call (.builtin "len") [.str (S x) t]) Q h := fun s hs => by
  subst hs
  refine P.len_str (by rw [S_length]; rw [sizeLine_eq] at hz; lia) ⟨⟨rfl, rfl⟩, ?_⟩
  rw [S_length]; exact k _

/-! ## slices -/
theorem w_part0 {Q : Value → Heap → Prop} (k : Q .none h) : Wp (model prog w) A (evalPart none env) Q h := w_pure k
theorem w_part {e : Expr} {Q : Value → Heap → Prop} (k : Wp (model prog w) A (eval e env) Q h) : Wp (model prog w) A (evalPart (some e) env) Q h := k
theorem w_slice {l u st : Option Expr} {p : Pos} {Q : Value → Heap → Prop}
    (k : Wp (model prog w) A (evalPart l env) (fun lv h₁ => Wp (model prog w) A (evalPart u env) (fun uv h₂ => Wp (model prog w) A (evalPart st env) (fun sv h₃ =>
      Q (.ref h₃.objs.size) (h₃.push { cls := .type "slice", data := .fields #[lv, uv, sv] })) h₂) h₁) h) : Wp (model prog w) A (eval (.Slice l u st p) env) Q h := fun s hs =>
  wpAny_Slice (wpAny_mono (k s hs) (fun lv s₁ y => wpAny_mono (y.2 s₁ rfl) (fun uv s₂ z => wpAny_mono (z.2 s₂ rfl)
    (fun sv s₃ q => ⟨⟨q.1.1.trans (z.1.1.trans y.1.1), q.1.2.trans (z.1.2.trans y.1.2)⟩, q.2⟩) fun _ _ e => e) fun _ _ e => e) fun _ _ e => e)
/-- a list's slice is a new list -/
theorem w_sliceList {value slice : Expr} {l : Addr} {items : List Value} {lv uv sv : Value} {lo hi st : Option Int} {ops : List Value} {Q : Value → Heap → Prop} (hl : h.IsList l items.toArray) (pl : IsPart lv lo) (pu : IsPart uv hi) (pk : IsPart sv st) (h0 : st ≠ some 0)
    (k : ∀ a h', a = h.objs.size + 1 → Ext h h' → Ls h' a (slicePick items.toArray lo hi st).toList → h'.objs.size = h.objs.size + 2 → Q (.ref a) h') (hsz : items.length ≤ sizeLine)
    (hs : subscripted slice false (.ref l) (.ref h.objs.size) = operate ops (getItem (.ref l) (.ref h.objs.size)) := by with_unfolding_all rfl)
    (ht : ∀ r, letTemporaryGo value (.ref l) r = pure () := by intro _; with_unfolding_all rfl) :
    Wp (model prog w) A (subscriptTail value slice (.ref l) (.ref h.objs.size)) Q (h.push { cls := .type "slice", data := .fields #[lv, uv, sv] }) := fun s hs' => by
  have hl' : s.heap.IsList l items.toArray := by rw [hs']; exact hl.push _
  refine subscriptTail_ops (Heap.IsList.typeIs hl') list_getitem_lookup (wpAny_getItem_list_slice hl' (vl := lv) (vu := uv) (vs := sv) (by rw [hs']; exact Heap.IsSliceOf.new ..) pl pu pk h0 ?_ (by simpa using hsz)) hs ht
  refine ⟨⟨rfl, rfl⟩, ?_⟩
  rw [hs']
  refine k _ _ (by simp) (fun b o e => Heap.get?_push_of_some _ (Heap.get?_push_of_some _ e)) ?_ (by simp)
  have := Ls.new (h.push { cls := .type "slice", data := .fields #[lv, uv, sv] }) (slicePick items.toArray lo hi st).toList
  simpa [lst] using this
theorem w_sliceStr {value slice : Expr} {i j : Int} {ui uj : Tok} {Q : Value → Heap → Prop}
    (k : ∀ t h', Ext h h' → Q (.str (Txt.slice (S x) (some i) (some j)) t) h') (hsz : x.length ≤ sizeLine)
    (hs : subscripted slice false (.str (S x) t) (.ref h.objs.size) = operate [.ref h.objs.size, .str (S x) t] (getItem (.str (S x) t) (.ref h.objs.size)) := by with_unfolding_all rfl)
    (ht : ∀ r, letTemporaryGo value (.str (S x) t) r = pure () := by intro _; with_unfolding_all rfl) :
    Wp (model prog w) A (subscriptTail value slice (.str (S x) t) (.ref h.objs.size)) Q (h.push { cls := .type "slice", data := .fields #[.int i ui, .int j uj, .none] }) := fun s hs' => by
  have z : ItemOn (model prog w) A NoE (.str (S x) t) (.ref h.objs.size) (fun a s' => (s'.os = s.os ∧ s'.gens = s.gens) ∧ Q a s'.heap) s := by
    have := SBH.sliceItem_ss (prog := prog) (w := w) (A := A) (E := NoE) (P := fun h' => Ext h h') (s := { s with heap := h }) (x := S x) (t := t) (i := i) (j := j) (ui := ui) (uj := uj)
      (Q := fun a s' => (s'.os = s.os ∧ s'.gens = s.gens) ∧ Q a s'.heap) (fun h₁ ob e => e.trans (Ext.push _ _)) (Ext.refl _) (fun h' t' kk e => ⟨⟨rfl, rfl⟩, k t' h' e⟩) (by rw [S_length]; exact hsz)
    rw [← hs'] at this
    exact this
  exact tail_of_ItemOn z hs ht
theorem w_sliceStrTo {value slice : Expr} {j : Int} {uj : Tok} {Q : Value → Heap → Prop}
    (k : ∀ t h', Ext h h' → Q (.str (Txt.slice (S x) none (some j)) t) h') (hsz : x.length ≤ sizeLine)
    (hs : subscripted slice false (.str (S x) t) (.ref h.objs.size) = operate [.ref h.objs.size, .str (S x) t] (getItem (.str (S x) t) (.ref h.objs.size)) := by with_unfolding_all rfl)
    (ht : ∀ r, letTemporaryGo value (.str (S x) t) r = pure () := by intro _; with_unfolding_all rfl) :
    Wp (model prog w) A (subscriptTail value slice (.str (S x) t) (.ref h.objs.size)) Q (h.push { cls := .type "slice", data := .fields #[.none, .int j uj, .none] }) := fun s hs' => by
  have z : ItemOn (model prog w) A NoE (.str (S x) t) (.ref h.objs.size) (fun a s' => (s'.os = s.os ∧ s'.gens = s.gens) ∧ Q a s'.heap) s := by
    have := SBH.sliceItem_ns (prog := prog) (w := w) (A := A) (E := NoE) (P := fun h' => Ext h h') (s := { s with heap := h }) (x := S x) (t := t) (j := j) (uj := uj)
      (Q := fun a s' => (s'.os = s.os ∧ s'.gens = s.gens) ∧ Q a s'.heap) (fun h₁ ob e => e.trans (Ext.push _ _)) (Ext.refl _) (fun h' t' kk e => ⟨⟨rfl, rfl⟩, k t' h' e⟩) (by rw [S_length]; exact hsz)
    rw [← hs'] at this
    exact this
  exact tail_of_ItemOn z hs ht
theorem w_itemStr {value slice : Expr} {i : Nat} {c : Nat} {Q : Value → Heap → Prop} (hc : x[i]? = some c) (hsz : x.length ≤ sizeLine)
    (k : ∀ t, Q (.str (S [c]) t) h)
    (hs : subscripted slice false (.str (S x) t) (.int i u) = operate [.str (S x) t, .int i u] (getItem (.str (S x) t) (.int i u)) := by with_unfolding_all rfl)
    (ht : ∀ r, letTemporaryGo value (.str (S x) t) r = pure () := by intro _; with_unfolding_all rfl) :
    Wp (model prog w) A (subscriptTail value slice (.str (S x) t) (.int i u)) Q h := fun s hs' => by
  subst hs'
  have hi : i < x.length := by
    rcases Nat.lt_or_ge i x.length with q | q
    · exact q
    · rw [List.getElem?_eq_none q] at hc; cases hc
  have hch : Txt.charAt (S x) (i : Int) = some c := by
    unfold Txt.charAt seqIndex?
    rw [S_length]
    have : (if (i : Int) < 0 then (i : Int) + x.length else (i : Int)) = i := by rw [if_neg (by lia)]
    simp only [this]
    rw [if_pos (by simp; lia)]
    simp [S, hc]
  refine tail_of_ItemOn (SB.item ?_ (by rw [hch]; rfl) ⟨⟨rfl, rfl⟩, ?_⟩) hs ht
  · rw [sizeLine_eq] at hsz; unfold fitsSsize; simp; lia
  · unfold Txt.item; rw [hch]; exact k _
/-! ## a list's place is stored -/
theorem w_asgSub {o i : Expr} {p pos : Pos} {value : Expr} {Q : Flow → Heap → Prop}
    (k : Wp (model prog w) A (eval value env) (fun v h₁ => Wp (model prog w) A (eval o env) (fun ov h₂ => Wp (model prog w) A (eval i env) (fun iv h₃ => Wp (model prog w) A (setItem ov iv v) (fun _ => Q .next) h₃) h₂) h₁) h)
    (hs : swapsWith value (some (.Subscript o i p)) pos.line env = pure false := by rfl) : Wp (model prog w) A (exec (.Assign [.Subscript o i p] value pos) env) Q h := fun s hs' =>
  wpAny_Assign_Subscript (wpAny_mono (k s hs') (fun v s₁ y => wpAny_mono (y.2 s₁ rfl) (fun ov s₂ z => wpAny_mono (z.2 s₂ rfl) (fun iv s₃ q => wpAny_mono (q.2 s₃ rfl)
    (fun _ s₄ r => ⟨⟨r.1.1.trans (q.1.1.trans (z.1.1.trans y.1.1)), r.1.2.trans (q.1.2.trans (z.1.2.trans y.1.2))⟩, r.2⟩) fun _ _ e => e) fun _ _ e => e) fun _ _ e => e) fun _ _ e => e) hs
theorem w_setItem {l : Addr} {items : List Value} {j : Nat} {v : Value} {Q : Unit → Heap → Prop} (hl : h.IsList l items.toArray) (hj : j < items.length) (hz : items.length ≤ sizeLine)
    (k : ∀ h', h'.IsList l (items.set j v).toArray → Heap.SameBut l h h' → Q () h') : Wp (model prog w) A (setItem (.ref l) (.int j t) v) Q h := fun s hs => by
  subst hs
  rw [sizeLine_eq] at hz
  refine wpAny_setItem_list hl (by lia) (by lia) (by simpa using hj) (fun h' a b => ⟨⟨rfl, rfl⟩, k h' ?_ b⟩)
  simpa using a
end
end Mine
end
section
open PySem PySem.W PyProof.Rows PySem.Calls
set_option Elab.async false
set_option maxRecDepth 100000
set_option linter.unusedVariables false
set_option linter.unusedSimpArgs false
namespace Mine
/-! ## what a text's slice is -/
theorem strIdx (lo hi : Option Int) (n a b : Nat) (ha : (match lo with | none => (0 : Int) | some i => max 0 (min (if i < 0 then i + n else i) n)) = (a : Int)) (hb : (match hi with | none => (n : Int) | some i => max 0 (min (if i < 0 then i + n else i) n)) = (b : Int)) :
    PySem.Builtin.Str.strSliceIndices lo hi 1 n = (List.range (b - a)).map (a + ·) := by
  rw [← sliceRange_one, ← ha, ← hb]
  cases lo <;> cases hi <;> rfl
theorem slice_gen (x : List Nat) (lo hi : Option Int) (a b : Nat) (hb' : b ≤ x.length) (ha : (match lo with | none => (0 : Int) | some i => max 0 (min (if i < 0 then i + x.length else i) x.length)) = (a : Int)) (hb : (match hi with | none => (x.length : Int) | some i => max 0 (min (if i < 0 then i + x.length else i) x.length)) = (b : Int)) :
    Txt.slice (S x) lo hi = S ((x.drop a).take (b - a)) := by
  unfold Txt.slice
  rw [S_length, strIdx lo hi x.length a b ha hb]
  have e : ((List.range (b - a)).map (a + ·)).filterMap ((S x).cps[·]?) = (x.drop a).take (b - a) := by
    have := pick_run (S x).cps a (b - a)
    simpa using this
  rw [e]
  split
  · rename_i q
    simp at q
    rcases Nat.eq_zero_or_pos x.length with z | z
    · have : x = [] := List.length_eq_zero_iff.mp z
      subst this; simp
    · have : a = 0 := by omega
      subst this
      have : b = x.length := by omega
      subst this
      simp
  · rfl
theorem slice_eq (x : List Nat) (i j : Nat) : Txt.slice (S x) (some (i : Int)) (some (j : Int)) = S ((x.drop i).take (j - i)) := by
  rw [slice_gen x _ _ (min i x.length) (min j x.length) (by omega) (by simp only []; split <;> omega) (by simp only []; split <;> omega)]
  congr 1
  rcases Nat.le_total i x.length with q | q
  · rw [Nat.min_eq_left q]
    rcases Nat.le_total j x.length with r | r
    · rw [Nat.min_eq_left r]
    · rw [Nat.min_eq_right r, List.take_of_length_le (by simp), List.take_of_length_le (by simp; omega)]
  · have : x.drop i = [] := List.drop_of_length_le q
    rw [this, Nat.min_eq_right q]
    simp
theorem slice_butLast (x : List Nat) : Txt.slice (S x) none (some (-1)) = S x.dropLast := by
  rw [slice_gen x _ _ 0 (x.length - 1) (by omega) rfl (by simp only []; split <;> omega)]
  simp [List.dropLast_eq_take]

/-! ## cells -/
section
variable {M : Model} {A : Around} {h : Heap} {env : Env}
theorem w_nmC {x : Str} {pos : Pos} {c : Addr} {v : Value} {Q : Value → Heap → Prop} (hc : env.cells.lookup x = some c) (hv : h.IsCell c (some v)) (k : Q v h)
    (hk : env.scope.kind = .function := by rfl) (hl : env.kindOf x = some .cell := by rfl) (hd : (x == ("__debug__" : Str)) = false := by decide) :
    Wp M A (eval (.Name x pos) env) Q h := fun s hs => by subst hs; exact wpAny_Name (wpAny_loadName_cell hk hl hc hv ⟨⟨rfl, rfl⟩, k⟩) hd
theorem w_nmF {x : Str} {pos : Pos} {c : Addr} {v : Value} {Q : Value → Heap → Prop} (hc : env.cells.lookup x = some c) (hv : h.IsCell c (some v)) (k : Q v h)
    (hk : env.scope.kind = .function := by rfl) (hl : env.kindOf x = some .free := by rfl) (hd : (x == ("__debug__" : Str)) = false := by decide) (hn : (x == ("__classdict__" : Str)) = false := by decide) :
    Wp M A (eval (.Name x pos) env) Q h := fun s hs => by subst hs; exact wpAny_Name (wpAny_loadName_free hk hl hc hv ⟨⟨rfl, rfl⟩, k⟩ hn) hd
theorem w_storeC {x : Str} {v : Value} {c : Addr} {v₀ : Option Value} {Q : Unit → Heap → Prop} (hc : env.cells.lookup x = some c) (hv : h.IsCell c v₀)
    (k : ∀ h', h'.IsCell c (some v) → Heap.SameBut c h h' → Q () h') (hk : env.scope.kind = .function := by rfl) (hl : env.kindOf x = some .cell := by rfl) :
    Wp M A (storeName env x v) Q h := fun s hs => by subst hs; exact wpAny_storeName_cell hk hl hc hv (fun h' a b => ⟨⟨rfl, rfl⟩, k h' a b⟩)
end
section
variable {prog : Program} {w : World} {A : Around} {h : Heap}
/-- a plain def or closure without defaults is called -/
theorem c_callFn {fa : Addr} {o : Obj} {fd : FuncData} {body : List Stmt} {pos : List Value} {binds : List (Str × Value)} {Q : Value → Heap → Prop}
    (hroom : A.depth < recursionLimit) (ho : h.get? fa = some o) (hd : o.data = .func fd) (hlim : h.NoLimit) (hcd : h.CodeRec fd.code fd.qualname) (hbody : fd.body = .stmts body)
    (hb : bindArgs fd ⟨pos, []⟩ = pure binds) (hcell : ∀ x ∈ fd.scope.names, x.2 ≠ .cell) (hloc : ∀ x ∈ binds, fd.scope.names.lookup x.1 = some .local)
    (x : ∀ L h₁, L = h.objs.size → Fr h L h₁ (fun y => binds.reverse.lookup y) →
      Wp (model prog w) (A.deeper (callEnv fd L fa)) (execs body (callEnv fd L fa)) (fun f h' => Q (match f with | .ret v => v | _ => .none) h') h₁)
    (hco : fd.scope.isCoroutine = false) (hgen : fd.scope.isGenerator = false) (hk : fd.scope.kind = .function) :
    Wc (model prog w) A (.call (.ref fa) ⟨pos, []⟩) Q h :=
  c_callDef hroom ho hd hlim hcd hbody (fun _ _ => BindsTo.of_eq hb) hcell hloc x hco hgen hk
end
section
variable {M : Model} {A : Around} {h : Heap} {env : Env}
theorem w_stS {base : Heap} {L : Addr} {x : Str} {v : Value} {m : Str → Option Value} {Q : Unit → Heap → Prop} (F : Fr base L h m)
    (k : ∀ h', Fr base L h' (fun y => if y = x then some v else m y) → Heap.SameBut L h h' → Q () h') (hL : env.locals = L := by rfl)
    (hl : env.kindOf x = some .local := by rfl) (hp : (env.scope.kind == .class || (env.scope.kind == .module && env.locals != env.globals)) = false := by rfl) :
    Wp M A (storeName env x v) Q h := by
  subst hL
  exact w_store F.ns (fun h' a b => k h' (F.set a b) b) hl hp
theorem w_cS {x : Str} (l : List Nat) {k' : Nat} {pos : Pos} {Q : Value → Heap → Prop} (e : x = S l) (k : ∀ t, Q (.str (S l) t) h) : Wp M A (eval (.Constant (.str x) k' pos) env) Q h := by
  subst e; exact w_cStr k
end
section
variable {prog : Program} {w : World} {A : Around} {h : Heap}
theorem w_iaddInt {a b : Int} {t u : Tok} {Q : Value → Heap → Prop} (k : ∀ t, Q (.int (a + b) t) h) : Wp (model prog w) A (inplaceOp .Add (.int a t) (.int b u)) Q h := fun s hs => by subst hs; exact wpAny_iadd_int ⟨⟨rfl, rfl⟩, k _⟩
end
/-! ## hidden objects: those that a frame may change -/
theorem frHid {h h₁ : Heap} {L : Addr} {m : Str → Option Value} (F : Fr h L h₁ m) (S : List Addr) : Fr (hideAll h S) L h₁ m :=
  ⟨F.ns, fun b o e => F.keep b o (of_hideAll _ e), Nat.le_trans (Nat.le_of_eq (hideAll_size _ _)) F.above⟩
theorem frChg {base h h' : Heap} {L a : Addr} {m : Str → Option Value} (F : Fr base L h m) (sb : Heap.SameBut a h h') (ha : a ≠ L) (hn : base.get? a = none) : Fr base L h' m := ksk_fr F sb ha hn
theorem Ext.hid {H h : Heap} (e : Ext H h) {S : List Addr} (hS : ∀ a ∈ S, H.get? a = none) : Ext H (hideAll h S) :=
  fun b o q => hideAll_get _ (e b o q) fun m => by rw [hS b m] at q; cases q
/-- all but those of S are kept -/
def Kept (S : List Addr) (h h' : Heap) : Prop := ∀ b o, b ∉ S → h.get? b = some o → h'.get? b = some o
theorem Kept.refl (S : List Addr) (h : Heap) : Kept S h h := fun _ _ _ e => e
theorem Kept.trans {S : List Addr} {a b c : Heap} (x : Kept S a b) (y : Kept S b c) : Kept S a c := fun i o n e => y i o n (x i o n e)
theorem Kept.of_ext {S : List Addr} {a b : Heap} (x : Ext a b) : Kept S a b := fun i o _ e => x i o e
theorem Kept.of_same {S : List Addr} {a b : Heap} {c : Addr} (x : Heap.SameBut c a b) (hc : c ∈ S) : Kept S a b := fun i o n e => (x.2 i fun q => n (q ▸ hc)).trans e
theorem Kept.of_fr {S : List Addr} {h h' : Heap} {L : Addr} {m : Str → Option Value} (F : Fr (hideAll h S) L h' m) : Kept S h h' := fun b o n e => F.keep b o (hideAll_get _ e n)
theorem Kept.mono {S T : List Addr} {a b : Heap} (x : Kept S a b) (hs : ∀ i ∈ S, i ∈ T) : Kept T a b := fun i o n e => x i o (fun q => n (hs i q)) e
theorem Kept.ext {S : List Addr} {H a b : Heap} (x : Kept S a b) (e : Ext H a) (hS : ∀ i ∈ S, H.get? i = none) : Ext H b := fun i o q => x i o (fun m => by rw [hS i m] at q; cases q) (e i o q)
end Mine
end
section
open PySem PySem.W PyProof.Rows PySem.Calls
set_option Elab.async false
set_option maxRecDepth 100000
set_option linter.unusedVariables false
set_option linter.unusedSimpArgs false
namespace Mine
theorem slot_ci_next : Slot "callable_iterator" "__next__" "callable_iterator.__next__" :=
  .of (owner := "callable_iterator") (n := "__next__") (by rw [typeLookup_type, builtinLookup_eq_fast]; kernel_rfl) (by decide +kernel) (by decide +kernel) (by decide +kernel)
    (by first | exact .inl (by decide +kernel) | exact .inr (by decide +kernel)) (by rw [isSubtype_type]; kernel_rfl)
theorem entry_ci_next : entryFor table "callable_iterator.__next__" = some Builtin.«callable_iterator.__next__» := entryFor_of_tree (by kernel_rfl)
theorem args_ci_next (a : Value) : argsOk "callable_iterator.__next__" ⟨[a], []⟩ := by unfold argsOk; kernel_rfl
theorem slot_ci_iter : Slot "callable_iterator" "__iter__" "callable_iterator.__iter__" :=
  .of (owner := "callable_iterator") (n := "__iter__") (by rw [typeLookup_type, builtinLookup_eq_fast]; kernel_rfl) (by decide +kernel) (by decide +kernel) (by decide +kernel)
    (by first | exact .inl (by decide +kernel) | exact .inr (by decide +kernel)) (by rw [isSubtype_type]; kernel_rfl)
theorem args_ci_iter (a : Value) : argsOk "callable_iterator.__iter__" ⟨[a], []⟩ := by unfold argsOk; kernel_rfl
theorem entry_ci_iter : entryFor table "callable_iterator.__iter__" = some Builtin.«dict_keyiterator.__iter__» :=
  entryFor_alias (id' := "dict_keyiterator.__iter__") (by kernel_rfl) rfl (by decide +kernel) (by kernel_rfl)
theorem entry_iter : entryFor table "iter" = some Builtin.«iter» := entryFor_of_tree (by kernel_rfl)
theorem kind_iter : builtinKind "iter" = none := by decide +kernel
theorem plain_iter : plainId "iter" = true := by decide +kernel
theorem args_iter2 (a b : Value) : argsOk "iter" ⟨[a, b], []⟩ := by unfold argsOk; kernel_rfl
theorem meth_hascall : typeLookup (.type "method") "__call__" = pure (some (.builtin "method.__call__")) := by rw [typeLookup_type, builtinLookup_eq_fast]; kernel_rfl

abbrev ciEnd : Obj := { cls := .type "callable_iterator", data := .fields #[.none, .none, .bool true] }
abbrev ciObj (q : Addr) (ts : Tok) : Obj := { cls := .type "callable_iterator", data := .fields #[.ref q, .str (S []) ts, .bool false] }
section
variable {prog : Program} {w : World} {A : Around} {h : Heap} {s : Shared} {E : Value → Shared → Prop}
theorem wpAny_callBorrowed {M : Model} {f : Value} {pos : List Value} {Q : Value → Shared → Prop}
    (hc : codeAny M A (.call f ⟨pos, []⟩) (fun r s' => match r with | .ok (.ret v) => Q v s' | .ok _ => False | .error e => E e s') s) : wpAny M A (callBorrowed f pos) Q E s := fun Γ p hΓ => by
  unfold callBorrowed
  rw [Sem.wp_call]
  refine wpCode_mono (fun r s' y => ?_) (hc _ p rfl (hΓ.enter (.call f ⟨pos, []⟩) none p (by intro x; cases x)))
  rcases r with e | (_ | _ | _ | v) <;> first | exact y | exact y.elim
theorem looks_borrows {M : Model} {q fa : Addr} {self : Value} {of : Obj} {fd : FuncData} (hq : h.get? q = some (methodObj (.ref fa) self)) (hf : h.get? fa = some of) (hd : of.data = .func fd) : Looks M h (borrowsExactly (.ref q)) true := by
  intro A Q E s k r
  unfold borrowsExactly
  refine wpAny_bind (wpAny_load (k _ _ hq) ?_)
  show wpAny M A (do match (← load fa).data with | .func _ => pure true | _ => pure false) Q E s
  refine wpAny_bind (wpAny_load (k _ _ hf) ?_)
  rw [hd]
  exact wpAny_pure r
theorem w_iter2 {q fa : Addr} {self : Value} {t : Tok} {Q : Value → Heap → Prop} (hq : h.get? q = some (methodObj (.ref fa) self))
    (k : ∀ h', Ext h h' → h'.get? h.objs.size = some (ciObj q t) → h'.objs.size = h.objs.size + 1 → Q (.ref h.objs.size) h') : Wp (model prog w) A (call (.builtin "iter") [.ref q, .str (S []) t]) Q h := fun s hs => by
  subst hs
  refine Calls.call_function_entry kind_iter plain_iter entry_iter (args_iter2 _ _) ?_
  unfold Builtin.«iter»
  refine wpAny_bind (m := someArgs "iter" 1 2 _) (wpAny_pure ?_)
  refine wpAny_bind (wpAny_specialOf (T := "method") ⟨_, hq, rfl⟩ meth_hascall ?_)
  refine wpAny_bind (wpAny_rule (wpAny_bind (wpAny_newObj_type (wpAny_pure ⟨_, rfl, ⟨rfl, rfl⟩, k _ (Ext.push _ _) (Heap.get?_push_size _ rfl) (by simp)⟩))))
theorem w_iterCi {ci q : Addr} {t : Tok} {Q : Value → Heap → Prop} (hc : h.get? ci = some (ciObj q t)) (k : Q (.ref ci) h) : Wp (model prog w) A (pyIter (.ref ci)) Q h := fun s hs => by
  subst hs
  refine wpAny_pyIter_slot ⟨_, hc, rfl⟩ slot_ci_iter (wpAny_call_entry slot_ci_iter ⟨_, hc, rfl⟩ entry_ci_iter ?_ (args_ci_iter _))
  show wpAny _ _ (ret (.ref ci)) _ _ s
  exact wpAny_pure ⟨_, rfl, "callable_iterator", _, ⟨_, hc, rfl⟩, slot_ci_next.lookup, ⟨rfl, rfl⟩, k⟩
theorem w_nextCi {ci q fa : Addr} {self : Value} {ts : Tok} {of : Obj} {fd : FuncData} {Q : Option Value → Heap → Prop} (hc : h.get? ci = some (ciObj q ts)) (hq : h.get? q = some (methodObj (.ref fa) self)) (hf : h.get? fa = some of) (hd : of.data = .func fd) (hh : A.handled = none)
    (x : Wc (model prog w) A.in1 (.call (.ref fa) ⟨[self], []⟩) (fun v h' => ∃ l t, v = .str (S l) t ∧ h'.get? ci = some (ciObj q ts) ∧ h'.get? q = some (methodObj (.ref fa) self) ∧ h'.get? fa = some of ∧
      (l ≠ [] → Q (some v) h') ∧ (l = [] → ∀ h'', Heap.ExtBut ci h' h'' → h''.get? ci = some ciEnd → Q none h'')) h) : Wp (model prog w) A (pyNext (.ref ci)) Q h := fun s hs => by
  subst hs
  unfold pyNext
  refine wpAny_bind (wpAny_attempt (wpAny_callSpecial?_slot (name := Str.ofString "__next__") (T := "callable_iterator") ⟨_, hc, rfl⟩ slot_ci_next
    (wpAny_call_entry slot_ci_next ⟨_, hc, rfl⟩ entry_ci_next ?_ (args_ci_next _))))
  unfold Builtin.«callable_iterator.__next__»
  refine wpAny_bind (m := slotArgs "__next__" 0 _) (wpAny_pure ?_)
  refine wpAny_bind (wpAny_field hc rfl (x := .bool false) rfl ?_)
  rw [if_neg (by decide)]
  refine wpAny_bind (wpAny_field hc rfl (x := .ref q) rfl ?_)
  refine wpAny_bind (wpAny_attempt ?_)
  unfold callOutOfASlot
  refine wpAny_bind ((looks_borrows hq hf hd).here ?_)
  rw [if_pos rfl]
  refine wpAny_callBorrowed (method_call hq ?_)
  refine codeAny_mono (x s rfl) fun r s' y => ?_
  rcases r with e | (_ | _ | _ | v) <;> first | exact y.elim | skip
  obtain ⟨⟨o1, g1⟩, l, t, rfl, hc', hq', hf', k1, k2⟩ := y
  dsimp only
  refine wpAny_bind (wpAny_field hc' rfl (x := .bool false) rfl ?_)
  rw [if_neg (by decide)]
  refine wpAny_bind (wpAny_field hc' rfl (x := .str (S []) ts) rfl ?_)
  refine wpAny_bind (wpAny_holding (wpAny_eqBool_str ?_))
  by_cases hl : l = []
  · subst hl
    rw [decide_eq_true rfl, if_neg (by decide)]
    refine wpAny_bind (wpAny_rule (wpAny_bind ?_))
    refine wpAny_bind (wpAny_field hc' rfl (x := .ref q) rfl ?_)
    refine wpAny_bind (m := slotLetsGo _ (.ref q) _) ?_
    unfold slotLetsGo
    refine wpAny_bind ((looks_borrows hq' hf' hd).here ?_)
    rw [if_pos rfl]
    refine wpAny_pure ?_
    refine wpAny_bind (wpAny_setField_rec hc' (by simp) fun h1 e1 sb1 => ?_)
    refine wpAny_bind (wpAny_setField_rec (s := { s' with heap := h1 }) e1 (by simp) fun h2 e2 sb2 => ?_)
    refine wpAny_setField_rec (s := { s' with heap := h2 }) e2 (by simp) fun h3 e3 sb3 => ?_
    show wpAny _ _ (newExc (.type "StopIteration") [] >>= _) _ _ _
    refine wpAny_bind ?_
    simp only [newExc, newTuple]
    refine wpAny_bind (wpAny_newObj_type ?_ (by size_fits))
    refine wpAny_bind (m := firstArgMember _ _) (wpAny_of_eq (a := Value.none) (by first | rfl | (simp only [firstArgMember]; rfl)) ?_)
    refine wpAny_newObj_type ?_ (by size_fits)
    simp only [raiseNew]
    refine wpAny_bind (wpAny_handled ?_)
    rw [show A.in1.handled = none from hh]
    refine wpAny_bind (wpAny_pure (wpAny_throw ?_))
    refine wpAny_bind (wpAny_isInstance (T := "StopIteration") (b := true) ⟨_, Heap.get?_push_size _ rfl, rfl⟩ isSubtype_stop ?_)
    exact wpAny_pure ⟨⟨o1, g1⟩, k2 rfl _ ((((sb1.trans sb2).trans sb3).extBut.push _).push _) (Heap.get?_push_of_some _ (Heap.get?_push_of_some _ (by simpa using e3)))⟩
  · have : decide (S [] = S l) = false := decide_eq_false fun e => hl (S_inj e).symm
    rw [this, if_pos (by decide)]
    exact wpAny_pure ⟨_, rfl, wpAny_pure ⟨⟨o1, g1⟩, k1 hl⟩⟩
theorem w_nextEnd {ci : Addr} {Q : Option Value → Heap → Prop} (hc : h.get? ci = some ciEnd) (hh : A.handled = none) (k : ∀ h', Ext h h' → Q none h') : Wp (model prog w) A (pyNext (.ref ci)) Q h := fun s hs => by
  subst hs
  unfold pyNext
  refine wpAny_bind (wpAny_attempt (wpAny_callSpecial?_slot (name := Str.ofString "__next__") (T := "callable_iterator") ⟨_, hc, rfl⟩ slot_ci_next
    (wpAny_call_entry slot_ci_next ⟨_, hc, rfl⟩ entry_ci_next ?_ (args_ci_next _))))
  unfold Builtin.«callable_iterator.__next__»
  refine wpAny_bind (m := slotArgs "__next__" 0 _) (wpAny_pure ?_)
  refine wpAny_bind (wpAny_field hc rfl (x := .bool true) rfl ?_)
  rw [if_pos (by decide)]
  refine wpAny_bind (wpAny_rule (wpAny_bind ?_))
  show wpAny _ _ (newExc (.type "StopIteration") [] >>= _) _ _ _
  refine wpAny_bind ?_
  simp only [newExc, newTuple]
  refine wpAny_bind (wpAny_newObj_type ?_ (by size_fits))
  refine wpAny_bind (m := firstArgMember _ _) (wpAny_of_eq (a := Value.none) (by first | rfl | (simp only [firstArgMember]; rfl)) ?_)
  refine wpAny_newObj_type ?_ (by size_fits)
  simp only [raiseNew]
  refine wpAny_bind (wpAny_handled ?_)
  rw [show A.in1.handled = none from hh]
  refine wpAny_bind (wpAny_pure (wpAny_throw ?_))
  refine wpAny_bind (wpAny_isInstance (T := "StopIteration") (b := true) ⟨_, Heap.get?_push_size _ rfl, rfl⟩ isSubtype_stop ?_)
  exact wpAny_pure ⟨⟨rfl, rfl⟩, k _ (fun b o e => Heap.get?_push_of_some _ (Heap.get?_push_of_some _ e))⟩

/-! ## for -/
variable {env : Env}
def Wf (M : Model) (A : Around) (target : Expr) (it : Value) (body orelse : List Stmt) (env : Env) (Q : Flow → Heap → Prop) (h : Heap) : Prop :=
  ∀ s : Shared, s.heap = h → codeAny M A (.forLoop target it body orelse env) (fun r s' => match r with | .ok f => (s'.os = s.os ∧ s'.gens = s.gens) ∧ Q f s'.heap | .error _ => False) s
theorem w_for {target iter : Expr} {body orelse : List Stmt} {pos : Pos} {Q : Flow → Heap → Prop}
    (x : Wp (model prog w) A (eval iter env) (fun v h₁ => Wp (model prog w) A (pyIter v) (fun it h₂ => Wf (model prog w) A target it body orelse env Q h₂) h₁) h)
    (hf : ∀ v, foldedSetIterable iter env v = pure v := by intro _; rfl) : Wp (model prog w) A (exec (.For target iter body orelse pos) env) Q h := by
  have e : exec (.For target iter body orelse pos) env = (do
    standAt pos
    let x ← foldedSetIterable iter env (← eval iter env)
    standAt iter.pos
    runOwn (.forLoop target (← holding [x] (pyIter x)) body orelse env) env) := rfl
  rw [e]
  refine w_bind (w_standAt (w_bind (x.mono fun v h₁ y => ?_)))
  rw [hf]
  refine w_bind (w_pure (w_bind (w_standAt (w_bind (w_holding (y.mono fun it h₂ z => ?_))))))
  intro s hs
  refine wpAny_runOwn (codeAny_mono (z s hs) fun r s' q => ?_)
  cases r with
  | ok f => exact q
  | error e => exact q.elim
theorem w_forLoop {target : Expr} {it : Value} {body orelse : List Stmt} {Q : Flow → Heap → Prop} (I : Nat → Heap → Prop) (n : Nat) (h0 : I n h)
    (turn : ∀ n h, I n h → Wp (model prog w) A (pyNext it) (fun r h₁ => match r with
      | none => Wp (model prog w) A (execs orelse env) Q h₁
      | some v => Wp (model prog w) A (letOwnedTupleGo target it v) (fun _ h₁' => Wp (model prog w) A (assign target env v) (fun _ h₂ => Wp (model prog w) A (execs body env) (fun f h₃ => match f with
          | .next | .cont => ∃ m, m < n ∧ I m h₃
          | .brk => Q .next h₃
          | .ret v => Q (.ret v) h₃) h₂) h₁') h₁) h) : Wf (model prog w) A target it body orelse env Q h := by
  intro s hs
  subst hs
  refine codeAny_forLoop_any (fun k s' => (s'.os = s.os ∧ s'.gens = s.gens) ∧ I k s'.heap) (fun n s' hI => ?_) n ⟨⟨rfl, rfl⟩, h0⟩
  refine Wp.run (turn n s'.heap hI.2) (fun r s₁ o₁ g₁ y => ?_)
  cases r with
  | none => exact Wp.run y (fun f s₂ o₂ g₂ z => ⟨⟨o₂.trans (o₁.trans hI.1.1), g₂.trans (g₁.trans hI.1.2)⟩, z⟩)
  | some v =>
    refine Wp.run y (fun _ s₁' o₁' g₁' y' => ?_)
    refine Wp.run y' (fun _ s₂ o₂ g₂ z => ?_)
    refine Wp.run z (fun f s₃ o₃ g₃ q => ?_)
    have oo : s₃.os = s.os := o₃.trans (o₂.trans (o₁'.trans (o₁.trans hI.1.1)))
    have gg : s₃.gens = s.gens := g₃.trans (g₂.trans (g₁'.trans (g₁.trans hI.1.2)))
    cases f with
    | next => obtain ⟨m, hm, hi⟩ := q; exact ⟨m, hm, ⟨oo, gg⟩, hi⟩
    | cont => obtain ⟨m, hm, hi⟩ := q; exact ⟨m, hm, ⟨oo, gg⟩, hi⟩
    | brk => exact ⟨⟨oo, gg⟩, q⟩
    | ret v => exact ⟨⟨oo, gg⟩, q⟩
theorem w_asgName {M : Model} {x : Str} {pos : Pos} {v : Value} {Q : Unit → Heap → Prop} (k : Wp M A (storeName env x v) Q h) : Wp M A (assign (.Name x pos) env v) Q h := by
  rw [arm_assign_Name]; exact w_bind (w_standAt (w_bindName k))
theorem w_continue {M : Model} {pos : Pos} {Q : Flow → Heap → Prop} (k : Q .cont h) : Wp M A (exec (.Continue pos) env) Q h := fun s hs => by subst hs; exact wpAny_Continue ⟨⟨rfl, rfl⟩, k⟩
end
theorem frKept {base h h' : Heap} {L : Addr} {m : Str → Option Value} {S : List Addr} (F : Fr base L h m) (k : Kept S h h') (hS : ∀ a ∈ S, base.get? a = none) (hL : L ∉ S) : Fr base L h' m := by
  obtain ⟨o, es, ep, ho, r⟩ := F.ns
  exact ⟨⟨o, es, ep, k _ _ hL ho, r⟩, fun b o e => k b o (fun q => by rw [hS b q] at e; cases e) (F.keep b o e), F.above⟩
end Mine
end
section
open PySem PySem.W PyProof.Rows PySem.Calls
set_option Elab.async false
set_option maxRecDepth 100000
set_option linter.unusedVariables false
set_option linter.unusedSimpArgs false
namespace Mine
abbrev aInit : Addr := 64
abbrev aRC : Addr := 71
abbrev aGT : Addr := 78
abbrev aPT : Addr := 85
abbrev aCls : Addr := 88
abbrev aStream : Addr := 99
/-- the ground: what stood before the law's call, kept -/
structure Gd (w : World) (mg mb : Str → Option Value) (H h : Heap) : Prop where
  G : G0 w mg mb H
  E : Ext H h
theorem Gd.now {w : World} {mg mb : Str → Option Value} {H h : Heap} (g : Gd w mg mb H h) : G0 w mg mb h := g.G.ext g.E
theorem Gd.ext {w : World} {mg mb : Str → Option Value} {H h h' : Heap} (g : Gd w mg mb H h) (e : Ext h h') : Gd w mg mb H h' := ⟨g.G, g.E.trans e⟩
theorem Gd.kept {w : World} {mg mb : Str → Option Value} {H h h' : Heap} {S : List Addr} (g : Gd w mg mb H h) (x : Kept S h h') (hS : ∀ i ∈ S, H.get? i = none) : Gd w mg mb H h' := ⟨g.G, x.ext g.E hS⟩
theorem Gd.hid {w : World} {mg mb : Str → Option Value} {H h : Heap} {S : List Addr} (g : Gd w mg mb H h) (hS : ∀ i ∈ S, H.get? i = none) : Gd w mg mb H (hideAll h S) := ⟨g.G, g.E.hid hS⟩

noncomputable def rdStmt (w : World) : Stmt := ((bodyAt w aStream)[1]?).getD (.Pass ⟨0, 0, 0, 0⟩)
noncomputable def rdParams (w : World) : Arguments := match rdStmt w with
  | .FunctionDef _ a _ _ _ _ _ _ _ _ => a
  | _ => ⟨[], [], none, [], [], none, []⟩
noncomputable def rdBody (w : World) : List Stmt := match rdStmt w with
  | .FunctionDef _ _ b _ _ _ _ _ _ _ => b
  | _ => []
noncomputable def rdScope (w : World) : Scope := match rdStmt w with
  | .FunctionDef _ _ _ _ _ _ s _ _ _ => s
  | _ => default
abbrev nText : Str := Str.ofString "text"
abbrev nPlace : Str := Str.ofString "place"
abbrev nSize : Str := Str.ofString "size"
abbrev rdName : Str := Str.ofString "_law_read"
def rdQual : Str := (Str.ofString "_law_stream" ++ Str.ofString ".<locals>.") ++ rdName
noncomputable abbrev rdFd (w : World) (ct cp : Addr) (doc pm : Value) (c : Addr) (ctv : Value) : FuncData :=
  fnX rdName rdQual (rdParams w) (rdBody w) (rdScope w) [(nText, ct), (nPlace, cp)] .none .none doc pm none (.ref c) ctv
/-- a closure _law_read over the two cells -/
def ReadFn (w : World) (h : Heap) (f ct cp : Addr) : Prop := ∃ doc pm c ctv, h.get? f = some { cls := .type "function", data := .func (rdFd w ct cp doc pm c ctv) } ∧ h.CodeRec (.ref c) rdQual

section
variable {prog : Program} {w : World} {A : Around} {h H : Heap} {mg mb : Str → Option Value}
theorem rd_bindE (w : World) (ct cp : Addr) (doc pm : Value) (c : Addr) (ctv v : Value) : bindArgs (rdFd w ct cp doc pm c ctv) ⟨[v], []⟩ = pure [(nSize, v)] := by kernel_rfl
theorem rd_cell (w : World) : ∀ x ∈ (rdScope w).names, x.2 ≠ .cell := by
  have : ((rdScope w).names.all fun x => x.2 != .cell) = true := by kernel_rfl
  exact fun x hx => by simpa using List.all_eq_true.mp this x hx
theorem rd_loc (w : World) (v : Value) : ∀ x ∈ [(nSize, v)], (rdScope w).names.lookup x.1 = some .local := locs (by kernel_rfl)
theorem rd_s1 (w : World) : (rdScope w).isCoroutine = false := by kernel_rfl
theorem rd_s2 (w : World) : (rdScope w).isGenerator = false := by kernel_rfl
theorem rd_s3 (w : World) : (rdScope w).kind = .function := by kernel_rfl
set_option maxHeartbeats 1000000 in
theorem rd_call {f ct cp pl : Addr} {text : List Nat} {tt tp t1 : Tok} {p n : Nat} {Q : Value → Heap → Prop} (G : Gd w mg mb H h) (ok : OkA (n + 1) A) (R : ReadFn w h f ct cp)
    (hct : h.IsCell ct (some (.str (S text) tt))) (hcp : h.IsCell cp (some (.ref pl))) (hpl : h.IsList pl [Value.int p tp].toArray) (hH : H.get? pl = none) (hne1 : ct ≠ pl) (hne2 : cp ≠ pl) (hp : p ≤ text.length) (hz : text.length ≤ 1048576)
    (k : ∀ h' t t', h'.IsList pl [Value.int ((p + ((text.drop p).take 1).length : Nat) : Int) t'].toArray → Kept [pl] h h' → Q (.str (S ((text.drop p).take 1)) t) h') :
    Wc (model prog w) A (.call (.ref f) ⟨[.int 1 t1], []⟩) Q h := by
  obtain ⟨doc, pm, c, ctv, ho, hcr⟩ := R
  refine c_callFn (fd := rdFd w ct cp doc pm c ctv) (binds := [(nSize, .int 1 t1)]) (body := rdBody w) (by have := ok.depth; lia) ho rfl G.now.lim hcr rfl (rd_bindE w ct cp doc pm c ctv _) (rd_cell w) (rd_loc w _) (fun L h₁ hL F => ?_) (rd_s1 w) (rd_s2 w) (rd_s3 w)
  have hLpl : pl ≠ L := by obtain ⟨o, e, _⟩ := hpl; rw [hL]; exact Nat.ne_of_lt (Heap.lt_size e)
  have G1 := G.ext F.keep
  have hpl1 := IsList.ext hpl F.keep
  refine w_cons (w_asg (w_sub (w_nmF (c := ct) rfl (hct.keeps F.keep) ?_)))
  refine w_slice (w_part (w_sub (w_nmF (c := cp) rfl (hcp.keeps F.keep) (w_cInt fun _ => w_itemList hpl1 (by decide) (by decide) rfl ?_))))
  refine w_part (w_binOp (w_sub (w_nmF (c := cp) rfl (hcp.keeps F.keep) (w_cInt fun _ => w_itemList hpl1 (by decide) (by decide) rfl (w_nm F.ns rfl (w_addInt fun _ => w_part0 ?_))))))
  refine w_sliceStr (fun t h2 e2 => ?_) (by rw [sizeLine_eq]; lia)
  rw [show ((p : Int) + 1) = ((p + 1 : Nat) : Int) by lia, slice_eq, show p + 1 - p = 1 by lia]
  refine w_st (F.kept e2) (fun h3 F3 => ?_)
  refine w_cons (w_asgSub (w_binOp (w_sub (w_nmF (c := cp) rfl (hcp.keeps F3.keep) (w_cInt fun _ => w_itemList (IsList.ext hpl F3.keep) (by decide) (by decide) rfl ?_)))))
  refine w_callN (w_gB (v := .builtin "len") (G.ext F3.keep).now (by kernel_rfl) (by kernel_rfl) (by decide) ?_)
  refine w_args (w_arg (w_nm F3.ns rfl (w_arg0 (w_kw0 ⟨Kp.builtin _, ?_⟩))))
  refine w_lenStr (fun _ => w_addInt fun t4 => ?_) (by rw [sizeLine_eq]; simp; lia)
  refine w_nmF (c := cp) rfl (hcp.keeps F3.keep) (w_cInt fun _ => ?_)
  refine w_setItem (j := 0) (IsList.ext hpl F3.keep) (by simp) (by simp [sizeLine_eq]) (fun h4 l4 sb4 => ?_)
  refine w_cons (w_ret (w_nm (F3.ns.sameBut sb4 (Ne.symm hLpl)) rfl ?_))
  refine k h4 _ t4 ?_ (fun b o hb e => (sb4.2 b (by simpa using hb)).trans (F3.keep b o e))
  simpa using l4
end
end Mine
end
section
open PySem PySem.W PyProof.Rows PySem.Calls
set_option Elab.async false
set_option maxRecDepth 100000
set_option linter.unusedVariables false
set_option linter.unusedSimpArgs false
namespace Mine
abbrev nLine : Str := Str.ofString "lineno"
abbrev nIns : Str := Str.ofString "instream"
abbrev nWh : Str := Str.ofString "whitespace"
abbrev nPb : Str := Str.ofString "pushback"
abbrev nRead : Str := Str.ofString "read"
abbrev nRC : Str := Str.ofString "_read_char"
abbrev nGT : Str := Str.ofString "get_token"
abbrev nPT : Str := Str.ofString "push_token"
abbrev nSelf : Str := Str.ofString "self"
section
variable (w : World)
theorem pgC (n : Str) : plainGet (KH w) aCls n = true := by kernel_rfl
theorem hdC : hasDictIn (KH w) aCls = true := by kernel_rfl
theorem fiLine : findIn (KH w) (.ref aCls) nLine = some none := by kernel_rfl
theorem fiIns : findIn (KH w) (.ref aCls) nIns = some none := by kernel_rfl
theorem fiWh : findIn (KH w) (.ref aCls) nWh = some none := by kernel_rfl
theorem fiPb : findIn (KH w) (.ref aCls) nPb = some none := by kernel_rfl
theorem fiRead : findIn (KH w) (.ref aCls) nRead = some none := by kernel_rfl
theorem fiRC : findIn (KH w) (.ref aCls) nRC = some (some (.ref aRC)) := by kernel_rfl
theorem fiGT : findIn (KH w) (.ref aCls) nGT = some (some (.ref aGT)) := by kernel_rfl
theorem fiPT : findIn (KH w) (.ref aCls) nPT = some (some (.ref aPT)) := by kernel_rfl
theorem fnRC : isFn (KH w) (.ref aRC) = true := by kernel_rfl
theorem fnGT : isFn (KH w) (.ref aGT) = true := by kernel_rfl
theorem fnPT : isFn (KH w) (.ref aPT) = true := by kernel_rfl
theorem saC : findIn (KH w) (.ref aCls) "__setattr__" = some (some (.builtin "object.__setattr__")) := by kernel_rfl
theorem poC : plainOver (KH w) aCls = true := by kernel_rfl
theorem tkLine : takerIn (KH w) aCls nLine = some none := by kernel_rfl
theorem tkIns : takerIn (KH w) aCls nIns = some none := by kernel_rfl
theorem tkWh : takerIn (KH w) aCls nWh = some none := by kernel_rfl
theorem tkPb : takerIn (KH w) aCls nPb = some none := by kernel_rfl
theorem tkRead : takerIn (KH w) aCls nRead = some none := by kernel_rfl
theorem gfRC : specialIn (KH w) (.ref aRC) "__get__" = some (some (.builtin "function.__get__")) := by kernel_rfl
theorem toRC : takesIn (KH w) (.ref aRC) = some false := by kernel_rfl
end
/-- the addresses of a lexer and its stream -/
structure LexA where
  (x d pb st sd f c ct cp pl : Addr)
def LexA.all (a : LexA) : List Addr := [a.x, a.d, a.pb, a.st, a.sd, a.f, a.c, a.ct, a.cp, a.pl]
def LexA.mut (a : LexA) : List Addr := [a.d, a.pb, a.pl]
/-- what a lexer's calls do not change -/
structure LexC (w : World) (H h : Heap) (a : LexA) (text : List Nat) : Prop where
  ix : Ins h aCls a.x a.d
  ist : Ins h aCls a.st a.sd
  sd : ∃ kvs, Dc h a.sd kvs ∧ kvGet nRead kvs = some (.ref a.f)
  fn : ∃ doc pm ctv, h.get? a.f = some { cls := .type "function", data := .func (rdFd w a.ct a.cp doc pm a.c ctv) }
  cd : h.CodeRec (.ref a.c) rdQual
  ct : ∃ t, h.IsCell a.ct (some (.str (S text) t))
  cp : h.IsCell a.cp (some (.ref a.pl))
  nd : a.all.Nodup
  fr : ∀ i ∈ a.all, H.get? i = none
  len : text.length ≤ 1048576
theorem nd_at {l : List Addr} (h : l.Nodup) {i j : Nat} {x y : Addr} (hi : l[i]? = some x) (hj : l[j]? = some y) (hij : i ≠ j) : x ≠ y := fun q => by
  subst q
  exact hij ((List.getElem?_inj (List.getElem?_eq_some_iff.mp hi).1 h).mp (hi.trans hj.symm))
theorem LexA.m_x (a : LexA) : a.x ∈ a.all := List.mem_of_getElem? (i := 0) rfl
theorem LexA.m_d (a : LexA) : a.d ∈ a.all := List.mem_of_getElem? (i := 1) rfl
theorem LexA.m_pb (a : LexA) : a.pb ∈ a.all := List.mem_of_getElem? (i := 2) rfl
theorem LexA.m_st (a : LexA) : a.st ∈ a.all := List.mem_of_getElem? (i := 3) rfl
theorem LexA.m_sd (a : LexA) : a.sd ∈ a.all := List.mem_of_getElem? (i := 4) rfl
theorem LexA.m_f (a : LexA) : a.f ∈ a.all := List.mem_of_getElem? (i := 5) rfl
theorem LexA.m_c (a : LexA) : a.c ∈ a.all := List.mem_of_getElem? (i := 6) rfl
theorem LexA.m_ct (a : LexA) : a.ct ∈ a.all := List.mem_of_getElem? (i := 7) rfl
theorem LexA.m_cp (a : LexA) : a.cp ∈ a.all := List.mem_of_getElem? (i := 8) rfl
theorem LexA.m_pl (a : LexA) : a.pl ∈ a.all := List.mem_of_getElem? (i := 9) rfl
theorem LexA.s_nil (a : LexA) : ∀ b ∈ ([] : List Addr), b ∈ a.mut := sb0
theorem LexA.s_pb (a : LexA) : ∀ b ∈ [a.pb], b ∈ a.mut := sb1 im2
theorem LexA.s_pl (a : LexA) : ∀ b ∈ [a.pl], b ∈ a.mut := sb1 im3
theorem LexA.s_dl (a : LexA) : ∀ b ∈ [a.d, a.pl], b ∈ a.mut := sb2 im1 im3
theorem nd_ne {a : LexA} (h : a.all.Nodup) : a.x ∉ a.mut ∧ a.st ∉ a.mut ∧ a.sd ∉ a.mut ∧ a.f ∉ a.mut ∧ a.c ∉ a.mut ∧ a.ct ∉ a.mut ∧ a.cp ∉ a.mut := by
  have k : ∀ (i : Nat) (y : Addr), a.all[i]? = some y → i ≠ 1 → i ≠ 2 → i ≠ 9 → y ∉ a.mut := fun i y e h1 h2 h3 => nmc (nd_at h (j := 1) e rfl h1) (nmc (nd_at h (j := 2) e rfl h2) (nmc (nd_at h (j := 9) e rfl h3) nm0))
  exact ⟨k 0 _ rfl (by decide) (by decide) (by decide), k 3 _ rfl (by decide) (by decide) (by decide), k 4 _ rfl (by decide) (by decide) (by decide), k 5 _ rfl (by decide) (by decide) (by decide), k 6 _ rfl (by decide) (by decide) (by decide), k 7 _ rfl (by decide) (by decide) (by decide), k 8 _ rfl (by decide) (by decide) (by decide)⟩
theorem CodeRec.kept {S : List Addr} {h h' : Heap} {c : Addr} {q : Str} (x : h.CodeRec (.ref c) q) (k : Kept S h h') (hc : c ∉ S) : h'.CodeRec (.ref c) q := by
  obtain ⟨c', o, vs, t, e, ho, r⟩ := x
  injection e with e
  subst e
  exact ⟨_, o, vs, t, rfl, k _ _ hc ho, r⟩
theorem LexC.kept {w : World} {H h h' : Heap} {a : LexA} {text : List Nat} (C : LexC w H h a text) (k : Kept a.mut h h') : LexC w H h' a text := by
  obtain ⟨n1, n2, n3, n4, n5, n6, n7⟩ := nd_ne C.nd
  refine ⟨k _ _ n1 C.ix, k _ _ n2 C.ist, ?_, ?_, CodeRec.kept C.cd k n5, ?_, ?_, C.nd, C.fr, C.len⟩
  · obtain ⟨kvs, ⟨es, n, e, r⟩, g⟩ := C.sd
    exact ⟨kvs, ⟨es, n, k _ _ n3 e, r⟩, g⟩
  · obtain ⟨doc, pm, ctv, e⟩ := C.fn
    exact ⟨doc, pm, ctv, k _ _ n4 e⟩
  · obtain ⟨t, o, ho, hd⟩ := C.ct
    exact ⟨t, o, k _ _ n6 ho, hd⟩
  · obtain ⟨o, ho, hd⟩ := C.cp
    exact ⟨o, k _ _ n7 ho, hd⟩
theorem LexC.ext {w : World} {H h h' : Heap} {a : LexA} {text : List Nat} (C : LexC w H h a text) (k : Ext h h') : LexC w H h' a text := C.kept (Kept.of_ext k)
abbrev white : List Nat := [10, 9, 13, 32]
/-- where a lexer stands: so many signs read, those words pushed back -/
structure LexM (h : Heap) (a : LexA) (text : List Nat) (p : Nat) (toks : List Value) : Prop where
  d : ∃ t1 t2, Dc h a.d [(nLine, .int (1 + (text.take p).count 10 : Nat) t1), (nIns, .ref a.st), (nWh, .str (S white) t2), (nPb, .ref a.pb)]
  pb : Ls h a.pb toks
  pl : ∃ t, h.IsList a.pl [Value.int p t].toArray
  le : p ≤ text.length
theorem LexM.ext {h h' : Heap} {a : LexA} {text : List Nat} {p : Nat} {toks : List Value} (m : LexM h a text p toks) (k : Ext h h') : LexM h' a text p toks := by
  obtain ⟨⟨t1, t2, d⟩, pb, ⟨t, pl⟩, le⟩ := m
  exact ⟨⟨t1, t2, d.ext k⟩, pb.ext k, ⟨t, IsList.ext pl k⟩, le⟩
theorem IsList.kept {S : List Addr} {h h' : Heap} {l : Addr} {items : Array Value} (hl : h.IsList l items) (k : Kept S h h') (hn : l ∉ S) : h'.IsList l items := let ⟨o, ho, r⟩ := hl; ⟨o, k _ _ hn ho, r⟩
theorem IsList.same {h h' : Heap} {l b : Addr} {items : Array Value} (hl : h.IsList l items) (sb : Heap.SameBut b h h') (hn : l ≠ b) : h'.IsList l items := let ⟨o, ho, r⟩ := hl; ⟨o, (sb.2 l hn).trans ho, r⟩
theorem Ls.kept {S : List Addr} {h h' : Heap} {l : Addr} {vs : List Value} (hl : Ls h l vs) (k : Kept S h h') (hn : l ∉ S) : Ls h' l vs := let ⟨n, e⟩ := hl; ⟨n, k _ _ hn e⟩
theorem Dc.kept {S : List Addr} {h h' : Heap} {d : Addr} {kvs : List (Str × Value)} (x : Dc h d kvs) (k : Kept S h h') (hn : d ∉ S) : Dc h' d kvs := let ⟨es, n, e, r⟩ := x; ⟨es, n, k _ _ hn e, r⟩
theorem count_next (text : List Nat) (p : Nat) : (text.take (p + ((text.drop p).take 1).length)).count 10 = (text.take p).count 10 + ((text.drop p).take 1).count 10 := by
  rw [List.take_add, List.count_append]
  congr 2
  cases text.drop p <;> simp

section
variable {prog : Program} {w : World} {A : Around} {h H : Heap} {mg mb : Str → Option Value}
set_option maxHeartbeats 2000000 in
theorem rc_call {a : LexA} {text : List Nat} {p n : Nat} {toks : List Value} {Q : Value → Heap → Prop} (G : Gd w mg mb H h) (ok : OkA (n + 2) A) (C : LexC w H h a text) (X : LexM h a text p toks)
    (k : ∀ h' t, LexM h' a text (p + ((text.drop p).take 1).length) toks → Kept [a.d, a.pl] h h' → Q (.str (S ((text.drop p).take 1)) t) h') :
    Wc (model prog w) A (.call (.ref aRC) ⟨[.ref a.x], []⟩) Q h := by
  obtain ⟨⟨t1, t2, hd⟩, hpb, ⟨tp, hpl⟩, le⟩ := X
  refine c_callK (binds := [(nSelf, .ref a.x)]) G.now ok (by kernel_rfl) (by kernel_rfl) (by kernel_rfl) (by kernel_rfl) (fun _ => by kernel_rfl) (by kernel_rfl) (by kernel_rfl) (fun L h₁ F ok' => ?_)
  have hS : ∀ i ∈ [a.d, a.pl], (hideAll h [a.d, a.pl]).get? i = none := fun i hi => hideAll_none _ hi
  have hSH : ∀ i ∈ [a.d, a.pl], H.get? i = none := by
    intro i hi
    simp only [List.mem_cons, List.not_mem_nil, or_false] at hi
    rcases hi with rfl | rfl
    · exact C.fr _ (by first | exact LexA.m_x _ | exact LexA.m_d _ | exact LexA.m_pb _ | exact LexA.m_st _ | exact LexA.m_sd _ | exact LexA.m_f _ | exact LexA.m_c _ | exact LexA.m_ct _ | exact LexA.m_cp _ | exact LexA.m_pl _)
    · exact C.fr _ (by first | exact LexA.m_x _ | exact LexA.m_d _ | exact LexA.m_pb _ | exact LexA.m_st _ | exact LexA.m_sd _ | exact LexA.m_f _ | exact LexA.m_c _ | exact LexA.m_ct _ | exact LexA.m_cp _ | exact LexA.m_pl _)
  have F0 := frHid F [a.d, a.pl]
  have hLS : L ∉ [a.d, a.pl] := by
    intro q
    simp only [List.mem_cons, List.not_mem_nil, or_false] at q
    rcases q with q | q
    · exact Nat.not_lt.mpr F.above (q ▸ hd.lt)
    · obtain ⟨o, e, _⟩ := hpl; exact Nat.not_lt.mpr F.above (q ▸ Heap.lt_size e)
  have G1 := G.ext F.keep
  have C1 := C.ext F.keep
  have hd1 := hd.ext F.keep
  obtain ⟨kvs, hsd, hrd⟩ := C1.sd
  obtain ⟨doc, pm, ctv, hfn⟩ := C1.fn
  obtain ⟨tt, hct⟩ := C1.ct
  refine w_cons (w_asg (w_mcall (w_attr (w_nm F.ns rfl (w_getOwn G1.now.K C1.ix hd1 (pgC w _) (hdC w) (fiIns w) rfl rfl ?_)))))
  refine w_methOwn G1.now.K C1.ist hsd (pgC w _) (hdC w) (fiRead w) hrd ?_
  refine w_args (w_arg (w_cInt fun _ => w_arg0 (w_kw0 ⟨Kp.func hfn rfl, ?_⟩)))
  refine w_call (rd_call G1 (n := n) (ok'.mono (by omega)) ⟨doc, pm, a.c, ctv, hfn, C1.cd⟩ hct C1.cp (IsList.ext hpl F.keep) (hSH _ (by first | (with_reducible (first | exact im1 | exact im2 | exact im3 | exact sb0 | exact sb1 im1 | exact sb1 im2 | exact sb1 im3)) | exact nmc (adne (by decide)) nm0 | exact nmc (adne (by decide)) (nmc (adnn (by decide)) nm0) | simp)) ?_ ?_ le C.len (fun h2 t t' l2 k2 => ?_))
  · exact (nd_at C.nd (i := 7) (j := 9) rfl rfl (by decide))
  · exact (nd_at C.nd (i := 8) (j := 9) rfl rfl (by decide))
  have k2' : Kept [a.d, a.pl] h₁ h2 := k2.mono (by first | (with_reducible (first | exact im1 | exact im2 | exact im3 | exact sb0 | exact sb1 im1 | exact sb1 im2 | exact sb1 im3)) | exact nmc (adne (by decide)) nm0 | exact nmc (adne (by decide)) (nmc (adnn (by decide)) nm0) | simp)
  have F2 := frKept F0 k2' hS hLS
  have hd2 : Dc h2 a.d _ := hd1.kept k2 (by simp; exact (nd_at C.nd (i := 1) (j := 9) rfl rfl (by decide)))
  have C2 := C1.kept (k2.mono (by first | exact LexA.s_nil _ | exact LexA.s_pb _ | exact LexA.s_dl _ | exact LexA.s_pl _ | simp [LexA.mut]))
  have G2 := G1.kept k2' hSH
  have hLd : a.d ≠ L := fun q => hLS (by simp [q])
  have hLp : a.pl ≠ L := fun q => hLS (by simp [q])
  refine w_stS F2 (fun h3 F3 sb3 => ?_)
  have hd3 := hd2.same sb3 hLd
  have l3 := IsList.same l2 sb3 hLp
  have G3 : Gd w mg mb H h3 := ⟨G.G, (G.hid hSH).E.trans F3.keep⟩
  have ix3 : Ins h3 aCls a.x a.d := F3.keep _ _ (hideAll_get _ C.ix (by simp; exact ⟨(nd_at C.nd (i := 0) (j := 1) rfl rfl (by decide)), (nd_at C.nd (i := 0) (j := 9) rfl rfl (by decide))⟩))
  have fin : ∀ h4 m4, Fr (hideAll h [a.d, a.pl]) L h4 m4 → m4 (Str.ofString "ch") = some (.str (S ((text.drop p).take 1)) t) → (∃ t1, Dc h4 a.d [(nLine, .int (1 + (text.take (p + ((text.drop p).take 1).length)).count 10 : Nat) t1), (nIns, .ref a.st), (nWh, .str (S white) t2), (nPb, .ref a.pb)]) →
      h4.IsList a.pl [Value.int ((p + ((text.drop p).take 1).length : Nat) : Int) t'].toArray →
      Wp (model prog w) (A.deeper (envAt w aRC L)) (execs ((bodyAt w aRC).drop 2) (envAt w aRC L)) (fun f h' => Q (match f with | .ret v => v | _ => .none) h') h4 := by
    intro h4 m4 F4 e4 ⟨t4, d4⟩ l4
    refine w_cons (w_ret (w_nm F4.ns e4 ?_))
    refine k h4 t ⟨⟨t4, t2, d4⟩, ?_, ⟨t', l4⟩, ?_⟩ (Kept.of_fr F4)
    · obtain ⟨nn, e⟩ := hpb
      exact ⟨nn, F4.keep _ _ (hideAll_get _ e (by simp; exact ⟨fun q => (nd_at C.nd (i := 1) (j := 2) rfl rfl (by decide)) q.symm, (nd_at C.nd (i := 2) (j := 9) rfl rfl (by decide))⟩))⟩
    · simp; omega
  refine w_cons (w_if_ (w_tCmp (w_nm F3.ns rfl (w_cS [10] (by kernel_rfl) fun _ => w_eqStr (w_tBool ⟨fun e => ?_, fun e => w_nil ?_⟩)))))
  · have e : (text.drop p).take 1 = [10] := by simpa using e
    refine w_cons (w_augAttr (w_nm F3.ns rfl (w_getOwn G3.now.K ix3 hd3 (pgC w _) (hdC w) (fiLine w) rfl rfl (w_cInt fun _ => w_iaddInt fun t4 => ?_))))
    refine w_setAttr G3.now.K ix3 hd3 (saC w) (poC w) (tkLine w) (hdC w) (by first | (with_reducible (first | exact im1 | exact im2 | exact im3 | exact sb0 | exact sb1 im1 | exact sb1 im2 | exact sb1 im3)) | exact nmc (adne (by decide)) nm0 | exact nmc (adne (by decide)) (nmc (adnn (by decide)) nm0) | simp) (fun h4 d4 sb4 => w_nil ?_)
    refine fin h4 _ (frChg F3 sb4 hLd (hS _ (by first | (with_reducible (first | exact im1 | exact im2 | exact im3 | exact sb0 | exact sb1 im1 | exact sb1 im2 | exact sb1 im3)) | exact nmc (adne (by decide)) nm0 | exact nmc (adne (by decide)) (nmc (adnn (by decide)) nm0) | simp))) rfl ⟨t4, ?_⟩ (IsList.same l3 sb4 (fun q => (nd_at C.nd (i := 1) (j := 9) rfl rfl (by decide)) q.symm))
    have e2 : ((1 + (text.take p).count 10 : Nat) : Int) + 1 = ((1 + (text.take (p + ((text.drop p).take 1).length)).count 10 : Nat) : Int) := by
      rw [count_next, e]; simp; omega
    rw [e2] at d4
    exact d4
  · have e : (text.drop p).take 1 ≠ [10] := by simpa using e
    refine fin h3 _ F3 rfl ⟨t1, ?_⟩ l3
    have e2 : (text.take (p + ((text.drop p).take 1).length)).count 10 = (text.take p).count 10 := by
      rw [count_next]
      have : ((text.drop p).take 1).count 10 = 0 := by
        cases hq : text.drop p with
        | nil => rfl
        | cons c r => rw [hq] at e; exact List.count_eq_zero.2 (fun q => e (by simp at q ⊢; exact q.symm))
      omega
    rw [e2]
    exact hd3
end
end Mine
end
section
open PySem PySem.W PyProof.Rows PySem.Calls
set_option Elab.async false
set_option maxRecDepth 100000
set_option linter.unusedVariables false
set_option linter.unusedSimpArgs false
namespace Mine
section
variable {M : Model} {A : Around} {h : Heap} {env : Env}
theorem w_ld {x : Str} {v : Value} {m : Str → Option Value} {Q : Value → Heap → Prop} (hn : h.Ns env.locals m) (hv : m x = some v) (k : Q v h)
    (hk : env.scope.kind = .function := by rfl) (hl : env.kindOf x = some .local := by rfl) :
    Wp M A (loadName env x) Q h := fun s hs => by subst hs; exact wpAny_loadName_local hk hl hn hv ⟨⟨rfl, rfl⟩, k⟩
end
section
variable {prog : Program} {w : World} {A : Around} {h : Heap} {env : Env}
theorem w_tList {l : Addr} {items : Array Value} {Q : Bool → Heap → Prop} (hl : h.IsList l items) (hfit : (items.size : Int) < 2 ^ 63) (k : Q (!items.isEmpty) h) : Wp (model prog w) A (truthy (.ref l)) Q h := fun s hs => by
  subst hs; exact wpAny_truthy_list hl hfit ⟨⟨rfl, rfl⟩, k⟩
end
/-! ## pure: what a lexer reads -/
def lexG (stop : Nat → Bool) (tok : List Nat) : List Nat → List Nat × List Nat
  | [] => (tok, [])
  | c :: r => if stop c then (tok, r) else if c = 92 then (match r with | [] => (tok, []) | d :: r' => lexG stop (tok ++ [d]) r') else lexG stop (tok ++ [c]) r
def isWhite (c : Nat) : Bool := decide (c ∈ white)
def isQuote (c : Nat) : Bool := decide ([c] = [34])
def lexT : List Nat → List Nat × List Nat
  | [] => ([], [])
  | c :: r => if isWhite c then lexT r else if c = 34 then lexG isQuote [] r else if c = 92 then (match r with | [] => ([], []) | d :: r' => lexG isWhite [d] r') else lexG isWhite [c] r

abbrev nTok : Str := Str.ofString "token"
abbrev nFit : Str := Str.ofString "fiter"
abbrev nCh : Str := Str.ofString "ch"
section
variable {prog : Program} {w : World} {A : Around} {h H : Heap} {mg mb : Str → Option Value}
set_option maxHeartbeats 1000000 in
theorem pt_call {a : LexA} {text : List Nat} {p n : Nat} {toks : List Value} {v : Value} {Q : Value → Heap → Prop} (G : Gd w mg mb H h) (ok : OkA (n + 1) A) (C : LexC w H h a text) (X : LexM h a text p toks) (hz : toks.length ≤ 1000000)
    (k : ∀ h', LexM h' a text p (toks ++ [v]) → Kept [a.pb] h h' → Q .none h') :
    Wc (model prog w) A (.call (.ref aPT) ⟨[.ref a.x, v], []⟩) Q h := by
  obtain ⟨⟨t1, t2, hd⟩, hpb, ⟨tp, hpl⟩, le⟩ := X
  refine c_callK (binds := [(nSelf, .ref a.x), (nTok, v)]) G.now ok (by kernel_rfl) (by kernel_rfl) (by kernel_rfl) (by kernel_rfl) (fun _ => by kernel_rfl) (by kernel_rfl) (by kernel_rfl) (fun L h₁ F ok' => ?_)
  have G1 := G.ext F.keep
  have C1 := C.ext F.keep
  have hLp : a.pb ≠ L := fun q => Nat.not_lt.mpr F.above (q ▸ hpb.lt)
  refine w_cons (w_expr (w_meth PySem.F.plainAttrs_list PySem.F.slot_list_append PySem.F.type_list_append
    (w_attr (w_nm F.ns rfl (w_getOwn G1.now.K C1.ix (hd.ext F.keep) (pgC w _) (hdC w) (fiPb w) rfl rfl ⟨(hpb.ext F.keep).ty, ?_, ?_⟩)))))
  · intro b e; injection e with e; subst e; obtain ⟨nn, e⟩ := hpb.ext F.keep; exact ⟨_, e, rfl⟩
  refine w_args (w_arg (w_nm F.ns rfl (w_arg0 (w_kw0 ⟨Kp.builtin _, ?_⟩))))
  refine w_append (hpb.ext F.keep) (by rw [sizeLine_eq]; omega) (fun h3 l3 sb3 => ⟨fun a e => (by cases e), w_nil ?_⟩)
  refine k h3 ⟨⟨t1, t2, (hd.ext F.keep).same sb3 (nd_at C.nd (i := 1) (j := 2) rfl rfl (by decide))⟩, l3, ⟨tp, IsList.same (IsList.ext hpl F.keep) sb3 (fun q => (nd_at C.nd (i := 2) (j := 9) rfl rfl (by decide)) q.symm)⟩, le⟩ ?_
  exact (Kept.of_ext F.keep).trans (Kept.of_same sb3 (by first | (with_reducible (first | exact im1 | exact im2 | exact im3 | exact sb0 | exact sb1 im1 | exact sb1 im2 | exact sb1 im3)) | exact nmc (adne (by decide)) nm0 | exact nmc (adne (by decide)) (nmc (adnn (by decide)) nm0) | simp))

structure GtK (h0 : Heap) (a : LexA) (L ci q : Addr) : Prop where
  (Ld : a.d ≠ L) (Ll : a.pl ≠ L) (Lb : a.pb ≠ L) (cL : ci ≠ L) (qL : q ≠ L) (cq : q ≠ ci)
  (cd : a.d ≠ ci) (cl : a.pl ≠ ci) (cb : a.pb ≠ ci) (qd : q ≠ a.d) (ql : q ≠ a.pl)
  (base : (hideAll h0 [a.d, a.pl]).get? ci = none)
structure GtI (a : LexA) (text : List Nat) (h0 : Heap) (L ci q : Addr) (o : Obj) (h : Heap) (m : Str → Option Value) (p : Nat) (tok : List Nat) : Prop where
  F : Fr (hideAll h0 [a.d, a.pl]) L h m
  self : m nSelf = some (.ref a.x)
  tk : ∃ t, m nTok = some (.str (S tok) t)
  fit : m nFit = some (.ref ci)
  hc : h.get? ci = some o
  hq : h.get? q = some (methodObj (.ref aRC) (.ref a.x))
  X : LexM h a text p []
  len : tok.length ≤ p
theorem LexM.same {h h' : Heap} {a : LexA} {text : List Nat} {p : Nat} {toks : List Value} {b : Addr} (m : LexM h a text p toks) (sb : Heap.SameBut b h h') (h1 : a.d ≠ b) (h2 : a.pb ≠ b) (h3 : a.pl ≠ b) : LexM h' a text p toks := by
  obtain ⟨⟨t1, t2, d⟩, pb, ⟨t, pl⟩, le⟩ := m
  exact ⟨⟨t1, t2, d.same sb h1⟩, pb.same sb h2, ⟨t, IsList.same pl sb h3⟩, le⟩
theorem LexM.kept {S : List Addr} {h h' : Heap} {a : LexA} {text : List Nat} {p : Nat} {toks : List Value} (m : LexM h a text p toks) (k : Kept S h h') (h1 : a.d ∉ S) (h2 : a.pb ∉ S) (h3 : a.pl ∉ S) : LexM h' a text p toks := by
  obtain ⟨⟨t1, t2, d⟩, pb, ⟨t, pl⟩, le⟩ := m
  exact ⟨⟨t1, t2, d.kept k h1⟩, pb.kept k h2, ⟨t, IsList.kept pl k h3⟩, le⟩
section
variable {a : LexA} {text : List Nat} {h0 : Heap} {L ci q : Addr} {o : Obj} {m : Str → Option Value} {p : Nat} {tok : List Nat}
theorem GtI.ch {v : Value} {h' : Heap} (I : GtI a text h0 L ci q o h m p tok) (K : GtK h0 a L ci q) (F' : Fr (hideAll h0 [a.d, a.pl]) L h' (fun y => if y = nCh then some v else m y)) (sb : Heap.SameBut L h h') :
    GtI a text h0 L ci q o h' (fun y => if y = nCh then some v else m y) p tok :=
  ⟨F', (if_neg (by decide)).trans I.self, let ⟨t, e⟩ := I.tk; ⟨t, (if_neg (by decide)).trans e⟩, (if_neg (by decide)).trans I.fit, (sb.2 _ K.cL).trans I.hc, (sb.2 _ K.qL).trans I.hq, I.X.same sb K.Ld K.Lb K.Ll, I.len⟩
theorem GtI.token {t : Tok} {tok' : List Nat} {h' : Heap} (I : GtI a text h0 L ci q o h m p tok) (K : GtK h0 a L ci q) (F' : Fr (hideAll h0 [a.d, a.pl]) L h' (fun y => if y = nTok then some (.str (S tok') t) else m y)) (sb : Heap.SameBut L h h') (hl : tok'.length ≤ p) :
    GtI a text h0 L ci q o h' (fun y => if y = nTok then some (.str (S tok') t) else m y) p tok' :=
  ⟨F', (if_neg (by decide)).trans I.self, ⟨t, if_pos rfl⟩, (if_neg (by decide)).trans I.fit, (sb.2 _ K.cL).trans I.hc, (sb.2 _ K.qL).trans I.hq, I.X.same sb K.Ld K.Lb K.Ll, hl⟩
theorem GtI.ctx (I : GtI a text h0 L ci q o h m p tok) (G : Gd w mg mb H h0) (C : LexC w H h0 a text) : Gd w mg mb H h ∧ LexC w H h a text := by
  have k := Kept.of_fr I.F
  refine ⟨G.kept k ?_, C.kept (k.mono (by first | exact LexA.s_nil _ | exact LexA.s_pb _ | exact LexA.s_dl _ | exact LexA.s_pl _ | simp [LexA.mut]))⟩
  intro i hi
  simp only [List.mem_cons, List.not_mem_nil, or_false] at hi
  rcases hi with rfl | rfl
  · exact C.fr _ (by first | exact LexA.m_x _ | exact LexA.m_d _ | exact LexA.m_pb _ | exact LexA.m_st _ | exact LexA.m_sd _ | exact LexA.m_f _ | exact LexA.m_c _ | exact LexA.m_ct _ | exact LexA.m_cp _ | exact LexA.m_pl _)
  · exact C.fr _ (by first | exact LexA.m_x _ | exact LexA.m_d _ | exact LexA.m_pb _ | exact LexA.m_st _ | exact LexA.m_sd _ | exact LexA.m_f _ | exact LexA.m_c _ | exact LexA.m_ct _ | exact LexA.m_cp _ | exact LexA.m_pl _)
theorem gt_read {n : Nat} {Q : Value → Heap → Prop} (G : Gd w mg mb H h0) (C : LexC w H h0 a text) (K : GtK h0 a L ci q) (hco : ci ∉ [a.d, a.pl]) (ok : OkA (n + 2) A) (I : GtI a text h0 L ci q o h m p tok)
    (k : ∀ h' t, GtI a text h0 L ci q o h' m (p + ((text.drop p).take 1).length) tok → Q (.str (S ((text.drop p).take 1)) t) h') : Wc (model prog w) A (.call (.ref aRC) ⟨[.ref a.x], []⟩) Q h := by
  obtain ⟨G1, C1⟩ := I.ctx G C
  refine rc_call G1 ok C1 I.X (fun h' t X' k' => k h' t ⟨frKept I.F k' (fun i hi => hideAll_none _ hi) ?_, I.self, I.tk, I.fit, k' _ _ hco I.hc, k' _ _ ?_ I.hq, X', Nat.le_trans I.len (by omega)⟩)
  · simp only [List.mem_cons, List.not_mem_nil, or_false, not_or]; exact ⟨K.Ld.symm, K.Ll.symm⟩
  · simp only [List.mem_cons, List.not_mem_nil, or_false, not_or]; exact ⟨K.qd, K.ql⟩
theorem gt_next {n : Nat} {ts : Tok} {Q : Option Value → Heap → Prop} (G : Gd w mg mb H h0) (C : LexC w H h0 a text) (K : GtK h0 a L ci q) (ok : OkA (n + 3) A) (I : GtI a text h0 L ci q (ciObj q ts) h m p tok)
    (k1 : ∀ h' c r t, text.drop p = c :: r → GtI a text h0 L ci q (ciObj q ts) h' m (p + 1) tok → Q (some (.str (S [c]) t)) h')
    (k2 : text.drop p = [] → ∀ h', GtI a text h0 L ci q ciEnd h' m p tok → Q none h') : Wp (model prog w) A (pyNext (.ref ci)) Q h := by
  obtain ⟨G1, C1⟩ := I.ctx G C
  have hco : ci ∉ [a.d, a.pl] := by simp only [List.mem_cons, List.not_mem_nil, or_false, not_or]; exact ⟨K.cd.symm, K.cl.symm⟩
  have hf : h.get? aRC = some (objAt w aRC) := G1.now.K _ _ (by kernel_rfl)
  refine w_nextCi I.hc I.hq hf (fd := fnAt w aRC) (by kernel_rfl) ok.3 (gt_read (n := n) G C K hco ok.in1 I (fun h' t I' => ?_))
  obtain ⟨G2, C2⟩ := I'.ctx G C
  refine ⟨_, t, rfl, I'.hc, I'.hq, G2.now.K _ _ (by kernel_rfl), fun hl => ?_, fun hl h'' eb ec => ?_⟩
  · cases hq : text.drop p with
    | nil => rw [hq] at hl; exact absurd rfl hl
    | cons c r =>
      rw [hq] at I'
      exact k1 h' c r t hq I'
  · have e0 : text.drop p = [] := by cases hq : text.drop p with
      | nil => rfl
      | cons c r => rw [hq] at hl; simp at hl
    rw [e0] at I'
    have kk : Kept [ci] h' h'' := fun b o n e => eb b o (by simpa using n) e
    refine k2 e0 h'' ⟨frKept I'.F kk (by simpa using K.base) (by simpa using K.cL.symm), I'.self, I'.tk, I'.fit, ec, kk _ _ (by simpa using K.cq) I'.hq, I'.X.kept kk (by simpa using K.cd) (by simpa using K.cb) (by simpa using K.cl), I'.len⟩

set_option maxHeartbeats 2000000 in
/-- one of the two inner loops -/
theorem gt_inner {n : Nat} {ts : Tok} {Q : Flow → Heap → Prop} (stop : Nat → Bool) {test : Expr} {sc : Str} {k4 : Nat} {pc p1 p2 p3 p4 p5 p6 p7 p8 p9 p10 p11 p12 p13 p14 p15 : Pos} (hsc : sc = S [92]) (hline : (p8.endLine == p9.line) = true)
    (G : Gd w mg mb H h0) (C : LexC w H h0 a text) (K : GtK h0 a L ci q) (ok : OkA (n + 3) A) (res : List Nat × List Nat)
    (htest : ∀ h m p tok c t (Q : Bool → Heap → Prop), GtI a text h0 L ci q (ciObj q ts) h m p tok → m nCh = some (.str (S [c]) t) → Q (stop c) h → Wp (model prog w) A (isTrue test (envAt w aGT L) (eval test (envAt w aGT L))) Q h)
    (kret : ∀ h' t m p', GtI a text h0 L ci q (ciObj q ts) h' m p' res.1 → text.drop p' = res.2 → Q (.ret (.str (S res.1) t)) h')
    (kend : ∀ h' m p', GtI a text h0 L ci q ciEnd h' m p' res.1 → text.drop p' = [] → res.2 = [] → Q .next h')
    (I : GtI a text h0 L ci q (ciObj q ts) h m p tok) (hres : lexG stop tok (text.drop p) = res) :
    Wf (model prog w) A (.Name nCh pc) (.ref ci) [.If test [.Return (some (.Name nTok p1)) p2] [.If (.Compare (.Name nCh p3) [.Eq] [.Constant (.str sc) k4 p4] p5) [.Assign [.Name nCh p6] (.Call (.Attribute (.Name nSelf p7) nRC p8) [] [] p9) p10] [] p11] p12, .AugAssign (.Name nTok p13) .Add (.Name nCh p14) p15] []
      (envAt w aGT L) Q h := by
  have hco : ci ∉ [a.d, a.pl] := by simp only [List.mem_cons, List.not_mem_nil, or_false, not_or]; exact ⟨K.cd.symm, K.cl.symm⟩
  have hsz := C.len
  refine w_forLoop (fun n h => ∃ m p tok, GtI a text h0 L ci q (ciObj q ts) h m p tok ∧ lexG stop tok (text.drop p) = res ∧ n = text.length - p) _ ⟨m, p, tok, I, hres, rfl⟩ ?_
  clear I hres
  rintro nn h ⟨m, p, tok, I, hr, hn⟩
  refine gt_next (n := n) G C K ok I (fun h' c r t hdrop I' => ?_) (fun hd h' I' => ?_)
  · have hlt : p < text.length := by
      rcases Nat.lt_or_ge p text.length with y | y
      · exact y
      · rw [List.drop_of_length_le y] at hdrop; cases hdrop
    have hd1 : text.drop (p + 1) = r := by rw [← List.drop_drop, hdrop]; rfl
    refine w_pure (a := ()) ?_
    refine w_asgName (w_stS I'.F (fun h2 F2 sb2 => ?_))
    have I2 := I'.ch K F2 sb2
    rw [hdrop] at hr
    unfold lexG at hr
    refine w_cons (w_if_ (htest _ _ _ _ _ _ _ I2 (if_pos rfl) ⟨fun e => ?_, fun e => ?_⟩))
    · obtain ⟨tt, et⟩ := I2.tk
      refine w_cons (w_ret (w_nm I2.F.ns et ?_))
      rw [if_pos e] at hr
      subst hr
      exact kret h2 tt _ _ I2 hd1
    · rw [if_neg (by rw [e]; decide)] at hr
      refine w_cons (w_if_ (w_tCmp (w_nm I2.F.ns (if_pos rfl) (w_cS [92] hsc fun _ => w_eqStr (w_tBool ⟨fun e2 => ?_, fun e2 => w_nil (w_nil ?_)⟩)))))
      · have e2 : c = 92 := by simpa using e2
        rw [if_pos e2] at hr
        obtain ⟨G2, C2⟩ := I2.ctx G C
        obtain ⟨t1, t2, d2⟩ := I2.X.d
        refine w_cons (w_asg (w_mcall (w_nm I2.F.ns I2.self (w_method G2.now.K C2.ix d2 (pgC w _) (fiRC w) (fnRC w) rfl ?_)) (hline := hline)))
        refine w_args0 (Kp.func (G2.now.K _ _ (by kernel_rfl : (KH w).lookup aRC = some (objAt w aRC))) (fd := fnAt w aRC) (by kernel_rfl)) (w_call (gt_read (n := n) G C K hco (ok.mono (by omega)) I2 (fun h3 t3 I3 => w_stS I3.F (fun h4 F4 sb4 => w_nil (w_nil ?_)))))
        have I4 := I3.ch K F4 sb4
        obtain ⟨tt, et⟩ := I4.tk
        refine w_cons (w_aug (w_ld I4.F.ns et (w_nm I4.F.ns (if_pos rfl) (w_iaddStr (fun t5 => w_stS I4.F (fun h5 F5 sb5 => w_nil ?_)) ?_))))
        · rw [hd1] at I4 F5
          cases r with
          | nil =>
            refine ⟨_, ?_, _, p + 1, tok, I4.token K (tok' := tok) (t := t5) (by simpa using F5) sb5 I4.len, ?_, rfl⟩
            · omega
            · rw [hd1]; exact hr
          | cons d r' =>
            have hd2 : text.drop (p + 1 + 1) = r' := by rw [← List.drop_drop, hd1]; rfl
            refine ⟨_, ?_, _, p + 1 + 1, tok ++ [d], I4.token K (tok' := tok ++ [d]) (t := t5) F5 sb5 (by have := I.len; simp; omega), ?_, rfl⟩
            · omega
            · rw [hd2]; exact hr
        · have := I.len; rw [sizeLine_eq]; simp; omega
      · have e2 : c ≠ 92 := by simpa using e2
        rw [if_neg e2] at hr
        obtain ⟨tt, et⟩ := I2.tk
        refine w_cons (w_aug (w_ld I2.F.ns et (w_nm I2.F.ns (if_pos rfl) (w_iaddStr (fun t5 => w_stS I2.F (fun h5 F5 sb5 => w_nil ?_)) ?_))))
        · refine ⟨_, ?_, _, p + 1, tok ++ [c], I2.token K F5 sb5 (by have := I.len; simp; omega), ?_, rfl⟩
          · omega
          · rw [hd1]; exact hr
        · have := I.len; rw [sizeLine_eq]; simp; omega
  · rw [hd] at hr
    unfold lexG at hr
    subst hr
    exact w_nil (kend h' _ _ I' hd rfl)
end
end
end Mine
end
section
open PySem PySem.W PyProof.Rows PySem.Calls
set_option Elab.async false
set_option maxRecDepth 100000
set_option linter.unusedVariables false
set_option linter.unusedSimpArgs false
namespace Mine
noncomputable def elseAt (w : World) : List Stmt := match (((bodyAt w aGT)[3]?).getD (.Pass ⟨0, 0, 0, 0⟩)) with
  | .For _ _ b _ _ => (match b[1]?.getD (.Pass ⟨0, 0, 0, 0⟩) with | .If _ _ e _ => e | _ => [])
  | _ => []
section
variable {prog : Program} {w : World} {A : Around} {h H : Heap} {mg mb : Str → Option Value}
set_option maxHeartbeats 2000000 in
theorem gt_pop {a : LexA} {text : List Nat} {p n : Nat} {toks : List Value} {v : Value} {Q : Value → Heap → Prop} (G : Gd w mg mb H h) (ok : OkA (n + 1) A) (C : LexC w H h a text) (X : LexM h a text p (v :: toks)) (hz : toks.length ≤ 1000000)
    (k : ∀ h', LexM h' a text p toks → Kept [a.pb] h h' → Q v h') :
    Wc (model prog w) A (.call (.ref aGT) ⟨[.ref a.x], []⟩) Q h := by
  obtain ⟨⟨t1, t2, hd⟩, hpb, ⟨tp, hpl⟩, le⟩ := X
  refine c_callK (binds := [(nSelf, .ref a.x)]) G.now ok (by kernel_rfl) (by kernel_rfl) (by kernel_rfl) (by kernel_rfl) (fun _ => by kernel_rfl) (by kernel_rfl) (by kernel_rfl) (fun L h₁ F ok' => ?_)
  have G1 := G.ext F.keep
  have C1 := C.ext F.keep
  have hpb1 := hpb.ext F.keep
  refine w_cons (w_if_ (w_tPlain (w_attr (w_nm F.ns rfl (w_getOwn G1.now.K C1.ix (hd.ext F.keep) (pgC w _) (hdC w) (fiPb w) rfl rfl (w_tList hpb1.isList (by simp; omega) ⟨fun e => ?_, fun e => by simp at e⟩))))))
  refine w_cons (w_ret (w_meth PySem.F.plainAttrs_list PySem.F.slot_list_pop PySem.F.type_list_pop
    (w_attr (w_nm F.ns rfl (w_getOwn G1.now.K C1.ix (hd.ext F.keep) (pgC w _) (hdC w) (fiPb w) rfl rfl ⟨hpb1.ty, ?_, ?_⟩)))))
  · intro b e; injection e with e; subst e; obtain ⟨nn, e⟩ := hpb1; exact ⟨_, e, rfl⟩
  refine w_args (w_arg (w_cInt fun _ => w_arg0 (w_kw0 ⟨Kp.builtin _, ?_⟩)))
  refine w_popAt (i := 0) hpb1 rfl (by rw [sizeLine_eq]; simp; omega) (fun h3 l3 sb3 => ?_)
  refine k h3 ⟨⟨t1, t2, (hd.ext F.keep).same sb3 (nd_at C.nd (i := 1) (j := 2) rfl rfl (by decide))⟩, l3, ⟨tp, IsList.same (IsList.ext hpl F.keep) sb3 (fun q => (nd_at C.nd (i := 2) (j := 9) rfl rfl (by decide)) q.symm)⟩, le⟩ ?_
  exact (Kept.of_ext F.keep).trans (Kept.of_same sb3 (by first | (with_reducible (first | exact im1 | exact im2 | exact im3 | exact sb0 | exact sb1 im1 | exact sb1 im2 | exact sb1 im3)) | exact nmc (adne (by decide)) nm0 | exact nmc (adne (by decide)) (nmc (adnn (by decide)) nm0) | simp))
set_option maxHeartbeats 4000000 in
theorem gt_call {a : LexA} {text : List Nat} {p0 n : Nat} {Q : Value → Heap → Prop} (G : Gd w mg mb H h) (ok : OkA (n + 4) A) (C : LexC w H h a text) (X : LexM h a text p0 [])
    (k : ∀ h' t p', LexM h' a text p' [] → text.drop p' = (lexT (text.drop p0)).2 → Kept [a.d, a.pl] h h' → Q (.str (S (lexT (text.drop p0)).1) t) h') :
    Wc (model prog w) A (.call (.ref aGT) ⟨[.ref a.x], []⟩) Q h := by
  have X0 := X
  obtain ⟨⟨t1, t2, hd⟩, hpb, ⟨tp, hpl⟩, le⟩ := X
  refine c_callK (binds := [(nSelf, .ref a.x)]) G.now (n := n + 3) ok (by kernel_rfl) (by kernel_rfl) (by kernel_rfl) (by kernel_rfl) (fun _ => by kernel_rfl) (by kernel_rfl) (by kernel_rfl) (fun L h₁ F ok' => ?_)
  have G1 := G.ext F.keep
  have C1 := C.ext F.keep
  have hpb1 := hpb.ext F.keep
  have hS : ∀ i ∈ [a.d, a.pl], (hideAll h [a.d, a.pl]).get? i = none := fun i hi => hideAll_none _ hi
  have Ld : a.d ≠ L := fun q => Nat.not_lt.mpr F.above (q ▸ hd.lt)
  have Lb : a.pb ≠ L := fun q => Nat.not_lt.mpr F.above (q ▸ hpb.lt)
  have hpll : a.pl < h.objs.size := by obtain ⟨o, e, _⟩ := hpl; exact Heap.lt_size e
  have Ll : a.pl ≠ L := fun q => Nat.not_lt.mpr F.above (q ▸ hpll)
  refine w_cons (w_if_ (w_tPlain (w_attr (w_nm F.ns rfl (w_getOwn G1.now.K C1.ix (hd.ext F.keep) (pgC w _) (hdC w) (fiPb w) rfl rfl (w_tList hpb1.isList (by first | (with_reducible (first | exact im1 | exact im2 | exact im3 | exact sb0 | exact sb1 im1 | exact sb1 im2 | exact sb1 im3)) | exact nmc (adne (by decide)) nm0 | exact nmc (adne (by decide)) (nmc (adnn (by decide)) nm0) | simp) ⟨fun e => by simp at e, fun e => w_nil ?_⟩))))))
  refine w_cons (w_asg (w_cS [] (by kernel_rfl) fun t0 => w_stS (frHid F [a.d, a.pl]) (fun h2 F2 sb2 => ?_)))
  have k2 : Kept [a.d, a.pl] h h2 := Kept.of_fr F2
  have hSH : ∀ i ∈ [a.d, a.pl], H.get? i = none := by
    intro i hi
    simp only [List.mem_cons, List.not_mem_nil, or_false] at hi
    rcases hi with rfl | rfl
    · exact C.fr _ (by first | exact LexA.m_x _ | exact LexA.m_d _ | exact LexA.m_pb _ | exact LexA.m_st _ | exact LexA.m_sd _ | exact LexA.m_f _ | exact LexA.m_c _ | exact LexA.m_ct _ | exact LexA.m_cp _ | exact LexA.m_pl _)
    · exact C.fr _ (by first | exact LexA.m_x _ | exact LexA.m_d _ | exact LexA.m_pb _ | exact LexA.m_st _ | exact LexA.m_sd _ | exact LexA.m_f _ | exact LexA.m_c _ | exact LexA.m_ct _ | exact LexA.m_cp _ | exact LexA.m_pl _)
  have G2 := G.kept k2 hSH
  have C2 := C.kept (k2.mono (by first | exact LexA.s_nil _ | exact LexA.s_pb _ | exact LexA.s_dl _ | exact LexA.s_pl _ | simp [LexA.mut]))
  have X2 := (X0.ext F.keep).same sb2 Ld Lb Ll
  obtain ⟨t1', t2', hd2⟩ := X2.d
  refine w_cons (w_asg (w_callN (w_gB G2.now (v := .builtin "iter") (by kernel_rfl) (by kernel_rfl) (by decide) ?_)))
  refine w_args (w_arg (w_attr (w_nm F2.ns rfl (w_bound G2.now.K C2.ix hd2 (pgC w _) (hdC w) (fiRC w) (fnRC w) (gfRC w) (toRC w) (by decide) rfl (fun h3 e3 q3 z3 => ?_)))))
  refine w_arg (w_cS [] (by kernel_rfl) fun ts => w_arg0 (w_kw0 ⟨Kp.builtin _, ?_⟩))
  refine w_iter2 q3 (fun h4 e4 c4 z4 => ?_)
  have F4 : Fr (hideAll h [a.d, a.pl]) L h4 _ := frKept F2 (Kept.of_ext (S := []) (e3.trans e4)) (by first | (with_reducible (first | exact im1 | exact im2 | exact im3 | exact sb0 | exact sb1 im1 | exact sb1 im2 | exact sb1 im3)) | exact nmc (adne (by decide)) nm0 | exact nmc (adne (by decide)) (nmc (adnn (by decide)) nm0) | simp) (by first | (with_reducible (first | exact im1 | exact im2 | exact im3 | exact sb0 | exact sb1 im1 | exact sb1 im2 | exact sb1 im3)) | exact nmc (adne (by decide)) nm0 | exact nmc (adne (by decide)) (nmc (adnn (by decide)) nm0) | simp)
  have hL2 : L < h2.objs.size := F2.ns.lt
  have hs2 : h.objs.size ≤ h2.objs.size := by
    have := F2.above; rw [hideAll_size] at this; exact Nat.le_of_lt (Nat.lt_of_le_of_lt this hL2)
  have z3' : h3.objs.size = h2.objs.size + 1 := z3
  generalize hq : h2.objs.size = q at *
  generalize hci : h3.objs.size = ci at *
  have hdl := hd.lt
  have hbl := hpb.lt
  have K : GtK h a L ci q := by
    refine ⟨Ld, Ll, Lb, ?_, ?_, ?_, ?_, ?_, ?_, ?_, ?_, ?_⟩ <;> try (intro e; simp only [Addr] at *; omega)
    cases e : (hideAll h [a.d, a.pl]).get? ci with
    | none => rfl
    | some o => have := Heap.lt_size e; rw [hideAll_size] at this; simp only [Addr] at *; omega
  refine w_stS F4 (fun h5 F5 sb5 => ?_)
  have I5 : GtI a text h L ci q (ciObj q ts) h5 _ p0 [] := ⟨F5, rfl, ⟨t0, rfl⟩, rfl, (sb5.2 _ K.cL).trans c4, (sb5.2 _ K.qL).trans (e4 _ _ q3), (X2.ext (e3.trans e4)).same sb5 Ld Lb Ll, by simp⟩
  generalize (fun y => if y = Str.ofString "fiter" then some (Value.ref ci) else if y = Str.ofString "token" then some (Value.str (S []) t0) else List.lookup y [(nSelf, Value.ref a.x)].reverse) = m5 at I5
  have hco : ci ∉ [a.d, a.pl] := by simp only [List.mem_cons, List.not_mem_nil, or_false, not_or]; exact ⟨K.cd.symm, K.cl.symm⟩
  have hsz := C.len
  generalize hres : lexT (text.drop p0) = res at *
  have retQ : ∀ h' t m p', GtI a text h L ci q (ciObj q ts) h' m p' res.1 → text.drop p' = res.2 → Q (.str (S res.1) t) h' :=
    fun h' t m p' I e => k h' t p' I.X e (Kept.of_fr I.F)
  refine w_cons (w_for (w_nm I5.F.ns I5.fit (w_iterCi I5.hc ?_)))
  refine w_forLoop (fun n h' => (∃ m p, GtI a text h L ci q (ciObj q ts) h' m p [] ∧ lexT (text.drop p) = res ∧ n = text.length - p + 1) ∨
    (∃ m p, GtI a text h L ci q ciEnd h' m p res.1 ∧ text.drop p = [] ∧ res.2 = [] ∧ n = 0)) _ (.inl ⟨m5, p0, I5, hres, rfl⟩) ?_
  clear I5 F5 sb5 F4 c4 q3
  rintro nn h6 (⟨m, p, I, hr, hn⟩ | ⟨m, p, I, hd, hr, hn⟩)
  · refine gt_next (n := n) G C K ok' I (fun h' c r t hdrop I' => ?_) (fun hd h' I' => ?_)
    · have hlt : p < text.length := by
        rcases Nat.lt_or_ge p text.length with y | y
        · exact y
        · rw [List.drop_of_length_le y] at hdrop; cases hdrop
      have hd1 : text.drop (p + 1) = r := by rw [← List.drop_drop, hdrop]; rfl
      refine w_pure (a := ()) ?_
      refine w_asgName (w_stS I'.F (fun h2 F2 sb2 => ?_))
      have I2 := I'.ch K F2 sb2
      rw [hdrop] at hr
      unfold lexT at hr
      obtain ⟨G2, C2⟩ := I2.ctx G C
      obtain ⟨u1, u2, d2⟩ := I2.X.d
      refine w_cons (w_if_ (w_tCmp (w_nm I2.F.ns (if_pos rfl) (w_attr (w_nm I2.F.ns I2.self (w_getOwn G2.now.K C2.ix d2 (pgC w _) (hdC w) (fiWh w) rfl rfl (w_inStr1 (w_tBool ⟨fun e => ?_, fun e => w_nil ?_⟩))))))))
      · refine w_cons (w_continue ?_)
        rw [if_pos (show isWhite c = true from e)] at hr
        exact ⟨_, by omega, .inl ⟨_, p + 1, I2, by rw [hd1]; exact hr, rfl⟩⟩
      · rw [if_neg (by rw [show isWhite c = false from e]; decide)] at hr
        refine w_cons (w_if_ (w_tCmp (w_nm I2.F.ns (if_pos rfl) (w_cS [34] (by kernel_rfl) fun _ => w_eqStr (w_tBool ⟨fun e2 => ?_, fun e2 => ?_⟩)))))
        · have e2 : c = 34 := by simpa using e2
          rw [if_pos e2] at hr
          refine w_cons (w_for (w_nm I2.F.ns I2.fit (w_iterCi I2.hc ?_)))
          refine gt_inner (n := n) isQuote (by kernel_rfl) (by kernel_rfl) G C K ok' res (fun h m p tok c t Q I hch kq => ?_) retQ (fun h' m p' I3 hd3 hr3 => ?_) I2 (by rw [hd1]; exact hr)
          · exact w_tCmp (w_nm I.F.ns hch (w_cS [34] (by kernel_rfl) fun _ => w_eqStr (w_tBool kq)))
          · exact w_nil (w_nil ⟨0, by omega, .inr ⟨m, p', I3, hd3, hr3, rfl⟩⟩)
        · have e2 : c ≠ 34 := by simpa using e2
          rw [if_neg e2] at hr
          have tail : ∀ h' m p' tok, GtI a text h L ci q (ciObj q ts) h' m p' tok → lexG isWhite tok (text.drop p') = res → p < p' →
              Wp (model prog w) (A.deeper (envAt w aGT L)) (execs ((elseAt w).drop 2) (envAt w aGT L)) (fun f h₃ => match f with
                | .next => ∃ m, m < nn ∧ ((∃ m_1 p, GtI a text h L ci q (ciObj q ts) h₃ m_1 p [] ∧ lexT (text.drop p) = res ∧ m = text.length - p + 1) ∨ (∃ m_1 p, GtI a text h L ci q ciEnd h₃ m_1 p res.1 ∧ text.drop p = [] ∧ res.2 = [] ∧ m = 0))
                | .ret v => Q v h₃
                | _ => False) h' := by
            intro h' m p' tok I3 hr3 hp3
            refine w_cons (w_for (w_nm I3.F.ns I3.fit (w_iterCi I3.hc ?_)))
            refine gt_inner (n := n) isWhite (by kernel_rfl) (by kernel_rfl) G C K ok' res (fun h m p tok c t Q I hch kq => ?_) retQ (fun h' m p' I3 hd3 hr3 => ?_) I3 hr3
            · obtain ⟨G2, C2⟩ := I.ctx G C
              obtain ⟨u1, u2, d2⟩ := I.X.d
              exact w_tCmp (w_nm I.F.ns hch (w_attr (w_nm I.F.ns I.self (w_getOwn G2.now.K C2.ix d2 (pgC w _) (hdC w) (fiWh w) rfl rfl (w_inStr1 (w_tBool kq))))))
            · exact w_nil ⟨0, by omega, .inr ⟨m, p', I3, hd3, hr3, rfl⟩⟩
          refine w_cons (w_if_ (w_tCmp (w_nm I2.F.ns (if_pos rfl) (w_cS [92] (by kernel_rfl) fun _ => w_eqStr (w_tBool ⟨fun e3 => ?_, fun e3 => w_nil ?_⟩)))))
          · have e3 : c = 92 := by simpa using e3
            rw [if_pos e3] at hr
            refine w_cons (w_asg (w_mcall (w_nm I2.F.ns I2.self (w_method G2.now.K C2.ix d2 (pgC w _) (fiRC w) (fnRC w) rfl ?_))))
            refine w_args0 (Kp.func (G2.now.K _ _ (by kernel_rfl : (KH w).lookup aRC = some (objAt w aRC))) (fd := fnAt w aRC) (by kernel_rfl)) (w_call (gt_read (n := n) G C K hco (ok'.mono (by omega)) I2 (fun h3 t3 I3 => w_stS I3.F (fun h4 F4 sb4 => w_nil ?_))))
            have I4 := I3.ch K F4 sb4
            obtain ⟨tt, et⟩ := I4.tk
            refine w_cons (w_aug (w_ld I4.F.ns et (w_nm I4.F.ns (if_pos rfl) (w_iaddStr (fun t5 => w_stS I4.F (fun h5 F5 sb5 => ?_)) ?_))))
            · rw [hd1] at I4 F5
              cases r with
              | nil => 
                refine (tail h5 _ (p + 1) [] (I4.token K (tok' := []) (t := t5) (by simpa using F5) sb5 I4.len) ?_ (by omega)).mono (fun f h₃ y => ?_)
                · rw [hd1]; exact hr
                · cases f <;> first | exact y.elim | exact w_nil y | exact y
              | cons d r' =>
                have hd2 : text.drop (p + 1 + 1) = r' := by rw [← List.drop_drop, hd1]; rfl
                refine (tail h5 _ (p + 1 + 1) [d] (I4.token K (tok' := [d]) (t := t5) F5 sb5 (by first | (with_reducible (first | exact im1 | exact im2 | exact im3 | exact sb0 | exact sb1 im1 | exact sb1 im2 | exact sb1 im3)) | exact nmc (adne (by decide)) nm0 | exact nmc (adne (by decide)) (nmc (adnn (by decide)) nm0) | simp)) ?_ (by omega)).mono (fun f h₃ y => ?_)
                · rw [hd2]; exact hr
                · cases f <;> first | exact y.elim | exact w_nil y | exact y
            · rw [sizeLine_eq]; simp; omega
          · have e3 : c ≠ 92 := by simpa using e3
            rw [if_neg e3] at hr
            obtain ⟨tt, et⟩ := I2.tk
            refine w_cons (w_aug (w_ld I2.F.ns et (w_nm I2.F.ns (if_pos rfl) (w_iaddStr (fun t5 => w_stS I2.F (fun h5 F5 sb5 => ?_)) ?_))))
            · refine (tail h5 _ (p + 1) [c] (I2.token K (tok' := [c]) (t := t5) F5 sb5 (by first | (with_reducible (first | exact im1 | exact im2 | exact im3 | exact sb0 | exact sb1 im1 | exact sb1 im2 | exact sb1 im3)) | exact nmc (adne (by decide)) nm0 | exact nmc (adne (by decide)) (nmc (adnn (by decide)) nm0) | simp)) ?_ (by omega)).mono (fun f h₃ y => ?_)
              · rw [hd1]; exact hr
              · cases f <;> first | exact y.elim | exact w_nil y | exact y
            · rw [sizeLine_eq]; simp
    · rw [hd] at hr
      unfold lexT at hr
      subst hr
      obtain ⟨tt, et⟩ := I'.tk
      exact w_nil (w_cons (w_ret (w_nm I'.F.ns et (k h' tt p I'.X hd (Kept.of_fr I'.F)))))
  · refine w_nextEnd I.hc ok'.3 (fun h' e' => ?_)
    obtain ⟨tt, et⟩ := I.tk
    have F' := frKept I.F (Kept.of_ext (S := []) e') (by first | (with_reducible (first | exact im1 | exact im2 | exact im3 | exact sb0 | exact sb1 im1 | exact sb1 im2 | exact sb1 im3)) | exact nmc (adne (by decide)) nm0 | exact nmc (adne (by decide)) (nmc (adnn (by decide)) nm0) | simp) (by first | (with_reducible (first | exact im1 | exact im2 | exact im3 | exact sb0 | exact sb1 im1 | exact sb1 im2 | exact sb1 im3)) | exact nmc (adne (by decide)) nm0 | exact nmc (adne (by decide)) (nmc (adnn (by decide)) nm0) | simp)
    exact w_nil (w_cons (w_ret (w_nm F'.ns et (k h' tt p (I.X.ext e') (hd.trans hr.symm) (Kept.of_fr F')))))
end
end Mine
end
section
open PySem PySem.W PyProof.Rows PySem.Calls
set_option Elab.async false
set_option maxRecDepth 100000
set_option linter.unusedVariables false
set_option linter.unusedSimpArgs false
namespace Mine
abbrev tpl (vs : List Value) : Obj := { cls := .type "tuple", data := .seq vs.toArray }
section
variable {M : Model} {A : Around} {h : Heap} {env : Env}
theorem w_list {elts : List Expr} {pos : Pos} {Q : Value → Heap → Prop}
    (x : Wp M A (spliced (backTo pos (starEach elts env))) (fun vs h₁ => vs.length ≤ sizeLine ∧ ∀ h₂ a, a = h₁.objs.size → Ext h₁ h₂ → Ls h₂ a vs → h₂.objs.size = h₁.objs.size + 1 → Q (.ref a) h₂) h) : Wp M A (eval (.List elts pos) env) Q h := by
  rw [arm_eval_List]
  refine w_bind (w_standAt (w_bind (x.mono fun vs h₁ y => ?_)))
  intro s hs
  subst hs
  refine wpAny_newObj_type ⟨⟨rfl, rfl⟩, y.2 _ _ rfl (Ext.push _ _) (Ls.new _ _) (by simp)⟩ ?_
  simpa [sizeOk] using y.1
theorem w_tuple {elts : List Expr} {k : Nat} {pos : Pos} {Q : Value → Heap → Prop}
    (x : Wp M A (spliced (backTo pos (starEach elts env))) (fun vs h₁ => vs.length ≤ sizeLine ∧ ∀ h₂ a, a = h₁.objs.size → Ext h₁ h₂ → h₂.get? a = some (tpl vs) → h₂.objs.size = h₁.objs.size + 1 → Q (.ref a) h₂) h) : Wp M A (eval (.Tuple elts k pos) env) Q h := by
  rw [arm_eval_Tuple]
  refine w_bind (w_standAt (w_bind (x.mono fun vs h₁ y => ?_)))
  intro s hs
  subst hs
  refine wpAny_newObj_type ⟨⟨rfl, rfl⟩, y.2 _ _ rfl (Ext.push _ _) (Heap.get?_push_size _ rfl) (by simp)⟩ ?_
  simpa [sizeOk] using y.1
end
theorem get_none {h : Heap} {a : Addr} (ha : h.objs.size ≤ a) : h.get? a = none := by
  cases e : h.get? a with
  | none => rfl
  | some o => exact absurd (Heap.lt_size e) (Nat.not_lt.mpr ha)
end Mine
end
section
open PySem PySem.W PyProof.Rows PySem.Calls
set_option Elab.async false
set_option maxRecDepth 100000
set_option linter.unusedVariables false
set_option linter.unusedSimpArgs false
namespace Mine
section
variable {prog : Program} {w : World} {A : Around} {h H : Heap} {mg mb : Str → Option Value}
theorem mkWeight (C : Addr) (rest : List Value) (kw : List (Str × Value)) : (Code.builtin "type.__call__" ⟨.ref C :: rest, kw⟩).weight = 1 := by kernel_rfl
theorem mkUnits (C : Addr) (rest : List Value) (kw : List (Str × Value)) : (Code.builtin "type.__call__" ⟨.ref C :: rest, kw⟩).cUnits = 1 := by kernel_rfl
theorem OkA.make {n : Nat} {A : Around} {C : Addr} {rest : List Value} {kw : List (Str × Value)} (h : OkA (n + 1) A) : OkA n (A.under (.builtin "type.__call__" ⟨.ref C :: rest, kw⟩)) :=
  ⟨by have := h.depth; show A.depth + (Code.builtin "type.__call__" ⟨.ref C :: rest, kw⟩).weight + n < _; rw [mkWeight]; lia,
   by have := h.units; show A.units + (Code.builtin "type.__call__" ⟨.ref C :: rest, kw⟩).cUnits + 20 * n < _; rw [mkUnits]; lia, h.handled⟩
set_option maxHeartbeats 2000000 in
theorem in_call {x d n : Nat} {v : Value} {Q : Value → Heap → Prop} (G : Gd w mg mb H h) (ok : OkA (n + 1) A) (I : Ins h aCls x d) (D : Dc h d []) (hH : H.get? d = none) (hxd : x ≠ d)
    (k : ∀ h' pb t1 t2, Dc h' d [(nLine, .int 1 t1), (nIns, v), (nWh, .str (S white) t2), (nPb, .ref pb)] → Ls h' pb [] → h.objs.size ≤ pb → Kept [d] h h' → Q .none h') :
    Wc (model prog w) A (.call (.ref aInit) ⟨[.ref x, v], []⟩) Q h := by
  refine c_callK (binds := [(nSelf, .ref x), (Str.ofString "fp", v)]) G.now ok (by kernel_rfl) (by kernel_rfl) (by kernel_rfl) (by kernel_rfl) (fun _ => by kernel_rfl) (by kernel_rfl) (by kernel_rfl) (fun L h₁ F ok' => ?_)
  have G1 := G.ext F.keep
  have I1 := I.ext F.keep
  have D1 := D.ext F.keep
  have hLd : d ≠ L := fun q => Nat.not_lt.mpr F.above (q ▸ D.lt)
  have hSH : ∀ i ∈ [d], H.get? i = none := by simpa using hH
  have hS : (hideAll h [d]).get? d = none := hideAll_none _ (by simp)
  have F1 := frHid F [d]
  refine w_cons (w_asgAttr (w_cInt fun t1 => w_nm F.ns rfl ?_))
  refine w_setAttr G1.now.K I1 D1 (saC w) (poC w) (tkLine w) (hdC w) (by simp) (fun h2 (d2 : Dc h2 d [(nLine, .int 1 t1)]) sb2 => ?_)
  have F2 := frChg F1 sb2 hLd hS
  have I2 := I1.same sb2 hxd
  have G2 := G1.kept (Kept.of_same (S := [d]) sb2 (by simp)) hSH
  refine w_cons (w_asgAttr (w_nm F2.ns rfl (w_nm F2.ns rfl ?_)))
  refine w_setAttr G2.now.K I2 d2 (saC w) (poC w) (tkIns w) (hdC w) (by simp) (fun h3 (d3 : Dc h3 d [(nLine, .int 1 t1), (nIns, v)]) sb3 => ?_)
  have F3 := frChg F2 sb3 hLd hS
  have I3 := I2.same sb3 hxd
  have G3 := G2.kept (Kept.of_same (S := [d]) sb3 (by simp)) hSH
  refine w_cons (w_asgAttr (w_cS white (by kernel_rfl) fun t2 => w_nm F3.ns rfl ?_))
  refine w_setAttr G3.now.K I3 d3 (saC w) (poC w) (tkWh w) (hdC w) (by simp) (fun h4 (d4 : Dc h4 d [(nLine, .int 1 t1), (nIns, v), (nWh, .str (S white) t2)]) sb4 => ?_)
  have F4 := frChg F3 sb4 hLd hS
  have I4 := I3.same sb4 hxd
  have G4 := G3.kept (Kept.of_same (S := [d]) sb4 (by simp)) hSH
  refine w_cons (w_asgAttr (w_list (w_arg0 ⟨by simp, fun h5 pb ep e5 l5 z5 => ?_⟩)))
  have F5 := frKept F4 (Kept.of_ext (S := []) e5) (by simp) (by simp)
  refine w_nm F5.ns rfl ?_
  have hpd : pb ≠ d := by subst ep; exact Nat.ne_of_gt d4.lt
  refine w_setAttr (G4.ext e5).now.K (I4.ext e5) (d4.ext e5) (saC w) (poC w) (tkPb w) (hdC w) (by simp) (fun h6 d6 sb6 => w_nil ?_)
  have F6 := frChg F5 sb6 hLd hS
  refine k h6 pb t1 t2 d6 (l5.same sb6 hpd) ?_ (Kept.of_fr F6)
  have := F4.above
  rw [hideAll_size] at this
  subst ep
  exact Nat.le_of_lt (Nat.lt_of_le_of_lt this F4.ns.lt)

theorem gd_none {w : World} {mg mb : Str → Option Value} {H h : Heap} {a : Addr} (G : Gd w mg mb H h) (ha : h.objs.size ≤ a) : H.get? a = none := by
  cases e : H.get? a with
  | none => rfl
  | some o => exact absurd (Heap.lt_size (G.E _ _ e)) (Nat.not_lt.mpr ha)
theorem mk_makes (w : World) : makesIn (KH w) aCls = true := by kernel_rfl
theorem mk_init (w : World) : findIn (KH w) (.ref aCls) "__init__" = some (some (.ref aInit)) := by kernel_rfl
theorem mk_fn (w : World) : typeIn (KH w) (.ref aInit) = some (.type "function") := by kernel_rfl
/-- a lexer is made -/
theorem mk_call {n : Nat} {v : Value} {Q : Value → Heap → Prop} (G : Gd w mg mb H h) (ok : OkA (n + 2) A)
    (k : ∀ h' x d pb t1 t2, x = h.objs.size + 1 → d = h.objs.size → h.objs.size + 2 ≤ pb → Ins h' aCls x d → Dc h' d [(nLine, .int 1 t1), (nIns, v), (nWh, .str (S white) t2), (nPb, .ref pb)] → Ls h' pb [] → Ext h h' → Q (.ref x) h') :
    Wp (model prog w) A (call (.ref aCls) [v]) Q h := by
  refine w_make G.now.K (mk_makes w) (mk_init w) (mk_fn w) (fun x d h1 hx hd e1 I1 D1 z1 => ?_)
  have G1 := G.ext e1
  have hH : H.get? d = none := gd_none G (Nat.le_of_eq hd.symm)
  have hxd : x ≠ d := by subst hx; subst hd; exact Nat.succ_ne_self _
  refine in_call (n := n) G1 (OkA.make ok) I1 D1 hH hxd (fun h2 pb t1 t2 d2 l2 hp k2 => ⟨rfl, ?_⟩)
  refine k h2 x d pb t1 t2 hx hd (by rw [← z1]; exact hp) (k2 _ _ (by simpa using hxd) I1) d2 l2 ?_
  intro b o e
  exact k2 _ _ (by simp; intro q; subst q; subst hd; exact absurd (Heap.lt_size e) (Nat.lt_irrefl _)) (e1 _ _ e)
end
end Mine
end
section
open PySem PySem.W PyProof.Rows PySem.Calls
set_option Elab.async false
set_option maxRecDepth 100000
set_option linter.unusedVariables false
set_option linter.unusedSimpArgs false
namespace Mine
/-! ## tables of codes -/
theorem among_snoc {p : Pos} {a b : Int} {c : Value} (l : List Value) (h : TriplesOk l) :
    codeAmong p (l ++ [rawInt a, rawInt b, c]) = (codeAmong p l).or (if a == p.line && b == p.col then some c else none) := by
  fun_induction TriplesOk l with
  | case1 => simp [codeAmong, rawInt]
  | case2 a' t b' u x rest ih =>
    simp only [List.cons_append, codeAmong]
    split
    · simp
    · exact ih h
  | case3 l h1 h2 => exact h.elim
/-- a def's own table: what it holds for the places that matter -/
def TabP (H h : Heap) (P : Addr) (places : List (Pos × Str)) : Prop := ∃ ps, h.get? P = some (tabObj ps) ∧ TriplesOk ps.toList ∧
  ∀ q ∈ places, codeAmong q.1 ps.toList = none ∨ ∃ c', codeAmong q.1 ps.toList = some (.ref c') ∧ h.CodeRec (.ref c') q.2 ∧ H.get? c' = none ∧ c' ≠ P
theorem CodeRec.keptTo {h h' : Heap} {c : Addr} {q : Str} (x : h.CodeRec (.ref c) q) (k : ∀ o, h.get? c = some o → h'.get? c = some o) : h'.CodeRec (.ref c) q := by
  obtain ⟨c', o, vs, t, e, ho, r⟩ := x
  injection e with e
  subst e
  exact ⟨_, o, vs, t, rfl, k _ ho, r⟩
theorem CodeRec.fields {h : Heap} {c : Addr} {q : Str} (x : h.CodeRec (.ref c) q) : ∃ o vs, h.get? c = some o ∧ o.data = .fields vs := by
  obtain ⟨c', o, vs, t, e, ho, r⟩ := x
  injection e with e
  subst e
  exact ⟨o, vs, ho, r.1⟩
theorem TabP.kept {S : List Addr} {H h h' : Heap} {P : Addr} {places : List (Pos × Str)} (T : TabP H h P places) (k : Kept S h h') (hP : P ∉ S) (hS : ∀ i ∈ S, ∀ o vs, h.get? i = some o → o.data ≠ .fields vs) : TabP H h' P places := by
  obtain ⟨ps, e, t, r⟩ := T
  refine ⟨ps, k _ _ hP e, t, fun q hq => (r q hq).imp id fun ⟨c', e1, e2, e3⟩ => ⟨c', e1, CodeRec.keptTo e2 (fun o ho => k _ _ (fun m => ?_) ho), e3⟩⟩
  obtain ⟨o', vs, e4, e5⟩ := CodeRec.fields e2
  exact hS _ m o' vs e4 e5
theorem TabP.ext {H h h' : Heap} {P : Addr} {places : List (Pos × Str)} (T : TabP H h P places) (k : Ext h h') : TabP H h' P places := T.kept (Kept.of_ext (S := []) k) (by first | (with_reducible (first | exact im1 | exact im2 | exact im3 | exact sb0 | exact sb1 im1 | exact sb1 im2 | exact sb1 im3)) | exact nmc (adne (by decide)) nm0 | exact nmc (adne (by decide)) (nmc (adnn (by decide)) nm0) | simp) (by first | (with_reducible (first | exact im1 | exact im2 | exact im3 | exact sb0 | exact sb1 im1 | exact sb1 im2 | exact sb1 im3)) | exact nmc (adne (by decide)) nm0 | exact nmc (adne (by decide)) (nmc (adnn (by decide)) nm0) | simp)
theorem BuiltinsAt.ext {h h' : Heap} {mg : Str → Option Value} {P : Addr} (x : h.BuiltinsAt mg P) (k : Ext h h') : h'.BuiltinsAt mg P :=
  let ⟨bm, o, a, b, c, d, e, r⟩ := x; ⟨bm, o, a, b, c, d, k _ _ e, r⟩
section
variable {M : Model} {A : Around} {H h : Heap} {env : Env} {c P : Addr} {mg : Str → Option Value} {clos : List (Str × Addr)} {places : List (Pos × Str)} {name qual : Str} {params : Arguments} {body : List Stmt} {scope : Scope} {pos : Pos} {firstLine : Nat}
theorem w_makeFn {Q : Value → Heap → Prop} (T : TabP H h P places) (E : Ext H h) (hm : (pos, qual) ∈ places) (hsame : ∀ q ∈ places, q.1.line = pos.line → q.1.col = pos.col → q.2 = qual)
    (hcl : closureFor scope env = pure clos) (hg0 : env.globals = mainGlobals) (hg : h.Ns mainGlobals mg) (hcode : env.code = .ref c) (C : CodeHd h c P) (hb : h.BuiltinsAt mg P)
    (k : ∀ h' f c' ctv doc, Heap.ExtBut P h h' → TabP H h' P places → h.objs.size ≤ f → f < h'.objs.size → h'.get? f = some (fnMade name qual params body scope clos doc ((mg "__name__").getD .none) c' ctv) → h'.CodeRec (.ref c') qual → H.get? c' = none → c' ≠ f → c' ≠ P → Q (.ref f) h') :
    Wp M A (makeFunction name qual params (.stmts body) scope env [] [] [] pos firstLine) Q h := by
  intro s hs
  subst hs
  obtain ⟨ps, e, t, r⟩ := T
  have hgP : mainGlobals ≠ P := fun q => by
    obtain ⟨o, es, ep, e', hd, _⟩ := hg
    rw [q, e] at e'; cases e'; cases hd
  have hPlt := Heap.lt_size e
  rcases r _ hm with hn | ⟨c', hc', rec', hH, hcP⟩
  · refine makeFunction_K hcl hg0 hg hcode C e t hn hgP hb (fun c' ctv doc h' tk eb hge hlt hrec htab => ⟨⟨rfl, rfl⟩, ?_⟩)
    have hcP : c' ≠ P := by intro q; rw [q] at hge; exact absurd hPlt (Nat.not_lt.mpr hge)
    have hH : H.get? c' = none := by
      cases e' : H.get? c' with
      | none => rfl
      | some o => exact absurd (Heap.lt_size (E _ _ e')) (Nat.not_lt.mpr hge)
    have ebf : Heap.ExtBut P s.heap (h'.push (fnMade name qual params body scope clos doc ((mg "__name__").getD .none) c' ctv)) := fun b o nb eb' => Heap.get?_push_of_some _ (eb b o nb eb')
    refine k _ h'.objs.size c' ctv doc ebf ?_ (Nat.le_of_lt (Nat.lt_of_le_of_lt hge hlt)) (by first | (with_reducible (first | exact im1 | exact im2 | exact im3 | exact sb0 | exact sb1 im1 | exact sb1 im2 | exact sb1 im3)) | exact nmc (adne (by decide)) nm0 | exact nmc (adne (by decide)) (nmc (adnn (by decide)) nm0) | simp) (Heap.get?_push_size _ rfl) (CodeRec.keptTo hrec fun o ho => Heap.get?_push_of_some _ ho) hH (Nat.ne_of_lt hlt) hcP
    refine ⟨_, Heap.get?_push_of_some _ htab, by simpa using TriplesOk_snoc _ _ _ _ t, fun q hq => ?_⟩
    simp only [Array.toList_append]
    rw [among_snoc _ t]
    rcases r q hq with h1 | ⟨c2, h1, h2, h3, h4⟩
    · rw [h1]
      by_cases hq2 : ((pos.line : Int) == q.1.line && (pos.col : Int) == q.1.col) = true
      · rw [if_pos hq2]
        simp at hq2
        refine .inr ⟨c', rfl, ?_, hH, hcP⟩
        rw [hsame q hq (by lia) (by lia)]
        exact CodeRec.keptTo hrec fun o ho => Heap.get?_push_of_some _ ho
      · rw [if_neg hq2]; exact .inl rfl
    · rw [h1]
      exact .inr ⟨c2, rfl, CodeRec.keptTo h2 fun o ho => ebf _ _ h4 ho, h3, h4⟩
  · refine makeFunction_hit hcl hg0 hg hcode C e t hc' hb (fun ctv doc h' tk hk hsz => ⟨⟨rfl, rfl⟩, ?_⟩)
    have ex : Ext s.heap (h'.push (fnMade name qual params body scope clos doc ((mg "__name__").getD .none) c' ctv)) := fun b o e' => Heap.get?_push_of_some _ (hk b o e')
    refine k _ h'.objs.size c' ctv doc (fun b o _ e' => ex b o e') (TabP.ext ⟨ps, e, t, r⟩ ex) hsz (by first | (with_reducible (first | exact im1 | exact im2 | exact im3 | exact sb0 | exact sb1 im1 | exact sb1 im2 | exact sb1 im3)) | exact nmc (adne (by decide)) nm0 | exact nmc (adne (by decide)) (nmc (adnn (by decide)) nm0) | simp) (Heap.get?_push_size _ rfl) (CodeRec.keptTo rec' fun o ho => ex _ _ ho) hH ?_ hcP
    obtain ⟨o', vs, e4, e5⟩ := CodeRec.fields rec'
    exact Nat.ne_of_lt (Nat.lt_of_lt_of_le (Heap.lt_size e4) hsz)
theorem w_def {Q : Flow → Heap → Prop} (hd0 : params.defaults = []) (hk0 : params.kw_defaults = []) (ha : annTrees params none env = [])
    (x : Wp M A (makeFunction name (qualnameIn env name name) params (.stmts body) scope env [] [] [] pos pos.line) (fun v h' => Wp M A (storeName env name v) (fun _ h'' => Q .next h'') h') h) :
    Wp M A (exec (.FunctionDef name params body [] none [] scope none name pos) env) Q h := by
  intro s hs
  refine nestDef_K hd0 hk0 ha (wpAny_mono (x s hs) (fun v s' y => ?_) fun _ _ z => z)
  exact wpAny_mono (y.2 s' rfl) (fun u s'' z => ⟨⟨z.1.1.trans y.1.1, z.1.2.trans y.1.2⟩, z.2⟩) fun _ _ z => z
end
/-! ## frames with cells -/
section
variable {prog : Program} {w : World} {A : Around} {h : Heap}
theorem c_callC {fa : Addr} {o : Obj} {fd : FuncData} {body : List Stmt} {vals : List Value} {binds : List (Str × Value)} {Q : Value → Heap → Prop}
    (hroom : A.depth < recursionLimit) (ho : h.get? fa = some o) (hd : o.data = .func fd) (hlim : h.NoLimit) (hcd : h.CodeRec fd.code fd.qualname) (hbody : fd.body = .stmts body)
    (hbind : bindArgs fd ⟨vals, []⟩ = pure binds) (hclo : fd.closure = [])
    (hkind : ∀ L, ∀ x ∈ binds, fd.scope.names.lookup x.1 = some .local ∨ (fd.scope.names.lookup x.1 = some .cell ∧ ((cellsFrom (L + 1) fd.scope.names []).lookup x.1).isSome = true))
    (x : ∀ L h₁, L = h.objs.size → Fr h L h₁ (bindL (callEnvC fd L fa).kindOf binds fun _ => none) → (∀ n c, (callEnvC fd L fa).cells.lookup n = some c → h₁.IsCell c (bindC (callEnvC fd L fa).kindOf binds (fun _ => none) n)) →
      Wp (model prog w) (A.deeper (callEnvC fd L fa)) (execs body (callEnvC fd L fa)) (fun f h' => Q (match f with | .ret v => v | _ => .none) h') h₁)
    (hco : fd.scope.isCoroutine = false := by rfl) (hgen : fd.scope.isGenerator = false := by rfl) (hk : fd.scope.kind = .function := by rfl) :
    Wc (model prog w) A (.call (.ref fa) ⟨vals, []⟩) Q h := by
  intro s hs
  subst hs
  refine codeAny_call_cells hroom ho hd hlim hcd hbody hbind hclo (hkind _) (fun s₁ I => ?_) hco hgen hk
  obtain ⟨⟨⟨h1, tk, rfl⟩, ns, keep, fresh⟩, cell, apart, above⟩ := I
  refine Wp.run (x _ _ rfl ⟨ns, keep, fresh⟩ cell) (fun f s' o1 g1 y => ⟨⟨o1, g1⟩, y⟩)
end
end Mine
end
section
open PySem PySem.W PyProof.Rows PySem.Calls
set_option Elab.async false
set_option maxRecDepth 100000
set_option linter.unusedVariables false
set_option linter.unusedSimpArgs false
namespace Mine
section
variable {prog : Program} {w : World} {A : Around} {h H : Heap} {mg mb : Str → Option Value}
theorem kpCls (G : G0 w mg mb h) : Kp (model prog w) h (.ref aCls) := by
  refine ⟨.machine, ?_⟩
  obtain ⟨cd, hd⟩ : ∃ cd, (objAt w aCls).data = .cls cd := ⟨_, rfl⟩
  have ho : h.get? aCls = some (objAt w aCls) := G.K _ _ (by kernel_rfl)
  have hs : Looks (model prog w) h (specialOf (.ref aCls) "__call__") (some (.builtin "type.__call__")) := looks_specialIn G.K (by kernel_rfl)
  intro A Q E s k q
  unfold keeperOf
  refine wpAny_bind (wpAny_load (k _ _ ho) ?_)
  rw [hd]
  exact wpAny_bind (hs _ _ _ _ k (wpAny_pure q))
noncomputable def rdPos (w : World) : Pos := match rdStmt w with
  | .FunctionDef _ _ _ _ _ _ _ _ _ p => p
  | _ => ⟨0, 0, 0, 0⟩
abbrev tabS : Addr := 94
/-- what a stream is -/
structure StrC (w : World) (h : Heap) (st sd f c ct cp pl : Addr) (text : List Nat) : Prop where
  ist : Ins h aCls st sd
  sd : ∃ kvs, Dc h sd kvs ∧ kvGet nRead kvs = some (.ref f)
  fn : ∃ doc pm ctv, h.get? f = some { cls := .type "function", data := .func (rdFd w ct cp doc pm c ctv) }
  cd : h.CodeRec (.ref c) rdQual
  ct : ∃ t, h.IsCell ct (some (.str (S text) t))
  cp : h.IsCell cp (some (.ref pl))
  pl : ∃ t, h.IsList pl [Value.int 0 t].toArray
set_option maxHeartbeats 4000000 in
theorem str_call {n : Nat} {text : List Nat} {t0 : Tok} {Q : Value → Heap → Prop} (G : Gd w mg mb H h) (ok : OkA (n + 3) A) (T : TabP H h tabS [(rdPos w, rdQual)]) (C : CodeHd H 98 tabS) (hb : H.BuiltinsAt mg tabS) (hP : H.get? tabS = none)
    (k : ∀ h' st sd f c ct cp pl, StrC w h' st sd f c ct cp pl text → (∀ i ∈ [st, sd, f, ct, cp, pl], h.objs.size ≤ i) → [st, sd, f, ct, cp, pl].Nodup → H.get? c = none → Kept [tabS] h h' → TabP H h' tabS [(rdPos w, rdQual)] → Q (.ref st) h') :
    Wc (model prog w) A (.call (.ref aStream) ⟨[.str (S text) t0], []⟩) Q h := by
  have hE := G.E
  have hPlt : tabS < h.objs.size := by obtain ⟨ps, e, _⟩ := T; exact Heap.lt_size e
  refine c_callC (fd := fnAt w aStream) (body := bodyAt w aStream) (binds := [(nText, .str (S text) t0)]) (by have := ok.depth; omega) (G.now.K _ _ (by kernel_rfl : (KH w).lookup aStream = some (objAt w aStream))) (by kernel_rfl) G.now.lim
    (codeRec_of G.now.K (by kernel_rfl)) (by kernel_rfl) (by kernel_rfl) (by kernel_rfl) (fun L x hx => ?_) (fun L h₁ hL F cell => ?_)
  · simp only [List.mem_singleton] at hx; subst hx; exact .inr ⟨by kernel_rfl, by rfl⟩
  have ok' : OkA (n + 2) (A.deeper (callEnvC (fnAt w aStream) L aStream)) := ok.deeper _
  have c1 : h₁.IsCell (L + 1) (some (.str (S text) t0)) := cell nText _ rfl
  have c2 : h₁.IsCell (L + 1 + 1) none := cell nPlace _ rfl
  have F : Fr h L h₁ (fun _ => none) := F
  clear cell
  refine w_cons (w_asg (w_list (w_arg (w_cInt fun tz => w_arg0 ⟨by simp [sizeLine_eq], fun h2 pl ep e2 l2 z2 => ?_⟩))))
  have c2' : h2.IsCell (L + 1 + 1) none := let ⟨o, a, b⟩ := c2; ⟨o, e2 _ _ a, b⟩
  have c1' : h2.IsCell (L + 1) (some (.str (S text) t0)) := let ⟨o, a, b⟩ := c1; ⟨o, e2 _ _ a, b⟩
  have hlt1 : L + 1 < h₁.objs.size := let ⟨o, a, b⟩ := c1; Heap.lt_size a
  have hlt2 : L + 1 + 1 < h₁.objs.size := let ⟨o, a, b⟩ := c2; Heap.lt_size a
  refine w_storeC (c := L + 1 + 1) rfl c2' (fun h3 c3 sb3 => ?_)
  have hLh : h.objs.size ≤ L := F.above
  have hL1 : h.objs.size ≤ L + 1 := Nat.le_succ_of_le hLh
  have hL2 : h.objs.size ≤ L + 1 + 1 := Nat.le_succ_of_le hL1
  have hne2 : L + 1 + 1 ≠ L := fun q => by have : L + 1 + 1 = L + 0 := q; omega
  have hTL : tabS ≠ L := Nat.ne_of_lt (Nat.lt_of_lt_of_le hPlt hLh)
  have hT1 : tabS ≠ L + 1 := Nat.ne_of_lt (Nat.lt_of_lt_of_le hPlt hL1)
  have hT2 : tabS ≠ L + 1 + 1 := Nat.ne_of_lt (Nat.lt_of_lt_of_le hPlt hL2)
  have F2 := frKept F (Kept.of_ext (S := []) e2) (by first | (with_reducible (first | exact im1 | exact im2 | exact im3 | exact sb0 | exact sb1 im1 | exact sb1 im2 | exact sb1 im3)) | exact nmc (adne (by decide)) nm0 | exact nmc (adne (by decide)) (nmc (adnn (by decide)) nm0) | simp) (by first | (with_reducible (first | exact im1 | exact im2 | exact im3 | exact sb0 | exact sb1 im1 | exact sb1 im2 | exact sb1 im3)) | exact nmc (adne (by decide)) nm0 | exact nmc (adne (by decide)) (nmc (adnn (by decide)) nm0) | simp)
  have F3 := frHid (frChg F2 sb3 hne2 (get_none hL2)) [tabS]
  have hSP : ∀ i ∈ [tabS], (hideAll h [tabS]).get? i = none := fun i hi => hideAll_none _ hi
  have G3 : Gd w mg mb H h3 := (G.hid (S := [tabS]) (by simpa using hP)).ext F3.keep
  have T3 : TabP H h3 tabS [(rdPos w, rdQual)] := ((T.ext F.keep).ext e2).kept (Kept.of_same sb3 (List.mem_singleton.mpr rfl)) (by simpa using hT2) (by
    intro i hi o vs ho hv
    simp only [List.mem_singleton] at hi
    subst hi
    obtain ⟨o', a, b⟩ := c2'
    rw [a] at ho; cases ho; rw [b] at hv; cases hv)
  refine w_cons (w_def (by kernel_rfl) (by kernel_rfl) (by rfl) ?_)
  refine w_makeFn (c := 98) (qual := rdQual) T3 G3.E (List.mem_singleton.mpr rfl) (by intro q hq _ _; simp only [List.mem_singleton] at hq; subst hq; rfl) (clos := [(nText, L + 1), (nPlace, L + 1 + 1)]) (by rfl) rfl G3.now.g rfl (C.keeps G3.E) (BuiltinsAt.ext hb G3.E) (fun h4 f c' ctv doc eb T4 hf1 hf2 hfn hrec hHc hcf hcP => ?_)
  have k4 : Kept [tabS] h3 h4 := fun b o n e => eb b o (by simpa using n) e
  have F4 := frKept F3 k4 hSP (by simpa using hTL.symm)
  have G4 := G3.kept k4 (by simpa using hP)
  have hs3 : h3.objs.size = h2.objs.size := sb3.1
  have l3 : Ls h3 pl [Value.int 0 tz] := l2.same sb3 (by subst ep; exact (Nat.ne_of_lt hlt2).symm)
  refine w_stS F4 (fun h5 F5 sb5 => ?_)
  have G5 : Gd w mg mb H h5 := (G.hid (S := [tabS]) (by simpa using hP)).ext F5.keep
  refine w_cons (w_asg (w_callN (w_gK G5.now (v := .ref aCls) (by kernel_rfl) (w_args (w_arg (w_cNone (w_arg0 (w_kw0 ⟨kpCls G5.now, ?_⟩))))))))
  refine mk_call (n := n) G5 ok' (fun h6 x d pb t1 t2 hx hd hpb I6 D6 L6 e6 => ?_)
  have F6 := frKept F5 (Kept.of_ext (S := []) e6) (by first | (with_reducible (first | exact im1 | exact im2 | exact im3 | exact sb0 | exact sb1 im1 | exact sb1 im2 | exact sb1 im3)) | exact nmc (adne (by decide)) nm0 | exact nmc (adne (by decide)) (nmc (adnn (by decide)) nm0) | simp) (by first | (with_reducible (first | exact im1 | exact im2 | exact im3 | exact sb0 | exact sb1 im1 | exact sb1 im2 | exact sb1 im3)) | exact nmc (adne (by decide)) nm0 | exact nmc (adne (by decide)) (nmc (adnn (by decide)) nm0) | simp)
  have hLlt : L < h5.objs.size := F5.ns.lt
  have hdL : d ≠ L := by subst hd; exact (Nat.ne_of_lt hLlt).symm
  have hxL : x ≠ L := by subst hx; exact (Nat.ne_of_lt (Nat.lt_succ_of_lt hLlt)).symm
  have hxd : x ≠ d := by subst hx; subst hd; exact Nat.succ_ne_self _
  refine w_stS F6 (fun h7 F7 sb7 => ?_)
  have G7 : Gd w mg mb H h7 := (G.hid (S := [tabS]) (by simpa using hP)).ext F7.keep
  have hs5 : h5.objs.size = h4.objs.size := sb5.1
  have hbig : h.objs.size ≤ h5.objs.size := Nat.le_of_lt (Nat.lt_of_le_of_lt hLh hLlt)
  have hdb : (hideAll h [tabS]).get? d = none := get_none (by rw [hideAll_size, hd]; exact hbig)
  refine w_cons (w_asgAttr (w_nm F7.ns rfl (w_nm F7.ns rfl ?_)))
  refine w_setAttr G7.now.K (I6.same sb7 hxL) (D6.same sb7 hdL) (saC w) (poC w) (tkRead w) (hdC w) (by first | (with_reducible (first | exact im1 | exact im2 | exact im3 | exact sb0 | exact sb1 im1 | exact sb1 im2 | exact sb1 im3)) | exact nmc (adne (by decide)) nm0 | exact nmc (adne (by decide)) (nmc (adnn (by decide)) nm0) | simp) (fun h8 d8 sb8 => ?_)
  have F8 := frChg F7 sb8 hdL hdb
  refine w_cons (w_ret (w_nm F8.ns rfl ?_))
  have k48 : Kept [L, d] h4 h8 := (((Kept.of_same sb5 (by first | (with_reducible (first | exact im1 | exact im2 | exact im3 | exact sb0 | exact sb1 im1 | exact sb1 im2 | exact sb1 im3)) | exact nmc (adne (by decide)) nm0 | exact nmc (adne (by decide)) (nmc (adnn (by decide)) nm0) | simp)).trans (Kept.of_ext e6)).trans (Kept.of_same sb7 (by first | (with_reducible (first | exact im1 | exact im2 | exact im3 | exact sb0 | exact sb1 im1 | exact sb1 im2 | exact sb1 im3)) | exact nmc (adne (by decide)) nm0 | exact nmc (adne (by decide)) (nmc (adnn (by decide)) nm0) | simp))).trans (Kept.of_same sb8 (by first | (with_reducible (first | exact im1 | exact im2 | exact im3 | exact sb0 | exact sb1 im1 | exact sb1 im2 | exact sb1 im3)) | exact nmc (adne (by decide)) nm0 | exact nmc (adne (by decide)) (nmc (adnn (by decide)) nm0) | simp))
  have k38 : Kept [tabS, L, d] h3 h8 := (k4.mono (by first | (with_reducible (first | exact im1 | exact im2 | exact im3 | exact sb0 | exact sb1 im1 | exact sb1 im2 | exact sb1 im3)) | exact nmc (adne (by decide)) nm0 | exact nmc (adne (by decide)) (nmc (adnn (by decide)) nm0) | simp)).trans (k48.mono (by first | (with_reducible (first | exact im1 | exact im2 | exact im3 | exact sb0 | exact sb1 im1 | exact sb1 im2 | exact sb1 im3)) | exact nmc (adne (by decide)) nm0 | exact nmc (adne (by decide)) (nmc (adnn (by decide)) nm0) | simp))
  have hpl : pl = h₁.objs.size := ep
  have hz2 : h2.objs.size = h₁.objs.size + 1 := z2
  have o1 : L + 1 < pl := by rw [hpl]; exact hlt1
  have o2 : L + 1 + 1 < pl := by rw [hpl]; exact hlt2
  have o3 : pl < f := Nat.lt_of_lt_of_le (show pl < h3.objs.size by rw [hs3, hz2, hpl]; exact Nat.lt_succ_self _) hf1
  have o4 : f < d := by rw [hd, hs5]; exact hf2
  have o5 : d < x := by rw [hd, hx]; exact Nat.lt_succ_self _
  have o6 : tabS < L := Nat.lt_of_lt_of_le hPlt hLh
  have cellK : ∀ {b v}, h3.IsCell b v → b ∉ [tabS, L, d] → h8.IsCell b v := fun ⟨o, a, b⟩ hn => ⟨o, k38 _ _ hn a, b⟩
  have c13 : h3.IsCell (L + 1) (some (.str (S text) t0)) := let ⟨o, a, b⟩ := c1'; ⟨o, (sb3.2 _ (by exact Nat.ne_of_lt (Nat.lt_succ_self _))).trans a, b⟩
  obtain ⟨oc, vsc, ec, dc⟩ := CodeRec.fields hrec
  have hcd : c' ∉ [L, d] := by
    simp only [List.mem_cons, List.not_mem_nil, or_false, not_or]
    refine ⟨fun q => ?_, fun q => ?_⟩
    · subst q
      obtain ⟨o, es, epo, e', hd', _⟩ := F4.ns
      rw [ec] at e'; cases e'; rw [dc] at hd'; cases hd'
    · have := Heap.lt_size ec
      rw [q, hd, hs5] at this
      exact Nat.lt_irrefl _ this
  simp only [Addr] at *
  refine k h8 x d f c' (L + 1) (L + 1 + 1) pl ⟨(I6.same sb7 hxL).same sb8 hxd, ⟨_, d8, rfl⟩, ⟨doc, _, ctv, k48 _ _ ?_ hfn⟩, CodeRec.kept hrec k48 hcd, ⟨t0, cellK c13 ?_⟩, cellK c3 ?_, ⟨tz, IsList.kept l3.isList k38 ?_⟩⟩ ?_ ?_ hHc (Kept.of_fr F8) ?_
  · simp only [List.mem_cons, List.not_mem_nil, or_false, not_or, Addr]; refine ⟨?_, ?_⟩ <;> omega
  · simp only [List.mem_cons, List.not_mem_nil, or_false, not_or, Addr]; refine ⟨?_, ?_, ?_⟩ <;> omega
  · simp only [List.mem_cons, List.not_mem_nil, or_false, not_or, Addr]; refine ⟨?_, ?_, ?_⟩ <;> omega
  · simp only [List.mem_cons, List.not_mem_nil, or_false, not_or, Addr]; refine ⟨?_, ?_, ?_⟩ <;> omega
  · intro i hi
    simp only [List.mem_cons, List.not_mem_nil, or_false, not_or, Addr] at hi
    omega
  · simp only [List.nodup_cons, List.mem_cons, List.not_mem_nil, or_false, not_or, List.nodup_nil, and_true, not_false_eq_true, Addr]
    omega
  · have T5 := T4.kept (Kept.of_same (S := [L]) sb5 (by first | (with_reducible (first | exact im1 | exact im2 | exact im3 | exact sb0 | exact sb1 im1 | exact sb1 im2 | exact sb1 im3)) | exact nmc (adne (by decide)) nm0 | exact nmc (adne (by decide)) (nmc (adnn (by decide)) nm0) | simp)) (by simp only [List.mem_singleton, Addr]; omega) (by
      intro i hi o vs ho hv
      simp only [List.mem_singleton] at hi
      subst hi
      obtain ⟨o', es, epo, e', hd', _⟩ := F4.ns
      rw [ho] at e'; cases e'; rw [hv] at hd'; cases hd')
    have T7 := (T5.ext e6).kept (Kept.of_same (S := [L]) sb7 (by first | (with_reducible (first | exact im1 | exact im2 | exact im3 | exact sb0 | exact sb1 im1 | exact sb1 im2 | exact sb1 im3)) | exact nmc (adne (by decide)) nm0 | exact nmc (adne (by decide)) (nmc (adnn (by decide)) nm0) | simp)) (by simp only [List.mem_singleton, Addr]; omega) (by
      intro i hi o vs ho hv
      simp only [List.mem_singleton] at hi
      subst hi
      obtain ⟨o', es, epo, e', hd', _⟩ := F6.ns
      rw [ho] at e'; cases e'; rw [hv] at hd'; cases hd')
    refine T7.kept (Kept.of_same (S := [d]) sb8 (by first | (with_reducible (first | exact im1 | exact im2 | exact im3 | exact sb0 | exact sb1 im1 | exact sb1 im2 | exact sb1 im3)) | exact nmc (adne (by decide)) nm0 | exact nmc (adne (by decide)) (nmc (adnn (by decide)) nm0) | simp)) (by simp only [List.mem_singleton, Addr]; omega) (by
      intro i hi o vs ho hv
      simp only [List.mem_singleton] at hi
      subst hi
      obtain ⟨es, n', e', _⟩ := D6.same sb7 hdL
      rw [ho] at e'; cases e'; cases hv)
end
end Mine
end
section
open PySem PySem.W PyProof.Rows PySem.Calls
set_option Elab.async false
set_option maxRecDepth 100000
set_option linter.unusedVariables false
set_option linter.unusedSimpArgs false
namespace Mine
theorem lsKept {S : List Addr} {h h' : Heap} {l : Addr} {vs : List Value} (hl : Ls h l vs) (k : Kept S h h') (hn : l ∉ S) : Ls h' l vs := let ⟨n, e⟩ := hl; ⟨n, k _ _ hn e⟩
section
variable {prog : Program} {w : World} {A : Around} {h : Heap} {env : Env}
theorem w_asgUsed {x : Str} {pos' : Pos} {value : Expr} {pos : Pos} {Q : Flow → Heap → Prop} (hs : swapsWith value (some (.Name x pos')) pos.line env = pure true)
    (y : Wp (model prog w) A (evalThenUse value env (assign (.Name x pos') env)) (fun _ => Q .next) h) : Wp (model prog w) A (exec (.Assign [.Name x pos'] value pos) env) Q h := by
  rw [exec_Assign_Name_used x pos' value pos hs]
  exact w_bind (w_standAt (w_bind (y.mono fun _ _ z => w_pure z)))
end
end Mine
end
section
open PySem PySem.W PyProof.Rows PySem.Calls
set_option Elab.async false
set_option maxRecDepth 100000
set_option linter.unusedVariables false
set_option linter.unusedSimpArgs false
namespace Mine
/-! ## lists of texts -/
def Strs : List Value → List (List Nat) → Prop
  | [], [] => True
  | y :: ys, t :: ts => (∃ k, y = .str (S t) k) ∧ Strs ys ts
  | _, _ => False
theorem Strs.append {ys zs : List Value} {ts us : List (List Nat)} (x : Strs ys ts) (y : Strs zs us) : Strs (ys ++ zs) (ts ++ us) := by
  induction ys generalizing ts with
  | nil => cases ts with | nil => exact y | cons t ts => exact x.elim
  | cons v ys ih => cases ts with | nil => exact x.elim | cons t ts => exact ⟨x.1, ih x.2⟩
theorem Strs.one {t : List Nat} {k : Tok} : Strs [.str (S t) k] [t] := ⟨⟨k, rfl⟩, trivial⟩
theorem Strs.length {ys : List Value} {ts : List (List Nat)} (x : Strs ys ts) : ys.length = ts.length := by
  induction ys generalizing ts with
  | nil => cases ts with | nil => rfl | cons t ts => exact x.elim
  | cons v ys ih => cases ts with | nil => exact x.elim | cons t ts => simp [ih x.2]
theorem Strs.get {ys : List Value} {ts : List (List Nat)} (x : Strs ys ts) {i : Nat} {t : List Nat} (h : ts[i]? = some t) : ∃ k, ys[i]? = some (.str (S t) k) := by
  induction ys generalizing ts i with
  | nil => cases ts with | nil => simp at h | cons t ts => exact x.elim
  | cons v ys ih =>
    cases ts with
    | nil => exact x.elim
    | cons t' ts =>
      obtain ⟨⟨k, rfl⟩, x⟩ := x
      cases i with
      | zero => simp at h; subst h; exact ⟨k, rfl⟩
      | succ i => simp at h ⊢; exact ih x h
theorem Strs.vals {ys : List Value} {ts : List (List Nat)} (x : Strs ys ts) : ∃ l, ys = PySem.strValues l ∧ l.map (·.1) = ts.map S := by
  induction ys generalizing ts with
  | nil => cases ts with | nil => exact ⟨[], rfl, rfl⟩ | cons t ts => exact x.elim
  | cons v ys ih =>
    cases ts with
    | nil => exact x.elim
    | cons t ts =>
      obtain ⟨⟨k, rfl⟩, x⟩ := x
      obtain ⟨l, rfl, e⟩ := ih x
      exact ⟨(S t, k) :: l, rfl, by simp [e]⟩
theorem glued_flat : ∀ (ts : List (List Nat)), Builtin.Str.glued (S []) (ts.map S) = S ts.flatten := by
  intro ts
  have fold : ∀ (l : List (List Nat)) (acc : List Nat), (l.map S).foldl (fun acc p => acc ++ (S []).cps ++ p.cps) acc.toArray = (acc ++ l.flatten).toArray := by
    intro l
    induction l with
    | nil => intro acc; simp
    | cons t l ih =>
      intro acc
      simp only [List.map_cons, List.foldl_cons, List.flatten_cons]
      have : acc.toArray ++ (S []).cps ++ (S t).cps = (acc ++ t).toArray := by simp [S]
      rw [this, ih]
      simp
  cases ts with
  | nil => rfl
  | cons t ts =>
    unfold Builtin.Str.glued
    simp only [List.map_cons, List.drop_one, List.tail_cons, List.headD_cons]
    have := fold ts t
    rw [this]
    simp
theorem flat_le {B : Nat} : ∀ (ts : List (List Nat)), (∀ y ∈ ts, y.length ≤ B) → ts.flatten.length ≤ ts.length * B
  | [], _ => by simp
  | t :: ts, hB => by
    have h1 := hB t (List.mem_cons_self ..)
    have h2 := flat_le ts (fun y hy => hB y (List.mem_cons_of_mem _ hy))
    simp only [List.flatten_cons, List.length_append, List.length_cons, Nat.succ_mul]
    omega
section
variable {prog : Program} {w : World} {A : Around} {h : Heap} {env : Env}
theorem w_join {a : Addr} {ys : List Value} {ts : List (List Nat)} {t : Tok} {Q : Value → Heap → Prop} (hl : h.IsList a ys.toArray) (hs : Strs ys ts) {B : Nat} (hB : ∀ y ∈ ts, y.length ≤ B) (hz : ts.length * B ≤ 16777216)
    (k : ∀ t, Q (.str (S ts.flatten) t) h) : Wp (model prog w) A (call (.builtin "str.join") [.str (S []) t, .ref a]) Q h := fun s hs' => by
  subst hs'
  obtain ⟨l, rfl, e⟩ := hs.vals
  have hfit : Builtin.Str.tooLong ((l.map (·.1)).toArray.foldl (· + ·.length + (S []).length) 0) = false := by
    refine StrLaws.joinFits (B := B) (fun y hy => ?_) ?_
    · rw [e] at hy
      obtain ⟨y', hy', rfl⟩ := List.mem_map.mp hy
      rw [S_length]; exact hB _ hy'
    · have : (l.map (·.1)).length = ts.length := by rw [e]; simp
      rw [this]
      have : (S []).length = 0 := rfl
      rw [this]; simpa using hz
  refine call_meets PySem.F.slot_str_join (typeIs_str _ _ _) PySem.F.entry_str_join (PySem.F.args_str_join_2 _ _) (PySem.meets_str_join_list (S []) t a l hfit) ⟨hl, ?_⟩
  have hg := glued_flat ts
  rw [← e] at hg
  have hfl : (S ts.flatten).length ≤ sizeLine := by
    rw [S_length, sizeLine_eq]
    have := flat_le ts hB
    omega
  match l, e, hg with
  | [], e, hg => exact ⟨by rw [show Builtin.Str.glued (S []) _ = _ from hg]; exact hfl, ⟨⟨rfl, rfl⟩, hg ▸ k _⟩⟩
  | [p], e, hg =>
    have hp : p.1 = S ts.flatten := by rw [← hg]; rfl
    show (s.os = s.os ∧ s.gens = s.gens) ∧ Q (.str p.1 p.2) s.heap
    rw [hp]; exact ⟨⟨rfl, rfl⟩, k _⟩
  | p :: q :: r, e, hg => exact ⟨by rw [show Builtin.Str.glued (S []) _ = _ from hg]; exact hfl, ⟨⟨rfl, rfl⟩, hg ▸ k _⟩⟩
theorem w_iterList {l : Addr} {items : Array Value} {Q : Value → Heap → Prop} (hh : A.handled = none) (hl : h.IsList l items)
    (k : ∀ h' I, I = h.objs.size → Ext h h' → h'.objs.size = h.objs.size + 1 → Walks prog w A I [I, l] [I] items.size (fun i v => items[i]? = some v) (fun i h => h.IsListIter I l i ∧ h.IsList l items) → (h'.IsListIter I l 0 ∧ h'.IsList l items) → Q (.ref I) h') :
    Wp (model prog w) A (pyIter (.ref l)) Q h := fun s hs => by
  subst hs
  have hlt : l < s.heap.objs.size := let ⟨o, e, _⟩ := hl; Heap.lt_size e
  refine wpAny_pyIter_list hl ⟨⟨rfl, rfl⟩, k _ _ rfl (Ext.push _ _) (by simp) (Walks.list hh _ _ (Nat.ne_of_lt hlt) _) ⟨⟨_, Heap.get?_push_size _ rfl, rfl, rfl⟩, IsList.ext hl (Ext.push _ _)⟩⟩
theorem w_range {n : Nat} {t : Tok} {Q : Value → Heap → Prop} (k : ∀ h' a t1 t2 t3, a = h.objs.size → Ext h h' → h'.objs.size = h.objs.size + 1 → IsRange h' a 0 n 1 t1 t2 t3 → Q (.ref a) h') :
    Wp (model prog w) A (call (.type "range") [.int n t]) Q h := fun s hs => by
  subst hs
  exact call_range_1 ⟨⟨rfl, rfl⟩, k _ _ _ _ _ rfl (Ext.push _ _) (by simp) (IsRange.new ..)⟩
end
end Mine
end
section
open PySem PySem.W PyProof.Rows PySem.Calls
set_option Elab.async false
set_option maxRecDepth 100000
set_option linter.unusedVariables false
set_option linter.unusedSimpArgs false
namespace Mine
/-! ## iterators, a body's view -/
section
variable {prog : Program} {w : World} {A : Around} {h : Heap} {env : Env}
structure IterW (prog : Program) (w : World) (A : Around) (target : Expr) (I : Addr) (fp wr : List Addr) (n : Nat) (P : Nat → Value → Heap → Prop) (St : Nat → Heap → Prop) : Prop where
  sub : ∀ b ∈ wr, b ∈ fp
  top : ∀ b ∈ wr, b ≤ I
  live : ∀ i h, St i h → ∃ o, h.get? I = some o
  frame : ∀ i h h', St i h → (∀ b ∈ fp, ∀ o, h.get? b = some o → h'.get? b = some o) → St i h'
  item : ∀ i h (Q : Value → Heap → Prop), i < n → St i h → (∀ v h', P i v h' → St (i + 1) h' → Kept wr h h' → Q v h') →
    Wp (model prog w) A (pyNext (.ref I)) (fun r h1 => ∃ v, r = some v ∧ Wp (model prog w) A (letOwnedTupleGo target (.ref I) v) (fun _ h' => Q v h') h1) h
  done : ∀ h (Q : Heap → Prop), St n h → (∀ h', Kept wr h h' → Q h') → Wp (model prog w) A (pyNext (.ref I)) (fun r h' => r = none ∧ Q h') h
  self : ∀ (s : Shared) (Q : Value → Shared → Prop) (E : Value → Shared → Prop), St 0 s.heap → Q (.ref I) s → wpAny (model prog w) A (pyIter (.ref I)) Q E s
theorem IterW.lt {prog : Program} {w : World} {A : Around} {target : Expr} {I : Addr} {fp wr : List Addr} {n : Nat} {P : Nat → Value → Heap → Prop} {St : Nat → Heap → Prop} (W : IterW prog w A target I fp wr n P St) (i : Nat) (h : Heap) (st : St i h) : I < h.objs.size := let ⟨o, e⟩ := W.live i h st; Heap.lt_size e
/-- a tree that ends in an iterator over n things -/
def Iter (prog : Program) (w : World) (A : Around) (target : Expr) (K : (Value → Heap → Prop) → Prop) (n : Nat) (P : Nat → Value → Heap → Prop) (old : List Addr) (h : Heap) : Prop :=
  ∀ Q : Value → Heap → Prop, (∀ I fp wr St h2, IterW prog w A target I fp wr n P St → St 0 h2 → Ext h h2 → h.objs.size ≤ I → (∀ b ∈ wr, h.objs.size ≤ b) → (∀ b ∈ fp, b ∈ old ∨ (h.objs.size ≤ b ∧ b ≤ I)) → Q (.ref I) h2) → K Q
def isTupT : Expr → Bool
  | .Tuple .. => true
  | _ => false
def isNameT : Expr → Bool
  | .Name .. => true
  | _ => false
theorem letOwn_name {target : Expr} (ht : isNameT target = true) (it v : Value) : letOwnedTupleGo target it v = pure () := by
  cases target <;> first | rfl | (simp [isNameT] at ht)
theorem w_letOwnList {target : Expr} {I l : Addr} {i : Nat} {v : Value} {Q : Unit → Heap → Prop} (ht : isNameT target = true ∨ isTupT target = true) (hit : h.IsListIter I l i) (k : Q () h) :
    Wp (model prog w) A (letOwnedTupleGo target (.ref I) v) Q h := by
  rcases ht with ht | ht
  · rw [letOwn_name ht]; exact w_pure k
  · cases target <;> first | (simp [isTupT] at ht; done) | skip
    cases v with
    | ref T => exact fun s hs => by subst hs; exact wpAny_letOwnedTupleGo_listiter hit ⟨⟨rfl, rfl⟩, k⟩
    | _ => exact w_pure k
theorem iterList {target : Expr} {l : Addr} {items : List Value} (ht : isNameT target = true ∨ isTupT target = true) (hh : A.handled = none) (hl : h.IsList l items.toArray) :
    Iter prog w A target (fun Q => Wp (model prog w) A (pyIter (.ref l)) Q h) items.length (fun i v _ => items[i]? = some v) [l] h := by
  intro Q k
  refine w_iterList hh hl (fun h' I hI e z W st => ?_)
  have hlt : l < h.objs.size := let ⟨o, e, _⟩ := hl; Heap.lt_size e
  refine k I [I, l] [I] (fun i h => h.IsListIter I l i ∧ h.IsList l items.toArray) h' ⟨W.sub, by simp, fun i h st => ?_, W.frame, fun i h Q hi st hQ s hs => ?_, fun h Q st hQ s hs => ?_, fun s Q E st hQ => W.self 0 s Q E st hQ⟩ st e (Nat.le_of_eq hI.symm) (by simp [hI]) ?_
  · obtain ⟨o, e, _⟩ := st.1; exact ⟨_, e⟩
  · subst hs
    refine W.item i s _ _ (by simpa using hi) st (fun v h' tk hp st' kk => ⟨⟨rfl, rfl⟩, v, rfl, ?_⟩)
    exact w_letOwnList ht st'.1 (hQ v h' (by simpa using hp) st' kk)
  · subst hs
    exact W.done s _ _ (by simpa using st) (fun h' tk kk => ⟨⟨rfl, rfl⟩, rfl, hQ h' kk⟩)
  · intro b hb
    simp only [List.mem_cons, List.not_mem_nil, or_false] at hb
    rcases hb with rfl | rfl
    · exact .inr ⟨Nat.le_of_eq hI.symm, Nat.le_refl _⟩
    · simp
theorem rangeSize_nat (a : Int) (n : Nat) : Builtin.Range.rangeSize a (a + n) 1 = (n : Int) := by
  unfold Builtin.Range.rangeSize
  rw [if_pos (by decide)]
  split
  · rw [Int.ediv_one]; lia
  · lia
theorem iterRange {target : Expr} {r : Addr} {n : Nat} {a : Int} {t1 t2 t3 : Tok} (ht : isNameT target = true) (hh : A.handled = none) (hr : IsRange h r a (a + n) 1 t1 t2 t3) (hz : Builtin.Range.small a (a + n) 1 = true) :
    Iter prog w A target (fun Q => Wp (model prog w) A (pyIter (.ref r)) Q h) n (fun i v _ => ∃ t, v = .int (a + i) t) [] h := by
  intro Q k s hs
  subst hs
  have W := Walks.range (prog := prog) (w := w) hh s.heap.objs.size a 1 n
  refine wpAny_pyIter_range hr hz ⟨⟨rfl, rfl⟩, k s.heap.objs.size [s.heap.objs.size] [s.heap.objs.size] (fun i h => IsRangeIter h s.heap.objs.size (a + (i : Nat) * 1) ((n : Int) - (i : Nat)) 1) _ ⟨fun b hb => hb, by simp, fun i h q => ⟨_, q⟩, W.frame, fun i h Q hi st hQ s hs => ?_, fun h Q st hQ s hs => ?_, fun s Q E st hQ => W.self 0 s Q E st hQ⟩ ?_ (Ext.push _ _) (Nat.le_refl _) (by first | (with_reducible (first | exact im1 | exact im2 | exact im3 | exact sb0 | exact sb1 im1 | exact sb1 im2 | exact sb1 im3)) | exact nmc (adne (by decide)) nm0 | exact nmc (adne (by decide)) (nmc (adnn (by decide)) nm0) | simp) (by first | (with_reducible (first | exact im1 | exact im2 | exact im3 | exact sb0 | exact sb1 im1 | exact sb1 im2 | exact sb1 im3)) | exact nmc (adne (by decide)) nm0 | exact nmc (adne (by decide)) (nmc (adnn (by decide)) nm0) | simp)⟩
  · subst hs
    refine W.item i s _ _ hi st (fun v h' tk hp st' kk => ⟨⟨rfl, rfl⟩, v, rfl, ?_⟩)
    rw [letOwn_name ht]
    exact w_pure (hQ v h' (by simpa using hp) st' kk)
  · subst hs
    exact W.done s _ _ st (fun h' tk kk => ⟨⟨rfl, rfl⟩, rfl, hQ h' kk⟩)
  · have e : Builtin.Range.rangeSize a (a + n) 1 = (n : Int) := rangeSize_nat a n
    show IsRangeIter _ _ _ _ _
    unfold IsRangeIter
    rw [e]
    simpa using Heap.get?_push_size s.heap (o := { cls := .type "range_iterator", dict := none, data := .fields #[rawInt a, rawInt (n : Int), rawInt 1], slots := #[] }) rfl
theorem iterZip {elts : List Expr} {kk : Nat} {pos : Pos} {l1 l2 : Addr} {xs ys : List Value} (hh : A.handled = none) (h1 : h.IsList l1 xs.toArray) (h2 : h.IsList l2 ys.toArray) :
    Iter prog w A (.Tuple elts kk pos) (fun Q => Wp (model prog w) A (call (.type "zip") [.ref l1, .ref l2]) (fun v h1 => Wp (model prog w) A (pyIter v) Q h1) h) (min xs.length ys.length)
      (fun i v h' => ∃ T x y, v = .ref T ∧ xs[i]? = some x ∧ ys[i]? = some y ∧ h'.IsTuple T #[x, y]) [l1, l2] h := by
  intro Q k s hs
  subst hs
  have l1lt : l1 < s.heap.objs.size := let ⟨o, e, _⟩ := h1; Heap.lt_size e
  have l2lt : l2 < s.heap.objs.size := let ⟨o, e, _⟩ := h2; Heap.lt_size e
  refine call_zip_2 h1 h2 (fun h' z1 z2 z3 z4 z5 z6 z7 => ⟨⟨rfl, rfl⟩, ?_⟩)
  have D : ZipApart (s.heap.objs.size + 4) (s.heap.objs.size + 2) (s.heap.objs.size + 3) s.heap.objs.size (s.heap.objs.size + 1) l1 l2 := by
    constructor <;> (lia)
  have W := WalksT.zip2 (prog := prog) (w := w) hh _ _ _ _ _ _ _ D xs.toArray ys.toArray
  intro s' hs'
  subst hs'
  refine wpAny_pyIter_zip z1 ⟨⟨rfl, rfl⟩, ?_⟩
  have n1 : min xs.toArray.size ys.toArray.size = min xs.length ys.length := by simp
  rw [n1] at W
  refine k (s.heap.objs.size + 4) _ _ _ _ ⟨W.sub, ?_, fun i h q => ⟨_, q.1⟩, W.frame, fun i h Q hi st hQ s hs => ?_, fun h Q st hQ s hs => ?_, fun s Q E st hQ => ?_⟩ ⟨z1, z2, ⟨_, _, z3⟩, z4, z5, IsList.ext h1 z7, IsList.ext h2 z7⟩ z7 (Nat.le_add_right _ _) ?_ ?_
  · intro b hb
    simp only [List.mem_cons, List.not_mem_nil, or_false, Addr] at *
    lia
  · subst hs
    refine W.item i s _ _ hi st (fun T vals h' tk hp hT ht hm kk => ⟨⟨rfl, rfl⟩, .ref T, rfl, fun s2 hs2 => ?_⟩)
    subst hs2
    have ap := W.apart i T _ hm
    refine W.go elts _ pos i T s2 _ _ hm (fun h'' st' kk2 => ⟨⟨rfl, rfl⟩, hQ _ h'' ?_ st' (fun b o hb e => kk2 b o hb (kk b o hb e))⟩)
    obtain ⟨x, y, hx, hy, rfl⟩ := hp
    obtain ⟨o, e, r⟩ := ht
    exact ⟨T, x, y, rfl, by simpa using hx, by simpa using hy, o, kk2 T o ap e, r⟩
  · subst hs
    exact W.done s _ _ st (fun h' tk kk => ⟨⟨rfl, rfl⟩, rfl, hQ h' kk⟩)
  · exact W.self 0 s Q E st hQ
  · intro b hb
    simp only [List.mem_cons, List.not_mem_nil, or_false, Addr] at *
    lia
  · intro b hb
    simp only [List.mem_cons, List.not_mem_nil, or_false, Addr] at *
    lia

/-- what the loop's own machinery leaves alone -/
def Off (n0 b0 : Addr) (h h' : Heap) : Prop := ∀ a o, (a < n0 ∨ b0 ≤ a) → h.get? a = some o → h'.get? a = some o
theorem Off.refl (n0 b0 : Addr) (h : Heap) : Off n0 b0 h h := fun _ _ _ e => e
theorem Off.of_ext {n0 b0 : Addr} {h h' : Heap} (e : Ext h h') : Off n0 b0 h h' := fun a o _ x => e a o x
theorem Off.trans {n0 b0 : Addr} {a b c : Heap} (x : Off n0 b0 a b) (y : Off n0 b0 b c) : Off n0 b0 a c := fun i o n e => y i o n (x i o n e)
theorem Off.of_kept {n0 b0 : Addr} {S : List Addr} {h h' : Heap} (k : Kept S h h') (hS : ∀ b ∈ S, n0 ≤ b ∧ b < b0) : Off n0 b0 h h' :=
  fun a o ha e => k a o (fun m => by have := hS a m; lia) e
theorem Kept.of_off {n0 b0 : Addr} {h0 h h' : Heap} {T : List Addr} (k : Kept T h0 h) (x : Off n0 b0 h h') (hn : n0 = h0.objs.size) : Kept T h0 h' :=
  fun a o ha e => x a o (.inl (by rw [hn]; exact Heap.lt_size e)) (k a o ha e)

theorem live_le {n0 b0 : Addr} {h' h'' : Heap} {T : List Addr} (x : ∃ I o, b0 = I + 1 ∧ n0 ≤ I ∧ h'.get? I = some o) (k : Kept T h' h'') (hT : ∀ a ∈ T, a < n0) : b0 ≤ h''.objs.size := by
  obtain ⟨I, o, rfl, hI, e⟩ := x
  exact Heap.lt_size (k I o (fun m => absurd (hT I m) (Nat.not_lt.mpr hI)) e)
theorem live_n0 {n0 b0 : Addr} {h' : Heap} (x : ∃ I o, b0 = I + 1 ∧ n0 ≤ I ∧ h'.get? I = some o) : n0 ≤ b0 := by
  obtain ⟨I, o, rfl, hI, e⟩ := x
  exact Nat.le_succ_of_le hI
theorem w_forI {target : Expr} {K : (Value → Heap → Prop) → Prop} {n : Nat} {P : Nat → Value → Heap → Prop} {old : List Addr} {body orelse : List Stmt} {Q : Flow → Heap → Prop}
    (it : Iter prog w A target K n P old h) (T : List Addr) (hT : ∀ b ∈ T, b < h.objs.size ∧ b ∉ old) (J : Addr → Nat → Heap → Prop)
    (hJ : ∀ b0 i h1 h2, J b0 i h1 → Off h.objs.size b0 h1 h2 → J b0 i h2) (j0 : ∀ b0, J b0 0 h)
    (turn : ∀ b0 i v h', i < n → (∃ I o, b0 = I + 1 ∧ h.objs.size ≤ I ∧ h'.get? I = some o) → P i v h' → J b0 i h' → Kept T h h' → Wp (model prog w) A (assign target env v) (fun _ h2 => Wp (model prog w) A (execs body env) (fun f h3 => match f with
      | .next | .cont => Kept T h' h3 ∧ J b0 (i + 1) h3
      | .brk => Q .next h3
      | .ret v => Q (.ret v) h3) h2) h')
    (done : ∀ b0 h', J b0 n h' → Kept T h h' → Wp (model prog w) A (execs orelse env) Q h') :
    K (fun v h2 => Wf (model prog w) A target v body orelse env Q h2) := by
  refine it _ (fun I fp wr St h2 W st e hI0 hwr hfp => ?_)
  refine w_forLoop (fun k h' => ∃ i, k = n - i ∧ i ≤ n ∧ St i h' ∧ J (I + 1) i h' ∧ Kept T h h') n ⟨0, rfl, Nat.zero_le _, st, hJ _ _ _ _ (j0 _) (Off.of_ext e), Kept.of_ext e⟩ ?_
  rintro k h1 ⟨i, hk, hi, st1, j1, k1⟩
  have hoff : ∀ b ∈ wr, h.objs.size ≤ b ∧ b < I + 1 := fun b hb => ⟨hwr b hb, Nat.lt_succ_of_le (W.top b hb)⟩
  rcases Nat.lt_or_ge i n with lt | ge
  · refine (W.item i h1 (fun v h' => P i v h' ∧ St (i + 1) h' ∧ Kept wr h1 h') lt st1 (fun v h' p st' kk => ⟨p, st', kk⟩)).mono (fun r h1' y => ?_)
    obtain ⟨v, rfl, y⟩ := y
    refine y.mono (fun _ h3 z => ?_)
    obtain ⟨p, st3, kk⟩ := z
    have off := Off.of_kept kk hoff
    refine (turn (I + 1) i v h3 lt (let ⟨o, e⟩ := W.live _ _ st3; ⟨I, o, rfl, hI0, e⟩) p (hJ _ _ _ _ j1 off) (k1.of_off off rfl)).mono (fun _ h4 z => z.mono fun f h5 y => ?_)
    have fin : Kept T h3 h5 ∧ J (I + 1) (i + 1) h5 → ∃ m, m < k ∧ ∃ i, m = n - i ∧ i ≤ n ∧ St i h5 ∧ J (I + 1) i h5 ∧ Kept T h h5 := by
      rintro ⟨k5, j5⟩
      refine ⟨n - (i + 1), by lia, i + 1, rfl, lt, W.frame _ _ _ st3 (fun b hb o eo => k5 b o (fun hbT => ?_) eo), j5, (k1.of_off off rfl).trans k5⟩
      have := hT b hbT
      rcases hfp b hb with q | q
      · exact this.2 q
      · exact absurd this.1 (Nat.not_lt.mpr q.1)
    cases f with
    | next => exact fin y
    | cont => exact fin y
    | brk => exact y
    | ret v => exact y
  · have : i = n := Nat.le_antisymm hi ge
    subst this
    refine (W.done h1 (fun h' => Kept wr h1 h') st1 (fun h' kk => kk)).mono (fun r h' y => ?_)
    obtain ⟨rfl, kk⟩ := y
    have off := Off.of_kept kk hoff
    exact done (I + 1) h' (hJ _ _ _ _ j1 off) (k1.of_off off rfl)
end
end Mine
end
section
open PySem PySem.W PyProof.Rows PySem.Calls
set_option Elab.async false
set_option maxRecDepth 100000
set_option linter.unusedVariables false
set_option linter.unusedSimpArgs false
namespace Mine
section
variable {prog : Program} {w : World} {A : Around} {h : Heap} {env : Env}
/-- the tests, then the element -/
def TestElt (M : Model) (A : Around) (ifs : List Expr) (elt : Expr) (env : Env) (Q : Option Value → Heap → Prop) (h : Heap) : Prop :=
  match ifs with
  | [] => Wp M A (eval elt env) (fun y => Q (some y)) h
  | [c] => Wp M A (isTrue c env (eval c env)) (fun ok h2 => if ok = true then Wp M A (eval elt env) (fun y => Q (some y)) h2 else Q none h2) h
  | _ => False
theorem TestElt.nil {M : Model} {elt : Expr} {Q : Option Value → Heap → Prop} (z : TestElt M A [] elt env Q h) : Wp M A (eval elt env) (fun y => Q (some y)) h := z
theorem TestElt.one {M : Model} {c elt : Expr} {Q : Option Value → Heap → Prop} (z : TestElt M A [c] elt env Q h) : Wp M A (isTrue c env (eval c env)) (fun ok h2 => if ok = true then Wp M A (eval elt env) (fun y => Q (some y)) h2 else Q none h2) h := z
/-- what a comprehension's turn does -/
structure CompT (prog : Program) (w : World) (A : Around) (env : Env) (elt target : Expr) (ifs : List Expr) (scope : Scope) (cl : List (Str × Addr)) (n : Nat) (P : Nat → Value → Heap → Prop) (h₁ : Heap)
    (T : List Addr) (J : Addr → Nat → List Value → Heap → Prop) : Prop where
  off : ∀ b0 i ys h1 h2, J b0 i ys h1 → Off h₁.objs.size b0 h1 h2 → J b0 i ys h2
  zero : ∀ b0, J b0 0 [] h₁
  turn : ∀ b0 C i v ys h' m, i < n → h₁.objs.size ≤ C → b0 = C + 1 → P i v h' → J b0 i ys h' → Kept T h₁ h' → ys.length ≤ i → h'.Ns C m →
    Wp (model prog w) A (assign target (compEnvC scope cl C env) v) (fun _ h2 => TestElt (model prog w) A ifs elt (compEnvC scope cl C env)
      (fun r h3 => Kept (C :: T) h' h3 ∧ (∃ m, h3.Ns C m) ∧ (match r with | some y => J b0 (i + 1) (ys ++ [y]) h3 | none => J b0 (i + 1) ys h3)) h2) h'
theorem comp_loop {elt target iter : Expr} {ifs : List Expr} {scope : Scope} {cl : List (Str × Addr)} {pos : Pos} {n : Nat} {P : Nat → Value → Heap → Prop} {old T : List Addr} {J : Addr → Nat → List Value → Heap → Prop} {h₁ h₂ h₃ : Heap}
    {I D C : Addr} {fp wr : List Addr} {St : Nat → Heap → Prop} {R : Result → Shared → Prop} {s : Shared} (hs : s.heap = h₃) (hif : ifs.length ≤ 1) (hn : n ≤ sizeLine)
    (W : IterW prog w A target I fp wr n P St) (e2 : Ext h₁ h₂) (hI0 : h₁.objs.size ≤ I) (hwr : ∀ b ∈ wr, h₁.objs.size ≤ b) (hfp : ∀ b ∈ fp, b ∈ old ∨ (h₁.objs.size ≤ b ∧ b ≤ I)) (hIl : I < h₂.objs.size)
    (hold : ∀ b ∈ old, b < h₁.objs.size) (hT : ∀ b ∈ T, b < h₁.objs.size ∧ b ∉ old) (Y : CompT prog w A env elt target ifs scope cl n P h₁ T J)
    (hD : D = h₂.objs.size) (hC : C = h₂.objs.size + 1) (e3 : Ext h₂ h₃) (l3 : Ls h₃ D []) (ns3 : h₃.Ns C (fun _ => none)) (st3 : St 0 h₃)
    (k : ∀ s' : Shared, s'.os = s.os → s'.gens = s.gens → ∀ ys m, Ls s'.heap D ys → ys.length ≤ n → s'.heap.Ns C m → J (C + 1) n ys s'.heap → Kept T h₁ s'.heap → R (.ok .next) s') :
    codeAny (model prog w) A (.compLoop (.ListComp elt [⟨target, iter, ifs, 0⟩] scope pos) 0 (.ref I) (.ref D) (compEnvC scope cl C env)) R s := by
  subst hs
  have hDC : D ≠ C := by lia
  have hID : I < D := by lia
  have hoff : ∀ b ∈ D :: C :: wr, h₁.objs.size ≤ b ∧ b < C + 1 := by
    intro b hb
    rcases List.mem_cons.mp hb with rfl | hb
    · lia
    rcases List.mem_cons.mp hb with rfl | hb
    · lia
    · have := hwr b hb; have := W.top b hb; lia
  have hwlt : ∀ b ∈ wr, b < D := fun b hb => Nat.lt_of_le_of_lt (W.top b hb) hID
  have hfplt : ∀ b ∈ fp, b < D := fun b hb => by
    rcases hfp b hb with q | q
    · have := hold b q; lia
    · lia
  have hTlt : ∀ b ∈ T, b < D := fun b hb => by have := (hT b hb).1; lia
  have hTfp : ∀ b ∈ fp, b ∉ T := fun b hb hbT => by
    have := hT b hbT
    rcases hfp b hb with q | q
    · exact this.2 q
    · exact absurd this.1 (Nat.not_lt.mpr q.1)
  have e13 : Ext h₁ s.heap := e2.trans e3
  let Inv : Nat → Shared → Prop := fun k s' => (s'.os = s.os ∧ s'.gens = s.gens) ∧ ∃ i ys m, k = n - i ∧ i ≤ n ∧ St i s'.heap ∧ Ls s'.heap D ys ∧ ys.length ≤ i ∧ s'.heap.Ns C m ∧ J (C + 1) i ys s'.heap ∧ Kept T h₁ s'.heap
  have h0 : Inv n s := ⟨⟨rfl, rfl⟩, 0, [], _, rfl, Nat.zero_le _, st3, l3, Nat.le_refl _, ns3, Y.off _ _ _ _ _ (Y.zero _) (Off.of_ext e13), Kept.of_ext e13⟩
  have nxt : ∀ {k : Nat} {s1 : Shared} {R' : Value → Shared → Prop} {R0 : Shared → Prop} {E : Value → Shared → Prop}, Inv k s1 →
      (∀ i v ys s2 m, k = n - i → i < n → (s2.os = s.os ∧ s2.gens = s.gens) → P i v s2.heap → St (i + 1) s2.heap → Ls s2.heap D ys → ys.length ≤ i → s2.heap.Ns C m → J (C + 1) i ys s2.heap → Kept T h₁ s2.heap → R' v s2) →
      (∀ s', (s'.os = s.os ∧ s'.gens = s.gens) → (∃ ys m, Ls s'.heap D ys ∧ ys.length ≤ n ∧ s'.heap.Ns C m ∧ J (C + 1) n ys s'.heap ∧ Kept T h₁ s'.heap) → R0 s') →
      wpAny (model prog w) A (pyNext (.ref I)) (fun r s₁ => match r with | none => R0 s₁ | some v => wpAny (model prog w) A (letOwnedTupleGo target (.ref I) v) (fun _ s₀ => R' v s₀) E s₁) E s1 := by
    rintro k s1 R' R0 E ⟨og, i, ys, m, hk, hi, st1, l1, hy, ns1, j1, k1⟩ x y
    rcases Nat.lt_or_ge i n with lt | ge
    · refine Wp.run (W.item i s1.heap (fun v h' => P i v h' ∧ St (i + 1) h' ∧ Kept wr s1.heap h') lt st1 (fun v h' p st' kk => ⟨p, st', kk⟩)) (fun r s2 o2 g2 z => ?_)
      obtain ⟨v, rfl, z⟩ := z
      refine Wp.run z (fun _ s3 o3 g3 z => ?_)
      obtain ⟨p, st', kk⟩ := z
      have off := Off.of_kept kk (fun b hb => hoff b (by simp [hb]))
      exact x i v ys s3 m hk lt ⟨o3.trans (o2.trans og.1), g3.trans (g2.trans og.2)⟩ p st' (lsKept l1 kk (fun q => Nat.lt_irrefl _ (hwlt _ q))) hy
        (ns1.at' fun o e => kk _ _ (fun q => by have := hwlt _ q; lia) e) (Y.off _ _ _ _ _ j1 off) (k1.of_off off rfl)
    · have : i = n := Nat.le_antisymm hi ge
      subst this
      refine Wp.run (W.done s1.heap (fun h' => Kept wr s1.heap h') st1 (fun h' kk => kk)) (fun r s2 o2 g2 z => ?_)
      obtain ⟨rfl, kk⟩ := z
      have off := Off.of_kept kk (fun b hb => hoff b (by simp [hb]))
      exact y s2 ⟨o2.trans og.1, g2.trans og.2⟩ ⟨ys, m, lsKept l1 kk (fun q => Nat.lt_irrefl _ (hwlt _ q)), hy,
        ns1.at' fun o e => kk _ _ (fun q => by have := hwlt _ q; lia) e, Y.off _ _ _ _ _ j1 off, k1.of_off off rfl⟩
  have cont : ∀ {i : Nat} {ys ys' : List Value} {h' h'' : Heap}, i < n → St (i + 1) h' → Ls h' D ys → Kept T h₁ h' → Kept (C :: T) h' h'' → St (i + 1) h'' ∧ Ls h'' D ys ∧ Kept T h₁ h'' := by
    intro i ys ys' h' h'' lt st l k1 k2
    refine ⟨W.frame _ _ _ st (fun b hb o e => k2 b o (fun q => ?_) e), lsKept l k2 (fun q => ?_), fun a o ha e => k2 a o (fun q => ?_) (k1 a o ha e)⟩
    · rcases List.mem_cons.mp q with rfl | q
      · have := hfplt _ hb; lia
      · exact hTfp b hb q
    · rcases List.mem_cons.mp q with q | q
      · exact hDC q
      · exact Nat.lt_irrefl _ (hTlt _ q)
    · rcases List.mem_cons.mp q with rfl | q
      · have := Heap.lt_size (e2 _ _ e); lia
      · exact ha q
  have app : ∀ {i : Nat} {ys : List Value} {y : Value} {s5 : Shared} {m : Str → Option Value} {k : Nat} {E : Value → Shared → Prop}, k = n - i → i < n → (s5.os = s.os ∧ s5.gens = s.gens) → St (i + 1) s5.heap → Ls s5.heap D ys → ys.length ≤ i → s5.heap.Ns C m → J (C + 1) (i + 1) (ys ++ [y]) s5.heap → Kept T h₁ s5.heap →
      wpAny (model prog w) A (call (.builtin "list.append") [.ref D, y]) (fun _ s₅ => ∃ m, m < k ∧ Inv m s₅) E s5 := by
    intro i ys y s5 m k E hk lt og st l hy ns j k5
    refine Wp.run (w_append (Q := fun _ h5 => Ls h5 D (ys ++ [y]) ∧ Heap.SameBut D s5.heap h5) l (by lia) (fun h5 l5 sb5 => ⟨l5, sb5⟩)) (fun _ s6 o6 g6 z => ?_)
    obtain ⟨l6, sb6⟩ := z
    have kD : Kept [D] s5.heap s6.heap := Kept.of_same sb6 (by first | (with_reducible (first | exact im1 | exact im2 | exact im3 | exact sb0 | exact sb1 im1 | exact sb1 im2 | exact sb1 im3)) | exact nmc (adne (by decide)) nm0 | exact nmc (adne (by decide)) (nmc (adnn (by decide)) nm0) | simp)
    have off : Off h₁.objs.size (C + 1) s5.heap s6.heap := Off.of_kept kD (by intro b hb; simp only [List.mem_singleton] at hb; exact hoff b (by simp [hb]))
    refine ⟨n - (i + 1), by lia, ⟨o6.trans og.1, g6.trans og.2⟩, i + 1, ys ++ [y], m, rfl, lt, ?_, l6, by simp; lia, ?_, Y.off _ _ _ _ _ j off, k5.of_off off rfl⟩
    · exact W.frame _ _ _ st fun b hb o e => kD _ _ (by simp only [List.mem_singleton]; intro q; have := hfplt _ hb; lia) e
    · exact ns.at' fun o e => kD _ _ (by simp only [List.mem_singleton]; exact fun q => hDC q.symm) e
  have skip : ∀ {i : Nat} {ys : List Value} {s5 : Shared} {m : Str → Option Value} {k : Nat}, k = n - i → i < n → (s5.os = s.os ∧ s5.gens = s.gens) → St (i + 1) s5.heap → Ls s5.heap D ys → ys.length ≤ i → s5.heap.Ns C m → J (C + 1) (i + 1) ys s5.heap → Kept T h₁ s5.heap → ∃ m, m < k ∧ Inv m s5 := by
    intro i ys s5 m k hk lt og st l hy ns j k5
    exact ⟨n - (i + 1), by lia, og, i + 1, ys, m, rfl, lt, st, l, by lia, ns, j, k5⟩
  have hCb : h₁.objs.size ≤ C := by lia
  match ifs, hif with
  | [], _ =>
    refine kcp_loop Inv ?_ n h0
    intro kk s1 hinv
    refine nxt hinv (fun i v ys s2 m hk lt og p st l hy ns j k2 => ?_) (fun s' og z => ?_)
    · refine Wp.run (Y.turn (C + 1) C i v ys s2.heap m lt hCb rfl p j k2 hy ns) (fun _ s3 o3 g3 z => ?_)
      refine Wp.run z.nil (fun y s4 o4 g4 z => ?_)
      obtain ⟨k4, ⟨m4, ns4⟩, j4⟩ := z
      obtain ⟨c1, c2, c3⟩ := cont (ys' := []) lt st l k2 k4
      exact app hk lt ⟨o4.trans (o3.trans og.1), g4.trans (g3.trans og.2)⟩ c1 c2 hy ns4 j4 c3
    · obtain ⟨ys, m, a, b, c, d, e⟩ := z
      exact k s' og.1 og.2 ys m a b c d e
  | [c], _ =>
    refine kct_loop Inv ?_ n h0
    intro kk s1 hinv
    refine nxt hinv (fun i v ys s2 m hk lt og p st l hy ns j k2 => ?_) (fun s' og z => ?_)
    · refine Wp.run (Y.turn (C + 1) C i v ys s2.heap m lt hCb rfl p j k2 hy ns) (fun _ s3 o3 g3 z => ?_)
      refine Wp.run z.one (fun ok s4 o4 g4 z => ?_)
      cases ok with
      | true =>
        rw [if_pos rfl] at z ⊢
        refine Wp.run z (fun y s5 o5 g5 z => ?_)
        obtain ⟨k4, ⟨m4, ns4⟩, j4⟩ := z
        obtain ⟨c1, c2, c3⟩ := cont (ys' := []) lt st l k2 k4
        exact app hk lt ⟨o5.trans (o4.trans (o3.trans og.1)), g5.trans (g4.trans (g3.trans og.2))⟩ c1 c2 hy ns4 j4 c3
      | false =>
        rw [if_neg (by decide)] at z ⊢
        obtain ⟨k4, ⟨m4, ns4⟩, j4⟩ := z
        obtain ⟨c1, c2, c3⟩ := cont (ys' := []) lt st l k2 k4
        exact skip hk lt ⟨o4.trans (o3.trans og.1), g4.trans (g3.trans og.2)⟩ c1 c2 hy ns4 j4 c3
    · obtain ⟨ys, m, a, b, c, d, e⟩ := z
      exact k s' og.1 og.2 ys m a b c d e

/-- a list comprehension; use: what is done with it (none: it is the value) -/
theorem w_lcGo {elt target iter : Expr} {ifs : List Expr} {scope : Scope} {cl : List (Str × Addr)} {pos : Pos} {use : Option (Value → Sem Unit)} {Q : Value → Heap → Prop} (hif : ifs.length ≤ 1)
    (hclos : closureFor scope env = pure cl) (hcell : (scope.names.all fun y => y.2 != .cell) = true) (hkind : scope.kind = .function) (hnames : (scope.names.all fun y => y.2 != .local || decide (scope.names.lookup y.1 = some .local)) = true)
    (e : Wp (model prog w) A (eval iter env) (fun xv h₁ => ∃ n P old, Iter prog w A target (fun Q => Wp (model prog w) A (pyIter xv) Q h₁) n P old h₁ ∧ n ≤ sizeLine ∧ (∀ b ∈ old, b < h₁.objs.size) ∧
      ∃ T J, (∀ b ∈ T, b < h₁.objs.size ∧ b ∉ old) ∧ CompT prog w A env elt target ifs scope cl n P h₁ T J ∧
        (∀ b0 ys D C h' m, h₁.objs.size ≤ D → D < C → C < b0 → Ls h' D ys → ys.length ≤ n → J b0 n ys h' → Kept T h₁ h' → h'.Ns C m →
          match use with
          | none => ∀ h'', Heap.SameBut C h' h'' → Q (.ref D) h''
          | some u => Wp (model prog w) A (u (.ref D)) (fun _ h₃ => (∃ m, h₃.Ns C m) ∧ ∀ h', Heap.SameBut C h₃ h' → Q .none h') h')) h)
    (hs : ∀ x, foldedSetIterable iter env x = pure x := by intro _; rfl) :
    Wp (model prog w) A (comprehension (.ListComp elt [⟨target, iter, ifs, 0⟩] scope pos) scope env (firstIterPos [⟨target, iter, ifs, 0⟩] pos) (newList []) false (eval iter env) use) Q h := by
  intro s hs'
  subst hs'
  refine wpAny_comprehension_free (use := use) rfl hs hclos hkind (fun y hy hl => ?_) ?_
  · have := List.all_eq_true.mp hnames y hy
    simp [hl] at this
    exact this
  refine Wp.run e (fun xv s₁ o1 g1 y => ?_)
  obtain ⟨n, P, old, it, hn, hold, T, J, hT, Y, kd⟩ := y
  refine Wp.run (it (fun v h₂ => ∃ I fp wr St, v = .ref I ∧ IterW prog w A target I fp wr n P St ∧ St 0 h₂ ∧ Ext s₁.heap h₂ ∧ s₁.heap.objs.size ≤ I ∧ (∀ b ∈ wr, s₁.heap.objs.size ≤ b) ∧ (∀ b ∈ fp, b ∈ old ∨ (s₁.heap.objs.size ≤ b ∧ b ≤ I)))
    (fun I fp wr St h2 W st e a b c => ⟨I, fp, wr, St, rfl, W, st, e, a, b, c⟩)) (fun it s₂ o2 g2 y => ?_)
  obtain ⟨I, fp, wr, St, rfl, W, st, e12, hI0, hwr, hfp⟩ := y
  refine wpAny_newObj_type (wpAny_newFunctionEnv (fun z hz => by simpa using List.all_eq_true.mp hcell z hz) (by intro y hy; simp at hy) (fun h₁ hns₁ hsb₁ => ?_) hkind)
  dsimp only at hns₁ hsb₁ ⊢
  generalize hH2 : s₂.heap.push { cls := .type "list", dict := none, data := .seq ([] : List Value).toArray } = H2 at hns₁ hsb₁ ⊢
  have hC : H2.objs.size = s₂.heap.objs.size + 1 := by rw [← hH2, Heap.size_push]
  have hDC : s₂.heap.objs.size ≠ H2.objs.size := by rw [hC]; exact Nat.ne_of_lt (Nat.lt_succ_self _)
  have below : ∀ b, b < s₂.heap.objs.size → b ≠ H2.objs.size := fun b hb => by rw [hC]; exact Nat.ne_of_lt (Nat.lt_succ_of_lt hb)
  have old' : ∀ b o, s₂.heap.get? b = some o → h₁.get? b = some o := fun b o e => hsb₁.extBut b o (below b (Heap.lt_size e)) (Heap.get?_push_of_some _ (hH2 ▸ Heap.get?_push_of_some _ e))
  have hacc : Ls h₁ s₂.heap.objs.size [] := ⟨_, hsb₁.extBut _ _ hDC (Heap.get?_push_of_some _ (hH2 ▸ Heap.get?_push_size _ rfl))⟩
  have hst₁ : St 0 h₁ := W.frame _ _ _ st fun b _ o e => old' b o e
  have hI2 := W.lt _ _ st
  have hDn : s₁.heap.objs.size ≤ s₂.heap.objs.size := by lia
  have loop : ∀ s₃ : Shared, s₃ = { s₂ with heap := h₁, toks := s₂.toks + ([] : List (Str × Value)).length } →
      codeAny (model prog w) A (.compLoop (.ListComp elt [⟨target, iter, ifs, 0⟩] scope pos) 0 (.ref I) (.ref s₂.heap.objs.size) (compEnvC scope cl H2.objs.size env))
        (compPost (model prog w) A NoE use (fun v s' => (s'.os = s.os ∧ s'.gens = s.gens) ∧ Q v s'.heap) (.ref s₂.heap.objs.size) H2.objs.size) s₃ := by
    rintro s₃ rfl
    refine comp_loop (h₁ := s₁.heap) (h₂ := s₂.heap) (h₃ := h₁) (old := old) (T := T) rfl hif hn W e12 hI0 hwr hfp hI2 hold hT Y rfl hC old' hacc hns₁ hst₁ (fun s' os gs ys m l hy ns j kk => ?_)
    have z := kd _ ys _ H2.objs.size s'.heap m hDn (by rw [hC]; exact Nat.lt_succ_self _) (Nat.lt_succ_self _) l hy j kk ns
    cases use with
    | none => exact ⟨m, ns, fun h'' sb => ⟨⟨os.trans (o2.trans o1), gs.trans (g2.trans g1)⟩, z h'' sb⟩⟩
    | some u =>
      refine Wp.run z (fun _ s4 o4 g4 y => ?_)
      obtain ⟨⟨m, hm⟩, y⟩ := y
      exact ⟨m, hm, fun h' hs' => ⟨⟨o4.trans (os.trans (o2.trans o1)), g4.trans (gs.trans (g2.trans g1))⟩, y h' hs'⟩⟩
  exact codeAny_compStart_list (loop _ rfl) (W.self _ _ _ hst₁ (loop _ rfl))
theorem w_lcI {elt target iter : Expr} {ifs : List Expr} {scope : Scope} {cl : List (Str × Addr)} {pos : Pos} {Q : Value → Heap → Prop} (hif : ifs.length ≤ 1)
    (hclos : closureFor scope env = pure cl) (hcell : (scope.names.all fun y => y.2 != .cell) = true) (hkind : scope.kind = .function) (hnames : (scope.names.all fun y => y.2 != .local || decide (scope.names.lookup y.1 = some .local)) = true)
    (e : Wp (model prog w) A (eval iter env) (fun xv h₁ => ∃ n P old, Iter prog w A target (fun Q => Wp (model prog w) A (pyIter xv) Q h₁) n P old h₁ ∧ n ≤ sizeLine ∧ (∀ b ∈ old, b < h₁.objs.size) ∧
      ∃ T J, (∀ b ∈ T, b < h₁.objs.size ∧ b ∉ old) ∧ CompT prog w A env elt target ifs scope cl n P h₁ T J ∧
        (∀ b0 ys D h', h₁.objs.size ≤ D → D < b0 → Ls h' D ys → ys.length ≤ n → J b0 n ys h' → Kept T h₁ h' → Q (.ref D) h')) h)
    (hs : ∀ x, foldedSetIterable iter env x = pure x := by intro _; rfl) :
    Wp (model prog w) A (eval (.ListComp elt [⟨target, iter, ifs, 0⟩] scope pos) env) Q h := by
  rw [eval_ListComp]
  refine w_lcGo (use := none) hif hclos hcell hkind hnames (e.mono fun xv h₁ y => ?_) hs
  obtain ⟨n, P, old, it, hn, hold, T, J, hT, Y, kd⟩ := y
  refine ⟨n, P, old, it, hn, hold, T, J, hT, Y, fun b0 ys D C h' m hD hDC hCb l hy j kk ns h'' sb => ?_⟩
  have kC : Kept [C] h' h'' := Kept.of_same sb (by first | (with_reducible (first | exact im1 | exact im2 | exact im3 | exact sb0 | exact sb1 im1 | exact sb1 im2 | exact sb1 im3)) | exact nmc (adne (by decide)) nm0 | exact nmc (adne (by decide)) (nmc (adnn (by decide)) nm0) | simp)
  have off : Off h₁.objs.size b0 h' h'' := Off.of_kept kC (by intro b hb; simp only [List.mem_singleton] at hb; subst hb; exact ⟨Nat.le_of_lt (Nat.lt_of_le_of_lt hD hDC), hCb⟩)
  exact kd b0 ys D h'' hD (Nat.lt_trans hDC hCb) (l.same sb (Nat.ne_of_lt hDC)) hy (Y.off _ _ _ _ _ j off) (kk.of_off off rfl)
theorem w_lcIU {elt target iter : Expr} {ifs : List Expr} {scope : Scope} {cl : List (Str × Addr)} {pos : Pos} {u : Value → Sem Unit} {Q : Heap → Prop} (hif : ifs.length ≤ 1)
    (hclos : closureFor scope env = pure cl) (hcell : (scope.names.all fun y => y.2 != .cell) = true) (hkind : scope.kind = .function) (hnames : (scope.names.all fun y => y.2 != .local || decide (scope.names.lookup y.1 = some .local)) = true)
    (e : Wp (model prog w) A (eval iter env) (fun xv h₁ => ∃ n P old, Iter prog w A target (fun Q => Wp (model prog w) A (pyIter xv) Q h₁) n P old h₁ ∧ n ≤ sizeLine ∧ (∀ b ∈ old, b < h₁.objs.size) ∧
      ∃ T J, (∀ b ∈ T, b < h₁.objs.size ∧ b ∉ old) ∧ CompT prog w A env elt target ifs scope cl n P h₁ T J ∧
        (∀ b0 ys D C h' m, h₁.objs.size ≤ D → D < C → C < b0 → Ls h' D ys → ys.length ≤ n → J b0 n ys h' → Kept T h₁ h' → h'.Ns C m →
          Wp (model prog w) A (u (.ref D)) (fun _ h₃ => (∃ m, h₃.Ns C m) ∧ ∀ h', Heap.SameBut C h₃ h' → Q h') h')) h)
    (hs : ∀ x, foldedSetIterable iter env x = pure x := by intro _; rfl) :
    Wp (model prog w) A (evalThenUse (.ListComp elt [⟨target, iter, ifs, 0⟩] scope pos) env u) (fun _ => Q) h := by
  show Wp (model prog w) A (comprehension (.ListComp elt [⟨target, iter, ifs, 0⟩] scope pos) scope env (firstIterPos [⟨target, iter, ifs, 0⟩] pos) (newList []) false (eval iter env) (some u) >>= fun _ => pure ()) _ h
  refine w_bind ((w_lcGo (use := some u) (Q := fun _ => Q) hif hclos hcell hkind hnames (e.mono fun xv h₁ y => ?_) hs).mono fun _ _ y => w_pure y)
  obtain ⟨n, P, old, it, hn, hold, T, J, hT, Y, kd⟩ := y
  exact ⟨n, P, old, it, hn, hold, T, J, hT, Y, kd⟩
end
end Mine
end
section
open PySem PySem.W PyProof.Rows PySem.Calls
set_option Elab.async false
set_option maxRecDepth 100000
set_option linter.unusedVariables false
set_option linter.unusedSimpArgs false
namespace Mine
/-! ## small things in lists -/
inductive At where
  | i (n : Int)
  | s (l : List Nat)
  deriving DecidableEq
def At.lt : At → At → Bool
  | .i a, .i b => decide (a < b)
  | .s a, .s b => decide (a < b)
  | _, _ => false
def At.kin : At → At → Bool
  | .i _, .i _ => true
  | .s _, .s _ => true
  | _, _ => false
def AtV : Value → At → Prop
  | v, .i m => ∃ t, v = .int m t
  | v, .s l => ∃ t, v = .str (S l) t
def AtL : List Value → List At → Prop
  | [], [] => True
  | v :: vs, a :: as => AtV v a ∧ AtL vs as
  | _, _ => False
def ltL : List At → List At → Bool
  | [], [] => false
  | [], _ :: _ => true
  | _ :: _, [] => false
  | a :: as, b :: bs => if a = b then ltL as bs else At.lt a b
def Kin : List At → List At → Bool
  | a :: as, b :: bs => At.kin a b && Kin as bs
  | _, _ => true
theorem AtL.length : ∀ {vs : List Value} {as : List At}, AtL vs as → vs.length = as.length
  | [], [], _ => rfl
  | _ :: _, _ :: _, h => by simp [AtL.length h.2]
  | [], _ :: _, h => h.elim
  | _ :: _, [], h => h.elim
theorem AtL.get : ∀ {vs : List Value} {as : List At}, AtL vs as → ∀ {i : Nat} {a : At}, as[i]? = some a → ∃ v, vs[i]? = some v ∧ AtV v a
  | [], [], _, i, a, e => by simp at e
  | v :: vs, b :: as, h, 0, a, e => by simp at e; subst e; exact ⟨v, rfl, h.1⟩
  | v :: vs, b :: as, h, i + 1, a, e => by simpa using h.2.get (by simpa using e)
  | [], _ :: _, h, _, _, _ => h.elim
  | _ :: _, [], h, _, _, _ => h.elim
theorem Strs.atL : ∀ {vs : List Value} {ts : List (List Nat)}, Strs vs ts → AtL vs (ts.map .s)
  | [], [], _ => trivial
  | _ :: _, _ :: _, h => ⟨h.1, Strs.atL h.2⟩
  | [], _ :: _, h => h.elim
  | _ :: _, [], h => h.elim
theorem AtL.strs : ∀ {vs : List Value} {ts : List (List Nat)}, AtL vs (ts.map .s) → Strs vs ts
  | [], [], _ => trivial
  | _ :: _, _ :: _, h => ⟨h.1, AtL.strs h.2⟩
  | [], _ :: _, h => h.elim
  | _ :: _, [], h => h.elim
/-- a list of small things -/
def LA (h : Heap) (a : Addr) (as : List At) : Prop := ∃ vs, Ls h a vs ∧ AtL vs as
theorem LA.kept {S : List Addr} {h h' : Heap} {a : Addr} {as : List At} (x : LA h a as) (k : Kept S h h') (hn : a ∉ S) : LA h' a as := let ⟨vs, l, r⟩ := x; ⟨vs, lsKept l k hn, r⟩
theorem LA.ext {h h' : Heap} {a : Addr} {as : List At} (x : LA h a as) (k : Ext h h') : LA h' a as := let ⟨vs, l, r⟩ := x; ⟨vs, l.ext k, r⟩
theorem LA.off {n0 b0 : Addr} {h h' : Heap} {a : Addr} {as : List At} (x : LA h a as) (k : Mine.Off n0 b0 h h') (hn : a < n0 ∨ b0 ≤ a) : LA h' a as := let ⟨vs, ⟨n, l⟩, r⟩ := x; ⟨vs, ⟨n, k _ _ hn l⟩, r⟩
theorem AtV.eqAt {A : Around} {s : Shared} {v u : Value} {a b : At} (ha : AtV v a) (hb : AtV u b) (hk : At.kin a b = true) : SeqAt.EqAt A s v u (decide (a = b)) := by
  cases a with
  | i m =>
    cases b with
    | i k => obtain ⟨t, rfl⟩ := ha; obtain ⟨t', rfl⟩ := hb; have := SeqAt.EqAt.int_int (A := A) (s := s) m t k t'; have e : (m == k) = decide (At.i m = At.i k) := by by_cases q : m = k <;> simp [q]
             rw [e] at this; exact this
    | s l => cases hk
  | s l =>
    cases b with
    | i k => cases hk
    | s l' => obtain ⟨t, rfl⟩ := ha; obtain ⟨t', rfl⟩ := hb; have := SeqAt.EqAt.str_str (A := A) (s := s) (S l) t (S l') t'; have e : (S l == S l') = decide (At.s l = At.s l') := by by_cases q : l = l' <;> simp [q, S]
              rw [e] at this; exact this
theorem AtV.ltAt {prog : Program} {w : World} {A : Around} {E : Value → Shared → Prop} {s : Shared} {Q : Value → Shared → Prop} {v u : Value} {a b : At} (ha : AtV v a) (hb : AtV u b) (hk : At.kin a b = true) (k : Q (.bool (At.lt a b)) s) : wpAny (model prog w) A (richCompare .Lt v u) Q E s := by
  cases a with
  | i m =>
    cases b with
    | i k => obtain ⟨t, rfl⟩ := ha; obtain ⟨t', rfl⟩ := hb; exact wpAny_lt_int k
    | s l => cases hk
  | s l =>
    cases b with
    | i k => cases hk
    | s l' => obtain ⟨t, rfl⟩ := ha; obtain ⟨t', rfl⟩ := hb
              have := P.lt_str (prog := prog) (w := w) (A := A) (E := E) (s := s) (Q := Q) (x := S l) (y := S l') (t := t) (u := t') (by simpa [S, At.lt] using k)
              exact this
open AutoSeq1 (wpAny_loadPart') in
theorem lt_loopAt (l b : Addr) (xs ys : List Value) (n n2 : Nat) (as bs : List At) (hx : AtL xs as) (hy : AtL ys bs) (hk : Kin as bs = true) (k : Nat) :
    ∀ i : Nat, xs.length - i = k → i ≤ xs.length → i ≤ ys.length → Kin (as.drop i) (bs.drop i) = true → Meets (Builtin.«list.__eq__.loop» ⟨[.ref l, .ref b, rawInt i, rawInt 0], []⟩)
      (fun A R s => s.heap.get? l = some (lst xs n) ∧ s.heap.get? b = some (lst ys n2) ∧ R (.ok (.ret (.bool (ltL (as.drop i) (bs.drop i))))) s) := by
  have lx := hx.length
  have ly := hy.length
  induction k with
  | zero =>
    intro i hk1 h1 h2 hkin prog w A R s h
    obtain ⟨hp, g, d, tk, os⟩ := s; obtain ⟨hl, hb, h⟩ := h
    wp_walk using wpAny_loadPart' hl, wpAny_loadPart' hb
    have hi1 : xs.toArray[((i : Nat) : Int).toNat]? = none := by simp; lia
    have hd : as.drop i = [] := by simp; lia
    rw [hd] at h
    rw [hi1]
    wp_walk using wpAny_loadPart' hl, wpAny_loadPart' hb
    cases hd2 : bs.drop i with
    | nil =>
      rw [hd2] at h
      have : ys.length = i := by have := congrArg List.length hd2; simp at this; lia
      have e : (decide (xs.toArray.size < ys.toArray.size)) = false := by simp; lia
      show R (.ok (.ret (.bool (decide (xs.toArray.size < ys.toArray.size))))) _
      rw [e]; exact h
    | cons c r =>
      rw [hd2] at h
      have : i < ys.length := by have := congrArg List.length hd2; simp at this; lia
      have e : (decide (xs.toArray.size < ys.toArray.size)) = true := by simp; lia
      show R (.ok (.ret (.bool (decide (xs.toArray.size < ys.toArray.size))))) _
      rw [e]; exact h
  | succ k ih =>
    intro i hk1 h1 h2 hkin prog w A R s h
    obtain ⟨hp, g, d, tk, os⟩ := s; obtain ⟨hl, hb, h⟩ := h
    wp_walk using wpAny_loadPart' hl, wpAny_loadPart' hb
    have hlt : i < xs.length := by lia
    have hi1 : xs.toArray[((i : Nat) : Int).toNat]? = some xs[i] := by simp [hlt]
    have ha1 : as.drop i = as[i] :: as.drop (i + 1) := List.drop_eq_getElem_cons (by lia)
    rw [ha1] at h hkin
    rw [hi1]
    rcases Nat.lt_or_ge i ys.length with q | q
    · have hi2 : ys.toArray[((i : Nat) : Int).toNat]? = some ys[i] := by simp [q]
      have hb1 : bs.drop i = bs[i] :: bs.drop (i + 1) := List.drop_eq_getElem_cons (by lia)
      rw [hb1] at h hkin
      rw [hi2]
      obtain ⟨v, ev, av⟩ := hx.get (i := i) (a := as[i]) (by simp)
      obtain ⟨u, eu, au⟩ := hy.get (i := i) (a := bs[i]) (by simp)
      have ev' : xs[i] = v := by simpa [hlt] using ev
      have eu' : ys[i] = u := by simpa [q] using eu
      simp only [Kin, Bool.and_eq_true] at hkin
      have hc : ((i : Int) + 1) = ((i + 1 : Nat) : Int) := by push_cast; rfl
      refine wpAny_bind ((ev' ▸ eu' ▸ AtV.eqAt av au hkin.1 : SeqAt.EqAt A.in1 _ xs[i] ys[i] _) prog w _ _ ?_)
      simp only [ltL] at h
      by_cases e : as[i] = bs[i]
      · rw [if_pos e] at h
        rw [decide_eq_true e]
        wp_walk
        rw [hc]
        exact ⟨plainId_quiet MeetsSeq3.plain_eq_loop _, codeAny_builtin MeetsSeq3.entry_eq_loop (by
          rw [Around.under_plainId MeetsSeq3.plain_eq_loop _]
          exact ih (i + 1) (by lia) (by lia) (by lia) hkin.2 prog w A R _ ⟨hl, hb, h⟩)⟩
      · rw [if_neg e] at h
        rw [decide_eq_false e]
        wp_walk using wpAny_loadPart' hl, wpAny_loadPart' hb
        rw [hi1, hi2]
        refine wpAny_bind (AtV.ltAt (prog := prog) (w := w) (ev' ▸ av) (eu' ▸ au) hkin.1 (wpAny_pure ?_))
        exact h
    · have hi2 : ys.toArray[((i : Nat) : Int).toNat]? = none := by simp; lia
      have hb1 : bs.drop i = [] := by simp; lia
      rw [hb1] at h
      rw [hi2]
      wp_walk using wpAny_loadPart' hl, wpAny_loadPart' hb
      have e : (decide (xs.toArray.size < ys.toArray.size)) = false := by simp; lia
      show R (.ok (.ret (.bool (decide (xs.toArray.size < ys.toArray.size))))) _
      rw [e]; exact h
open AutoSeq1 (wpAny_loadPart') in
theorem list_ltAt (l b : Addr) (xs ys : List Value) (n n2 : Nat) (as bs : List At) (hx : AtL xs as) (hy : AtL ys bs) (hk : Kin as bs = true) :
    Meets (Builtin.«list.__lt__» ⟨[.ref l, .ref b], []⟩)
      (fun A R s => s.heap.get? l = some (lst xs n) ∧ s.heap.get? b = some (lst ys n2) ∧ R (.ok (.ret (.bool (ltL as bs)))) s) := by
  intro prog w A R s h
  obtain ⟨hp, g, d, tk, os⟩ := s; obtain ⟨hl, hb, h⟩ := h
  have f3 := AutoSeq1.sub_list_list
  wp_walk using wpAny_loadPart' hl, wpAny_loadPart' hb
  exact ⟨plainId_quiet MeetsSeq3.plain_eq_loop _, codeAny_builtin MeetsSeq3.entry_eq_loop (by
    rw [Around.under_plainId MeetsSeq3.plain_eq_loop _]
    exact lt_loopAt l b xs ys n n2 as bs hx hy hk _ 0 rfl (Nat.zero_le _) (Nat.zero_le _) hk prog w A R _ ⟨hl, hb, h⟩)⟩
section
variable {prog : Program} {w : World} {A : Around} {h : Heap} {env : Env}
theorem w_ltList {l b : Addr} {as bs : List At} {Q : Value → Heap → Prop} (hl : LA h l as) (hb : LA h b bs) (hk : Kin as bs = true) (hu : A.units < cLine) (k : Q (.bool (ltL as bs)) h) :
    Wp (model prog w) A (compareOp .Lt (.ref l) (.ref b)) Q h := fun s hs => by
  subst hs
  obtain ⟨xs, ⟨n, e1⟩, hx⟩ := hl
  obtain ⟨ys, ⟨n2, e2⟩, hy⟩ := hb
  exact richCompare_meets_room (op := .Lt) ⟨_, e1, rfl⟩ ⟨_, e2, rfl⟩ F.slot_list_lt F.entry_list_lt (F.args_list_lt_2 _ _) (list_ltAt l b xs ys n n2 as bs hx hy hk)
    ⟨e1, e2, (fun x => nomatch x), ⟨rfl, rfl⟩, k⟩ hu
theorem atl_all (e : Nat → Bool) (as bs : List At) (hz : as.length = bs.length) (he : ∀ (i : Nat) a b, as[i]? = some a → bs[i]? = some b → e i = decide (a = b)) : (List.range as.length).all e = decide (as = bs) := by
  by_cases q : as = bs
  · subst q
    rw [decide_eq_true rfl, List.all_eq_true]
    intro i hi
    have hi := List.mem_range.mp hi
    rw [he i as[i] as[i] (by simp [hi]) (by simp [hi])]
    simp
  · rw [decide_eq_false q]
    cases hq : (List.range as.length).all e with
    | false => rfl
    | true =>
      exfalso
      apply q
      rw [List.all_eq_true] at hq
      apply List.ext_getElem hz
      intro i h1 h2
      have := hq i (List.mem_range.mpr h1)
      rw [he i as[i] bs[i] (by simp) (by simp)] at this
      simpa using this
theorem kin_get : ∀ {as bs : List At}, Kin as bs = true → ∀ {i : Nat} {a b : At}, as[i]? = some a → bs[i]? = some b → At.kin a b = true
  | a :: as, b :: bs, h, 0, x, y, e1, e2 => by simp at e1 e2; subst e1; subst e2; simp only [Kin, Bool.and_eq_true] at h; exact h.1
  | a :: as, b :: bs, h, i + 1, x, y, e1, e2 => by simp only [Kin, Bool.and_eq_true] at h; exact kin_get h.2 (by simpa using e1) (by simpa using e2)
  | [], _, h, i, x, y, e1, e2 => by simp at e1
  | _ :: _, [], h, i, x, y, e1, e2 => by simp at e2
theorem w_eqList {l b : Addr} {as bs : List At} {Q : Value → Heap → Prop} (hl : LA h l as) (hb : LA h b bs) (hk : Kin as bs = true) (hu : A.units < cLine) (k : Q (.bool (decide (as = bs))) h) :
    Wp (model prog w) A (compareOp .Eq (.ref l) (.ref b)) Q h := fun s hs => by
  subst hs
  obtain ⟨xs, l1, hx⟩ := hl
  obtain ⟨ys, l2, hy⟩ := hb
  have lx := hx.length
  have ly := hy.length
  by_cases hz : as.length = bs.length
  · have hsz : xs.toArray.size = ys.toArray.size := by simp; lia
    refine SeqAt.eq_listAt (e := fun i => decide (as[i]? = bs[i]?)) l1.isList l2.isList hsz hu (fun j h1 h2 => ?_) ⟨⟨rfl, rfl⟩, ?_⟩
    · simp only [List.size_toArray] at h1 h2
      have a1 : as[j]? = some as[j] := by simp
      have b1 : bs[j]? = some bs[j] := by simp
      obtain ⟨v, ev, av⟩ := hx.get a1
      obtain ⟨u, eu, au⟩ := hy.get b1
      have ev' : xs[j] = v := by simpa [h1] using ev
      have eu' : ys[j] = u := by simpa [h2] using eu
      have := AtV.eqAt (A := A.in1) (s := s) av au (kin_get hk a1 b1)
      rw [a1, b1]
      simpa [ev', eu'] using this
    · have : (List.range xs.toArray.size).all (fun i => decide (as[i]? = bs[i]?)) = decide (as = bs) := by
        rw [List.size_toArray, lx]
        refine atl_all _ as bs hz (fun i a b e1 e2 => ?_)
        rw [e1, e2]; simp
      rw [this]; exact k
  · refine SeqAt.eq_list_lengthsAt l1.isList l2.isList (by simp; lia) hu ⟨⟨rfl, rfl⟩, ?_⟩
    have : decide (as = bs) = false := decide_eq_false fun q => hz (congrArg List.length q)
    rw [this] at k; exact k
/-! reading for deep comparisons -/
def At.data : At → PyData
  | .i n => .int n
  | .s l => .str (S l)
theorem AtV.reads {v : Value} {a : At} (x : AtV v a) : Reads h v a.data [] := by
  cases a with
  | i n => obtain ⟨t, rfl⟩ := x; exact .int _ _
  | s l => obtain ⟨t, rfl⟩ := x; exact .str _ _
theorem AtL.reads : ∀ {vs : List Value} {as : List At}, AtL vs as → ReadsAll h vs (as.map At.data) []
  | [], [], _ => .nil
  | v :: vs, a :: as, x => by
    have := ReadsAll.cons (h := h) x.1.reads x.2.reads
    simpa using this
  | [], _ :: _, h => h.elim
  | _ :: _, [], h => h.elim
theorem LA.reads {a : Addr} {as : List At} (x : LA h a as) : Reads h (.ref a) (.list (as.map At.data)) [a] := by
  obtain ⟨vs, ⟨n, e⟩, r⟩ := x
  exact .list e rfl rfl (by simpa using r.reads)
theorem at_data_eqv (a b : At) (hk : At.kin a b = true) : PyData.eqv a.data b.data = decide (a = b) := by
  cases a with
  | i m =>
    cases b with
    | i k => by_cases q : m = k <;> simp [At.data, PyData.eqv, q]
    | s l => cases hk
  | s l =>
    cases b with
    | i k => cases hk
    | s l' => by_cases q : l = l' <;> simp [At.data, PyData.eqv, q, S]
def At.ok : At → Bool
  | .i _ => true
  | .s l => PyData.strOk (S l)
theorem at_ok (a : At) (h : a.ok = true) : a.data.canLay0 = true ∧ a.data.depth = 0 := by
  cases a with
  | i n => exact ⟨by simp [At.data, PyData.canLay0], by simp [At.data, PyData.depth]⟩
  | s l => exact ⟨by simpa [At.data, PyData.canLay0, At.ok] using h, by simp [At.data, PyData.depth]⟩
theorem atl_ok : ∀ (as : List At), (∀ a ∈ as, a.ok = true) → PyData.canLayAll0 (as.map At.data) = true ∧ PyData.depthAll (as.map At.data) = 0
  | [], _ => ⟨rfl, rfl⟩
  | a :: as, h => by
    have h1 := at_ok a (h a (by simp))
    have h2 := atl_ok as (fun b hb => h b (by simp [hb]))
    exact ⟨by simp [PyData.canLayAll0, h1.1, h2.1], by simp [PyData.depthAll, h1.2, h2.2]⟩
theorem atl_shaped (as : List At) (h : ∀ a ∈ as, a.ok = true) : SeqAt.shaped (.list (as.map At.data)) = true := by
  have := atl_ok as h
  simp [SeqAt.shaped, PyData.canLay0, PyData.depth, this.1, this.2]
theorem atl_eqv : ∀ (as bs : List At), Kin as bs = true → PyData.eqvAll (as.map At.data) (bs.map At.data) = decide (as = bs)
  | [], [], _ => by simp [PyData.eqvAll]
  | [], _ :: _, _ => by simp [PyData.eqvAll]
  | _ :: _, [], _ => by simp [PyData.eqvAll]
  | a :: as, b :: bs, hk => by
    simp only [Kin, Bool.and_eq_true] at hk
    simp only [List.map_cons, PyData.eqvAll, at_data_eqv a b hk.1, atl_eqv as bs hk.2]
    by_cases h1 : a = b <;> by_cases h2 : as = bs <;> simp [h1, h2]
theorem w_neList {l b : Addr} {as bs : List At} {Q : Value → Heap → Prop} (hl : LA h l as) (hb : LA h b bs) (hk : Kin as bs = true) (ha : ∀ a ∈ as, a.ok = true) (hbo : ∀ a ∈ bs, a.ok = true) (hu : A.units + 64 < cLine) (k : Q (.bool (!decide (as = bs))) h) :
    Wp (model prog w) A (compareOp .NotEq (.ref l) (.ref b)) Q h := fun s hs => by
  subst hs
  refine ne_dataH hl.reads hb.reads (atl_shaped _ ha) (atl_shaped _ hbo) hu ⟨⟨rfl, rfl⟩, ?_⟩
  · show Q (.bool (!PyData.eqvAll _ _)) _
    rw [atl_eqv as bs hk]; exact k
end
end Mine
end
section
open PySem PySem.W PyProof.Rows
set_option Elab.async false
set_option linter.unusedVariables false
set_option linter.unusedSimpArgs false
namespace Mine
/-! ## the sort's decision tree, run with an order: the stable result -/
def KOk {α : Type} (c : Nat → Nat → Bool) (n : Nat) (Q : α → Prop) : KasT α → Prop
  | .ret a => Q a
  | .ask i j k => i < n ∧ j < n ∧ KOk c n Q (k (c i j))
theorem KOk.bind {α β : Type} {c : Nat → Nat → Bool} {n : Nat} {Q : β → Prop} {f : α → KasT β} : ∀ {t : KasT α}, KOk c n (fun a => KOk c n Q (f a)) t → KOk c n Q (t.bind f)
  | .ret a, h => h
  | .ask i j k, h => ⟨h.1, h.2.1, KOk.bind h.2.2⟩
theorem KOk.mono {α : Type} {c : Nat → Nat → Bool} {n : Nat} {Q Q' : α → Prop} (hq : ∀ a, Q a → Q' a) : ∀ {t : KasT α}, KOk c n Q t → KOk c n Q' t
  | .ret a, h => hq a h
  | .ask i j k, h => ⟨h.1, h.2.1, KOk.mono hq h.2.2⟩
theorem KOk.wp {α : Type} {c : Nat → Nat → Bool} {n : Nat} {P : α → Prop} {cmp : Nat → Nat → (Bool → Shared → Prop) → Shared → Prop} {Q : α → Shared → Prop} (I : Shared → Prop)
    (hc : ∀ i j C s, i < n → j < n → I s → (∀ s', I s' → C (c i j) s') → cmp i j C s) (hQ : ∀ a s, P a → I s → Q a s) : ∀ {t : KasT α} {s : Shared}, KOk c n P t → I s → t.kasWp cmp Q s
  | .ret a, s, h, hi => hQ a s h hi
  | .ask i j k, s, h, hi => hc i j _ s h.1 h.2.1 hi fun s' hi' => KOk.wp I hc hQ h.2.2 hi'
structure Weak (c : Nat → Nat → Bool) : Prop where
  asym : ∀ i j, c i j = true → c j i = false
  nt : ∀ i j k, c j i = false → c k j = false → c k i = false
theorem Weak.irr {c : Nat → Nat → Bool} (W : Weak c) (i : Nat) : c i i = false := by
  cases h : c i i with
  | false => rfl
  | true => have := W.asym i i h; rw [h] at this; exact this
/-- strictly below, in the stable order -/
def prec (c : Nat → Nat → Bool) (i j : Nat) : Prop := c j i = false ∧ (c i j = true ∨ i < j)
theorem Weak.tl {c : Nat → Nat → Bool} (W : Weak c) {i j k : Nat} (h1 : c i j = true) (h2 : c k j = false) : c i k = true := by
  cases h : c i k with
  | true => rfl
  | false => have := W.nt j k i h2 h; rw [h1] at this; cases this
theorem Weak.tr {c : Nat → Nat → Bool} (W : Weak c) {i j k : Nat} (h1 : c j i = false) (h2 : c j k = true) : c i k = true := by
  cases h : c i k with
  | true => rfl
  | false => have := W.nt k i j h h1; rw [h2] at this; cases this
theorem prec.trans {c : Nat → Nat → Bool} (W : Weak c) {i j k : Nat} (h1 : prec c i j) (h2 : prec c j k) : prec c i k := by
  refine ⟨W.nt i j k h1.1 h2.1, ?_⟩
  rcases h1.2 with a | a
  · exact .inl (W.tl a h2.1)
  · rcases h2.2 with b | b
    · exact .inl (W.tr h1.1 b)
    · exact .inr (Nat.lt_trans a b)
abbrev gD (p : Array Nat) (k : Nat) : Nat := p.getD k 0
theorem gD_get (p : Array Nat) (k : Nat) : gD p k = (p[k]?).getD 0 := by simp [gD, Array.getD_eq_getD_getElem?]
theorem gD_rev {p : Array Nat} {i j : Nat} (hj : j ≤ p.size) (k : Nat) : gD (kas_rev p i j) k = if i ≤ k ∧ k < j then gD p (i + j - 1 - k) else gD p k := by
  rw [gD_get]; unfold kas_rev
  rw [getElem?_mirror_all hj]
  split <;> simp [gD_get]
theorem gD_bub {p : Array Nat} {k l : Nat} (hk : k < p.size) (hl : l ≤ k) (m : Nat) : gD (bubble p k (k - l)) m = if m = l then gD p k else if l < m ∧ m ≤ k then gD p (m - 1) else gD p m := by
  rw [gD_get, getElem?_bubble hk _ (by lia)]
  have e : k - (k - l) = l := by lia
  rw [e]
  repeat' split
  all_goals simp_all [gD_get]
theorem gD_range (n k : Nat) (h : k < n) : gD (List.toArray (List.range n)) k = k := by simp [gD, h]
/-- the array is a rearrangement; what lies from m on lies where it lay -/
structure Arr (n m : Nat) (p : Array Nat) : Prop where
  size : p.size = n
  le : m ≤ n
  fix : ∀ k, m ≤ k → k < n → gD p k = k
  lt : ∀ k, k < m → gD p k < m
def Srt (c : Nat → Nat → Bool) (m : Nat) (p : Array Nat) : Prop := ∀ a b, a < b → b < m → prec c (gD p a) (gD p b)
theorem Arr.all {n m : Nat} {p : Array Nat} (A : Arr n m p) (k : Nat) (h : k < n) : gD p k < n := by
  by_cases q : k < m
  · have := A.lt k q; have := A.le; lia
  · rw [A.fix k (by lia) h]; exact h
theorem Arr.up {n m m' : Nat} {p : Array Nat} (A : Arr n m p) (h : m ≤ m') (h' : m' ≤ n) : Arr n m' p :=
  ⟨A.size, h', fun k a b => A.fix k (by lia) b, fun k a => by
    by_cases q : k < m
    · have := A.lt k q; lia
    · rw [A.fix k (by lia) (by lia)]; exact a⟩
theorem Srt.up {c : Nat → Nat → Bool} (W : Weak c) {n m : Nat} {p : Array Nat} (A : Arr n m p) (S : Srt c m p) (hm : 1 ≤ m) (hn : m < n) (h : c (gD p m) (gD p (m - 1)) = false) : Srt c (m + 1) p := by
  intro a b hab hb
  have hlast : prec c (gD p (m - 1)) (gD p m) := ⟨h, .inr (by rw [A.fix m (Nat.le_refl _) hn]; exact A.lt _ (by lia))⟩
  by_cases q : b < m
  · exact S a b hab q
  · have : b = m := by lia
    subst this
    by_cases q2 : a = b - 1
    · subst q2; exact hlast
    · exact (S a (b - 1) (by lia) (by lia)).trans W hlast
theorem asc_ok {c : Nat → Nat → Bool} (W : Weak c) {n : Nat} {p : Array Nat} : ∀ (f m : Nat), 1 ≤ m → m + f = n → Arr n m p → Srt c m p →
    KOk c n (fun m' => m ≤ m' ∧ m' ≤ n ∧ Srt c m' p ∧ (m' < n → c (gD p m') (gD p (m' - 1)) = true)) (kas_asc p f m)
  | 0, m, h1, hf, A, S => ⟨Nat.le_refl _, by lia, S, fun h => by lia⟩
  | f + 1, m, h1, hf, A, S => by
    refine ⟨A.all _ (by lia), A.all _ (by lia), ?_⟩
    show KOk c n _ (if c (gD p m) (gD p (m - 1)) = true then KasT.ret m else kas_asc p f (m + 1))
    cases h : c (gD p m) (gD p (m - 1)) with
    | true => rw [if_pos rfl]; exact ⟨Nat.le_refl _, by lia, S, fun _ => h⟩
    | false =>
      rw [if_neg (by decide)]
      exact (asc_ok W f (m + 1) (by lia) (by lia) (A.up (by lia) (by lia)) (S.up W A h1 (by lia) h)).mono fun m' h => ⟨by lia, h.2.1, h.2.2⟩
/-- a falling run: the last q + 1 things are alike -/
structure Dsc (c : Nat → Nat → Bool) (n m q : Nat) (p : Array Nat) : Prop where
  b : q + 1 ≤ m
  A : Arr n (m - (q + 1)) p
  mn : m ≤ n
  one : ∀ a a', a < a' → a' < m - (q + 1) → prec c (gD p a') (gD p a)
  two : ∀ a a', a < m - (q + 1) → m - (q + 1) ≤ a' → a' < m → c a' (gD p a) = true
  three : ∀ a a', m - (q + 1) ≤ a → a < m → m - (q + 1) ≤ a' → a' < m → c a a' = false
theorem Dsc.rev {c : Nat → Nat → Bool} (W : Weak c) {n m q : Nat} {p : Array Nat} (D : Dsc c n m q p) : Arr n m (kas_rev p (m - (q + 1)) m) ∧ ∀ a a', a < a' → a' < m → prec c (gD (kas_rev p (m - (q + 1)) m) a') (gD (kas_rev p (m - (q + 1)) m) a) := by
  have hz := D.A.size
  have hb := D.b
  have hmn := D.mn
  have g := gD_rev (p := p) (i := m - (q + 1)) (j := m) (by lia)
  have fx : ∀ k, m - (q + 1) ≤ k → k < m → gD (kas_rev p (m - (q + 1)) m) k = m - (q + 1) + m - 1 - k := fun k h1 h2 => by
    rw [g, if_pos ⟨h1, h2⟩, D.A.fix _ (by lia) (by lia)]
  refine ⟨⟨by rw [kas_rev_size]; exact hz, hmn, fun k h1 h2 => by rw [g, if_neg (by lia), D.A.fix _ (by lia) h2], fun k h => ?_⟩, fun a a' h1 h2 => ?_⟩
  · by_cases q2 : m - (q + 1) ≤ k
    · rw [fx k q2 h]; lia
    · rw [g, if_neg (by lia)]; have := D.A.lt k (by lia); lia
  · by_cases q2 : a' < m - (q + 1)
    · rw [g, g, if_neg (by lia), if_neg (by lia)]; exact D.one a a' h1 q2
    · rw [fx a' (by lia) h2]
      by_cases q3 : a < m - (q + 1)
      · rw [g, if_neg (by lia)]
        have := D.two a (m - (q + 1) + m - 1 - a') q3 (by lia) (by lia)
        exact ⟨W.asym _ _ this, .inl this⟩
      · rw [fx a (by lia) (by lia)]
        exact ⟨D.three _ _ (by lia) (by lia) (by lia) (by lia), .inr (by lia)⟩
theorem Dsc.none {c : Nat → Nat → Bool} (W : Weak c) {n m : Nat} {p : Array Nat} (D : Dsc c n m 0 p) : Arr n m p ∧ ∀ a a', a < a' → a' < m → prec c (gD p a') (gD p a) := by
  have hz := D.A.size
  have hb := D.b
  have hmn := D.mn
  refine ⟨D.A.up (by lia) hmn, fun a a' h1 h2 => ?_⟩
  by_cases q2 : a' < m - (0 + 1)
  · exact D.one a a' h1 q2
  · have := D.two a a' (by lia) (by lia) h2
    rw [D.A.fix a' (by lia) (by lia)]
    exact ⟨W.asym _ _ this, .inl this⟩
theorem Dsc.next {c : Nat → Nat → Bool} (W : Weak c) {n m : Nat} {p : Array Nat} (A : Arr n m p) (R : ∀ a a', a < a' → a' < m → prec c (gD p a') (gD p a)) (hn : m < n) (h : ∀ a, a < m → c m (gD p a) = true) : Dsc c n (m + 1) 0 p :=
  ⟨by lia, by simpa using A, by lia, fun a a' h1 h2 => R a a' h1 (by lia), fun a a' h1 h2 h3 => by
    have : a' = m := by lia
    subst this; exact h a (by lia), fun a a' h1 h2 h3 h4 => by
    have e1 : a = m := by lia
    have e2 : a' = m := by lia
    subst e1; subst e2; exact W.irr _⟩
theorem desc_ok {c : Nat → Nat → Bool} (W : Weak c) {n : Nat} : ∀ (f : Nat) (p : Array Nat) (m q : Nat), m + f = n → Dsc c n m q p →
    KOk c n (fun r => Dsc c n r.2.1 r.2.2 r.1) (kas_desc f p m q)
  | 0, p, m, q, hf, D => D
  | f + 1, p, m, q, hf, D => by
    have hb := D.b
    have hmn := D.mn
    have e1 : gD p m = m := D.A.fix m (by lia) (by lia)
    have e2 : gD p (m - 1) = m - 1 := D.A.fix (m - 1) (by lia) (by lia)
    refine ⟨by show gD p m < n; lia, by show gD p (m - 1) < n; lia, ?_⟩
    show KOk c n _ (if c (gD p m) (gD p (m - 1)) = true then (if q > 0 then kas_desc f (kas_rev p (m - (q + 1)) m) (m + 1) 0 else kas_desc f p (m + 1) 0)
      else KasT.ask (gD p (m - 1)) (gD p m) fun d => if d = true then .ret (p, m, q) else kas_desc f p (m + 1) (q + 1))
    rw [e1, e2]
    cases h : c m (m - 1) with
    | true =>
      rw [if_pos rfl]
      have hall : ∀ a, m - (q + 1) ≤ a → a < m → c m a = true := fun a h1 h2 => W.tl h (D.three a (m - 1) h1 h2 (by lia) (by lia))
      have hlow : ∀ a, a < m - (q + 1) → c m (gD p a) = true := fun a h1 => W.tl h (W.asym _ _ (D.two a (m - 1) h1 (by lia) (by lia)))
      by_cases hq : q > 0
      · rw [if_pos hq]
        obtain ⟨A', R'⟩ := D.rev W
        refine desc_ok W f _ (m + 1) 0 (by lia) (Dsc.next W A' R' (by lia) fun a ha => ?_)
        rw [gD_rev (by have := D.A.size; lia)]
        split
        · rw [D.A.fix _ (by lia) (by lia)]; exact hall _ (by lia) (by lia)
        · exact hlow a (by lia)
      · rw [if_neg hq]
        have : q = 0 := by lia
        subst this
        obtain ⟨A', R'⟩ := D.none W
        refine desc_ok W f _ (m + 1) 0 (by lia) (Dsc.next W A' R' (by lia) fun a ha => ?_)
        by_cases q2 : a < m - (0 + 1)
        · exact hlow a q2
        · rw [D.A.fix a (by lia) (by lia)]; exact hall a (by lia) ha
    | false =>
      rw [if_neg (by decide)]
      refine ⟨by lia, by lia, ?_⟩
      cases h2 : c (m - 1) m with
      | true => show KOk c n _ (if true = true then _ else _); rw [if_pos rfl]; exact D
      | false =>
        show KOk c n _ (if false = true then _ else _)
        rw [if_neg (by decide)]
        have eb : m + 1 - (q + 1 + 1) = m - (q + 1) := by lia
        refine desc_ok W f _ (m + 1) (q + 1) (by lia) ⟨by lia, by rw [eb]; exact D.A, by lia, by rw [eb]; exact D.one, ?_, ?_⟩
        · rw [eb]; intro a a' h1 h3 h4
          by_cases q2 : a' < m
          · exact D.two a a' h1 h3 q2
          · have : a' = m := by lia
            subst this
            exact W.tr h2 (D.two a (a' - 1) h1 (by lia) (by lia))
        · rw [eb]
          have key : ∀ a, m - (q + 1) ≤ a → a < m → c a m = false ∧ c m a = false := fun a h1 h3 =>
            ⟨W.nt m (m - 1) a h2 (D.three a (m - 1) h1 h3 (by lia) (by lia)), W.nt a (m - 1) m (D.three (m - 1) a (by lia) (by lia) h1 h3) h⟩
          intro a a' h1 h3 h4 h5
          by_cases qa : a < m
          · by_cases qb : a' < m
            · exact D.three a a' h1 qa h4 qb
            · have : a' = m := by lia
              subst this; exact (key a h1 qa).1
          · have : a = m := by lia
            subst this
            by_cases qb : a' < a
            · exact (key a' h4 qb).2
            · have : a' = a := by lia
              subst this; exact W.irr _
theorem tail_ok {c : Nat → Nat → Bool} (W : Weak c) {n m : Nat} {p : Array Nat} (hm : 1 ≤ m) (A : Arr n m p) (R : ∀ a a', a < a' → a' < m → prec c (gD p a') (gD p a)) :
    KOk c n (fun r => 1 ≤ r.1 ∧ Arr n r.1 r.2 ∧ Srt c r.1 r.2) (kas_tail3 m n p) := by
  have hz := A.size
  have hle := A.le
  have g := gD_rev (p := p) (i := 0) (j := m) (by lia)
  have A' : Arr n m (kas_rev p 0 m) := ⟨by rw [kas_rev_size]; exact hz, hle, fun k h1 h2 => by rw [g, if_neg (by lia)]; exact A.fix k h1 h2, fun k h => by rw [g, if_pos ⟨by lia, h⟩]; exact A.lt _ (by lia)⟩
  have S' : Srt c m (kas_rev p 0 m) := fun a b h1 h2 => by
    rw [g, g, if_pos ⟨by lia, by lia⟩, if_pos ⟨by lia, by lia⟩]; exact R _ _ (by lia) (by lia)
  exact KOk.bind ((asc_ok W (n - m) m hm (by lia) A' S').mono fun m' h => ⟨by lia, A'.up h.1 h.2.1, h.2.2.1⟩)
theorem descPart_ok {c : Nat → Nat → Bool} (W : Weak c) {n m : Nat} {p : Array Nat} (hm : 1 ≤ m) (D : Dsc c n (m + 1) 0 p) :
    KOk c n (fun r => 1 ≤ r.1 ∧ Arr n r.1 r.2 ∧ Srt c r.1 r.2) (kas_descPart m n p) := by
  have hmn := D.mn
  refine KOk.bind ((desc_ok W (n - (m + 1)) p (m + 1) 0 (by lia) D).mono fun r D' => ?_)
  have hb := D'.b
  by_cases hq : r.2.2 > 0
  · rw [if_pos hq]
    obtain ⟨A', R'⟩ := D'.rev W
    exact tail_ok W (by lia) A' R'
  · rw [if_neg hq]
    have e : r.2.2 = 0 := by lia
    rw [e] at D'
    obtain ⟨A', R'⟩ := D'.none W
    exact tail_ok W (by lia) A' R'
theorem range_arr (n m : Nat) (h : m ≤ n) : Arr n m (List.toArray (List.range n)) := ⟨by simp, h, fun k _ h2 => gD_range n k h2, fun k h2 => by rw [gD_range n k (by lia)]; exact h2⟩
theorem count_ok {c : Nat → Nat → Bool} (W : Weak c) {n : Nat} (hn : 2 ≤ n) : KOk c n (fun r => 1 ≤ r.1 ∧ Arr n r.1 r.2 ∧ Srt c r.1 r.2) (kas_count n (List.toArray (List.range n))) := by
  refine KOk.bind ((asc_ok W (n - 1) 1 (Nat.le_refl _) (by lia) (range_arr n 1 (by lia)) (fun a b h1 h2 => by lia)).mono fun m h => ?_)
  obtain ⟨h1, h2, S, h3⟩ := h
  by_cases e : (m == n) = true
  · rw [if_pos e]; exact ⟨h1, range_arr n m h2, S⟩
  rw [if_neg e]
  have e : m ≠ n := by simpa using e
  have h3 := h3 (by lia)
  rw [gD_range n m (by lia), gD_range n (m - 1) (by lia)] at h3
  by_cases h4 : m > 1
  · rw [if_pos h4]
    have g0 := gD_range n 0 (by lia)
    have g1 := gD_range n (m - 1) (by lia)
    refine ⟨by show gD _ 0 < n; lia, by show gD _ (m - 1) < n; lia, ?_⟩
    show KOk c n _ (if c (gD (List.toArray (List.range n)) 0) (gD (List.toArray (List.range n)) (m - 1)) = true then KasT.ret (m, List.toArray (List.range n)) else kas_descPart m n (kas_rev (List.toArray (List.range n)) 0 m))
    rw [g0, g1]
    cases h5 : c 0 (m - 1) with
    | true => rw [if_pos rfl]; exact ⟨h1, range_arr n m h2, S⟩
    | false =>
      rw [if_neg (by decide)]
      have le1 : ∀ a b, a ≤ b → b < m → c b a = false := fun a b ha hb => by
        by_cases q : a = b
        · subst q; exact W.irr _
        · have := (S a b (by lia) hb).1
          rwa [gD_range n a (by lia), gD_range n b (by lia)] at this
      have eq : ∀ a b, a < m → b < m → c a b = false := fun a b ha hb => W.nt b (m - 1) a (le1 b (m - 1) (by lia) (by lia)) (W.nt (m - 1) 0 a h5 (le1 0 a (by lia) ha))
      have g := gD_rev (p := List.toArray (List.range n)) (i := 0) (j := m) (by simp; lia)
      have gk : ∀ k, k < m → gD (kas_rev (List.toArray (List.range n)) 0 m) k = m - 1 - k := fun k hk => by rw [g, if_pos ⟨by lia, hk⟩, gD_range _ _ (by lia)]; lia
      refine descPart_ok W h1 (Dsc.next W ⟨by rw [kas_rev_size]; simp, h2, fun k a b => by rw [g, if_neg (by lia), gD_range _ _ b], fun k a => by rw [gk k a]; lia⟩ (fun a a' ha hb => ?_) (by lia) fun a ha => ?_)
      · rw [gk a (by lia), gk a' hb]
        exact ⟨eq _ _ (by lia) (by lia), .inr (by lia)⟩
      · rw [gk a ha]; exact W.tl h3 (eq _ _ (by lia) (by lia))
  · rw [if_neg h4]
    have : m = 1 := by lia
    subst this
    exact descPart_ok W (Nat.le_refl _) (Dsc.next W (range_arr n 1 (by lia)) (fun a a' h1 h2 => by lia) (by lia) fun a ha => by
      have : a = 0 := by lia
      subst this
      rw [gD_range n 0 (by lia)]; exact h3)
theorem place_ok {c : Nat → Nat → Bool} (W : Weak c) {n k : Nat} {p : Array Nat} (A : Arr n k p) (hk : k < n) (S : Srt c k p) : ∀ (f l r : Nat), r ≤ l + f → l ≤ r → r ≤ k → (∀ a, a < l → c k (gD p a) = false) → (∀ a, r ≤ a → a < k → c k (gD p a) = true) →
    KOk c n (fun l => l ≤ k ∧ (∀ a, a < l → c k (gD p a) = false) ∧ (∀ a, l ≤ a → a < k → c k (gD p a) = true)) (kas_place p k f l r)
  | 0, l, r, hf, h1, h2, hl, hr => ⟨by lia, hl, fun a h3 h4 => hr a (by lia) h4⟩
  | f + 1, l, r, hf, h1, h2, hl, hr => by
    show KOk c n _ (if l ≥ r then KasT.ret l else .ask (gD p k) (gD p ((l + r) / 2)) fun c => if c = true then kas_place p k f l ((l + r) / 2) else kas_place p k f ((l + r) / 2 + 1) r)
    by_cases q : l ≥ r
    · rw [if_pos q]; exact ⟨by lia, hl, fun a h3 h4 => hr a (by lia) h4⟩
    · rw [if_neg q]
      have e : gD p k = k := A.fix k (Nat.le_refl _) hk
      have hmid : (l + r) / 2 < k := by lia
      rw [e]
      refine ⟨hk, A.all _ (by lia), ?_⟩
      cases h : c k (gD p ((l + r) / 2)) with
      | true =>
        show KOk c n _ (if true = true then _ else _)
        rw [if_pos rfl]
        refine place_ok W A hk S f l ((l + r) / 2) (by lia) (by lia) (by lia) hl fun a h3 h4 => ?_
        by_cases q2 : a = (l + r) / 2
        · subst q2; exact h
        · exact W.tl h (S _ a (by lia) h4).1
      | false =>
        show KOk c n _ (if false = true then _ else _)
        rw [if_neg (by decide)]
        refine place_ok W A hk S f ((l + r) / 2 + 1) r (by lia) (by lia) h2 (fun a h3 => ?_) hr
        by_cases q2 : a = (l + r) / 2
        · subst q2; exact h
        · exact W.nt _ _ _ (S a ((l + r) / 2) (by lia) hmid).1 h
theorem bin_ok {c : Nat → Nat → Bool} (W : Weak c) {n : Nat} : ∀ (f k : Nat) (p : Array Nat), 1 ≤ k → k + f = n → Arr n k p → Srt c k p → KOk c n (fun p => Arr n n p ∧ Srt c n p) (kas_bin f p k)
  | 0, k, p, h1, hf, A, S => by
    have : k = n := by lia
    subst this; exact ⟨A, S⟩
  | f + 1, k, p, h1, hf, A, S => by
    refine KOk.bind ((place_ok W A (by lia) S k 0 k (by lia) (by lia) (by lia) (fun a h => by lia) (fun a h h' => by lia)).mono fun l h => ?_)
    obtain ⟨hl, h2, h3⟩ := h
    have hz := A.size
    have g := gD_bub (p := p) (k := k) (l := l) (by lia) hl
    have e : gD p k = k := A.fix k (Nat.le_refl _) (by lia)
    refine bin_ok W f (k + 1) _ (by lia) (by lia) ⟨by rw [bubble_size]; exact hz, by lia, fun m a b => ?_, fun m a => ?_⟩ (fun a b hab hb => ?_)
    · rw [g, if_neg (by lia), if_neg (by lia)]; exact A.fix m (by lia) b
    · rw [g]
      repeat' split
      · lia
      · have := A.lt (m - 1) (by lia); lia
      · have := A.lt m (by lia); lia
    · have up : ∀ m, m < l → prec c (gD p m) k := fun m hm => ⟨h2 m hm, .inr (A.lt m (by lia))⟩
      have dn : ∀ m, l ≤ m → m < k → prec c k (gD p m) := fun m h4 h5 => ⟨W.asym _ _ (h3 m h4 h5), .inl (h3 m h4 h5)⟩
      rw [g a, g b, e]
      by_cases ha : a = l
      · rw [if_pos ha, if_neg (by lia), if_pos (by lia)]; exact dn _ (by lia) (by lia)
      · rw [if_neg ha]
        by_cases hb2 : b = l
        · rw [if_neg (by lia), if_pos hb2]; exact up a (by lia)
        · rw [if_neg hb2]
          by_cases ha2 : l < a ∧ a ≤ k
          · rw [if_pos ha2, if_pos (by lia)]; exact S _ _ (by lia) (by lia)
          · rw [if_neg ha2]
            by_cases hb3 : l < b ∧ b ≤ k
            · rw [if_pos hb3]; exact S _ _ (by lia) (by lia)
            · rw [if_neg hb3]; exact S _ _ hab (by lia)
theorem sort_ok {c : Nat → Nat → Bool} (W : Weak c) {n : Nat} (hn : 2 ≤ n) : KOk c n (fun p => Arr n n p ∧ Srt c n p) (kas_sort n) := by
  refine KOk.bind ((count_ok W hn).mono fun r h => ?_)
  obtain ⟨h1, A, S⟩ := h
  have hle := A.le
  by_cases q : r.1 < n
  · rw [if_pos q]
    have e : max r.1 1 = r.1 := by lia
    rw [e]
    exact bin_ok W (n - r.1) r.1 r.2 h1 (by lia) A S
  · rw [if_neg q]
    have e : r.1 = n := by lia
    rw [e] at A S
    exact ⟨A, S⟩
end Mine
end
section
open PySem PySem.W PyProof.Rows PySem.Calls
set_option Elab.async false
set_option maxRecDepth 100000
set_option linter.unusedVariables false
set_option linter.unusedSimpArgs false
namespace Mine
/-! ## the order of lists of small things -/
theorem at_lt_asym {a b : At} (h : At.lt a b = true) : At.lt b a = false := by
  cases a <;> cases b <;> simp [At.lt] at h ⊢
  · lia
  · exact List.le_of_lt h
theorem at_lt_tri {a b : At} (hk : At.kin a b = true) (h1 : At.lt a b = false) (h2 : At.lt b a = false) : a = b := by
  cases a <;> cases b <;> simp [At.lt, At.kin] at h1 h2 hk ⊢
  · lia
  · exact List.le_antisymm h2 h1
theorem at_lt_irr (a : At) : At.lt a a = false := by
  cases a <;> simp [At.lt]
theorem at_lt_trans {a b c : At} (h1 : At.lt a b = true) (h2 : At.lt b c = true) : At.lt a c = true := by
  cases a <;> cases b <;> cases c <;> simp [At.lt] at h1 h2 ⊢
  · lia
  · exact List.lt_trans h1 h2
theorem kin_symm (a b : At) : At.kin a b = At.kin b a := by cases a <;> cases b <;> rfl
theorem Kin_symm : ∀ (as bs : List At), Kin as bs = Kin bs as
  | [], [] => rfl
  | [], _ :: _ => rfl
  | _ :: _, [] => rfl
  | a :: as, b :: bs => by simp [Kin, kin_symm a b, Kin_symm as bs]
theorem ltL_irr : ∀ as : List At, ltL as as = false
  | [] => rfl
  | a :: as => by simp [ltL, ltL_irr as]
theorem ltL_asym : ∀ as bs : List At, ltL as bs = true → ltL bs as = false
  | [], [], h => by cases h
  | [], _ :: _, _ => rfl
  | _ :: _, [], h => by cases h
  | a :: as, b :: bs, h => by
    simp only [ltL] at h ⊢
    by_cases e : a = b
    · rw [if_pos e] at h; rw [if_pos e.symm]; exact ltL_asym as bs h
    · rw [if_neg e] at h; rw [if_neg (fun q => e q.symm)]; exact at_lt_asym h
theorem ltL_tri : ∀ as bs : List At, Kin as bs = true → ltL as bs = false → ltL bs as = false → as = bs
  | [], [], _, _, _ => rfl
  | [], _ :: _, _, h, _ => by cases h
  | _ :: _, [], _, _, h => by cases h
  | a :: as, b :: bs, hk, h1, h2 => by
    simp only [Kin, Bool.and_eq_true] at hk
    simp only [ltL] at h1 h2
    by_cases e : a = b
    · rw [if_pos e] at h1; rw [if_pos e.symm] at h2; rw [e, ltL_tri as bs hk.2 h1 h2]
    · rw [if_neg e] at h1; rw [if_neg (fun q => e q.symm)] at h2; exact absurd (at_lt_tri hk.1 h1 h2) e
theorem ltL_trans : ∀ as bs cs : List At, ltL as bs = true → ltL bs cs = true → ltL as cs = true
  | [], _, [], h1, h2 => by rename_i b; cases b <;> simp [ltL] at h1 h2
  | [], _, _ :: _, _, _ => rfl
  | _ :: _, [], _, h1, _ => by cases h1
  | _ :: _, _ :: _, [], _, h2 => by cases h2
  | a :: as, b :: bs, c :: cs, h1, h2 => by
    simp only [ltL] at h1 h2 ⊢
    by_cases e : a = b
    · subst e
      rw [if_pos rfl] at h1
      by_cases e2 : a = c
      · rw [if_pos e2] at h2 ⊢; exact ltL_trans as bs cs h1 h2
      · rw [if_neg e2] at h2 ⊢; exact h2
    · rw [if_neg e] at h1
      by_cases e2 : b = c
      · subst e2; rw [if_neg e]; exact h1
      · rw [if_neg e2] at h2
        have := at_lt_trans h1 h2
        by_cases e3 : a = c
        · subst e3; rw [at_lt_irr] at this; cases this
        · rw [if_neg e3]; exact this
theorem ltL_nt (as bs cs : List At) (k1 : Kin as bs = true) (k2 : Kin bs cs = true) (h1 : ltL bs as = false) (h2 : ltL cs bs = false) : ltL cs as = false := by
  cases h : ltL cs as with
  | false => rfl
  | true =>
    exfalso
    cases h3 : ltL as bs with
    | true => have := ltL_trans _ _ _ h h3; rw [h2] at this; cases this
    | false =>
      have := ltL_tri as bs k1 h3 h1
      subst this
      rw [h2] at h; cases h
def cmpOf (ks : List (List At)) (i j : Nat) : Bool := ltL (ks.getD i []) (ks.getD j [])
theorem weak_cmp (ks : List (List At)) (hk : ∀ i j, Kin (ks.getD i []) (ks.getD j []) = true) : Weak (cmpOf ks) :=
  ⟨fun i j h => ltL_asym _ _ h, fun i j k h1 h2 => ltL_nt _ _ _ (hk _ _) (hk _ _) h1 h2⟩
/-- all the new objects of a heap -/
noncomputable def allNews (h₀ h : Heap) (L : Addr) : List (Addr × Obj) := (List.range h.objs.size).filterMap fun b => if b = L ∨ (h₀.get? b).isSome then none else (h.get? b).map fun o => (b, o)
theorem mem_allNews {h₀ h : Heap} {L b : Addr} {o : Obj} : (b, o) ∈ allNews h₀ h L ↔ b ≠ L ∧ h₀.get? b = none ∧ h.get? b = some o := by
  unfold allNews
  rw [List.mem_filterMap]
  constructor
  · rintro ⟨a, ha, e⟩
    split at e
    · cases e
    · rename_i q
      simp only [not_or] at q
      cases e2 : h.get? a with
      | none => rw [e2] at e; cases e
      | some o' =>
        rw [e2] at e
        simp only [Option.map_some, Option.some.injEq, Prod.mk.injEq] at e
        obtain ⟨rfl, rfl⟩ := e
        exact ⟨q.1, by simpa using q.2, e2⟩
  · rintro ⟨h1, h2, h3⟩
    refine ⟨b, List.mem_range.mpr (Heap.lt_size h3), ?_⟩
    rw [if_neg (by rw [h2]; simpa using h1), h3]
    rfl
theorem allNews_ok (h₀ h : Heap) (L : Addr) : News h₀ L h (allNews h₀ h L) := fun p hp => by
  obtain ⟨b, o⟩ := p
  obtain ⟨h1, h2, h3⟩ := mem_allNews.mp hp
  exact ⟨h3, h1, h2⟩
theorem kept_of_news {h₀ h h' : Heap} {L : Addr} {m m' : Str → Option Value} (F : Fr h₀ L h m) (F' : Fr h₀ L h' m') (N : ∀ p ∈ allNews h₀ h L, h'.get? p.1 = some p.2) : Kept [L] h h' := by
  intro b o hb e
  have hb : b ≠ L := by simpa using hb
  cases e0 : h₀.get? b with
  | none => exact N _ (mem_allNews.mpr ⟨hb, e0, e⟩)
  | some o' =>
    have := F.keep b o' e0
    rw [e] at this
    cases this
    exact F'.keep b o e0
section
variable {prog : Program} {w : World} {A : Around} {h : Heap} {env : Env}
theorem oneLt_list {l b : Addr} {as bs : List At} {E : Value → Shared → Prop} {Q : Bool → Shared → Prop} {s : Shared} (hl : LA s.heap l as) (hb : LA s.heap b bs) (hk : Kin as bs = true) (hu : A.units < cLine) (k : Q (ltL as bs) s) : wpAny (model prog w) A (oneLt' true (.ref l) (.ref b)) Q E s := by
  obtain ⟨xs, ⟨n, e1⟩, hx⟩ := hl
  obtain ⟨ys, ⟨n2, e2⟩, hy⟩ := hb
  rw [oneLt'_eq]
  simp only [if_true]
  refine wpAny_bind (wpAny_cRoomFor hu ?_)
  refine wpAny_bind (wpAny_callSpecialIfBound?_slot (name := "__lt__") (T := "list") ⟨_, e1, rfl⟩ F.slot_list_lt (call_meets F.slot_list_lt ⟨_, e1, rfl⟩ F.entry_list_lt (F.args_list_lt_2 _ _) (list_ltAt l b xs ys n n2 as bs hx hy hk) ⟨e1, e2, ?_⟩))
  exact wpAny_truthy_bool k

/-- what a sort by an order gives: a stable rearrangement -/
structure Sorted (c : Nat → Nat → Bool) (n : Nat) (p : List Nat) : Prop where
  len : p.length = n
  lt : ∀ i ∈ p, i < n
  srt : p.Pairwise (prec c)
theorem sorted_of {c : Nat → Nat → Bool} {n : Nat} {p : Array Nat} (A : Arr n n p) (S : Srt c n p) : Sorted c n p.toList := by
  have hz := A.size
  refine ⟨by simpa using hz, fun i hi => ?_, ?_⟩
  · obtain ⟨k, hk, rfl⟩ := List.getElem_of_mem hi
    have : gD p k = p.toList[k] := by simp at hk; simp [gD, Array.getD_eq_getD_getElem?, hk]
    rw [← this]
    exact A.lt k (by simp at hk; lia)
  · rw [List.pairwise_iff_getElem]
    intro i j hi hj hij
    have e1 : gD p i = p.toList[i] := by simp at hi; simp [gD, Array.getD_eq_getD_getElem?, hi]
    have e2 : gD p j = p.toList[j] := by simp at hj; simp [gD, Array.getD_eq_getD_getElem?, hj]
    rw [← e1, ← e2]
    exact S i j hij (by simp at hj; lia)
theorem cmp_list {n : Nat} {ks : List Value} {kas : List (List At)} (hkl : kas.length = n) (hks : ∀ i (h : i < kas.length), ∃ a, ks[i]? = some (.ref a) ∧ LA h' a kas[i]) (hkin : ∀ x ∈ kas, ∀ y ∈ kas, Kin x y = true) (hu : A.units < cLine)
    {i j : Nat} {C : Bool → Shared → Prop} {s : Shared} (hi : i < n) (hj : j < n) (hs : Ext h' s.heap) (hC : C (cmpOf kas i j) s) : kas_ask prog w A oneType' ks i j C s := by
  unfold kas_ask
  obtain ⟨a, e1, l1⟩ := hks i (by lia)
  obtain ⟨b, e2, l2⟩ := hks j (by lia)
  rw [show ks.getD i Value.none = .ref a by simp [List.getD_eq_getElem?_getD, e1], show ks.getD j Value.none = .ref b by simp [List.getD_eq_getElem?_getD, e2], keyLt'_oneType]
  refine oneLt_list (l1.ext hs) (l2.ext hs) (hkin _ (List.getElem_mem _) _ (List.getElem_mem _)) hu ?_
  have e3 : cmpOf kas i j = ltL kas[i] kas[j] := by simp [cmpOf, List.getD_eq_getElem?_getD, hkl, hi, hj]
  rw [← e3]; exact hC
theorem kin_getD {kas : List (List At)} (hkin : ∀ x ∈ kas, ∀ y ∈ kas, Kin x y = true) (i j : Nat) : Kin (kas.getD i []) (kas.getD j []) = true := by
  have nl : ∀ x : List At, Kin [] x = true := fun x => rfl
  have nr : ∀ x : List At, Kin x [] = true := fun x => by cases x <;> rfl
  by_cases hi : i < kas.length
  · by_cases hj : j < kas.length
    · simp only [List.getD_eq_getElem?_getD, List.getElem?_eq_getElem hi, List.getElem?_eq_getElem hj, Option.getD_some]
      exact hkin _ (List.getElem_mem _) _ (List.getElem_mem _)
    · rw [show kas.getD j [] = [] by simp [List.getD_eq_getElem?_getD, List.getElem?_eq_none (Nat.le_of_not_lt hj)]]; exact nr _
  · rw [show kas.getD i [] = [] by simp [List.getD_eq_getElem?_getD, List.getElem?_eq_none (Nat.le_of_not_lt hi)]]; exact nl _
theorem lookList {h : Heap} {a : Addr} {vs : List Value} (l : Ls h a vs) : Looks (model prog w) h (typeOf (.ref a)) (.type "list") := by
  obtain ⟨n, e⟩ := l
  exact kitAt_ty _ _ ⟨_, e, rfl⟩
theorem getD_ref {ks : List Value} {i : Nat} {v : Value} (h : ks[i]? = some v) : ks.getD i Value.none = v := by simp [List.getD_eq_getElem?_getD, h]
theorem IsListOf.mk {h : Heap} {a : Addr} {vs : List Value} {n : Nat} (e : h.get? a = some (listOf vs.toArray n)) : h.IsList a vs.toArray := ⟨_, e, rfl, n, rfl⟩
theorem katKeys {base : Heap} {L q D kS : Addr} {m : Str → Option Value} {vs ks : List Value} {n : Nat} {h0 : Heap} {e1 : Nat} {news : List (Addr × Obj)} {Fin : List Value → Nat → Shared → Prop} {Inv : Shared → Prop}
    (ok : OkA n A) (hkey : ∀ (i : Nat) (v kv : Value), vs[i]? = some v → ks[i]? = some kv → KeyIs n prog w h0 (.ref q) v kv) (hkl : ks.length = vs.length)
    (hext : ∀ h' o, Fr base L h' m → News base L h' ((kS, o) :: (D, seqObj "list" #[] e1) :: news) → Ext h0 h') (hD : ∀ p ∈ (D, seqObj "list" #[] e1) :: news, p.1 ≠ kS)
    (hinv : ∀ s s' : Shared, Inv s → s'.os = s.os → s'.gens = s.gens → Inv s')
    (fin : ∀ e s, Inv s → Fr base L s.heap m → News base L s.heap ((kS, seqObj "list" ks.toArray e) :: (D, seqObj "list" #[] e1) :: news) → Fin ks e s) :
    ∀ (r : List Value) (j e : Nat) (s : Shared), vs.drop j = r → j ≤ vs.length → Inv s → Fr base L s.heap m → News base L s.heap ((kS, seqObj "list" (ks.take j).toArray e) :: (D, seqObj "list" #[] e1) :: news) → KatKeys prog w A base L m kS (.ref q) Fin r (ks.take j) e s
  | [], j, e, s, hr, hj, iv, F, N => by
    have : ks.take j = ks := List.take_of_length_le (by have := congrArg List.length hr; simp at this; lia)
    rw [this] at N ⊢
    exact fin e s iv F N
  | v :: r, j, e, s, hr, hj, iv, F, N => by
    have hlt : j < vs.length := by have := congrArg List.length hr; simp at this; lia
    have hv : vs[j]? = some v := by have := congrArg (fun l => l[0]?) hr; simpa using this
    have hr' : vs.drop (j + 1) = r := by rw [← List.drop_drop, hr]; rfl
    have hk : ks[j]? = some ks[j] := by simp
    have htk : ks.take (j + 1) = ks.take j ++ [ks[j]] := by rw [List.take_add_one, hk]; rfl
    refine KatKeys.cons (Wp.run (hkey j v ks[j] hv hk A s.heap (fun u h' => u = ks[j] ∧ Ext s.heap h') ok (hext _ _ F N) (fun h' e' => ⟨rfl, e'⟩)) (fun u s' o g y => ?_))
    obtain ⟨rfl, ex⟩ := y
    have N' := N.grown (h' := s'.heap) ex
    refine KatBack.intro (F.kept ex) N' (.head hD) (fun h' c F2 N2 => ?_)
    rw [← htk] at N2 ⊢
    exact katKeys ok hkey hkl hext hD hinv fin r (j + 1) c _ hr' hlt (hinv s _ iv o g) F2 N2
/-- sorted(l, key=f): the keys are lists of small things -/
theorem w_sortedK {base : Heap} {L l q : Addr} {m : Str → Option Value} {vs ks : List Value} {kas : List (List At)} {n : Nat} {Q : Value → Heap → Prop} (F : Fr base L h m) (hl : h.IsList l vs.toArray) (h2 : 2 ≤ vs.length) (h64 : vs.length < 64)
    (ok : OkA n A.in1.in1) (hkey : ∀ (i : Nat) (v kv : Value), vs[i]? = some v → ks[i]? = some kv → KeyIs n prog w (hideAll h [L]) (.ref q) v kv) (hkl : ks.length = vs.length)
    (hks : ∀ i (x : i < kas.length), ∃ a, ks[i]? = some (.ref a) ∧ a ≠ L ∧ LA h a kas[i]) (hl2 : kas.length = vs.length) (hkin : ∀ x ∈ kas, ∀ y ∈ kas, Kin x y = true) (hu : A.units + 64 < cLine)
    (k : ∀ D p h', Sorted (cmpOf kas) vs.length p → h.get? D = none → base.get? D = none → D ≠ L → Fr base L h' m → Kept [L] h h' → h'.IsList D (p.map fun i => vs.getD i Value.none).toArray → Q (.ref D) h') :
    Wp (model prog w) A (call (.builtin "sorted") [.ref l] [(Str.ofString "key", .ref q)]) Q h := by
  intro s hs
  subst hs
  refine kat_sortedK (news := allNews base s.heap L) (b := false) F (allNews_ok _ _ _) hl h2 h64 (ksk_s1 _ _) (fun x => ksk_l1 _ _) (fun x => rfl) (fun D kS e1 h' F' N' hDk hD => ?_)
  have hDL : D ≠ L := (N' (D, seqObj "list" #[] e1) (List.mem_cons_of_mem _ (List.mem_cons_self ..))).2.1
  have hDb : base.get? D = none := (N' (D, seqObj "list" #[] e1) (List.mem_cons_of_mem _ (List.mem_cons_self ..))).2.2
  have hDn : s.heap.get? D = none := by
    cases e : s.heap.get? D with
    | none => rfl
    | some o => exact absurd (hD _ (mem_allNews.mpr ⟨hDL, hDb, e⟩)) (Nat.lt_irrefl _)
  have kp : ∀ {h' : Heap} {o o' : Obj}, Fr base L h' m → News base L h' ((kS, o) :: (D, o') :: allNews base s.heap L) → Kept [L] s.heap h' := fun F' N' => kept_of_news F F' fun p hp => (N' p (by simp [hp])).1
  have hidE : ∀ {h' : Heap}, Kept [L] s.heap h' → Ext (hideAll s.heap [L]) h' := fun kk b o e => by
    by_cases q : b ∈ [L]
    · rw [hideAll_none _ q] at e; cases e
    · exact kk b o q (of_hideAll _ e)
  have hne : ∀ p ∈ (D, seqObj "list" #[] e1) :: allNews base s.heap L, p.1 ≠ kS := fun p hp => by
    rcases List.mem_cons.mp hp with rfl | hp
    · exact Nat.ne_of_lt hDk
    · exact Nat.ne_of_lt (Nat.lt_trans (hD p hp) hDk)
  have hneD : ∀ p ∈ allNews base s.heap L, p.1 ≠ D := fun p hp => Nat.ne_of_lt (hD p hp)
  refine katKeys (h0 := hideAll s.heap [L]) (Inv := fun s' => s'.os = s.os ∧ s'.gens = s.gens) ok hkey hkl (fun h2 o F2 N2 => hidE (kp F2 N2)) hne (fun s1 s2 iv o g => ⟨o.trans iv.1, g.trans iv.2⟩) (fun e s1 iv F1 N1 => ?_) vs 0 0 _ (by simp) (Nat.zero_le _) ⟨rfl, rfl⟩ F' N'
  have k1 := kp F1 N1
  have hks1 : ∀ i (x : i < kas.length), ∃ a, ks[i]? = some (.ref a) ∧ LA s1.heap a kas[i] := fun i x => by
    obtain ⟨a, e1, e2, l1⟩ := hks i x
    exact ⟨a, e1, l1.kept k1 (by simpa using e2)⟩
  refine kas_kind (T := .type "list") (by lia) (fun v hv => ?_) (by decide) (by decide) ?_
  · obtain ⟨i, hi, rfl⟩ := List.getElem_of_mem hv
    obtain ⟨a, e1, vs', l1, _⟩ := hks1 i (by lia)
    have : ks[i] = .ref a := by simpa [hi] using e1
    rw [this]
    exact lookList l1
  refine KOk.wp (c := cmpOf kas) (n := vs.length) (P := fun p => Arr vs.length vs.length p ∧ Srt (cmpOf kas) vs.length p) (fun s' => s' = s1) (fun i j C s' hi hj hI hC => ?_) (fun p s' hp hI => ?_) (sort_ok (weak_cmp kas (kin_getD hkin)) h2) rfl
  · subst hI
    exact cmp_list (h' := s'.heap) hl2 hks1 hkin (show A.units + 1 + 1 < cLine by lia) hi hj (Ext.refl _) (hC s' rfl)
  · subst hI
    refine KatFin.intro F1 N1 (.head hne) (fun h3 c F3 N3 => ?_)
    have N3' : News base L h3 ((D, seqObj "list" #[] e1) :: (kS, seqObj "list" #[] c) :: allNews base s.heap L) := fun p hp => N3 p (by simp at hp ⊢; rcases hp with h | h | h <;> simp [h])
    refine KasFin.intro F3 N3' (.head (fun p hp => ?_)) (fun h4 c4 F4 N4 => ?_)
    · rcases List.mem_cons.mp hp with rfl | hp
      · exact Nat.ne_of_gt hDk
      · exact hneD p hp
    · refine ⟨iv, ?_⟩
      refine k D p.toList h4 (sorted_of hp.1 hp.2) hDn hDb hDL F4 (kept_of_news F F4 fun p hp => (N4 p (by simp [hp])).1) ?_
      exact IsListOf.mk (N4 (D, _) (List.mem_cons_self ..)).1
end
end Mine
end
section
open PySem PySem.W PyProof.Rows PySem.Calls
set_option Elab.async false
set_option maxRecDepth 100000
set_option linter.unusedVariables false
set_option linter.unusedSimpArgs false
namespace Mine
section
variable {prog : Program} {w : World} {A : Around} {h : Heap} {env : Env}
theorem w_addList {l b : Addr} {xs ys : List Value} {Q : Value → Heap → Prop} (hl : Ls h l xs) (hb : Ls h b ys) (hz : xs.length + ys.length ≤ sizeLine)
    (k : ∀ h', Ext h h' → Ls h' h.objs.size (xs ++ ys) → h'.objs.size = h.objs.size + 1 → Q (.ref h.objs.size) h') : Wp (model prog w) A (binaryOp .Add (.ref l) (.ref b)) Q h := fun s hs => by
  subst hs
  obtain ⟨n, e1⟩ := hl
  obtain ⟨n2, e2⟩ := hb
  refine P.add_list e1 e2 ⟨⟨rfl, rfl⟩, k _ (Ext.push _ _) ?_ (by simp)⟩ (by simpa using hz)
  have := Ls.new s.heap (xs ++ ys)
  simpa [lst] using this
theorem w_max2 {a b : Int} {t u : Tok} {Q : Value → Heap → Prop} (hh : A.handled = none) (k : ∀ h' t, Ext h h' → Q (.int (max a b) t) h') : Wp (model prog w) A (call (.builtin "max") [.int a t, .int b u]) Q h := fun s hs => by
  subst hs
  refine max_two_ints hh (fun h' tk hk => ⟨⟨rfl, rfl⟩, ?_⟩)
  split
  · rw [show b = max a b by lia]; exact k h' _ hk
  · have : a = max a b := by lia
    rw [this]; simpa using k h' t hk
theorem w_min2 {a b : Int} {t u : Tok} {Q : Value → Heap → Prop} (hh : A.handled = none) (k : ∀ h' t, Ext h h' → Q (.int (min a b) t) h') : Wp (model prog w) A (call (.builtin "min") [.int a t, .int b u]) Q h := fun s hs => by
  subst hs
  refine min_two_ints hh (fun h' tk hk => ⟨⟨rfl, rfl⟩, ?_⟩)
  split
  · have := k h' u hk; rw [show min a b = b by lia] at this; exact this
  · have := k h' t hk; rw [show min a b = a by lia] at this; exact this
theorem w_isSame {x y : Addr} {ox oy : Obj} {Q : Bool → Heap → Prop} (hx : h.get? x = some ox) (hy : h.get? y = some oy) (hc : ox.cls ≠ .type "tuple") (k : Q (decide (x = y)) h) : Wp (model prog w) A (isSame (.ref x) (.ref y)) Q h := by
  unfold isSame
  by_cases e : x = y
  · subst e
    simp only [beq_self_eq_true, if_true]
    rw [decide_eq_true rfl] at k
    exact w_pure k
  · rw [decide_eq_false e] at k
    have e2 : (x == y) = false := by simpa using e
    simp only [e2, Bool.false_eq_true, if_false]
    refine w_bind (w_load hx (w_bind (w_load hy ?_)))
    split
    · exact absurd (by assumption) hc
    · exact w_pure k
theorem w_isRef {x y : Addr} {ox oy : Obj} {Q : Value → Heap → Prop} (hx : h.get? x = some ox) (hy : h.get? y = some oy) (hc : ox.cls ≠ .type "tuple") (k : Q (.bool (decide (x = y))) h) : Wp (model prog w) A (compareOp .Is (.ref x) (.ref y)) Q h := by
  show Wp (model prog w) A (do return Value.bool (← isSame (.ref x) (.ref y))) Q h
  exact w_bind (w_isSame hx hy hc (w_pure k))
theorem w_isNotRef {x y : Addr} {ox oy : Obj} {Q : Value → Heap → Prop} (hx : h.get? x = some ox) (hy : h.get? y = some oy) (hc : ox.cls ≠ .type "tuple") (k : Q (.bool (!decide (x = y))) h) : Wp (model prog w) A (compareOp .IsNot (.ref x) (.ref y)) Q h := by
  show Wp (model prog w) A (do return Value.bool (!(← isSame (.ref x) (.ref y)))) Q h
  exact w_bind (w_isSame hx hy hc (w_pure k))
theorem w_isNotNone {v : Value} {Q : Value → Heap → Prop} (hv : v = .none) (k : Q (.bool false) h) : Wp (model prog w) A (compareOp .IsNot v .none) Q h := fun s hs => by
  subst hs; subst hv
  show wpAny (model prog w) A (do return Value.bool (!(← isSame .none .none))) _ _ _
  exact wpAny_bind (wpAny_of_eq (a := true) rfl (wpAny_pure ⟨⟨rfl, rfl⟩, k⟩))
/-! ## ints -/
theorem w_neInt {a b : Int} {t u : Tok} {Q : Value → Heap → Prop} (k : Q (.bool (!(a == b))) h) : Wp (model prog w) A (compareOp .NotEq (.int a t) (.int b u)) Q h := fun s hs => by subst hs; exact ne_int ⟨⟨rfl, rfl⟩, k⟩
theorem w_mulInt {a b : Int} {t u : Tok} {Q : Value → Heap → Prop} (ha : Builtin.Int.intBits a ≤ 64) (k : ∀ t, Q (.int (a * b) t) h) : Wp (model prog w) A (binaryOp .Mult (.int a t) (.int b u)) Q h := fun s hs => by
  subst hs; exact PyProof.Rows.mul_int ⟨⟨rfl, rfl⟩, k _⟩ (IntMulOk.of_left ha)
theorem w_neg {e : Expr} {pos : Pos} {Q : Value → Heap → Prop} (x : Wp (model prog w) A (eval e env) (fun v h' => ∃ i t, v = .int i t ∧ ∀ t, Q (.int (-i) t) h') h) : Wp (model prog w) A (eval (.UnaryOp .USub e pos) env) Q h := by
  rw [arm_eval_UnaryOp]
  refine w_bind (x.mono fun v h' y => w_bind (w_standAt (w_holding ?_)))
  obtain ⟨i, t, rfl, k⟩ := y
  intro s hs
  subst hs
  exact PyProof.Rows.neg_int ⟨⟨rfl, rfl⟩, k _⟩
/-! ## slices -/
theorem slice_mid (items : List Value) (a b : Nat) : (slicePick items.toArray (some (a : Int)) (some (b : Int)) none).toList = (items.drop a).take (b - a) := by
  rw [slicePick_plain]
  simp only [Option.elim, clipAt_nat, List.size_toArray]
  rcases Nat.le_total a items.length with q | q
  · rw [Nat.min_eq_left q]
    rcases Nat.le_total b items.length with r | r
    · rw [Nat.min_eq_left r]
    · rw [Nat.min_eq_right r, List.take_of_length_le (by simp), List.take_of_length_le (by simp; lia)]
  · rw [Nat.min_eq_right q, List.drop_of_length_le (by simp), List.drop_of_length_le q]; simp
theorem slice_to (items : List Value) (b : Nat) : (slicePick items.toArray none (some (b : Int)) none).toList = items.take b := by
  rw [slicePick_upto']
theorem slice_initL (items : List Value) : (slicePick items.toArray none (some (-1)) none).toList = items.dropLast := by
  have := slicePick_butLast items.toArray 1 (by lia)
  rw [show (-1 : Int) = -((1 : Nat) : Int) by rfl, this]
  simp [List.dropLast_eq_take]
theorem slice_rev (items : List Value) : (slicePick items.toArray none none (some (-1))).toList = items.reverse := by
  rw [krv_pick]
/-! ## str.count of a sign -/
theorem occ_loop (x : List Nat) (c : Nat) : ∀ (k i : Nat) (st : Array Nat × Nat), i + k = x.length + 1 → st.2 ≤ i → st.1.size ≤ i →
    (forIn (List.range' i k) st (StrLaws.occBody (S x) (S [c]) (S x).length ((S x).length + 1))).run.fst.size = st.1.size + (x.drop i).count c
  | 0, i, st, hk, h1, h2 => by
    have : x.drop i = [] := by simp; lia
    simp [this]
  | k + 1, i, st, hk, h1, h2 => by
    rw [List.range'_succ, List.forIn_cons]
    have hs := StrLaws.subAt_one (S x) c i
    have e1 : (S x).cps.toList = x := by simp [S]
    rw [e1] at hs
    unfold StrLaws.occBody
    by_cases q : x[i]? = some c
    · obtain ⟨q1, q2⟩ := hs.mpr q
      have hi : i < x.length := by
        rcases Nat.lt_or_ge i x.length with y | y
        · exact y
        · rw [List.getElem?_eq_none y] at q; cases q
      rw [if_pos ⟨⟨⟨by rw [S_length]; lia, h1⟩, q1⟩, q2⟩]
      have := occ_loop x c k (i + 1) (st.1.push i, i + (S [c]).length) (by lia) (Nat.le_refl _) (by simp; lia)
      have e2 : x.drop i = c :: x.drop (i + 1) := by
        rw [List.drop_eq_getElem_cons hi]
        have : x[i] = c := by rw [List.getElem?_eq_getElem hi] at q; simpa using q
        rw [this]
      rw [e2, List.count_cons_self]
      refine Eq.trans this ?_
      simp; lia
    · rw [if_neg (fun y => q (hs.mp ⟨y.1.2, y.2⟩))]
      refine Eq.trans (occ_loop x c k (i + 1) st (by lia) (by lia) (by lia)) ?_
      rcases Nat.lt_or_ge i x.length with y | y
      · rw [List.drop_eq_getElem_cons y, List.count_cons_of_ne]
        intro e; exact q (by rw [List.getElem?_eq_getElem y, e])
      · rw [List.drop_of_length_le y, List.drop_of_length_le (by lia)]
theorem count_one (x : List Nat) (c : Nat) : (Builtin.Str.occurrences (S x) (S [c]) 0 (S x).length ((S x).length + 1)).length = x.count c := by
  rw [StrLaws.occ_eq, Array.length_toList]
  have := occ_loop x c (x.length + 1) 0 (#[], 0) (by lia) (Nat.le_refl _) (Nat.le_refl _)
  rw [show (S x).length + 1 - 0 = x.length + 1 by rw [S_length]; lia]
  simpa using this
theorem w_strCount {x : List Nat} {c : Nat} {t u : Tok} {Q : Value → Heap → Prop} (k : ∀ t, Q (.int (x.count c : Nat) t) h) : Wp (model prog w) A (call (.builtin "str.count") [.str (S x) t, .str (S [c]) u]) Q h := fun s hs => by
  subst hs
  refine call_gives PySem.F.slot_str_count (typeIs_str _ _ _) PySem.F.entry_str_count (PySem.F.args_str_count_2 _ _) (PySem.gives_str_count (S x) (S [c]) t u) ?_
  rw [count_one]
  exact ⟨⟨rfl, rfl⟩, k _⟩
end
end Mine
end
section
open PySem PySem.W PyProof.Rows PySem.Calls
set_option Elab.async false
set_option maxRecDepth 100000
set_option linter.unusedVariables false
set_option linter.unusedSimpArgs false
namespace Mine
section
variable {prog : Program} {w : World} {A : Around} {h : Heap} {env : Env}
theorem w_turn {value value' slice : Expr} {o i : Value} {Q : Value → Heap → Prop} (hv : ∀ r, letTemporaryGo value' o r = pure ()) (x : Wp (model prog w) A (subscriptTail value' slice o i) Q h) : Wp (model prog w) A (subscriptTail value slice o i) Q h := fun s hs => kba_turn hv (x s hs)
theorem w_itemL {value slice : Expr} {l : Addr} {items : List Value} {j : Nat} {u : Tok} {x : Value} {Q : Value → Heap → Prop} (hl : h.IsList l items.toArray) (hx : items[j]? = some x) (hz : items.length ≤ sizeLine) (k : Q x h)
    (hs : subscripted slice false (.ref l) (.int j u) = operate [.ref l, .int j u] (getItem (.ref l) (.int j u)) := by with_unfolding_all rfl) :
    Wp (model prog w) A (subscriptTail value slice (.ref l) (.int j u)) Q h := fun s hs' => by
  subst hs'
  have hj : j < items.length := by
    rcases Nat.lt_or_ge j items.length with q | q
    · exact q
    · rw [List.getElem?_eq_none q] at hx; cases hx
  rw [sizeLine_eq] at hz
  exact tail_any hl.typeIs slot_list_getitem.lookup (wpAny_getItem_list hl (by lia) (by lia) (by simpa using hx) ⟨⟨rfl, rfl⟩, k⟩) hs
theorem w_itemI {value slice : Expr} {l : Addr} {items : List Value} {i : Int} {j : Nat} {u : Tok} {x : Value} {Q : Value → Heap → Prop} (hl : h.IsList l items.toArray) (hi : i = j ∨ i + items.length = j) (h0 : i + items.length = j → i < 0) (hx : items[j]? = some x) (hz : items.length ≤ sizeLine) (k : Q x h)
    (hs : subscripted slice false (.ref l) (.int i u) = operate [.ref l, .int i u] (getItem (.ref l) (.int i u)) := by with_unfolding_all rfl) :
    Wp (model prog w) A (subscriptTail value slice (.ref l) (.int i u)) Q h := fun s hs' => by
  subst hs'
  have hj : j < items.length := by
    rcases Nat.lt_or_ge j items.length with q | q
    · exact q
    · rw [List.getElem?_eq_none q] at hx; cases hx
  rw [sizeLine_eq] at hz
  rcases hi with rfl | hi
  · exact tail_any hl.typeIs slot_list_getitem.lookup (wpAny_getItem_list hl (by lia) (by lia) (by simpa using hx) ⟨⟨rfl, rfl⟩, k⟩) hs
  · have h0 := h0 hi
    refine tail_any hl.typeIs slot_list_getitem.lookup (wpAny_getItem_list_neg hl h0 (by simp; lia) (by lia) ?_ ⟨⟨rfl, rfl⟩, k⟩) hs
    rw [List.size_toArray, hi]
    simpa using hx
theorem w_itemT {value slice : Expr} {t : Addr} {items : List Value} {j : Nat} {u : Tok} {x : Value} {Q : Value → Heap → Prop} (hl : h.IsTuple t items.toArray) (hx : items[j]? = some x) (hz : items.length ≤ sizeLine) (k : Q x h)
    (hs : subscripted slice false (.ref t) (.int j u) = operate [.ref t, .int j u] (getItem (.ref t) (.int j u)) := by with_unfolding_all rfl) :
    Wp (model prog w) A (subscriptTail value slice (.ref t) (.int j u)) Q h := fun s hs' => by
  subst hs'
  have hj : j < items.length := by
    rcases Nat.lt_or_ge j items.length with q | q
    · exact q
    · rw [List.getElem?_eq_none q] at hx; cases hx
  rw [sizeLine_eq] at hz
  exact item_tupleT hl (by lia) (by lia) (by unfold seqIndex?; simp [hj]; lia) hx ⟨⟨rfl, rfl⟩, k⟩ hs
/-- a slice of a list, whatever it is a slice of -/
theorem w_sliceL {value slice : Expr} {l : Addr} {items : List Value} {lv uv sv : Value} {lo hi st : Option Int} {Q : Value → Heap → Prop} (hl : h.IsList l items.toArray) (pl : IsPart lv lo) (pu : IsPart uv hi) (pk : IsPart sv st) (h0 : st ≠ some 0)
    (k : ∀ a h', a = h.objs.size + 1 → Ext h h' → Ls h' a (slicePick items.toArray lo hi st).toList → h'.objs.size = h.objs.size + 2 → Q (.ref a) h') (hsz : items.length ≤ sizeLine)
    (ops : List Value) (hs : subscripted slice false (.ref l) (.ref h.objs.size) = operate ops (getItem (.ref l) (.ref h.objs.size))) :
    Wp (model prog w) A (subscriptTail value slice (.ref l) (.ref h.objs.size)) Q (h.push { cls := .type "slice", data := .fields #[lv, uv, sv] }) :=
  w_turn (value' := .Name (Str.ofString "_") ⟨0, 0, 0, 0⟩) (fun _ => rfl) (w_sliceList hl pl pu pk h0 k hsz hs (fun _ => rfl))
/-- two names are bound to a pair -/
theorem w_asgTup2 {a b : Str} {pa pb tp : Pos} {kk : Nat} {T : Addr} {x y : Value} {m : Str → Option Value} {Q : Unit → Heap → Prop} (hh : A.handled = none) (ht : h.IsTuple T #[x, y]) (hn : h.Ns env.locals m)
    (ha : env.kindOf a = some .local) (hb : env.kindOf b = some .local) (hp : (env.scope.kind == .class || (env.scope.kind == .module && env.locals != env.globals)) = false)
    (k : ∀ h', h'.Ns env.locals (fun z => if z = b then some y else if z = a then some x else m z) → Kept [env.locals] h h' → Q () h') :
    Wp (model prog w) A (assign (.Tuple [.Name a pa, .Name b pb] kk tp) env (.ref T)) Q h := fun s hs => by
  subst hs
  exact kcp_assign hh ht ha hb hp hn (fun h' tk n kk => ⟨⟨rfl, rfl⟩, k h' n (fun c o hc e => kk c o (by simpa using hc) e)⟩)
end
theorem frOff {base h1 h2 : Heap} {L n0 b0 : Addr} {m : Str → Option Value} (F : Fr base L h1 m) (k : Off n0 b0 h1 h2) (hL : L < n0) : Fr base L h2 m :=
  ⟨F.ns.at' fun o e => k _ _ (.inl hL) e, fun b o e => k _ _ (.inl (Nat.lt_trans (Nat.lt_of_lt_of_le (Heap.lt_size e) F.above) hL)) (F.keep b o e), F.above⟩
theorem frNs {base h1 h2 : Heap} {L : Addr} {m m' : Str → Option Value} {T : List Addr} (F : Fr base L h1 m) (k : Kept T h1 h2) (hT : ∀ a ∈ T, base.get? a = none) (n : h2.Ns L m') : Fr base L h2 m' :=
  ⟨n, fun b o e => k b o (fun q => by rw [hT b q] at e; cases e) (F.keep b o e), F.above⟩
theorem frL {base h : Heap} {L : Addr} {m : Str → Option Value} (F : Fr base L h m) : base.get? L = none := by
  cases e : base.get? L with
  | none => rfl
  | some o => exact absurd (Heap.lt_size e) (Nat.not_lt.mpr F.above)
/-- a frame, and what has stayed since h0 -/
structure Fs (base h0 : Heap) (S : List Addr) (L : Addr) (h : Heap) (m : Str → Option Value) : Prop where
  F : Fr base L h m
  K : Kept S h0 h
theorem Fs.mk0 {base h : Heap} {L : Addr} {m : Str → Option Value} (F : Fr base L h m) (S : List Addr) : Fs base h S L h m := ⟨F, Kept.refl _ _⟩
theorem Fs.ns {base h0 h : Heap} {S : List Addr} {L : Addr} {m : Str → Option Value} (X : Fs base h0 S L h m) : h.Ns L m := X.F.ns
theorem Fs.ext {base h0 h h' : Heap} {S : List Addr} {L : Addr} {m : Str → Option Value} (X : Fs base h0 S L h m) (e : Ext h h') : Fs base h0 S L h' m := ⟨X.F.kept e, X.K.trans (Kept.of_ext e)⟩
theorem Fs.kept {base h0 h h' : Heap} {S T : List Addr} {L : Addr} {m : Str → Option Value} (X : Fs base h0 S L h m) (k : Kept T h h') (hT : ∀ a ∈ T, base.get? a = none) (hL : L ∉ T) (hS : ∀ a ∈ T, a ∈ S ∨ h0.get? a = none) : Fs base h0 S L h' m :=
  ⟨frKept X.F k hT hL, fun b o hb e => k b o (fun q => (hS b q).elim (fun r => hb r) fun r => by rw [r] at e; cases e) (X.K b o hb e)⟩
section
variable {M : Model} {A : Around} {h : Heap} {env : Env}
theorem w_stF {base h0 : Heap} {S : List Addr} {L : Addr} {x : Str} {v : Value} {m : Str → Option Value} {Q : Unit → Heap → Prop} (X : Fs base h0 S L h m)
    (k : ∀ h', Fs base h0 S L h' (fun y => if y = x then some v else m y) → Heap.SameBut L h h' → Q () h') (hS : L ∈ S := by simp) (hL : env.locals = L := by rfl)
    (hl : env.kindOf x = some .local := by rfl) (hp : (env.scope.kind == .class || (env.scope.kind == .module && env.locals != env.globals)) = false := by rfl) :
    Wp M A (storeName env x v) Q h :=
  w_stS X.F (fun h' F' sb => k h' ⟨F', X.K.trans (Kept.of_same sb hS)⟩ sb) hL hl hp
theorem w_asgTup2F {prog : Program} {w : World} {base h0 : Heap} {S : List Addr} {L : Addr} {a b : Str} {pa pb tp : Pos} {kk : Nat} {T : Addr} {x y : Value} {m : Str → Option Value} {Q : Unit → Heap → Prop} (X : Fs base h0 S L h m) (hh : A.handled = none) (ht : h.IsTuple T #[x, y])
    (k : ∀ h', Fs base h0 S L h' (fun z => if z = b then some y else if z = a then some x else m z) → Kept [L] h h' → Q () h') (hS : L ∈ S := by simp) (hL : env.locals = L := by rfl)
    (ha : env.kindOf a = some .local := by rfl) (hb : env.kindOf b = some .local := by rfl) (hp : (env.scope.kind == .class || (env.scope.kind == .module && env.locals != env.globals)) = false := by rfl) :
    Wp (model prog w) A (assign (.Tuple [.Name a pa, .Name b pb] kk tp) env (.ref T)) Q h := by
  subst hL
  exact w_asgTup2 hh ht X.F.ns ha hb hp (fun h' n kk => k h' ⟨frNs X.F kk (List.forall_mem_singleton.mpr (frL X.F)) n, X.K.trans (kk.mono (by simpa using hS))⟩ kk)
end
end Mine
end
section
open PySem PySem.W PyProof.Rows PySem.Calls
set_option Elab.async false
set_option maxRecDepth 100000
set_option linter.unusedVariables false
set_option linter.unusedSimpArgs false
namespace Mine
/-- a loop's postcondition is hidden behind a variable, so that no step copies it -/
theorem w_hide {M : Model} {A : Around} {t : Sem Unit} {s : Sem Flow} {Q : Flow → Heap → Prop} {h : Heap} (x : ∀ Qb : Flow → Heap → Prop, (∀ f h, Q f h → Qb f h) → Wp M A t (fun _ h2 => Wp M A s Qb h2) h) : Wp M A t (fun _ h2 => Wp M A s Q h2) h := x Q (fun _ _ h => h)
theorem t_hide {M : Model} {A : Around} {t : Sem Unit} {ifs : List Expr} {elt : Expr} {env : Env} {Q : Option Value → Heap → Prop} {h : Heap} (x : ∀ Qb : Option Value → Heap → Prop, (∀ r h, Q r h → Qb r h) → Wp M A t (fun _ h2 => TestElt M A ifs elt env Qb h2) h) : Wp M A t (fun _ h2 => TestElt M A ifs elt env Q h2) h := x Q (fun _ _ h => h)
section
variable {prog : Program} {w : World} {A : Around} {h : Heap} {env : Env}
/-- things that stand to each other, place by place -/
def Rel2 (E : Nat → Value → Value → Prop) (items ys : List Value) : Prop := ys.length = items.length ∧ ∀ i v y, items[i]? = some v → ys[i]? = some y → E i v y
theorem rel_step {E : Nat → Value → Value → Prop} {items ys : List Value} {i : Nat} {v y : Value} (h : Rel2 E (items.take i) ys) (hv : items[i]? = some v) (hy : E i v y) : Rel2 E (items.take (i + 1)) (ys ++ [y]) := by
  have hi : i < items.length := by
    rcases Nat.lt_or_ge i items.length with q | q
    · exact q
    · rw [List.getElem?_eq_none q] at hv; cases hv
  have hl : ys.length = i := by have := h.1; simp at this; lia
  refine ⟨by simp; lia, fun j v' y' e1 e2 => ?_⟩
  by_cases q : j < i
  · refine h.2 j v' y' ?_ ?_
    · rw [List.getElem?_take] at e1 ⊢; rw [if_pos (by lia)] at e1; rw [if_pos q]; exact e1
    · rwa [List.getElem?_append_left (by lia)] at e2
  · have hj : j = i := by
      rw [List.getElem?_take] at e1
      split at e1
      · lia
      · cases e1
    subst hj
    rw [List.getElem?_take, if_pos (by lia), hv] at e1
    rw [List.getElem?_append_right (by lia), hl] at e2
    simp at e1 e2
    subst e1; subst e2; exact hy
theorem compT_pure {elt : Expr} {x : Str} {px : Pos} {scope : Scope} {cl : List (Str × Addr)} {n : Nat} {items : List Value} (E : Nat → Value → Value → Prop) (hn : n = items.length) (hkind : scope.kind = .function) (hx : scope.names.lookup x = some .local)
    (he : ∀ C h' (m : Str → Option Value) i v (Q' : Value → Heap → Prop), items[i]? = some v → Ext h h' → h'.Ns C (fun y => if y = x then some v else m y) → h.objs.size ≤ C → (∀ y h'', E i v y → Ext h' h'' → Q' y h'') → Wp (model prog w) A (eval elt (compEnvC scope cl C env)) Q' h') :
    CompT prog w A env elt (.Name x px) [] scope cl n (fun i v _ => items[i]? = some v) h [] (fun b0 i ys h' => Rel2 E (items.take i) ys) where
  off := fun _ _ _ _ _ j _ => j
  zero := fun _ => ⟨rfl, fun i v y e _ => by simp at e⟩
  turn := fun b0 C i v ys h' m hi hC hb p j k hy ns => by
    refine w_asgName ?_
    refine w_store (env := compEnvC scope cl C env) (m := m) ns (fun h2 n2 sb2 => ?_) (lookup_relabel_local hx) (by simp [compEnvC, relabel, hkind])
    show Wp _ _ _ _ _
    have k2 : Kept [C] h' h2 := Kept.of_same sb2 (List.mem_singleton.mpr rfl)
    have e2 : Ext h h2 := fun b o e => k2 b o (by simp only [List.mem_singleton]; intro q; subst q; exact absurd (Heap.lt_size e) (Nat.not_lt.mpr hC)) (k b o (by first | (with_reducible (first | exact im1 | exact im2 | exact im3 | exact sb0 | exact sb1 im1 | exact sb1 im2 | exact sb1 im3)) | exact nmc (adne (by decide)) nm0 | exact nmc (adne (by decide)) (nmc (adnn (by decide)) nm0) | simp) e)
    refine he C h2 m i v _ p e2 n2 hC (fun y h3 hy e3 => ⟨?_, ⟨_, n2.keeps e3⟩, rel_step j p hy⟩)
    exact k2.trans (Kept.of_ext e3)
/-- [elt for x in l]: a pure element -/
theorem w_lcPure {elt iter : Expr} {x : Str} {px : Pos} {scope : Scope} {cl : List (Str × Addr)} {pos : Pos} {Q : Value → Heap → Prop} (hh : A.handled = none)
    (hclos : closureFor scope env = pure cl) (hcell : (scope.names.all fun y => y.2 != .cell) = true) (hkind : scope.kind = .function) (hnames : (scope.names.all fun y => y.2 != .local || decide (scope.names.lookup y.1 = some .local)) = true) (hx : scope.names.lookup x = some .local)
    (e : Wp (model prog w) A (eval iter env) (fun xv h₁ => ∃ l items E, xv = .ref l ∧ h₁.IsList l items.toArray ∧ items.length ≤ sizeLine ∧
      (∀ C h' (m : Str → Option Value) i v (Q' : Value → Heap → Prop), items[i]? = some v → Ext h₁ h' → h'.Ns C (fun y => if y = x then some v else m y) → h₁.objs.size ≤ C → (∀ y h'', E i v y → Ext h' h'' → Q' y h'') → Wp (model prog w) A (eval elt (compEnvC scope cl C env)) Q' h') ∧
      (∀ ys D h', h₁.objs.size ≤ D → Ls h' D ys → Rel2 E items ys → Ext h₁ h' → Q (.ref D) h')) h)
    (hs : ∀ x, foldedSetIterable iter env x = pure x := by intro _; rfl) :
    Wp (model prog w) A (eval (.ListComp elt [⟨.Name x px, iter, [], 0⟩] scope pos) env) Q h := by
  refine w_lcI (by first | (with_reducible (first | exact im1 | exact im2 | exact im3 | exact sb0 | exact sb1 im1 | exact sb1 im2 | exact sb1 im3)) | exact nmc (adne (by decide)) nm0 | exact nmc (adne (by decide)) (nmc (adnn (by decide)) nm0) | simp) hclos hcell hkind hnames (e.mono fun xv h₁ y => ?_) hs
  obtain ⟨l, items, E, rfl, hl, hz, he, k⟩ := y
  have hlt : l < h₁.objs.size := let ⟨o, e, _⟩ := hl; Heap.lt_size e
  refine ⟨items.length, _, [l], iterList (.inl rfl) hh hl, hz, by simpa using hlt, [], _, by simp, compT_pure E rfl hkind hx he, fun b0 ys D h' hD hb l hy j kk => ?_⟩
  rw [List.take_length] at j
  exact k ys D h' hD l j (fun b o e => kk b o (by first | (with_reducible (first | exact im1 | exact im2 | exact im3 | exact sb0 | exact sb1 im1 | exact sb1 im2 | exact sb1 im3)) | exact nmc (adne (by decide)) nm0 | exact nmc (adne (by decide)) (nmc (adnn (by decide)) nm0) | simp) e)
/-- x = [elt for ..] with a frame -/
theorem w_asgLc {base h0 : Heap} {S : List Addr} {L : Addr} {m : Str → Option Value} {elt target iter : Expr} {ifs : List Expr} {scope : Scope} {cl : List (Str × Addr)} {pos pos' pos2 : Pos} {y : Str} {Q : Flow → Heap → Prop} (X0 : Fs base h0 S L h m) (hif : ifs.length ≤ 1)
    (hclos : closureFor scope env = pure cl) (hcell : (scope.names.all fun y => y.2 != .cell) = true) (hkind : scope.kind = .function) (hnames : (scope.names.all fun y => y.2 != .local || decide (scope.names.lookup y.1 = some .local)) = true)
    (hsw : swapsWith (.ListComp elt [⟨target, iter, ifs, 0⟩] scope pos) (some (.Name y pos')) pos2.line env = pure true) (hL : env.locals = L) (hS : L ∈ S) (hly : env.kindOf y = some .local) (hp : (env.scope.kind == .class || (env.scope.kind == .module && env.locals != env.globals)) = false)
    (e : Wp (model prog w) A (eval iter env) (fun xv h₁ => ∃ n P old, Iter prog w A target (fun Q => Wp (model prog w) A (pyIter xv) Q h₁) n P old h₁ ∧ n ≤ sizeLine ∧ (∀ b ∈ old, b < h₁.objs.size) ∧ Ext h h₁ ∧
      ∃ J, CompT prog w A env elt target ifs scope cl n P h₁ [] J ∧
        (∀ b0 ys D C h'' h', h₁.objs.size ≤ D → D < C → C < b0 → L < h₁.objs.size → Ls h' D ys → ys.length ≤ n → J b0 n ys h'' → Kept [L, C] h'' h' → Ext h₁ h'' → Fs base h0 S L h' (fun z => if z = y then some (.ref D) else m z) → Q .next h')) h)
    (hs : ∀ x, foldedSetIterable iter env x = pure x := by intro _; rfl) :
    Wp (model prog w) A (exec (.Assign [.Name y pos'] (.ListComp elt [⟨target, iter, ifs, 0⟩] scope pos) pos2) env) Q h := by
  refine w_asgUsed hsw (w_lcIU hif hclos hcell hkind hnames (e.mono fun xv h₁ z => ?_) hs)
  obtain ⟨n, P, old, it, hn, hold, ex0, J, Y, k⟩ := z
  have X := X0.ext ex0
  refine ⟨n, P, old, it, hn, hold, [], J, by simp, Y, fun b0 ys D C h' mC hD hDC hCb l hy j kk ns => ?_⟩
  have ex : Ext h₁ h' := fun b o e => kk b o (by first | (with_reducible (first | exact im1 | exact im2 | exact im3 | exact sb0 | exact sb1 im1 | exact sb1 im2 | exact sb1 im3)) | exact nmc (adne (by decide)) nm0 | exact nmc (adne (by decide)) (nmc (adnn (by decide)) nm0) | simp) e
  have X' := X.ext ex
  have hLn : L < h₁.objs.size := X.ns.lt
  have hCL : C ≠ L := by lia
  have hDL : D ≠ L := by lia
  refine w_asgName (w_stF X' (fun h3 X3 sb3 => ⟨⟨mC, ns.at' fun o e => (sb3.2 _ hCL).trans e⟩, fun h4 sb4 => ?_⟩) hS hL hly hp)
  refine k b0 ys D C h' h4 hD hDC hCb hLn ((l.same sb3 hDL).same sb4 (Nat.ne_of_lt hDC)) hy j ((Kept.of_same sb3 (by first | (with_reducible (first | exact im1 | exact im2 | exact im3 | exact sb0 | exact sb1 im1 | exact sb1 im2 | exact sb1 im3)) | exact nmc (adne (by decide)) nm0 | exact nmc (adne (by decide)) (nmc (adnn (by decide)) nm0) | simp)).trans (Kept.of_same sb4 (by first | (with_reducible (first | exact im1 | exact im2 | exact im3 | exact sb0 | exact sb1 im1 | exact sb1 im2 | exact sb1 im3)) | exact nmc (adne (by decide)) nm0 | exact nmc (adne (by decide)) (nmc (adnn (by decide)) nm0) | simp))) ex ?_
  refine X3.kept (T := [C]) (Kept.of_same sb4 (by first | (with_reducible (first | exact im1 | exact im2 | exact im3 | exact sb0 | exact sb1 im1 | exact sb1 im2 | exact sb1 im3)) | exact nmc (adne (by decide)) nm0 | exact nmc (adne (by decide)) (nmc (adnn (by decide)) nm0) | simp)) (List.forall_mem_singleton.mpr ?_) (by simpa using hCL.symm) (List.forall_mem_singleton.mpr ?_)
  · exact get_none (Nat.le_trans X.F.above (Nat.le_of_lt (Nat.lt_of_lt_of_le hLn (Nat.le_trans hD (Nat.le_of_lt hDC)))))
  · by_cases hCS : C ∈ S
    · exact .inl hCS
    · refine .inr ?_
      cases e0 : h0.get? C with
      | none => rfl
      | some o =>
        have := Heap.lt_size (X.K _ _ hCS e0)
        lia
end
end Mine
end
section
open PySem PySem.W PyProof.Rows PySem.Calls
set_option Elab.async false
set_option maxRecDepth 100000
set_option linter.unusedVariables false
set_option linter.unusedSimpArgs false
namespace Mine
section
variable {prog : Program} {w : World} {A : Around} {h H : Heap} {mg mb : Str → Option Value} {env : Env}
/-- the signs of a text, one by one -/
theorem iterStr {target : Expr} {x : List Nat} {t : Tok} (ht : isNameT target = true) (hh : A.handled = none) :
    Iter prog w A target (fun Q => Wp (model prog w) A (pyIter (.str (S x) t)) Q h) x.length (fun i v _ => ∃ c k, x[i]? = some c ∧ v = .str (S [c]) k) [] h := by
  intro Q k s hs
  subst hs
  have e : (S x).cps.size = x.length := by simp [S]
  have go : ∀ (T : String) (o : Obj), Walks prog w A s.heap.objs.size [s.heap.objs.size] [s.heap.objs.size] (S x).cps.size (SignAt (S x)) (fun i h => h.IsStrIter s.heap.objs.size T (S x) t i) → (s.heap.push o).IsStrIter s.heap.objs.size T (S x) t 0 → Q (.ref s.heap.objs.size) (s.heap.push o) := fun T o W st => by
    rw [e] at W
    refine k s.heap.objs.size [s.heap.objs.size] [s.heap.objs.size] _ _ ⟨W.sub, fun b hb => by rw [List.mem_singleton.mp hb]; exact Nat.le_refl _, fun i h q => ⟨_, q.choose_spec.1⟩, W.frame, fun i h Q hi st hQ s hs => ?_, fun h Q st hQ s hs => ?_, fun s Q E st hQ => W.self 0 s Q E st hQ⟩ st (Ext.push _ _) (Nat.le_refl _) (fun b hb => by rw [List.mem_singleton.mp hb]; exact Nat.le_refl _) (fun b hb => .inr (by rw [List.mem_singleton.mp hb]; exact ⟨Nat.le_refl _, Nat.le_refl _⟩))
    · subst hs
      refine W.item i s _ _ hi st (fun v h' tk hp st' kk => ⟨⟨rfl, rfl⟩, v, rfl, ?_⟩)
      rw [letOwn_name ht]
      obtain ⟨c, u, h1, h2⟩ := hp
      exact w_pure (hQ v h' ⟨c, u, by simpa [S] using h1, h2⟩ st' kk)
    · subst hs
      exact W.done s _ _ st (fun h' tk kk => ⟨⟨rfl, rfl⟩, rfl, hQ h' kk⟩)
  cases ha : (S x).cps.all (· < 128)
  · exact wpAny_pyIter_wide ha ⟨⟨rfl, rfl⟩, go _ _ (Walks.strWide hh _ (S x) t) ⟨_, Heap.get?_push_size _ rfl, rfl, rfl⟩⟩
  · exact wpAny_pyIter_ascii ha ⟨⟨rfl, rfl⟩, go _ _ (Walks.strAscii hh _ (S x) t) ⟨_, Heap.get?_push_size _ rfl, rfl, rfl⟩⟩
theorem compT_str {elt : Expr} {x : Str} {px : Pos} {scope : Scope} {cl : List (Str × Addr)} {word : List Nat} (f : Nat → List Nat) (hkind : scope.kind = .function) (hx : scope.names.lookup x = some .local)
    (he : ∀ C h (m : Str → Option Value) c t (Q' : Value → Heap → Prop), c ∈ word → h.Ns C (fun y => if y = x then some (.str (S [c]) t) else m y) → (∀ t, Q' (.str (S (f c)) t) h) → Wp (model prog w) A (eval elt (compEnvC scope cl C env)) Q' h) :
    CompT prog w A env elt (.Name x px) [] scope cl word.length (fun i v _ => ∃ c k, word[i]? = some c ∧ v = .str (S [c]) k) h [] (fun b0 i ys h' => Strs ys ((word.take i).map f)) where
  off := fun _ _ _ _ _ j _ => j
  zero := fun _ => trivial
  turn := fun b0 C i v ys h' m hi hC hb ⟨c, u, hc, hv⟩ j k hy ns => by
    subst hv
    refine w_asgName (w_store (env := compEnvC scope cl C env) (m := m) ns (fun h2 n2 sb2 => ?_) (lookup_relabel_local hx) (by simp [compEnvC, relabel, hkind]))
    refine he C h2 m c u _ (List.mem_of_getElem? hc) n2 (fun t => ⟨Kept.of_same sb2 (List.mem_cons_self ..), ⟨_, n2⟩, ?_⟩)
    show Strs _ ((word.take (i + 1)).map f)
    rw [List.take_add_one, hc, List.map_append]
    exact j.append Strs.one
theorem w_lcStr {base : Heap} {L : Addr} {m : Str → Option Value} {elt iter : Expr} {x : Str} {px : Pos} {scope : Scope} {cl : List (Str × Addr)} {pos : Pos} {Q : Value → Heap → Prop} {word : List Nat} (f : Nat → List Nat) (F : Fr base L h m) (hh : A.handled = none) (hz : word.length ≤ sizeLine)
    (hclos : closureFor scope env = pure cl) (hcell : (scope.names.all fun y => y.2 != .cell) = true) (hkind : scope.kind = .function) (hnames : (scope.names.all fun y => y.2 != .local || decide (scope.names.lookup y.1 = some .local)) = true) (hx : scope.names.lookup x = some .local)
    (hi : ∀ Q' : Value → Heap → Prop, (∀ t, Q' (.str (S word) t) h) → Wp (model prog w) A (eval iter env) Q' h)
    (he : ∀ C h (m : Str → Option Value) c t (Q' : Value → Heap → Prop), c ∈ word → h.Ns C (fun y => if y = x then some (.str (S [c]) t) else m y) → (∀ t, Q' (.str (S (f c)) t) h) → Wp (model prog w) A (eval elt (compEnvC scope cl C env)) Q' h)
    (k : ∀ D ys h', Fr base L h' m → Ls h' D ys → Strs ys (word.map f) → base.objs.size ≤ D → D ≠ L → Q (.ref D) h')
    (hs : ∀ x, foldedSetIterable iter env x = pure x := by intro _; rfl) :
    Wp (model prog w) A (eval (.ListComp elt [⟨.Name x px, iter, [], 0⟩] scope pos) env) Q h := by
  refine w_lcI (Nat.zero_le _) hclos hcell hkind hnames (hi _ fun t => ⟨word.length, _, [], iterStr rfl hh, hz, fun b hb => (nomatch hb), [], _, fun b hb => (nomatch hb), compT_str f hkind hx he, fun b0 ys D h' hD hb l hy j kk => ?_⟩) hs
  rw [List.take_length] at j
  exact k D ys h' (F.kept fun b o e => kk b o (fun q => (nomatch q)) e) l j (Nat.le_trans F.above (Nat.le_trans (Nat.le_of_lt F.ns.lt) hD)) (Nat.ne_of_gt (Nat.lt_of_lt_of_le F.ns.lt hD))

theorem w_lcStrA {base : Heap} {L : Addr} {m : Str → Option Value} {elt iter : Expr} {x : Str} {px : Pos} {scope : Scope} {cl : List (Str × Addr)} {pos pos' pos2 : Pos} {y : Str} {Q : Flow → Heap → Prop} {word : List Nat} (f : Nat → List Nat) (F : Fr base L h m) (hh : A.handled = none) (hz : word.length ≤ sizeLine)
    (hclos : closureFor scope env = pure cl) (hcell : (scope.names.all fun y => y.2 != .cell) = true) (hkind : scope.kind = .function) (hnames : (scope.names.all fun y => y.2 != .local || decide (scope.names.lookup y.1 = some .local)) = true) (hx : scope.names.lookup x = some .local)
    (hi : ∀ Q' : Value → Heap → Prop, (∀ t, Q' (.str (S word) t) h) → Wp (model prog w) A (eval iter env) Q' h)
    (he : ∀ C h (m : Str → Option Value) c t (Q' : Value → Heap → Prop), c ∈ word → h.Ns C (fun y => if y = x then some (.str (S [c]) t) else m y) → (∀ t, Q' (.str (S (f c)) t) h) → Wp (model prog w) A (eval elt (compEnvC scope cl C env)) Q' h)
    (hsw : swapsWith (.ListComp elt [⟨.Name x px, iter, [], 0⟩] scope pos) (some (.Name y pos')) pos2.line env = pure true) (hloc : env.locals = L) (hly : env.kindOf y = some .local) (hp : (env.scope.kind == .class || (env.scope.kind == .module && env.locals != env.globals)) = false)
    (k : ∀ D ys h', Fr base L h' (fun z => if z = y then some (.ref D) else m z) → Ls h' D ys → Strs ys (word.map f) → base.objs.size ≤ D → D ≠ L → Q .next h')
    (hs : ∀ x, foldedSetIterable iter env x = pure x := by intro _; rfl) :
    Wp (model prog w) A (exec (.Assign [.Name y pos'] (.ListComp elt [⟨.Name x px, iter, [], 0⟩] scope pos) pos2) env) Q h := by
  refine w_asgLc (Fs.mk0 F [L]) (Nat.zero_le _) hclos hcell hkind hnames hsw hloc (List.mem_cons_self ..) hly hp (hi _ fun t => ⟨word.length, _, [], iterStr rfl hh, hz, fun b hb => (nomatch hb), Ext.refl _, _, compT_str f hkind hx he, fun b0 ys D C h'' h' hD hDC hCb hL l hy j kk ex X => ?_⟩) hs
  rw [List.take_length] at j
  exact k D ys h' X.F l j (Nat.le_trans F.above (Nat.le_trans (Nat.le_of_lt hL) hD)) (Nat.ne_of_gt (Nat.lt_of_lt_of_le hL hD))

theorem w_eqInt {a b : Int} {t u : Tok} {Q : Value → Heap → Prop} (k : Q (.bool (a == b)) h) : Wp (model prog w) A (compareOp .Eq (.int a t) (.int b u)) Q h := fun s hs => by subst hs; exact wpAny_eq_int ⟨⟨rfl, rfl⟩, k⟩
end
section
variable {M : Model} {A : Around} {h : Heap} {env : Env}
theorem w_ifP {test : Expr} {body orelse : List Stmt} {pos : Pos} {Q : Flow → Heap → Prop} {P : Prop}
    (ht : ∀ Q' : Bool → Heap → Prop, (P → Q' true h) → (¬ P → Q' false h) → Wp M A (isTrue test env (eval test env)) Q' h) (x : P → Wp M A (execs body env) Q h) (y : ¬ P → Wp M A (execs orelse env) Q h) :
    Wp M A (exec (.If test body orelse pos) env) Q h := w_if_ (ht _ (fun p => ⟨fun _ => x p, fun e => by cases e⟩) (fun p => ⟨fun e => (by cases e), fun _ => y p⟩))
end
section
variable {prog : Program} {w : World} {A : Around} {h : Heap} {env : Env}
/-- ''.join(e) -/
theorem w_joinCall {sep name : Str} {kk : Nat} {p apos pos : Pos} {e : Expr} {Q : Value → Heap → Prop} (hsep : sep = S []) (hname : name = Str.ofString "join")
    (x : Wp (model prog w) A (eval e env) (fun v h₁ => ∃ a ys ts B, v = .ref a ∧ h₁.IsList a ys.toArray ∧ Strs ys ts ∧ (∀ y ∈ ts, y.length ≤ B) ∧ ts.length * B ≤ 16777216 ∧ ∀ t, Q (.str (S ts.flatten) t) h₁) h)
    (he : starEach [e] env = [(false, eval e env)] := by rfl) (hline : (apos.endLine == pos.line) = true := by rfl) :
    Wp (model prog w) A (eval (.Call (.Attribute (.Constant (.str sep) kk p) name apos) [e] [] pos) env) Q h := by
  subst hname
  refine w_meth (T := "str") (id := "str.join") PySem.F.plainAttrs_str PySem.F.slot_str_join PySem.F.type_str_join ?_ rfl (by rw [he]; rfl) hline
  refine w_cS [] hsep fun _ => ⟨fun s hs => typeIs_str _ _ _, fun a e => (by cases e), ?_⟩
  refine w_args (w_arg (x.mono fun v h1 y => ?_) he) rfl he
  obtain ⟨a, ys, ts, B, rfl, hl, hs, hB, hz, k⟩ := y
  exact w_arg0 (w_kw0 ⟨Kp.builtin _, w_join hl hs hB hz k⟩)
end
def escQ (c : Nat) : List Nat := if c ∈ [34, 92] then [92, c] else [c]
def escB (c : Nat) : List Nat := if c ∈ [32, 92] then [92, c] else [c]
def escA (c : Nat) : List Nat := [92, c]
def bareOf (word : List Nat) : List (List Nat) := if word.head? = some 34 then (word.map escB).set 0 [92, 34] else word.map escB
/-- what _law_written answers -/
def wrt (word : List Nat) (way : Nat) : List Nat :=
  if word = [] ∨ way = 0 then [34] ++ (word.map escQ).flatten ++ [34] else if way = 1 then (word.map escA).flatten else (bareOf word).flatten
abbrev aWr : Addr := 104
abbrev nWord : Str := Str.ofString "word"
abbrev nWay : Str := Str.ofString "way"
abbrev nSign : Str := Str.ofString "sign"
theorem escQ_len (c : Nat) : (escQ c).length ≤ 2 := by unfold escQ; split <;> simp
theorem escB_len (c : Nat) : (escB c).length ≤ 2 := by unfold escB; split <;> simp
section
variable {prog : Program} {w : World} {A : Around} {h H : Heap} {mg mb : Str → Option Value} {env : Env}
set_option maxHeartbeats 4000000 in
theorem wr_call {n : Nat} {word : List Nat} {way : Nat} {t u : Tok} {Q : Value → Heap → Prop} (G : Gd w mg mb H h) (ok : OkA (n + 1) A) (hz : word.length ≤ 1000)
    (k : ∀ h' t, Ext h h' → Q (.str (S (wrt word way)) t) h') :
    Wc (model prog w) A (.call (.ref aWr) ⟨[.str (S word) t, .int way u], []⟩) Q h := by
  refine c_callK (binds := [(nWord, .str (S word) t), (nWay, .int way u)]) G.now ok (by kernel_rfl) (by kernel_rfl) (by kernel_rfl) (by kernel_rfl) (fun _ => by kernel_rfl) (by kernel_rfl) (by kernel_rfl) (fun L h₁ F ok' => ?_)
  have fin : ∀ {h' : Heap} {m : Str → Option Value} {t : Tok}, Fr h L h' m → Q (.str (S (wrt word way)) t) h' := fun F' => k _ _ F'.keep
  have hb1 : ∀ (g : Nat → List Nat), (∀ c, (g c).length ≤ 2) → ∀ y ∈ word.map g, y.length ≤ 2 := fun g hg y hy => by
    obtain ⟨c, _, rfl⟩ := List.mem_map.mp hy; exact hg c
  refine w_cons (w_ifP (P := word = [] ∨ way = 0) (fun Q' kt kf => ?_) (fun hq => ?_) (fun hq => w_nil ?_))
  · refine w_tOr (w_tCmp (w_nm F.ns rfl (w_cS [] (by kernel_rfl) fun _ => w_eqStr (w_tBool ⟨fun e => kt (.inl (by simpa using e)), fun e => ?_⟩))))
    refine w_tOr (w_tCmp (w_nm F.ns rfl (w_cInt fun _ => w_eqInt (w_tBool ⟨fun e2 => kt (.inr ?_), fun e2 => w_tOr0 (kf ?_)⟩))))
    · simp at e2; lia
    · simp at e e2; rintro (q | q)
      · exact e q
      · exact e2 (by lia)
  · refine w_cons ?_
    refine w_ret ?_
    refine w_binOp ?_
    refine w_binOp ?_
    refine w_cS [34] (by kernel_rfl) fun _ => ?_
    refine w_joinCall (by kernel_rfl) (by kernel_rfl) ?_
    refine w_lcStr (word := word) escQ F ok'.3 ?_ (cl := []) ?_ ?_ ?_ ?_ ?_ ?_ (fun C h2 m2 c t2 Q' hc ns kq => ?_) (fun D ys h2 F2 l2 st2 hD hDL => ⟨D, ys, _, 2, rfl, l2.isList, st2, hb1 escQ escQ_len, by simp; lia, fun t3 => ?_⟩)
    · rw [sizeLine_eq]; lia
    · rfl
    · rfl
    · rfl
    · rfl
    · rfl
    · exact fun Q' kq => w_nm F.ns rfl (kq _)
    · refine w_ifExp (w_tCmp (w_nm ns (if_pos rfl) (w_cS [34, 92] (by kernel_rfl) fun _ => w_inStr1 (w_tBool ⟨fun e => ?_, fun e => ?_⟩))))
      · have e : c ∈ [34, 92] := by simpa using e
        have := kq; unfold escQ at this; rw [if_pos e] at this
        exact w_binOp (w_cS [92] (by kernel_rfl) fun _ => w_nm ns (if_pos rfl) (w_addStr this (by simp [sizeLine_eq])))
      · have e : ¬ c ∈ [34, 92] := by simpa using e
        have := kq; unfold escQ at this; rw [if_neg e] at this
        exact w_nm ns (if_pos rfl) (this _)
    · refine w_addStr (fun t4 => w_cS [34] (by kernel_rfl) fun _ => w_addStr (fun t5 => ?_) ?_) ?_
      · have := fin F2 (t := t5); unfold wrt at this; rw [if_pos hq] at this; exact this
      · have := flat_le _ (hb1 escQ escQ_len); simp at this; simp [sizeLine_eq]; lia
      · have := flat_le _ (hb1 escQ escQ_len); simp at this; simp [sizeLine_eq]; lia
  · have hne : word ≠ [] := fun q => hq (.inl q)
    refine w_cons (w_ifP (P := way = 1) (fun Q' kt kf => ?_) (fun hw => ?_) (fun hw => w_nil ?_))
    · refine w_tCmp (w_nm F.ns rfl (w_cInt fun _ => w_eqInt (w_tBool ?_)))
      by_cases q : way = 1
      · have : ((way : Int) == 1) = true := by simp [q]
        rw [this]; exact kt q
      · have : ((way : Int) == 1) = false := by simp; lia
        rw [this]; exact kf q
    · refine w_cons ?_
      refine w_ret ?_
      refine w_joinCall (by kernel_rfl) (by kernel_rfl) ?_
      refine w_lcStr (word := word) escA F ok'.3 ?_ (cl := []) ?_ ?_ ?_ ?_ ?_ ?_ (fun C h2 m2 c t2 Q' hc ns kq => ?_) (fun D ys h2 F2 l2 st2 hD hDL => ⟨D, ys, _, 2, rfl, l2.isList, st2, hb1 escA (fun _ => by simp [escA]), by simp; lia, fun t3 => ?_⟩)
      · rw [sizeLine_eq]; lia
      · rfl
      · rfl
      · rfl
      · rfl
      · rfl
      · exact fun Q' kq => w_nm F.ns rfl (kq _)
      · refine w_binOp ?_
        refine w_cS [92] (by kernel_rfl) fun _ => ?_
        refine w_nm ns (if_pos rfl) ?_
        exact w_addStr kq (by simp [sizeLine_eq])
      · have := fin F2 (t := t3); unfold wrt at this; rw [if_neg hq, if_pos hw] at this; exact this
    · refine w_cons ?_
      refine w_lcStrA (word := word) escB F ok'.3 ?_ (cl := []) ?_ ?_ ?_ ?_ ?_ ?_ (fun C h2 m2 c t2 Q' hc ns kq => ?_) ?_ ?_ ?_ ?_ (fun D ys h3 F3 l3 st2 hD hDL => ?_)
      · rw [sizeLine_eq]; lia
      · rfl
      · rfl
      · rfl
      · rfl
      · rfl
      · exact fun Q' kq => w_nm F.ns rfl (kq _)
      · refine w_ifExp ?_
        refine w_tCmp (w_nm ns (if_pos rfl) (w_cS [32, 92] (by kernel_rfl) fun _ => w_inStr1 (w_tBool ⟨fun e => ?_, fun e => ?_⟩)))
        · have e : c ∈ [32, 92] := by simpa using e
          have := kq; unfold escB at this; rw [if_pos e] at this
          refine w_binOp ?_
          refine w_cS [92] (by kernel_rfl) fun _ => ?_
          refine w_nm ns (if_pos rfl) ?_
          exact w_addStr this (by simp [sizeLine_eq])
        · have e : ¬ c ∈ [32, 92] := by simpa using e
          have := kq; unfold escB at this; rw [if_neg e] at this
          exact w_nm ns (if_pos rfl) (this _)
      · rfl
      · rfl
      · rfl
      · rfl
      · obtain ⟨c0, rest, hwd⟩ : ∃ c0 rest, word = c0 :: rest := by cases word with | nil => exact absurd rfl hne | cons a b => exact ⟨a, b, rfl⟩
        have hDb : h.get? D = none := get_none hD
        refine w_cons (w_ifP (P := word.head? = some 34) (fun Q' kt kf => ?_) (fun hw2 => ?_) (fun hw2 => w_nil ?_))
        · refine w_tCmp ?_
          refine w_sub ?_
          refine w_nm F3.ns rfl ?_
          refine w_cInt fun _ => ?_
          refine w_itemStr (i := 0) (c := c0) (by rw [hwd]; rfl) (by rw [sizeLine_eq]; lia) (fun t => ?_)
          refine w_cS [34] (by kernel_rfl) fun _ => w_eqStr (w_tBool ?_)
          by_cases q : c0 = 34
          · have : decide ([c0] = [34]) = true := by simp [q]
            rw [this]; exact kt (by rw [hwd, q]; rfl)
          · have : decide ([c0] = [34]) = false := by simp [q]
            rw [this]; exact kf (by rw [hwd]; simpa using q)
        · refine w_cons ?_
          refine w_asgSub ?_
          refine w_cS [92, 34] (by kernel_rfl) fun t5 => ?_
          refine w_nm F3.ns rfl ?_
          refine w_cInt fun _ => ?_
          have hyl : ys.length = word.length := by rw [st2.length]; simp
          refine w_setItem (j := 0) l3.isList (by rw [hyl, hwd]; simp) (by rw [hyl, sizeLine_eq]; lia) (fun h4 l4 sb4 => w_nil ?_)
          have F4 := frChg F3 sb4 hDL hDb
          have s4 : Strs (ys.set 0 (.str (S [92, 34]) t5)) ((word.map escB).set 0 [92, 34]) := by
            rw [hwd] at st2 ⊢
            cases ys with
            | nil => exact st2.elim
            | cons y ys => exact ⟨⟨t5, rfl⟩, st2.2⟩
          refine w_cons ?_
          refine w_ret ?_
          refine w_joinCall (by kernel_rfl) (by kernel_rfl) ?_
          refine w_nm F4.ns rfl ⟨D, _, _, 2, rfl, l4, s4, ?_, by simp; lia, fun t6 => ?_⟩
          · intro y hy
            rcases List.mem_or_eq_of_mem_set hy with q | q
            · exact hb1 escB escB_len y q
            · rw [q]; simp
          · have := fin F4 (t := t6); unfold wrt at this; rw [if_neg hq, if_neg hw] at this; unfold bareOf at this; rw [if_pos hw2] at this; exact this
        · refine w_cons ?_
          refine w_ret ?_
          refine w_joinCall (by kernel_rfl) (by kernel_rfl) ?_
          refine w_nm F3.ns rfl ⟨D, _, _, 2, rfl, l3.isList, st2, hb1 escB escB_len, by simp; lia, fun t6 => ?_⟩
          have := fin F3 (t := t6); unfold wrt at this; rw [if_neg hq, if_neg hw] at this; unfold bareOf at this; rw [if_neg hw2] at this; exact this
end
end Mine
end
section
open PySem PySem.W PyProof.Rows PySem.Calls
set_option Elab.async false
set_option maxRecDepth 100000
set_option linter.unusedVariables false
set_option linter.unusedSimpArgs false
namespace Mine
def wh4 : List (List Nat) := [[], [10], [13, 9], [32, 10]]
def whites (d : Int) : List Nat := wh4.getD ((d.fdiv 3).fmod 4).toNat []
def txWhite (bare : Bool) (d : Int) : List Nat := if bare = true ∧ whites d = [] then [32] else whites d
def txStep (st : List Nat × Bool) (p : List Nat × Int) : List Nat × Bool :=
  (st.1 ++ txWhite st.2 p.2 ++ wrt p.1 (p.2.fmod 3).toNat, !decide ((wrt p.1 (p.2.fmod 3).toNat).head? = some 34))
def txAll (words : List (List Nat)) (dr : List Int) : List Nat × Bool := (words.zip dr).foldl txStep ([], false)
/-- what _law_text answers -/
def lawText (words : List (List Nat)) (dr : List Int) : List Nat := if (txAll words dr).2 = true then (txAll words dr).1 ++ [92] else (txAll words dr).1.dropLast
theorem whites_len (d : Int) : (whites d).length ≤ 2 := by
  unfold whites
  have h1 := Int.fmod_nonneg_of_pos (d.fdiv 3) (b := 4) (by decide)
  have h2 := Int.fmod_lt_of_pos (d.fdiv 3) (b := 4) (by decide)
  obtain ⟨k, hk⟩ : ∃ k : Nat, (d.fdiv 3).fmod 4 = k := ⟨_, (Int.toNat_of_nonneg h1).symm⟩
  rw [hk]; rw [hk] at h2
  have : k = 0 ∨ k = 1 ∨ k = 2 ∨ k = 3 := by lia
  rcases this with rfl | rfl | rfl | rfl <;> decide
theorem txWhite_len (b : Bool) (d : Int) : (txWhite b d).length ≤ 2 := by
  unfold txWhite; split
  · decide
  · exact whites_len d
theorem bareOf_len (word : List Nat) : (bareOf word).length = word.length ∧ ∀ y ∈ bareOf word, y.length ≤ 2 := by
  unfold bareOf
  have h : ∀ y ∈ word.map escB, y.length ≤ 2 := fun y hy => by obtain ⟨c, _, rfl⟩ := List.mem_map.mp hy; exact escB_len c
  split
  · refine ⟨by simp, fun y hy => ?_⟩
    rcases List.mem_or_eq_of_mem_set hy with q | q
    · exact h y q
    · rw [q]; simp
  · exact ⟨by simp, h⟩
theorem wrt_len (word : List Nat) (way : Nat) : (wrt word way).length ≤ 2 * word.length + 2 := by
  unfold wrt
  split
  · have := flat_le (B := 2) (word.map escQ) (fun y hy => by obtain ⟨c, _, rfl⟩ := List.mem_map.mp hy; exact escQ_len c)
    simp at this ⊢; lia
  · split
    · have := flat_le (B := 2) (word.map escA) (fun y hy => by obtain ⟨c, _, rfl⟩ := List.mem_map.mp hy; simp [escA])
      simp at this ⊢; lia
    · have := flat_le (B := 2) (bareOf word) (bareOf_len word).2
      rw [(bareOf_len word).1] at this; lia
theorem wrt_ne (word : List Nat) (way : Nat) : wrt word way ≠ [] := by
  unfold wrt
  split
  · simp
  · rename_i h
    obtain ⟨c, r, rfl⟩ : ∃ c r, word = c :: r := by cases word with | nil => exact absurd (.inl rfl) h | cons a b => exact ⟨a, b, rfl⟩
    split
    · simp [escA]
    · unfold bareOf
      split
      · simp
      · simp [escB]; split <;> simp
theorem txStep_len (st : List Nat × Bool) (p : List Nat × Int) : (txStep st p).1.length ≤ st.1.length + 2 * p.1.length + 4 := by
  unfold txStep
  have := txWhite_len st.2 p.2
  have := wrt_len p.1 (p.2.fmod 3).toNat
  simp; lia
theorem txFold_len {B : Nat} : ∀ (l : List (List Nat × Int)) (st : List Nat × Bool), (∀ p ∈ l, p.1.length ≤ B) → (l.foldl txStep st).1.length ≤ st.1.length + l.length * (2 * B + 4)
  | [], st, _ => by simp
  | p :: l, st, h => by
    have h1 := txFold_len l (txStep st p) (fun q hq => h q (by simp [hq]))
    have h2 := txStep_len st p
    have h3 := h p (by first | (with_reducible (first | exact im1 | exact im2 | exact im3 | exact sb0 | exact sb1 im1 | exact sb1 im2 | exact sb1 im3)) | exact nmc (adne (by decide)) nm0 | exact nmc (adne (by decide)) (nmc (adnn (by decide)) nm0) | simp)
    have e : (l.length + 1) * (2 * B + 4) = l.length * (2 * B + 4) + (2 * B + 4) := Nat.succ_mul _ _
    simp only [List.foldl_cons, List.length_cons, e]
    generalize l.length * (2 * B + 4) = X at *
    lia
abbrev aTx : Addr := 111
abbrev nWords : Str := Str.ofString "words"
abbrev nDresses : Str := Str.ofString "dresses"
abbrev nBare : Str := Str.ofString "bare"
abbrev nDress : Str := Str.ofString "dress"
theorem ints_get : ∀ {vs : List Value} {ns : List Int}, IntsAre vs ns → ∀ {i : Nat} {v : Value}, vs[i]? = some v → ∃ n t, ns[i]? = some n ∧ v = .int n t
  | _, _, .nil, i, v, e => by simp at e
  | _, _, .cons n t h, 0, v, e => by simp at e; exact ⟨n, t, rfl, e.symm⟩
  | _, _, .cons n t h, i + 1, v, e => by simpa using ints_get h (by simpa using e)
theorem Strs.get' {ys : List Value} {ts : List (List Nat)} (x : Strs ys ts) {i : Nat} {v : Value} (h : ys[i]? = some v) : ∃ t k, ts[i]? = some t ∧ v = .str (S t) k := by
  induction ys generalizing ts i with
  | nil => simp at h
  | cons v' ys ih =>
    cases ts with
    | nil => exact x.elim
    | cons t' ts =>
      obtain ⟨⟨k, rfl⟩, x⟩ := x
      cases i with
      | zero => simp at h; subst h; exact ⟨t', k, rfl, rfl⟩
      | succ i => exact by simpa using ih x (i := i) (by simpa using h)
noncomputable def txBody (w : World) : List Stmt := match (((bodyAt w aTx)[2]?).getD (.Pass ⟨0, 0, 0, 0⟩)) with
  | .For _ _ b _ _ => b
  | _ => []
section
variable {prog : Program} {w : World} {A : Around} {h H : Heap} {mg mb : Str → Option Value} {env : Env}
theorem kpFn {w : World} {mg mb : Str → Option Value} {h : Heap} {M : Model} (a : Addr) (G : G0 w mg mb h) (e : (KH w).lookup a = some (objAt w a)) (hd : (objAt w a).data = .func (fnAt w a)) : Kp M h (.ref a) := Kp.func (G.K _ _ e) hd
set_option maxHeartbeats 4000000 in
theorem tx_call {n : Nat} {wl dl : Addr} {ys ds : List Value} {words : List (List Nat)} {dr : List Int} {Q : Value → Heap → Prop} (G : Gd w mg mb H h) (ok : OkA (n + 2) A) (hw : Ls h wl ys) (hd : Ls h dl ds) (sw : Strs ys words) (sd : IntsAre ds dr)
    (hl : words.length = dr.length) (hz : words.length ≤ 1000) (hB : ∀ x ∈ words, x.length ≤ 10)
    (k : ∀ h' t, Ext h h' → Q (.str (S (lawText words dr)) t) h') : Wc (model prog w) A (.call (.ref aTx) ⟨[.ref wl, .ref dl], []⟩) Q h := by
  refine c_callK (n := n + 1) (binds := [(nWords, .ref wl), (nDresses, .ref dl)]) G.now ok (by kernel_rfl) (by kernel_rfl) (by kernel_rfl) (by kernel_rfl) (fun _ => by kernel_rfl) (by kernel_rfl) (by kernel_rfl) (fun L h₁ F ok' => ?_)
  refine w_cons ?_
  refine w_asg ?_
  refine w_cS [] (by kernel_rfl) fun t0 => ?_
  refine w_st F fun h2 F2 => ?_
  refine w_cons ?_
  refine w_asg ?_
  refine w_cBool ?_
  refine w_st F2 fun h3 F3 => ?_
  refine w_cons ?_
  refine w_for ?_
  refine w_callN ?_
  refine w_gB (v := .type "zip") (G.ext F3.keep).now (by kernel_rfl) (by kernel_rfl) (by decide) ?_
  refine w_args ?_
  refine w_arg ?_
  refine w_nm F3.ns rfl ?_
  refine w_arg ?_
  refine w_nm F3.ns rfl ?_
  refine w_arg0 ?_
  refine w_kw0 ⟨Kp.type _, ?_⟩
  have hL3 : L < h3.objs.size := F3.ns.lt
  have w3 := hw.ext F3.keep
  have d3 := hd.ext F3.keep
  have hwL : wl ≠ L := fun q => Nat.not_lt.mpr F.above (q ▸ hw.lt)
  have hdL : dl ≠ L := fun q => Nat.not_lt.mpr F.above (q ▸ hd.lt)
  have lw := sw.length
  have ld := sd.length
  have tl : ∀ i, (((words.zip dr).take i).foldl txStep ([], false)).1.length ≤ 24 * 1000 := fun i => by
    have := txFold_len (B := 10) ((words.zip dr).take i) ([], false) (fun p hp => hB _ (List.of_mem_zip (List.mem_of_mem_take hp)).1)
    have e : ((words.zip dr).take i).length ≤ 1000 := by simp; lia
    have := Nat.mul_le_mul_right (2 * 10 + 4) e
    simp at *; lia
  refine w_forI (iterZip ok'.3 w3.isList d3.isList) [L] (by simp only [List.mem_singleton, forall_eq, List.mem_cons, List.not_mem_nil, or_false, not_or]; exact ⟨hL3, hwL.symm, hdL.symm⟩)
    (fun b0 i h' => ∃ m t, Fr h L h' m ∧ m (Str.ofString "text") = some (.str (S (((words.zip dr).take i).foldl txStep ([], false)).1) t) ∧ m nBare = some (.bool (((words.zip dr).take i).foldl txStep ([], false)).2))
    (fun b0 i h1 h2 ⟨m, t, F, e⟩ off => ⟨m, t, frOff F off hL3, e⟩) (fun b0 => ⟨_, t0, F3, rfl, rfl⟩) (fun b0 i v h4 hi hb hP hJ k4 => ?_) (fun b0 h4 hJ k4 => ?_)
  · obtain ⟨T, x, y, rfl, hx, hy, hT⟩ := hP
    obtain ⟨m, tt, F4, mt, mb'⟩ := hJ
    obtain ⟨word, tw, hwd, rfl⟩ := sw.get' hx
    obtain ⟨d, td, hdd, rfl⟩ := ints_get sd hy
    generalize hst : ((words.zip dr).take i).foldl txStep ([], false) = st at mt mb'
    have hst' : ((words.zip dr).take (i + 1)).foldl txStep ([], false) = txStep st (word, d) := by
      have : (words.zip dr)[i]? = some (word, d) := by rw [List.getElem?_zip_eq_some]; exact ⟨hwd, hdd⟩
      rw [List.take_add_one, this, List.foldl_append, hst]; rfl
    have hstl : st.1.length ≤ 24 * 1000 := by rw [← hst]; exact tl i
    have hstl' : (txStep st (word, d)).1.length ≤ 24 * 1000 := by rw [← hst']; exact tl (i + 1)
    have hwl : word.length ≤ 10 := hB _ (List.mem_of_getElem? hwd)
    have X4 : Fs h h4 [L] L h4 m := Fs.mk0 F4 _
    refine w_asgTup2F X4 ok'.3 hT (fun h5 X5 k5 => ?_)
    refine w_cons ?_
    refine w_asg ?_
    refine w_sub ?_
    refine w_list ?_
    refine w_arg (w_cS [] (by kernel_rfl) fun ta => ?_)
    refine w_arg (w_cS [10] (by kernel_rfl) fun tb => ?_)
    refine w_arg (w_cS [13, 9] (by kernel_rfl) fun tc => ?_)
    refine w_arg (w_cS [32, 10] (by kernel_rfl) fun te => ?_)
    refine w_arg0 ⟨by simp [sizeLine_eq], fun h6 la hla e6 l6 z6 => ?_⟩
    have X6 := X5.ext e6
    refine w_binOp ?_
    refine w_binOp ?_
    refine w_nm X6.ns rfl ?_
    refine w_cInt fun _ => ?_
    refine w_divInt (by decide) fun _ => ?_
    refine w_cInt fun _ => ?_
    refine w_modInt (by decide) fun _ => ?_
    have h41 := Int.fmod_nonneg_of_pos (d.fdiv 3) (b := 4) (by decide)
    have h42 := Int.fmod_lt_of_pos (d.fdiv 3) (b := 4) (by decide)
    obtain ⟨j, hj⟩ : ∃ j : Nat, (d.fdiv 3).fmod 4 = j := ⟨_, (Int.toNat_of_nonneg h41).symm⟩
    have hj4 : j < 4 := by lia
    have hwhites : whites d = wh4.getD j [] := by unfold whites; rw [hj]; rfl
    rw [hj]
    obtain ⟨tq, hq⟩ := Strs.get (ts := wh4) (show Strs [Value.str (S []) _, Value.str (S [10]) _, Value.str (S [13, 9]) _, Value.str (S [32, 10]) _] wh4 from ⟨⟨ta, rfl⟩, ⟨tb, rfl⟩, ⟨tc, rfl⟩, ⟨te, rfl⟩, trivial⟩) (i := j) (t := whites d) (by
      rw [hwhites]
      have : j = 0 ∨ j = 1 ∨ j = 2 ∨ j = 3 := by lia
      rcases this with rfl | rfl | rfl | rfl <;> rfl)
    refine w_itemL l6.isList hq (by simp [sizeLine_eq]) ?_
    refine w_stF X6 fun h7 X7 _ => ?_
    have rest : ∀ h8 m8 t8, Fs h h4 [L] L h8 m8 → m8 (Str.ofString "white") = some (.str (S (txWhite st.2 d)) t8) → m8 (Str.ofString "text") = some (.str (S st.1) tt) → m8 nWord = some (.str (S word) tw) → m8 nDress = some (.int d td) → 
        Wp (model prog w) (A.deeper (envAt w aTx L)) (execs ((txBody w).drop 2) (envAt w aTx L)) (fun f h3 => match f with
          | .next | .cont => Kept [L] h4 h3 ∧ ∃ m t, Fr h L h3 m ∧ m (Str.ofString "text") = some (.str (S (((words.zip dr).take (i + 1)).foldl txStep ([], false)).1) t) ∧ m nBare = some (.bool (((words.zip dr).take (i + 1)).foldl txStep ([], false)).2)
          | .brk => False
          | .ret v => False) h8 := by
      intro h8 m8 t8 X8 e1 e2 e3 e4
      have h31 := Int.fmod_nonneg_of_pos d (b := 3) (by decide)
      obtain ⟨j3, hj3⟩ : ∃ j3 : Nat, d.fmod 3 = j3 := ⟨_, (Int.toNat_of_nonneg h31).symm⟩
      refine w_cons ?_
      refine w_asg ?_
      refine w_callN ?_
      refine w_gK (G.ext X8.F.keep).now (v := .ref aWr) (by kernel_rfl) ?_
      refine w_args ?_
      refine w_arg ?_
      refine w_nm X8.ns e3 ?_
      refine w_arg ?_
      refine w_binOp ?_
      refine w_nm X8.ns e4 ?_
      refine w_cInt fun _ => ?_
      refine w_modInt (by decide) fun _ => ?_
      rw [hj3]
      refine w_arg0 ?_
      refine w_kw0 ⟨kpFn aWr (G.ext X8.F.keep).now (by kernel_rfl) (by kernel_rfl), ?_⟩
      refine w_call (wr_call (n := n) (G.ext X8.F.keep) ok' (by lia) (fun h9 t9 e9 => ?_))
      have X9 := X8.ext e9
      refine w_stF X9 fun h10 X10 _ => ?_
      obtain ⟨c0, r0, hwr⟩ : ∃ c0 r0, wrt word j3 = c0 :: r0 := by cases hq : wrt word j3 with | nil => exact absurd hq (wrt_ne _ _) | cons a b => exact ⟨a, b, rfl⟩
      have hwl3 := wrt_len word j3
      refine w_cons ?_
      refine w_asg ?_
      refine w_cmp ?_
      refine w_sub ?_
      refine w_nm X10.ns rfl ?_
      refine w_cInt fun _ => ?_
      refine w_itemStr (i := 0) (c := c0) (by rw [hwr]; rfl) (by rw [sizeLine_eq]; lia) (fun t => ?_)
      refine w_cS [34] (by kernel_rfl) fun _ => ?_
      refine w_neStr ?_
      refine w_stF X10 fun h11 X11 _ => ?_
      refine w_cons ?_
      refine w_asg ?_
      refine w_binOp ?_
      refine w_binOp ?_
      refine w_nm X11.ns e2 ?_
      refine w_nm X11.ns e1 ?_
      have := txWhite_len st.2 d
      refine w_addStr (fun _ => ?_) (by rw [sizeLine_eq]; lia)
      refine w_nm X11.ns rfl ?_
      refine w_addStr (fun t12 => ?_) (by rw [sizeLine_eq]; simp; lia)
      refine w_stF X11 fun h12 X12 _ => ?_
      refine w_nil ?_
      rw [hst']
      have e5 : txStep st (word, d) = (st.1 ++ txWhite st.2 d ++ wrt word j3, !decide ((wrt word j3).head? = some 34)) := by unfold txStep; simp only [hj3]; rfl
      refine ⟨X12.K, _, t12, X12.F, ?_, ?_⟩
      · rw [e5]; rfl
      · rw [e5, hwr]
        show some (Value.bool (!decide ([c0] = [34]))) = some (Value.bool (!decide ((c0 :: r0).head? = some 34)))
        simp
    refine w_cons (w_ifP (P := st.2 = true ∧ whites d = []) (fun Q' kt kf => ?_) (fun hq2 => ?_) (fun hq2 => w_nil ?_))
    · refine w_tAnd ?_
      refine w_tPlain ?_
      refine w_nm X7.ns mb' ?_
      refine w_tBool ⟨fun e => ?_, fun e => kf (fun q => by rw [q.1] at e; cases e)⟩
      refine w_tAnd ?_
      refine w_tCmp ?_
      refine w_nm X7.ns rfl ?_
      refine w_cS [] (by kernel_rfl) fun _ => ?_
      refine w_eqStr ?_
      refine w_tBool ⟨fun e2 => w_tAnd0 (kt ⟨e, by simpa using e2⟩), fun e2 => kf (fun q => ?_)⟩
      simp [q.2] at e2
    · refine w_cons ?_
      refine w_asg ?_
      refine w_cS [32] (by kernel_rfl) fun ts => ?_
      refine w_stF X7 fun h8 X8 _ => ?_
      refine w_nil ?_
      refine (rest h8 _ ts X8 ?_ mt rfl rfl).mono (fun f h3 y => by cases f <;> first | exact y | exact y.elim)
      have : txWhite st.2 d = [32] := by unfold txWhite; rw [if_pos hq2]
      rw [this]; rfl
    · refine (rest h7 _ tq X7 ?_ mt rfl rfl).mono (fun f h3 y => by cases f <;> first | exact y | exact y.elim)
      have : txWhite st.2 d = whites d := by unfold txWhite; rw [if_neg hq2]
      rw [this]; rfl
  · obtain ⟨m, tt, F4, mt, mb'⟩ := hJ
    have e0 : (words.zip dr).take (min ys.length ds.length) = words.zip dr := List.take_of_length_le (by simp; lia)
    rw [e0] at mt mb'
    have tl0 : ((words.zip dr).foldl txStep ([], false)).1.length ≤ 24 * 1000 := by have := tl (min ys.length ds.length); rw [e0] at this; exact this
    refine w_nil ?_
    refine w_cons ?_
    refine w_ret ?_
    refine w_ifExp ?_
    refine w_tPlain ?_
    refine w_nm F4.ns mb' ?_
    refine w_tBool ⟨fun e => ?_, fun e => ?_⟩
    · refine w_binOp ?_
      refine w_nm F4.ns mt ?_
      refine w_cS [92] (by kernel_rfl) fun _ => ?_
      refine w_addStr (fun t5 => ?_) (by rw [sizeLine_eq]; simp; lia)
      have : lawText words dr = (txAll words dr).1 ++ [92] := by unfold lawText; rw [if_pos (show (txAll words dr).2 = true from e)]
      have kk := k h4 t5 F4.keep
      rw [this] at kk
      exact kk
    · refine w_sub ?_
      refine w_nm F4.ns mt ?_
      refine w_slice ?_
      refine w_part0 ?_
      refine w_part ?_
      refine w_neg ?_
      refine w_cInt fun _ => ⟨_, _, rfl, fun t5 => ?_⟩
      refine w_part0 ?_
      refine w_sliceStrTo (fun t6 h5 e5 => ?_) (by rw [sizeLine_eq]; lia)
      rw [slice_butLast]
      have : lawText words dr = (txAll words dr).1.dropLast := by unfold lawText; rw [if_neg (by rw [show (txAll words dr).2 = false from e]; decide)]
      have kk := k h5 t6 (F4.kept e5).keep
      rw [this] at kk
      exact kk
end
end Mine
end
section
open PySem PySem.W PyProof.Rows PySem.Calls
set_option Elab.async false
set_option maxRecDepth 100000
set_option linter.unusedVariables false
set_option linter.unusedSimpArgs false
namespace Mine
/-! ## a queue that turns -/
def turnL {α : Type} : Nat → List α → List α
  | 0, _ => []
  | _ + 1, [] => []
  | n + 1, v :: r => v :: turnL n (r ++ [v])
def turnQ {α : Type} : Nat → List α → List α
  | 0, q => q
  | _ + 1, [] => []
  | n + 1, v :: r => turnQ n (r ++ [v])
theorem turn_step {α : Type} : ∀ (n : Nat) (q : List α), q ≠ [] → ∃ v r, turnQ n q = v :: r ∧ turnQ (n + 1) q = r ++ [v] ∧ turnL (n + 1) q = turnL n q ++ [v]
  | _, [], h => absurd rfl h
  | 0, v :: r, _ => ⟨v, r, rfl, rfl, rfl⟩
  | n + 1, v :: r, _ => by
    obtain ⟨u, s, h1, h2, h3⟩ := turn_step n (r ++ [v]) (by first | (with_reducible (first | exact im1 | exact im2 | exact im3 | exact sb0 | exact sb1 im1 | exact sb1 im2 | exact sb1 im3)) | exact nmc (adne (by decide)) nm0 | exact nmc (adne (by decide)) (nmc (adnn (by decide)) nm0) | simp)
    refine ⟨u, s, h1, h2, ?_⟩
    show v :: turnL (n + 1) (r ++ [v]) = v :: turnL n (r ++ [v]) ++ [u]
    rw [h3]; rfl
theorem turnL_length {α : Type} (n : Nat) (q : List α) (h : q ≠ []) : (turnL n q).length = n := by
  induction n with
  | zero => rfl
  | succ n ih => obtain ⟨v, r, _, _, h3⟩ := turn_step n q h; rw [h3]; simp [ih]
theorem turnQ_length {α : Type} (n : Nat) (q : List α) : (turnQ n q).length = q.length := by
  induction n generalizing q with
  | zero => rfl
  | succ n ih => cases q with | nil => rfl | cons v r => show (turnQ n (r ++ [v])).length = _; rw [ih]; simp
theorem LexM.off {h h' : Heap} {a : LexA} {text : List Nat} {p : Nat} {toks : List Value} {n0 b0 : Addr} (m : LexM h a text p toks) (k : Off n0 b0 h h') (h1 : a.d < n0) (h2 : a.pb < n0) (h3 : a.pl < n0) : LexM h' a text p toks := by
  obtain ⟨⟨t1, t2, ⟨es, n, e, r⟩⟩, ⟨np, pb⟩, ⟨t, ⟨o, ho, r'⟩⟩, le⟩ := m
  exact ⟨⟨t1, t2, es, n, k _ _ (.inl h1) e, r⟩, ⟨np, k _ _ (.inl h2) pb⟩, ⟨t, o, k _ _ (.inl h3) ho, r'⟩, le⟩
theorem LexM.lt {h : Heap} {a : LexA} {text : List Nat} {p : Nat} {toks : List Value} (m : LexM h a text p toks) : a.d < h.objs.size ∧ a.pb < h.objs.size ∧ a.pl < h.objs.size := by
  obtain ⟨⟨t1, t2, d⟩, pb, ⟨t, ⟨o, ho, r'⟩⟩, le⟩ := m
  exact ⟨d.lt, pb.lt, Heap.lt_size ho⟩
theorem Ls.off {n0 b0 : Addr} {h h' : Heap} {a : Addr} {vs : List Value} (x : Ls h a vs) (k : Off n0 b0 h h') (hn : a < n0 ∨ b0 ≤ a) : Ls h' a vs := let ⟨n, l⟩ := x; ⟨n, k _ _ hn l⟩
abbrev aTu : Addr := 118
abbrev nLexer : Str := Str.ofString "lexer"
abbrev nTimes : Str := Str.ofString "times"
abbrev nPassed : Str := Str.ofString "passed"
theorem iterRange0 {prog : Program} {w : World} {A : Around} {h : Heap} {target : Expr} {r : Addr} {n : Nat} {t1 t2 t3 : Tok} (ht : isNameT target = true) (hh : A.handled = none) (hr : IsRange h r 0 n 1 t1 t2 t3) (hz : n ≤ 1000000) :
    Iter prog w A target (fun Q => Wp (model prog w) A (pyIter (.ref r)) Q h) n (fun i v _ => ∃ t, v = .int (i : Nat) t) [] h := by
  have := iterRange (prog := prog) (w := w) (n := n) (a := 0) (t1 := t1) (t2 := t2) (t3 := t3) ht hh (by rw [Int.zero_add]; exact hr) (small_one (by lia) (by lia) (by lia) (by lia))
  simpa using this
section
variable {prog : Program} {w : World} {A : Around} {h H : Heap} {mg mb : Str → Option Value} {env : Env}
set_option maxHeartbeats 4000000 in
theorem tu_call {a : LexA} {text : List Nat} {p n times : Nat} {tt : Tok} {toks : List Value} {Q : Value → Heap → Prop} (G : Gd w mg mb H h) (ok : OkA (n + 2) A) (C : LexC w H h a text) (X : LexM h a text p toks) (hne : toks ≠ []) (hz : toks.length ≤ 1000) (ht : times ≤ 1000)
    (k : ∀ h' D, LexM h' a text p (turnQ times toks) → Kept [a.pb] h h' → Ls h' D (turnL times toks) → h.objs.size ≤ D → Q (.ref D) h') :
    Wc (model prog w) A (.call (.ref aTu) ⟨[.ref a.x, .int times tt], []⟩) Q h := by
  refine c_callK (n := n + 1) (binds := [(nLexer, .ref a.x), (nTimes, .int times tt)]) G.now ok (by kernel_rfl) (by kernel_rfl) (by kernel_rfl) (by kernel_rfl) (fun _ => by kernel_rfl) (by kernel_rfl) (by kernel_rfl) (fun L h₁ F ok' => ?_)
  have hpbH : H.get? a.pb = none := C.fr _ (by first | exact LexA.m_x _ | exact LexA.m_d _ | exact LexA.m_pb _ | exact LexA.m_st _ | exact LexA.m_sd _ | exact LexA.m_f _ | exact LexA.m_c _ | exact LexA.m_ct _ | exact LexA.m_cp _ | exact LexA.m_pl _)
  have hSH : ∀ i ∈ [a.pb], H.get? i = none := List.forall_mem_singleton.mpr hpbH
  have F1 := frHid F [a.pb]
  have hb0 : (hideAll h [a.pb]).get? a.pb = none := hideAll_none _ (by first | (with_reducible (first | exact im1 | exact im2 | exact im3 | exact sb0 | exact sb1 im1 | exact sb1 im2 | exact sb1 im3)) | exact nmc (adne (by decide)) nm0 | exact nmc (adne (by decide)) (nmc (adnn (by decide)) nm0) | simp)
  refine w_cons ?_
  refine w_asg ?_
  refine w_list ?_
  refine w_arg0 ⟨by simp, fun h2 pl hpl e2 l2 z2 => ?_⟩
  have F2 := F1.kept e2
  have hL2 : L < h2.objs.size := F2.ns.lt
  have hLl : L < pl := by rw [hpl]; exact F1.ns.lt
  have hplL : pl ≠ L := Nat.ne_of_gt hLl
  obtain ⟨ld, lb, ll⟩ := X.lt
  have hle : h.objs.size ≤ L := F.above
  have hbL : a.pb ≠ L := Nat.ne_of_lt (Nat.lt_of_lt_of_le lb hle)
  have hdL : a.d ≠ L := Nat.ne_of_lt (Nat.lt_of_lt_of_le ld hle)
  have hlL : a.pl ≠ L := Nat.ne_of_lt (Nat.lt_of_lt_of_le ll hle)
  refine w_stS F2 fun h3 F3 sb3 => ?_
  have l3 := l2.same sb3 hplL
  have X3 : LexM h3 a text p toks := ((X.ext F.keep).ext e2).same sb3 hdL hbL hlL
  have z3 : h3.objs.size = h2.objs.size := sb3.1
  refine w_cons ?_
  refine w_for ?_
  refine w_callN ?_
  have G3 : Gd w mg mb H h3 := (G.hid hSH).ext F3.keep
  refine w_gB (v := .type "range") G3.now (by kernel_rfl) (by kernel_rfl) (by decide) ?_
  refine w_args ?_
  refine w_arg ?_
  refine w_nm F3.ns rfl ?_
  refine w_arg0 ?_
  refine w_kw0 ⟨Kp.type _, ?_⟩
  refine w_range fun h4 r t1 t2 t3 hr e4 z4 ir => ?_
  have F4 := F3.kept e4
  have l4 := l3.ext e4
  have X4 := X3.ext e4
  have C4 : LexC w H h4 a text := C.kept ((Kept.of_fr F4).mono (by first | exact LexA.s_nil _ | exact LexA.s_pb _ | exact LexA.s_dl _ | exact LexA.s_pl _ | simp [LexA.mut]))
  obtain ⟨ld4, lb4, ll4⟩ := X4.lt
  have pl4 := l4.lt
  have L4 : L < h4.objs.size := F4.ns.lt
  have ndb : a.d ≠ a.pb ∧ a.pl ≠ a.pb := by
    exact ⟨(nd_at C.nd (i := 1) (j := 2) rfl rfl (by decide)), fun q => (nd_at C.nd (i := 2) (j := 9) rfl rfl (by decide)) q.symm⟩
  have hplb : pl ≠ a.pb := by intro q; subst q; exact absurd lb (Nat.not_lt.mpr (Nat.le_trans hle (Nat.le_of_lt hLl)))
  have hpld : pl ≠ a.d := by intro q; subst q; exact absurd ld (Nat.not_lt.mpr (Nat.le_trans hle (Nat.le_of_lt hLl)))
  have hpll : pl ≠ a.pl := by intro q; rw [q] at hLl; exact absurd ll (Nat.not_lt.mpr (Nat.le_trans hle (Nat.le_of_lt hLl)))
  refine w_forI (iterRange0 rfl ok'.3 ir (by lia)) [L, a.pb, pl] (by simp only [List.mem_cons, List.not_mem_nil, or_false, not_false_eq_true, and_true]; rintro b (rfl | rfl | rfl) <;> assumption)
    (fun b0 i h' => ∃ m, Fr (hideAll h [a.pb]) L h' m ∧ m nLexer = some (.ref a.x) ∧ m nPassed = some (.ref pl) ∧ Ls h' pl (turnL i toks) ∧ LexM h' a text p (turnQ i toks))
    (fun b0 i h1 h2 ⟨m, F, e1, e2, l, X⟩ off => ⟨m, frOff F off L4, e1, e2, l.off off (.inl pl4), X.off off ld4 lb4 ll4⟩) (fun b0 => ⟨_, F4, rfl, rfl, l4, X4⟩) (fun b0 i v h5 hi hb hP hJ k5 => ?_) (fun b0 h5 hJ k5 => ?_)
  · obtain ⟨tv, rfl⟩ := hP
    obtain ⟨m, F5, e1, e2', l5, X5⟩ := hJ
    obtain ⟨u, r', q1, q2, q3⟩ := turn_step i toks hne
    have hlen : (turnQ i toks).length = toks.length := turnQ_length _ _
    rw [q1] at X5 hlen
    have Y5 : Fs (hideAll h [a.pb]) h5 [L, a.pb, pl] L h5 m := Fs.mk0 F5 _
    refine w_asgName ?_
    refine w_stF Y5 fun h6 Y6 sb6 => ?_
    have l6 := l5.same sb6 hplL
    have X6 := X5.same sb6 hdL hbL hlL
    have ctx : ∀ h' m', Fr (hideAll h [a.pb]) L h' m' → Gd w mg mb H h' ∧ LexC w H h' a text := fun h' m' F' => ⟨(G.hid hSH).ext F'.keep, C.kept ((Kept.of_fr F').mono (by first | exact LexA.s_nil _ | exact LexA.s_pb _ | exact LexA.s_dl _ | exact LexA.s_pl _ | simp [LexA.mut]))⟩
    obtain ⟨G6, C6⟩ := ctx _ _ Y6.F
    obtain ⟨t1', t2', d6⟩ := X6.d
    refine w_cons ?_
    refine w_expr ?_
    refine w_meth PySem.F.plainAttrs_list PySem.F.slot_list_append PySem.F.type_list_append ?_
    refine w_nm Y6.ns e2' ⟨l6.ty, ?_, ?_⟩
    · intro b e; injection e with e; subst e; obtain ⟨nn, e⟩ := l6; exact ⟨_, e, rfl⟩
    refine w_args ?_
    refine w_arg ?_
    refine w_mcall ?_
    refine w_nm Y6.ns e1 ?_
    refine w_method G6.now.K C6.ix d6 (pgC w _) (fiGT w) (fnGT w) rfl ?_
    refine w_args0 (kpFn aGT G6.now (by kernel_rfl) (by kernel_rfl)) ?_
    refine w_call (gt_pop (n := n) G6 ok' C6 X6 (by simp at hlen; lia) (fun h7 X7 k7 => ?_))
    refine w_arg0 ?_
    refine w_kw0 ⟨Kp.builtin _, ?_⟩
    have Y7 := Y6.kept k7 (List.forall_mem_singleton.mpr hb0) (by simpa using hbL.symm) (by first | (with_reducible (first | exact im1 | exact im2 | exact im3 | exact sb0 | exact sb1 im1 | exact sb1 im2 | exact sb1 im3)) | exact nmc (adne (by decide)) nm0 | exact nmc (adne (by decide)) (nmc (adnn (by decide)) nm0) | simp)
    have l7 : Ls h7 pl (turnL i toks) := lsKept l6 k7 (by simpa using hplb)
    refine w_append l7 (by rw [turnL_length _ _ hne, sizeLine_eq]; lia) (fun h8 l8 sb8 => ⟨fun a e => (by cases e), ?_⟩)
    have Y8 := Y7.kept (Kept.of_same (S := [pl]) sb8 (by first | (with_reducible (first | exact im1 | exact im2 | exact im3 | exact sb0 | exact sb1 im1 | exact sb1 im2 | exact sb1 im3)) | exact nmc (adne (by decide)) nm0 | exact nmc (adne (by decide)) (nmc (adnn (by decide)) nm0) | simp)) (List.forall_mem_singleton.mpr (get_none (by rw [hideAll_size]; exact Nat.le_trans hle (Nat.le_of_lt hLl)))) (by simpa using hplL.symm) (by first | (with_reducible (first | exact im1 | exact im2 | exact im3 | exact sb0 | exact sb1 im1 | exact sb1 im2 | exact sb1 im3)) | exact nmc (adne (by decide)) nm0 | exact nmc (adne (by decide)) (nmc (adnn (by decide)) nm0) | simp)
    have X8 := X7.same sb8 hpld.symm hplb.symm hpll.symm
    obtain ⟨G8, C8⟩ := ctx _ _ Y8.F
    obtain ⟨t1'', t2'', d8⟩ := X8.d
    refine w_cons ?_
    refine w_expr ?_
    refine w_mcall ?_
    refine w_nm Y8.ns e1 ?_
    refine w_method G8.now.K C8.ix d8 (pgC w _) (fiPT w) (fnPT w) rfl ?_
    refine w_args ?_
    refine w_arg ?_
    refine w_sub ?_
    refine w_nm Y8.ns e2' ?_
    refine w_neg ?_
    refine w_cInt fun _ => ⟨_, _, rfl, fun _ => ?_⟩
    refine w_itemI (j := i) (x := u) l8.isList (.inr ?_) (by lia) ?_ ?_ ?_
    · simp [turnL_length _ _ hne]; lia
    · rw [List.getElem?_append_right (by rw [turnL_length _ _ hne]; lia), turnL_length _ _ hne]; simp
    · simp [turnL_length _ _ hne, sizeLine_eq]; lia
    refine w_arg0 ?_
    refine w_kw0 ⟨kpFn aPT G8.now (by kernel_rfl) (by kernel_rfl), ?_⟩
    refine w_call (pt_call (n := n) G8 ok' C8 X8 (by simp at hlen; lia) (fun h9 X9 k9 => ⟨fun a e => (by cases e), ?_⟩))
    have Y9 := Y8.kept k9 (List.forall_mem_singleton.mpr hb0) (by simpa using hbL.symm) (by first | (with_reducible (first | exact im1 | exact im2 | exact im3 | exact sb0 | exact sb1 im1 | exact sb1 im2 | exact sb1 im3)) | exact nmc (adne (by decide)) nm0 | exact nmc (adne (by decide)) (nmc (adnn (by decide)) nm0) | simp)
    have l9 := lsKept l8 k9 (by simpa using hplb)
    refine w_nil ⟨Y9.K, _, Y9.F, e1, e2', ?_, ?_⟩
    · rw [q3]; exact l9
    · rw [q2]; exact X9
  · obtain ⟨m, F5, e1, e2', l5, X5⟩ := hJ
    refine w_nil ?_
    refine w_cons ?_
    refine w_ret ?_
    refine w_nm F5.ns e2' ?_
    exact k h5 pl X5 (Kept.of_fr F5) l5 (Nat.le_trans hle (Nat.le_of_lt hLl))
end
end Mine
end
section
open PySem PySem.W PyProof.Rows PySem.Calls
set_option Elab.async false
set_option maxRecDepth 100000
set_option linter.unusedVariables false
set_option linter.unusedSimpArgs false
namespace Mine
/-- a table whose records lie where R says -/
def TabR (R : Addr → Prop) (H h : Heap) (P : Addr) (places : List (Pos × Str)) : Prop := ∃ ps, h.get? P = some (tabObj ps) ∧ TriplesOk ps.toList ∧
  ∀ q ∈ places, codeAmong q.1 ps.toList = none ∨ ∃ c', codeAmong q.1 ps.toList = some (.ref c') ∧ h.CodeRec (.ref c') q.2 ∧ H.get? c' = none ∧ c' ≠ P ∧ R c'
theorem TabR.tabP {R : Addr → Prop} {H h : Heap} {P : Addr} {places : List (Pos × Str)} (T : TabR R H h P places) : TabP H h P places :=
  let ⟨ps, e, t, r⟩ := T; ⟨ps, e, t, fun q hq => (r q hq).imp id fun ⟨c', a, b, c, d, _⟩ => ⟨c', a, b, c, d⟩⟩
theorem TabP.tabR {H h : Heap} {P : Addr} {places : List (Pos × Str)} (T : TabP H h P places) : TabR (fun c => c < h.objs.size) H h P places :=
  let ⟨ps, e, t, r⟩ := T; ⟨ps, e, t, fun q hq => (r q hq).imp id fun ⟨c', a, b, c, d⟩ => ⟨c', a, b, c, d, by obtain ⟨o, vs, e1, e2⟩ := CodeRec.fields b; exact Heap.lt_size e1⟩⟩
theorem TabR.imp {R R' : Addr → Prop} {H h : Heap} {P : Addr} {places : List (Pos × Str)} (T : TabR R H h P places) (hr : ∀ c, c < h.objs.size → R c → R' c) : TabR R' H h P places :=
  let ⟨ps, e, t, r⟩ := T; ⟨ps, e, t, fun q hq => (r q hq).imp id fun ⟨c', a, b, c, d, x⟩ => ⟨c', a, b, c, d, hr c' (by obtain ⟨o, vs, e1, e2⟩ := CodeRec.fields b; exact Heap.lt_size e1) x⟩⟩
theorem TabR.kept {R : Addr → Prop} {S : List Addr} {H h h' : Heap} {P : Addr} {places : List (Pos × Str)} (T : TabR R H h P places) (k : Kept S h h') (hP : P ∉ S) (hS : ∀ i ∈ S, ∀ o vs, h.get? i = some o → o.data ≠ .fields vs) : TabR R H h' P places := by
  obtain ⟨ps, e, t, r⟩ := T
  refine ⟨ps, k _ _ hP e, t, fun q hq => (r q hq).imp id fun ⟨c', e1, e2, e3⟩ => ⟨c', e1, CodeRec.keptTo e2 (fun o ho => k _ _ (fun m => ?_) ho), e3⟩⟩
  obtain ⟨o', vs, e4, e5⟩ := CodeRec.fields e2
  exact hS _ m o' vs e4 e5
theorem TabR.ext {R : Addr → Prop} {H h h' : Heap} {P : Addr} {places : List (Pos × Str)} (T : TabR R H h P places) (k : Ext h h') : TabR R H h' P places := T.kept (Kept.of_ext (S := []) k) (by first | (with_reducible (first | exact im1 | exact im2 | exact im3 | exact sb0 | exact sb1 im1 | exact sb1 im2 | exact sb1 im3)) | exact nmc (adne (by decide)) nm0 | exact nmc (adne (by decide)) (nmc (adnn (by decide)) nm0) | simp) (by first | (with_reducible (first | exact im1 | exact im2 | exact im3 | exact sb0 | exact sb1 im1 | exact sb1 im2 | exact sb1 im3)) | exact nmc (adne (by decide)) nm0 | exact nmc (adne (by decide)) (nmc (adnn (by decide)) nm0) | simp)
theorem TabR.off {R : Addr → Prop} {n0 b0 : Addr} {H h h' : Heap} {P : Addr} {places : List (Pos × Str)} (T : TabR R H h P places) (k : Off n0 b0 h h') (hP : P < n0) (hR : ∀ c, R c → c < n0 ∨ b0 ≤ c) : TabR R H h' P places := by
  obtain ⟨ps, e, t, r⟩ := T
  exact ⟨ps, k _ _ (.inl hP) e, t, fun q hq => (r q hq).imp id fun ⟨c', e1, e2, e3, e4, e5⟩ => ⟨c', e1, CodeRec.keptTo e2 (fun o ho => k _ _ (hR _ e5) ho), e3, e4, e5⟩⟩
theorem TabR.same {R : Addr → Prop} {L : Addr} {m : Str → Option Value} {H h h' : Heap} {P : Addr} {places : List (Pos × Str)} (T : TabR R H h P places) (ns : h.Ns L m) (sb : Heap.SameBut L h h') (hP : P ≠ L) : TabR R H h' P places :=
  T.kept (Kept.of_same (S := [L]) sb (by first | (with_reducible (first | exact im1 | exact im2 | exact im3 | exact sb0 | exact sb1 im1 | exact sb1 im2 | exact sb1 im3)) | exact nmc (adne (by decide)) nm0 | exact nmc (adne (by decide)) (nmc (adnn (by decide)) nm0) | simp)) (by simpa using hP) (by
    intro i hi o vs ho hv
    simp only [List.mem_singleton] at hi
    subst hi
    obtain ⟨o', es, epo, e', hd', _⟩ := ns
    rw [ho] at e'; cases e'; rw [hv] at hd'; cases hd')
theorem TabR.keptL {R : Addr → Prop} {L : Addr} {m : Str → Option Value} {H h h' : Heap} {P : Addr} {places : List (Pos × Str)} (T : TabR R H h P places) (ns : h.Ns L m) (k : Kept [L] h h') (hP : P ≠ L) : TabR R H h' P places :=
  T.kept k (by simpa using hP) (by
    intro i hi o vs ho hv
    simp only [List.mem_singleton] at hi
    subst hi
    obtain ⟨o', es, epo, e', hd', _⟩ := ns
    rw [ho] at e'; cases e'; rw [hv] at hd'; cases hd')
section
variable {M : Model} {A : Around} {H h : Heap} {env : Env} {c P : Addr} {mg : Str → Option Value} {clos : List (Str × Addr)} {places : List (Pos × Str)} {name qual : Str} {params : Arguments} {body : Expr} {scope : Scope} {pos : Pos} {firstLine : Nat}
theorem w_makeLam {R : Addr → Prop} {Q : Value → Heap → Prop} (T : TabR R H h P places) (hR : ∀ c, h.objs.size ≤ c → R c) (E : Ext H h) (hm : (pos, qual) ∈ places) (hsame : ∀ q ∈ places, q.1.line = pos.line → q.1.col = pos.col → q.2 = qual)
    (hcl : closureFor scope env = pure clos) (hg0 : env.globals = mainGlobals) (hg : h.Ns mainGlobals mg) (hcode : env.code = .ref c) (C : CodeHd h c P) (hb : h.BuiltinsAt mg P)
    (k : ∀ h' f c' ctv, Heap.ExtBut P h h' → TabR R H h' P places → h.objs.size ≤ f → f < h'.objs.size → h'.get? f = some (kla_obj name qual params body scope clos ((mg "__name__").getD .none) c' ctv) → h'.CodeRec (.ref c') qual → H.get? c' = none → c' ≠ f → c' ≠ P → Q (.ref f) h') :
    Wp M A (makeFunction name qual params (.expr body) scope env [] [] [] pos firstLine) Q h := by
  intro s hs
  subst hs
  obtain ⟨ps, e, t, r⟩ := T
  have hgP : mainGlobals ≠ P := fun q => by
    obtain ⟨o, es, ep, e', hd, _⟩ := hg
    rw [q, e] at e'; cases e'; cases hd
  have hPlt := Heap.lt_size e
  rcases r _ hm with hn | ⟨c', hc', rec', hH, hcP, hRc⟩
  · refine kla_makeFunction hcl hg0 hg hcode C e t hn hgP hb (fun c' ctv h' tk eb hge hlt hrec htab => ⟨⟨rfl, rfl⟩, ?_⟩)
    have hcP : c' ≠ P := by intro q; rw [q] at hge; exact absurd hPlt (Nat.not_lt.mpr hge)
    have hH : H.get? c' = none := by
      cases e' : H.get? c' with
      | none => rfl
      | some o => exact absurd (Heap.lt_size (E _ _ e')) (Nat.not_lt.mpr hge)
    have ebf : Heap.ExtBut P s.heap (h'.push (kla_obj name qual params body scope clos ((mg "__name__").getD .none) c' ctv)) := fun b o nb eb' => Heap.get?_push_of_some _ (eb b o nb eb')
    refine k _ h'.objs.size c' ctv ebf ?_ (Nat.le_of_lt (Nat.lt_of_le_of_lt hge hlt)) (by first | (with_reducible (first | exact im1 | exact im2 | exact im3 | exact sb0 | exact sb1 im1 | exact sb1 im2 | exact sb1 im3)) | exact nmc (adne (by decide)) nm0 | exact nmc (adne (by decide)) (nmc (adnn (by decide)) nm0) | simp) (Heap.get?_push_size _ rfl) (CodeRec.keptTo hrec fun o ho => Heap.get?_push_of_some _ ho) hH (Nat.ne_of_lt hlt) hcP
    refine ⟨_, Heap.get?_push_of_some _ htab, by simpa using TriplesOk_snoc _ _ _ _ t, fun q hq => ?_⟩
    simp only [Array.toList_append]
    rw [among_snoc _ t]
    rcases r q hq with h1 | ⟨c2, h1, h2, h3, h4, h5⟩
    · rw [h1]
      by_cases hq2 : ((pos.line : Int) == q.1.line && (pos.col : Int) == q.1.col) = true
      · rw [if_pos hq2]
        simp at hq2
        refine .inr ⟨c', rfl, ?_, hH, hcP, hR _ hge⟩
        rw [hsame q hq (by lia) (by lia)]
        exact CodeRec.keptTo hrec fun o ho => Heap.get?_push_of_some _ ho
      · rw [if_neg hq2]; exact .inl rfl
    · rw [h1]
      exact .inr ⟨c2, rfl, CodeRec.keptTo h2 fun o ho => ebf _ _ h4 ho, h3, h4, h5⟩
  · refine kla_makeFunctionHit hcl hg0 hg hcode C e t hc' hb (fun ctv h' tk hk hsz => ⟨⟨rfl, rfl⟩, ?_⟩)
    have ex : Ext s.heap (h'.push { cls := .type "function", data := .func (kla_fn name qual params body scope clos ((mg "__name__").getD .none) (.ref c') ctv) }) := fun b o e' => Heap.get?_push_of_some _ (hk b o e')
    refine k _ h'.objs.size c' ctv (fun b o _ e' => ex b o e') (TabR.ext ⟨ps, e, t, r⟩ ex) hsz (by first | (with_reducible (first | exact im1 | exact im2 | exact im3 | exact sb0 | exact sb1 im1 | exact sb1 im2 | exact sb1 im3)) | exact nmc (adne (by decide)) nm0 | exact nmc (adne (by decide)) (nmc (adnn (by decide)) nm0) | simp) (Heap.get?_push_size _ rfl) (CodeRec.keptTo rec' fun o ho => ex _ _ ho) hH ?_ hcP
    obtain ⟨o', vs, e4, e5⟩ := CodeRec.fields rec'
    exact Nat.ne_of_lt (Nat.lt_of_lt_of_le (Heap.lt_size e4) hsz)
theorem w_lambda {Q : Value → Heap → Prop} (hdef : defaultsOf params env = ([], [])) (x : Wp M A (makeFunction "<lambda>" (env.qual ++ "<lambda>") params (.expr body) scope env [] [] [] pos pos.line) Q h) : Wp M A (eval (.Lambda params body scope pos) env) Q h :=
  fun s hs => kla_eval hdef (x s hs)
end
section
variable {prog : Program} {w : World} {A : Around} {h H : Heap} {mg mb : Str → Option Value} {env : Env}
theorem c_callE {fa : Addr} {o : Obj} {fd : FuncData} {body : Expr} {pos : List Value} {binds : List (Str × Value)} {Q : Value → Heap → Prop}
    (hroom : A.depth < recursionLimit) (ho : h.get? fa = some o) (hd : o.data = .func fd) (hlim : h.NoLimit) (hcd : h.CodeRec fd.code fd.qualname) (hbody : fd.body = .expr body)
    (hb : bindArgs fd ⟨pos, []⟩ = pure binds) (hcell : ∀ x ∈ fd.scope.names, x.2 ≠ .cell) (hloc : ∀ x ∈ binds, fd.scope.names.lookup x.1 = some .local)
    (x : ∀ L h₁, L = h.objs.size → Fr h L h₁ (fun y => binds.reverse.lookup y) → Wp (model prog w) (A.deeper (callEnv fd L fa)) (eval body (callEnv fd L fa)) Q h₁)
    (hco : fd.scope.isCoroutine = false) (hgen : fd.scope.isGenerator = false) (hk : fd.scope.kind = .function) :
    Wc (model prog w) A (.call (.ref fa) ⟨pos, []⟩) Q h := by
  intro s hs
  subst hs
  refine kla_callFunE hroom ho hd hco hgen hbody hcd ?_
  rw [hb]
  refine wpAny_pure (wpAny_newFunctionEnv hcell hloc (fun h₁ hns hsb => ⟨hlim.fresh _ hsb, ?_⟩) hk)
  have hk₁ : ∀ b o, s.heap.get? b = some o → h₁.get? b = some o := fun b o e => hsb.extBut b o (Nat.ne_of_lt (Heap.lt_size e)) (Heap.get?_push_of_some _ e)
  refine kla_codeExpr (Wp.run (x s.heap.objs.size h₁ rfl ⟨hns, hk₁, Nat.le_refl _⟩) (fun v s' o g q => ⟨⟨o, g⟩, q⟩))
end
end Mine
end
section
open PySem PySem.W PyProof.Rows PySem.Calls
set_option Elab.async false
set_option maxRecDepth 100000
set_option linter.unusedVariables false
set_option linter.unusedSimpArgs false
namespace Mine
/-! ## dicts by texts -/
abbrev DM (prog : Program) (w : World) (h : Heap) (d : Addr) (f : Str → Option Value) : Prop := h.MapOf (PySem.strKind prog w) d f
abbrev DP (prog : Program) (w : World) (h : Heap) (d : Addr) (kvs : List (Str × Value)) : Prop := h.DictOf (PySem.strKind prog w) d kvs
section
variable {prog : Program} {w : World} {A : Around} {h : Heap} {env : Env}
theorem DM.kept {S : List Addr} {h h' : Heap} {d : Addr} {f : Str → Option Value} (x : DM prog w h d f) (k : Kept S h h') (hn : d ∉ S) : DM prog w h' d f := let ⟨o, es, ep, ho, r⟩ := x; ⟨o, es, ep, k _ _ hn ho, r⟩
theorem DM.lt {h : Heap} {d : Addr} {f : Str → Option Value} (x : DM prog w h d f) : d < h.objs.size := let ⟨o, es, ep, ho, r⟩ := x; Heap.lt_size ho
theorem w_dictItem {value slice : Expr} {d : Addr} {f : Str → Option Value} {x : Str} {t : Tok} {v : Value} {Q : Value → Heap → Prop} (hd : DM prog w h d f) (hv : f x = some v) (k : Q v h)
    (hs : subscripted slice false (.ref d) (.str x t) = operate [.ref d, .str x t] (getItem (.ref d) (.str x t)) := by with_unfolding_all rfl) :
    Wp (model prog w) A (subscriptTail value slice (.ref d) (.str x t)) Q h := fun s hs' => by
  subst hs'
  exact tail_any hd.typeIs slot_dict_getitem.lookup (wpAny_getItem_of (strKind_is _ _ _ _) hd hv ⟨⟨rfl, rfl⟩, k⟩) hs
structure DcT (prog : Program) (w : World) (A : Around) (env : Env) (kx vx target : Expr) (scope : Scope) (cl : List (Str × Addr)) (n : Nat) (P : Nat → Value → Heap → Prop) (h₁ : Heap)
    (T : List Addr) (J : Addr → Nat → List (Str × Value) → Heap → Prop) : Prop where
  off : ∀ b0 i f h1 h2, J b0 i f h1 → Off h₁.objs.size b0 h1 h2 → J b0 i f h2
  zero : ∀ b0, J b0 0 [] h₁
  turn : ∀ b0 C i v f h' m, i < n → h₁.objs.size ≤ C → b0 = C + 1 → P i v h' → J b0 i f h' → f.length ≤ i → Kept T h₁ h' → h'.Ns C m →
    Wp (model prog w) A (assign target (compEnvC scope cl C env) v) (fun _ h2 => Wp (model prog w) A (eval kx (compEnvC scope cl C env)) (fun kv h3 => Wp (model prog w) A (eval vx (compEnvC scope cl C env)) (fun vv h4 =>
      ∃ x t, kv = .str x t ∧ Kept (C :: T) h' h4 ∧ (∃ m, h4.Ns C m) ∧ J b0 (i + 1) (stored f x vv) h4) h3) h2) h'
theorem w_dcIU {kx vx target iter : Expr} {scope : Scope} {cl : List (Str × Addr)} {pos : Pos} {u : Value → Sem Unit} {Q : Heap → Prop} (ht : isNameT target = true)
    (hclos : closureFor scope env = pure cl) (hcell : (scope.names.all fun y => y.2 != .cell) = true) (hkind : scope.kind = .function) (hnames : (scope.names.all fun y => y.2 != .local || decide (scope.names.lookup y.1 = some .local)) = true)
    (e : Wp (model prog w) A (eval iter env) (fun xv h₁ => ∃ n P old, Iter prog w A target (fun Q => Wp (model prog w) A (pyIter xv) Q h₁) n P old h₁ ∧ n ≤ 1000 ∧ (∀ b ∈ old, b < h₁.objs.size) ∧
      ∃ T J, (∀ b ∈ T, b < h₁.objs.size ∧ b ∉ old) ∧ DcT prog w A env kx vx target scope cl n P h₁ T J ∧
        (∀ b0 f D C h' m, h₁.objs.size ≤ D → D < C → C < b0 → DP prog w h' D f → J b0 n f h' → Kept T h₁ h' → h'.Ns C m →
          Wp (model prog w) A (u (.ref D)) (fun _ h₃ => (∃ m, h₃.Ns C m) ∧ ∀ h', Heap.SameBut C h₃ h' → Q h') h')) h)
    (hs : ∀ x, foldedSetIterable iter env x = pure x := by intro _; rfl) :
    Wp (model prog w) A (evalThenUse (.DictComp kx vx [⟨target, iter, [], 0⟩] scope pos) env u) (fun _ => Q) h := by
  intro s hs'
  subst hs'
  rw [arm_evalThenUse_DictComp]
  show wpAny (model prog w) A (comprehension (.DictComp kx vx [⟨target, iter, [], 0⟩] scope pos) scope env (firstIterPos [⟨target, iter, [], 0⟩] pos) newDict false (eval iter env) (some u) >>= fun _ => pure ()) _ _ s
  refine wpAny_bind (wpAny_mono (Q := fun _ s' => (s'.os = s.os ∧ s'.gens = s.gens) ∧ Q s'.heap) ?_ (fun _ _ y => wpAny_pure y) fun _ _ z => z)
  refine wpAny_comprehension_free (use := some u) rfl hs hclos hkind (fun y hy hl => ?_) ?_
  · have := List.all_eq_true.mp hnames y hy
    simp [hl] at this
    exact this
  refine Wp.run e (fun xv s₁ o1 g1 y => ?_)
  obtain ⟨n, P, old, it, hn, hold, T, J, hT, Y, kd⟩ := y
  refine Wp.run (it (fun v h₂ => ∃ I fp wr St, v = .ref I ∧ IterW prog w A target I fp wr n P St ∧ St 0 h₂ ∧ Ext s₁.heap h₂ ∧ s₁.heap.objs.size ≤ I ∧ (∀ b ∈ wr, s₁.heap.objs.size ≤ b) ∧ (∀ b ∈ fp, b ∈ old ∨ (s₁.heap.objs.size ≤ b ∧ b ≤ I)))
    (fun I fp wr St h2 W st e a b c => ⟨I, fp, wr, St, rfl, W, st, e, a, b, c⟩)) (fun it s₂ o2 g2 y => ?_)
  obtain ⟨I, fp, wr, St, rfl, W, st, e12, hI0, hwr, hfp⟩ := y
  refine wpAny_newObj_type (wpAny_newFunctionEnv (fun z hz => by simpa using List.all_eq_true.mp hcell z hz) (by intro y hy; simp at hy) (fun h₁ hns₁ hsb₁ => ?_) hkind)
  dsimp only at hns₁ hsb₁ ⊢
  generalize hH2 : s₂.heap.push { cls := .type "dict", dict := none, data := .dict #[] } = H2 at hns₁ hsb₁ ⊢
  have hC : H2.objs.size = s₂.heap.objs.size + 1 := by rw [← hH2, Heap.size_push]
  have hDC : s₂.heap.objs.size ≠ H2.objs.size := by rw [hC]; exact Nat.ne_of_lt (Nat.lt_succ_self _)
  have below : ∀ b, b < s₂.heap.objs.size → b ≠ H2.objs.size := fun b hb => by rw [hC]; exact Nat.ne_of_lt (Nat.lt_succ_of_lt hb)
  have old' : ∀ b o, s₂.heap.get? b = some o → h₁.get? b = some o := fun b o e => hsb₁.extBut b o (below b (Heap.lt_size e)) (Heap.get?_push_of_some _ (hH2 ▸ Heap.get?_push_of_some _ e))
  have hacc : DP prog w h₁ s₂.heap.objs.size [] := by
    have h0 : DP prog w H2 s₂.heap.objs.size [] := hH2 ▸ Heap.DictOf.new s₂.heap
    exact ((h0.push _).extBut hsb₁.extBut hDC)
  have hst₁ : St 0 h₁ := W.frame _ _ _ st fun b _ o e => old' b o e
  have hI2 := W.lt _ _ st
  have loop : ∀ s₃ : Shared, s₃ = { s₂ with heap := h₁, toks := s₂.toks + ([] : List (Str × Value)).length } →
      codeAny (model prog w) A (.compLoop (.DictComp kx vx [⟨target, iter, [], 0⟩] scope pos) 0 (.ref I) (.ref s₂.heap.objs.size) (compEnvC scope cl H2.objs.size env))
        (compPost (model prog w) A NoE (some u) (fun _ s' => (s'.os = s.os ∧ s'.gens = s.gens) ∧ Q s'.heap) (.ref s₂.heap.objs.size) H2.objs.size) s₃ := by
    rintro s₃ rfl
    have o12 := o2.trans o1
    have g12 := g2.trans g1
    generalize hD : s₂.heap.objs.size = D at *
    generalize hCg : H2.objs.size = C at *
    have hID : I < D := hI2
    have hoff : ∀ b ∈ D :: C :: wr, s₁.heap.objs.size ≤ b ∧ b < C + 1 := by
      intro b hb
      rcases List.mem_cons.mp hb with rfl | hb
      · lia
      rcases List.mem_cons.mp hb with rfl | hb
      · lia
      · have := hwr b hb; have := W.top b hb; lia
    have hwlt : ∀ b ∈ wr, b < D := fun b hb => Nat.lt_of_le_of_lt (W.top b hb) hID
    have hfplt : ∀ b ∈ fp, b < D := fun b hb => by
      rcases hfp b hb with q | q
      · have := hold b q; lia
      · lia
    have hTlt : ∀ b ∈ T, b < D := fun b hb => by have := (hT b hb).1; lia
    have hTfp : ∀ b ∈ fp, b ∉ T := fun b hb hbT => by
      have := hT b hbT
      rcases hfp b hb with q | q
      · exact this.2 q
      · exact absurd this.1 (Nat.not_lt.mpr q.1)
    have e13 : Ext s₁.heap h₁ := fun b o e => old' b o (e12 b o e)
    refine codeAny_compLoop_testsD (fun k s' => (s'.os = s.os ∧ s'.gens = s.gens) ∧ ∃ i f m, k = n - i ∧ i ≤ n ∧ St i s'.heap ∧ DP prog w s'.heap D f ∧ f.length ≤ i ∧ s'.heap.Ns C m ∧ J (C + 1) i f s'.heap ∧ Kept T s₁.heap s'.heap) ?_ n
      ⟨⟨o12, g12⟩, 0, [], _, rfl, Nat.zero_le _, hst₁, hacc, Nat.le_refl _, hns₁, Y.off _ _ _ _ _ (Y.zero _) (Off.of_ext e13), Kept.of_ext e13⟩ (fun v => letOwn_name ht _ _)
    rintro k s1 ⟨og, i, f, m, hk, hi, st1, d1, hf, ns1, j1, k1⟩
    rcases Nat.lt_or_ge i n with lt | ge
    · refine Wp.run (W.item i s1.heap (fun v h' => P i v h' ∧ St (i + 1) h' ∧ Kept wr s1.heap h') lt st1 (fun v h' p st' kk => ⟨p, st', kk⟩)) (fun r s2 o2 g2 z => ?_)
      obtain ⟨v, rfl, z⟩ := z
      rw [letOwn_name ht] at z
      show wpAny _ _ (assign target (compEnvC scope cl C env) v) _ _ s2
      rw [← pure_bind () (fun _ : Unit => assign target (compEnvC scope cl C env) v)]
      refine wpAny_bind (Wp.run z (fun _ s2 o2' g2' z => ?_))
      have o2 := o2'.trans o2
      have g2 := g2'.trans g2
      obtain ⟨p, st', kk⟩ := z
      have off := Off.of_kept kk (fun b hb => hoff b (by simp [hb]))
      have d2 : DP prog w s2.heap D f := d1.at fun o e => kk _ _ (fun q => Nat.lt_irrefl _ (hwlt _ q)) e
      have ns2 : s2.heap.Ns C m := ns1.at' fun o e => kk _ _ (fun q => by have := hwlt _ q; lia) e
      have k2 : Kept T s₁.heap s2.heap := k1.of_off off rfl
      refine Wp.run (Y.turn (C + 1) C i v f s2.heap m lt (by lia) rfl p (Y.off _ _ _ _ _ j1 off) hf k2 ns2) (fun _ s3 o3 g3 z => ?_)
      refine wpAny_pure (a := true) ?_
      rw [if_pos rfl]
      refine Wp.run z (fun kv s4 o4 g4 z => ?_)
      refine Wp.run z (fun vv s5 o5 g5 z => ?_)
      obtain ⟨x, t, rfl, k5, ⟨m5, ns5⟩, j5⟩ := z
      have d5 : DP prog w s5.heap D f := d2.at fun o e => k5 _ _ (fun q => by
        rcases List.mem_cons.mp q with q | q
        · exact hDC q
        · exact Nat.lt_irrefl _ (hTlt _ q)) e
      refine wpAny_dictSet_pairs (strKind_is _ _ _ _) d5 (fun h6 d6 sb6 => ?_) (by rw [sizeLine_eq]; lia)
      have kD : Kept [D] s5.heap h6 := Kept.of_same sb6 (by first | (with_reducible (first | exact im1 | exact im2 | exact im3 | exact sb0 | exact sb1 im1 | exact sb1 im2 | exact sb1 im3)) | exact nmc (adne (by decide)) nm0 | exact nmc (adne (by decide)) (nmc (adnn (by decide)) nm0) | simp)
      have off6 : Off s₁.heap.objs.size (C + 1) s5.heap h6 := Off.of_kept kD (by intro b hb; simp only [List.mem_singleton] at hb; exact hoff b (by simp [hb]))
      have kT5 : Kept T s₁.heap s5.heap := fun a o ha e => k5 a o (fun q => by
        rcases List.mem_cons.mp q with rfl | q
        · have := Heap.lt_size (e12 _ _ e); lia
        · exact ha q) (k2 a o ha e)
      refine ⟨n - (i + 1), by lia, ⟨o5.trans (o4.trans (o3.trans (o2.trans og.1))), g5.trans (g4.trans (g3.trans (g2.trans og.2)))⟩, i + 1, stored f x vv, m5, rfl, lt, ?_, d6, ?_, ?_, Y.off _ _ _ _ _ j5 off6, kT5.of_off off6 rfl⟩
      · refine W.frame _ _ _ st' fun b hb o e => kD _ _ (by simp only [List.mem_singleton]; intro q; have := hfplt _ hb; lia) (k5 _ _ (fun q => ?_) e)
        rcases List.mem_cons.mp q with rfl | q
        · have := hfplt _ hb; lia
        · exact hTfp b hb q
      · have := stored_length_le f x vv; lia
      · exact ns5.at' fun o e => kD _ _ (by simp only [List.mem_singleton]; exact fun q => hDC q.symm) e
    · have : i = n := Nat.le_antisymm hi ge
      subst this
      refine Wp.run (W.done s1.heap (fun h' => Kept wr s1.heap h') st1 (fun h' kk => kk)) (fun r s2 o2 g2 z => ?_)
      obtain ⟨rfl, kk⟩ := z
      have off := Off.of_kept kk (fun b hb => hoff b (by simp [hb]))
      have d2 : DP prog w s2.heap D f := d1.at fun o e => kk _ _ (fun q => Nat.lt_irrefl _ (hwlt _ q)) e
      have ns2 : s2.heap.Ns C m := ns1.at' fun o e => kk _ _ (fun q => by have := hwlt _ q; lia) e
      refine Wp.run (kd (C + 1) f D C s2.heap m (by lia) (by lia) (Nat.lt_succ_self _) d2 (Y.off _ _ _ _ _ j1 off) (k1.of_off off rfl) ns2) (fun _ s4 o4 g4 y => ?_)
      obtain ⟨⟨m4, hm⟩, y⟩ := y
      exact ⟨m4, hm, fun h' hs' => ⟨⟨o4.trans (o2.trans og.1), g4.trans (g2.trans og.2)⟩, y h' hs'⟩⟩
  exact codeAny_compStart_dict (loop _ rfl) (W.self _ _ _ hst₁ (loop _ rfl))
end
end Mine
end
section
open PySem PySem.W PyProof.Rows PySem.Calls
set_option Elab.async false
set_option maxRecDepth 100000
set_option linter.unusedVariables false
set_option linter.unusedSimpArgs false
namespace Mine
abbrev aFi : Addr := 125
abbrev aSt : Addr := 132
abbrev tabT : Addr := 127
abbrev codeT : Addr := 131
abbrev nPair : Str := Str.ofString "pair"
abbrev nSpots : Str := Str.ofString "spots"
abbrev nOwn : Str := Str.ofString "own"
abbrev nPhrase : Str := Str.ofString "phrase"
abbrev nLow : Str := Str.ofString "low"
abbrev nHigh : Str := Str.ofString "high"
abbrev nHead : Str := Str.ofString "head"
abbrev nTail : Str := Str.ofString "tail"
section
variable {prog : Program} {w : World} {A : Around} {h H : Heap} {mg mb : Str → Option Value} {env : Env}
theorem fi_key {n : Nat} {a : Addr} {x : Value} {vs : List Value} (G : Gd w mg mb H h) (hl : h.IsList a (x :: vs).toArray) (hz : vs.length ≤ 1000) : KeyIs (n + 1) prog w h (.ref aFi) (.ref a) x := by
  intro A h' Q ok e k
  have G' := G.ext e
  refine w_call ?_
  refine c_callK (n := n) (binds := [(nPair, .ref a)]) G'.now ok (by kernel_rfl) (by kernel_rfl) (by kernel_rfl) (by kernel_rfl) (fun _ => by kernel_rfl) (by kernel_rfl) (by kernel_rfl) (fun L h₁ F ok' => ?_)
  refine w_cons ?_
  refine w_ret ?_
  refine w_sub ?_
  refine w_nm F.ns rfl ?_
  refine w_cInt fun _ => ?_
  refine w_itemL (j := 0) (IsList.ext (IsList.ext hl e) F.keep) rfl (by rw [sizeLine_eq]; simp; lia) ?_
  exact k _ F.keep
end
/-! ## the two lambdas of _law_stretch -/
noncomputable def stFor (w : World) : List Stmt := match (((bodyAt w aSt)[1]?).getD (.Pass ⟨0, 0, 0, 0⟩)) with
  | .For _ _ b _ _ => b
  | _ => []
noncomputable def lamOf (s : Stmt) : Option (Arguments × Expr × Scope × Pos) := match s with
  | .Assign _ (.Call _ _ [⟨_, .Lambda p b sc pos, _⟩] _) _ => some (p, b, sc, pos)
  | _ => none
noncomputable def lam1 (w : World) : Arguments × Expr × Scope × Pos := (lamOf (((stFor w)[1]?).getD (.Pass ⟨0, 0, 0, 0⟩))).getD (⟨[], [], none, [], [], none, []⟩, .Constant .none 0 ⟨0, 0, 0, 0⟩, default, ⟨0, 0, 0, 0⟩)
noncomputable def lam2 (w : World) : Arguments × Expr × Scope × Pos := (lamOf (((stFor w)[2]?).getD (.Pass ⟨0, 0, 0, 0⟩))).getD (⟨[], [], none, [], [], none, []⟩, .Constant .none 0 ⟨0, 0, 0, 0⟩, default, ⟨0, 0, 0, 0⟩)
def lamQual : Str := (Str.ofString "_law_stretch" ++ Str.ofString ".<locals>.") ++ Str.ofString "<lambda>"
noncomputable def placesT (w : World) : List (Pos × Str) := [((lam1 w).2.2.2, lamQual), ((lam2 w).2.2.2, lamQual)]
abbrev nSpot : Str := Str.ofString "spot"
section
variable {prog : Program} {w : World} {A : Around} {h H : Heap} {mg mb : Str → Option Value} {env : Env}
theorem lam_key {n : Nat} {f c' : Addr} {params : Arguments} {body : Expr} {scope : Scope} {pm ctv : Value} (hlim : h.NoLimit) (hf : h.get? f = some (kla_obj "<lambda>" lamQual params body scope [] pm c' ctv)) (hrec : h.CodeRec (.ref c') lamQual)
    (hbind : ∀ v, bindArgs (kla_fn "<lambda>" lamQual params body scope [] pm (.ref c') ctv) ⟨[v], []⟩ = pure [(nSpot, v)]) (hcell : (scope.names.all fun x => x.2 != .cell) = true) (hloc : scope.names.lookup nSpot = some .local)
    (hco : scope.isCoroutine = false) (hgen : scope.isGenerator = false) (hk : scope.kind = .function)
    {p1 p2 p3 : Pos} {k4 : Nat} (hbody : body = .Subscript (.Name nSpot p1) (.Constant (.int 1) k4 p2) p3) {a : Addr} {x y : Value} (hl : h.IsList a [x, y].toArray) : KeyIs (n + 1) prog w h (.ref f) (.ref a) y := by
  intro A h' Q ok e k
  subst hbody
  refine w_call ?_
  refine c_callE (by have := ok.depth; lia) (e _ _ hf) rfl (hlim.keeps e) (CodeRec.keptTo hrec fun o ho => e _ _ ho) rfl (hbind _) (fun x hx => by simpa using List.all_eq_true.mp hcell x hx) (fun y hy => by simp only [List.mem_singleton] at hy; subst hy; exact hloc) (fun L h₁ hL F => ?_) hco hgen hk
  refine w_sub ?_
  refine w_nm F.ns rfl ?_ hk hloc
  refine w_cInt fun _ => ?_
  refine w_itemL (j := 1) (IsList.ext (IsList.ext hl e) F.keep) rfl (by simp [sizeLine_eq]) ?_
  exact k _ F.keep
end
end Mine
end
section
set_option linter.unusedVariables false
set_option linter.unusedSimpArgs false
namespace Mine
/-! ## plain: strict linear orders as tests -/
structure Lin {α : Type} (lt : α → α → Bool) : Prop where
  irr : ∀ a, lt a a = false
  tr : ∀ a b c, lt a b = true → lt b c = true → lt a c = true
  tri : ∀ a b, lt a b = false → lt b a = false → a = b
theorem Lin.asym {α : Type} {lt : α → α → Bool} (T : Lin lt) {a b : α} (h : lt a b = true) : lt b a = false := by
  cases h2 : lt b a with
  | false => rfl
  | true => have := T.tr _ _ _ h h2; rw [T.irr] at this; cases this
/-- not above -/
theorem Lin.letr {α : Type} {lt : α → α → Bool} (T : Lin lt) {a b c : α} (h1 : lt b a = false) (h2 : lt c b = false) : lt c a = false := by
  cases h : lt c a with
  | false => rfl
  | true =>
    exfalso
    cases h3 : lt a b with
    | true => have := T.tr _ _ _ h h3; rw [h2] at this; cases this
    | false => have := T.tri _ _ h3 h1; subst this; rw [h2] at h; cases h
theorem Lin.ltle {α : Type} {lt : α → α → Bool} (T : Lin lt) {a b c : α} (h1 : lt a b = true) (h2 : lt c b = false) : lt a c = true := by
  cases h : lt a c with
  | true => rfl
  | false => have := T.letr h2 h; rw [h1] at this; cases this
theorem Lin.lelt {α : Type} {lt : α → α → Bool} (T : Lin lt) {a b c : α} (h1 : lt b a = false) (h2 : lt b c = true) : lt a c = true := by
  cases h : lt a c with
  | true => rfl
  | false => have := T.letr h h1; rw [h2] at this; cases this
/-- lists, place by place -/
def lx {α : Type} [DecidableEq α] (lt : α → α → Bool) : List α → List α → Bool
  | [], [] => false
  | [], _ :: _ => true
  | _ :: _, [] => false
  | a :: as, b :: bs => if a = b then lx lt as bs else lt a b
section
variable {α : Type} [DecidableEq α] {lt : α → α → Bool}
theorem lx_lin (T : Lin lt) : Lin (lx lt) where
  irr := fun a => by
    induction a with
    | nil => rfl
    | cons x a ih => simp [lx, ih]
  tr := fun a => by
    induction a with
    | nil => intro b c h1 h2; cases b <;> cases c <;> simp_all [lx]
    | cons x a ih =>
      intro b c h1 h2
      cases b with
      | nil => simp [lx] at h1
      | cons y b =>
        cases c with
        | nil => simp [lx] at h2
        | cons z c =>
          simp only [lx] at h1 h2 ⊢
          by_cases e : x = y
          · subst e
            rw [if_pos rfl] at h1
            by_cases e2 : x = z
            · rw [if_pos e2] at h2 ⊢; exact ih _ _ h1 h2
            · rw [if_neg e2] at h2 ⊢; exact h2
          · rw [if_neg e] at h1
            by_cases e2 : y = z
            · subst e2; rw [if_neg e]; exact h1
            · rw [if_neg e2] at h2
              have h3 := T.tr _ _ _ h1 h2
              by_cases e3 : x = z
              · subst e3; rw [T.irr] at h3; cases h3
              · rw [if_neg e3]; exact h3
  tri := fun a => by
    induction a with
    | nil => intro b h1 h2; cases b <;> simp_all [lx]
    | cons x a ih =>
      intro b h1 h2
      cases b with
      | nil => simp [lx] at h2
      | cons y b =>
        simp only [lx] at h1 h2
        by_cases e : x = y
        · rw [if_pos e] at h1; rw [if_pos e.symm] at h2; rw [e, ih _ h1 h2]
        · rw [if_neg e] at h1; rw [if_neg (fun q => e q.symm)] at h2; exact absurd (T.tri _ _ h1 h2) e
theorem lx_snoc (T : Lin lt) : ∀ (a b : List α) (c : α), a.length = b.length → lx lt (a ++ [c]) (b ++ [c]) = lx lt a b
  | [], [], c, _ => by simp [lx]
  | x :: a, y :: b, c, h => by
    simp only [List.cons_append, lx]
    rw [lx_snoc T a b c (by simpa using h)]
  | [], _ :: _, _, h => by simp at h
  | _ :: _, [], _, h => by simp at h
end
/-! ## where a test changes in a row -/
theorem cut_iff {α : Type} (q : α → Bool) : ∀ (l : List α), l.Pairwise (fun a b => q b = true → q a = true) → ∀ (i : Nat) (h : i < l.length), (i < l.countP q ↔ q l[i] = true)
  | [], _, i, h => by simp at h
  | a :: l, hp, i, h => by
    rw [List.pairwise_cons] at hp
    rw [List.countP_cons]
    cases ha : q a with
    | true =>
      simp only [if_true]
      cases i with
      | zero => simp [ha]
      | succ i => simpa using cut_iff q l hp.2 i (by simpa using h)
    | false =>
      have h0 : l.countP q = 0 := by
        rw [List.countP_eq_zero]; intro b hb e; have := hp.1 b hb e; rw [ha] at this; cases this
      simp only [h0]
      cases i with
      | zero => simp [ha]
      | succ i =>
        have hi : i < l.length := by simpa using h
        simp only [List.getElem_cons_succ]
        constructor
        · intro h'; simp at h'
        · intro e; have := hp.1 _ (List.getElem_mem hi) e; rw [ha] at this; cases this
/-! ## rows that grow by insertion -/
def insAt {α : Type} (l : List α) (r : Nat) (x : α) : List α := l.take r ++ x :: l.drop r
theorem insAt_perm {α : Type} (l : List α) (r : Nat) (x : α) : (insAt l r x).Perm (x :: l) := by
  unfold insAt
  have := List.perm_middle (a := x) (l₁ := l.take r) (l₂ := l.drop r)
  rwa [List.take_append_drop] at this
theorem insAt_len {α : Type} (l : List α) (r : Nat) (x : α) (h : r ≤ l.length) : (insAt l r x).length = l.length + 1 := by simpa using (insAt_perm l r x).length_eq
/-- things 0, 1, .., each laid at the place that the test q k tells -/
def growN (q : Nat → Nat → Bool) : Nat → List Nat
  | 0 => []
  | k + 1 => insAt (growN q k) ((growN q k).countP (q k)) k
theorem growN_perm (q : Nat → Nat → Bool) : ∀ k, (growN q k).Perm (List.range k)
  | 0 => .refl _
  | k + 1 => by
    rw [List.range_succ]
    exact (insAt_perm _ _ _).trans (((growN_perm q k).cons k).trans (List.perm_append_comm (l₁ := [k])))
theorem growN_lt (q : Nat → Nat → Bool) (k : Nat) : ∀ i ∈ growN q k, i < k := fun i hi => List.mem_range.mp ((growN_perm q k).mem_iff.mp hi)
/-- it stays in order -/
theorem growN_sorted (q : Nat → Nat → Bool) (R : Nat → Nat → Prop) (hcut : ∀ k i j, i < k → j < k → R i j → q k j = true → q k i = true) (h1 : ∀ k i, i < k → q k i = true → R i k) (h2 : ∀ k i, i < k → q k i = false → R k i) :
    ∀ k, (growN q k).Pairwise R
  | 0 => .nil
  | k + 1 => by
    have ih := growN_sorted q R hcut h1 h2 k
    have lt := growN_lt q k
    have cut := cut_iff (q k) (growN q k) (ih.imp_of_mem fun ha hb h => hcut k _ _ (lt _ ha) (lt _ hb) h)
    show (insAt (growN q k) ((growN q k).countP (q k)) k).Pairwise R
    generalize growN q k = l at *
    generalize l.countP (q k) = r at *
    unfold insAt
    rw [List.pairwise_append, List.pairwise_cons]
    have hd := (List.take_append_drop r l).symm ▸ ih
    rw [List.pairwise_append] at hd
    have tk : ∀ a ∈ l.take r, R a k := fun a ha => by
      obtain ⟨i, hi, rfl⟩ := List.getElem_of_mem ha
      rw [List.getElem_take]
      have hi' : i < l.length := by simp at hi; lia
      exact h1 k _ (lt _ (List.getElem_mem _)) ((cut i hi').mp (by simp at hi; lia))
    have dr : ∀ b ∈ l.drop r, R k b := fun b hb => by
      obtain ⟨i, hi, rfl⟩ := List.getElem_of_mem hb
      rw [List.getElem_drop]
      have hi' : r + i < l.length := by simp at hi; lia
      refine h2 k _ (lt _ (List.getElem_mem _)) ?_
      cases e : q k l[r + i] with
      | false => rfl
      | true => have := (cut (r + i) hi').mpr e; lia
    refine ⟨hd.1, ⟨dr, hd.2.1⟩, fun a ha b hb => ?_⟩
    rcases List.mem_cons.mp hb with rfl | hb
    · exact tk a ha
    · exact hd.2.2 a ha b hb
/-- the place and what lies on its sides -/
theorem growN_cut (q : Nat → Nat → Bool) (R : Nat → Nat → Prop) (hcut : ∀ k i j, i < k → j < k → R i j → q k j = true → q k i = true) (h1 : ∀ k i, i < k → q k i = true → R i k) (h2 : ∀ k i, i < k → q k i = false → R k i) (k i : Nat) (h : i < (growN q k).length) :
    (i < (growN q k).countP (q k) ↔ q k (growN q k)[i] = true) :=
  cut_iff (q k) (growN q k) ((growN_sorted q R hcut h1 h2 k).imp_of_mem fun ha hb h => hcut k _ _ (growN_lt q k _ ha) (growN_lt q k _ hb) h) i h
/-! ## strictly increasing maps of an initial stretch into itself -/
theorem incr_id (N : Nat) (f : Nat → Nat) (h1 : ∀ i, i < N → f i < N) (h2 : ∀ i j, i < j → j < N → f i < f j) : ∀ i, i < N → f i = i := by
  have lo : ∀ i, i < N → i ≤ f i := by
    intro i
    induction i with
    | zero => intro _; lia
    | succ i ih => intro h; have := ih (by lia); have := h2 i (i + 1) (by lia) h; lia
  have hi : ∀ d i, i + d = N - 1 → i < N → f i + d ≤ N - 1 := by
    intro d
    induction d with
    | zero => intro i h h'; have := h1 i h'; lia
    | succ d ih => intro i h h'; have := ih (i + 1) (by lia) (by lia); have := h2 i (i + 1) (by lia) (by lia); lia
  intro i h
  have := lo i h
  have := hi (N - 1 - i) i (by lia) h
  lia
end Mine
end
section
set_option linter.unusedVariables false
set_option linter.unusedSimpArgs false
set_option linter.unusedSectionVars false
namespace Mine
section
variable {α : Type} [DecidableEq α] {lt : α → α → Bool} (d : α)
def rot (ring : List α) (i : Nat) : List α := ring.drop i ++ ring.take i
def rl : List α → List α
  | [] => []
  | x :: r => r ++ [x]
def lastD (l : List α) : α := l.getLast?.getD d
def rr (l : List α) : List α := match l.getLast? with
  | none => []
  | some x => x :: l.dropLast
theorem rot_len (ring : List α) (i : Nat) (h : i ≤ ring.length) : (rot ring i).length = ring.length := by simp [rot]; omega
theorem rl_len (l : List α) : (rl l).length = l.length := by cases l <;> simp [rl]
theorem rr_rl (l : List α) : rr (rl l) = l := by
  cases l with
  | nil => rfl
  | cons x r => simp [rl, rr]
theorem rl_rr (l : List α) : rl (rr l) = l := by
  unfold rr
  cases h : l.getLast? with
  | none => simp [List.getLast?_eq_none_iff] at h; subst h; rfl
  | some x =>
    simp only [rl]
    have hne : l ≠ [] := by intro q; subst q; simp at h
    rw [List.getLast?_eq_some_getLast hne] at h
    have := List.dropLast_concat_getLast hne
    simp at h
    rw [h] at this
    exact this
theorem rr_len (l : List α) : (rr l).length = l.length := by rw [← rl_len, rl_rr]
theorem rl_rot (ring : List α) (i : Nat) (h : i < ring.length) : rl (rot ring i) = rot ring (i + 1) := by
  unfold rot
  rw [List.drop_eq_getElem_cons h, List.take_add_one, List.getElem?_eq_getElem h, List.cons_append]
  show (ring.drop (i + 1) ++ ring.take i) ++ [ring[i]] = ring.drop (i + 1) ++ (ring.take i ++ [ring[i]])
  rw [List.append_assoc]
theorem rot_n (ring : List α) : rot ring ring.length = rot ring 0 := by simp [rot]
theorem rr_rot (ring : List α) (i : Nat) (h : i < ring.length) : rr (rot ring (i + 1)) = rot ring i := by rw [← rl_rot ring i h, rr_rl]
theorem rr_append (X : List α) (c : α) : rr (X ++ [c]) = c :: X := by simp [rr]
theorem lastD_append (X : List α) (c : α) : lastD d (X ++ [c]) = c := by simp [lastD]
theorem snoc_of (l : List α) (h : l ≠ []) : l = l.dropLast ++ [lastD d l] := by
  have := (List.dropLast_concat_getLast h).symm
  rw [lastD, List.getLast?_eq_some_getLast h]
  exact this
theorem rr_cons (l : List α) (h : l ≠ []) : rr l = lastD d l :: l.dropLast := by
  have := snoc_of d l h
  rw [this, rr_append, lastD_append]
  simp
theorem rots_rr (ring : List α) : ((List.range ring.length).map fun i => rr (rot ring i)).Perm ((List.range ring.length).map (rot ring)) := by
  cases h : ring.length with
  | zero => simp
  | succ n =>
    have e1 : (List.range (n + 1)).map (fun i => rr (rot ring i)) = rr (rot ring 0) :: (List.range n).map (rot ring) := by
      rw [List.range_succ_eq_map, List.map_cons, List.map_map]
      congr 1
      apply List.map_congr_left
      intro i hi
      exact rr_rot ring i (by have := List.mem_range.mp hi; omega)
    have e2 : rr (rot ring 0) = rot ring n := by
      rw [← rot_n, h, rr_rot ring n (by omega)]
    rw [e1, e2, List.range_succ, List.map_append]
    exact List.perm_append_comm (l₁ := [rot ring n])
theorem getD_map_range {β : Type} (l : List Nat) (n : Nat) (h : l.length = n) (f : Nat → β) : (List.range n).map (fun j => f (l.getD j 0)) = l.map f := by
  apply List.ext_getElem
  · simp [h]
  · intro i h1 h2
    simp at h1 h2
    simp [List.getD_eq_getElem?_getD, h2]
structure Bwt (lt : α → α → Bool) (ring : List α) (σ τ : List Nat) : Prop where
  σp : σ.Perm (List.range ring.length)
  τp : τ.Perm (List.range ring.length)
  σs : σ.Pairwise fun i j => lx lt (rot ring j) (rot ring i) = false
  τs : τ.Pairwise fun a b => lt (lastD d (rot ring (σ.getD b 0))) (lastD d (rot ring (σ.getD a 0))) = false ∧ (lastD d (rot ring (σ.getD a 0)) = lastD d (rot ring (σ.getD b 0)) → a < b)
variable {ring : List α} {σ τ : List Nat}
def Rw (ring : List α) (σ : List Nat) (j : Nat) : List α := rot ring (σ.getD j 0)
theorem Bwt.slen (B : Bwt d lt ring σ τ) : σ.length = ring.length := by simpa using B.σp.length_eq
theorem Bwt.tlen (B : Bwt d lt ring σ τ) : τ.length = ring.length := by simpa using B.τp.length_eq
theorem Bwt.slt (B : Bwt d lt ring σ τ) {j : Nat} (h : j < ring.length) : σ.getD j 0 < ring.length := by
  have h1 : j < σ.length := by rw [B.slen]; exact h
  have : σ.getD j 0 ∈ σ := by simp [List.getD_eq_getElem?_getD, h1]
  exact List.mem_range.mp (B.σp.mem_iff.mp this)
theorem Bwt.tlt (B : Bwt d lt ring σ τ) {j : Nat} (h : j < ring.length) : τ.getD j 0 < ring.length := by
  have h1 : j < τ.length := by rw [B.tlen]; exact h
  have : τ.getD j 0 ∈ τ := by simp [List.getD_eq_getElem?_getD, h1]
  exact List.mem_range.mp (B.τp.mem_iff.mp this)
theorem Bwt.rlen (B : Bwt d lt ring σ τ) {j : Nat} (h : j < ring.length) : (Rw ring σ j).length = ring.length := rot_len _ _ (Nat.le_of_lt (B.slt d h))
theorem Bwt.rne (B : Bwt d lt ring σ τ) {j : Nat} (h : j < ring.length) : Rw ring σ j ≠ [] := by
  intro q; have := B.rlen d h; rw [q] at this; simp at this; omega
theorem Bwt.mono (B : Bwt d lt ring σ τ) (T : Lin lt) {i j : Nat} (h : i ≤ j) (hj : j < ring.length) : lx lt (Rw ring σ j) (Rw ring σ i) = false := by
  by_cases e : i = j
  · subst e; exact (lx_lin T).irr _
  · have hs := B.slen
    have := List.pairwise_iff_getElem.mp B.σs i j (by omega) (by omega) (by omega)
    simpa [Rw, List.getD_eq_getElem?_getD, show i < σ.length by omega, show j < σ.length by omega] using this
/-- the row of the next word -/
theorem Bwt.lf (B : Bwt d lt ring σ τ) (T : Lin lt) {j : Nat} (hj : j < ring.length) : Rw ring σ (τ.getD j 0) = rl (Rw ring σ j) := by
  have hs := B.slen
  have ht := B.tlen
  have tl : ∀ a ∈ τ, a < ring.length := fun a ha => List.mem_range.mp (B.τp.mem_iff.mp ha)
  have hA : ((List.range ring.length).map (Rw ring σ)).Pairwise (fun x y => lx lt y x = false) := by
    rw [show (List.range ring.length).map (Rw ring σ) = σ.map (rot ring) from getD_map_range σ _ hs (rot ring), List.pairwise_map]
    exact B.σs
  have hB : (τ.map fun a => rr (Rw ring σ a)).Pairwise (fun x y => lx lt y x = false) := by
    rw [List.pairwise_map]
    refine B.τs.imp_of_mem fun {a b} ha hb h => ?_
    have na := B.rne d (tl a ha)
    have nb := B.rne d (tl b hb)
    rw [rr_cons d _ na, rr_cons d _ nb]
    simp only [lx]
    by_cases e : lastD d (Rw ring σ b) = lastD d (Rw ring σ a)
    · rw [if_pos e]
      have hab := h.2 e.symm
      have m := B.mono d T (Nat.le_of_lt hab) (tl b hb)
      rw [snoc_of d _ nb, snoc_of d _ na, e, lx_snoc T] at m
      · exact m
      · simp [B.rlen d (tl a ha), B.rlen d (tl b hb)]
    · rw [if_neg e]; exact h.1
  have hP : (τ.map fun a => rr (Rw ring σ a)).Perm ((List.range ring.length).map (Rw ring σ)) := by
    refine (B.τp.map _).trans ?_
    have e1 : (List.range ring.length).map (fun a => rr (Rw ring σ a)) = σ.map (fun i => rr (rot ring i)) := getD_map_range σ _ hs (fun i => rr (rot ring i))
    have e2 : (List.range ring.length).map (Rw ring σ) = σ.map (rot ring) := getD_map_range σ _ hs (rot ring)
    rw [e1, e2]
    exact (B.σp.map _).trans ((rots_rr ring).trans (B.σp.map (rot ring)).symm)
  have hE := List.Perm.eq_of_pairwise (fun a b _ _ h1 h2 => (lx_lin T).tri _ _ h2 h1) hB hA hP
  have := congrArg (fun l => l[j]?) hE
  simp only [List.getElem?_map] at this
  rw [List.getElem?_range hj, List.getElem?_eq_getElem (by omega : j < τ.length)] at this
  simp only [Option.map_some, Option.some.injEq] at this
  have e3 : τ.getD j 0 = τ[j] := by simp [List.getD_eq_getElem?_getD, show j < τ.length by omega]
  rw [e3, ← this, rl_rr]
theorem Bwt.last (B : Bwt d lt ring σ τ) (T : Lin lt) {j : Nat} (hj : j < ring.length) : lastD d (Rw ring σ (τ.getD j 0)) = (Rw ring σ j).head?.getD d := by
  rw [B.lf d T hj]
  cases h : Rw ring σ j with
  | nil => exact absurd h (B.rne d hj)
  | cons x r => simp [rl, lastD_append]
def iter {β : Type} (f : β → β) : Nat → β → β
  | 0, x => x
  | n + 1, x => iter f n (f x)
theorem iter_succ {β : Type} (f : β → β) : ∀ (n : Nat) (x : β), iter f (n + 1) x = f (iter f n x)
  | 0, _ => rfl
  | n + 1, x => iter_succ f n (f x)
def tau (τ : List Nat) (j : Nat) : Nat := τ.getD j 0
theorem Bwt.iter_lt (B : Bwt d lt ring σ τ) {j : Nat} (hj : j < ring.length) : ∀ n, iter (tau τ) n j < ring.length
  | 0 => hj
  | n + 1 => by rw [iter_succ]; exact B.tlt d (B.iter_lt hj n)
theorem Bwt.iter_row (B : Bwt d lt ring σ τ) (T : Lin lt) {j : Nat} (hj : j < ring.length) : ∀ n, Rw ring σ (iter (tau τ) n j) = iter rl n (Rw ring σ j)
  | 0 => rfl
  | n + 1 => by rw [iter_succ, iter_succ]; exact (B.lf d T (B.iter_lt d hj n)).trans (by rw [B.iter_row T hj n])
theorem iter_rl_rot (ring : List α) : ∀ n, n ≤ ring.length → iter rl n (rot ring 0) = rot ring n
  | 0, _ => rfl
  | n + 1, h => by rw [iter_succ, iter_rl_rot ring n (by omega), rl_rot ring n (by omega)]
/-- a whole turn leads back to a row -/
theorem rl_round (l : List α) : iter rl l.length l = l := by
  have := iter_rl_rot l l.length (Nat.le_refl _)
  rw [rot_n] at this
  simpa [rot] using this
theorem Bwt.round (B : Bwt d lt ring σ τ) (T : Lin lt) {j : Nat} (hj : j < ring.length) : iter (tau τ) ring.length j = j := by
  have tlen := B.tlen
  have row : ∀ j, j < ring.length → Rw ring σ (iter (tau τ) ring.length j) = Rw ring σ j := fun j hj => by
    rw [B.iter_row d T hj]
    have := rl_round (Rw ring σ j)
    rwa [B.rlen d hj] at this
  have same : ∀ n i j, i < j → j < ring.length → Rw ring σ i = Rw ring σ j → iter (tau τ) n i < iter (tau τ) n j := by
    intro n
    induction n with
    | zero => intro i j h _ _; exact h
    | succ n ih =>
      intro i j h hj he
      rw [iter_succ, iter_succ]
      have h1 := ih i j h hj he
      have hi' := B.iter_lt d (Nat.lt_trans h hj) n
      have hj' := B.iter_lt d hj n
      have hr : Rw ring σ (iter (tau τ) n i) = Rw ring σ (iter (tau τ) n j) := by rw [B.iter_row d T (Nat.lt_trans h hj), B.iter_row d T hj, he]
      have ps := List.pairwise_iff_getElem.mp B.τs _ _ (by omega) (by omega) h1
      have e1 : tau τ (iter (tau τ) n i) = τ[iter (tau τ) n i] := by simp [tau, List.getD_eq_getElem?_getD, show iter (tau τ) n i < τ.length by omega]
      have e2 : tau τ (iter (tau τ) n j) = τ[iter (tau τ) n j] := by simp [tau, List.getD_eq_getElem?_getD, show iter (tau τ) n j < τ.length by omega]
      rw [e1, e2]
      refine ps.2 ?_
      rw [← e1, ← e2]
      show lastD d (Rw ring σ (τ.getD _ 0)) = lastD d (Rw ring σ (τ.getD _ 0))
      rw [B.last d T hi', B.last d T hj', hr]
  refine incr_id ring.length (iter (tau τ) ring.length) (fun i hi => B.iter_lt d hi _) (fun i j hij hj => ?_) j hj
  by_cases he : Rw ring σ i = Rw ring σ j
  · exact same _ i j hij hj he
  · have hlt : lx lt (Rw ring σ i) (Rw ring σ j) = true := by
      cases h : lx lt (Rw ring σ i) (Rw ring σ j) with
      | true => rfl
      | false => exact absurd ((lx_lin T).tri _ _ h (B.mono d T (Nat.le_of_lt hij) hj)) he
    rw [← row i (by omega), ← row j hj] at hlt
    rcases Nat.lt_or_ge (iter (tau τ) ring.length i) (iter (tau τ) ring.length j) with q | q
    · exact q
    · have := B.mono d T q (B.iter_lt d (Nat.lt_trans hij hj) _)
      rw [hlt] at this; cases this
end
end Mine
end
section
set_option linter.unusedVariables false
set_option linter.unusedSimpArgs false
set_option linter.unusedSectionVars false
namespace Mine
/-! ## pure: places in a sorted block -/
def pp (ro : List Nat) (lo hi x : Nat) : Nat := lo + ((ro.drop lo).take (hi - lo)).countP (fun r => decide (r < x))
theorem countP_sorted : ∀ (l : List Nat) (x : Nat), l.Pairwise (· < ·) → ∀ (i : Nat) (hi : i < l.length), (i < l.countP (fun r => decide (r < x)) ↔ l[i] < x)
  | [], _, _, i, hi => by simp at hi
  | a :: l, x, h, i, hi => by
    rw [List.pairwise_cons] at h
    rw [List.countP_cons]
    by_cases ha : a < x
    · simp only [ha, decide_true, if_true]
      cases i with
      | zero => simp [ha]
      | succ i => simpa using countP_sorted l x h.2 i (by simpa using hi)
    · have h0 : l.countP (fun r => decide (r < x)) = 0 := by
        rw [List.countP_eq_zero]; intro b hb; have := h.1 b hb; simp; lia
      simp only [ha, decide_false, h0]
      cases i with
      | zero => simp; lia
      | succ i => have hi' : i < l.length := by simpa using hi
                  have := h.1 l[i] (List.getElem_mem _); simp; lia
theorem pp_spec (ro : List Nat) (lo hi x : Nat) (h1 : lo ≤ hi) (h2 : hi ≤ ro.length) (hs : ((ro.drop lo).take (hi - lo)).Pairwise (· < ·)) :
    lo ≤ pp ro lo hi x ∧ pp ro lo hi x ≤ hi ∧ (∀ i, lo ≤ i → i < pp ro lo hi x → ro.getD i 0 < x) ∧ (∀ i, pp ro lo hi x ≤ i → i < hi → x ≤ ro.getD i 0) := by
  unfold pp
  have hlen : ((ro.drop lo).take (hi - lo)).length = hi - lo := by simp; lia
  have hc := List.countP_le_length (p := fun r => decide (r < x)) (l := (ro.drop lo).take (hi - lo))
  have key : ∀ i, lo ≤ i → i < hi → (i - lo < ((ro.drop lo).take (hi - lo)).countP (fun r => decide (r < x)) ↔ ro.getD i 0 < x) := fun i a b => by
    have := countP_sorted _ x hs (i - lo) (by lia)
    rw [this]
    have e : lo + (i - lo) = i := by lia
    simp [e, List.getD_eq_getElem?_getD, show i < ro.length by lia]
  refine ⟨by lia, by lia, fun i a b => ?_, fun i a b => ?_⟩
  · exact (key i a (by lia)).mp (by lia)
  · have := (key i (by lia) b)
    rcases Nat.lt_or_ge (ro.getD i 0) x with q | q
    · have := this.mpr q; lia
    · exact q
def stStep (ro : List Nat) (own : List Nat → Nat × Nat) (st : Nat × Nat) (word : List Nat) : Nat × Nat := (pp ro (own word).1 (own word).2 (st.1 + 1), pp ro (own word).1 (own word).2 (st.2 + 1))
/-- what _law_stretch answers -/
def stretch (ro : List Nat) (own : List Nat → Nat × Nat) (n : Nat) (ph : List (List Nat)) : Nat × Nat := ph.reverse.foldl (stStep ro own) (0, n)
end Mine
end
section
set_option linter.unusedVariables false
set_option linter.unusedSimpArgs false
set_option linter.unusedSectionVars false
namespace Mine
theorem filter_stretch {β : Type} (P : β → Bool) (l : List β) (lo hi : Nat) (h : ∀ j (hj : j < l.length), P l[j] = decide (lo ≤ j ∧ j < hi)) : l.filter P = (l.drop lo).take (hi - lo) := by
  have e : l = l.take lo ++ ((l.drop lo).take (hi - lo) ++ (l.drop lo).drop (hi - lo)) := by rw [List.take_append_drop, List.take_append_drop]
  have f1 : (l.take lo).filter P = [] := by
    rw [List.filter_eq_nil_iff]
    intro a ha
    obtain ⟨i, hi', rfl⟩ := List.getElem_of_mem ha
    rw [List.getElem_take, h]
    simp at hi' ⊢; omega
  have f2 : ((l.drop lo).take (hi - lo)).filter P = (l.drop lo).take (hi - lo) := by
    rw [List.filter_eq_self]
    intro a ha
    obtain ⟨i, hi', rfl⟩ := List.getElem_of_mem ha
    rw [List.getElem_take, List.getElem_drop, h]
    simp at hi' ⊢; omega
  have f3 : ((l.drop lo).drop (hi - lo)).filter P = [] := by
    rw [List.filter_eq_nil_iff]
    intro a ha
    obtain ⟨i, hi', rfl⟩ := List.getElem_of_mem ha
    rw [List.getElem_drop, List.getElem_drop, h]
    simp at hi' ⊢; omega
  have := congrArg (List.filter P) e
  rw [List.filter_append, List.filter_append, f1, f2, f3] at this
  simpa using this
section
variable {α : Type} [DecidableEq α] {lt : α → α → Bool} (d : α) {ring : List α} {σ τ : List Nat}
/-- the words of the spots, in their order -/
def spw (d : α) (ring : List α) (σ τ : List Nat) : List α := τ.map fun a => lastD d (Rw ring σ a)
def cL (lt : α → α → Bool) (ws : List α) (x : α) : Nat := ws.countP fun y => lt y x
def cR (lt : α → α → Bool) (ws : List α) (x : α) : Nat := ws.countP fun y => !(lt x y)
def rnos (τ : List Nat) : List Nat := τ.map (· + 1)
theorem Bwt.spw_get (B : Bwt d lt ring σ τ) {j : Nat} (hj : j < ring.length) : (spw d ring σ τ)[j]? = some (lastD d (Rw ring σ (τ.getD j 0))) := by
  have ht := B.tlen
  simp [spw, List.getElem?_map, List.getElem?_eq_getElem (by omega : j < τ.length), List.getD_eq_getElem?_getD]
theorem Bwt.spw_sorted (B : Bwt d lt ring σ τ) : (spw d ring σ τ).Pairwise fun x y => lt y x = false := by
  unfold spw
  rw [List.pairwise_map]
  exact B.τs.imp fun h => h.1
theorem cL_iff (T : Lin lt) {ws : List α} (h : ws.Pairwise fun x y => lt y x = false) (x : α) (i : Nat) (hi : i < ws.length) : i < cL lt ws x ↔ lt ws[i] x = true :=
  cut_iff _ ws (h.imp fun {a b} hab hb => T.lelt hab hb) i hi
theorem cR_iff (T : Lin lt) {ws : List α} (h : ws.Pairwise fun x y => lt y x = false) (x : α) (i : Nat) (hi : i < ws.length) : i < cR lt ws x ↔ lt x ws[i] = false := by
  have := cut_iff (fun y => !(lt x y)) ws (h.imp fun {a b} hab hb => by
    simp only [Bool.not_eq_true'] at hb ⊢
    exact T.letr hab hb) i hi
  simpa [cR] using this
theorem cLR (T : Lin lt) (ws : List α) (x : α) : cL lt ws x ≤ cR lt ws x := by
  unfold cL cR
  apply List.countP_mono_left
  intro y _ h
  simpa using T.asym h
theorem block_iff (T : Lin lt) {ws : List α} (h : ws.Pairwise fun x y => lt y x = false) (x : α) (i : Nat) (hi : i < ws.length) : (cL lt ws x ≤ i ∧ i < cR lt ws x) ↔ ws[i] = x := by
  have h1 := cL_iff T h x i hi
  have h2 := cR_iff T h x i hi
  constructor
  · rintro ⟨a, b⟩
    have b' := h2.mp b
    refine T.tri _ _ ?_ b'
    cases e : lt ws[i] x with
    | false => rfl
    | true => have := h1.mpr e; omega
  · intro e
    refine ⟨?_, h2.mpr (by rw [e]; exact T.irr x)⟩
    rcases Nat.lt_or_ge i (cL lt ws x) with q | q
    · have := h1.mp q; rw [e, T.irr] at this; cases this
    · exact q
theorem Bwt.own_ok (B : Bwt d lt ring σ τ) (T : Lin lt) (x : α) :
    cL lt (spw d ring σ τ) x ≤ cR lt (spw d ring σ τ) x ∧ cR lt (spw d ring σ τ) x ≤ ring.length ∧ (((rnos τ).drop (cL lt (spw d ring σ τ) x)).take (cR lt (spw d ring σ τ) x - cL lt (spw d ring σ τ) x)).Pairwise (· < ·) := by
  have hlen : (spw d ring σ τ).length = ring.length := by simp [spw, B.tlen]
  refine ⟨cLR T _ _, by rw [← hlen]; exact List.countP_le_length, ?_⟩
  rw [List.pairwise_iff_getElem]
  intro i j hi hj hij
  have ht := B.tlen
  simp only [List.length_take, List.length_drop, rnos, List.length_map] at hi hj
  simp only [List.getElem_take, List.getElem_drop, rnos, List.getElem_map]
  generalize hl : cL lt (spw d ring σ τ) x = l at *
  generalize hr : cR lt (spw d ring σ τ) x = r at *
  have bi := (block_iff T B.spw_sorted x (l + i) (by omega)).mp (by omega)
  have bj := (block_iff T B.spw_sorted x (l + j) (by omega)).mp (by omega)
  have ps := List.pairwise_iff_getElem.mp B.τs (l + i) (l + j) (by omega) (by omega) (by omega)
  have := ps.2 (by
    have e1 : (spw d ring σ τ)[l + i]'(by omega) = lastD d (rot ring (σ.getD τ[l + i] 0)) := by simp [spw, Rw]
    have e2 : (spw d ring σ τ)[l + j]'(by omega) = lastD d (rot ring (σ.getD τ[l + j] 0)) := by simp [spw, Rw]
    rw [← e1, ← e2, bi, bj])
  omega
theorem prefix_rl {w x : α} {s Y : List α} (h : s.length ≤ Y.length) : (w :: s) <+: (x :: Y) ↔ w = x ∧ s <+: rl (x :: Y) := by
  rw [List.cons_prefix_cons]
  constructor
  · rintro ⟨a, b⟩
    exact ⟨a, b.trans (List.prefix_append _ _)⟩
  · rintro ⟨a, b⟩
    refine ⟨a, ?_⟩
    rw [List.prefix_iff_eq_take] at b ⊢
    have : (rl (x :: Y)).take s.length = Y.take s.length := by
      show (Y ++ [x]).take s.length = _
      rw [List.take_append_of_le_length h]
    rwa [this] at b
/-- the search from behind -/
theorem Bwt.search (B : Bwt d lt ring σ τ) (T : Lin lt) (own : α → Nat × Nat) : ∀ (s : List α), s.length ≤ ring.length → (∀ x ∈ s, own x = (cL lt (spw d ring σ τ) x, cR lt (spw d ring σ τ) x)) → ∀ j, j < ring.length →
    (((s.reverse.foldl (fun st w => (pp (rnos τ) (own w).1 (own w).2 (st.1 + 1), pp (rnos τ) (own w).1 (own w).2 (st.2 + 1))) (0, ring.length)).1 ≤ j ∧ j < (s.reverse.foldl (fun st w => (pp (rnos τ) (own w).1 (own w).2 (st.1 + 1), pp (rnos τ) (own w).1 (own w).2 (st.2 + 1))) (0, ring.length)).2) ↔ s <+: Rw ring σ j)
  | [], _, _, j, hj => by simp [hj]
  | w :: s, hs, ho, j, hj => by
    have ih := B.search T own s (by simp at hs; omega) (fun x hx => ho x (by simp [hx]))
    rw [List.reverse_cons, List.foldl_append]
    generalize (s.reverse.foldl (fun st w => (pp (rnos τ) (own w).1 (own w).2 (st.1 + 1), pp (rnos τ) (own w).1 (own w).2 (st.2 + 1))) (0, ring.length)) = st at ih
    simp only [List.foldl_cons, List.foldl_nil, ho w (by simp)]
    have ok := B.own_ok d T w
    have hlen : (spw d ring σ τ).length = ring.length := by simp [spw, B.tlen]
    have ht := B.tlen
    have hr : (rnos τ).length = ring.length := by simp [rnos, ht]
    have bl := block_iff T B.spw_sorted w j (by omega)
    have e0 : (spw d ring σ τ)[j]'(by omega) = (Rw ring σ j).head?.getD d := by
      rw [← B.last d T hj]
      have := B.spw_get d hj
      rw [List.getElem?_eq_getElem (by omega)] at this
      simpa using this
    rw [e0] at bl
    generalize cL lt (spw d ring σ τ) w = l at *
    generalize cR lt (spw d ring σ τ) w = r at *
    have p1 := pp_spec (rnos τ) l r (st.1 + 1) ok.1 (by omega) ok.2.2
    have p2 := pp_spec (rnos τ) l r (st.2 + 1) ok.1 (by omega) ok.2.2
    have er : (rnos τ).getD j 0 = τ.getD j 0 + 1 := by simp [rnos, List.getD_eq_getElem?_getD, show j < τ.length by omega]
    have htj := ih (τ.getD j 0) (B.tlt d hj)
    rw [B.lf d T hj] at htj
    obtain ⟨x, Y, hxy⟩ : ∃ x Y, Rw ring σ j = x :: Y := by cases h : Rw ring σ j with | nil => exact absurd h (B.rne d hj) | cons a b => exact ⟨a, b, rfl⟩
    have hY : Y.length + 1 = ring.length := by have := B.rlen d hj; rw [hxy] at this; simpa using this
    rw [hxy] at htj bl ⊢
    rw [prefix_rl (by simp at hs; omega), ← htj]
    simp only [List.head?_cons, Option.getD_some] at bl
    constructor
    · rintro ⟨a, b⟩
      have hl := bl.mp (by omega)
      refine ⟨hl.symm, ?_, ?_⟩
      · have := p1.2.2.2 j a (by omega); rw [er] at this; omega
      · have := p2.2.2.1 j (by omega) b; rw [er] at this; omega
    · rintro ⟨hw, a, b⟩
      have hb := bl.mpr hw.symm
      refine ⟨?_, ?_⟩
      · rcases Nat.lt_or_ge j (pp (rnos τ) l r (st.1 + 1)) with q | q
        · have := p1.2.2.1 j hb.1 q; rw [er] at this; omega
        · exact q
      · rcases Nat.lt_or_ge j (pp (rnos τ) l r (st.2 + 1)) with q | q
        · exact q
        · have := p2.2.2.2 j q hb.2; rw [er] at this; omega
theorem take_ring (ring : List α) (i m : Nat) (h : i ≤ ring.length) (hm : m ≤ ring.length) : ((ring ++ ring).drop i).take m = (rot ring i).take m := by
  unfold rot
  rw [List.drop_append_of_le_length h, List.take_append, List.take_append, List.take_take]
  congr 2
  simp; omega
/-- the rows found begin just where the ring shows the phrase -/
theorem Bwt.found (B : Bwt d lt ring σ τ) (T : Lin lt) (own : α → Nat × Nat) (s : List α) (hs : s.length ≤ ring.length) (ho : ∀ x ∈ s, own x = (cL lt (spw d ring σ τ) x, cR lt (spw d ring σ τ) x)) (lo hi : Nat)
    (hf : (s.reverse.foldl (fun st w => (pp (rnos τ) (own w).1 (own w).2 (st.1 + 1), pp (rnos τ) (own w).1 (own w).2 (st.2 + 1))) (0, ring.length)) = (lo, hi)) :
    ((σ.drop lo).take (hi - lo)).Perm ((List.range ring.length).filter fun i => decide (((ring ++ ring).drop i).take s.length = s)) := by
  have key := B.search d T own s hs ho
  rw [hf] at key
  have hsl := B.slen
  have hmem : ∀ i ∈ σ, i < ring.length := fun i hi => List.mem_range.mp (B.σp.mem_iff.mp hi)
  rw [← filter_stretch (fun i => decide (((ring ++ ring).drop i).take s.length = s)) σ lo hi (fun j hj => ?_)]
  · exact B.σp.filter _
  · have k := key j (by omega)
    have e : Rw ring σ j = rot ring σ[j] := by simp [Rw, List.getD_eq_getElem?_getD, hj]
    rw [e, List.prefix_iff_eq_take] at k
    rw [take_ring ring σ[j] s.length (Nat.le_of_lt (hmem _ (List.getElem_mem _))) hs]
    by_cases q : s = (rot ring σ[j]).take s.length
    · have := k.mpr q
      simp [q.symm, this]
    · have h1 : ¬ (lo ≤ j ∧ j < hi) := fun y => q (k.mp y)
      have h2 : ¬ (rot ring σ[j]).take s.length = s := fun y => q y.symm
      simp [h1, h2]
end
end Mine
end
section
set_option linter.unusedVariables false
set_option linter.unusedSimpArgs false
set_option linter.unusedSectionVars false
namespace Mine
theorem nodup_len : ∀ (N : Nat) (l : List Nat), l.Nodup → (∀ x ∈ l, x < N) → l.length ≤ N
  | 0, l, _, h => by cases l with | nil => simp | cons a l => have := h a (by simp); omega
  | N + 1, l, hn, h => by
    have := nodup_len N (l.erase N) (hn.erase N) (fun x hx => by
      have h1 := h x (List.mem_of_mem_erase hx)
      have h2 : x ≠ N := by intro q; subst q; exact hn.not_mem_erase hx
      omega)
    by_cases hm : N ∈ l
    · rw [List.length_erase_of_mem hm] at this; omega
    · rw [List.erase_of_not_mem hm] at this; omega
theorem perm_range (N : Nat) (l : List Nat) (hn : l.Nodup) (h : ∀ x ∈ l, x < N) (hl : l.length = N) : l.Perm (List.range N) := by
  rw [List.perm_ext_iff_of_nodup hn List.nodup_range]
  intro a
  rw [List.mem_range]
  refine ⟨h a, fun ha => ?_⟩
  by_cases q : a ∈ l
  · exact q
  · have := nodup_len N (a :: l) (List.nodup_cons.mpr ⟨q, hn⟩) (fun x hx => by rcases List.mem_cons.mp hx with rfl | hx; exact ha; exact h x hx)
    simp at this; omega
section
variable {α : Type} [DecidableEq α] {lt : α → α → Bool} (d : α) (ring : List α)
/-- the rows' order: the later of like ones ahead -/
def RO (lt : α → α → Bool) (ring : List α) (i j : Nat) : Prop := lx lt (rot ring j) (rot ring i) = false ∧ (rot ring i = rot ring j → j < i)
def qR (lt : α → α → Bool) (ring : List α) (k i : Nat) : Bool := lx lt (rot ring i) (rot ring k)
theorem RO_cut (T : Lin lt) : ∀ k i j, i < k → j < k → RO lt ring i j → qR lt ring k j = true → qR lt ring k i = true := fun k i j _ _ h h' => (lx_lin T).lelt h.1 h'
theorem RO_1 (T : Lin lt) : ∀ k i, i < k → qR lt ring k i = true → RO lt ring i k := fun k i _ h => ⟨(lx_lin T).asym h, fun e => by unfold qR at h; rw [e, (lx_lin T).irr] at h; cases h⟩
theorem RO_2 (T : Lin lt) : ∀ k i, i < k → qR lt ring k i = false → RO lt ring k i := fun k i hi h => ⟨h, fun _ => hi⟩
def sig (lt : α → α → Bool) (ring : List α) (k : Nat) : List Nat := growN (qR lt ring) k
theorem sig_cut (T : Lin lt) (k i : Nat) (h : i < (sig lt ring k).length) : (i < (sig lt ring k).countP (qR lt ring k) ↔ lx lt (rot ring (sig lt ring k)[i]) (rot ring k) = true) :=
  growN_cut _ (RO lt ring) (RO_cut ring T) (RO_1 ring T) (RO_2 ring T) k i h
/-- the spots' order -/
def SO (lt : α → α → Bool) (L : Nat → α) (a b : Nat) : Prop := lt (L b) (L a) = false ∧ (L a = L b → a < b)
def qS (lt : α → α → Bool) (L : Nat → α) (k a : Nat) : Bool := !(lt (L k) (L a))
theorem SO_cut (T : Lin lt) (L : Nat → α) : ∀ k i j, i < k → j < k → SO lt L i j → qS lt L k j = true → qS lt L k i = true := fun k i j _ _ h h' => by
  simp only [qS, Bool.not_eq_true'] at h' ⊢
  exact T.letr h.1 h'
theorem SO_1 (T : Lin lt) (L : Nat → α) : ∀ k i, i < k → qS lt L k i = true → SO lt L i k := fun k i hi h => by
  simp only [qS, Bool.not_eq_true'] at h
  exact ⟨h, fun _ => hi⟩
theorem SO_2 (T : Lin lt) (L : Nat → α) : ∀ k i, i < k → qS lt L k i = false → SO lt L k i := fun k i hi h => by
  simp only [qS, Bool.not_eq_false'] at h
  exact ⟨T.asym h, fun e => by rw [e, T.irr] at h; cases h⟩
def spt (lt : α → α → Bool) (L : Nat → α) (k : Nat) : List Nat := growN (qS lt L) k
theorem spt_cut (T : Lin lt) (L : Nat → α) (k i : Nat) (h : i < (spt lt L k).length) : (i < (spt lt L k).countP (qS lt L k) ↔ lt (L k) (L (spt lt L k)[i]) = false) := by
  have := growN_cut _ (SO lt L) (SO_cut T L) (SO_1 T L) (SO_2 T L) k i h
  refine Iff.trans this ?_
  show (!(lt (L k) (L (spt lt L k)[i]))) = true ↔ _
  rw [Bool.not_eq_true']
def lasts (d : α) (ring : List α) (σ : List Nat) (a : Nat) : α := lastD d (rot ring (σ.getD a 0))
theorem bwt_grown (T : Lin lt) : Bwt d lt ring (sig lt ring ring.length) (spt lt (lasts d ring (sig lt ring ring.length)) ring.length) where
  σp := growN_perm _ _
  τp := growN_perm _ _
  σs := (growN_sorted _ (RO lt ring) (RO_cut ring T) (RO_1 ring T) (RO_2 ring T) _).imp fun h => h.1
  τs := growN_sorted _ (SO lt (lasts d ring (sig lt ring ring.length))) (SO_cut T _) (SO_1 T _) (SO_2 T _) _
/-- the rows are what a stable sort of the stretches from behind gives -/
theorem sig_order (T : Lin lt) (p : List Nat) (hl : p.length = ring.length) (hlt : ∀ i ∈ p, i < ring.length)
    (hs : p.Pairwise fun a b => lx lt (rot ring (ring.length - 1 - b)) (rot ring (ring.length - 1 - a)) = false ∧ (lx lt (rot ring (ring.length - 1 - a)) (rot ring (ring.length - 1 - b)) = true ∨ a < b)) :
    p.map (fun a => ring.length - 1 - a) = sig lt ring ring.length := by
  have hR : (p.map fun a => ring.length - 1 - a).Pairwise (RO lt ring) := by
    rw [List.pairwise_map]
    refine hs.imp_of_mem fun {a b} ha hb h => ⟨h.1, fun e => ?_⟩
    have := hlt a ha
    have := hlt b hb
    rcases h.2 with q | q
    · rw [e, (lx_lin T).irr] at q; cases q
    · omega
  have anti : ∀ i j, RO lt ring i j → RO lt ring j i → i = j := fun i j h1 h2 => by
    have e := (lx_lin T).tri _ _ h2.1 h1.1
    have := h1.2 e
    have := h2.2 e.symm
    omega
  have nd : (p.map fun a => ring.length - 1 - a).Nodup := hR.imp fun {a b} h => by
    rintro rfl
    have := h.2 rfl
    omega
  refine List.Perm.eq_of_pairwise (le := RO lt ring) (fun a b _ _ => anti a b) hR (growN_sorted _ (RO lt ring) (RO_cut ring T) (RO_1 ring T) (RO_2 ring T) _) ?_
  refine (perm_range ring.length _ nd (fun x hx => ?_) (by simpa using hl)).trans (growN_perm _ _).symm
  obtain ⟨a, ha, rfl⟩ := List.mem_map.mp hx
  have := hlt a ha
  omega
theorem passed_cut (i : Nat) (h : i < ring.length) : ((ring ++ ring.dropLast).drop i).take ring.length = rot ring i := by
  unfold rot
  rw [List.drop_append_of_le_length (Nat.le_of_lt h), List.take_append]
  have h1 : (ring.drop i).take ring.length = ring.drop i := List.take_of_length_le (by simp)
  rw [h1]
  congr 1
  rw [List.dropLast_eq_take, List.take_take]
  congr 1
  simp; omega
end
end Mine
end
section
open PySem PySem.W PyProof.Rows PySem.Calls
set_option Elab.async false
set_option maxRecDepth 100000
set_option linter.unusedVariables false
set_option linter.unusedSimpArgs false
namespace Mine
section
variable {prog : Program} {w : World} {A : Around} {h H : Heap} {mg mb : Str → Option Value} {env : Env}
/-- two names from a pair that an expression gives -/
theorem w_asgTup {a b : Str} {pa pb tp pos : Pos} {kk : Nat} {value : Expr} {Q : Flow → Heap → Prop}
    (x : Wp (model prog w) A (eval value env) (fun v h₁ => Wp (model prog w) A (assign (.Tuple [.Name a pa, .Name b pb] kk tp) env v) (fun _ => Q .next) h₁) h)
    (hs : swapsWithSole [.Tuple [.Name a pa, .Name b pb] kk tp] value pos.line env = pure false := by rfl)
    (hw : swappedStores [.Tuple [.Name a pa, .Name b pb] kk tp] value env = pure none := by rfl) :
    Wp (model prog w) A (exec (.Assign [.Tuple [.Name a pa, .Name b pb] kk tp] value pos) env) Q h := by
  intro s hs'
  refine Assign_Tuple (wpAny_mono (x s hs') (fun v s₁ y => ?_) fun _ _ z => z) hs hw
  exact wpAny_mono (y.2 s₁ rfl) (fun _ s₂ z => ⟨⟨z.1.1.trans y.1.1, z.1.2.trans y.1.2⟩, z.2⟩) fun _ _ z => z
/-- a, b = x, y -/
theorem w_asgSwap {base h0 : Heap} {S : List Addr} {L : Addr} {m : Str → Option Value} {a b : Str} {pa pb tp pos : Pos} {kk : Nat} {value : Expr} {Q : Flow → Heap → Prop} (hh : A.handled = none)
    (x : Wp (model prog w) A (eval value env) (fun v h₁ => ∃ T x y, v = .ref T ∧ h₁.get? T = some (tpl [x, y]) ∧ Fs base h0 S L h₁ m ∧ ∀ h', Fs base h0 S L h' (fun z => if z = a then some x else if z = b then some y else m z) → Kept [L] h₁ h' → Q .next h') h)
    (hL : env.locals = L) (hS : L ∈ S) (ha : env.kindOf a = some .local) (hb : env.kindOf b = some .local) (hp : (env.scope.kind == .class || (env.scope.kind == .module && env.locals != env.globals)) = false)
    (hs : swapsWithSole [.Tuple [.Name a pa, .Name b pb] kk tp] value pos.line env = pure false := by rfl)
    (hw : swappedStores [.Tuple [.Name a pa, .Name b pb] kk tp] value env = pure (some [a, b]) := by rfl) :
    Wp (model prog w) A (exec (.Assign [.Tuple [.Name a pa, .Name b pb] kk tp] value pos) env) Q h := by
  intro s hs'
  refine Assign_Tuple_swapped (names := [a, b]) (wpAny_mono (x s hs') (fun v s₁ y => ?_) fun _ _ z => z) hs hw
  obtain ⟨og, T, x, y, rfl, hT, X, k⟩ := y
  have hT' : s₁.heap.IsTuple T #[x, y] := ⟨_, hT, rfl, 0, rfl⟩
  show wpAny _ _ (unpackItems (.ref T) (#[x, y] : Array Value).size none) _ _ _
  refine wpAny_unpackItems_tuple hh hT' (fun h' he => ?_)
  have hTl := Heap.lt_size hT
  have X' : Fs base h0 S L h' m := by
    have e : Ext s₁.heap h' := fun b o e => he b o (Nat.ne_of_lt (Heap.lt_size e)) e
    exact X.ext e
  have e1 : Ext s₁.heap h' := fun b o e => he b o (Nat.ne_of_lt (Heap.lt_size e)) e
  show wpAny _ _ (assignInOrder [fun v => bindName env b v, fun v => bindName env a v] [y, x]) _ _ _
  refine assignInOrder_cons ?_
  refine wpAny_bindName (Wp.run (w_stF (Q := fun _ h2 => Fs base h0 S L h2 (fun z => if z = b then some y else m z) ∧ Heap.SameBut L h' h2) X' (fun h2 X2 sb2 => ⟨X2, sb2⟩) hS hL hb hp) (fun _ s2 o2 g2 z => ?_))
  obtain ⟨X2, sb2⟩ := z
  refine assignInOrder_cons ?_
  refine wpAny_bindName (Wp.run (w_stF (Q := fun _ h3 => Fs base h0 S L h3 (fun z => if z = a then some x else if z = b then some y else m z) ∧ Heap.SameBut L s2.heap h3) X2 (fun h3 X3 sb3 => ⟨X3, sb3⟩) hS hL ha hp) (fun _ s3 o3 g3 z => ?_))
  obtain ⟨X3, sb3⟩ := z
  refine assignInOrder_nil ?_
  refine ⟨⟨o3.trans (o2.trans og.1), g3.trans (g2.trans og.2)⟩, k s3.heap X3 ?_⟩
  exact (Kept.of_ext e1).trans ((Kept.of_same sb2 (by first | (with_reducible (first | exact im1 | exact im2 | exact im3 | exact sb0 | exact sb1 im1 | exact sb1 im2 | exact sb1 im3)) | exact nmc (adne (by decide)) nm0 | exact nmc (adne (by decide)) (nmc (adnn (by decide)) nm0) | simp)).trans (Kept.of_same sb3 (by first | (with_reducible (first | exact im1 | exact im2 | exact im3 | exact sb0 | exact sb1 im1 | exact sb1 im2 | exact sb1 im3)) | exact nmc (adne (by decide)) nm0 | exact nmc (adne (by decide)) (nmc (adnn (by decide)) nm0) | simp)))
end
theorem Strs.reverse {ys : List Value} {ts : List (List Nat)} (x : Strs ys ts) : Strs ys.reverse ts.reverse := by
  induction ys generalizing ts with
  | nil => cases ts with | nil => trivial | cons t ts => exact x.elim
  | cons v ys ih =>
    cases ts with
    | nil => exact x.elim
    | cons t ts => simp only [List.reverse_cons]; exact (ih x.2).append ⟨x.1, trivial⟩
/-- the rows: lists of a word and a number -/
structure RowsL (h : Heap) (sl : Addr) (sv : List Addr) (ws : List (List Nat)) (ro : List Nat) : Prop where
  l : Ls h sl (sv.map Value.ref)
  lw : ws.length = sv.length
  lr : ro.length = sv.length
  at_ : ∀ (j : Nat) a wd r, sv[j]? = some a → ws[j]? = some wd → ro[j]? = some r → LA h a [.s wd, .i (r : Nat)]
theorem RowsL.kept {S : List Addr} {h h' : Heap} {sl : Addr} {sv : List Addr} {ws : List (List Nat)} {ro : List Nat} (R : RowsL h sl sv ws ro) (k : Kept S h h') (h1 : sl ∉ S) (h2 : ∀ a ∈ sv, a ∉ S) : RowsL h' sl sv ws ro :=
  ⟨lsKept R.l k h1, R.lw, R.lr, fun j a wd r e1 e2 e3 => (R.at_ j a wd r e1 e2 e3).kept k (h2 a (List.mem_of_getElem? e1))⟩
theorem LA.two {h : Heap} {a : Addr} {x y : At} (l : LA h a [x, y]) : ∃ v u, Ls h a [v, u] ∧ AtV v x ∧ AtV u y := by
  obtain ⟨vs, l, r⟩ := l
  match vs, r with
  | [v, u], r => exact ⟨v, u, l, r.1, r.2.1⟩
theorem RowsL.keys {h : Heap} {sl : Addr} {sv : List Addr} {ws : List (List Nat)} {ro : List Nat} (R : RowsL h sl sv ws ro) :
    ∃ k0 k1 : List Value, k0.length = sv.length ∧ k1.length = sv.length ∧ ∀ (i : Nat) (a : Addr), sv[i]? = some a → ∃ v u t1 t2, k0[i]? = some v ∧ k1[i]? = some u ∧ Ls h a [v, u] ∧ v = .str (S (ws.getD i [])) t1 ∧ u = .int ((ro.getD i 0 : Nat) : Int) t2 := by
  have ex : ∀ i : Fin sv.length, ∃ p : Value × Value, Ls h sv[i] [p.1, p.2] ∧ (∃ t1, p.1 = .str (S (ws.getD i [])) t1) ∧ ∃ t2, p.2 = .int ((ro.getD i 0 : Nat) : Int) t2 := fun i => by
    have hi := i.2
    have h1 : i.1 < ws.length := by rw [R.lw]; exact hi
    have h2 : i.1 < ro.length := by rw [R.lr]; exact hi
    obtain ⟨v, u, l, a, b⟩ := (R.at_ i.1 sv[i] ws[i.1] ro[i.1] (by first | (with_reducible (first | exact im1 | exact im2 | exact im3 | exact sb0 | exact sb1 im1 | exact sb1 im2 | exact sb1 im3)) | exact nmc (adne (by decide)) nm0 | exact nmc (adne (by decide)) (nmc (adnn (by decide)) nm0) | simp) (by simp [h1]) (by simp [h2])).two
    refine ⟨(v, u), l, ?_, ?_⟩
    · obtain ⟨t, e⟩ := a; exact ⟨t, by rw [e]; simp [List.getD_eq_getElem?_getD, h1]⟩
    · obtain ⟨t, e⟩ := b; exact ⟨t, by rw [e]; simp [List.getD_eq_getElem?_getD, h2]⟩
  refine ⟨List.ofFn fun i => (Classical.choose (ex i)).1, List.ofFn fun i => (Classical.choose (ex i)).2, by simp, by simp, fun i a e => ?_⟩
  have hi : i < sv.length := by
    rcases Nat.lt_or_ge i sv.length with q | q
    · exact q
    · rw [List.getElem?_eq_none q] at e; cases e
  have ea : sv[i] = a := by rw [List.getElem?_eq_getElem hi] at e; simpa using e
  obtain ⟨l, ⟨t1, e1⟩, ⟨t2, e2⟩⟩ := Classical.choose_spec (ex ⟨i, hi⟩)
  exact ⟨_, _, t1, t2, by simp [hi], by simp [hi], ea ▸ l, e1, e2⟩
section
variable {prog : Program} {w : World} {A : Around} {h H : Heap} {mg mb : Str → Option Value} {env : Env}
theorem ltInt_cmp {n : Nat} {a b : Int} {t u : Tok} : CmpLt n prog w h (.int a t) (.int b u) (decide (a < b)) := fun A h' Q ok e k => w_ltInt (k h' (Ext.refl _))
/-- a lambda of _law_stretch is made -/
theorem w_lamT {L : Addr} {params : Arguments} {body : Expr} {scope : Scope} {pos : Pos} {Q : Value → Heap → Prop} {R : Addr → Prop} (G : Gd w mg mb H h) (T : TabR R H h tabT (placesT w)) (hR : ∀ c, h.objs.size ≤ c → R c) (C : CodeHd H codeT tabT) (hb : H.BuiltinsAt mg tabT)
    (hm : (pos, lamQual) ∈ placesT w) (hdef : defaultsOf params (envAt w aSt L) = ([], [])) (hcl : closureFor scope (envAt w aSt L) = pure [])
    (k : ∀ h' f c' pm ctv, Heap.ExtBut tabT h h' → TabR R H h' tabT (placesT w) → h.objs.size ≤ f → h'.get? f = some (kla_obj "<lambda>" lamQual params body scope [] pm c' ctv) → h'.CodeRec (.ref c') lamQual → c' ≠ tabT → Q (.ref f) h') :
    Wp (model prog w) A (eval (.Lambda params body scope pos) (envAt w aSt L)) Q h := by
  refine w_lambda hdef ?_
  refine w_makeLam (c := codeT) (qual := lamQual) (mg := mg) T hR G.E hm (fun q hq _ _ => ?_) hcl rfl G.now.g rfl (C.keeps G.E) (BuiltinsAt.ext hb G.E) (fun h' f c' ctv eb T' h1 h2 h3 h4 _ _ h5 => k h' f c' _ ctv eb T' h1 h3 h4 h5)
  simp only [placesT, List.mem_cons, List.not_mem_nil, or_false] at hq
  rcases hq with rfl | rfl <;> rfl
set_option maxHeartbeats 4000000 in
theorem st_call {n : Nat} {sl od pl : Addr} {sv : List Addr} {ws ph : List (List Nat)} {ro : List Nat} {ys : List Value} {f : Str → Option Value} {own : List Nat → Nat × Nat} {RR : Addr → Prop} {Q : Value → Heap → Prop} (G : Gd w mg mb H h) (ok : OkA (n + 3) A)
    (T : TabR RR H h tabT (placesT w)) (hRR : ∀ c, h.objs.size ≤ c → RR c) (C : CodeHd H codeT tabT) (hb : H.BuiltinsAt mg tabT) (hP : H.get? tabT = none)
    (R : RowsL h sl sv ws ro) (hD : DM prog w h od f) (hp : Ls h pl ys) (sp : Strs ys ph) (hz : sv.length ≤ 1000) (hpl : ph.length ≤ 1000)
    (hne : sl ≠ tabT ∧ od ≠ tabT ∧ pl ≠ tabT) (hsv : ∀ a ∈ sv, a ≠ tabT)
    (hf : ∀ x ∈ ph, ∃ tp t1 t2, f (S x) = some (.ref tp) ∧ tp ≠ tabT ∧ h.get? tp = some (tpl [.int ((own x).1 : Nat) t1, .int ((own x).2 : Nat) t2]))
    (ho : ∀ x ∈ ph, (own x).1 ≤ (own x).2 ∧ (own x).2 ≤ sv.length ∧ ((ro.drop (own x).1).take ((own x).2 - (own x).1)).Pairwise (· < ·))
    (k : ∀ h' tp t1 t2, h'.get? tp = some (tpl [.int ((stretch ro own sv.length ph).1 : Nat) t1, .int ((stretch ro own sv.length ph).2 : Nat) t2]) → h.objs.size ≤ tp → Kept [tabT] h h' → TabR RR H h' tabT (placesT w) → Q (.ref tp) h') :
    Wc (model prog w) A (.call (.ref aSt) ⟨[.ref sl, .ref od, .ref pl], []⟩) Q h := by
  refine c_callK (n := n + 2) (binds := [(nSpots, .ref sl), (nOwn, .ref od), (nPhrase, .ref pl)]) G.now ok (by kernel_rfl) (by kernel_rfl) (by kernel_rfl) (by kernel_rfl) (fun _ => by kernel_rfl) (by kernel_rfl) (by kernel_rfl) (fun L h₁ F ok' => ?_)
  have hTlt : tabT < h.objs.size := by obtain ⟨ps, e, _⟩ := T; exact Heap.lt_size e
  have hLT : L ≠ tabT := Nat.ne_of_gt (Nat.lt_of_lt_of_le hTlt F.above)
  have F1 := frHid F [tabT]
  have X1 : Fs (hideAll h [tabT]) h₁ [L, tabT] L h₁ _ := Fs.mk0 F1 _
  have hSP : ∀ i ∈ [tabT], (hideAll h [tabT]).get? i = none := fun i hi => hideAll_none _ hi
  have hSPH : ∀ i ∈ [tabT], H.get? i = none := by simpa using hP
  have ctx : ∀ h' m', Fr (hideAll h [tabT]) L h' m' → Gd w mg mb H h' := fun h' m' F' => (G.hid hSPH).ext F'.keep
  have kf : ∀ {h' m'}, Fr (hideAll h [tabT]) L h' m' → Kept [tabT] h h' := fun F' => Kept.of_fr F'
  have T1 := T.ext F.keep
  refine w_cons ?_
  refine w_asgSwap (base := hideAll h [tabT]) (h0 := h₁) (S := [L, tabT]) (L := L) (m := fun y => [(nSpots, Value.ref sl), (nOwn, Value.ref od), (nPhrase, Value.ref pl)].reverse.lookup y) ok'.3 ?_ rfl (by first | (with_reducible (first | exact im1 | exact im2 | exact im3 | exact sb0 | exact sb1 im1 | exact sb1 im2 | exact sb1 im3)) | exact nmc (adne (by decide)) nm0 | exact nmc (adne (by decide)) (nmc (adnn (by decide)) nm0) | simp) rfl rfl rfl
  refine w_tuple ?_
  refine w_arg ?_
  refine w_cInt fun t0 => ?_
  refine w_arg ?_
  refine w_callN ?_
  refine w_gB (v := .builtin "len") (ctx _ _ F1).now (by kernel_rfl) (by kernel_rfl) (by decide) ?_
  refine w_args ?_
  refine w_arg ?_
  refine w_nm F1.ns rfl ?_
  refine w_arg0 ?_
  refine w_kw0 ⟨Kp.builtin _, ?_⟩
  refine w_lenList (R.l.ext F.keep).isList (by simp; lia) fun tl => ?_
  refine w_arg0 ⟨by simp [sizeLine_eq], fun h2 tp0 htp0 e2 g2 z2 => ?_⟩
  refine ⟨tp0, _, _, rfl, g2, X1.ext e2, fun h3 X3 k3 => ?_⟩
  have hsl : ((sv.map Value.ref).toArray.size : Int) = (sv.length : Nat) := by simp
  rw [hsl] at X3
  have T3 := (T1.ext e2).keptL (X1.ext e2).ns k3 hLT.symm
  have p3 : Ls h3 pl ys := lsKept hp (kf X3.F) (by simpa using hne.2.2)
  refine w_cons ?_
  refine w_for ?_
  refine w_sub ?_
  refine w_nm X3.ns rfl ?_
  refine w_slice ?_
  refine w_part0 ?_
  refine w_part0 ?_
  refine w_part ?_
  refine w_neg ?_
  refine w_cInt fun _ => ⟨_, _, rfl, fun _ => ?_⟩
  refine w_sliceL p3.isList (lo := none) (hi := none) (st := some (-1)) .none .none (.int _ _) (by decide) (fun rl h4 hrl e4 l4 z4 => ?_) (by rw [sp.length, sizeLine_eq]; lia) _ rfl
  rw [slice_rev] at l4
  have X4 := X3.ext e4
  have hL4 : L < h4.objs.size := X4.ns.lt
  have hT4 : tabT < h4.objs.size := Nat.lt_trans hTlt (Nat.lt_of_le_of_lt F.above hL4)
  have hrlL : rl ≠ L := by rw [hrl]; exact Nat.ne_of_gt (Nat.lt_succ_of_lt X3.ns.lt)
  have hrlT : rl ≠ tabT := by rw [hrl]; exact Nat.ne_of_gt (Nat.lt_succ_of_lt (Nat.lt_trans hTlt (Nat.lt_of_le_of_lt F.above X3.ns.lt)))
  have spr := sp.reverse
  refine w_forI (iterList (.inl rfl) ok'.3 l4.isList) [L, tabT] (by simp only [List.mem_cons, List.not_mem_nil, or_false, not_false_eq_true, and_true]; rintro b (rfl | rfl); exact ⟨hL4, hrlL.symm⟩; exact ⟨hT4, hrlT.symm⟩)
    (fun b0 i h' => ∃ m t1 t2, Fr (hideAll h [tabT]) L h' m ∧ TabR (fun c => RR c ∧ (c < h4.objs.size ∨ b0 ≤ c)) H h' tabT (placesT w) ∧ m nSpots = some (.ref sl) ∧ m nOwn = some (.ref od) ∧ m nLow = some (.int ((ph.reverse.take i).foldl (stStep ro own) (0, sv.length)).1 t1) ∧ m nHigh = some (.int ((ph.reverse.take i).foldl (stStep ro own) (0, sv.length)).2 t2))
    (fun b0 i h1 h2 ⟨m, t1, t2, F, T, e⟩ off => ⟨m, t1, t2, frOff F off hL4, T.off off hT4 (fun c q => q.2), e⟩) (fun b0 => ⟨_, _, _, X4.F, (T3.ext e4).imp (fun c hc q => ⟨q, .inl hc⟩), rfl, rfl, rfl, rfl⟩) (fun b0 i v h5 hi hlv hP hJ k5 => ?_) (fun b0 h5 hJ k5 => ?_)
  · obtain ⟨m, t1, t2, F5, T5, m1, m2, m3, m4⟩ := hJ
    obtain ⟨x, tx, hx, rfl⟩ := spr.get' hP
    have hxp : x ∈ ph := by simpa using List.mem_of_getElem? hx
    obtain ⟨tp, u1, u2, hf1, hf2, hf3⟩ := hf x hxp
    obtain ⟨ho1, ho2, ho3⟩ := ho x hxp
    have hst' : ((ph.reverse.take (i + 1)).foldl (stStep ro own) (0, sv.length)) = stStep ro own ((ph.reverse.take i).foldl (stStep ro own) (0, sv.length)) x := by
      rw [List.take_add_one, hx, List.foldl_append]; rfl
    generalize hst : ((ph.reverse.take i).foldl (stStep ro own) (0, sv.length)) = st at m3 m4 hst'
    have X5 : Fs (hideAll h [tabT]) h5 [L, tabT] L h5 m := Fs.mk0 F5 _
    refine w_asgName ?_
    refine w_stF X5 fun h6 X6 sb6 => ?_
    have T6 := T5.same F5.ns sb6 hLT.symm
    refine w_cons ?_
    refine w_asgTup ?_
    refine w_sub ?_
    refine w_nm X6.ns m2 ?_
    refine w_nm X6.ns rfl ?_
    refine w_dictItem (hD.kept (kf X6.F) (by simpa using hne.2.1)) hf1 ?_
    have tp6 : h6.IsTuple tp #[.int ((own x).1 : Nat) u1, .int ((own x).2 : Nat) u2] := ⟨_, kf X6.F _ _ (by simpa using hf2) hf3, rfl, 0, rfl⟩
    refine w_asgTup2F X6 ok'.3 tp6 (fun h7 X7 k7 => ?_)
    have T7 := T6.keptL X6.ns k7 hLT.symm
    have Rat : ∀ {h' m'}, Fr (hideAll h [tabT]) L h' m' → RowsL h' sl sv ws ro := fun F' => R.kept (kf F') (by simpa using hne.1) (by simpa using hsv)
    have hfresh : ∀ {h' m'}, Fs (hideAll h [tabT]) h5 [L, tabT] L h' m' → ∀ c, h'.objs.size ≤ c → RR c ∧ (c < h4.objs.size ∨ b0 ≤ c) := fun X' c hc => by
      have h1 := live_le hlv X'.K (by simp only [List.mem_cons, List.not_mem_nil, or_false]; rintro a (rfl | rfl); exact hL4; exact hT4)
      exact ⟨hRR c (Nat.le_trans (Nat.le_of_lt (Nat.lt_of_le_of_lt F.above X'.ns.lt)) hc), .inr (Nat.le_trans h1 hc)⟩
    refine w_cons ?_
    refine w_asg ?_
    refine w_callN ?_
    refine w_gK (ctx _ _ X7.F).now (v := .ref aBL) (by kernel_rfl) ?_
    refine w_args ?_
    refine w_arg ?_
    refine w_nm X7.ns m1 ?_
    refine w_arg ?_
    refine w_binOp ?_
    refine w_nm X7.ns m3 ?_
    refine w_cInt fun _ => ?_
    refine w_addInt fun tx1 => ?_
    refine w_arg ?_
    refine w_nm X7.ns rfl ?_
    refine w_arg ?_
    refine w_nm X7.ns rfl ?_
    refine w_arg0 ?_
    refine w_kw ?_
    refine w_lamT (ctx _ _ X7.F) T7 ?_ C hb ?_ ?_ ?_ (fun h8 f8 c8 pm8 ctv8 eb8 T8 hf8 g8 r8 hc8 => ?_)
    · exact hfresh X7
    · exact List.mem_cons_self ..
    · rfl
    · rfl
    have X8 := X7.kept (S := [L, tabT]) (T := [tabT]) (fun b o n e => eb8 b o (by simpa using n) e) hSP (by simpa using hLT) (by first | (with_reducible (first | exact im1 | exact im2 | exact im3 | exact sb0 | exact sb1 im1 | exact sb1 im2 | exact sb1 im3)) | exact nmc (adne (by decide)) nm0 | exact nmc (adne (by decide)) (nmc (adnn (by decide)) nm0) | simp)
    refine w_kw0 ⟨?_, ?_⟩
    · exact kpFn aBL (ctx _ _ X8.F).now (by kernel_rfl) (by kernel_rfl)
    have R8 := Rat X8.F
    obtain ⟨kk0, kk1, hk0, hk1, hkk⟩ := R8.keys
    have hlow : ((st.1 : Nat) : Int) + 1 = ((st.1 + 1 : Nat) : Int) := by lia
    rw [hlow]
    have hps := pp_spec ro (own x).1 (own x).2 (st.1 + 1) ho1 (by rw [R.lr]; exact ho2) ho3
    refine bl_call (n := n + 1) (ks := kk1) (lo := (own x).1) (hi := (own x).2) (r := pp ro (own x).1 (own x).2 (st.1 + 1)) (less := fun i => decide (ro.getD i 0 < st.1 + 1)) (ctx _ _ X8.F).now ok' R8.l.isList (by simp; lia) (bl_b4k w _ _ _ _ _) (.inr ⟨_, rfl⟩) hps.1 hps.2.1 (by simpa using ho2) ?_ ?_ ?_ ?_ (fun h9 t9 e9 => ?_)
    · exact .inr ⟨⟨_, rfl⟩, Kp.func g8 rfl, by simp [hk1], fun i v kv e1 e2 => by
        simp only [List.getElem?_map, Option.map_eq_some_iff] at e1
        obtain ⟨a, ea, rfl⟩ := e1
        obtain ⟨v', u, t1', t2', q1, q2, q3, q4, q5⟩ := hkk i a ea
        rw [q2] at e2
        have e2 := Option.some.inj e2
        subst e2
        exact lam_key (ctx _ _ X8.F).now.lim g8 r8 (fun _ => by kernel_rfl) rfl rfl rfl rfl rfl rfl q3.isList⟩
    · exact fun i a b => decide_eq_true (hps.2.2.1 i a b)
    · exact fun i a b => decide_eq_false (by have := hps.2.2.2 i a b; lia)
    · intro i v e
      have hi : i < sv.length := by
        rw [← hk1]
        rcases Nat.lt_or_ge i kk1.length with q | q
        · exact q
        · rw [List.getElem?_eq_none q] at e; cases e
      obtain ⟨v', u, t1', t2', q1, q2, q3, q4, q5⟩ := hkk i sv[i] (by simp [hi])
      rw [q2] at e
      have e := Option.some.inj e
      subst e
      rw [q5]
      have := ltInt_cmp (n := n + 1) (prog := prog) (w := w) (h := h8) (a := ((ro.getD i 0 : Nat) : Int)) (b := ((st.1 + 1 : Nat) : Int)) (t := t2') (u := tx1)
      rw [show decide (((ro.getD i 0 : Nat) : Int) < ((st.1 + 1 : Nat) : Int)) = decide (ro.getD i 0 < st.1 + 1) by simp only [decide_eq_decide]; lia] at this
      exact this
    have X9 := X8.ext e9
    have T9 := T8.ext e9
    refine w_stF X9 fun h10 X10 sb10 => ?_
    have T10 := T9.same X9.ns sb10 hLT.symm
    refine w_cons ?_
    refine w_asg ?_
    refine w_callN ?_
    refine w_gK (ctx _ _ X10.F).now (v := .ref aBR) (by kernel_rfl) ?_
    refine w_args ?_
    refine w_arg ?_
    refine w_nm X10.ns m1 ?_
    refine w_arg ?_
    refine w_nm X10.ns m4 ?_
    refine w_arg ?_
    refine w_nm X10.ns rfl ?_
    refine w_arg ?_
    refine w_nm X10.ns rfl ?_
    refine w_arg0 ?_
    refine w_kw ?_
    refine w_lamT (ctx _ _ X10.F) T10 ?_ C hb ?_ ?_ ?_ (fun h11 f11 c11 pm11 ctv11 eb11 T11 hf11 g11 r11 hc11 => ?_)
    · exact hfresh X10
    · exact List.mem_cons_of_mem _ (List.mem_cons_self ..)
    · rfl
    · rfl
    have X11 := X10.kept (S := [L, tabT]) (T := [tabT]) (fun b o n e => eb11 b o (by simpa using n) e) hSP (by simpa using hLT) (by first | (with_reducible (first | exact im1 | exact im2 | exact im3 | exact sb0 | exact sb1 im1 | exact sb1 im2 | exact sb1 im3)) | exact nmc (adne (by decide)) nm0 | exact nmc (adne (by decide)) (nmc (adnn (by decide)) nm0) | simp)
    refine w_kw0 ⟨?_, ?_⟩
    · exact kpFn aBR (ctx _ _ X11.F).now (by kernel_rfl) (by kernel_rfl)
    have R11 := Rat X11.F
    obtain ⟨kk0', kk1', hk0', hk1', hkk'⟩ := R11.keys
    have hps2 := pp_spec ro (own x).1 (own x).2 (st.2 + 1) ho1 (by rw [R.lr]; exact ho2) ho3
    refine br_call (n := n + 1) (ks := kk1') (lo := (own x).1) (hi := (own x).2) (r := pp ro (own x).1 (own x).2 (st.2 + 1)) (less := fun i => decide (st.2 < ro.getD i 0)) (ctx _ _ X11.F).now ok' R11.l.isList (by simp; lia) (br_b4k w _ _ _ _ _) (.inr ⟨_, rfl⟩) hps2.1 hps2.2.1 (by simpa using ho2) ?_ ?_ ?_ ?_ (fun h12 t12 e12 => ?_)
    · exact .inr ⟨⟨_, rfl⟩, Kp.func g11 rfl, by simp [hk1'], fun i v kv e1 e2 => by
        simp only [List.getElem?_map, Option.map_eq_some_iff] at e1
        obtain ⟨a, ea, rfl⟩ := e1
        obtain ⟨v', u, t1', t2', q1, q2, q3, q4, q5⟩ := hkk' i a ea
        rw [q2] at e2
        have e2 := Option.some.inj e2
        subst e2
        exact lam_key (ctx _ _ X11.F).now.lim g11 r11 (fun _ => by kernel_rfl) rfl rfl rfl rfl rfl rfl q3.isList⟩
    · exact fun i a b => decide_eq_false (by have := hps2.2.2.1 i a b; lia)
    · exact fun i a b => decide_eq_true (by have := hps2.2.2.2 i a b; lia)
    · intro i v e
      have hi : i < sv.length := by
        rw [← hk1']
        rcases Nat.lt_or_ge i kk1'.length with q | q
        · exact q
        · rw [List.getElem?_eq_none q] at e; cases e
      obtain ⟨v', u, t1', t2', q1, q2, q3, q4, q5⟩ := hkk' i sv[i] (by simp [hi])
      rw [q2] at e
      have e := Option.some.inj e
      subst e
      rw [q5]
      have := ltInt_cmp (n := n + 1) (prog := prog) (w := w) (h := h11) (b := ((ro.getD i 0 : Nat) : Int)) (a := ((st.2 : Nat) : Int)) (t := t2) (u := t2')
      rw [show decide (((st.2 : Nat) : Int) < ((ro.getD i 0 : Nat) : Int)) = decide (st.2 < ro.getD i 0) by simp only [decide_eq_decide]; lia] at this
      exact this
    have X12 := X11.ext e12
    have T12 := T11.ext e12
    refine w_stF X12 fun h13 X13 sb13 => ?_
    have T13 := T12.same X12.ns sb13 hLT.symm
    refine w_nil ⟨X13.K, _, t9, t12, X13.F, T13, m1, m2, ?_, ?_⟩
    · rw [hst']; rfl
    · rw [hst']; rfl
  · obtain ⟨m, t1, t2, F5, T5, m1, m2, m3, m4⟩ := hJ
    have e0 : ph.reverse.take ys.reverse.length = ph.reverse := List.take_of_length_le (by simp [sp.length])
    rw [e0] at m3 m4
    refine w_nil ?_
    refine w_cons ?_
    refine w_ret ?_
    refine w_tuple ?_
    refine w_arg ?_
    refine w_nm F5.ns m3 ?_
    refine w_arg ?_
    refine w_nm F5.ns m4 ?_
    refine w_arg0 ⟨by simp [sizeLine_eq], fun h6 tp6 htp6 e6 g6 z6 => ?_⟩
    refine k h6 tp6 t1 t2 g6 ?_ (kf (F5.kept e6)) ((T5.imp fun c _ q => q.1).ext e6)
    rw [htp6]
    exact Nat.le_of_lt (Nat.lt_of_le_of_lt F.above F5.ns.lt)
end
end Mine
end
section
open PySem PySem.W PyProof.Rows PySem.Calls
set_option Elab.async false
set_option maxRecDepth 100000
set_option linter.unusedVariables false
set_option linter.unusedSimpArgs false
namespace Mine
abbrev aLaw : Addr := 137
noncomputable abbrev lawE (w : World) (L : Addr) : Env := callEnvC (fnAt w aLaw) L aLaw
noncomputable abbrev lawB (w : World) : List Stmt := bodyAt w aLaw
abbrev nScript : Str := Str.ofString "script"
abbrev nKinds : Str := Str.ofString "kinds"
abbrev nNumbers : Str := Str.ofString "numbers"
abbrev nRing : Str := Str.ofString "ring"
abbrev nRows : Str := Str.ofString "rows"
abbrev nOrder : Str := Str.ofString "order"
abbrev nAt : Str := Str.ofString "at"
def kinds6 : List (List Nat) := [[97], [], [35, 11, 32, 12, 98], [34], [92], [97, 34]]
def kindOf6 (x : Int) : List Nat := kinds6.getD (x.fmod 6).toNat []
def numsOf (sc : List Int) : List Int := [0, 14, 42, 33] ++ sc.take 5
def wordsOf (sc : List Int) : List (List Nat) := (numsOf sc).map kindOf6
def dressOf (sc : List Int) : List Int := (numsOf sc).map fun x => x.fdiv 6
theorem mod6 (x : Int) : ∃ j : Nat, j < 6 ∧ x.fmod 6 = j ∧ kinds6[j]? = some (kindOf6 x) := by
  have h1 := Int.fmod_nonneg_of_pos x (b := 6) (by decide)
  have h2 := Int.fmod_lt_of_pos x (b := 6) (by decide)
  refine ⟨(x.fmod 6).toNat, by lia, by lia, ?_⟩
  unfold kindOf6
  have h3 : (x.fmod 6).toNat < kinds6.length := by simp [kinds6]; lia
  simp [List.getD_eq_getElem?_getD, h3]
theorem ints_of_rel {items ys : List Value} {ns : List Int} {f : Int → Int} (hi : IntsAre items ns) (h : Rel2 (fun i v y => ∃ n t u, v = Value.int n t ∧ y = Value.int (f n) u) items ys) : IntsAre ys (ns.map f) := by
  obtain ⟨hl, h⟩ := h
  have : ∀ (items ys : List Value) (ns : List Int), IntsAre items ns → ys.length = items.length → (∀ (i : Nat) (v y : Value), items[i]? = some v → ys[i]? = some y → ∃ n t u, v = Value.int n t ∧ y = Value.int (f n) u) → IntsAre ys (ns.map f) := by
    intro items
    induction items with
    | nil => intro ys ns hi hl _; cases hi; cases ys with | nil => exact .nil | cons a b => simp at hl
    | cons v items ih =>
      intro ys ns hi hl h
      cases hi with
      | cons n t hi =>
        cases ys with
        | nil => simp at hl
        | cons y ys =>
          obtain ⟨n', t', u, e1, e2⟩ := h 0 _ _ rfl rfl
          injection e1 with e1 _
          subst e1; subst e2
          exact .cons _ _ (ih ys _ hi (by simpa using hl) (fun i v y a b => h (i + 1) v y (by simpa using a) (by simpa using b)))
  exact this items ys ns hi hl h
theorem strs_of_rel {items ys : List Value} {ns : List Int} {f : Int → List Nat} (hi : IntsAre items ns) (h : Rel2 (fun i v y => ∃ n t u, v = Value.int n t ∧ y = Value.str (S (f n)) u) items ys) : Strs ys (ns.map f) := by
  obtain ⟨hl, h⟩ := h
  have : ∀ (items ys : List Value) (ns : List Int), IntsAre items ns → ys.length = items.length → (∀ (i : Nat) (v y : Value), items[i]? = some v → ys[i]? = some y → ∃ n t u, v = Value.int n t ∧ y = Value.str (S (f n)) u) → Strs ys (ns.map f) := by
    intro items
    induction items with
    | nil => intro ys ns hi hl _; cases hi; cases ys with | nil => exact trivial | cons a b => simp at hl
    | cons v items ih =>
      intro ys ns hi hl h
      cases hi with
      | cons n t hi =>
        cases ys with
        | nil => simp at hl
        | cons y ys =>
          obtain ⟨n', t', u, e1, e2⟩ := h 0 _ _ rfl rfl
          injection e1 with e1 _
          subst e1; subst e2
          exact ⟨⟨_, rfl⟩, ih ys _ hi (by simpa using hl) (fun i v y a b => h (i + 1) v y (by simpa using a) (by simpa using b))⟩
  exact this items ys ns hi hl h
theorem IntsAre.append {a b : List Value} {x y : List Int} (h : IntsAre a x) (h' : IntsAre b y) : IntsAre (a ++ b) (x ++ y) := by
  induction h with
  | nil => exact h'
  | cons n t _ ih => exact .cons n t ih
theorem IntsAre.take {a : List Value} {x : List Int} (h : IntsAre a x) (k : Nat) : IntsAre (a.take k) (x.take k) := by
  induction h generalizing k with
  | nil => simpa using IntsAre.nil
  | cons n t _ ih => cases k with | zero => exact .nil | succ k => exact .cons n t (ih k)
section
variable {prog : Program} {w : World} {A : Around} {h base H : Heap} {mg mb : Str → Option Value} {L : Addr}
set_option maxHeartbeats 4000000 in
theorem ph1 {n : Nat} {sl : Addr} {svs : List Value} {sc : List Int} {Q : Flow → Heap → Prop} {m : Str → Option Value} (GB : Gd w mg mb H base) (ok : OkA (n + 4) A) (F : Fr base L h m) (hm : m nScript = some (.ref sl)) (hsl : base.IsList sl svs.toArray) (hsv : IntsAre svs sc) (hz : sc.length ≤ 63)
    (c1 : h.IsCell (L + 1) none) (hcb : base.get? (L + 1) = none)
    (k : ∀ h' m' kl wl kys wys tt, Fr base L h' m' → Kept [L, L + 1] h h' → h'.IsCell (L + 1) (some (.ref kl)) → Ls h' kl kys → Strs kys kinds6 → Ls h' wl wys → Strs wys (wordsOf sc) →
      m' nScript = some (.ref sl) → m' nWords = some (.ref wl) → m' nText = some (.str (S (lawText (wordsOf sc) (dressOf sc))) tt) → h.objs.size ≤ kl → kl < wl → Wp (model prog w) A (execs ((lawB w).drop 4) (lawE w L)) Q h') :
    Wp (model prog w) A (execs (lawB w) (lawE w L)) Q h := by
  have ctx : ∀ {h' m'}, Fr base L h' m' → Gd w mg mb H h' := fun F' => GB.ext F'.keep
  have X : Fs base h [L, L + 1] L h m := Fs.mk0 F _
  refine w_cons ?_
  refine w_asg ?_
  refine w_list ?_
  refine w_arg (w_cS [97] (by kernel_rfl) fun t1 => ?_)
  refine w_arg (w_cS [] (by kernel_rfl) fun t2 => ?_)
  refine w_arg (w_cS [35, 11, 32, 12, 98] (by kernel_rfl) fun t3 => ?_)
  refine w_arg (w_cS [34] (by kernel_rfl) fun t4 => ?_)
  refine w_arg (w_cS [92] (by kernel_rfl) fun t5 => ?_)
  refine w_arg (w_cS [97, 34] (by kernel_rfl) fun t6 => ?_)
  refine w_arg0 ⟨by simp [sizeLine_eq], fun h1 kl hkl e1 l1 z1 => ?_⟩
  have sk : Strs [Value.str (S [97]) t1, .str (S []) t2, .str (S [35, 11, 32, 12, 98]) t3, .str (S [34]) t4, .str (S [92]) t5, .str (S [97, 34]) t6] kinds6 := ⟨⟨_, rfl⟩, ⟨_, rfl⟩, ⟨_, rfl⟩, ⟨_, rfl⟩, ⟨_, rfl⟩, ⟨_, rfl⟩, trivial⟩
  have hc1 : L + 1 < h.objs.size := by obtain ⟨o, e, _⟩ := c1; exact Heap.lt_size e
  have hklc : kl ≠ L + 1 := by rw [hkl]; exact Nat.ne_of_gt hc1
  have hklL : kl ≠ L := by rw [hkl]; exact Nat.ne_of_gt F.ns.lt
  refine w_storeC (c := L + 1) rfl (c1.keeps e1) (fun h2 c2 sb2 => ?_)
  have X2 := (X.ext e1).kept (T := [L + 1]) (Kept.of_same sb2 (by first | (with_reducible (first | exact im1 | exact im2 | exact im3 | exact sb0 | exact sb1 im1 | exact sb1 im2 | exact sb1 im3)) | exact nmc (adne (by decide)) nm0 | exact nmc (adne (by decide)) (nmc (adnn (by decide)) nm0) | simp)) (by simpa using hcb) (by first | (with_reducible (first | exact im1 | exact im2 | exact im3 | exact sb0 | exact sb1 im1 | exact sb1 im2 | exact sb1 im3)) | exact nmc (adne (by decide)) nm0 | exact nmc (adne (by decide)) (nmc (adnn (by decide)) nm0) | simp) (by first | (with_reducible (first | exact im1 | exact im2 | exact im3 | exact sb0 | exact sb1 im1 | exact sb1 im2 | exact sb1 im3)) | exact nmc (adne (by decide)) nm0 | exact nmc (adne (by decide)) (nmc (adnn (by decide)) nm0) | simp)
  have l2 := l1.same sb2 hklc
  refine w_cons ?_
  refine w_asg ?_
  refine w_binOp ?_
  refine w_list ?_
  refine w_arg (w_cInt fun u1 => ?_)
  refine w_arg (w_cInt fun u2 => ?_)
  refine w_arg (w_cInt fun u3 => ?_)
  refine w_arg (w_cInt fun u4 => ?_)
  refine w_arg0 ⟨by simp [sizeLine_eq], fun h3 al hal e3 l3 z3 => ?_⟩
  have X3 := X2.ext e3
  have hsl3 : h3.IsList sl svs.toArray := IsList.ext hsl X3.F.keep
  have hlen := IntsAre.length hsv
  refine w_lcPure (cl := []) ok.3 rfl rfl rfl rfl rfl ?_
  refine w_sub ?_
  refine w_nm X3.ns hm ?_
  refine w_slice ?_
  refine w_part0 ?_
  refine w_part ?_
  refine w_cInt fun _ => ?_
  refine w_part0 ?_
  refine w_sliceL hsl3 (lo := none) (hi := some 5) (st := none) .none (.int _ _) .none (by decide) (fun rl4 h4 hrl4 e4 l4 z4 => ?_) (by rw [sizeLine_eq]; lia) _ rfl
  rw [show ((5 : Int)) = ((5 : Nat) : Int) from rfl, slice_to] at l4
  refine ⟨rl4, _, (fun i v y => ∃ n t u, v = Value.int n t ∧ y = Value.int (id n) u), rfl, l4.isList, by simp [sizeLine_eq]; lia, fun C h' m' i v Q' hv ex ns hC kq => ?_, fun ys5 D5 h5 hD5 l5 r5 e5 => ?_⟩
  · obtain ⟨n0, t0, e1, rfl⟩ := ints_get (hsv.take 5) hv
    exact w_nm ns (if_pos rfl) (kq _ _ ⟨n0, t0, t0, rfl, rfl⟩ (Ext.refl _))
  have i5 := ints_of_rel (hsv.take 5) r5
  rw [List.map_id] at i5
  have X5 := (X3.ext e4).ext e5
  have l35 := (l3.ext e4).ext e5
  refine w_addList l35 l5 (by rw [sizeLine_eq]; have := i5.length; simp at this ⊢; lia) (fun h6 e6 l6 z6 => ?_)
  generalize hnl : h5.objs.size = nl at *
  have inum : IntsAre ([Value.int 0 u1, Value.int 14 u2, Value.int 42 u3, Value.int 33 u4] ++ ys5) (numsOf sc) := IntsAre.append (.cons _ _ (.cons _ _ (.cons _ _ (.cons _ _ .nil)))) i5
  generalize hnv : [Value.int 0 u1, Value.int 14 u2, Value.int 42 u3, Value.int 33 u4] ++ ys5 = nvs at l6 inum
  have hnlen : (numsOf sc).length ≤ 9 := by simp [numsOf]; lia
  have hnvl : nvs.length ≤ 9 := by have := inum.length; lia
  have X6 := X5.ext e6
  have hnL : nl ≠ L := by rw [← hnl]; exact Nat.ne_of_gt X5.ns.lt
  refine w_stF X6 fun h7 X7 sb7 => ?_
  have l7 := l6.same sb7 hnL
  have c7 : h7.IsCell (L + 1) (some (.ref kl)) := by
    have c6 : h6.IsCell (L + 1) (some (.ref kl)) := (((c2.keeps e3).keeps e4).keeps e5).keeps e6
    obtain ⟨o, a, b⟩ := c6; exact ⟨o, (sb7.2 _ (Nat.succ_ne_self _)).trans a, b⟩
  have lk7 : Ls h7 kl _ := (((((l2.ext e3).ext e4).ext e5).ext e6)).same sb7 hklL
  refine w_cons ?_
  refine w_asgLc X7 (cl := [(nKinds, L + 1)]) (by first | (with_reducible (first | exact im1 | exact im2 | exact im3 | exact sb0 | exact sb1 im1 | exact sb1 im2 | exact sb1 im3)) | exact nmc (adne (by decide)) nm0 | exact nmc (adne (by decide)) (nmc (adnn (by decide)) nm0) | simp) rfl rfl rfl rfl rfl rfl (by first | (with_reducible (first | exact im1 | exact im2 | exact im3 | exact sb0 | exact sb1 im1 | exact sb1 im2 | exact sb1 im3)) | exact nmc (adne (by decide)) nm0 | exact nmc (adne (by decide)) (nmc (adnn (by decide)) nm0) | simp) rfl rfl ?_
  refine w_nm X7.ns rfl ?_
  refine ⟨nvs.length, _, [nl], iterList (.inl rfl) ok.3 l7.isList, by rw [sizeLine_eq]; lia, by simpa using l7.lt, Ext.refl _, _, compT_pure (fun i v y => ∃ n t u, v = Value.int n t ∧ y = Value.str (S (kindOf6 n)) u) rfl rfl rfl (fun C h' mm i v Q' hv ex ns hC kq => ?_), fun b0 ys D C h'' h8 hD hDC hCb hLn l8 hy j kk ex X8 => ?_⟩
  · obtain ⟨n0, t0, e1, rfl⟩ := ints_get inum hv
    obtain ⟨j, hj6, hj, hkj⟩ := mod6 n0
    obtain ⟨tk, htk⟩ := sk.get hkj
    refine w_sub ?_
    refine w_nmC (c := L + 1) rfl (c7.keeps ex) ?_
    refine w_binOp ?_
    refine w_nm ns (if_pos rfl) ?_
    refine w_cInt fun _ => ?_
    refine w_modInt (by decide) fun _ => ?_
    rw [hj]
    exact w_itemL (lk7.ext ex).isList htk (by simp [sizeLine_eq]) (kq _ _ ⟨n0, t0, tk, rfl, rfl⟩ (Ext.refl _))
  rw [List.take_length] at j
  have sw := strs_of_rel inum j
  have hDL : D ≠ L := by lia
  have hnlt := l7.lt
  have hnl8 : nl ∉ [L, C] := by simp only [List.mem_cons, List.not_mem_nil, or_false, not_or] at ⊢; lia
  have lnum8 : Ls h8 nl nvs := lsKept (l7.ext ex) kk hnl8
  refine w_cons ?_
  refine w_asg ?_
  refine w_callN ?_
  refine w_gK (ctx X8.F).now (v := .ref aTx) (by kernel_rfl) ?_
  refine w_args ?_
  refine w_arg ?_
  refine w_nm X8.ns rfl ?_
  refine w_arg ?_
  refine w_lcPure (cl := []) ok.3 rfl rfl rfl rfl rfl ?_
  refine w_nm X8.ns rfl ?_
  refine ⟨nl, nvs, (fun i v y => ∃ n t u, v = Value.int n t ∧ y = Value.int (n.fdiv 6) u), rfl, lnum8.isList, by rw [sizeLine_eq]; lia, fun C h' mm i v Q' hv ex ns hC kq => ?_, fun ys9 D9 h9 hD9 l9 r9 e9 => ?_⟩
  · obtain ⟨n0, t0, e1, rfl⟩ := ints_get inum hv
    refine w_binOp ?_
    refine w_nm ns (if_pos rfl) ?_
    refine w_cInt fun _ => ?_
    exact w_divInt (by decide) fun t1 => kq _ _ ⟨n0, t0, t1, rfl, rfl⟩ (Ext.refl _)
  have i9 := ints_of_rel (f := fun n => n.fdiv 6) inum r9
  have X9 := X8.ext e9
  refine w_arg0 ?_
  refine w_kw0 ⟨kpFn aTx (ctx X9.F).now (by kernel_rfl) (by kernel_rfl), ?_⟩
  have hwl : (wordsOf sc).length ≤ 9 := by simpa [wordsOf] using hnlen
  refine w_call (tx_call (n := n + 2) (ctx X9.F) ok (l8.ext e9) l9 sw i9 (by simp [wordsOf]) (Nat.le_trans hwl (by decide)) (fun x hx => ?_) (fun h10 t10 e10 => ?_))
  · obtain ⟨z, _, rfl⟩ := List.mem_map.mp hx
    obtain ⟨j, hj6, hj, hkj⟩ := mod6 z
    have hm := List.mem_of_getElem? hkj
    have : ∀ y ∈ kinds6, y.length ≤ 10 := by decide
    exact this _ hm
  have X10 := X9.ext e10
  refine w_stF X10 fun h11 X11 sb11 => ?_
  have hklt := lk7.lt
  have hkl8 : kl ∉ [L, C] := by simp only [List.mem_cons, List.not_mem_nil, or_false, not_or] at ⊢; lia
  have hcl8 : L + 1 ∉ [L, C] := by
    have : L + 1 < h7.objs.size := by obtain ⟨o, a, b⟩ := c7; exact Heap.lt_size a
    simp only [List.mem_cons, List.not_mem_nil, or_false, not_or] at ⊢; lia
  refine k h11 _ kl D _ ys t10 X11.F X11.K ?_ ((((lsKept (lk7.ext ex) kk hkl8).ext e9).ext e10).same sb11 hklL) sk ((((l8.ext e9).ext e10)).same sb11 hDL) sw hm rfl rfl (Nat.le_of_eq hkl.symm) (Nat.lt_of_lt_of_le lk7.lt hD)
  have c8 : h8.IsCell (L + 1) (some (.ref kl)) := by
    obtain ⟨o, a, b⟩ := c7.keeps ex; exact ⟨o, kk _ _ hcl8 a, b⟩
  obtain ⟨o, a, b⟩ := (c8.keeps e9).keeps e10
  exact ⟨o, (sb11.2 _ (Nat.succ_ne_self _)).trans a, b⟩
end
end Mine
end
section
open PySem PySem.W PyProof.Rows PySem.Calls
set_option Elab.async false
set_option maxRecDepth 100000
set_option linter.unusedVariables false
set_option linter.unusedSimpArgs false
namespace Mine
abbrev nCls : Str := Str.ofString "_netrclex"
abbrev nStream : Str := Str.ofString "_law_stream"
noncomputable def placesS (w : World) : List (Pos × Str) := [(rdPos w, rdQual)]
theorem ne_of_data {h : Heap} {a b : Addr} {oa ob : Obj} (ha : h.get? a = some oa) (hb : h.get? b = some ob) (hd : oa.data ≠ ob.data) : a ≠ b := fun q => by subst q; rw [ha] at hb; cases hb; exact hd rfl
section
variable {prog : Program} {w : World} {A : Around} {h base H : Heap} {mg mb : Str → Option Value} {L : Addr}
set_option maxHeartbeats 4000000 in
theorem w_newLexer {n : Nat} {e : Expr} {p1 p2 p3 p4 : Pos} {text : List Nat} {Q : Value → Heap → Prop} (he : starEach [e] (lawE w L) = [(false, eval e (lawE w L))]) (ok : OkA (n + 3) A) (hz : text.length ≤ 1048576)
    (C : CodeHd H 98 tabS) (hb : H.BuiltinsAt mg tabS) (hP : H.get? tabS = none)
    (GA : ∀ h', Kept [tabS] h h' → Gd w mg mb H h') (T : TabP H h tabS (placesS w))
    (x : Wp (model prog w) A (eval e (lawE w L)) (fun v h₁ => ∃ t, v = .str (S text) t ∧ Ext h h₁ ∧ ∀ h' a, LexC w H h' a text → LexM h' a text 0 [] → (∀ i ∈ a.all, i = a.c ∨ h₁.objs.size ≤ i) → Kept [tabS] h₁ h' → TabP H h' tabS (placesS w) → Q (.ref a.x) h') h) :
    Wp (model prog w) A (eval (.Call (.Name nCls p1) [.Call (.Name nStream p2) [e] [] p3] [] p4) (lawE w L)) Q h := by
  refine w_callN ?_
  refine w_gK (GA h (Kept.refl _ _)).now (v := .ref aCls) (by kernel_rfl) ?_
  refine w_args ?_
  refine w_arg ?_
  refine w_callN ?_
  refine w_gK (GA h (Kept.refl _ _)).now (v := .ref aStream) (by kernel_rfl) ?_
  refine w_args (w_arg (x.mono fun v h1 y => ?_) he) rfl he
  obtain ⟨t, rfl, e1, k⟩ := y
  have G1 : Gd w mg mb H h1 := GA h1 (Kept.of_ext e1)
  refine w_arg0 (w_kw0 ⟨kpFn aStream G1.now (by kernel_rfl) (by kernel_rfl), ?_⟩)
  refine w_call (str_call (n := n) G1 ok (T.ext e1) C hb hP (fun h2 st sd f c ct cp pl SC hge nd hHc k2 T2 => ?_))
  have G2 : Gd w mg mb H h2 := GA h2 ((Kept.of_ext e1).trans k2)
  refine w_arg0 (w_kw0 ⟨kpCls G2.now, ?_⟩)
  refine mk_call (n := n + 1) G2 ok (fun h3 x d pb t1 t2 hx hd hpb I D Lp e3 => ?_)
  have SC3 : StrC w h3 st sd f c ct cp pl text := by
    obtain ⟨a1, ⟨kvs, a2, a3⟩, ⟨doc, pm, ctv, a4⟩, a5, ⟨t6, a6⟩, a7, ⟨t8, a8⟩⟩ := SC
    exact ⟨a1.ext e3, ⟨kvs, a2.ext e3, a3⟩, ⟨doc, pm, ctv, e3 _ _ a4⟩, CodeRec.keptTo a5 (fun o ho => e3 _ _ ho), ⟨t6, a6.keeps e3⟩, a7.keeps e3, ⟨t8, IsList.ext a8 e3⟩⟩
  have SC3' := SC3
  obtain ⟨a1, ⟨kvs, a2, a3⟩, ⟨doc, pm, ctv, a4⟩, a5, ⟨t6, a6⟩, a7, ⟨t8, a8⟩⟩ := SC3
  obtain ⟨oc, vsc, ec, dc⟩ := CodeRec.fields a5
  have lt2 : ∀ i ∈ [st, sd, f, ct, cp, pl], i < h2.objs.size := by
    obtain ⟨b1, ⟨kvs', b2, b3⟩, ⟨doc', pm', ctv', b4⟩, b5, ⟨t6', b6⟩, b7, ⟨t8', b8⟩⟩ := SC
    intro i hi
    simp only [List.mem_cons, List.not_mem_nil, or_false] at hi
    rcases hi with rfl | rfl | rfl | rfl | rfl | rfl
    · exact Heap.lt_size b1
    · exact b2.lt
    · exact Heap.lt_size b4
    · obtain ⟨o, e, _⟩ := b6; exact Heap.lt_size e
    · obtain ⟨o, e, _⟩ := b7; exact Heap.lt_size e
    · obtain ⟨o, e, _⟩ := b8; exact Heap.lt_size e
  have hc2 : c < h2.objs.size := by
    obtain ⟨o, vs, e, _⟩ := CodeRec.fields SC.cd; exact Heap.lt_size e
  have s12 : h1.objs.size ≤ h2.objs.size := Nat.le_of_lt (Nat.lt_of_le_of_lt (hge st (by first | (with_reducible (first | exact im1 | exact im2 | exact im3 | exact sb0 | exact sb1 im1 | exact sb1 im2 | exact sb1 im3)) | exact nmc (adne (by decide)) nm0 | exact nmc (adne (by decide)) (nmc (adnn (by decide)) nm0) | simp)) (lt2 st (by first | (with_reducible (first | exact im1 | exact im2 | exact im3 | exact sb0 | exact sb1 im1 | exact sb1 im2 | exact sb1 im3)) | exact nmc (adne (by decide)) nm0 | exact nmc (adne (by decide)) (nmc (adnn (by decide)) nm0) | simp)))
  have cne : ∀ i ∈ [x, d, pb, st, sd, f, ct, cp, pl], i ≠ c := by
    obtain ⟨es, n', ed, _⟩ := D
    obtain ⟨n'', ep⟩ := Lp
    obtain ⟨es2, n2, ed2, _⟩ := a2
    obtain ⟨o6, e6, d6⟩ := a6
    obtain ⟨o7, e7, d7⟩ := a7
    obtain ⟨o8, e8, d8, n8, d8'⟩ := a8
    intro i hi
    simp only [List.mem_cons, List.not_mem_nil, or_false] at hi
    rcases hi with rfl | rfl | rfl | rfl | rfl | rfl | rfl | rfl | rfl
    · exact ne_of_data I ec (by rw [dc]; intro q; cases q)
    · exact ne_of_data ed ec (by rw [dc]; intro q; cases q)
    · exact ne_of_data ep ec (by rw [dc]; intro q; cases q)
    · exact ne_of_data a1 ec (by rw [dc]; intro q; cases q)
    · exact ne_of_data ed2 ec (by rw [dc]; intro q; cases q)
    · exact ne_of_data a4 ec (by rw [dc]; intro q; cases q)
    · exact ne_of_data e6 ec (by rw [dc, d6]; intro q; cases q)
    · exact ne_of_data e7 ec (by rw [dc, d7]; intro q; cases q)
    · exact ne_of_data e8 ec (by rw [dc, d8']; intro q; cases q)
  have fresh : ∀ i, h1.objs.size ≤ i → H.get? i = none := fun i hi => gd_none G1 hi
  have sd1 : h1.objs.size ≤ d := hd ▸ s12
  have sx1 : h1.objs.size ≤ x := by rw [hx]; exact Nat.le_succ_of_le s12
  have sp1 : h1.objs.size ≤ pb := Nat.le_trans s12 (Nat.le_trans (Nat.le_add_right _ 2) hpb)
  have fr : ∀ i ∈ (⟨x, d, pb, st, sd, f, c, ct, cp, pl⟩ : LexA).all, i = c ∨ h1.objs.size ≤ i := by
    intro i hi
    simp only [LexA.all, List.mem_cons, List.not_mem_nil, or_false] at hi
    rcases hi with rfl | rfl | rfl | rfl | rfl | rfl | rfl | rfl | rfl | rfl
    · exact .inr sx1
    · exact .inr sd1
    · exact .inr sp1
    · exact .inr (hge _ (by first | (with_reducible (first | exact im1 | exact im2 | exact im3 | exact sb0 | exact sb1 im1 | exact sb1 im2 | exact sb1 im3)) | exact nmc (adne (by decide)) nm0 | exact nmc (adne (by decide)) (nmc (adnn (by decide)) nm0) | simp))
    · exact .inr (hge _ (by first | (with_reducible (first | exact im1 | exact im2 | exact im3 | exact sb0 | exact sb1 im1 | exact sb1 im2 | exact sb1 im3)) | exact nmc (adne (by decide)) nm0 | exact nmc (adne (by decide)) (nmc (adnn (by decide)) nm0) | simp))
    · exact .inr (hge _ (by first | (with_reducible (first | exact im1 | exact im2 | exact im3 | exact sb0 | exact sb1 im1 | exact sb1 im2 | exact sb1 im3)) | exact nmc (adne (by decide)) nm0 | exact nmc (adne (by decide)) (nmc (adnn (by decide)) nm0) | simp))
    · exact .inl rfl
    · exact .inr (hge _ (by first | (with_reducible (first | exact im1 | exact im2 | exact im3 | exact sb0 | exact sb1 im1 | exact sb1 im2 | exact sb1 im3)) | exact nmc (adne (by decide)) nm0 | exact nmc (adne (by decide)) (nmc (adnn (by decide)) nm0) | simp))
    · exact .inr (hge _ (by first | (with_reducible (first | exact im1 | exact im2 | exact im3 | exact sb0 | exact sb1 im1 | exact sb1 im2 | exact sb1 im3)) | exact nmc (adne (by decide)) nm0 | exact nmc (adne (by decide)) (nmc (adnn (by decide)) nm0) | simp))
    · exact .inr (hge _ (by first | (with_reducible (first | exact im1 | exact im2 | exact im3 | exact sb0 | exact sb1 im1 | exact sb1 im2 | exact sb1 im3)) | exact nmc (adne (by decide)) nm0 | exact nmc (adne (by decide)) (nmc (adnn (by decide)) nm0) | simp))
  have all2 : ∀ i ∈ [st, sd, f, c, ct, cp, pl], i < h2.objs.size := by
    intro i hi
    by_cases q : i = c
    · rw [q]; exact hc2
    · refine lt2 i ?_
      simp only [List.mem_cons, List.not_mem_nil, or_false] at hi ⊢
      rcases hi with h | h | h | h | h | h | h
      · exact .inl h
      · exact .inr (.inl h)
      · exact .inr (.inr (.inl h))
      · exact absurd h q
      · exact .inr (.inr (.inr (.inl h)))
      · exact .inr (.inr (.inr (.inr (.inl h))))
      · exact .inr (.inr (.inr (.inr (.inr h))))
  have nd7 : [st, sd, f, c, ct, cp, pl].Nodup := by
    have p : [st, sd, f, c, ct, cp, pl].Perm (c :: [st, sd, f, ct, cp, pl]) := (List.perm_middle (l₁ := [st, sd, f]) (l₂ := [ct, cp, pl]))
    rw [p.nodup_iff, List.nodup_cons]
    refine ⟨fun m => cne c ?_ rfl, nd⟩
    simp only [List.mem_cons, List.not_mem_nil, or_false] at m ⊢
    rcases m with h | h | h | h | h | h
    · exact .inr (.inr (.inr (.inl h)))
    · exact .inr (.inr (.inr (.inr (.inl h))))
    · exact .inr (.inr (.inr (.inr (.inr (.inl h)))))
    · exact .inr (.inr (.inr (.inr (.inr (.inr (.inl h))))))
    · exact .inr (.inr (.inr (.inr (.inr (.inr (.inr (.inl h)))))))
    · exact .inr (.inr (.inr (.inr (.inr (.inr (.inr (.inr h)))))))
  have big : ∀ i, h2.objs.size ≤ i → i ∉ [st, sd, f, c, ct, cp, pl] := fun i hi m => Nat.not_lt.mpr hi (all2 i m)
  refine k h3 ⟨x, d, pb, st, sd, f, c, ct, cp, pl⟩ ⟨I, a1, ⟨kvs, a2, a3⟩, ⟨doc, pm, ctv, a4⟩, a5, ⟨t6, a6⟩, a7, ?_, ?_, hz⟩ ⟨⟨t1, t2, ?_⟩, Lp, ⟨t8, a8⟩, Nat.zero_le _⟩ fr (k2.trans (Kept.of_ext e3)) (T2.ext e3)
  · show (x :: d :: pb :: [st, sd, f, c, ct, cp, pl]).Nodup
    rw [List.nodup_cons, List.nodup_cons, List.nodup_cons]
    have xd : x ≠ d := by rw [hx, hd]; exact Nat.succ_ne_self _
    have pd : pb ≠ d := by rw [hd]; exact Nat.ne_of_gt (Nat.lt_of_lt_of_le (Nat.lt_add_of_pos_right (by decide)) hpb)
    have px : pb ≠ x := by rw [hx]; exact Nat.ne_of_gt (Nat.lt_of_lt_of_le (Nat.lt_succ_self _) hpb)
    refine ⟨fun m => ?_, fun m => ?_, big pb (Nat.le_trans (Nat.le_add_right _ 2) hpb), nd7⟩
    · rcases List.mem_cons.mp m with q | m
      · exact xd q
      rcases List.mem_cons.mp m with q | m
      · exact px q.symm
      · exact big x (by rw [hx]; exact Nat.le_succ _) m
    · rcases List.mem_cons.mp m with q | m
      · exact pd q.symm
      · exact big d (Nat.le_of_eq hd.symm) m
  · intro i hi
    rcases fr i hi with rfl | q
    · exact hHc
    · exact fresh i q
  · exact D
end
end Mine
end
section
open PySem PySem.W PyProof.Rows PySem.Calls
set_option Elab.async false
set_option maxRecDepth 100000
set_option linter.unusedVariables false
set_option linter.unusedSimpArgs false
namespace Mine
/-- what is left of a text after k words -/
def remT (text : List Nat) : Nat → List Nat
  | 0 => text
  | k + 1 => (lexT (remT text k)).2
def tokT (text : List Nat) (k : Nat) : List Nat := (lexT (remT text k)).1
theorem kin_strs : ∀ (a b : List (List Nat)), Kin (a.map At.s) (b.map At.s) = true
  | [], [] => rfl
  | [], _ :: _ => rfl
  | _ :: _, [] => rfl
  | a :: as, b :: bs => by simp [Kin, At.kin, kin_strs as bs]
theorem Strs.LA {h : Heap} {a : Addr} {vs : List Value} {ts : List (List Nat)} (l : Ls h a vs) (x : Strs vs ts) : Mine.LA h a (ts.map .s) := ⟨vs, l, x.atL⟩
theorem map_s_inj {a b : List (List Nat)} : (a.map At.s = b.map At.s) ↔ a = b := by
  constructor
  · intro h
    have : ∀ (a b : List (List Nat)), a.map At.s = b.map At.s → a = b := by
      intro a
      induction a with
      | nil => intro b h; cases b with | nil => rfl | cons x y => simp at h
      | cons x a ih => intro b h; cases b with
        | nil => simp at h
        | cons y b => simp at h; rw [h.1, ih b (by simpa using h.2)]
    exact this a b h
  · rintro rfl; rfl
def okW (x : List Nat) : Bool := x.all (· < 0x110000)
theorem okW_at (x : List Nat) (h : okW x = true) : (At.s x).ok = true := by
  show PyData.strOk (S x) = true
  unfold PyData.strOk
  simpa [S, okW] using h
theorem LexC.keptBut {w : World} {H h h' : Heap} {a : LexA} {text : List Nat} {S : List Addr} (C : LexC w H h a text) (k : Kept S h h') (hS : ∀ i ∈ a.all, i ∉ S) : LexC w H h' a text := by
  have m : ∀ i, i ∈ a.all → i ∉ S := hS
  unfold LexA.all at m
  simp only [List.mem_cons, List.not_mem_nil, or_false, forall_eq_or_imp, forall_eq] at m
  obtain ⟨m1, m2, m3, m4, m5, m6, m7, m8, m9, m10⟩ := m
  refine ⟨k _ _ m1 C.ix, k _ _ m4 C.ist, ?_, ?_, CodeRec.kept C.cd k m7, ?_, ?_, C.nd, C.fr, C.len⟩
  · obtain ⟨kvs, ⟨es, n, e, r⟩, g⟩ := C.sd
    exact ⟨kvs, ⟨es, n, k _ _ m5 e, r⟩, g⟩
  · obtain ⟨doc, pm, ctv, e⟩ := C.fn
    exact ⟨doc, pm, ctv, k _ _ m6 e⟩
  · obtain ⟨t, o, ho, hd⟩ := C.ct
    exact ⟨t, o, k _ _ m8 ho, hd⟩
  · obtain ⟨o, ho, hd⟩ := C.cp
    exact ⟨o, k _ _ m9 ho, hd⟩
theorem LexM.keptBut {h h' : Heap} {a : LexA} {text : List Nat} {p : Nat} {toks : List Value} {S : List Addr} (X : LexM h a text p toks) (k : Kept S h h') (hS : ∀ i ∈ a.all, i ∉ S) : LexM h' a text p toks :=
  X.kept k (hS _ (by first | exact LexA.m_x _ | exact LexA.m_d _ | exact LexA.m_pb _ | exact LexA.m_st _ | exact LexA.m_sd _ | exact LexA.m_f _ | exact LexA.m_c _ | exact LexA.m_ct _ | exact LexA.m_cp _ | exact LexA.m_pl _)) (hS _ (by first | exact LexA.m_x _ | exact LexA.m_d _ | exact LexA.m_pb _ | exact LexA.m_st _ | exact LexA.m_sd _ | exact LexA.m_f _ | exact LexA.m_c _ | exact LexA.m_ct _ | exact LexA.m_cp _ | exact LexA.m_pl _)) (hS _ (by first | exact LexA.m_x _ | exact LexA.m_d _ | exact LexA.m_pb _ | exact LexA.m_st _ | exact LexA.m_sd _ | exact LexA.m_f _ | exact LexA.m_c _ | exact LexA.m_ct _ | exact LexA.m_cp _ | exact LexA.m_pl _))
/-- a lexer stays when nothing but its own changing things (or none of its things) changes -/
theorem LexC.keptX {w : World} {H h h' : Heap} {a : LexA} {text : List Nat} {S : List Addr} (C : LexC w H h a text) (k : Kept S h h') (hS : ∀ i ∈ a.all, i ∈ S → i ∈ a.mut) : LexC w H h' a text := by
  obtain ⟨n1, n2, n3, n4, n5, n6, n7⟩ := nd_ne C.nd
  have m : ∀ i, i ∈ a.all → i ∉ a.mut → i ∉ S := fun i hi hm hs => hm (hS i hi hs)
  refine ⟨k _ _ (m _ (by first | exact LexA.m_x _ | exact LexA.m_d _ | exact LexA.m_pb _ | exact LexA.m_st _ | exact LexA.m_sd _ | exact LexA.m_f _ | exact LexA.m_c _ | exact LexA.m_ct _ | exact LexA.m_cp _ | exact LexA.m_pl _) n1) C.ix, k _ _ (m _ (by first | exact LexA.m_x _ | exact LexA.m_d _ | exact LexA.m_pb _ | exact LexA.m_st _ | exact LexA.m_sd _ | exact LexA.m_f _ | exact LexA.m_c _ | exact LexA.m_ct _ | exact LexA.m_cp _ | exact LexA.m_pl _) n2) C.ist, ?_, ?_, CodeRec.kept C.cd k (m _ (by first | exact LexA.m_x _ | exact LexA.m_d _ | exact LexA.m_pb _ | exact LexA.m_st _ | exact LexA.m_sd _ | exact LexA.m_f _ | exact LexA.m_c _ | exact LexA.m_ct _ | exact LexA.m_cp _ | exact LexA.m_pl _) n5), ?_, ?_, C.nd, C.fr, C.len⟩
  · obtain ⟨kvs, ⟨es, n, e, r⟩, g⟩ := C.sd
    exact ⟨kvs, ⟨es, n, k _ _ (m _ (by first | exact LexA.m_x _ | exact LexA.m_d _ | exact LexA.m_pb _ | exact LexA.m_st _ | exact LexA.m_sd _ | exact LexA.m_f _ | exact LexA.m_c _ | exact LexA.m_ct _ | exact LexA.m_cp _ | exact LexA.m_pl _) n3) e, r⟩, g⟩
  · obtain ⟨doc, pm, ctv, e⟩ := C.fn
    exact ⟨doc, pm, ctv, k _ _ (m _ (by first | exact LexA.m_x _ | exact LexA.m_d _ | exact LexA.m_pb _ | exact LexA.m_st _ | exact LexA.m_sd _ | exact LexA.m_f _ | exact LexA.m_c _ | exact LexA.m_ct _ | exact LexA.m_cp _ | exact LexA.m_pl _) n4) e⟩
  · obtain ⟨t, o, ho, hd⟩ := C.ct
    exact ⟨t, o, k _ _ (m _ (by first | exact LexA.m_x _ | exact LexA.m_d _ | exact LexA.m_pb _ | exact LexA.m_st _ | exact LexA.m_sd _ | exact LexA.m_f _ | exact LexA.m_c _ | exact LexA.m_ct _ | exact LexA.m_cp _ | exact LexA.m_pl _) n6) ho, hd⟩
  · obtain ⟨o, ho, hd⟩ := C.cp
    exact ⟨o, k _ _ (m _ (by first | exact LexA.m_x _ | exact LexA.m_d _ | exact LexA.m_pb _ | exact LexA.m_st _ | exact LexA.m_sd _ | exact LexA.m_f _ | exact LexA.m_c _ | exact LexA.m_ct _ | exact LexA.m_cp _ | exact LexA.m_pl _) n7) ho, hd⟩
theorem IsCell.kept {S : List Addr} {h h' : Heap} {c : Addr} {v : Option Value} (x : h.IsCell c v) (k : Kept S h h') (hn : c ∉ S) : h'.IsCell c v := let ⟨o, e, r⟩ := x; ⟨o, k _ _ hn e, r⟩
/-- the lexer's own things lie apart from the frame's -/
theorem lex_apart {w : World} {H h1 : Heap} {a : LexA} {text : List Nat} {n0 : Addr} {S : List Addr} (C : LexC w H h1 a text) (hfr : ∀ i ∈ a.all, i = a.c ∨ n0 ≤ i) (hS : ∀ s ∈ S, s < n0 ∧ ∃ o, h1.get? s = some o ∧ ∀ vs, o.data ≠ .fields vs) : ∀ i ∈ a.all, i ∉ S := by
  intro i hi m
  obtain ⟨h2, o, e, hd⟩ := hS i m
  rcases hfr i hi with q | q
  · obtain ⟨oc, vs, ec, dc⟩ := CodeRec.fields C.cd
    rw [q, ec] at e; cases e
    exact hd vs dc
  · exact absurd h2 (Nat.not_lt.mpr q)
theorem lex_lt {w : World} {H h : Heap} {a : LexA} {text : List Nat} {p : Nat} {toks : List Value} (C : LexC w H h a text) (X : LexM h a text p toks) : ∀ i ∈ a.all, i < h.objs.size := by
  obtain ⟨ld, lb, ll⟩ := X.lt
  obtain ⟨b1, b0, ⟨kvs', b2, b3⟩, ⟨doc', pm', ctv', b4⟩, b5, ⟨t6', b6⟩, b7, _, _, _⟩ := C
  intro i hi
  simp only [LexA.all, List.mem_cons, List.not_mem_nil, or_false] at hi
  rcases hi with rfl | rfl | rfl | rfl | rfl | rfl | rfl | rfl | rfl | rfl
  · exact Heap.lt_size b1
  · exact ld
  · exact lb
  · exact Heap.lt_size b0
  · exact b2.lt
  · exact Heap.lt_size b4
  · obtain ⟨o, vs, e, _⟩ := CodeRec.fields b5; exact Heap.lt_size e
  · obtain ⟨o, e, _⟩ := b6; exact Heap.lt_size e
  · obtain ⟨o, e, _⟩ := b7; exact Heap.lt_size e
  · exact ll
theorem ns_data {h : Heap} {L : Addr} {m : Str → Option Value} (n : h.Ns L m) : ∃ o, h.get? L = some o ∧ ∀ vs, o.data ≠ .fields vs := by
  obtain ⟨o, es, ep, e, hd, _⟩ := n
  exact ⟨o, e, fun vs q => by rw [hd] at q; cases q⟩
theorem cell_data {h : Heap} {c : Addr} {v : Option Value} (n : h.IsCell c v) : ∃ o, h.get? c = some o ∧ ∀ vs, o.data ≠ .fields vs := by
  obtain ⟨o, e, hd⟩ := n
  exact ⟨o, e, fun vs q => by rw [hd] at q; cases q⟩
theorem codeNeTab {H h : Heap} {P c : Addr} {q : Str} {places : List (Pos × Str)} (T : TabP H h P places) (x : h.CodeRec (.ref c) q) : c ≠ P := by
  obtain ⟨ps, e, t, _⟩ := T
  obtain ⟨c', o, vs, tk, e1, e2, e3, e4⟩ := x
  injection e1 with e1
  subst e1
  intro hq
  subst hq
  rw [e] at e2
  cases e2
  injection e3 with e3
  subst e3
  have e5 : ps.toList[1]? = some (Value.str q tk) := by simpa using e4
  generalize ps.toList = l at t e5
  match l, t, e5 with
  | .int a t1 :: .int b t2 :: x :: rest, _, e5 => simp at e5
theorem lexNeTab {w : World} {H h1 : Heap} {a : LexA} {text : List Nat} {n0 P : Addr} {places : List (Pos × Str)} (C : LexC w H h1 a text) (hfr : ∀ i ∈ a.all, i = a.c ∨ n0 ≤ i) (T : TabP H h1 P places) (hP : P < n0) : ∀ i ∈ a.all, i ≠ P := by
  intro i hi q
  rcases hfr i hi with h | h
  · exact codeNeTab T C.cd (h ▸ q)
  · subst q; exact absurd hP (Nat.not_lt.mpr h)
section
variable {prog : Program} {w : World} {A : Around} {h base H : Heap} {mg mb : Str → Option Value} {L : Addr}
/-- lexer.get_token() with nothing pushed back -/
theorem w_getTok {n : Nat} {env : Env} {a : LexA} {text : List Nat} {p : Nat} {o : Expr} {apos pos : Pos} {Q : Value → Heap → Prop} (G : Gd w mg mb H h) (ok : OkA (n + 4) A) (C : LexC w H h a text) (X : LexM h a text p [])
    (ho : ∀ Q' : Value → Heap → Prop, Q' (.ref a.x) h → Wp (model prog w) A (eval o env) Q' h)
    (k : ∀ h' t p', LexM h' a text p' [] → text.drop p' = (lexT (text.drop p)).2 → Kept [a.d, a.pl] h h' → Q (.str (S (lexT (text.drop p)).1) t) h')
    (hbase : attributeBase o nGT env (eval o env) = eval o env := by rfl) (hline : (apos.endLine == pos.line) = true := by rfl) :
    Wp (model prog w) A (eval (.Call (.Attribute o nGT apos) [] [] pos) env) Q h := by
  obtain ⟨t1, t2, d⟩ := X.d
  refine w_mcall (ho _ ?_) hbase (by rfl) hline
  refine w_method G.now.K C.ix d (pgC w _) (fiGT w) (fnGT w) rfl ?_
  exact w_args0 (kpFn aGT G.now (by kernel_rfl) (by kernel_rfl)) (w_call (gt_call G ok C X k))
theorem w_popTok {n : Nat} {env : Env} {a : LexA} {text : List Nat} {p : Nat} {toks : List Value} {v : Value} {o : Expr} {apos pos : Pos} {Q : Value → Heap → Prop} (G : Gd w mg mb H h) (ok : OkA (n + 1) A) (C : LexC w H h a text) (X : LexM h a text p (v :: toks)) (hz : toks.length ≤ 1000000)
    (ho : ∀ Q' : Value → Heap → Prop, Q' (.ref a.x) h → Wp (model prog w) A (eval o env) Q' h)
    (k : ∀ h', LexM h' a text p toks → Kept [a.pb] h h' → Q v h')
    (hbase : attributeBase o nGT env (eval o env) = eval o env := by rfl) (hline : (apos.endLine == pos.line) = true := by rfl) :
    Wp (model prog w) A (eval (.Call (.Attribute o nGT apos) [] [] pos) env) Q h := by
  obtain ⟨t1, t2, d⟩ := X.d
  refine w_mcall (ho _ ?_) hbase (by rfl) hline
  refine w_method G.now.K C.ix d (pgC w _) (fiGT w) (fnGT w) rfl ?_
  exact w_args0 (kpFn aGT G.now (by kernel_rfl) (by kernel_rfl)) (w_call (gt_pop G ok C X hz k))
/-- lexer.push_token(e) -/
theorem w_pushTok {n : Nat} {env : Env} {a : LexA} {text : List Nat} {p : Nat} {toks : List Value} {o e : Expr} {apos pos : Pos} {Q : Value → Heap → Prop} (he : starEach [e] env = [(false, eval e env)]) (G : Gd w mg mb H h) (C : LexC w H h a text) (X : LexM h a text p toks) (ok : OkA (n + 1) A)
    (ho : ∀ Q' : Value → Heap → Prop, Q' (.ref a.x) h → Wp (model prog w) A (eval o env) Q' h)
    (x : Wp (model prog w) A (eval e env) (fun v h₁ => ∃ p' toks', Gd w mg mb H h₁ ∧ LexC w H h₁ a text ∧ LexM h₁ a text p' toks' ∧ toks'.length ≤ 1000000 ∧ ∀ h', LexM h' a text p' (toks' ++ [v]) → Kept [a.pb] h₁ h' → Q .none h') h)
    (hbase : attributeBase o nPT env (eval o env) = eval o env := by rfl) (hline : (apos.endLine == pos.line) = true := by rfl) :
    Wp (model prog w) A (eval (.Call (.Attribute o nPT apos) [e] [] pos) env) Q h := by
  obtain ⟨t1, t2, d⟩ := X.d
  refine w_mcall (ho _ ?_) hbase (by rw [he]; rfl) hline
  refine w_method G.now.K C.ix d (pgC w _) (fiPT w) (fnPT w) rfl ?_
  refine w_args (w_arg (x.mono fun v h1 y => ?_) he) rfl he
  obtain ⟨p', toks', G1, C1, X1, hz, k⟩ := y
  exact w_arg0 (w_kw0 ⟨kpFn aPT G1.now (by kernel_rfl) (by kernel_rfl), w_call (pt_call G1 ok C1 X1 hz k)⟩)
set_option maxHeartbeats 4000000 in
theorem ph2 {n : Nat} {wl : Addr} {wys : List Value} {words : List (List Nat)} {text : List Nat} {tt : Tok} {Q : Flow → Heap → Prop} {m : Str → Option Value} (GB : Gd w mg mb H base) (ok : OkA (n + 5) A) (F : Fr base L h m)
    (C0 : CodeHd H 98 tabS) (hb : H.BuiltinsAt mg tabS) (hP : H.get? tabS = none) (T : TabP H h tabS (placesS w)) (hPb : base.get? tabS = none) (hPL : tabS ≠ L + 2 ∧ tabS ≠ L)
    (hwl : Ls h wl wys) (sw : Strs wys words) (mw : m nWords = some (.ref wl)) (mt : m nText = some (.str (S text) tt)) (hz : text.length ≤ 1048576) (hn : words.length ≤ 1000) (hn1 : 0 < words.length) (hokw : ∀ x ∈ words, okW x = true)
    (htok : ∀ i, i < words.length → words[i]? = some (tokT text i)) (hend : tokT text words.length = []) (hrem : remT text (words.length + 1) = [])
    (c2 : h.IsCell (L + 2) none) (hcb : base.get? (L + 2) = none) (hwlne : wl ≠ L ∧ wl ≠ L + 2 ∧ wl ≠ tabS)
    (k : ∀ h' m' a text, Fr base L h' m' → Kept [L, L + 2, tabS] h h' → h'.IsCell (L + 2) (some (.ref a.x)) → LexC w H h' a text → LexM h' a text text.length [] → (∀ i ∈ a.all, i = a.c ∨ h.objs.size ≤ i) → TabP H h' tabS (placesS w) →
      (∀ x, x ≠ nLexer → x ≠ Str.ofString "_" → m' x = m x) → Wp (model prog w) A (execs ((lawB w).drop 7) (lawE w L)) Q h') :
    Wp (model prog w) A (execs ((lawB w).drop 4) (lawE w L)) Q h := by
  have ctx : ∀ {h' m'}, Fr base L h' m' → Gd w mg mb H h' := fun F' => GB.ext F'.keep
  have hPLt : tabS < h.objs.size := by obtain ⟨ps, e, _⟩ := T; exact Heap.lt_size e
  have hc2l : L + 2 < h.objs.size := by obtain ⟨o, e, _⟩ := c2; exact Heap.lt_size e
  have hSH : ∀ i ∈ [tabS], H.get? i = none := by simpa using hP
  refine w_cons ?_
  refine w_asg ?_
  refine w_newLexer (n := n + 2) rfl ok hz C0 hb hP (fun h' kk => (ctx F).kept kk hSH) T ?_
  refine w_nm F.ns mt ⟨tt, rfl, Ext.refl _, fun h1 a C1 X1 hfr k1 T1 => ?_⟩
  have X : Fs base h [L, L + 2, tabS] L h m := Fs.mk0 F _
  have Y1 := X.kept (T := [tabS]) k1 (by simpa using hPb) (by simpa using hPL.2.symm) (by first | (with_reducible (first | exact im1 | exact im2 | exact im3 | exact sb0 | exact sb1 im1 | exact sb1 im2 | exact sb1 im3)) | exact nmc (adne (by decide)) nm0 | exact nmc (adne (by decide)) (nmc (adnn (by decide)) nm0) | simp)
  have c21 : h1.IsCell (L + 2) none := by obtain ⟨o, e, r⟩ := c2; exact ⟨o, k1 _ _ (by simpa using hPL.1.symm) e, r⟩
  refine w_storeC (c := L + 2) rfl c21 (fun h2 c22 sb2 => ?_)
  have Y2 := Y1.kept (T := [L + 2]) (Kept.of_same sb2 (by first | (with_reducible (first | exact im1 | exact im2 | exact im3 | exact sb0 | exact sb1 im1 | exact sb1 im2 | exact sb1 im3)) | exact nmc (adne (by decide)) nm0 | exact nmc (adne (by decide)) (nmc (adnn (by decide)) nm0) | simp)) (by simpa using hcb) (by first | (with_reducible (first | exact im1 | exact im2 | exact im3 | exact sb0 | exact sb1 im1 | exact sb1 im2 | exact sb1 im3)) | exact nmc (adne (by decide)) nm0 | exact nmc (adne (by decide)) (nmc (adnn (by decide)) nm0) | simp) (by first | (with_reducible (first | exact im1 | exact im2 | exact im3 | exact sb0 | exact sb1 im1 | exact sb1 im2 | exact sb1 im3)) | exact nmc (adne (by decide)) nm0 | exact nmc (adne (by decide)) (nmc (adnn (by decide)) nm0) | simp)
  have hLl : L < h.objs.size := F.ns.lt
  have hap : ∀ i ∈ a.all, i ∉ [L, L + 2] := lex_apart C1 hfr (by
    intro s hs
    simp only [List.mem_cons, List.not_mem_nil, or_false] at hs
    rcases hs with rfl | rfl
    · exact ⟨hLl, ns_data Y1.ns⟩
    · exact ⟨hc2l, cell_data c21⟩)
  have hb0 : ∀ i, i ∈ a.all → i ∈ [a.d, a.pb, a.pl] → h.get? i = none ∧ base.get? i = none := fun i hi hi2 => by
    have : h.objs.size ≤ i := by
      rcases hfr i hi with q | q
      · exfalso
        simp only [List.mem_cons, List.not_mem_nil, or_false] at hi2
        rcases hi2 with rfl | rfl | rfl
        · exact (nd_at C1.nd (i := 1) (j := 6) rfl rfl (by decide)) q
        · exact (nd_at C1.nd (i := 2) (j := 6) rfl rfl (by decide)) q
        · exact (nd_at C1.nd (i := 6) (j := 9) rfl rfl (by decide)) q.symm
      · exact q
    exact ⟨get_none this, get_none (Nat.le_trans F.above (Nat.le_trans (Nat.le_of_lt hLl) this))⟩
  have bd := hb0 a.d a.m_d (by first | (with_reducible (first | exact im1 | exact im2 | exact im3 | exact sb0 | exact sb1 im1 | exact sb1 im2 | exact sb1 im3)) | exact nmc (adne (by decide)) nm0 | exact nmc (adne (by decide)) (nmc (adnn (by decide)) nm0) | simp)
  have bp := hb0 a.pb a.m_pb (by first | (with_reducible (first | exact im1 | exact im2 | exact im3 | exact sb0 | exact sb1 im1 | exact sb1 im2 | exact sb1 im3)) | exact nmc (adne (by decide)) nm0 | exact nmc (adne (by decide)) (nmc (adnn (by decide)) nm0) | simp)
  have bl := hb0 a.pl a.m_pl (by first | (with_reducible (first | exact im1 | exact im2 | exact im3 | exact sb0 | exact sb1 im1 | exact sb1 im2 | exact sb1 im3)) | exact nmc (adne (by decide)) nm0 | exact nmc (adne (by decide)) (nmc (adnn (by decide)) nm0) | simp)
  have hd' := hap a.d a.m_d
  have hp' := hap a.pb a.m_pb
  have hl' := hap a.pl a.m_pl
  simp only [List.mem_cons, List.not_mem_nil, or_false, not_or] at hd' hp' hl'
  have mvD : ∀ {h' h'' : Heap} {m'}, Fs base h [L, L + 2, tabS] L h' m' → Kept [a.d, a.pl] h' h'' → Fs base h [L, L + 2, tabS] L h'' m' := fun Y kk => Y.kept kk (by simp only [List.mem_cons, List.not_mem_nil, or_false, forall_eq_or_imp, forall_eq]; exact ⟨bd.2, bl.2⟩) (by simp only [List.mem_cons, List.not_mem_nil, or_false, not_or]; exact ⟨fun q => hd'.1 q.symm, fun q => hl'.1 q.symm⟩) (by simp only [List.mem_cons, List.not_mem_nil, or_false, forall_eq_or_imp, forall_eq]; exact ⟨.inr bd.1, .inr bl.1⟩)
  have mvP : ∀ {h' h'' : Heap} {m'}, Fs base h [L, L + 2, tabS] L h' m' → Kept [a.pb] h' h'' → Fs base h [L, L + 2, tabS] L h'' m' := fun Y kk => Y.kept kk (List.forall_mem_singleton.mpr bp.2) (by simp only [List.mem_singleton]; exact fun q => hp'.1 q.symm) (List.forall_mem_singleton.mpr (.inr bp.1))
  have cD : ∀ {h' h'' : Heap} {v}, h'.IsCell (L + 2) v → Kept [a.d, a.pl] h' h'' → h''.IsCell (L + 2) v := fun c kk => IsCell.kept c kk (by simp only [List.mem_cons, List.not_mem_nil, or_false, not_or]; exact ⟨fun q => hd'.2 q.symm, fun q => hl'.2 q.symm⟩)
  have cP : ∀ {h' h'' : Heap} {v}, h'.IsCell (L + 2) v → Kept [a.pb] h' h'' → h''.IsCell (L + 2) v := fun c kk => IsCell.kept c kk (by simp only [List.mem_singleton]; exact fun q => hp'.2 q.symm)
  have C2 := C1.keptBut (S := [L + 2]) (Kept.of_same sb2 (by first | (with_reducible (first | exact im1 | exact im2 | exact im3 | exact sb0 | exact sb1 im1 | exact sb1 im2 | exact sb1 im3)) | exact nmc (adne (by decide)) nm0 | exact nmc (adne (by decide)) (nmc (adnn (by decide)) nm0) | simp)) (fun i hi => by have := hap i hi; simp only [List.mem_cons, List.not_mem_nil, or_false, not_or] at this; simpa using this.2)
  have X2 := X1.keptBut (S := [L + 2]) (Kept.of_same sb2 (by first | (with_reducible (first | exact im1 | exact im2 | exact im3 | exact sb0 | exact sb1 im1 | exact sb1 im2 | exact sb1 im3)) | exact nmc (adne (by decide)) nm0 | exact nmc (adne (by decide)) (nmc (adnn (by decide)) nm0) | simp)) (fun i hi => by have := hap i hi; simp only [List.mem_cons, List.not_mem_nil, or_false, not_or] at this; simpa using this.2)
  have lexN : ∀ {h' : Heap}, h'.IsCell (L + 2) (some (.ref a.x)) → ∀ {p : Pos} (Q' : Value → Heap → Prop), Q' (.ref a.x) h' → Wp (model prog w) A (eval (.Name nLexer p) (lawE w L)) Q' h' := by
    intro h' c p Q' q
    exact w_nmC (c := L + 2) rfl c q
  refine w_cons ?_
  refine w_if_ ?_
  refine w_tOr ?_
  refine w_tCmp ?_
  refine w_pushTok (n := n + 4) rfl (ctx Y2.F) C2 X2 ok (lexN c22) ?_
  refine w_getTok (n := n + 1) (ctx Y2.F) ok C2 X2 (lexN c22) (fun h3 t3 p3 X3 hp3 k3 => ?_)
  have Y3 := mvD Y2 k3
  have C3 := C2.kept (k3.mono (by first | exact LexA.s_nil _ | exact LexA.s_pb _ | exact LexA.s_dl _ | exact LexA.s_pl _ | simp [LexA.mut]))
  refine ⟨p3, [], ctx Y3.F, C3, X3, by simp, fun h4 X4 k4 => ?_⟩
  have Y4 := mvP Y3 k4
  have C4 := C3.kept (k4.mono (by first | exact LexA.s_nil _ | exact LexA.s_pb _ | exact LexA.s_dl _ | exact LexA.s_pl _ | simp [LexA.mut]))
  have c4 := cP (cD c22 k3) k4
  refine w_cNone ?_
  refine w_isNotNone rfl ?_
  refine w_tBool ⟨fun e => (by cases e), fun _ => ?_⟩
  refine w_tOr ?_
  refine w_tCmp ?_
  have w4 : Ls h4 wl wys := lsKept hwl Y4.K (by simp only [List.mem_cons, List.not_mem_nil, or_false, not_or]; exact hwlne)
  have hlw := sw.length
  have lt4 := lex_lt C4 X4
  have hc4 : L + 2 < h4.objs.size := by obtain ⟨o, e, _⟩ := c4; exact Heap.lt_size e
  have hwlall : ∀ i ∈ [a.d, a.pb, a.pl], i ≠ wl := by
    have hw0 := hwl
    intro i hi q
    have : h.get? i = none := by
      simp only [List.mem_cons, List.not_mem_nil, or_false] at hi
      rcases hi with rfl | rfl | rfl
      · exact bd.1
      · exact bp.1
      · exact bl.1
    obtain ⟨nn, e⟩ := hw0
    rw [q, e] at this; cases this
  have hHm : ∀ i ∈ [a.d, a.pb, a.pl], H.get? i = none := fun i hi => C4.fr i (by simp only [List.mem_cons, List.not_mem_nil, or_false] at hi; simp only [LexA.all, List.mem_cons, List.not_mem_nil, or_false]; rcases hi with h | h | h <;> simp [h])
  refine w_lcI (cl := [(nLexer, L + 2)]) (by first | (with_reducible (first | exact im1 | exact im2 | exact im3 | exact sb0 | exact sb1 im1 | exact sb1 im2 | exact sb1 im3)) | exact nmc (adne (by decide)) nm0 | exact nmc (adne (by decide)) (nmc (adnn (by decide)) nm0) | simp) rfl rfl rfl rfl ?_
  refine w_nm Y4.ns mw ?_
  refine ⟨wys.length, _, [wl], iterList (.inl rfl) ok.3 w4.isList, by rw [sizeLine_eq]; lia, by simpa using w4.lt, [a.d, a.pb, a.pl],
    (fun b0 i ys h' => ∃ p toks, LexM h' a text p toks ∧ Strs ys (words.take i) ∧ text.drop p = remT text (max i 1) ∧ toks = (if i = 0 then [Value.str (S (tokT text 0)) t3] else [])), fun b hb => ⟨lt4 b ?_, by simpa using hwlall b hb⟩, ⟨fun b0 i ys h1 h2 ⟨p, toks, X, s, e1, e2⟩ off => ⟨p, toks, X.off off (lt4 _ (by first | exact LexA.m_x _ | exact LexA.m_d _ | exact LexA.m_pb _ | exact LexA.m_st _ | exact LexA.m_sd _ | exact LexA.m_f _ | exact LexA.m_c _ | exact LexA.m_ct _ | exact LexA.m_cp _ | exact LexA.m_pl _)) (lt4 _ (by first | exact LexA.m_x _ | exact LexA.m_d _ | exact LexA.m_pb _ | exact LexA.m_st _ | exact LexA.m_sd _ | exact LexA.m_f _ | exact LexA.m_c _ | exact LexA.m_ct _ | exact LexA.m_cp _ | exact LexA.m_pl _)) (lt4 _ (by first | exact LexA.m_x _ | exact LexA.m_d _ | exact LexA.m_pb _ | exact LexA.m_st _ | exact LexA.m_sd _ | exact LexA.m_f _ | exact LexA.m_c _ | exact LexA.m_ct _ | exact LexA.m_cp _ | exact LexA.m_pl _)), s, e1, e2⟩, fun b0 => ⟨p3, _, X4, trivial, hp3, rfl⟩, fun b0 C i v ys h' mm hi hC hbb hv hJ kk hy ns => ?_⟩, fun b0 ys D h5 hD hb5 l5 hy hJ k5 => ?_⟩
  · simp only [List.mem_cons, List.not_mem_nil, or_false] at hb
    simp only [LexA.all, List.mem_cons, List.not_mem_nil, or_false]
    rcases hb with h | h | h <;> simp [h]
  · obtain ⟨p, toks, Xp, sp, e1, e2⟩ := hJ
    have hCH : H.get? C = none := gd_none (ctx Y4.F) hC
    have G' := (ctx Y4.F).kept kk hHm
    have C' := C4.kept kk
    refine w_asgName ?_
    refine w_store (env := compEnvC _ [(nLexer, L + 2)] C (lawE w L)) (m := mm) ns (fun h2' n2 sb2' => ?_) rfl rfl
    have kC : Kept [C] h' h2' := Kept.of_same sb2' (List.mem_singleton.mpr rfl)
    have hnC : ∀ i ∈ a.all, i ∉ [C] := fun i hi => by have := lt4 i hi; simp only [List.mem_singleton] at ⊢; lia
    have G2' := G'.kept kC (List.forall_mem_singleton.mpr hCH)
    have C2' := C'.keptBut kC hnC
    have X2' := Xp.keptBut kC hnC
    have c2' : h2'.IsCell (L + 2) (some (.ref a.x)) := IsCell.kept (IsCell.kept c4 kk (by simp only [List.mem_cons, List.not_mem_nil, or_false, not_or]; exact ⟨fun q => hd'.2 q.symm, fun q => hp'.2 q.symm, fun q => hl'.2 q.symm⟩)) kC (by simp only [List.mem_singleton] at ⊢; lia)
    have hiw : i < words.length := by lia
    have htk : words.take (i + 1) = words.take i ++ [tokT text i] := by rw [List.take_add_one, htok i hiw]; rfl
    show Wp _ _ _ _ _
    by_cases hi0 : i = 0
    · subst hi0
      rw [if_pos rfl] at e2
      subst e2
      refine w_popTok (n := n + 4) G2' ok C2' X2' (by first | (with_reducible (first | exact im1 | exact im2 | exact im3 | exact sb0 | exact sb1 im1 | exact sb1 im2 | exact sb1 im3)) | exact nmc (adne (by decide)) nm0 | exact nmc (adne (by decide)) (nmc (adnn (by decide)) nm0) | simp) (fun Q' q => w_nmC (c := L + 2) rfl c2' q) (fun h3' X3' k3' => ⟨?_, ?_, ?_⟩)
      · exact (kC.mono (by first | (with_reducible (first | exact im1 | exact im2 | exact im3 | exact sb0 | exact sb1 im1 | exact sb1 im2 | exact sb1 im3)) | exact nmc (adne (by decide)) nm0 | exact nmc (adne (by decide)) (nmc (adnn (by decide)) nm0) | simp)).trans (k3'.mono (by first | (with_reducible (first | exact im1 | exact im2 | exact im3 | exact sb0 | exact sb1 im1 | exact sb1 im2 | exact sb1 im3)) | exact nmc (adne (by decide)) nm0 | exact nmc (adne (by decide)) (nmc (adnn (by decide)) nm0) | simp))
      · exact ⟨_, n2.at' fun o e => k3' _ _ (by
          have := hnC a.pb a.m_pb; simp only [List.mem_singleton] at *; exact fun q => this q.symm) e⟩
      · exact ⟨p, [], X3', by rw [htk]; exact sp.append ⟨⟨_, rfl⟩, trivial⟩, by simpa using e1, by simp⟩
    · rw [if_neg hi0] at e2
      subst e2
      have em : max i 1 = i := by lia
      rw [em] at e1
      refine w_getTok (n := n + 1) G2' ok C2' X2' (fun Q' q => w_nmC (c := L + 2) rfl c2' q) (fun h3' t3' p3' X3' hp3' k3' => ⟨?_, ?_, ?_⟩)
      · exact (kC.mono (by first | (with_reducible (first | exact im1 | exact im2 | exact im3 | exact sb0 | exact sb1 im1 | exact sb1 im2 | exact sb1 im3)) | exact nmc (adne (by decide)) nm0 | exact nmc (adne (by decide)) (nmc (adnn (by decide)) nm0) | simp)).trans (k3'.mono (by simp only [List.mem_cons, List.not_mem_nil, or_false]; rintro b (h | h) <;> simp [h]))
      · exact ⟨_, n2.at' fun o e => k3' _ _ (by
          have h1 := hnC a.d a.m_d; have h2 := hnC a.pl a.m_pl; simp only [List.mem_cons, List.mem_singleton, List.not_mem_nil, or_false, not_or] at *; exact ⟨fun q => h1 q.symm, fun q => h2 q.symm⟩) e⟩
      · refine ⟨p3', [], X3', by rw [htk]; exact sp.append ⟨⟨_, by rw [e1]; rfl⟩, trivial⟩, ?_, by simp⟩
        rw [hp3', e1, show max (i + 1) 1 = i + 1 by lia]; rfl
  obtain ⟨p5, toks5, X5, s5, e51, e52⟩ := hJ
  have hwn : wys.length ≠ 0 := by lia
  rw [if_neg hwn] at e52
  subst e52
  rw [hlw, List.take_length] at s5
  have em : max wys.length 1 = words.length := by lia
  rw [em] at e51
  have Y5 := (Y4.kept k5 (by simp only [List.mem_cons, List.not_mem_nil, or_false, forall_eq_or_imp, forall_eq]; exact ⟨bd.2, bp.2, bl.2⟩) (by simp only [List.mem_cons, List.not_mem_nil, or_false, not_or]; exact ⟨fun q => hd'.1 q.symm, fun q => hp'.1 q.symm, fun q => hl'.1 q.symm⟩) (by simp only [List.mem_cons, List.not_mem_nil, or_false, forall_eq_or_imp, forall_eq]; exact ⟨.inr bd.1, .inr bp.1, .inr bl.1⟩))
  have w5 : Ls h5 wl wys := lsKept w4 k5 (fun q => hwlall wl q rfl)
  refine w_nm Y5.ns mw ?_
  refine w_neList (Strs.LA l5 s5) (Strs.LA w5 sw) (kin_strs _ _) ?_ ?_ (by have := ok.units; rw [show cLine = 9900 from rfl] at *; lia) ?_
  · intro x hx; obtain ⟨y, hy, rfl⟩ := List.mem_map.mp hx; exact okW_at y (hokw y hy)
  · intro x hx; obtain ⟨y, hy, rfl⟩ := List.mem_map.mp hx; exact okW_at y (hokw y hy)
  rw [decide_eq_true rfl]
  refine w_tBool ⟨fun e => (by cases e), fun _ => w_tOr0 ⟨fun e => (by cases e), fun _ => w_nil ?_⟩⟩
  have C5 := C4.kept k5
  have c5 : h5.IsCell (L + 2) (some (.ref a.x)) := IsCell.kept c4 k5 (by simp only [List.mem_cons, List.not_mem_nil, or_false, not_or]; exact ⟨fun q => hd'.2 q.symm, fun q => hp'.2 q.symm, fun q => hl'.2 q.symm⟩)
  have T5 : TabP H h5 tabS (placesS w) := by
    have apT : ∀ i ∈ a.all, i ≠ tabS := lexNeTab C1 hfr T1 hPLt
    have T2 := T1.kept (Kept.of_same (S := [L + 2]) sb2 (by first | (with_reducible (first | exact im1 | exact im2 | exact im3 | exact sb0 | exact sb1 im1 | exact sb1 im2 | exact sb1 im3)) | exact nmc (adne (by decide)) nm0 | exact nmc (adne (by decide)) (nmc (adnn (by decide)) nm0) | simp)) (by simpa using hPL.1) (by
      intro i hi o vs ho hv
      simp only [List.mem_singleton] at hi
      subst hi
      obtain ⟨o', e', hd⟩ := c21
      rw [ho] at e'; cases e'; rw [hv] at hd; cases hd)
    have nf : ∀ {h' : Heap} {p toks}, LexM h' a text p toks → ∀ i ∈ [a.d, a.pb, a.pl], ∀ o vs, h'.get? i = some o → o.data ≠ .fields vs := by
      intro h' p toks X i hi o vs ho hv
      obtain ⟨⟨t1, t2, ⟨es, n', ed, _⟩⟩, ⟨n'', ep⟩, ⟨t8, o8, e8, d8, n8, d8'⟩, _⟩ := X
      simp only [List.mem_cons, List.not_mem_nil, or_false] at hi
      rcases hi with rfl | rfl | rfl
      · rw [ed] at ho; cases ho; cases hv
      · rw [ep] at ho; cases ho; cases hv
      · rw [e8] at ho; cases ho; rw [d8'] at hv; cases hv
    have hT3 : tabS ∉ [a.d, a.pb, a.pl] := by
      simp only [List.mem_cons, List.not_mem_nil, or_false, not_or]
      exact ⟨fun q => apT a.d a.m_d q.symm, fun q => apT a.pb a.m_pb q.symm, fun q => apT a.pl a.m_pl q.symm⟩
    have T3 := T2.kept (k3.mono (T := [a.d, a.pb, a.pl]) (by simp only [List.mem_cons, List.not_mem_nil, or_false]; rintro b (h | h) <;> simp [h])) hT3 (nf X2)
    have T4 := T3.kept (k4.mono (T := [a.d, a.pb, a.pl]) (by first | (with_reducible (first | exact im1 | exact im2 | exact im3 | exact sb0 | exact sb1 im1 | exact sb1 im2 | exact sb1 im3)) | exact nmc (adne (by decide)) nm0 | exact nmc (adne (by decide)) (nmc (adnn (by decide)) nm0) | simp)) hT3 (nf X3)
    exact T4.kept k5 hT3 (nf X4)
  refine w_cons ?_
  refine w_if_ ?_
  refine w_tOr ?_
  refine w_tCmp ?_
  refine w_getTok (n := n + 1) (ctx Y5.F) ok C5 X5 (lexN c5) (fun h6 t6 p6 X6 hp6 k6 => ?_)
  have Y6 := mvD Y5 k6
  have C6 := C5.kept (k6.mono (by first | exact LexA.s_nil _ | exact LexA.s_pb _ | exact LexA.s_dl _ | exact LexA.s_pl _ | simp [LexA.mut]))
  have c6 := cD c5 k6
  rw [e51]
  have et : (lexT (remT text words.length)).1 = [] := hend
  rw [et]
  refine w_cS [] (by kernel_rfl) fun _ => ?_
  refine w_neStr ?_
  rw [decide_eq_true rfl]
  refine w_tBool ⟨fun e => (by cases e), fun _ => ?_⟩
  refine w_tOr ?_
  refine w_tCmp ?_
  obtain ⟨t61, t62, d6⟩ := X6.d
  have hpl : p6 = text.length := by
    have h1 : text.drop p6 = [] := by rw [hp6, e51]; exact hrem
    have h2 := X6.le
    have h3 := congrArg List.length h1
    simp at h3; lia
  refine w_attr ?_
  refine w_nmC (c := L + 2) rfl c6 ?_
  refine w_getOwn (ctx Y6.F).now.K C6.ix d6 (pgC w _) (hdC w) (fiLine w) rfl rfl ?_
  refine w_binOp ?_
  refine w_cInt fun _ => ?_
  refine w_meth PySem.F.plainAttrs_str PySem.F.slot_str_count PySem.F.type_str_count ?_
  refine w_nm Y6.ns mt ⟨fun s hs => typeIs_str _ _ _, fun a e => (by cases e), ?_⟩
  refine w_args ?_
  refine w_arg ?_
  refine w_cS [10] (by kernel_rfl) fun _ => ?_
  refine w_arg0 ?_
  refine w_kw0 ⟨Kp.builtin _, ?_⟩
  refine w_strCount fun _ => ?_
  refine w_addInt fun _ => ?_
  refine w_neInt ?_
  rw [hpl, List.take_length]
  rw [show (((1 + text.count 10 : Nat) : Int) == 1 + ((text.count 10 : Nat) : Int)) = true by simp]
  refine w_tBool ⟨fun e => (by cases e), fun _ => w_tOr0 ⟨fun e => (by cases e), fun _ => w_nil ?_⟩⟩
  refine k h6 m a text Y6.F Y6.K c6 C6 (hpl ▸ X6) hfr ?_ (fun _ _ _ => rfl)
  have nf : ∀ {h' : Heap} {p toks}, LexM h' a text p toks → ∀ i ∈ [a.d, a.pl], ∀ o vs, h'.get? i = some o → o.data ≠ .fields vs := by
    intro h' p toks X i hi o vs ho hv
    obtain ⟨⟨t1, t2, ⟨es, n', ed, _⟩⟩, ⟨n'', ep⟩, ⟨t8, o8, e8, d8, n8, d8'⟩, _⟩ := X
    simp only [List.mem_cons, List.not_mem_nil, or_false] at hi
    rcases hi with rfl | rfl
    · rw [ed] at ho; cases ho; cases hv
    · rw [e8] at ho; cases ho; rw [d8'] at hv; cases hv
  refine T5.kept k6 ?_ (nf X5)
  have apT : ∀ i ∈ a.all, i ≠ tabS := lexNeTab C1 hfr T1 hPLt
  simp only [List.mem_cons, List.not_mem_nil, or_false, not_or]
  exact ⟨fun q => apT a.d a.m_d q.symm, fun q => apT a.pl a.m_pl q.symm⟩
end
end Mine
end
section
open PySem PySem.W PyProof.Rows PySem.Calls
set_option Elab.async false
set_option maxRecDepth 100000
set_option linter.unusedVariables false
set_option linter.unusedSimpArgs false
namespace Mine
theorem turn_app {α : Type} : ∀ (a b : List α), turnL a.length (a ++ b) = a ∧ turnQ a.length (a ++ b) = b ++ a
  | [], b => ⟨rfl, by simp [turnQ]⟩
  | x :: a, b => by
    have := turn_app a (b ++ [x])
    constructor
    · show x :: turnL a.length (a ++ b ++ [x]) = _
      rw [List.append_assoc, this.1]
    · show turnQ a.length (a ++ b ++ [x]) = _
      rw [List.append_assoc, this.2]; simp
theorem turnL_add {α : Type} : ∀ (m n : Nat) (q : List α), q ≠ [] → turnL (m + n) q = turnL m q ++ turnL n (turnQ m q)
  | 0, n, q, _ => by simp [turnL, turnQ]
  | m + 1, n, [], h => absurd rfl h
  | m + 1, n, v :: r, _ => by
    rw [show m + 1 + n = (m + n) + 1 by lia]
    show v :: turnL (m + n) (r ++ [v]) = v :: turnL m (r ++ [v]) ++ turnL n (turnQ m (r ++ [v]))
    rw [turnL_add m n (r ++ [v]) (by first | (with_reducible (first | exact im1 | exact im2 | exact im3 | exact sb0 | exact sb1 im1 | exact sb1 im2 | exact sb1 im3)) | exact nmc (adne (by decide)) nm0 | exact nmc (adne (by decide)) (nmc (adnn (by decide)) nm0) | simp)]; rfl
theorem turn_ring {α : Type} (q : List α) (h : q ≠ []) : turnL (2 * q.length - 1) q = q ++ q.dropLast := by
  have hl : 0 < q.length := List.length_pos_iff.mpr h
  rw [show 2 * q.length - 1 = q.length + (q.length - 1) by lia, turnL_add _ _ _ h]
  have h1 := turn_app q []
  simp only [List.append_nil, List.nil_append] at h1
  rw [h1.1, h1.2]
  congr 1
  have h2 := turn_app q.dropLast [q.getLast h]
  rw [List.dropLast_concat_getLast h] at h2
  simpa using h2.1
theorem Strs.dropLast {ys : List Value} {ts : List (List Nat)} (x : Strs ys ts) : Strs ys.dropLast ts.dropLast := by
  induction ys generalizing ts with
  | nil => cases ts with | nil => trivial | cons t ts => exact x.elim
  | cons v ys ih =>
    cases ts with
    | nil => exact x.elim
    | cons t ts =>
      cases ys with
      | nil => cases ts with | nil => trivial | cons t' ts => exact x.2.elim
      | cons u ys => cases ts with
        | nil => exact x.2.elim
        | cons t' ts => exact ⟨x.1, ih x.2⟩
theorem lex_mut_ne {w : World} {H h : Heap} {a : LexA} {text : List Nat} {n0 : Addr} (C : LexC w H h a text) (hfr : ∀ i ∈ a.all, i = a.c ∨ n0 ≤ i) : n0 ≤ a.d ∧ n0 ≤ a.pb ∧ n0 ≤ a.pl := by
  refine ⟨(hfr a.d a.m_d).resolve_left (nd_at C.nd (i := 1) (j := 6) rfl rfl (by decide)), (hfr a.pb a.m_pb).resolve_left (nd_at C.nd (i := 2) (j := 6) rfl rfl (by decide)), (hfr a.pl a.m_pl).resolve_left fun q => (nd_at C.nd (i := 6) (j := 9) rfl rfl (by decide)) q.symm⟩
def ringOf (sc : List Int) (words : List (List Nat)) : List (List Nat) := if sc.length % 2 = 1 then words ++ words else words
section
variable {prog : Program} {w : World} {A : Around} {h base H : Heap} {mg mb : Str → Option Value} {L : Addr}
set_option maxHeartbeats 4000000 in
theorem ph3 {n : Nat} {wl sl n0 : Addr} {wys svs : List Value} {sc : List Int} {words : List (List Nat)} {text : List Nat} {a : LexA} {Q : Flow → Heap → Prop} {m : Str → Option Value} (GB : Gd w mg mb H base) (ok : OkA (n + 4) A) (F : Fr base L h m)
    (hwl : Ls h wl wys) (sw : Strs wys words) (mw : m nWords = some (.ref wl)) (ms : m nScript = some (.ref sl)) (hsl : base.IsList sl svs.toArray) (hsv : svs.length = sc.length) (hscz : sc.length ≤ 63) (hn : words.length ≤ 9) (hn1 : 0 < words.length) (hokw : ∀ x ∈ words, okW x = true)
    (C : LexC w H h a text) (X0 : LexM h a text text.length []) (hfr : ∀ i ∈ a.all, i = a.c ∨ n0 ≤ i) (hn0 : L < n0 ∧ L + 9 < n0 ∧ wl < n0)
    (c2 : h.IsCell (L + 2) (some (.ref a.x))) (c3 : h.IsCell (L + 3) none) (c4 : h.IsCell (L + 4) none) (c5 : h.IsCell (L + 5) none) (hcb : ∀ i, L < i → base.get? i = none) (c9 : h.IsCell (L + 9) none) (hwl9 : L + 9 < wl)
    (k : ∀ h' m' rl pl rys pys ts, Fr base L h' m' → Kept [L, L + 3, L + 4, L + 5, a.d, a.pb, a.pl] h h' → h'.IsCell (L + 3) (some (.ref rl)) → h'.IsCell (L + 4) (some (.int ((ringOf sc words).length : Nat) ts)) → h'.IsCell (L + 5) (some (.ref pl)) →
      Ls h' rl rys → Strs rys (ringOf sc words) → Ls h' pl pys → Strs pys (ringOf sc words ++ (ringOf sc words).dropLast) → (rl < n0 ∨ h.objs.size ≤ rl) → L + 9 < rl → L + 9 < pl → (∀ x, x ≠ nWord → m' x = m x) → Wp (model prog w) A (execs ((lawB w).drop 12) (lawE w L)) Q h') :
    Wp (model prog w) A (execs ((lawB w).drop 7) (lawE w L)) Q h := by
  have ctx : ∀ {h' m'}, Fr base L h' m' → Gd w mg mb H h' := fun F' => GB.ext F'.keep
  obtain ⟨nd, nb, nl⟩ := lex_mut_ne C hfr
  have hLb := F.above
  have bnone : ∀ i, L < i → base.get? i = none := hcb
  have Ld : L < a.d := Nat.lt_of_lt_of_le hn0.1 nd
  have Lb : L < a.pb := Nat.lt_of_lt_of_le hn0.1 nb
  have Ll : L < a.pl := Nat.lt_of_lt_of_le hn0.1 nl
  let SS : List Addr := [L, L + 3, L + 4, L + 5, a.d, a.pb, a.pl]
  have X : Fs base h SS L h m := Fs.mk0 F _
  have hwlS : wl ∉ SS := by
    have h5 := hn0.2.2
    simp only [SS, List.mem_cons, List.not_mem_nil, or_false, not_or, Addr, ne_eq] at *
    lia
  have wAt : ∀ {h' m'}, Fs base h SS L h' m' → Ls h' wl wys := fun Y => lsKept hwl Y.K hwlS
  have hlw := sw.length
  have hapS : ∀ i ∈ a.all, i ∉ [L, L + 3, L + 4, L + 5] := lex_apart C hfr (by
    intro s hs
    simp only [List.mem_cons, List.not_mem_nil, or_false] at hs
    rcases hs with rfl | rfl | rfl | rfl
    · exact ⟨hn0.1, ns_data F.ns⟩
    · exact ⟨by have := hn0.2.1; lia, cell_data c3⟩
    · exact ⟨by have := hn0.2.1; lia, cell_data c4⟩
    · exact ⟨by have := hn0.2.1; lia, cell_data c5⟩)
  refine w_cons ?_
  refine w_asg ?_
  refine w_ifExp ?_
  refine w_tCmp ?_
  refine w_binOp ?_
  refine w_callN ?_
  refine w_gB (v := .builtin "len") (ctx F).now (by kernel_rfl) (by kernel_rfl) (by decide) ?_
  refine w_args ?_
  refine w_arg ?_
  refine w_nm F.ns ms ?_
  refine w_arg0 ?_
  refine w_kw0 ⟨Kp.builtin _, ?_⟩
  refine w_lenList (IsList.ext hsl F.keep) (by simp; lia) fun _ => ?_
  refine w_cInt fun _ => ?_
  refine w_modInt (by decide) fun _ => ?_
  refine w_cInt fun _ => ?_
  refine w_eqInt ?_
  have hpar : (((svs.toArray.size : Nat) : Int).fmod 2 == 1) = decide (sc.length % 2 = 1) := by
    have e1 : ((svs.toArray.size : Nat) : Int).fmod 2 = ((sc.length % 2 : Nat) : Int) := by
      rw [List.size_toArray, hsv, Int.fmod_eq_emod_of_nonneg _ (by decide)]; lia
    rw [e1]
    by_cases q : sc.length % 2 = 1
    · simp [q]
    · have : ¬ ((sc.length % 2 : Nat) : Int) = 1 := by lia
      simp only [q, decide_false]
      exact beq_eq_false_iff_ne.mpr this
  rw [hpar]
  have rest : ∀ h1 rl rys, Fs base h SS L h1 m → Ls h1 rl rys → Strs rys (ringOf sc words) → (rl < n0 ∨ h.objs.size ≤ rl) → L + 9 < rl → h1.IsCell (L + 3) none → h1.IsCell (L + 4) none → h1.IsCell (L + 5) none → h1.IsCell (L + 2) (some (.ref a.x)) → LexC w H h1 a text → LexM h1 a text text.length [] →
      Wp (model prog w) A (storeName (lawE w L) nRing (.ref rl)) (fun _ h' => Wp (model prog w) A (execs ((lawB w).drop 8) (lawE w L)) Q h') h1 := by
    intro h1 rl rys X1 lr sr hrl hrl9 c31 c41 c51 c21 C1 M1
    have hrlS : ∀ i ∈ [L, L + 3, L + 4, L + 5], rl ≠ i := by
      intro i hi
      simp only [List.mem_cons, List.not_mem_nil, or_false, Addr] at *
      lia
    have mvC : ∀ {i : Addr} {h' h'' : Heap}, i ∈ [L, L + 3, L + 4, L + 5] → Heap.SameBut i h' h'' → (∀ {b}, Ls h' rl b → Ls h'' rl b) ∧ (LexC w H h' a text → LexC w H h'' a text) ∧ (∀ {p toks}, LexM h' a text p toks → LexM h'' a text p toks) := fun {i h' h''} hi sb =>
      ⟨fun l => l.same sb (hrlS i hi), fun C => C.keptBut (S := [i]) (Kept.of_same sb (by first | (with_reducible (first | exact im1 | exact im2 | exact im3 | exact sb0 | exact sb1 im1 | exact sb1 im2 | exact sb1 im3)) | exact nmc (adne (by decide)) nm0 | exact nmc (adne (by decide)) (nmc (adnn (by decide)) nm0) | simp)) (fun j hj => by have := hapS j hj; simp only [List.mem_singleton]; intro q; exact this (q ▸ hi)), fun M => M.keptBut (S := [i]) (Kept.of_same sb (by first | (with_reducible (first | exact im1 | exact im2 | exact im3 | exact sb0 | exact sb1 im1 | exact sb1 im2 | exact sb1 im3)) | exact nmc (adne (by decide)) nm0 | exact nmc (adne (by decide)) (nmc (adnn (by decide)) nm0) | simp)) (fun j hj => by have := hapS j hj; simp only [List.mem_singleton]; intro q; exact this (q ▸ hi))⟩
    have stC : ∀ {i : Addr} {h' h'' : Heap} {m'}, i ∈ [L + 3, L + 4, L + 5] → Fs base h SS L h' m' → Heap.SameBut i h' h'' → Fs base h SS L h'' m' := fun {i h' h'' m'} hi Y sb =>
      Y.kept (T := [i]) (Kept.of_same sb (by first | (with_reducible (first | exact im1 | exact im2 | exact im3 | exact sb0 | exact sb1 im1 | exact sb1 im2 | exact sb1 im3)) | exact nmc (adne (by decide)) nm0 | exact nmc (adne (by decide)) (nmc (adnn (by decide)) nm0) | simp)) (List.forall_mem_singleton.mpr (bnone i (by simp only [List.mem_cons, List.not_mem_nil, or_false, Addr] at *; omega))) (by simp only [List.mem_cons, List.not_mem_nil, or_false, Addr] at *; omega)
        (List.forall_mem_singleton.mpr (.inl (by simp only [SS, List.mem_cons, List.not_mem_nil, or_false] at *; rcases hi with h | h | h <;> simp [h])))
    have cl : ∀ {c i : Addr} {h' h'' : Heap} {v}, c ≠ i → h'.IsCell c v → Heap.SameBut i h' h'' → h''.IsCell c v := fun hne ⟨o, e, r⟩ sb => ⟨o, (sb.2 _ hne).trans e, r⟩
    have hrz : (ringOf sc words).length ≤ 18 ∧ 0 < (ringOf sc words).length := by unfold ringOf; split <;> first | (simp only [List.length_append]; lia) | lia
    have hrys := sr.length
    have hokr : ∀ y ∈ ringOf sc words ++ (ringOf sc words).dropLast, okW y = true := fun y hy => by
      have : y ∈ ringOf sc words := by
        rcases List.mem_append.mp hy with h | h
        · exact h
        · exact List.mem_of_mem_take (List.dropLast_eq_take ▸ h)
      unfold ringOf at this
      split at this
      · rcases List.mem_append.mp this with h | h <;> exact hokw y h
      · exact hokw y this
    have n12 : ∀ (i j : Nat), i ≠ j → L + i ≠ L + j := fun i j hij q => hij (Nat.add_left_cancel q)
    refine w_storeC (c := L + 3) rfl c31 (fun h2 c32 sb2 => ?_)
    have Y2 := stC (by first | (with_reducible (first | exact im1 | exact im2 | exact im3 | exact sb0 | exact sb1 im1 | exact sb1 im2 | exact sb1 im3)) | exact nmc (adne (by decide)) nm0 | exact nmc (adne (by decide)) (nmc (adnn (by decide)) nm0) | simp) X1 sb2
    obtain ⟨f1, f2, f3⟩ := mvC (i := L + 3) (by first | (with_reducible (first | exact im1 | exact im2 | exact im3 | exact sb0 | exact sb1 im1 | exact sb1 im2 | exact sb1 im3)) | exact nmc (adne (by decide)) nm0 | exact nmc (adne (by decide)) (nmc (adnn (by decide)) nm0) | simp) sb2
    have l2 := f1 lr
    have C2 := f2 C1
    have M2 := f3 M1
    have c42 := cl (n12 4 3 (by decide)) c41 sb2
    have c52 := cl (n12 5 3 (by decide)) c51 sb2
    have c22 := cl (n12 2 3 (by decide)) c21 sb2
    clear f1 f2 f3
    refine w_cons ?_
    refine w_asg ?_
    refine w_callN ?_
    refine w_gB (v := .builtin "len") (ctx Y2.F).now (by kernel_rfl) (by kernel_rfl) (by decide) ?_
    refine w_args ?_
    refine w_arg ?_
    refine w_nmC (c := L + 3) rfl c32 ?_
    refine w_arg0 ?_
    refine w_kw0 ⟨Kp.builtin _, ?_⟩
    refine w_lenList l2.isList (by simp; lia) fun ts => ?_
    rw [List.size_toArray, hrys]
    refine w_storeC (c := L + 4) rfl c42 (fun h3 c43 sb3 => ?_)
    have Y3 := stC (by first | (with_reducible (first | exact im1 | exact im2 | exact im3 | exact sb0 | exact sb1 im1 | exact sb1 im2 | exact sb1 im3)) | exact nmc (adne (by decide)) nm0 | exact nmc (adne (by decide)) (nmc (adnn (by decide)) nm0) | simp) Y2 sb3
    obtain ⟨f1, f2, f3⟩ := mvC (i := L + 4) (by first | (with_reducible (first | exact im1 | exact im2 | exact im3 | exact sb0 | exact sb1 im1 | exact sb1 im2 | exact sb1 im3)) | exact nmc (adne (by decide)) nm0 | exact nmc (adne (by decide)) (nmc (adnn (by decide)) nm0) | simp) sb3
    have l3 := f1 l2
    have C3 := f2 C2
    have M3 := f3 M2
    have c33 := cl (n12 3 4 (by decide)) c32 sb3
    have c53 := cl (n12 5 4 (by decide)) c52 sb3
    have c23 := cl (n12 2 4 (by decide)) c22 sb3
    clear f1 f2 f3
    refine w_cons ?_
    refine w_for ?_
    refine w_nmC (c := L + 3) rfl c33 ?_
    have lt3 := lex_lt C3 M3
    have L3 : L < h3.objs.size := Y3.ns.lt
    have rl3 := l3.lt
    have hrlb : rl ≠ a.pb := by
      rcases hrl with hrl | hrl
      · exact Nat.ne_of_lt (Nat.lt_of_lt_of_le hrl nb)
      · have := (lex_lt C X0) a.pb a.m_pb; exact Nat.ne_of_gt (Nat.lt_of_lt_of_le this hrl)
    have hbS : a.pb ∈ SS := by simp [SS]
    have hLpb : a.pb ≠ L := Nat.ne_of_gt Lb
    have hc2b : L + 2 ≠ a.pb := by have := hn0.2.1; lia
    have hmutL : ∀ i ∈ a.all, i ∈ [L, a.pb] → i ∈ a.mut := fun i hi hs => by
      simp only [List.mem_cons, List.not_mem_nil, or_false] at hs
      rcases hs with q | q
      · exact absurd (by simp [q]) (hapS i hi)
      · simp [q, LexA.mut]
    refine w_forI (iterList (.inl rfl) ok.3 l3.isList) [L, a.pb] (by
        simp only [List.mem_cons, List.not_mem_nil, or_false]
        rintro b (q | q)
        · rw [q]; exact ⟨L3, fun q => hrlS L (by first | (with_reducible (first | exact im1 | exact im2 | exact im3 | exact sb0 | exact sb1 im1 | exact sb1 im2 | exact sb1 im3)) | exact nmc (adne (by decide)) nm0 | exact nmc (adne (by decide)) (nmc (adnn (by decide)) nm0) | simp) q.symm⟩
        · rw [q]; exact ⟨lt3 _ (by first | exact LexA.m_x _ | exact LexA.m_d _ | exact LexA.m_pb _ | exact LexA.m_st _ | exact LexA.m_sd _ | exact LexA.m_f _ | exact LexA.m_c _ | exact LexA.m_ct _ | exact LexA.m_cp _ | exact LexA.m_pl _), fun q => hrlb q.symm⟩)
      (fun b0 i h' => ∃ m', Fr base L h' m' ∧ (∀ x, x ≠ nWord → m' x = m x) ∧ LexM h' a text text.length (rys.take i))
      (fun b0 i h1 h2 ⟨m', F', e, M'⟩ off => ⟨m', frOff F' off L3, e, M'.off off (lt3 _ (by first | exact LexA.m_x _ | exact LexA.m_d _ | exact LexA.m_pb _ | exact LexA.m_st _ | exact LexA.m_sd _ | exact LexA.m_f _ | exact LexA.m_c _ | exact LexA.m_ct _ | exact LexA.m_cp _ | exact LexA.m_pl _)) (lt3 _ (by first | exact LexA.m_x _ | exact LexA.m_d _ | exact LexA.m_pb _ | exact LexA.m_st _ | exact LexA.m_sd _ | exact LexA.m_f _ | exact LexA.m_c _ | exact LexA.m_ct _ | exact LexA.m_cp _ | exact LexA.m_pl _)) (lt3 _ (by first | exact LexA.m_x _ | exact LexA.m_d _ | exact LexA.m_pb _ | exact LexA.m_st _ | exact LexA.m_sd _ | exact LexA.m_f _ | exact LexA.m_c _ | exact LexA.m_ct _ | exact LexA.m_cp _ | exact LexA.m_pl _))⟩)
      (fun b0 => ⟨m, Y3.F, fun _ _ => rfl, M3⟩) (fun b0 i v h4 hi hlv hP hJ k4 => w_hide fun Qb hQb => ?_) (fun b0 h4 hJ k4 => ?_)
    · obtain ⟨m4, F4, e4, M4⟩ := hJ
      have Y4 : Fs base h4 [L, a.pb] L h4 m4 := Fs.mk0 F4 _
      refine w_asgName ?_
      refine w_stF Y4 fun h5 Y5 sb5 => ?_
      have k5 := k4.trans Y5.K
      have c25 : h5.IsCell (L + 2) (some (.ref a.x)) := IsCell.kept c23 k5 (by simp only [List.mem_cons, List.not_mem_nil, or_false, not_or]; exact ⟨fun q => by lia, fun q => hc2b q⟩)
      have M5 := M4.keptBut (S := [L]) (Kept.of_same sb5 (by first | (with_reducible (first | exact im1 | exact im2 | exact im3 | exact sb0 | exact sb1 im1 | exact sb1 im2 | exact sb1 im3)) | exact nmc (adne (by decide)) nm0 | exact nmc (adne (by decide)) (nmc (adnn (by decide)) nm0) | simp)) (fun j hj => by have := hapS j hj; simp only [List.mem_singleton]; intro q; exact this (by simp [q]))
      have C5 : LexC w H h5 a text := C3.keptX k5 (hmutL)
      have G5 := ctx Y5.F
      refine w_cons ?_
      refine w_expr ?_
      refine w_pushTok (n := n + 3) rfl G5 C5 M5 ok (fun Q' q => w_nmC (c := L + 2) rfl c25 q) ?_
      refine w_nm Y5.ns (if_pos rfl) ⟨_, _, G5, C5, M5, by simp; lia, fun h6 M6 k6 => ⟨fun b e => (by cases e), w_nil ?_⟩⟩
      have Y6 := Y5.kept k6 (List.forall_mem_singleton.mpr (bnone _ Lb)) (by simpa using hLpb.symm) (by first | (with_reducible (first | exact im1 | exact im2 | exact im3 | exact sb0 | exact sb1 im1 | exact sb1 im2 | exact sb1 im3)) | exact nmc (adne (by decide)) nm0 | exact nmc (adne (by decide)) (nmc (adnn (by decide)) nm0) | simp)
      refine hQb _ _ ⟨Y6.K, _, Y6.F, fun x hx => by rw [if_neg hx]; exact e4 x hx, ?_⟩
      rw [List.take_add_one, hP]
      exact M6
    · obtain ⟨m4, F4, e4, M4⟩ := hJ
      rw [List.take_length] at M4
      have Y4 : Fs base h SS L h4 m4 := ⟨F4, Y3.K.trans (k4.mono (by simp only [SS, List.mem_cons, List.not_mem_nil, or_false]; rintro b (h | h) <;> simp [h]))⟩
      have C4 : LexC w H h4 a text := C3.keptX k4 hmutL
      have c24 : h4.IsCell (L + 2) (some (.ref a.x)) := IsCell.kept c23 k4 (by simp only [List.mem_cons, List.not_mem_nil, or_false, not_or]; exact ⟨fun q => by lia, fun q => hc2b q⟩)
      have cK : ∀ {c : Addr} {v}, c ∈ [L + 3, L + 4, L + 5] → h3.IsCell c v → h4.IsCell c v := fun {c v} hc x => IsCell.kept x k4 (by
        have h1 := hapS a.pb a.m_pb
        simp only [List.mem_cons, List.not_mem_nil, or_false, not_or] at hc h1 ⊢
        rcases hc with h | h | h
        · rw [h]; exact ⟨by lia, fun q => h1.2.1 q.symm⟩
        · rw [h]; exact ⟨by lia, fun q => h1.2.2.1 q.symm⟩
        · rw [h]; exact ⟨by lia, fun q => h1.2.2.2 q.symm⟩)
      have c34 := cK (by first | (with_reducible (first | exact im1 | exact im2 | exact im3 | exact sb0 | exact sb1 im1 | exact sb1 im2 | exact sb1 im3)) | exact nmc (adne (by decide)) nm0 | exact nmc (adne (by decide)) (nmc (adnn (by decide)) nm0) | simp) c33
      have c44 := cK (by first | (with_reducible (first | exact im1 | exact im2 | exact im3 | exact sb0 | exact sb1 im1 | exact sb1 im2 | exact sb1 im3)) | exact nmc (adne (by decide)) nm0 | exact nmc (adne (by decide)) (nmc (adnn (by decide)) nm0) | simp) c43
      have c54 := cK (by first | (with_reducible (first | exact im1 | exact im2 | exact im3 | exact sb0 | exact sb1 im1 | exact sb1 im2 | exact sb1 im3)) | exact nmc (adne (by decide)) nm0 | exact nmc (adne (by decide)) (nmc (adnn (by decide)) nm0) | simp) c53
      have l4 : Ls h4 rl rys := lsKept l3 k4 (by simp only [List.mem_cons, List.not_mem_nil, or_false, not_or]; exact ⟨hrlS L (by first | (with_reducible (first | exact im1 | exact im2 | exact im3 | exact sb0 | exact sb1 im1 | exact sb1 im2 | exact sb1 im3)) | exact nmc (adne (by decide)) nm0 | exact nmc (adne (by decide)) (nmc (adnn (by decide)) nm0) | simp), hrlb⟩)
      refine w_nil ?_
      refine w_cons ?_
      refine w_asg ?_
      refine w_callN ?_
      refine w_gK (ctx Y4.F).now (v := .ref aTu) (by kernel_rfl) ?_
      refine w_args ?_
      refine w_arg ?_
      refine w_nmC (c := L + 2) rfl c24 ?_
      refine w_arg ?_
      refine w_binOp ?_
      refine w_binOp ?_
      refine w_cInt fun _ => ?_
      refine w_nmC (c := L + 4) rfl c44 ?_
      refine w_mulInt (by decide) fun _ => ?_
      refine w_cInt fun _ => ?_
      refine w_subInt fun t9 => ?_
      rw [show ((2 : Int) * (((ringOf sc words).length : Nat) : Int) - 1) = ((2 * (ringOf sc words).length - 1 : Nat) : Int) by lia]
      refine w_arg0 ?_
      refine w_kw0 ⟨kpFn aTu (ctx Y4.F).now (by kernel_rfl) (by kernel_rfl), ?_⟩
      have hne : rys ≠ [] := by intro q; rw [q] at hrys; simp at hrys; lia
      refine w_call (tu_call (n := n + 2) (ctx Y4.F) ok C4 M4 hne (by lia) (by lia) (fun h5 D M5 k5 l5 hD => ?_))
      rw [← hrys, turn_ring _ hne] at l5
      have Y5 := Y4.kept k5 (List.forall_mem_singleton.mpr (bnone _ Lb)) (by simpa using hLpb.symm) (List.forall_mem_singleton.mpr (.inl hbS))
      have hb5 := hapS a.pb a.m_pb
      simp only [List.mem_cons, List.not_mem_nil, or_false, not_or] at hb5
      have c55 := IsCell.kept c54 k5 (by simp only [List.mem_singleton]; exact fun q => hb5.2.2.2 q.symm)
      have c45 := IsCell.kept c44 k5 (by simp only [List.mem_singleton]; exact fun q => hb5.2.2.1 q.symm)
      have c35 := IsCell.kept c34 k5 (by simp only [List.mem_singleton]; exact fun q => hb5.2.1 q.symm)
      have lr5 : Ls h5 rl rys := lsKept l4 k5 (by simpa using hrlb)
      have hS9 : L + 9 ∉ SS := by
        simp only [SS, List.mem_cons, List.not_mem_nil, or_false, not_or]
        have := hn0.2.1
        lia
      have h9 : ∀ {h' m'}, Fs base h SS L h' m' → L + 9 < h'.objs.size := fun Y => by obtain ⟨o, e, _⟩ := c9; exact Heap.lt_size (Y.K _ _ hS9 e)
      have hD9 : L + 9 < D := Nat.lt_of_lt_of_le (h9 Y4) hD
      refine w_storeC (c := L + 5) rfl c55 (fun h6 c56 sb6 => ?_)
      have Y6 := stC (by first | (with_reducible (first | exact im1 | exact im2 | exact im3 | exact sb0 | exact sb1 im1 | exact sb1 im2 | exact sb1 im3)) | exact nmc (adne (by decide)) nm0 | exact nmc (adne (by decide)) (nmc (adnn (by decide)) nm0) | simp) Y5 sb6
      have hD5 : D ≠ L + 5 := by lia
      have hr5 : rl ≠ L + 5 := by lia
      have l6 := l5.same sb6 hD5
      have lr6 := lr5.same sb6 hr5
      have c36 := cl (n12 3 5 (by decide)) c35 sb6
      have c46 := cl (n12 4 5 (by decide)) c45 sb6
      have sD : Strs (rys ++ rys.dropLast) (ringOf sc words ++ (ringOf sc words).dropLast) := sr.append sr.dropLast
      refine w_cons ?_
      refine w_if_ ?_
      refine w_tCmp ?_
      refine w_nmC (c := L + 5) rfl c56 ?_
      refine w_binOp ?_
      refine w_nmC (c := L + 3) rfl c36 ?_
      refine w_sub ?_
      refine w_nmC (c := L + 3) rfl c36 ?_
      refine w_slice ?_
      refine w_part0 ?_
      refine w_part ?_
      refine w_neg ?_
      refine w_cInt fun _ => ⟨_, _, rfl, fun _ => ?_⟩
      refine w_part0 ?_
      refine w_sliceL lr6.isList (lo := none) (hi := some (-1)) (st := none) .none (.int _ _) .none (by decide) (fun r7 h7 hr7 e7 l7 z7 => ?_) (by rw [sizeLine_eq]; lia) _ rfl
      rw [slice_initL] at l7
      refine w_addList (lr6.ext e7) l7 (by rw [sizeLine_eq]; simp; lia) (fun h8 e8 l8 z8 => ?_)
      have l68 := (l6.ext e7).ext e8
      refine w_neList (Strs.LA l68 sD) (Strs.LA l8 sD) (kin_strs _ _) ?_ ?_ (by have := ok.units; rw [show cLine = 9900 from rfl] at *; lia) ?_
      · intro x hx; obtain ⟨y, hy, rfl⟩ := List.mem_map.mp hx; exact okW_at y (hokr y hy)
      · intro x hx; obtain ⟨y, hy, rfl⟩ := List.mem_map.mp hx; exact okW_at y (hokr y hy)
      rw [decide_eq_true rfl]
      refine w_tBool ⟨fun e => (by cases e), fun _ => w_nil ?_⟩
      have Y8 := (Y6.ext e7).ext e8
      exact k h8 m4 rl D rys _ ts Y8.F Y8.K ((c36.keeps e7).keeps e8) ((c46.keeps e7).keeps e8) ((c56.keeps e7).keeps e8) ((lr6.ext e7).ext e8) sr l68 sD hrl hrl9 hD9 e4
  refine w_tBool ⟨fun e => ?_, fun e => ?_⟩
  · have e : sc.length % 2 = 1 := by simpa using e
    refine w_binOp ?_
    refine w_nm F.ns mw ?_
    refine w_nm F.ns mw ?_
    refine w_addList hwl hwl (by rw [sizeLine_eq]; lia) (fun h1 e1 l1 z1 => ?_)
    have Y1 := X.ext e1
    have h9 : L + 9 < h.objs.size := by obtain ⟨o, e, _⟩ := c9; exact Heap.lt_size e
    refine rest h1 h.objs.size _ Y1 l1 ?_ (.inr (Nat.le_refl _)) h9 (c3.keeps e1) (c4.keeps e1) (c5.keeps e1) (c2.keeps e1) (C.ext e1) (X0.ext e1)
    unfold ringOf; rw [if_pos e]; exact sw.append sw
  · have e : ¬ sc.length % 2 = 1 := by simpa using e
    refine w_nm F.ns mw ?_
    refine rest h wl wys X hwl ?_ (.inl hn0.2.2) hwl9 c3 c4 c5 c2 C X0
    unfold ringOf; rw [if_neg e]; exact sw
end
end Mine
end
section
open PySem PySem.W PyProof.Rows PySem.Calls
set_option Elab.async false
set_option maxRecDepth 100000
set_option linter.unusedVariables false
set_option linter.unusedSimpArgs false
namespace Mine
abbrev W := List Nat
def wlt (a b : W) : Bool := decide (a < b)
theorem wlt_lin : Lin wlt where
  irr := fun a => by simp [wlt]
  tr := fun a b c h1 h2 => by simp [wlt] at *; exact List.lt_trans h1 h2
  tri := fun a b h1 h2 => by simp [wlt] at *; exact List.le_antisymm h2 h1
theorem ltL_lx : ∀ (a b : List W), ltL (a.map .s) (b.map .s) = lx wlt a b
  | [], [] => rfl
  | [], _ :: _ => rfl
  | _ :: _, [] => rfl
  | a :: as, b :: bs => by
    simp only [List.map_cons, ltL, lx, At.s.injEq, At.lt, wlt, ltL_lx as bs]
/-- a list [key, number] -/
structure TurnAt (h : Heap) (T K : Addr) (i : Nat) (ks : List W) (lo hi : Addr) : Prop where
  l : ∃ t, Ls h T [.ref K, .int (i : Nat) t]
  k : LA h K (ks.map .s)
  b : lo ≤ T ∧ T < hi ∧ lo ≤ K ∧ K < hi
theorem TurnAt.kept {h h' : Heap} {T K : Addr} {i : Nat} {ks : List W} {lo hi : Addr} {S : List Addr} (x : TurnAt h T K i ks lo hi) (k : Kept S h h') (hS : ∀ s ∈ S, s < lo ∨ hi ≤ s) : TurnAt h' T K i ks lo hi := by
  obtain ⟨⟨t, l⟩, kk, b1, b2, b3, b4⟩ := x
  refine ⟨⟨t, lsKept l k fun m => ?_⟩, kk.kept k fun m => ?_, b1, b2, b3, b4⟩
  · rcases hS _ m with q | q
    · exact absurd b1 (Nat.not_le.mpr q)
    · exact absurd b2 (Nat.not_lt.mpr q)
  · rcases hS _ m with q | q
    · exact absurd b3 (Nat.not_le.mpr q)
    · exact absurd b4 (Nat.not_lt.mpr q)
theorem TurnAt.rehi {h : Heap} {T K : Addr} {i : Nat} {ks : List W} {lo hi : Addr} (x : TurnAt h T K i ks lo hi) : TurnAt h T K i ks lo h.objs.size := by
  obtain ⟨⟨t, l⟩, ⟨kv, lk, at_⟩, b1, b2, b3, b4⟩ := x
  exact ⟨⟨t, l⟩, ⟨kv, lk, at_⟩, b1, l.lt, b3, lk.lt⟩
theorem cmp_strs {prog : Program} {w : World} {h : Heap} {n : Nat} {a b : Addr} {x y : List W} (ha : LA h a (x.map .s)) (hb : LA h b (y.map .s)) : CmpLt n prog w h (.ref a) (.ref b) (lx wlt x y) := by
  intro A h' Q ok e k
  refine w_ltList (ha.ext e) (hb.ext e) (kin_strs _ _) (by have := ok.units; rw [show cLine = 9900 from rfl] at *; lia) ?_
  rw [ltL_lx]
  exact k h' (Ext.refl _)
theorem pick_fun {N : Nat} {ys : List Value} (hl : ys.length = N) {P : Nat → Addr → Addr → Prop} (h : ∀ k, k < N → ∃ T K, ys[k]? = some (.ref T) ∧ P k T K) :
    ∃ Tf Kf : Nat → Addr, ys = (List.range N).map (fun k => Value.ref (Tf k)) ∧ ∀ k, k < N → P k (Tf k) (Kf k) := by
  have : ∀ k, ∃ p : Addr × Addr, k < N → ys[k]? = some (.ref p.1) ∧ P k p.1 p.2 := fun k => by
    by_cases q : k < N
    · obtain ⟨T, K, a, b⟩ := h k q; exact ⟨(T, K), fun _ => ⟨a, b⟩⟩
    · exact ⟨((0 : Nat), (0 : Nat)), fun q' => absurd q' q⟩
  refine ⟨fun k => (Classical.choose (this k)).1, fun k => (Classical.choose (this k)).2, ?_, fun k hk => (Classical.choose_spec (this k) hk).2⟩
  apply List.ext_getElem?
  intro i
  by_cases q : i < N
  · rw [(Classical.choose_spec (this i) q).1]
    simp [q]
  · rw [List.getElem?_eq_none (by lia), List.getElem?_eq_none (by simp; lia)]
theorem Strs.drop {ys : List Value} {ts : List W} (x : Strs ys ts) (k : Nat) : Strs (ys.drop k) (ts.drop k) := by
  induction ys generalizing ts k with
  | nil => cases ts with | nil => simp; trivial | cons t ts => exact x.elim
  | cons v ys ih =>
    cases ts with
    | nil => exact x.elim
    | cons t ts => cases k with
      | zero => exact x
      | succ k => exact ih x.2 k
theorem Strs.take {ys : List Value} {ts : List W} (x : Strs ys ts) (k : Nat) : Strs (ys.take k) (ts.take k) := by
  induction ys generalizing ts k with
  | nil => cases ts with | nil => simp; trivial | cons t ts => exact x.elim
  | cons v ys ih =>
    cases ts with
    | nil => exact x.elim
    | cons t ts => cases k with
      | zero => exact trivial
      | succ k => exact ⟨x.1, ih x.2 k⟩
section
variable {prog : Program} {w : World} {A : Around} {h base H : Heap} {mg mb : Str → Option Value} {L : Addr}
set_option maxHeartbeats 4000000 in
theorem ph4a {n : Nat} {pl : Addr} {pys : List Value} {ring : List W} {ts : Tok} {Q : Flow → Heap → Prop} {m : Str → Option Value} (GB : Gd w mg mb H base) (ok : OkA (n + 4) A) (F : Fr base L h m)
    (c4 : h.IsCell (L + 4) (some (.int (ring.length : Nat) ts))) (c5 : h.IsCell (L + 5) (some (.ref pl))) (c6 : h.IsCell (L + 6) none) (c9 : h.IsCell (L + 9) none) (hcb : ∀ i, L < i → base.get? i = none) (hp : Ls h pl pys) (sp : Strs pys (ring ++ ring.dropLast)) (hrz : ring.length ≤ 18) (hr0 : 2 ≤ ring.length)
    (hpl : L + 9 < pl)
    (k : ∀ h' m' tl R (Tf Kf : Nat → Addr) lo hi, Fr base L h' m' → Kept [L, L + 6] h h' → h'.IsCell (L + 6) (some (.ref R)) → Ls h' R ((sig wlt ring ring.length).map fun i => Value.ref (Tf i)) → Ls h' tl ((List.range ring.length).map fun i => Value.ref (Tf i)) → m' (Str.ofString "turnings") = some (.ref tl) →
      (∀ i, i < ring.length → TurnAt h' (Tf i) (Kf i) i (rot ring i) lo hi) → (L + 9 < lo ∧ hi ≤ R ∧ hi < h'.objs.size ∧ tl < hi ∧ L + 9 < tl) → (∀ x, x ≠ Str.ofString "turnings" → x ≠ Str.ofString "turning" → m' x = m x) → Wp (model prog w) A (execs ((lawB w).drop 15) (lawE w L)) Q h') :
    Wp (model prog w) A (execs ((lawB w).drop 12) (lawE w L)) Q h := by
  have ctx : ∀ {h' m'}, Fr base L h' m' → Gd w mg mb H h' := fun F' => GB.ext F'.keep
  have X : Fs base h [L, L + 6] L h m := Fs.mk0 F _
  have hll : ∀ (x y : Nat), x ≠ y → L + x ≠ L + y := fun i j hij q => hij (Nat.add_left_cancel q)
  have h9S : L + 9 ∉ [L, L + 6] := by simp
  have h9 : ∀ {h' m'}, Fs base h [L, L + 6] L h' m' → L + 9 < h'.objs.size := fun Y => by obtain ⟨o, e, _⟩ := c9; exact Heap.lt_size (Y.K _ _ h9S e)
  have hplen := sp.length
  have hrl : (ring ++ ring.dropLast).length ≤ 36 := by simp; lia
  refine w_cons ?_
  refine w_asgLc X (cl := [(nSize, L + 4), (nPassed, L + 5)]) (by first | (with_reducible (first | exact im1 | exact im2 | exact im3 | exact sb0 | exact sb1 im1 | exact sb1 im2 | exact sb1 im3)) | exact nmc (adne (by decide)) nm0 | exact nmc (adne (by decide)) (nmc (adnn (by decide)) nm0) | simp) rfl rfl rfl rfl rfl rfl (by first | (with_reducible (first | exact im1 | exact im2 | exact im3 | exact sb0 | exact sb1 im1 | exact sb1 im2 | exact sb1 im3)) | exact nmc (adne (by decide)) nm0 | exact nmc (adne (by decide)) (nmc (adnn (by decide)) nm0) | simp) rfl rfl ?_
  refine w_callN ?_
  refine w_gB (v := .type "range") (ctx F).now (by kernel_rfl) (by kernel_rfl) (by decide) ?_
  refine w_args ?_
  refine w_arg ?_
  refine w_nmC (c := L + 4) rfl c4 ?_
  refine w_arg0 ?_
  refine w_kw0 ⟨Kp.type _, ?_⟩
  refine w_range fun h1 r t1 t2 t3 hr e1 z1 ir => ?_
  refine ⟨ring.length, _, [], iterRange0 rfl ok.3 ir (by lia), by rw [sizeLine_eq]; lia, by simp, e1,
    (fun b0 i ys h' => ys.length = i ∧ ∀ k, k < i → ∃ T K, ys[k]? = some (.ref T) ∧ TurnAt h' T K k (rot ring k) b0 h'.objs.size), ⟨fun b0 i ys h1' h2' ⟨hl, hJ⟩ off => ⟨hl, fun k hk => ?_⟩, fun b0 => ⟨rfl, fun k hk => absurd hk (Nat.not_lt_zero _)⟩, fun b0 C i v ys h' mm hi hC hbb hv hJ kk hy ns => t_hide fun Qb hQb => ?_⟩, fun b0 ys D C h2 h3 hD hDC hCb hLn l3 hy hJ k23 ex X3 => ?_⟩
  · obtain ⟨T, K, e, ⟨⟨t, l⟩, ⟨kv, lk, at_⟩, b1, b2, b3, b4⟩⟩ := hJ k hk
    have l' := l.off off (.inr b1)
    have lk' := lk.off off (.inr b3)
    exact ⟨T, K, e, ⟨⟨t, l'⟩, ⟨kv, lk', at_⟩, b1, l'.lt, b3, lk'.lt⟩⟩
  · obtain ⟨hl, hJ⟩ := hJ
    obtain ⟨tv, rfl⟩ := hv
    have hCh : h.get? C = none := by
      cases q : h.get? C with
      | none => rfl
      | some o => exact absurd (Heap.lt_size (e1 _ _ q)) (Nat.not_lt.mpr hC)
    refine w_asgName ?_
    refine w_store (env := compEnvC _ [(nSize, L + 4), (nPassed, L + 5)] C (lawE w L)) (m := mm) ns (fun h2' n2 sb2' => ?_) rfl rfl
    show Wp _ _ _ _ _
    have kC : Kept [C] h' h2' := Kept.of_same sb2' (List.mem_singleton.mpr rfl)
    have e02 : Ext h h2' := fun b o e => kC b o (by simp only [List.mem_singleton]; intro q; subst q; rw [hCh] at e; cases e) (kk b o (by first | (with_reducible (first | exact im1 | exact im2 | exact im3 | exact sb0 | exact sb1 im1 | exact sb1 im2 | exact sb1 im3)) | exact nmc (adne (by decide)) nm0 | exact nmc (adne (by decide)) (nmc (adnn (by decide)) nm0) | simp) (e1 b o e))
    refine w_list ?_
    refine w_arg ?_
    refine w_sub ?_
    refine w_nmC (c := L + 5) rfl (c5.keeps e02) ?_
    refine w_slice ?_
    refine w_part ?_
    refine w_nm n2 (if_pos rfl) ?_
    refine w_part ?_
    refine w_binOp ?_
    refine w_nm n2 (if_pos rfl) ?_
    refine w_nmC (c := L + 4) rfl (c4.keeps e02) ?_
    refine w_addInt fun _ => ?_
    refine w_part0 ?_
    rw [show ((i : Int) + ((ring.length : Nat) : Int)) = ((i + ring.length : Nat) : Int) by lia]
    refine w_sliceL (hp.ext e02).isList (lo := some (i : Int)) (hi := some ((i + ring.length : Nat) : Int)) (st := none) (.int _ _) (.int _ _) .none (by decide) (fun K h3' hK e3 l3 z3 => ?_) (by rw [hplen, sizeLine_eq]; lia) _ rfl
    rw [slice_mid, show i + ring.length - i = ring.length by lia] at l3
    refine w_arg ?_
    refine w_nm (n2.keeps e3) (if_pos rfl) ?_
    refine w_arg0 ⟨by simp [sizeLine_eq], fun h4' T hT e4 l4 z4 => ?_⟩
    have k24 : Kept [C] h' h4' := kC.trans (Kept.of_ext (e3.trans e4))
    have hClt : C < h2'.objs.size := n2.lt
    have b0K : b0 ≤ K := by lia
    have hKT : K < T := by rw [hT]; exact l3.lt
    refine hQb _ _ ⟨k24, ⟨_, n2.keeps (e3.trans e4)⟩, by simp [hl], fun k hk => ?_⟩
    by_cases q : k < i
    · obtain ⟨T', K', e, tr⟩ := hJ k q
      have tr' := tr.kept k24 (fun s hs => .inl (by simp only [List.mem_singleton] at hs; lia))
      obtain ⟨⟨t, l⟩, ⟨kv, lk, at_⟩, b1, b2, b3, b4⟩ := tr'
      exact ⟨T', K', by rw [List.getElem?_append_left (by lia)]; exact e, ⟨⟨t, l⟩, ⟨kv, lk, at_⟩, b1, l.lt, b3, lk.lt⟩⟩
    · have : k = i := by lia
      subst this
      refine ⟨T, K, by rw [List.getElem?_append_right (by lia), hl]; simp, ⟨⟨tv, l4⟩, ?_, by lia, l4.lt, b0K, (l3.ext e4).lt⟩⟩
      have := Strs.LA (l3.ext e4) ((sp.drop k).take ring.length)
      rw [passed_cut ring k hi] at this
      exact this
  · have hX2 : Fs base h [L, L + 6] L h2 m := X.ext (e1.trans ex)
    have h92 := h9 hX2
    have hL2 : L < h2.objs.size := hX2.ns.lt
    obtain ⟨hl, hJ⟩ := hJ
    obtain ⟨Tf, Kf, hys, hTf⟩ := pick_fun hl (P := fun k T K => TurnAt h2 T K k (rot ring k) b0 h2.objs.size) hJ
    subst hys
    have h91 : L + 9 < h1.objs.size := h9 (X.ext e1)
    have hb9 : L + 9 < b0 := by
      have : L + 9 < h1.objs.size := h9 (X.ext e1)
      lia
    have hTf3 : ∀ k, k < ring.length → TurnAt h3 (Tf k) (Kf k) k (rot ring k) b0 h2.objs.size := fun k hk => (hTf k hk).kept k23 (fun s hs => .inl (by
      simp only [List.mem_cons, List.not_mem_nil, or_false] at hs
      rcases hs with h | h
      · rw [h]; lia
      · rw [h]; exact hCb))
    have hTf3 := fun k hk => (hTf3 k hk).rehi
    have h93 := h9 X3
    have hL3 : L < h3.objs.size := X3.ns.lt
    refine w_cons ?_
    refine w_asg ?_
    refine w_list ?_
    refine w_arg0 ⟨by simp, fun h4 R hR e4 l4 z4 => ?_⟩
    have c64 : h4.IsCell (L + 6) none := by
      have hCne : L + 6 ∉ [L, C] := by simp only [List.mem_cons, List.not_mem_nil, or_false, not_or] at ⊢; lia
      obtain ⟨o, e, r⟩ := c6; exact ⟨o, e4 _ _ (k23 _ _ hCne (ex _ _ (e1 _ _ e))), r⟩
    have hRL : R ≠ L := by rw [hR]; exact Nat.ne_of_gt hL3
    have hR6 : R ≠ L + 6 := by rw [hR]; lia
    refine w_storeC (c := L + 6) rfl c64 (fun h5 c65 sb5 => ?_)
    have X5 := (X3.ext e4).kept (T := [L + 6]) (Kept.of_same sb5 (by first | (with_reducible (first | exact im1 | exact im2 | exact im3 | exact sb0 | exact sb1 im1 | exact sb1 im2 | exact sb1 im3)) | exact nmc (adne (by decide)) nm0 | exact nmc (adne (by decide)) (nmc (adnn (by decide)) nm0) | simp)) (List.forall_mem_singleton.mpr (hcb _ (by lia))) (by first | (with_reducible (first | exact im1 | exact im2 | exact im3 | exact sb0 | exact sb1 im1 | exact sb1 im2 | exact sb1 im3)) | exact nmc (adne (by decide)) nm0 | exact nmc (adne (by decide)) (nmc (adnn (by decide)) nm0) | simp) (by first | (with_reducible (first | exact im1 | exact im2 | exact im3 | exact sb0 | exact sb1 im1 | exact sb1 im2 | exact sb1 im3)) | exact nmc (adne (by decide)) nm0 | exact nmc (adne (by decide)) (nmc (adnn (by decide)) nm0) | simp)
    have l5 := l4.same sb5 hR6
    have k35 : Kept [L + 6] h3 h5 := (Kept.of_ext e4).trans (Kept.of_same sb5 (by first | (with_reducible (first | exact im1 | exact im2 | exact im3 | exact sb0 | exact sb1 im1 | exact sb1 im2 | exact sb1 im3)) | exact nmc (adne (by decide)) nm0 | exact nmc (adne (by decide)) (nmc (adnn (by decide)) nm0) | simp))
    have hTf5 : ∀ k, k < ring.length → TurnAt h5 (Tf k) (Kf k) k (rot ring k) b0 h3.objs.size := fun k hk => (hTf3 k hk).kept k35 (fun s hs => .inl (by simp only [List.mem_singleton] at hs; rw [hs]; lia))
    have hDlt := l3.lt
    have hD6 : D ∉ [L + 6] := by simp only [List.mem_singleton] at ⊢; lia
    have lD5 : Ls h5 D _ := lsKept l3 k35 hD6
    have L5 : L < h5.objs.size := X5.ns.lt
    have R5 := l5.lt
    have hDLR : ∀ b ∈ [L, R], b < h5.objs.size ∧ b ∉ [D] := by
      simp only [List.mem_cons, List.not_mem_nil, or_false]
      rintro b (q | q)
      · rw [q]; exact ⟨L5, by lia⟩
      · rw [q]; exact ⟨R5, by lia⟩
    generalize hm5 : (fun z => if z = Str.ofString "turnings" then some (Value.ref D) else m z) = m5 at X5
    have m5t : m5 (Str.ofString "turnings") = some (.ref D) := by rw [← hm5]; rfl
    have m5o : ∀ x, x ≠ Str.ofString "turnings" → m5 x = m x := fun x hx => by rw [← hm5]; exact if_neg hx
    refine w_cons ?_
    refine w_for ?_
    refine w_nm X5.ns m5t ?_
    refine w_forI (iterList (.inl rfl) ok.3 lD5.isList) [L, R] hDLR
      (fun b0' i h' => ∃ m', Fr base L h' m' ∧ (∀ x, x ≠ Str.ofString "turning" → m' x = m5 x) ∧ Ls h' R ((sig wlt ring i).map fun j => Value.ref (Tf j)))
      (fun b0' i h1' h2' ⟨m', F', e, l⟩ off => ⟨m', frOff F' off L5, e, l.off off (.inl R5)⟩) (fun b0' => ⟨m5, X5.F, fun _ _ => rfl, l5⟩) (fun b0' i v h6 hi hlv hP hJ' k6 => w_hide fun Qc hQc => ?_) (fun b0' h6 hJ' k6 => ?_)
    · obtain ⟨m6, F6, e6m, l6⟩ := hJ'
      have hi : i < ring.length := by simpa using hi
      have hP : v = .ref (Tf i) := by
        rw [List.getElem?_map, List.getElem?_range hi] at hP
        simpa using hP.symm
      subst hP
      have Y6 : Fs base h6 [L, R] L h6 m6 := Fs.mk0 F6 _
      refine w_asgName ?_
      refine w_stF Y6 fun h7 Y7 sb7 => ?_
      have k57 := k6.trans Y7.K
      have hT7 : ∀ k, k < ring.length → TurnAt h7 (Tf k) (Kf k) k (rot ring k) b0 h3.objs.size := fun k hk => (hTf5 k hk).kept k57 (fun s hs => by
        simp only [List.mem_cons, List.not_mem_nil, or_false] at hs
        rcases hs with q | q
        · rw [q]; exact .inl (by lia)
        · rw [q, hR]; exact .inr (Nat.le_refl _))
      have l7 := l6.same sb7 hRL
      have c67 : h7.IsCell (L + 6) (some (.ref R)) := IsCell.kept c65 k57 (by simp only [List.mem_cons, List.not_mem_nil, or_false, not_or]; exact ⟨by simp, fun q => hR6 q.symm⟩)
      have G7 := ctx Y7.F
      have slt : ∀ j ∈ sig wlt ring i, j < i := growN_lt _ i
      have slen : (sig wlt ring i).length = i := by have := (growN_perm (qR wlt ring) i).length_eq; rw [List.length_range] at this; exact this
      have scut := sig_cut ring wlt_lin i
      obtain ⟨⟨ti, lTi⟩, lKi, _⟩ := hT7 i hi
      refine w_cons ?_
      refine w_if_ ?_
      refine w_tCmp ?_
      refine w_callN ?_
      refine w_gK G7.now (v := .ref aIL) (by kernel_rfl) ?_
      refine w_args ?_
      refine w_arg ?_
      refine w_nmC (c := L + 6) rfl c67 ?_
      refine w_arg ?_
      refine w_nm Y7.ns (if_pos rfl) ?_
      refine w_arg0 ?_
      refine w_kw ?_
      refine w_gK G7.now (v := .ref aFi) (by kernel_rfl) ?_
      refine w_kw0 ⟨kpFn aIL G7.now (by kernel_rfl) (by kernel_rfl), ?_⟩
      refine il_call (n := n + 2) (ks := (sig wlt ring i).map fun j => Value.ref (Kf j)) (kx := .ref (Kf i)) (lo := 0) (hi := i) (r := (sig wlt ring i).countP (qR wlt ring i)) (less := fun j => lx wlt (rot ring ((sig wlt ring i).getD j 0)) (rot ring i)) G7.now ok l7 (by rw [List.length_map, slen, sizeLine_eq]; lia) (il_b2k w _ _ _) (.inl ⟨rfl, by simp [slen]⟩) (Nat.zero_le _) ?_ (by simp [slen]) ?_ ?_ ?_ ?_ ?_ (fun h8 l8 k8 => ?_)
      · have := List.countP_le_length (p := qR wlt ring i) (l := sig wlt ring i); lia
      · refine .inr ⟨⟨_, rfl⟩, kpFn aFi G7.now (by kernel_rfl) (by kernel_rfl), by simp, fun j v kv e1' e2' => ?_⟩
        simp only [List.getElem?_map, Option.map_eq_some_iff] at e1' e2'
        obtain ⟨a, ea, rfl⟩ := e1'
        obtain ⟨a', ea', rfl⟩ := e2'
        rw [ea] at ea'; cases ea'
        obtain ⟨⟨ta, lTa⟩, lKa, _⟩ := hT7 a (Nat.lt_trans (slt a (List.mem_of_getElem? ea)) hi)
        exact fi_key G7 lTa.isList (by first | (with_reducible (first | exact im1 | exact im2 | exact im3 | exact sb0 | exact sb1 im1 | exact sb1 im2 | exact sb1 im3)) | exact nmc (adne (by decide)) nm0 | exact nmc (adne (by decide)) (nmc (adnn (by decide)) nm0) | simp)
      · exact .inr ⟨⟨_, rfl⟩, kpFn aFi G7.now (by kernel_rfl) (by kernel_rfl), fi_key G7 lTi.isList (by first | (with_reducible (first | exact im1 | exact im2 | exact im3 | exact sb0 | exact sb1 im1 | exact sb1 im2 | exact sb1 im3)) | exact nmc (adne (by decide)) nm0 | exact nmc (adne (by decide)) (nmc (adnn (by decide)) nm0) | simp)⟩
      · intro j _ hj
        have hjl : j < (sig wlt ring i).length := Nat.lt_of_lt_of_le hj List.countP_le_length
        have := (scut j hjl).mp hj
        simpa [List.getD_eq_getElem?_getD, hjl] using this
      · intro j hj1 hj2
        have hjl : j < (sig wlt ring i).length := by lia
        have := (scut j hjl)
        cases q : lx wlt (rot ring (sig wlt ring i)[j]) (rot ring i) with
        | true => have := this.mpr q; lia
        | false => simpa [List.getD_eq_getElem?_getD, hjl] using q
      · intro j v e1'
        simp only [List.getElem?_map, Option.map_eq_some_iff] at e1'
        obtain ⟨a, ea, rfl⟩ := e1'
        obtain ⟨⟨ta, lTa⟩, lKa, _⟩ := hT7 a (Nat.lt_trans (slt a (List.mem_of_getElem? ea)) hi)
        have e3 : (sig wlt ring i).getD j 0 = a := by simp [List.getD_eq_getElem?_getD, ea]
        show CmpLt _ _ _ _ _ _ (lx wlt (rot ring ((sig wlt ring i).getD j 0)) (rot ring i))
        rw [e3]
        exact cmp_strs lKa lKi
      have k8' : Kept [R] h7 h8 := fun b o nb eb => k8 b o (by simpa using nb) eb
      have Y8 := Y7.kept k8' (List.forall_mem_singleton.mpr (hcb _ (by lia))) (by simpa using hRL.symm) (by first | (with_reducible (first | exact im1 | exact im2 | exact im3 | exact sb0 | exact sb1 im1 | exact sb1 im2 | exact sb1 im3)) | exact nmc (adne (by decide)) nm0 | exact nmc (adne (by decide)) (nmc (adnn (by decide)) nm0) | simp)
      refine w_cNone ?_
      refine w_isNotNone rfl ?_
      refine w_tBool ⟨fun e => (by cases e), fun _ => w_nil (w_nil (hQc _ _ ⟨Y8.K, _, Y8.F, fun x hx => by rw [if_neg hx]; exact e6m x hx, ?_⟩))⟩
      rw [← List.map_take, ← List.map_drop] at l8
      have : (sig wlt ring (i + 1)).map (fun j => Value.ref (Tf j)) = (List.take ((sig wlt ring i).countP (qR wlt ring i)) (sig wlt ring i)).map (fun j => Value.ref (Tf j)) ++ Value.ref (Tf i) :: (List.drop ((sig wlt ring i).countP (qR wlt ring i)) (sig wlt ring i)).map (fun j => Value.ref (Tf j)) := by
        show (insAt (sig wlt ring i) _ i).map _ = _
        unfold insAt
        rw [List.map_append, List.map_cons]
        rfl
      rw [this]
      exact l8
    · obtain ⟨m6, F6, e6m, l6⟩ := hJ'
      rw [List.length_map, List.length_range] at l6
      have Y6 : Fs base h [L, L + 6] L h6 m6 := ⟨F6, fun b o nb eb => by
        refine k6 b o ?_ (X5.K b o nb eb)
        have hb : b < h1.objs.size := Heap.lt_size (e1 b o eb)
        simp only [List.mem_cons, List.not_mem_nil, or_false, not_or, Addr] at *
        lia⟩
      have c66 : h6.IsCell (L + 6) (some (.ref R)) := IsCell.kept c65 k6 (by simp only [List.mem_cons, List.not_mem_nil, or_false, not_or]; exact ⟨by simp, fun q => hR6 q.symm⟩)
      have hT6 : ∀ k, k < ring.length → TurnAt h6 (Tf k) (Kf k) k (rot ring k) b0 h3.objs.size := fun k hk => (hTf5 k hk).kept k6 (fun s hs => by
        simp only [List.mem_cons, List.not_mem_nil, or_false] at hs
        rcases hs with q | q
        · rw [q]; exact .inl (by lia)
        · rw [q, hR]; exact .inr (Nat.le_refl _))
      have lD6 : Ls h6 D _ := lsKept lD5 k6 (by simp only [List.mem_cons, List.not_mem_nil, or_false, not_or]; lia)
      refine w_nil ?_
      refine k h6 m6 D R Tf Kf b0 h3.objs.size Y6.F Y6.K c66 l6 lD6 ?_ hT6 ⟨hb9, Nat.le_of_eq hR.symm, ?_, hDlt, ?_⟩ (fun x hx hx' => by rw [e6m x hx', m5o x hx])
      · rw [e6m _ (by decide)]; exact m5t
      · rw [← hR]; exact l6.lt
      · have : L + 9 < h1.objs.size := h9 (X.ext e1)
        lia
end
end Mine
end
section
open PySem PySem.W PyProof.Rows PySem.Calls
set_option Elab.async false
set_option maxRecDepth 100000
set_option linter.unusedVariables false
set_option linter.unusedSimpArgs false
namespace Mine
theorem TestElt.mk1 {M : Model} {A : Around} {h : Heap} {env : Env} {c elt : Expr} {Q : Option Value → Heap → Prop} (z : Wp M A (isTrue c env (eval c env)) (fun ok h2 => if ok = true then Wp M A (eval elt env) (fun y => Q (some y)) h2 else Q none h2) h) : TestElt M A [c] elt env Q h := z
section
variable {prog : Program} {w : World} {A : Around} {h base H : Heap} {mg mb : Str → Option Value} {L : Addr}
theorem rev_get {β : Type} (N : Nat) (f : Nat → β) (d : β) (a : Nat) (h : a < N) : (((List.range N).map f).reverse).getD a d = f (N - 1 - a) := by
  rw [List.getD_eq_getElem?_getD, List.getElem?_reverse (by simpa using h)]
  simp
  rw [List.getElem?_range (by lia)]
  rfl
set_option maxHeartbeats 4000000 in
theorem ph4b {n : Nat} {tl R : Addr} {Tf Kf : Nat → Addr} {lo hi : Addr} {ring : List W} {ts : Tok} {Q : Flow → Heap → Prop} {m : Str → Option Value} (GB : Gd w mg mb H base) (ok : OkA (n + 4) A) (F : Fr base L h m)
    (c4 : h.IsCell (L + 4) (some (.int (ring.length : Nat) ts))) (c6 : h.IsCell (L + 6) (some (.ref R))) (c7 : h.IsCell (L + 7) none) (hcb : ∀ i, L < i → base.get? i = none) (hrz : ring.length ≤ 18) (hr0 : 2 ≤ ring.length)
    (lR : Ls h R ((sig wlt ring ring.length).map fun i => Value.ref (Tf i))) (ltl : Ls h tl ((List.range ring.length).map fun i => Value.ref (Tf i))) (mt : m (Str.ofString "turnings") = some (.ref tl))
    (hT : ∀ i, i < ring.length → TurnAt h (Tf i) (Kf i) i (rot ring i) lo hi) (hb : L + 9 < lo ∧ hi ≤ R ∧ hi < h.objs.size ∧ tl < hi ∧ L + 9 < tl)
    (k : ∀ h', Fr base L h' m → Kept [L, L + 7] h h' → Wp (model prog w) A (execs ((lawB w).drop 17) (lawE w L)) Q h') :
    Wp (model prog w) A (execs ((lawB w).drop 15) (lawE w L)) Q h := by
  have ctx : ∀ {h' m'}, Fr base L h' m' → Gd w mg mb H h' := fun F' => GB.ext F'.keep
  have X : Fs base h [L, L + 7] L h m := Fs.mk0 F _
  obtain ⟨hb1, hb2, hb3, hb4, hb5⟩ := hb
  have hLH : H.get? L = none := by
    cases e : H.get? L with
    | none => rfl
    | some o => have := (ctx F).E; have h1 := frL F; rw [GB.E _ _ e] at h1; cases h1
  refine w_cons ?_
  refine w_asg ?_
  refine w_callN ?_
  refine w_gB (v := .builtin "sorted") (ctx F).now (by kernel_rfl) (by kernel_rfl) (by decide) ?_
  refine w_args ?_
  refine w_arg ?_
  refine w_sub ?_
  refine w_nm F.ns mt ?_
  refine w_slice ?_
  refine w_part0 ?_
  refine w_part0 ?_
  refine w_part ?_
  refine w_neg ?_
  refine w_cInt fun _ => ⟨_, _, rfl, fun _ => ?_⟩
  refine w_sliceL ltl.isList (lo := none) (hi := none) (st := some (-1)) .none .none (.int _ _) (by decide) (fun rl h1 hrl e1 l1 z1 => ?_) (by rw [sizeLine_eq]; simp; lia) _ rfl
  rw [slice_rev] at l1
  refine w_arg0 ?_
  refine w_kw ?_
  have X1 := X.ext e1
  refine w_gK (ctx X1.F).now (v := .ref aFi) (by kernel_rfl) ?_
  refine w_kw0 ⟨Kp.builtin _, ?_⟩
  have hT1 : ∀ i, i < ring.length → TurnAt h1 (Tf i) (Kf i) i (rot ring i) lo hi := fun i hi => (hT i hi).kept (Kept.of_ext (S := []) e1) (by first | (with_reducible (first | exact im1 | exact im2 | exact im3 | exact sb0 | exact sb1 im1 | exact sb1 im2 | exact sb1 im3)) | exact nmc (adne (by decide)) nm0 | exact nmc (adne (by decide)) (nmc (adnn (by decide)) nm0) | simp)
  have hid : ∀ {b o}, b ≠ L → h1.get? b = some o → (hideAll h1 [L]).get? b = some o := fun hb e => hideAll_get _ e (by simpa using hb)
  have GH : Gd w mg mb H (hideAll h1 [L]) := (ctx X1.F).hid (List.forall_mem_singleton.mpr hLH)
  have hTL : ∀ i, i < ring.length → Tf i ≠ L ∧ Kf i ≠ L := fun i hi => by
    obtain ⟨_, _, b1, b2, b3, b4⟩ := hT i hi
    lia
  refine w_sortedK (n := n + 2) (ks := ((List.range ring.length).map fun i => Value.ref (Kf i)).reverse) (kas := ((List.range ring.length).map fun i => (rot ring i).map At.s).reverse) X1.F l1.isList (by simpa using hr0) (by simp; lia) (OkA.in1 (OkA.in1 ok)) ?_ (by first | (with_reducible (first | exact im1 | exact im2 | exact im3 | exact sb0 | exact sb1 im1 | exact sb1 im2 | exact sb1 im3)) | exact nmc (adne (by decide)) nm0 | exact nmc (adne (by decide)) (nmc (adnn (by decide)) nm0) | simp) ?_ (by first | (with_reducible (first | exact im1 | exact im2 | exact im3 | exact sb0 | exact sb1 im1 | exact sb1 im2 | exact sb1 im3)) | exact nmc (adne (by decide)) nm0 | exact nmc (adne (by decide)) (nmc (adnn (by decide)) nm0) | simp) ?_ (by have := ok.units; rw [show cLine = 9900 from rfl] at *; lia) (fun D p h2 sp hD0 hDb hDL F2 k2 lD => ?_)
  · intro j v kv e1' e2'
    have hj : j < ring.length := by
      rcases Nat.lt_or_ge j ring.length with q | q
      · exact q
      · rw [List.getElem?_eq_none (by simpa using q)] at e1'; cases e1'
    have e3 := rev_get ring.length (fun i => Value.ref (Tf i)) Value.none j hj
    have e4 := rev_get ring.length (fun i => Value.ref (Kf i)) Value.none j hj
    rw [List.getD_eq_getElem?_getD, e1'] at e3
    rw [List.getD_eq_getElem?_getD, e2'] at e4
    simp only [Option.getD_some] at e3 e4
    subst e3; subst e4
    obtain ⟨⟨ta, nn, lTa⟩, lKa, _⟩ := hT1 (ring.length - 1 - j) (by lia)
    have lT' : Ls (hideAll h1 [L]) (Tf (ring.length - 1 - j)) [.ref (Kf (ring.length - 1 - j)), .int ((ring.length - 1 - j : Nat) : Int) ta] := ⟨nn, hid (hTL _ (by lia)).1 lTa⟩
    exact fi_key GH lT'.isList (by first | (with_reducible (first | exact im1 | exact im2 | exact im3 | exact sb0 | exact sb1 im1 | exact sb1 im2 | exact sb1 im3)) | exact nmc (adne (by decide)) nm0 | exact nmc (adne (by decide)) (nmc (adnn (by decide)) nm0) | simp)
  · intro j hj
    simp only [List.length_reverse, List.length_map, List.length_range] at hj
    obtain ⟨_, lKa, _⟩ := hT1 (ring.length - 1 - j) (by lia)
    have e4 := rev_get ring.length (fun i => Value.ref (Kf i)) Value.none j hj
    have e5 := rev_get ring.length (fun i => (rot ring i).map At.s) [] j hj
    refine ⟨Kf (ring.length - 1 - j), ?_, (hTL _ (by lia)).2, ?_⟩
    · rw [← e4, List.getD_eq_getElem?_getD, List.getElem?_eq_getElem (by simpa using hj)]; rfl
    · rw [List.getD_eq_getElem?_getD, List.getElem?_eq_getElem (by simpa using hj)] at e5
      simp only [Option.getD_some] at e5
      rw [e5]; exact lKa
  · intro x hx y hy
    simp only [List.mem_reverse, List.mem_map] at hx hy
    obtain ⟨a, _, rfl⟩ := hx
    obtain ⟨b, _, rfl⟩ := hy
    exact kin_strs _ _
  have hpl : p.length = ring.length := by simpa using sp.len
  have hplt : ∀ i ∈ p, i < ring.length := fun i hi => by simpa using sp.lt i hi
  have hcmp : ∀ a b, a < ring.length → b < ring.length → cmpOf (((List.range ring.length).map fun i => (rot ring i).map At.s).reverse) a b = lx wlt (rot ring (ring.length - 1 - a)) (rot ring (ring.length - 1 - b)) := fun a b ha hb => by
    unfold cmpOf
    rw [rev_get _ _ _ _ ha, rev_get _ _ _ _ hb, ltL_lx]
  have hord := sig_order ring wlt_lin p hpl hplt (sp.srt.imp_of_mem fun {a b} ha hb h => by
    unfold prec at h
    rw [hcmp _ _ (hplt a ha) (hplt b hb), hcmp _ _ (hplt b hb) (hplt a ha)] at h
    exact h)
  have hlD : p.map (fun i => (((List.range ring.length).map fun i => Value.ref (Tf i)).reverse).getD i Value.none) = (sig wlt ring ring.length).map fun i => Value.ref (Tf i) := by
    rw [← hord, List.map_map]
    apply List.map_congr_left
    intro a ha
    exact rev_get _ _ _ _ (hplt a ha)
  rw [hlD] at lD
  have X2 : Fs base h [L, L + 7] L h2 m := ⟨F2, X1.K.trans (k2.mono (by first | (with_reducible (first | exact im1 | exact im2 | exact im3 | exact sb0 | exact sb1 im1 | exact sb1 im2 | exact sb1 im3)) | exact nmc (adne (by decide)) nm0 | exact nmc (adne (by decide)) (nmc (adnn (by decide)) nm0) | simp))⟩
  have c72 : h2.IsCell (L + 7) none := IsCell.kept (c7.keeps e1) k2 (by first | (with_reducible (first | exact im1 | exact im2 | exact im3 | exact sb0 | exact sb1 im1 | exact sb1 im2 | exact sb1 im3)) | exact nmc (adne (by decide)) nm0 | exact nmc (adne (by decide)) (nmc (adnn (by decide)) nm0) | simp)
  refine w_storeC (c := L + 7) rfl c72 (fun h3 c73 sb3 => ?_)
  have X3 := X2.kept (T := [L + 7]) (Kept.of_same sb3 (by first | (with_reducible (first | exact im1 | exact im2 | exact im3 | exact sb0 | exact sb1 im1 | exact sb1 im2 | exact sb1 im3)) | exact nmc (adne (by decide)) nm0 | exact nmc (adne (by decide)) (nmc (adnn (by decide)) nm0) | simp)) (List.forall_mem_singleton.mpr (hcb _ (by lia))) (by first | (with_reducible (first | exact im1 | exact im2 | exact im3 | exact sb0 | exact sb1 im1 | exact sb1 im2 | exact sb1 im3)) | exact nmc (adne (by decide)) nm0 | exact nmc (adne (by decide)) (nmc (adnn (by decide)) nm0) | simp) (by first | (with_reducible (first | exact im1 | exact im2 | exact im3 | exact sb0 | exact sb1 im1 | exact sb1 im2 | exact sb1 im3)) | exact nmc (adne (by decide)) nm0 | exact nmc (adne (by decide)) (nmc (adnn (by decide)) nm0) | simp)
  have hD7 : D ≠ L + 7 := by
    intro q
    obtain ⟨o, e, _⟩ := c7.keeps e1
    rw [q, e] at hD0; cases hD0
  have lD3 : h3.IsList D _ := IsList.kept lD (Kept.of_same (S := [L + 7]) sb3 (by first | (with_reducible (first | exact im1 | exact im2 | exact im3 | exact sb0 | exact sb1 im1 | exact sb1 im2 | exact sb1 im3)) | exact nmc (adne (by decide)) nm0 | exact nmc (adne (by decide)) (nmc (adnn (by decide)) nm0) | simp)) (by simpa using hD7)
  have hRS : R ∉ [L, L + 7] := by simp only [List.mem_cons, List.not_mem_nil, or_false, not_or] at ⊢; lia
  have lR3 : Ls h3 R _ := lsKept lR X3.K hRS
  have c43 := IsCell.kept c4 X3.K (by first | (with_reducible (first | exact im1 | exact im2 | exact im3 | exact sb0 | exact sb1 im1 | exact sb1 im2 | exact sb1 im3)) | exact nmc (adne (by decide)) nm0 | exact nmc (adne (by decide)) (nmc (adnn (by decide)) nm0) | simp)
  have c63 := IsCell.kept c6 X3.K (by first | (with_reducible (first | exact im1 | exact im2 | exact im3 | exact sb0 | exact sb1 im1 | exact sb1 im2 | exact sb1 im3)) | exact nmc (adne (by decide)) nm0 | exact nmc (adne (by decide)) (nmc (adnn (by decide)) nm0) | simp)
  have slen : (sig wlt ring ring.length).length = ring.length := by have := (growN_perm (qR wlt ring) ring.length).length_eq; rw [List.length_range] at this; exact this
  refine w_cons ?_
  refine w_if_ ?_
  refine w_tOr ?_
  refine w_tCmp ?_
  refine w_callN ?_
  refine w_gB (v := .builtin "len") (ctx X3.F).now (by kernel_rfl) (by kernel_rfl) (by decide) ?_
  refine w_args ?_
  refine w_arg ?_
  refine w_nmC (c := L + 6) rfl c63 ?_
  refine w_arg0 ?_
  refine w_kw0 ⟨Kp.builtin _, ?_⟩
  refine w_lenList lR3.isList (by simp [slen]; lia) fun _ => ?_
  refine w_nmC (c := L + 4) rfl c43 ?_
  refine w_neInt ?_
  rw [show ((((sig wlt ring ring.length).map fun i => Value.ref (Tf i)).toArray.size : Nat) : Int) = ((ring.length : Nat) : Int) by simp [slen]]
  rw [show (((ring.length : Nat) : Int) == ((ring.length : Nat) : Int)) = true by simp]
  refine w_tBool ⟨fun e => (by cases e), fun _ => ?_⟩
  refine w_tOr ?_
  refine w_tCmp ?_
  refine w_lcI (cl := [(nRows, L + 6), (nOrder, L + 7)]) (by first | (with_reducible (first | exact im1 | exact im2 | exact im3 | exact sb0 | exact sb1 im1 | exact sb1 im2 | exact sb1 im3)) | exact nmc (adne (by decide)) nm0 | exact nmc (adne (by decide)) (nmc (adnn (by decide)) nm0) | simp) rfl rfl rfl rfl ?_
  refine w_callN ?_
  refine w_gB (v := .type "range") (ctx X3.F).now (by kernel_rfl) (by kernel_rfl) (by decide) ?_
  refine w_args ?_
  refine w_arg ?_
  refine w_nmC (c := L + 4) rfl c43 ?_
  refine w_arg0 ?_
  refine w_kw0 ⟨Kp.type _, ?_⟩
  refine w_range fun h4 r t1 t2 t3 hr e4 z4 ir => ?_
  refine ⟨ring.length, _, [], iterRange0 rfl ok.3 ir (by lia), by rw [sizeLine_eq]; lia, by simp, [], (fun b0 i ys h' => ys = []), by simp, ⟨fun b0 i ys h1' h2' hJ off => hJ, fun b0 => rfl, fun b0 C i v ys h' mm hiN hC hbb hv hJ kk hy ns => t_hide fun Qb hQb => ?_⟩, fun b0 ys D5 h5 hD hb5 l5 hy hJ k5 => ?_⟩
  · obtain ⟨tv, rfl⟩ := hv
    have hCh : h3.get? C = none := by
      cases q : h3.get? C with
      | none => rfl
      | some o => exact absurd (Heap.lt_size (e4 _ _ q)) (Nat.not_lt.mpr hC)
    refine w_asgName ?_
    refine w_store (env := compEnvC _ [(nRows, L + 6), (nOrder, L + 7)] C (lawE w L)) (m := mm) ns (fun h2' n2 sb2' => ?_) rfl rfl
    have kC : Kept [C] h' h2' := Kept.of_same sb2' (List.mem_singleton.mpr rfl)
    have e02 : Ext h3 h2' := fun b o e => kC b o (by simp only [List.mem_singleton]; intro q; subst q; rw [hCh] at e; cases e) (kk b o (by first | (with_reducible (first | exact im1 | exact im2 | exact im3 | exact sb0 | exact sb1 im1 | exact sb1 im2 | exact sb1 im3)) | exact nmc (adne (by decide)) nm0 | exact nmc (adne (by decide)) (nmc (adnn (by decide)) nm0) | simp) (e4 b o e))
    have hget : ((sig wlt ring ring.length).map fun i => Value.ref (Tf i))[i]? = some (.ref (Tf ((sig wlt ring ring.length).getD i 0))) := by
      have : i < (sig wlt ring ring.length).length := by lia
      simp [List.getD_eq_getElem?_getD, this]
    have hst : (sig wlt ring ring.length).getD i 0 < ring.length := by
      have hi' : i < (sig wlt ring ring.length).length := by lia
      have : (sig wlt ring ring.length).getD i 0 ∈ sig wlt ring ring.length := by simp [List.getD_eq_getElem?_getD, hi']
      exact growN_lt _ _ _ this
    have k13 : Kept [L, L + 7] h1 h2' := ((k2.mono (T := [L, L + 7]) (by first | (with_reducible (first | exact im1 | exact im2 | exact im3 | exact sb0 | exact sb1 im1 | exact sb1 im2 | exact sb1 im3)) | exact nmc (adne (by decide)) nm0 | exact nmc (adne (by decide)) (nmc (adnn (by decide)) nm0) | simp)).trans ((Kept.of_same (S := [L + 7]) sb3 (by first | (with_reducible (first | exact im1 | exact im2 | exact im3 | exact sb0 | exact sb1 im1 | exact sb1 im2 | exact sb1 im3)) | exact nmc (adne (by decide)) nm0 | exact nmc (adne (by decide)) (nmc (adnn (by decide)) nm0) | simp)).mono (T := [L, L + 7]) (by first | (with_reducible (first | exact im1 | exact im2 | exact im3 | exact sb0 | exact sb1 im1 | exact sb1 im2 | exact sb1 im3)) | exact nmc (adne (by decide)) nm0 | exact nmc (adne (by decide)) (nmc (adnn (by decide)) nm0) | simp))).trans (Kept.of_ext e02)
    have hTat := (hT1 _ hst).kept k13 (by
      intro s hs
      simp only [List.mem_cons, List.not_mem_nil, or_false, Addr] at *
      lia)
    obtain ⟨⟨ta, nn, lTa⟩, _, _⟩ := hTat
    refine TestElt.mk1 ?_
    refine w_tCmp ?_
    refine w_sub ?_
    refine w_nmC (c := L + 6) rfl (c63.keeps e02) ?_
    refine w_nm n2 (if_pos rfl) ?_
    refine w_itemL (IsList.ext lR3.isList e02) hget (by simp [slen, sizeLine_eq]; lia) ?_
    refine w_sub ?_
    refine w_nmC (c := L + 7) rfl (c73.keeps e02) ?_
    refine w_nm n2 (if_pos rfl) ?_
    refine w_itemL (IsList.ext lD3 e02) hget (by simp [slen, sizeLine_eq]; lia) ?_
    refine w_isNotRef lTa lTa (show Value.type "list" ≠ Value.type "tuple" by decide) ?_
    rw [decide_eq_true rfl]
    refine w_tBool ?_
    rw [if_neg (by decide)]
    exact hQb _ _ ⟨kC, ⟨_, n2⟩, hJ⟩
  · subst hJ
    have X5 := (X3.ext e4).ext (fun b o e => k5 b o (by first | (with_reducible (first | exact im1 | exact im2 | exact im3 | exact sb0 | exact sb1 im1 | exact sb1 im2 | exact sb1 im3)) | exact nmc (adne (by decide)) nm0 | exact nmc (adne (by decide)) (nmc (adnn (by decide)) nm0) | simp) e)
    refine w_list ?_
    refine w_arg0 ⟨by simp, fun h6 E6 hE6 e6 l6 z6 => ?_⟩
    refine w_neList (as := []) (bs := []) ⟨_, l5.ext e6, trivial⟩ ⟨_, l6, trivial⟩ rfl (by first | (with_reducible (first | exact im1 | exact im2 | exact im3 | exact sb0 | exact sb1 im1 | exact sb1 im2 | exact sb1 im3)) | exact nmc (adne (by decide)) nm0 | exact nmc (adne (by decide)) (nmc (adnn (by decide)) nm0) | simp) (by first | (with_reducible (first | exact im1 | exact im2 | exact im3 | exact sb0 | exact sb1 im1 | exact sb1 im2 | exact sb1 im3)) | exact nmc (adne (by decide)) nm0 | exact nmc (adne (by decide)) (nmc (adnn (by decide)) nm0) | simp) (by have := ok.units; rw [show cLine = 9900 from rfl] at *; lia) ?_
    rw [decide_eq_true rfl]
    refine w_tBool ⟨fun e => (by cases e), fun _ => w_tOr0 ⟨fun e => (by cases e), fun _ => w_nil ?_⟩⟩
    have X6 := X5.ext e6
    exact k h6 X6.F X6.K
end
end Mine
end
section
open PySem PySem.W PyProof.Rows PySem.Calls
set_option Elab.async false
set_option maxRecDepth 100000
set_option linter.unusedVariables false
set_option linter.unusedSimpArgs false
namespace Mine
abbrev nPage : Str := Str.ofString "page"
abbrev nReader : Str := Str.ofString "reader"
abbrev nHeard : Str := Str.ofString "heard"
def wc4 : List Nat := [13, 9, 32, 32]
def pageSeg (ring : List W) (i : Nat) : List Nat := wrt (lasts [] ring (sig wlt ring ring.length) i) (i % 3) ++ [wc4.getD (i % 4) 0] ++ [10]
def pageOf (ring : List W) : List Nat := ((List.range ring.length).map (pageSeg ring)).flatten
theorem sig_len (ring : List W) (k : Nat) : (sig wlt ring k).length = k := by have := (growN_perm (qR wlt ring) k).length_eq; rw [List.length_range] at this; exact this
theorem sig_lt (ring : List W) (k i : Nat) (h : i < k) : (sig wlt ring k).getD i 0 < k := by
  have hl := sig_len ring k
  have : (sig wlt ring k).getD i 0 ∈ sig wlt ring k := by simp [List.getD_eq_getElem?_getD, show i < (sig wlt ring k).length by lia]
  exact growN_lt _ _ _ this
theorem last_rot (ring : List W) (i : Nat) (h : i < ring.length) : ∃ x, (rot ring i)[ring.length - 1]? = some x ∧ lastD [] (rot ring i) = x ∧ x ∈ ring := by
  have hl := rot_len ring i (Nat.le_of_lt h)
  have hne : rot ring i ≠ [] := by intro q; rw [q] at hl; simp at hl; lia
  refine ⟨(rot ring i).getLast hne, ?_, ?_, ?_⟩
  · rw [List.getLast_eq_getElem]
    rw [List.getElem?_eq_getElem (by lia)]
    congr 2
    lia
  · simp [lastD, List.getLast?_eq_some_getLast hne]
  · have := List.getLast_mem hne
    unfold rot at this ⊢
    rcases List.mem_append.mp this with q | q
    · exact List.mem_of_mem_drop q
    · exact List.mem_of_mem_take q
theorem lasts_mem (ring : List W) (i : Nat) (h : i < ring.length) : lasts [] ring (sig wlt ring ring.length) i ∈ ring := by
  obtain ⟨x, _, e, m⟩ := last_rot ring _ (sig_lt ring _ i h)
  unfold lasts; rw [e]; exact m
theorem seg_len (ring : List W) (i : Nat) (h : i < ring.length) (hB : ∀ x ∈ ring, x.length ≤ 10) : (pageSeg ring i).length ≤ 24 := by
  have h1 := wrt_len (lasts [] ring (sig wlt ring ring.length) i) (i % 3)
  have h2 := hB _ (lasts_mem ring i h)
  unfold pageSeg
  simp; lia
section
variable {prog : Program} {w : World} {A : Around} {h base H : Heap} {mg mb : Str → Option Value} {L : Addr}
theorem mod_nat (i k : Nat) (hk : 0 < k) : ((i : Int)).fmod (k : Int) = ((i % k : Nat) : Int) := by
  rw [Int.fmod_eq_emod_of_nonneg _ (by lia)]; lia
set_option maxHeartbeats 4000000 in
theorem ph5a {n : Nat} {R : Addr} {Tf Kf : Nat → Addr} {lo hi : Addr} {ring : List W} {ts : Tok} {Q : Flow → Heap → Prop} {m : Str → Option Value} (GB : Gd w mg mb H base) (ok : OkA (n + 5) A) (F : Fr base L h m)
    (C0 : CodeHd H 98 tabS) (hb : H.BuiltinsAt mg tabS) (hP : H.get? tabS = none) (T : TabP H h tabS (placesS w)) (hPb : base.get? tabS = none) (hPL : tabS < L)
    (c4 : h.IsCell (L + 4) (some (.int (ring.length : Nat) ts))) (c6 : h.IsCell (L + 6) (some (.ref R))) (c8 : h.IsCell (L + 8) none) (c9 : h.IsCell (L + 9) none) (hcb : ∀ i, L < i → base.get? i = none) (hrz : ring.length ≤ 18) (hr0 : 2 ≤ ring.length) (hB : ∀ x ∈ ring, x.length ≤ 10)
    (lR : Ls h R ((sig wlt ring ring.length).map fun i => Value.ref (Tf i))) (hT : ∀ i, i < ring.length → TurnAt h (Tf i) (Kf i) i (rot ring i) lo hi) (hbb : L + 9 < lo ∧ hi ≤ R)
    (k : ∀ h' m' a HL SL, Fr base L h' m' → Kept [L, L + 8, tabS] h h' → LexC w H h' a (pageOf ring) → LexM h' a (pageOf ring) 0 [] → (∀ i ∈ a.all, i = a.c ∨ L + 9 < i) → (∀ i ∈ a.all, i ≠ HL ∧ i ≠ SL) → Ls h' HL [] → Ls h' SL [] → HL ≠ SL → L + 9 < HL → L + 9 < SL → h.get? HL = none → h.get? SL = none → h.get? a.d = none → h.get? a.pb = none → h.get? a.pl = none →
      h'.IsCell (L + 8) (some (.ref SL)) → (∃ ps, h'.get? tabS = some (tabObj ps)) → m' nReader = some (.ref a.x) → m' nHeard = some (.ref HL) → (∀ x, x ≠ nPage → x ≠ nReader → x ≠ nHeard → m' x = m x) → Wp (model prog w) A (execs ((lawB w).drop 21) (lawE w L)) Q h') :
    Wp (model prog w) A (execs ((lawB w).drop 17) (lawE w L)) Q h := by
  have ctx : ∀ {h' m'}, Fr base L h' m' → Gd w mg mb H h' := fun F' => GB.ext F'.keep
  have X : Fs base h [L, L + 8, tabS] L h m := Fs.mk0 F _
  have h9S : L + 9 ∉ [L, L + 8, tabS] := by simp only [List.mem_cons, List.not_mem_nil, or_false, not_or] at ⊢; lia
  have h9 : ∀ {h' m'}, Fs base h [L, L + 8, tabS] L h' m' → L + 9 < h'.objs.size := fun Y => by obtain ⟨o, e, _⟩ := c9; exact Heap.lt_size (Y.K _ _ h9S e)
  have hSH : ∀ i ∈ [tabS], H.get? i = none := by simpa using hP
  obtain ⟨hb1, hb2⟩ := hbb
  have slen := sig_len ring ring.length
  refine w_cons ?_
  refine w_asg ?_
  refine w_joinCall (by kernel_rfl) (by kernel_rfl) ?_
  refine w_lcI (cl := [(nRows, L + 6)]) (by first | (with_reducible (first | exact im1 | exact im2 | exact im3 | exact sb0 | exact sb1 im1 | exact sb1 im2 | exact sb1 im3)) | exact nmc (adne (by decide)) nm0 | exact nmc (adne (by decide)) (nmc (adnn (by decide)) nm0) | simp) rfl rfl rfl rfl ?_
  refine w_callN ?_
  refine w_gB (v := .type "range") (ctx F).now (by kernel_rfl) (by kernel_rfl) (by decide) ?_
  refine w_args ?_
  refine w_arg ?_
  refine w_nmC (c := L + 4) rfl c4 ?_
  refine w_arg0 ?_
  refine w_kw0 ⟨Kp.type _, ?_⟩
  refine w_range fun h1 r t1 t2 t3 hr e1 z1 ir => ?_
  refine ⟨ring.length, _, [], iterRange0 rfl ok.3 ir (by lia), by rw [sizeLine_eq]; lia, by simp, [], (fun b0 i ys h' => Strs ys ((List.range i).map (pageSeg ring))), by simp, ⟨fun b0 i ys h1' h2' hJ off => hJ, fun b0 => trivial, fun b0 C i v ys h' mm hiN hC hbC hv hJ kk hy ns => t_hide fun Qb hQb => ?_⟩, fun b0 ys D2 h2 hD hb2' l2 hy hJ k2 => ?_⟩
  · obtain ⟨tv, rfl⟩ := hv
    have hCh : h.get? C = none := by
      cases q : h.get? C with
      | none => rfl
      | some o => exact absurd (Heap.lt_size (e1 _ _ q)) (Nat.not_lt.mpr hC)
    refine w_asgName ?_
    refine w_store (env := compEnvC _ [(nRows, L + 6)] C (lawE w L)) (m := mm) ns (fun h2' n2 sb2' => ?_) rfl rfl
    have kC : Kept [C] h' h2' := Kept.of_same sb2' (List.mem_singleton.mpr rfl)
    have e02 : Ext h h2' := fun b o e => kC b o (by simp only [List.mem_singleton]; intro q; subst q; rw [hCh] at e; cases e) (kk b o (by first | (with_reducible (first | exact im1 | exact im2 | exact im3 | exact sb0 | exact sb1 im1 | exact sb1 im2 | exact sb1 im3)) | exact nmc (adne (by decide)) nm0 | exact nmc (adne (by decide)) (nmc (adnn (by decide)) nm0) | simp) (e1 b o e))
    have hst := sig_lt ring ring.length i hiN
    have hget : ((sig wlt ring ring.length).map fun i => Value.ref (Tf i))[i]? = some (.ref (Tf ((sig wlt ring ring.length).getD i 0))) := by
      have : i < (sig wlt ring ring.length).length := by lia
      simp [List.getD_eq_getElem?_getD, this]
    have G2 := (ctx F).ext e02
    obtain ⟨⟨ta, lTa⟩, ⟨kv, lK, atK⟩, _⟩ := (hT _ hst).kept (Kept.of_ext (S := []) e02) (by first | (with_reducible (first | exact im1 | exact im2 | exact im3 | exact sb0 | exact sb1 im1 | exact sb1 im2 | exact sb1 im3)) | exact nmc (adne (by decide)) nm0 | exact nmc (adne (by decide)) (nmc (adnn (by decide)) nm0) | simp)
    obtain ⟨x, hx1, hx2, hx3⟩ := last_rot ring _ hst
    have hlx : lasts [] ring (sig wlt ring ring.length) i = x := hx2
    obtain ⟨tx, htx⟩ := atK.strs.get hx1
    have hkl : kv.length = ring.length := by rw [atK.strs.length, rot_len ring _ (Nat.le_of_lt hst)]
    have hxB := hB x hx3
    show Wp _ _ _ _ _
    refine w_binOp ?_
    refine w_binOp ?_
    refine w_callN ?_
    refine w_gK G2.now (v := .ref aWr) (by kernel_rfl) ?_
    refine w_args ?_
    refine w_arg ?_
    refine w_sub ?_
    refine w_sub ?_
    refine w_sub ?_
    refine w_nmC (c := L + 6) rfl (c6.keeps e02) ?_
    refine w_nm n2 (if_pos rfl) ?_
    refine w_itemL (IsList.ext lR.isList e02) hget (by simp [slen, sizeLine_eq]; lia) ?_
    refine w_cInt fun _ => ?_
    refine w_itemL (j := 0) lTa.isList rfl (by simp [sizeLine_eq]) ?_
    refine w_neg ?_
    refine w_cInt fun _ => ⟨_, _, rfl, fun _ => ?_⟩
    refine w_itemI (j := ring.length - 1) lK.isList (.inr (by rw [hkl]; lia)) (by lia) htx (by rw [hkl, sizeLine_eq]; lia) ?_
    refine w_arg ?_
    refine w_binOp ?_
    refine w_nm n2 (if_pos rfl) ?_
    refine w_cInt fun _ => ?_
    refine w_modInt (by decide) fun _ => ?_
    rw [show ((i : Int)).fmod 3 = ((i % 3 : Nat) : Int) from mod_nat i 3 (by decide)]
    refine w_arg0 ?_
    refine w_kw0 ⟨kpFn aWr G2.now (by kernel_rfl) (by kernel_rfl), ?_⟩
    refine w_call (wr_call (n := n + 4) G2 ok (by lia) (fun h3' t3 e3 => ?_))
    have hw1 := wrt_len x (i % 3)
    have hm4 : i % 4 < 4 := Nat.mod_lt _ (by decide)
    have hwc : wc4[i % 4]? = some (wc4.getD (i % 4) 0) := by
      have : i % 4 < wc4.length := by simpa [wc4] using hm4
      simp [List.getD_eq_getElem?_getD, this]
    refine w_sub ?_
    refine w_cS [13, 9, 32, 32] (by kernel_rfl) fun _ => ?_
    refine w_binOp ?_
    refine w_nm (n2.keeps e3) (if_pos rfl) ?_
    refine w_cInt fun _ => ?_
    refine w_modInt (by decide) fun _ => ?_
    rw [show ((i : Int)).fmod 4 = ((i % 4 : Nat) : Int) from mod_nat i 4 (by decide)]
    refine w_itemStr (i := i % 4) (c := wc4.getD (i % 4) 0) hwc (by simp [sizeLine_eq]) (fun _ => ?_)
    refine w_addStr (fun _ => ?_) (by rw [sizeLine_eq]; simp; lia)
    refine w_cS [10] (by kernel_rfl) fun _ => ?_
    refine w_addStr (fun t5 => ?_) (by rw [sizeLine_eq]; simp; lia)
    refine hQb _ _ ⟨kC.trans (Kept.of_ext e3), ⟨_, n2.keeps e3⟩, ?_⟩
    show Strs _ ((List.range (i + 1)).map (pageSeg ring))
    rw [List.range_succ, List.map_append]
    refine hJ.append ⟨⟨t5, ?_⟩, trivial⟩
    unfold pageSeg
    rw [hlx]
  · have X2 := (X.ext e1).ext (fun b o e => k2 b o (by first | (with_reducible (first | exact im1 | exact im2 | exact im3 | exact sb0 | exact sb1 im1 | exact sb1 im2 | exact sb1 im3)) | exact nmc (adne (by decide)) nm0 | exact nmc (adne (by decide)) (nmc (adnn (by decide)) nm0) | simp) e)
    have hpl : (pageOf ring).length ≤ 18 * 24 := by
      have := flat_le (B := 24) ((List.range ring.length).map (pageSeg ring)) (fun y hy => by obtain ⟨i, hi, rfl⟩ := List.mem_map.mp hy; exact seg_len ring i (List.mem_range.mp hi) hB)
      simp only [List.length_map, List.length_range] at this
      unfold pageOf
      have h2 := Nat.mul_le_mul_right 24 hrz
      lia
    refine ⟨D2, ys, _, 24, rfl, l2.isList, hJ, fun y hy => ?_, ?_, fun t6 => ?_⟩
    · obtain ⟨i, hi, rfl⟩ := List.mem_map.mp hy; exact seg_len ring i (List.mem_range.mp hi) hB
    · simp; lia
    refine w_stF X2 fun h3 X3 sb3 => ?_
    have T2 : TabP H h2 tabS (placesS w) := T.ext (fun b o e => k2 b o (by first | (with_reducible (first | exact im1 | exact im2 | exact im3 | exact sb0 | exact sb1 im1 | exact sb1 im2 | exact sb1 im3)) | exact nmc (adne (by decide)) nm0 | exact nmc (adne (by decide)) (nmc (adnn (by decide)) nm0) | simp) (e1 b o e))
    have T3 : TabP H h3 tabS (placesS w) := T2.kept (Kept.of_same (S := [L]) sb3 (by first | (with_reducible (first | exact im1 | exact im2 | exact im3 | exact sb0 | exact sb1 im1 | exact sb1 im2 | exact sb1 im3)) | exact nmc (adne (by decide)) nm0 | exact nmc (adne (by decide)) (nmc (adnn (by decide)) nm0) | simp)) (by simp only [List.mem_singleton]; exact Nat.ne_of_lt hPL) (by
      intro i hi o vs ho hv
      simp only [List.mem_singleton] at hi
      subst hi
      obtain ⟨o', e', hd⟩ := ns_data X2.ns
      rw [ho] at e'; cases e'; exact hd _ hv)
    have c83 : h3.IsCell (L + 8) none := by
      obtain ⟨o, e, r⟩ := c8
      exact ⟨o, (sb3.2 _ (by first | (with_reducible (first | exact im1 | exact im2 | exact im3 | exact sb0 | exact sb1 im1 | exact sb1 im2 | exact sb1 im3)) | exact nmc (adne (by decide)) nm0 | exact nmc (adne (by decide)) (nmc (adnn (by decide)) nm0) | simp)).trans (k2 _ _ (by first | (with_reducible (first | exact im1 | exact im2 | exact im3 | exact sb0 | exact sb1 im1 | exact sb1 im2 | exact sb1 im3)) | exact nmc (adne (by decide)) nm0 | exact nmc (adne (by decide)) (nmc (adnn (by decide)) nm0) | simp) (e1 _ _ e)), r⟩
    refine w_cons ?_
    refine w_asg ?_
    refine w_newLexer (n := n + 2) (text := pageOf ring) rfl ok (Nat.le_trans hpl (by decide)) C0 hb hP (fun h' kk => (ctx X3.F).kept kk hSH) T3 ?_
    refine w_nm X3.ns rfl ⟨t6, rfl, Ext.refl _, fun h4 a C4 M4 hfr k4 T4 => ?_⟩
    have X4 := X3.kept (T := [tabS]) k4 (by simpa using hPb) (by simp only [List.mem_singleton]; exact Nat.ne_of_gt hPL) (by first | (with_reducible (first | exact im1 | exact im2 | exact im3 | exact sb0 | exact sb1 im1 | exact sb1 im2 | exact sb1 im3)) | exact nmc (adne (by decide)) nm0 | exact nmc (adne (by decide)) (nmc (adnn (by decide)) nm0) | simp)
    have h93 := h9 X3
    have hL3 : L < h3.objs.size := X3.ns.lt
    have hPlt : tabS < h3.objs.size := Nat.lt_trans hPL hL3
    have h8lt : L + 8 < h3.objs.size := by obtain ⟨o, e, _⟩ := c83; exact Heap.lt_size e
    have c84 : h4.IsCell (L + 8) none := IsCell.kept c83 k4 (by simp only [List.mem_singleton] at ⊢; lia)
    have hap : ∀ i ∈ a.all, i ∉ [L, L + 8] := lex_apart C4 hfr (by
      intro s hs
      simp only [List.mem_cons, List.not_mem_nil, or_false] at hs
      rcases hs with rfl | rfl
      · exact ⟨hL3, ns_data X4.ns⟩
      · exact ⟨h8lt, cell_data c84⟩)
    have lt4 := lex_lt C4 M4
    obtain ⟨nd, nb, nl⟩ := lex_mut_ne C4 hfr
    refine w_stF X4 fun h5 X5 sb5 => ?_
    have nL : ∀ i ∈ a.all, i ∉ [L] := fun i hi => by have := hap i hi; simp only [List.mem_cons, List.not_mem_nil, or_false, not_or] at this; simpa using this.1
    have C5 := C4.keptBut (Kept.of_same (S := [L]) sb5 (by first | (with_reducible (first | exact im1 | exact im2 | exact im3 | exact sb0 | exact sb1 im1 | exact sb1 im2 | exact sb1 im3)) | exact nmc (adne (by decide)) nm0 | exact nmc (adne (by decide)) (nmc (adnn (by decide)) nm0) | simp)) nL
    have M5 := M4.keptBut (Kept.of_same (S := [L]) sb5 (by first | (with_reducible (first | exact im1 | exact im2 | exact im3 | exact sb0 | exact sb1 im1 | exact sb1 im2 | exact sb1 im3)) | exact nmc (adne (by decide)) nm0 | exact nmc (adne (by decide)) (nmc (adnn (by decide)) nm0) | simp)) nL
    have c85 : h5.IsCell (L + 8) none := IsCell.kept c84 (Kept.of_same (S := [L]) sb5 (by first | (with_reducible (first | exact im1 | exact im2 | exact im3 | exact sb0 | exact sb1 im1 | exact sb1 im2 | exact sb1 im3)) | exact nmc (adne (by decide)) nm0 | exact nmc (adne (by decide)) (nmc (adnn (by decide)) nm0) | simp)) (by first | (with_reducible (first | exact im1 | exact im2 | exact im3 | exact sb0 | exact sb1 im1 | exact sb1 im2 | exact sb1 im3)) | exact nmc (adne (by decide)) nm0 | exact nmc (adne (by decide)) (nmc (adnn (by decide)) nm0) | simp)
    have z5 : h5.objs.size = h4.objs.size := sb5.1
    refine w_cons ?_
    refine w_asg ?_
    refine w_list ?_
    refine w_arg0 ⟨by simp, fun h6 HL hHL e6 l6 z6 => ?_⟩
    have X6 := X5.ext e6
    have hHLL : HL ≠ L := by rw [hHL]; exact Nat.ne_of_gt X5.ns.lt
    refine w_stF X6 fun h7 X7 sb7 => ?_
    have z7 : h7.objs.size = h6.objs.size := sb7.1
    have l7 := l6.same sb7 hHLL
    have C7 := (C5.ext e6).keptBut (Kept.of_same (S := [L]) sb7 (by first | (with_reducible (first | exact im1 | exact im2 | exact im3 | exact sb0 | exact sb1 im1 | exact sb1 im2 | exact sb1 im3)) | exact nmc (adne (by decide)) nm0 | exact nmc (adne (by decide)) (nmc (adnn (by decide)) nm0) | simp)) nL
    have M7 := (M5.ext e6).keptBut (Kept.of_same (S := [L]) sb7 (by first | (with_reducible (first | exact im1 | exact im2 | exact im3 | exact sb0 | exact sb1 im1 | exact sb1 im2 | exact sb1 im3)) | exact nmc (adne (by decide)) nm0 | exact nmc (adne (by decide)) (nmc (adnn (by decide)) nm0) | simp)) nL
    have c87 : h7.IsCell (L + 8) none := IsCell.kept (c85.keeps e6) (Kept.of_same (S := [L]) sb7 (by first | (with_reducible (first | exact im1 | exact im2 | exact im3 | exact sb0 | exact sb1 im1 | exact sb1 im2 | exact sb1 im3)) | exact nmc (adne (by decide)) nm0 | exact nmc (adne (by decide)) (nmc (adnn (by decide)) nm0) | simp)) (by first | (with_reducible (first | exact im1 | exact im2 | exact im3 | exact sb0 | exact sb1 im1 | exact sb1 im2 | exact sb1 im3)) | exact nmc (adne (by decide)) nm0 | exact nmc (adne (by decide)) (nmc (adnn (by decide)) nm0) | simp)
    refine w_cons ?_
    refine w_asg ?_
    refine w_list ?_
    refine w_arg0 ⟨by simp, fun h8 SL hSL e8 l8 z8 => ?_⟩
    have X8 := X7.ext e8
    have h87 := h9 X7
    have h85 := h9 X5
    have hSL8 : SL ≠ L + 8 := by rw [hSL]; lia
    have hHL8 : HL ≠ L + 8 := by rw [hHL]; lia
    refine w_storeC (c := L + 8) rfl (c87.keeps e8) (fun h9' c89 sb9 => ?_)
    have n8 : ∀ i ∈ a.all, i ∉ [L + 8] := fun i hi => by have := hap i hi; simp only [List.mem_cons, List.not_mem_nil, or_false, not_or] at this; simpa using this.2
    have X9 := X8.kept (T := [L + 8]) (Kept.of_same sb9 (by first | (with_reducible (first | exact im1 | exact im2 | exact im3 | exact sb0 | exact sb1 im1 | exact sb1 im2 | exact sb1 im3)) | exact nmc (adne (by decide)) nm0 | exact nmc (adne (by decide)) (nmc (adnn (by decide)) nm0) | simp)) (List.forall_mem_singleton.mpr (hcb _ (by lia))) (by first | (with_reducible (first | exact im1 | exact im2 | exact im3 | exact sb0 | exact sb1 im1 | exact sb1 im2 | exact sb1 im3)) | exact nmc (adne (by decide)) nm0 | exact nmc (adne (by decide)) (nmc (adnn (by decide)) nm0) | simp) (by first | (with_reducible (first | exact im1 | exact im2 | exact im3 | exact sb0 | exact sb1 im1 | exact sb1 im2 | exact sb1 im3)) | exact nmc (adne (by decide)) nm0 | exact nmc (adne (by decide)) (nmc (adnn (by decide)) nm0) | simp)
    have C9 := (C7.ext e8).keptBut (Kept.of_same (S := [L + 8]) sb9 (by first | (with_reducible (first | exact im1 | exact im2 | exact im3 | exact sb0 | exact sb1 im1 | exact sb1 im2 | exact sb1 im3)) | exact nmc (adne (by decide)) nm0 | exact nmc (adne (by decide)) (nmc (adnn (by decide)) nm0) | simp)) n8
    have M9 := (M7.ext e8).keptBut (Kept.of_same (S := [L + 8]) sb9 (by first | (with_reducible (first | exact im1 | exact im2 | exact im3 | exact sb0 | exact sb1 im1 | exact sb1 im2 | exact sb1 im3)) | exact nmc (adne (by decide)) nm0 | exact nmc (adne (by decide)) (nmc (adnn (by decide)) nm0) | simp)) n8
    have lts5 : ∀ i ∈ a.all, i < h5.objs.size := lex_lt C5 M5
    have lts7 : ∀ i ∈ a.all, i < h7.objs.size := lex_lt C7 M7
    have none0 : ∀ i, h3.objs.size ≤ i → h.get? i = none := fun i hi => by
      cases q : h.get? i with
      | none => rfl
      | some o =>
        exfalso
        by_cases hS : i ∈ [L, L + 8, tabS]
        · simp only [List.mem_cons, List.not_mem_nil, or_false] at hS
          rcases hS with rfl | rfl | rfl
          · exact Nat.not_lt.mpr hi hL3
          · exact Nat.not_lt.mpr hi h8lt
          · exact Nat.not_lt.mpr hi hPlt
        · exact Nat.not_lt.mpr hi (Heap.lt_size (X3.K i o hS q))
    have s34 : h3.objs.size ≤ HL := by
      have := lts5 a.d a.m_d
      rw [← hHL] at this
      exact Nat.le_of_lt (Nat.lt_of_le_of_lt nd this)
    have s38 : h3.objs.size ≤ SL := by
      have := lts7 a.d a.m_d
      rw [← hSL] at this
      exact Nat.le_of_lt (Nat.lt_of_le_of_lt nd this)
    refine k h9' _ a HL SL X9.F X9.K C9 M9 (fun i hi => (hfr i hi).imp id fun q => Nat.lt_of_lt_of_le h93 q) (fun i hi => ⟨by rw [hHL]; exact Nat.ne_of_lt (lts5 i hi), by rw [hSL]; exact Nat.ne_of_lt (lts7 i hi)⟩) ((l7.ext e8).same sb9 hHL8) (l8.same sb9 hSL8) ?_ (Nat.lt_of_lt_of_le h93 s34) (Nat.lt_of_lt_of_le h93 s38) (none0 _ s34) (none0 _ s38) (none0 _ nd) (none0 _ nb) (none0 _ nl) c89 ?_ rfl rfl (fun x h1 h2 h3 => by
      simp only [h1, h2, h3, if_false])
    · rw [hSL]
      exact Nat.ne_of_lt l7.lt
    · obtain ⟨ps, e, _⟩ := T4
      exact ⟨ps, (sb9.2 _ (by lia)).trans (e8 _ _ ((sb7.2 _ (Nat.ne_of_lt hPL)).trans (e6 _ _ ((sb5.2 _ (Nat.ne_of_lt hPL)).trans e))))⟩
end
end Mine
end
section
open PySem PySem.W PyProof.Rows PySem.Calls
set_option Elab.async false
set_option maxRecDepth 100000
set_option linter.unusedVariables false
set_option linter.unusedSimpArgs false
namespace Mine
abbrev nUs : Str := Str.ofString "_"
theorem cmp_str1 {prog : Program} {w : World} {h : Heap} {n : Nat} {x y : W} {t u : Tok} : CmpLt n prog w h (.str (S x) t) (.str (S y) u) (wlt x y) := fun A h' Q ok e k => w_ltStr (k h' (Ext.refl _))
/-- the lists of words heard -/
def HeardAt (h : Heap) (L0 : Nat → W) (b0 : Addr) (hs : List Addr) (i : Nat) : Prop := hs.length = i ∧ ∀ k, k < i → ∃ ak, hs[k]? = some ak ∧ LA h ak [.s (L0 k), .i ((k + 1 : Nat) : Int)] ∧ b0 ≤ ak
theorem HeardAt.kept {h h' : Heap} {L0 : Nat → W} {b0 : Addr} {hs : List Addr} {i : Nat} {S : List Addr} (x : HeardAt h L0 b0 hs i) (k : Kept S h h') (hS : ∀ s ∈ S, s < b0) : HeardAt h' L0 b0 hs i :=
  ⟨x.1, fun j hj => let ⟨ak, e, l, b⟩ := x.2 j hj; ⟨ak, e, l.kept k (fun m => absurd (hS _ m) (Nat.not_lt.mpr b)), b⟩⟩
theorem spt_len (L0 : Nat → W) (k : Nat) : (spt wlt L0 k).length = k := by have := (growN_perm (qS wlt L0) k).length_eq; rw [List.length_range] at this; exact this
theorem HeardAt.rows {h : Heap} {L0 : Nat → W} {b0 SL : Addr} {hs : List Addr} {i j : Nat} (x : HeardAt h L0 b0 hs i) (hj : j ≤ i) (l : Ls h SL ((spt wlt L0 j).map fun k => Value.ref (hs.getD k 0))) :
    RowsL h SL ((spt wlt L0 j).map fun k => hs.getD k 0) ((spt wlt L0 j).map L0) ((spt wlt L0 j).map (· + 1)) := by
  refine ⟨by rw [List.map_map]; exact l, by simp, by simp, fun q a wd r e1 e2 e3 => ?_⟩
  simp only [List.getElem?_map, Option.map_eq_some_iff] at e1 e2 e3
  obtain ⟨k, ek, rfl⟩ := e1
  obtain ⟨k', ek', rfl⟩ := e2
  obtain ⟨k'', ek'', rfl⟩ := e3
  rw [ek] at ek' ek''
  cases ek'; cases ek''
  have hk : k < j := growN_lt _ j k (List.mem_of_getElem? ek)
  obtain ⟨ak, e, la, _⟩ := x.2 k (by lia)
  have : hs.getD k 0 = ak := by simp [List.getD_eq_getElem?_getD, e]
  rw [this]; exact la
section
variable {prog : Program} {w : World} {A : Around} {h base H : Heap} {mg mb : Str → Option Value} {L : Addr}
set_option maxHeartbeats 4000000 in
theorem ph5b {n : Nat} {N : Nat} {L0 : Nat → W} {a : LexA} {HL SL : Addr} {page : List Nat} {ts : Tok} {Q : Flow → Heap → Prop} {m : Str → Option Value} (GB : Gd w mg mb H base) (ok : OkA (n + 5) A) (F : Fr base L h m)
    (C : LexC w H h a page) (M : LexM h a page 0 []) (hfr : ∀ i ∈ a.all, i = a.c ∨ L + 9 < i) (hne : ∀ i ∈ a.all, i ≠ HL ∧ i ≠ SL) (lH : Ls h HL []) (lS : Ls h SL []) (hHS : HL ≠ SL) (hH9 : L + 9 < HL) (hS9 : L + 9 < SL)
    (c4 : h.IsCell (L + 4) (some (.int (N : Nat) ts))) (c8 : h.IsCell (L + 8) (some (.ref SL))) (c9 : h.IsCell (L + 9) none) (mr : m nReader = some (.ref a.x)) (mh : m nHeard = some (.ref HL)) (hcb : ∀ i, L < i → base.get? i = none) (hN : N ≤ 18) (hN0 : 0 < N)
    (htok : ∀ i, i < N → tokT page i = L0 i ∧ (remT page (i + 1)).count 10 = N - i) (hcnt : page.count 10 = N) (hend : tokT page N = []) (hrem : remT page (N + 1) = [])
    (k : ∀ h' m' hs b0, Fr base L h' m' → Kept [L, HL, SL, a.d, a.pb, a.pl] h h' → HeardAt h' L0 b0 hs N → L + 9 < b0 → Ls h' HL (hs.map Value.ref) → Ls h' SL ((spt wlt L0 N).map fun k => Value.ref (hs.getD k 0)) → (∀ x, x ≠ nUs → m' x = m x) → Wp (model prog w) A (execs ((lawB w).drop 23) (lawE w L)) Q h') :
    Wp (model prog w) A (execs ((lawB w).drop 21) (lawE w L)) Q h := by
  have ctx : ∀ {h' m'}, Fr base L h' m' → Gd w mg mb H h' := fun F' => GB.ext F'.keep
  have lt0 := lex_lt C M
  have hL0 : L < h.objs.size := F.ns.lt
  have h9 : L + 9 < h.objs.size := by obtain ⟨o, e, _⟩ := c9; exact Heap.lt_size e
  obtain ⟨nd, nb, nl⟩ := lex_mut_ne (n0 := L + 10) C (fun i hi => (hfr i hi).imp id fun q => q)
  have memd : a.d ∈ a.all := a.m_d
  have memb : a.pb ∈ a.all := a.m_pb
  have meml : a.pl ∈ a.all := a.m_pl
  have hapL : ∀ i ∈ a.all, i ∉ [L] := fun i hi => lex_apart (n0 := L + 1) (S := [L]) C (fun i hi => (hfr i hi).imp id fun q => Nat.le_trans (Nat.add_le_add_left (by decide) L) (Nat.le_of_lt q)) (by
    intro s hs
    simp only [List.mem_singleton] at hs
    rw [hs]
    exact ⟨Nat.lt_succ_self _, ns_data F.ns⟩) i hi
  have hSH : ∀ i ∈ [a.d, a.pl], base.get? i = none := by
    simp only [List.mem_cons, List.not_mem_nil, or_false, forall_eq_or_imp, forall_eq]
    exact ⟨hcb _ (Nat.lt_of_lt_of_le (Nat.lt_add_of_pos_right (by decide)) nd), hcb _ (Nat.lt_of_lt_of_le (Nat.lt_add_of_pos_right (by decide)) nl)⟩
  have lenz := C.len
  refine w_cons ?_
  refine w_for ?_
  refine w_callN ?_
  refine w_gB (v := .type "range") (ctx F).now (by kernel_rfl) (by kernel_rfl) (by decide) ?_
  refine w_args ?_
  refine w_arg ?_
  refine w_nmC (c := L + 4) rfl c4 ?_
  refine w_arg0 ?_
  refine w_kw0 ⟨Kp.type _, ?_⟩
  refine w_range fun h1 r t1 t2 t3 hr e1 z1 ir => ?_
  have F1 := F.kept e1
  have TT : ∀ b ∈ [L, HL, SL, a.d, a.pb, a.pl], b < h1.objs.size := by
    rw [z1]
    simp only [List.mem_cons, List.not_mem_nil, or_false, forall_eq_or_imp, forall_eq]
    exact ⟨Nat.lt_succ_of_lt hL0, Nat.lt_succ_of_lt lH.lt, Nat.lt_succ_of_lt lS.lt, Nat.lt_succ_of_lt (lt0 _ memd), Nat.lt_succ_of_lt (lt0 _ memb), Nat.lt_succ_of_lt (lt0 _ meml)⟩
  have TT' := TT
  simp only [List.mem_cons, List.not_mem_nil, or_false, forall_eq_or_imp, forall_eq] at TT'
  obtain ⟨tL, tH, tS, td, tb, tl⟩ := TT'
  refine w_forI (iterRange0 rfl ok.3 ir (by lia)) [L, HL, SL, a.d, a.pb, a.pl] (fun b hb => ⟨TT b hb, by simp⟩)
    (fun b0 i h' => ∃ m' p hs, (0 < i → h1.objs.size ≤ b0) ∧ Fr base L h' m' ∧ (∀ x, x ≠ nUs → m' x = m x) ∧ LexM h' a page p [] ∧ page.drop p = remT page i ∧ HeardAt h' L0 b0 hs i ∧ Ls h' HL (hs.map Value.ref) ∧ Ls h' SL ((spt wlt L0 i).map fun k => Value.ref (hs.getD k 0)))
    (fun b0 i h1' h2' hJo off => by obtain ⟨m', p, hs, lb, F', e, M', ed, hh, l1, l2⟩ := hJo; exact ⟨m', p, hs, lb, frOff F' off tL, e, M'.off off td tb tl, ed, ⟨hh.1, fun j hj => let ⟨ak, e, l, b⟩ := hh.2 j hj; ⟨ak, e, l.off off (.inr b), b⟩⟩, l1.off off (.inl tH), l2.off off (.inl tS)⟩)
    (fun b0 => ⟨m, 0, [], fun q => absurd q (Nat.lt_irrefl _), F1, fun _ _ => rfl, M.ext e1, rfl, ⟨rfl, fun k hk => absurd hk (Nat.not_lt_zero _)⟩, lH.ext e1, lS.ext e1⟩) (fun b0 i v h5 hi hlv hP hJ k5 => w_hide fun Qb hQb => ?_) (fun b0 h5 hJ k5 => ?_)
  · obtain ⟨m5, p5, hs, lb5, F5, em5, M5, hd5, hh5, lH5, lS5⟩ := hJ
    have X5 : Fs base h5 [L, HL, SL, a.d, a.pb, a.pl] L h5 m5 := Fs.mk0 F5 _
    have C5 : LexC w H h5 a page := (C.ext e1).keptX k5 (fun i hi hs => by
      simp only [List.mem_cons, List.not_mem_nil, or_false] at hs
      rcases hs with q | q | q | q | q | q
      · exact absurd (by simp [q]) (hapL i hi)
      · exact absurd q (hne i hi).1
      · exact absurd q (hne i hi).2
      · simp [q, LexA.mut]
      · simp [q, LexA.mut]
      · simp [q, LexA.mut])
    obtain ⟨tv, rfl⟩ := hP
    have hHL : HL ≠ L := by lia
    have hSL : SL ≠ L := by lia
    have hlt0 : ∀ s ∈ [L, HL, SL, a.d, a.pb, a.pl], s < h1.objs.size := TT
    have b0h : h1.objs.size ≤ b0 := live_n0 hlv
    refine w_asgName ?_
    refine w_stF X5 fun h6 X6 sb6 => ?_
    have C6 := C5.keptBut (Kept.of_same (S := [L]) sb6 (by first | (with_reducible (first | exact im1 | exact im2 | exact im3 | exact sb0 | exact sb1 im1 | exact sb1 im2 | exact sb1 im3)) | exact nmc (adne (by decide)) nm0 | exact nmc (adne (by decide)) (nmc (adnn (by decide)) nm0) | simp)) hapL
    have M6 := M5.keptBut (Kept.of_same (S := [L]) sb6 (by first | (with_reducible (first | exact im1 | exact im2 | exact im3 | exact sb0 | exact sb1 im1 | exact sb1 im2 | exact sb1 im3)) | exact nmc (adne (by decide)) nm0 | exact nmc (adne (by decide)) (nmc (adnn (by decide)) nm0) | simp)) hapL
    have lH6 := lH5.same sb6 hHL
    have lS6 := lS5.same sb6 hSL
    generalize hm6 : (fun z => if z = nUs then some (Value.int (i : Nat) tv) else m5 z) = m6 at X6
    have m6r : m6 nReader = some (.ref a.x) := by rw [← hm6]; exact (em5 nReader (by decide)).trans mr
    have m6h : m6 nHeard = some (.ref HL) := by rw [← hm6]; exact (em5 nHeard (by decide)).trans mh
    have m6o : ∀ x, x ≠ nUs → m6 x = m x := fun x hx => by rw [← hm6]; exact (if_neg hx).trans (em5 x hx)
    refine w_cons ?_
    refine w_expr ?_
    refine w_meth PySem.F.plainAttrs_list PySem.F.slot_list_append PySem.F.type_list_append ?_
    refine w_nm X6.ns m6h ⟨lH6.ty, ?_, ?_⟩
    · intro a e; injection e with e; subst e; obtain ⟨nn, e⟩ := lH6; exact ⟨_, e, rfl⟩
    refine w_args ?_
    refine w_arg ?_
    refine w_list ?_
    refine w_arg ?_
    refine w_getTok (n := n + 1) (ctx X6.F) ok C6 M6 (fun Q' q => w_nm X6.ns m6r q) (fun h7 t7 p7 M7 ed7 k7 => ?_)
    rw [hd5] at ed7
    rw [hd5]
    have ht7 : (lexT (remT page i)).1 = L0 i := (htok i hi).1
    rw [ht7]
    have hr7 : page.drop p7 = remT page (i + 1) := ed7
    have X7 := X6.kept k7 hSH (by
      simp only [List.mem_cons, List.not_mem_nil, or_false, not_or]
      exact ⟨fun q => hapL a.d memd (by simp [q]), fun q => hapL a.pl meml (by simp [q])⟩) (by
      simp only [List.mem_cons, List.not_mem_nil, or_false]
      rintro b (q | q) <;> simp [q])
    have C7 := C6.kept (k7.mono (by first | exact LexA.s_nil _ | exact LexA.s_pb _ | exact LexA.s_dl _ | exact LexA.s_pl _ | simp [LexA.mut]))
    have lH7 := lsKept lH6 k7 (by simp only [List.mem_cons, List.not_mem_nil, or_false, not_or]; exact ⟨fun q => (hne _ memd).1 q.symm, fun q => (hne _ meml).1 q.symm⟩)
    have lS7 := lsKept lS6 k7 (by simp only [List.mem_cons, List.not_mem_nil, or_false, not_or]; exact ⟨fun q => (hne _ memd).2 q.symm, fun q => (hne _ meml).2 q.symm⟩)
    have hc7 : (page.take p7).count 10 = i := by
      have h1 := (htok i hi).2
      have h2 := List.take_append_drop p7 page
      have h3 := congrArg (List.count 10) h2
      rw [List.count_append, hr7, h1, hcnt] at h3
      lia
    obtain ⟨t71, t72, d7⟩ := M7.d
    rw [hc7] at d7
    refine w_arg ?_
    refine w_attr ?_
    refine w_nm X7.ns m6r ?_
    refine w_getOwn (ctx X7.F).now.K C7.ix d7 (pgC w _) (hdC w) (fiLine w) rfl rfl ?_
    refine w_arg0 ⟨by simp [sizeLine_eq], fun h8 ak hak e8 l8 z8 => ?_⟩
    refine w_arg0 ?_
    refine w_kw0 ⟨Kp.builtin _, ?_⟩
    have hhl : (hs.map Value.ref).length = i := by rw [List.length_map]; exact hh5.1
    refine w_append (lH7.ext e8) (by rw [hhl, sizeLine_eq]; lia) (fun h9 l9 sb9 => ⟨fun a e => (by cases e), ?_⟩)
    have hkb : b0 ≤ ak := by rw [hak]; exact live_le hlv X7.K hlt0
    have hakS : ak ∉ [L, HL, SL, a.d, a.pb, a.pl] := fun q => absurd (hlt0 _ q) (Nat.not_lt.mpr (Nat.le_trans b0h hkb))
    have hakH : ak ≠ HL := fun q => hakS (by simp [q])
    have X8 := X7.ext e8
    have X9 := X8.kept (T := [HL]) (Kept.of_same sb9 (by first | (with_reducible (first | exact im1 | exact im2 | exact im3 | exact sb0 | exact sb1 im1 | exact sb1 im2 | exact sb1 im3)) | exact nmc (adne (by decide)) nm0 | exact nmc (adne (by decide)) (nmc (adnn (by decide)) nm0) | simp)) (List.forall_mem_singleton.mpr (hcb _ (by lia))) (by simpa using hHL.symm) (by first | (with_reducible (first | exact im1 | exact im2 | exact im3 | exact sb0 | exact sb1 im1 | exact sb1 im2 | exact sb1 im3)) | exact nmc (adne (by decide)) nm0 | exact nmc (adne (by decide)) (nmc (adnn (by decide)) nm0) | simp)
    have nH : ∀ i ∈ a.all, i ∉ [HL] := fun i hi => by simpa using (hne i hi).1
    have nS : ∀ i ∈ a.all, i ∉ [SL] := fun i hi => by simpa using (hne i hi).2
    have M9 := (M7.ext e8).keptBut (Kept.of_same (S := [HL]) sb9 (by first | (with_reducible (first | exact im1 | exact im2 | exact im3 | exact sb0 | exact sb1 im1 | exact sb1 im2 | exact sb1 im3)) | exact nmc (adne (by decide)) nm0 | exact nmc (adne (by decide)) (nmc (adnn (by decide)) nm0) | simp)) nH
    have l8a : Ls h9 ak _ := l8.same sb9 hakH
    have lS9 := (lS7.ext e8).same sb9 hHS.symm
    have hS0 : ∀ s ∈ [L, HL, SL, a.d, a.pb, a.pl], s < b0 := fun s hs => Nat.lt_of_lt_of_le (hlt0 s hs) b0h
    have hh9 : HeardAt h9 L0 b0 (hs ++ [ak]) (i + 1) := by
      have y := hh5.kept X9.K hS0
      refine ⟨by simp [y.1], fun k hk => ?_⟩
      by_cases q : k < i
      · obtain ⟨a', e, r⟩ := y.2 k q
        exact ⟨a', by rw [List.getElem?_append_left (by rw [y.1]; exact q)]; exact e, r⟩
      · have : k = i := by lia
        subst this
        refine ⟨ak, by rw [List.getElem?_append_right (by rw [y.1]; exact Nat.le_refl _), y.1]; simp, ⟨_, l8a, ⟨_, rfl⟩, ⟨t71, ?_⟩, trivial⟩, hkb⟩
        rw [Nat.add_comm]
    have slt : ∀ j ∈ spt wlt L0 i, j < i := growN_lt _ i
    have slen := spt_len L0 i
    have scut := spt_cut wlt_lin L0 i
    have hgk : ∀ j, j < i → (hs ++ [ak]).getD j 0 = hs.getD j 0 := fun j hj => by
      rw [List.getD_eq_getElem?_getD, List.getD_eq_getElem?_getD, List.getElem?_append_left (by rw [hh5.1]; exact hj)]
    have hgi : (hs ++ [ak]).getD i 0 = ak := by
      rw [List.getD_eq_getElem?_getD, List.getElem?_append_right (by rw [hh5.1]; exact Nat.le_refl _), hh5.1]; simp
    have hmapk : ((spt wlt L0 i).map fun k => Value.ref (hs.getD k 0)) = (spt wlt L0 i).map fun k => Value.ref ((hs ++ [ak]).getD k 0) := List.map_congr_left fun j hj => by rw [hgk j (slt j hj)]
    rw [hmapk] at lS9
    have RL := hh9.rows (j := i) (Nat.le_succ _) lS9
    obtain ⟨k0, k1, hk0, hk1, hkk⟩ := RL.keys
    obtain ⟨v0, u0, lak, ⟨tv0, rfl⟩, _⟩ := (show LA h9 ak [.s (L0 i), .i ((i + 1 : Nat) : Int)] from ⟨_, l8a, ⟨_, rfl⟩, ⟨t71, by rw [Nat.add_comm]⟩, trivial⟩).two
    have c89 : h9.IsCell (L + 8) (some (.ref SL)) := IsCell.kept (c8.keeps e1) (k5.trans X9.K) (by
      intro q
      simp only [List.mem_cons, List.not_mem_nil, or_false] at q
      lia)
    have G9 := ctx X9.F
    refine w_cons ?_
    refine w_if_ ?_
    refine w_tCmp ?_
    refine w_callN ?_
    refine w_gK G9.now (v := .ref aIR) (by kernel_rfl) ?_
    refine w_args ?_
    refine w_arg ?_
    refine w_nmC (c := L + 8) rfl c89 ?_
    refine w_arg ?_
    refine w_sub ?_
    refine w_nm X9.ns m6h ?_
    refine w_neg ?_
    refine w_cInt fun _ => ⟨_, _, rfl, fun _ => ?_⟩
    refine w_itemI (j := i) (x := .ref ak) l9.isList (.inr (by simp [hh5.1]; lia)) (by lia) (by rw [List.getElem?_append_right (by rw [hhl]; exact Nat.le_refl _), hhl]; simp) (by simp [hh5.1, sizeLine_eq]; lia) ?_
    refine w_arg0 ?_
    refine w_kw ?_
    refine w_gK G9.now (v := .ref aFi) (by kernel_rfl) ?_
    refine w_kw0 ⟨kpFn aIR G9.now (by kernel_rfl) (by kernel_rfl), ?_⟩
    refine ir_call (n := n + 3) (ks := k0) (kx := .str (S (L0 i)) tv0) (lo := 0) (hi := i) (r := (spt wlt L0 i).countP (qS wlt L0 i)) (less := fun j => wlt (L0 i) (L0 ((spt wlt L0 i).getD j 0))) G9.now ok lS9 (by rw [List.length_map, slen, sizeLine_eq]; lia) (ir_b2k w _ _ _) (.inl ⟨rfl, by simp [slen]⟩) (Nat.zero_le _) ?_ (by simp [slen]) ?_ ?_ ?_ ?_ ?_ (fun h10 l10 k10 => ?_)
    · have := List.countP_le_length (p := qS wlt L0 i) (l := spt wlt L0 i); lia
    · refine .inr ⟨⟨_, rfl⟩, kpFn aFi G9.now (by kernel_rfl) (by kernel_rfl), by rw [hk0]; simp, fun j v kv e1' e2' => ?_⟩
      simp only [List.getElem?_map, Option.map_eq_some_iff] at e1'
      obtain ⟨b, eb, rfl⟩ := e1'
      obtain ⟨v, u, t1', t2', f1, f2, f3, f4, f5⟩ := hkk j ((hs ++ [ak]).getD b 0) (by simp [eb])
      rw [f1] at e2'; cases e2'
      exact fi_key G9 f3.isList (by first | (with_reducible (first | exact im1 | exact im2 | exact im3 | exact sb0 | exact sb1 im1 | exact sb1 im2 | exact sb1 im3)) | exact nmc (adne (by decide)) nm0 | exact nmc (adne (by decide)) (nmc (adnn (by decide)) nm0) | simp)
    · exact .inr ⟨⟨_, rfl⟩, kpFn aFi G9.now (by kernel_rfl) (by kernel_rfl), fi_key G9 lak.isList (by first | (with_reducible (first | exact im1 | exact im2 | exact im3 | exact sb0 | exact sb1 im1 | exact sb1 im2 | exact sb1 im3)) | exact nmc (adne (by decide)) nm0 | exact nmc (adne (by decide)) (nmc (adnn (by decide)) nm0) | simp)⟩
    · intro j _ hj
      have hjl : j < (spt wlt L0 i).length := Nat.lt_of_lt_of_le hj List.countP_le_length
      have := (scut j hjl).mp hj
      simpa [List.getD_eq_getElem?_getD, hjl] using this
    · intro j hj1 hj2
      have hjl : j < (spt wlt L0 i).length := by lia
      have := (scut j hjl)
      cases q : wlt (L0 i) (L0 (spt wlt L0 i)[j]) with
      | false => have := this.mpr q; lia
      | true => simpa [List.getD_eq_getElem?_getD, hjl] using q
    · intro j v e1'
      have hj : j < (spt wlt L0 i).length := by
        rcases Nat.lt_or_ge j k0.length with q | q
        · simpa [hk0] using q
        · rw [List.getElem?_eq_none q] at e1'; cases e1'
      obtain ⟨v, u, t1', t2', f1, f2, f3, f4, f5⟩ := hkk j ((hs ++ [ak]).getD (spt wlt L0 i)[j] 0) (by simp [hj])
      rw [f1] at e1'; cases e1'
      subst f4
      have e3 : ((spt wlt L0 i).map L0).getD j [] = L0 ((spt wlt L0 i).getD j 0) := by simp [List.getD_eq_getElem?_getD, hj]
      rw [e3]
      exact cmp_str1
    have k10' : Kept [SL] h9 h10 := fun b o nb eb => k10 b o (by simpa using nb) eb
    have X10 := X9.kept k10' (List.forall_mem_singleton.mpr (hcb _ (by lia))) (by simpa using hSL.symm) (by first | (with_reducible (first | exact im1 | exact im2 | exact im3 | exact sb0 | exact sb1 im1 | exact sb1 im2 | exact sb1 im3)) | exact nmc (adne (by decide)) nm0 | exact nmc (adne (by decide)) (nmc (adnn (by decide)) nm0) | simp)
    refine w_cNone ?_
    refine w_isNotNone rfl ?_
    refine w_tBool ⟨fun e => (by cases e), fun _ => w_nil (w_nil (hQb _ _ ⟨X10.K, m6, p7, hs ++ [ak], fun _ => b0h, X10.F, m6o, M9.keptBut k10' nS, hr7, hh9.kept k10' (fun s hs => hS0 s (by simp only [List.mem_singleton] at hs; simp [hs])), ?_, ?_⟩))⟩
    · rw [List.map_append]; exact lsKept l9 k10' (by simpa using hHS)
    · rw [← List.map_take, ← List.map_drop] at l10
      have : (spt wlt L0 (i + 1)).map (fun j => Value.ref ((hs ++ [ak]).getD j 0)) = (List.take ((spt wlt L0 i).countP (qS wlt L0 i)) (spt wlt L0 i)).map (fun j => Value.ref ((hs ++ [ak]).getD j 0)) ++ Value.ref ak :: (List.drop ((spt wlt L0 i).countP (qS wlt L0 i)) (spt wlt L0 i)).map (fun j => Value.ref ((hs ++ [ak]).getD j 0)) := by
        show (insAt (spt wlt L0 i) _ i).map _ = _
        unfold insAt
        rw [List.map_append, List.map_cons, hgi]
        rfl
      rw [this]
      exact l10
  · obtain ⟨m5, p5, hs, lb5, F5, em5, M5, hd5, hh5, lH5, lS5⟩ := hJ
    have X5 : Fs base h5 [L, HL, SL, a.d, a.pb, a.pl] L h5 m5 := Fs.mk0 F5 _
    have C5 : LexC w H h5 a page := (C.ext e1).keptX k5 (fun i hi hs => by
      simp only [List.mem_cons, List.not_mem_nil, or_false] at hs
      rcases hs with q | q | q | q | q | q
      · exact absurd (by simp [q]) (hapL i hi)
      · exact absurd q (hne i hi).1
      · exact absurd q (hne i hi).2
      · simp [q, LexA.mut]
      · simp [q, LexA.mut]
      · simp [q, LexA.mut])
    have m5r : m5 nReader = some (.ref a.x) := (em5 nReader (by decide)).trans mr
    refine w_nil ?_
    refine w_cons ?_
    refine w_if_ ?_
    refine w_tOr ?_
    refine w_tCmp ?_
    refine w_getTok (n := n + 1) (ctx X5.F) ok C5 M5 (fun Q' q => w_nm X5.ns m5r q) (fun h7 t7 p7 M7 ed7 k7 => ?_)
    rw [hd5] at ed7
    rw [hd5]
    have ht7 : (lexT (remT page N)).1 = [] := hend
    rw [ht7]
    have hr7 : page.drop p7 = [] := ed7.trans hrem
    have X7 := X5.kept k7 hSH (by
      simp only [List.mem_cons, List.not_mem_nil, or_false, not_or]
      exact ⟨fun q => hapL a.d memd (by simp [q]), fun q => hapL a.pl meml (by simp [q])⟩) (by
      simp only [List.mem_cons, List.not_mem_nil, or_false]
      rintro b (q | q) <;> simp [q])
    have C7 := C5.kept (k7.mono (by first | exact LexA.s_nil _ | exact LexA.s_pb _ | exact LexA.s_dl _ | exact LexA.s_pl _ | simp [LexA.mut]))
    have lH7 := lsKept lH5 k7 (by simp only [List.mem_cons, List.not_mem_nil, or_false, not_or]; exact ⟨fun q => (hne _ memd).1 q.symm, fun q => (hne _ meml).1 q.symm⟩)
    have lS7 := lsKept lS5 k7 (by simp only [List.mem_cons, List.not_mem_nil, or_false, not_or]; exact ⟨fun q => (hne _ memd).2 q.symm, fun q => (hne _ meml).2 q.symm⟩)
    obtain ⟨t71, t72, d7⟩ := M7.d
    have hpl : p7 = page.length := by
      have h2 := M7.le
      have h3 := congrArg List.length hr7
      simp at h3; lia
    rw [hpl, List.take_length, hcnt] at d7
    refine w_cS [] (by kernel_rfl) fun _ => ?_
    refine w_neStr ?_
    rw [decide_eq_true rfl]
    refine w_tBool ⟨fun e => (by cases e), fun _ => ?_⟩
    refine w_tOr ?_
    refine w_tCmp ?_
    refine w_attr ?_
    refine w_nm X7.ns m5r ?_
    refine w_getOwn (ctx X7.F).now.K C7.ix d7 (pgC w _) (hdC w) (fiLine w) rfl rfl ?_
    have lb : h1.objs.size ≤ b0 := lb5 hN0
    have hS0 : ∀ s ∈ [L, HL, SL, a.d, a.pb, a.pl], s < b0 := fun s hs => Nat.lt_of_lt_of_le (TT s hs) lb
    have K7 := (Kept.of_ext (S := [L, HL, SL, a.d, a.pb, a.pl]) e1).trans (k5.trans X7.K)
    have c47 : h7.IsCell (L + 4) (some (.int (N : Nat) ts)) := IsCell.kept c4 K7 (by simp only [List.mem_cons, List.not_mem_nil, or_false, not_or] at ⊢; lia)
    refine w_binOp ?_
    refine w_nmC (c := L + 4) rfl c47 ?_
    refine w_cInt fun _ => ?_
    refine w_addInt fun _ => ?_
    refine w_neInt ?_
    rw [show (((1 + N : Nat) : Int) == ((N : Nat) : Int) + 1) = true by simp; lia]
    refine w_tBool ⟨fun e => (by cases e), fun _ => w_tOr0 ⟨fun e => (by cases e), fun _ => w_nil ?_⟩⟩
    exact k h7 m5 hs b0 X7.F K7 (hh5.kept X7.K hS0) (by lia) lH7 lS7 em5
end
end Mine
end
section
set_option linter.unusedVariables false
set_option linter.unusedSimpArgs false
set_option linter.unusedSectionVars false
namespace Mine
section
variable {α : Type} [DecidableEq α] {lt : α → α → Bool} (d : α) {ring : List α} {σ τ : List Nat}
theorem Bwt.row0 (B : Bwt d lt ring σ τ) (h0 : 0 < ring.length) : ∃ p, p < ring.length ∧ σ.getD p 0 = 0 := by
  have : 0 ∈ σ := B.σp.mem_iff.mpr (List.mem_range.mpr h0)
  obtain ⟨p, hp, e⟩ := List.getElem_of_mem this
  exact ⟨p, by rw [← B.slen]; exact hp, by simp [List.getD_eq_getElem?_getD, hp, e]⟩
theorem rot_zero (ring : List α) : rot ring 0 = ring := by simp [rot]
/-- the ring's own place among the rows -/
def homeOf (lt : α → α → Bool) (ring : List α) (σ : List Nat) : Nat := σ.countP fun i => lx lt (rot ring i) ring
theorem Bwt.home_iff (B : Bwt d lt ring σ τ) (T : Lin lt) {j : Nat} (hj : j < ring.length) : j < homeOf lt ring σ ↔ lx lt (Rw ring σ j) ring = true := by
  have hs := B.slen
  have := cut_iff (fun i => lx lt (rot ring i) ring) σ (B.σs.imp fun {a b} h hb => (lx_lin T).lelt h hb) j (by lia)
  unfold homeOf
  rw [this]
  simp [Rw, List.getD_eq_getElem?_getD, show j < σ.length by lia]
theorem Bwt.home (B : Bwt d lt ring σ τ) (T : Lin lt) (h0 : 0 < ring.length) : homeOf lt ring σ < ring.length ∧ Rw ring σ (homeOf lt ring σ) = ring := by
  obtain ⟨p, hp, e⟩ := B.row0 d h0
  have hRp : Rw ring σ p = ring := by unfold Rw; rw [e, rot_zero]
  have hle : homeOf lt ring σ ≤ p := by
    rcases Nat.lt_or_ge p (homeOf lt ring σ) with q | q
    · have := (B.home_iff d T hp).mp q; rw [hRp, (lx_lin T).irr] at this; cases this
    · exact q
  have hlt : homeOf lt ring σ < ring.length := by lia
  refine ⟨hlt, ?_⟩
  refine (lx_lin T).tri _ _ ?_ ?_
  · cases h : lx lt (Rw ring σ (homeOf lt ring σ)) ring with
    | false => rfl
    | true => have := (B.home_iff d T hlt).mpr h; lia
  · have := B.mono d T hle hp; rwa [hRp] at this
/-- the words told from the ring's own place on -/
theorem Bwt.told (B : Bwt d lt ring σ τ) (T : Lin lt) {i : Nat} (hi : i < ring.length) : ring[i]? = some (lastD d (rot ring (σ.getD (τ.getD (iter (tau τ) i (homeOf lt ring σ)) 0) 0))) := by
  have h0 : 0 < ring.length := by lia
  obtain ⟨h1, h2⟩ := B.home d T h0
  have h3 := B.last d T (B.iter_lt d h1 i)
  have h4 := B.iter_row d T h1 i
  rw [h2] at h4
  have h5 := iter_rl_rot ring i (Nat.le_of_lt hi)
  rw [rot_zero] at h5
  rw [h4, h5] at h3
  show _ = some (lastD d (Rw ring σ (τ.getD (iter (tau τ) i (homeOf lt ring σ)) 0)))
  rw [h3]
  unfold rot
  rw [List.drop_eq_getElem_cons hi]
  simp [hi]
/-- a spot's place -/
theorem Bwt.place (B : Bwt d lt ring σ τ) {p : Nat} (hp : p < ring.length) : ∃ s, s < ring.length ∧ τ.getD s 0 = p := by
  have : p ∈ τ := B.τp.mem_iff.mpr (List.mem_range.mpr hp)
  obtain ⟨s, hs, e⟩ := List.getElem_of_mem this
  exact ⟨s, by rw [← B.tlen]; exact hs, by simp [List.getD_eq_getElem?_getD, hs, e]⟩
/-- the spots lie in order by word and row -/
theorem Bwt.spot_lt (B : Bwt d lt ring σ τ) (T : Lin lt) {j s p : Nat} (hj : j < ring.length) (hs : s < ring.length) (e : τ.getD s 0 = p) :
    (if lastD d (Rw ring σ (τ.getD j 0)) = lastD d (Rw ring σ p) then decide (τ.getD j 0 < p) else lt (lastD d (Rw ring σ (τ.getD j 0))) (lastD d (Rw ring σ p))) = decide (j < s) := by
  have ht := B.tlen
  have ej : τ.getD j 0 = τ[j]'(by lia) := by simp [List.getD_eq_getElem?_getD, show j < τ.length by lia]
  have es : p = τ[s]'(by lia) := by rw [← e]; simp [List.getD_eq_getElem?_getD, show s < τ.length by lia]
  rcases Nat.lt_trichotomy j s with q | q | q
  · have ps := List.pairwise_iff_getElem.mp B.τs j s (by lia) (by lia) q
    rw [← ej, ← es] at ps
    rw [decide_eq_true q]
    split
    · rename_i e1; exact decide_eq_true (ps.2 e1)
    · rename_i e1
      cases h : lt (lastD d (Rw ring σ (τ.getD j 0))) (lastD d (Rw ring σ p)) with
      | true => rfl
      | false => exact absurd (T.tri _ _ h ps.1) e1
  · subst q
    rw [e]
    simp
  · have ps := List.pairwise_iff_getElem.mp B.τs s j (by lia) (by lia) q
    rw [← ej, ← es] at ps
    rw [show decide (j < s) = false from decide_eq_false (by lia)]
    split
    · rename_i e1; exact decide_eq_false (by have := ps.2 e1.symm; lia)
    · exact ps.1
theorem Bwt.spot_gt (B : Bwt d lt ring σ τ) (T : Lin lt) {j s p : Nat} (hj : j < ring.length) (hs : s < ring.length) (e : τ.getD s 0 = p) :
    (if lastD d (Rw ring σ p) = lastD d (Rw ring σ (τ.getD j 0)) then decide (p < τ.getD j 0 + 1) else lt (lastD d (Rw ring σ p)) (lastD d (Rw ring σ (τ.getD j 0)))) = decide (s ≤ j) := by
  have ht := B.tlen
  have ej : τ.getD j 0 = τ[j]'(by lia) := by simp [List.getD_eq_getElem?_getD, show j < τ.length by lia]
  have es : p = τ[s]'(by lia) := by rw [← e]; simp [List.getD_eq_getElem?_getD, show s < τ.length by lia]
  rcases Nat.lt_trichotomy j s with q | q | q
  · have ps := List.pairwise_iff_getElem.mp B.τs j s (by lia) (by lia) q
    rw [← ej, ← es] at ps
    rw [show decide (s ≤ j) = false from decide_eq_false (by lia)]
    split
    · rename_i e1; exact decide_eq_false (by have := ps.2 e1.symm; lia)
    · exact ps.1
  · subst q
    rw [e]
    simp
  · have ps := List.pairwise_iff_getElem.mp B.τs s j (by lia) (by lia) q
    rw [← ej, ← es] at ps
    rw [show decide (s ≤ j) = true from decide_eq_true (by lia)]
    split
    · rename_i e1; exact decide_eq_true (by have := ps.2 e1; lia)
    · rename_i e1
      cases h : lt (lastD d (Rw ring σ p)) (lastD d (Rw ring σ (τ.getD j 0))) with
      | true => rfl
      | false => exact absurd (T.tri _ _ h ps.1) e1
/-- back: the spot of the row leads to the row that begins one word sooner -/
theorem Bwt.back (B : Bwt d lt ring σ τ) (T : Lin lt) {s p i : Nat} (hs : s < ring.length) (e : τ.getD s 0 = p) (hi : i < ring.length) (h : Rw ring σ p = rot ring (i + 1)) : Rw ring σ s = rot ring i ∧ some (lastD d (Rw ring σ p)) = ring[i]? := by
  have h1 := B.lf d T hs
  rw [e, h] at h1
  have h2 : rr (rot ring (i + 1)) = rr (rl (Rw ring σ s)) := by rw [h1]
  rw [rr_rl, rr_rot ring i hi] at h2
  refine ⟨h2.symm, ?_⟩
  rw [h]
  unfold rot
  rw [List.take_add_one, List.getElem?_eq_getElem hi]
  show some (lastD d (ring.drop (i + 1) ++ (ring.take i ++ [ring[i]]))) = _
  rw [← List.append_assoc, lastD_append]
end
end Mine
end
section
open PySem PySem.W PyProof.Rows PySem.Calls
set_option Elab.async false
set_option maxRecDepth 100000
set_option linter.unusedVariables false
set_option linter.unusedSimpArgs false
namespace Mine
abbrev nHome : Str := Str.ofString "home"
abbrev nTold : Str := Str.ofString "told"
abbrev wL0 (ring : List W) : Nat → W := lasts [] ring (sig wlt ring ring.length)
abbrev wT (ring : List W) : List Nat := spt wlt (wL0 ring) ring.length
abbrev wB (ring : List W) : Bwt [] wlt ring (sig wlt ring ring.length) (wT ring) := bwt_grown [] ring wlt_lin
abbrev wHome (ring : List W) : Nat := homeOf wlt ring (sig wlt ring ring.length)
theorem HeardAt.get {h : Heap} {L0 : Nat → W} {b0 : Addr} {hs : List Addr} {i k : Nat} (x : HeardAt h L0 b0 hs i) (hk : k < i) : LA h (hs.getD k 0) [.s (L0 k), .i ((k + 1 : Nat) : Int)] ∧ b0 ≤ hs.getD k 0 := by
  obtain ⟨ak, e, la, b⟩ := x.2 k hk
  have : hs.getD k 0 = ak := by simp [List.getD_eq_getElem?_getD, e]
  rw [this]; exact ⟨la, b⟩
section
variable {prog : Program} {w : World} {A : Around} {h base H : Heap} {mg mb : Str → Option Value} {L : Addr}
set_option maxHeartbeats 4000000 in
theorem ph6 {n : Nat} {R rg SL b0 lo hi : Addr} {rys : List Value} {hs : List Addr} {Tf Kf : Nat → Addr} {ring : List W} {ts : Tok} {Q : Flow → Heap → Prop} {m : Str → Option Value} (GB : Gd w mg mb H base) (ok : OkA (n + 5) A) (F : Fr base L h m)
    (c3 : h.IsCell (L + 3) (some (.ref rg))) (c4 : h.IsCell (L + 4) (some (.int (ring.length : Nat) ts))) (c6 : h.IsCell (L + 6) (some (.ref R))) (c8 : h.IsCell (L + 8) (some (.ref SL))) (hcb : ∀ i, L < i → base.get? i = none)
    (lr : Ls h rg rys) (sr : Strs rys ring) (hokr : ∀ x ∈ ring, okW x = true) (hN : ring.length ≤ 18) (hN0 : 2 ≤ ring.length)
    (lR : Ls h R ((sig wlt ring ring.length).map fun i => Value.ref (Tf i))) (hT : ∀ i, i < ring.length → TurnAt h (Tf i) (Kf i) i (rot ring i) lo hi)
    (hH : HeardAt h (wL0 ring) b0 hs ring.length) (lS : Ls h SL ((wT ring).map fun k => Value.ref (hs.getD k 0))) (hL : rg ≠ L ∧ R ≠ L ∧ SL ≠ L) (hb0 : L < b0) (hlo : L < lo)
    (k : ∀ h' m', Fr base L h' m' → Kept [L] h h' → (∃ t, m' nHome = some (.int (wHome ring : Nat) t)) → (∀ x, x ≠ nHome → x ≠ nTold → x ≠ nSpot → x ≠ nUs → m' x = m x) → Wp (model prog w) A (execs ((lawB w).drop 28) (lawE w L)) Q h') :
    Wp (model prog w) A (execs ((lawB w).drop 23) (lawE w L)) Q h := by
  have ctx : ∀ {h' m'}, Fr base L h' m' → Gd w mg mb H h' := fun F' => GB.ext F'.keep
  have X : Fs base h [L] L h m := Fs.mk0 F _
  have slen := sig_len ring ring.length
  have tlen := spt_len (wL0 ring) ring.length
  obtain ⟨hh1, hh2⟩ := (wB ring).home [] wlt_lin (by lia)
  have hiff := fun j hj => (wB ring).home_iff [] wlt_lin (j := j) hj
  refine w_cons ?_
  refine w_asg ?_
  refine w_callN ?_
  refine w_gK (ctx F).now (v := .ref aBL) (by kernel_rfl) ?_
  refine w_args ?_
  refine w_arg ?_
  refine w_nmC (c := L + 6) rfl c6 ?_
  refine w_arg ?_
  refine w_nmC (c := L + 3) rfl c3 ?_
  refine w_arg0 ?_
  refine w_kw ?_
  refine w_gK (ctx F).now (v := .ref aFi) (by kernel_rfl) ?_
  refine w_kw0 ⟨kpFn aBL (ctx F).now (by kernel_rfl) (by kernel_rfl), ?_⟩
  refine bl_call (n := n + 4) (ks := (sig wlt ring ring.length).map fun j => Value.ref (Kf j)) (lo := 0) (hi := ring.length) (r := wHome ring) (less := fun j => lx wlt (rot ring ((sig wlt ring ring.length).getD j 0)) ring) (ctx F).now ok lR.isList (by simp [slen]; lia) (bl_b2k w _ _ _) (.inl ⟨rfl, by simp [slen]⟩) (Nat.zero_le _) (Nat.le_of_lt hh1) (by simp [slen]) ?_ ?_ ?_ ?_ (fun h1 t1 e1 => ?_)
  · refine .inr ⟨⟨_, rfl⟩, kpFn aFi (ctx F).now (by kernel_rfl) (by kernel_rfl), by simp, fun j v kv e1' e2' => ?_⟩
    simp only [List.getElem?_map, Option.map_eq_some_iff] at e1' e2'
    obtain ⟨a, ea, rfl⟩ := e1'
    obtain ⟨a', ea', rfl⟩ := e2'
    rw [ea] at ea'; cases ea'
    obtain ⟨⟨ta, lTa⟩, lKa, _⟩ := hT a (growN_lt _ _ _ (List.mem_of_getElem? ea))
    exact fi_key (ctx F) lTa.isList (by first | (with_reducible (first | exact im1 | exact im2 | exact im3 | exact sb0 | exact sb1 im1 | exact sb1 im2 | exact sb1 im3)) | exact nmc (adne (by decide)) nm0 | exact nmc (adne (by decide)) (nmc (adnn (by decide)) nm0) | simp)
  · intro j _ hj
    exact (hiff j (Nat.lt_trans hj hh1)).mp hj
  · intro j hj1 hj2
    cases q : lx wlt (rot ring ((sig wlt ring ring.length).getD j 0)) ring with
    | false => rfl
    | true => exact absurd ((hiff j hj2).mpr q) (Nat.not_lt.mpr hj1)
  · intro j v e1'
    simp only [List.getElem?_map, Option.map_eq_some_iff] at e1'
    obtain ⟨a, ea, rfl⟩ := e1'
    obtain ⟨⟨ta, lTa⟩, lKa, _⟩ := hT a (growN_lt _ _ _ (List.mem_of_getElem? ea))
    have e3 : (sig wlt ring ring.length).getD j 0 = a := by simp [List.getD_eq_getElem?_getD, ea]
    show CmpLt _ _ _ _ _ _ (lx wlt (rot ring ((sig wlt ring ring.length).getD j 0)) ring)
    rw [e3]
    exact cmp_strs lKa (Strs.LA lr sr)
  have X1 := X.ext e1
  refine w_stF X1 fun h2 X2 sb2 => ?_
  refine w_cons ?_
  refine w_asg ?_
  refine w_list ?_
  refine w_arg0 ⟨by simp, fun h3 tl htl e3 l3 z3 => ?_⟩
  have X3 := X2.ext e3
  have htlL : tl ≠ L := by rw [htl]; exact Nat.ne_of_gt X2.ns.lt
  have hLtl : L < tl := by rw [htl]; exact X2.ns.lt
  refine w_stF X3 fun h4 X4 sb4 => ?_
  have l4 := l3.same sb4 htlL
  have c84 : h4.IsCell (L + 8) (some (.ref SL)) := IsCell.kept c8 X4.K (by first | (with_reducible (first | exact im1 | exact im2 | exact im3 | exact sb0 | exact sb1 im1 | exact sb1 im2 | exact sb1 im3)) | exact nmc (adne (by decide)) nm0 | exact nmc (adne (by decide)) (nmc (adnn (by decide)) nm0) | simp)
  have c44 : h4.IsCell (L + 4) (some (.int (ring.length : Nat) ts)) := IsCell.kept c4 X4.K (by first | (with_reducible (first | exact im1 | exact im2 | exact im3 | exact sb0 | exact sb1 im1 | exact sb1 im2 | exact sb1 im3)) | exact nmc (adne (by decide)) nm0 | exact nmc (adne (by decide)) (nmc (adnn (by decide)) nm0) | simp)
  have lS4 := lsKept lS X4.K (by simpa using hL.2.2)
  have hsp : ∀ j, j < ring.length → ((wT ring).map fun k => Value.ref (hs.getD k 0))[j]? = some (.ref (hs.getD ((wT ring).getD j 0) 0)) := fun j hj => by
    simp [List.getElem?_map, List.getD_eq_getElem?_getD, tlen, hj]
  have htlt : ∀ j, j < ring.length → (wT ring).getD j 0 < ring.length := fun j hj => (wB ring).tlt [] hj
  refine w_cons ?_
  refine w_asg ?_
  refine w_sub ?_
  refine w_nmC (c := L + 8) rfl c84 ?_
  refine w_nm X4.ns rfl ?_
  refine w_itemL (j := wHome ring) lS4.isList (hsp _ hh1) (by simp [tlen, sizeLine_eq]; lia) ?_
  refine w_stF X4 fun h5 X5 sb5 => ?_
  have l5 := l4.same sb5 htlL
  have c45 : h5.IsCell (L + 4) (some (.int (ring.length : Nat) ts)) := IsCell.kept c4 X5.K (by first | (with_reducible (first | exact im1 | exact im2 | exact im3 | exact sb0 | exact sb1 im1 | exact sb1 im2 | exact sb1 im3)) | exact nmc (adne (by decide)) nm0 | exact nmc (adne (by decide)) (nmc (adnn (by decide)) nm0) | simp)
  refine w_cons ?_
  refine w_for ?_
  refine w_callN ?_
  refine w_gB (v := .type "range") (ctx X5.F).now (by kernel_rfl) (by kernel_rfl) (by decide) ?_
  refine w_args ?_
  refine w_arg ?_
  refine w_nmC (c := L + 4) rfl c45 ?_
  refine w_arg0 ?_
  refine w_kw0 ⟨Kp.type _, ?_⟩
  refine w_range fun h6 r t11 t12 t13 hr e6 z6 ir => ?_
  have X6 := X5.ext e6
  have l6 := l5.ext e6
  generalize hm6 : (fun z => if z = nSpot then some (Value.ref (hs.getD ((wT ring).getD (wHome ring) 0) 0)) else if z = nTold then some (Value.ref tl) else if z = nHome then some (Value.int (wHome ring : Nat) t1) else m z) = m6 at X6
  have m6s : m6 nSpot = some (Value.ref (hs.getD ((wT ring).getD (wHome ring) 0) 0)) := by rw [← hm6]; rfl
  have m6t : m6 nTold = some (Value.ref tl) := by rw [← hm6]; rfl
  have m6h : m6 nHome = some (Value.int (wHome ring : Nat) t1) := by rw [← hm6]; rfl
  have m6o : ∀ x, x ≠ nHome → x ≠ nTold → x ≠ nSpot → m6 x = m x := fun x a b c => by rw [← hm6]; simp only [a, b, c, if_false]
  have L6 : L < h6.objs.size := X6.ns.lt
  have tl6 := l6.lt
  refine w_forI (iterRange0 rfl ok.3 ir (by lia)) [L, tl] (by
      simp only [List.mem_cons, List.not_mem_nil, or_false, not_false_eq_true, and_true]
      rintro b (q | q)
      · rw [q]; exact L6
      · rw [q]; exact tl6)
    (fun b0' i h' => ∃ m' tys, Fr base L h' m' ∧ m' nTold = some (.ref tl) ∧ m' nSpot = some (.ref (hs.getD ((wT ring).getD (iter (tau (wT ring)) i (wHome ring)) 0) 0)) ∧ (∀ x, x ≠ nSpot → x ≠ nUs → m' x = m6 x) ∧ Ls h' tl tys ∧ Strs tys (ring.take i))
    (fun b0' i h1' h2' ⟨m', tys, F', e1, e2, e3, l, s⟩ off => ⟨m', tys, frOff F' off L6, e1, e2, e3, l.off off (.inl tl6), s⟩) (fun b0' => ⟨m6, [], X6.F, m6t, m6s, fun _ _ _ => rfl, l6, trivial⟩) (fun b0' i v h7 hi hlv hP hJ k7 => w_hide fun Qb hQb => ?_) (fun b0' h7 hJ k7 => ?_)
  · obtain ⟨tv, rfl⟩ := hP
    obtain ⟨m7, tys, F7, m7t, m7s, m7o, l7, s7⟩ := hJ
    have Y7 : Fs base h7 [L, tl] L h7 m7 := Fs.mk0 F7 _
    refine w_asgName ?_
    refine w_stF Y7 fun h8 Y8 sb8 => ?_
    have l8 := l7.same sb8 htlL
    generalize hm8 : (fun z => if z = nUs then some (Value.int (i : Nat) tv) else m7 z) = m8 at Y8
    have m8t : m8 nTold = some (.ref tl) := by rw [← hm8]; exact m7t
    have m8s : m8 nSpot = some (.ref (hs.getD ((wT ring).getD (iter (tau (wT ring)) i (wHome ring)) 0) 0)) := by rw [← hm8]; exact m7s
    have hnt : ∀ {b : Addr} {h' h'' : Heap}, Kept [L, tl] h' h'' → True := fun _ => trivial
    have K08 : ∀ b o, b ≠ L → b ≠ tl → h.get? b = some o → h8.get? b = some o := fun b o n1 n2 e => Y8.K b o (by simp [n1, n2]) (k7 b o (by simp [n1, n2]) (X6.K b o (by simp [n1]) e))
    have Kh8 : Kept [L, tl] h h8 := (X6.K.mono (by first | (with_reducible (first | exact im1 | exact im2 | exact im3 | exact sb0 | exact sb1 im1 | exact sb1 im2 | exact sb1 im3)) | exact nmc (adne (by decide)) nm0 | exact nmc (adne (by decide)) (nmc (adnn (by decide)) nm0) | simp)).trans (k7.trans Y8.K)
    have notl : ∀ b, (∃ o, h.get? b = some o) → b ≠ tl := fun b ⟨o, e⟩ q => by
      have h1' : b < h.objs.size := Heap.lt_size e
      by_cases hbL : b = L
      · exact htlL (q ▸ hbL)
      · have := Heap.lt_size (X2.K b o (by simpa using hbL) e)
        rw [q, htl] at this; exact Nat.lt_irrefl _ this
    have hit := (wB ring).iter_lt [] hh1 i
    obtain ⟨hla, hlb⟩ := hH.get (htlt _ hit)
    have hlaN : hs.getD ((wT ring).getD (iter (tau (wT ring)) i (wHome ring)) 0) 0 ∉ [L, tl] := by
      simp only [List.mem_cons, List.not_mem_nil, or_false, not_or]
      refine ⟨Nat.ne_of_gt (Nat.lt_of_lt_of_le hb0 hlb), notl _ ?_⟩
      obtain ⟨_, ⟨_, e⟩, _⟩ := hla
      exact ⟨_, e⟩
    obtain ⟨v0, u0, lsp, ⟨tv0, rfl⟩, ⟨tu0, rfl⟩⟩ := (hla.kept Kh8 hlaN).two
    refine w_cons ?_
    refine w_expr ?_
    refine w_meth PySem.F.plainAttrs_list PySem.F.slot_list_append PySem.F.type_list_append ?_
    refine w_nm Y8.ns m8t ⟨l8.ty, ?_, ?_⟩
    · intro a e; injection e with e; subst e; obtain ⟨nn, e⟩ := l8; exact ⟨_, e, rfl⟩
    refine w_args ?_
    refine w_arg ?_
    refine w_sub ?_
    refine w_nm Y8.ns m8s ?_
    refine w_cInt fun _ => ?_
    refine w_itemL (j := 0) lsp.isList rfl (by simp [sizeLine_eq]) ?_
    refine w_arg0 ?_
    refine w_kw0 ⟨Kp.builtin _, ?_⟩
    have hty : tys.length = i := by have := s7.length; rw [this, List.length_take]; lia
    refine w_append l8 (by rw [hty, sizeLine_eq]; lia) (fun h9 l9 sb9 => ⟨fun a e => (by cases e), ?_⟩)
    have Y9 := Y8.kept (T := [tl]) (Kept.of_same sb9 (by first | (with_reducible (first | exact im1 | exact im2 | exact im3 | exact sb0 | exact sb1 im1 | exact sb1 im2 | exact sb1 im3)) | exact nmc (adne (by decide)) nm0 | exact nmc (adne (by decide)) (nmc (adnn (by decide)) nm0) | simp)) (List.forall_mem_singleton.mpr (hcb _ hLtl)) (by simpa using htlL.symm) (by first | (with_reducible (first | exact im1 | exact im2 | exact im3 | exact sb0 | exact sb1 im1 | exact sb1 im2 | exact sb1 im3)) | exact nmc (adne (by decide)) nm0 | exact nmc (adne (by decide)) (nmc (adnn (by decide)) nm0) | simp)
    have Kh9 := Kh8.trans (Kept.of_same (S := [L, tl]) sb9 (by first | (with_reducible (first | exact im1 | exact im2 | exact im3 | exact sb0 | exact sb1 im1 | exact sb1 im2 | exact sb1 im3)) | exact nmc (adne (by decide)) nm0 | exact nmc (adne (by decide)) (nmc (adnn (by decide)) nm0) | simp))
    have lsp9 := (show Ls h9 _ _ from lsp.same sb9 (fun q => hlaN (by rw [q]; simp)))
    have c89 : h9.IsCell (L + 8) (some (.ref SL)) := IsCell.kept c8 Kh9 (by
      simp only [List.mem_cons, List.not_mem_nil, or_false, not_or]
      refine ⟨by simp, notl _ ?_⟩
      obtain ⟨o, e, _⟩ := c8; exact ⟨o, e⟩)
    have lS9 := lsKept lS Kh9 (by
      simp only [List.mem_cons, List.not_mem_nil, or_false, not_or]
      refine ⟨hL.2.2, notl _ ?_⟩
      obtain ⟨o, e⟩ := lS; exact ⟨_, e⟩)
    refine w_cons ?_
    refine w_asg ?_
    refine w_sub ?_
    refine w_nmC (c := L + 8) rfl c89 ?_
    refine w_binOp ?_
    refine w_sub ?_
    refine w_nm Y9.ns m8s ?_
    refine w_cInt fun _ => ?_
    refine w_itemL (j := 1) lsp9.isList rfl (by simp [sizeLine_eq]) ?_
    refine w_cInt fun _ => ?_
    refine w_subInt fun _ => ?_
    have hit1 := (wB ring).iter_lt [] hh1 (i + 1)
    have etau : (((wT ring).getD (iter (tau (wT ring)) i (wHome ring)) 0 + 1 : Nat) : Int) - 1 = ((iter (tau (wT ring)) (i + 1) (wHome ring) : Nat) : Int) := by
      rw [iter_succ]; show ((_ + 1 : Nat) : Int) - 1 = (((wT ring).getD _ 0 : Nat) : Int); lia
    rw [etau]
    refine w_itemL (j := iter (tau (wT ring)) (i + 1) (wHome ring)) lS9.isList (hsp _ hit1) (by simp [tlen, sizeLine_eq]; lia) ?_
    refine w_stF Y9 fun h10 Y10 sb10 => w_nil (hQb _ _ ⟨Y10.K, _, tys ++ [_], Y10.F, m8t, rfl, fun x a b => ?_, l9.same sb10 htlL, ?_⟩)
    · rw [if_neg a, ← hm8]; show (if x = nUs then _ else m7 x) = _; rw [if_neg b]; exact m7o x a b
    · rw [List.take_add_one, (wB ring).told [] wlt_lin hi]
      exact s7.append ⟨⟨_, rfl⟩, trivial⟩
  · obtain ⟨m7, tys, F7, m7t, m7s, m7o, l7, s7⟩ := hJ
    rw [List.take_length] at s7
    rw [(wB ring).round [] wlt_lin hh1] at m7s
    refine w_nil ?_
    have Kh7 : Kept [L, tl] h h7 := (X6.K.mono (by first | (with_reducible (first | exact im1 | exact im2 | exact im3 | exact sb0 | exact sb1 im1 | exact sb1 im2 | exact sb1 im3)) | exact nmc (adne (by decide)) nm0 | exact nmc (adne (by decide)) (nmc (adnn (by decide)) nm0) | simp)).trans k7
    have notl : ∀ b, (∃ o, h.get? b = some o) → b ≠ tl := fun b ⟨o, e⟩ q => by
      by_cases hbL : b = L
      · exact htlL (q ▸ hbL)
      · have := Heap.lt_size (X2.K b o (by simpa using hbL) e)
        rw [q, htl] at this; exact Nat.lt_irrefl _ this
    have Kf : Kept [L] h h7 := fun b o nb e => Kh7 b o (by simp only [List.mem_cons, List.not_mem_nil, or_false, not_or]; exact ⟨by simpa using nb, notl _ ⟨o, e⟩⟩) e
    have Y7 : Fs base h7 [L] L h7 m7 := Fs.mk0 F7 _
    refine w_cons ?_
    refine w_if_ ?_
    refine w_tOr ?_
    refine w_tCmp ?_
    refine w_nm F7.ns m7t ?_
    refine w_nmC (c := L + 3) rfl (IsCell.kept c3 Kf (by first | (with_reducible (first | exact im1 | exact im2 | exact im3 | exact sb0 | exact sb1 im1 | exact sb1 im2 | exact sb1 im3)) | exact nmc (adne (by decide)) nm0 | exact nmc (adne (by decide)) (nmc (adnn (by decide)) nm0) | simp)) ?_
    refine w_neList (Strs.LA l7 s7) (Strs.LA (lsKept lr Kf (by simpa using hL.1)) sr) (kin_strs _ _) ?_ ?_ (by have := ok.units; rw [show cLine = 9900 from rfl] at *; lia) ?_
    · intro x hx; obtain ⟨y, hy, rfl⟩ := List.mem_map.mp hx; exact okW_at y (hokr y hy)
    · intro x hx; obtain ⟨y, hy, rfl⟩ := List.mem_map.mp hx; exact okW_at y (hokr y hy)
    rw [decide_eq_true rfl]
    refine w_tBool ⟨fun e => (by cases e), fun _ => ?_⟩
    refine w_tOr ?_
    refine w_tCmp ?_
    refine w_nm F7.ns m7s ?_
    refine w_sub ?_
    refine w_nmC (c := L + 8) rfl (IsCell.kept c8 Kf (by first | (with_reducible (first | exact im1 | exact im2 | exact im3 | exact sb0 | exact sb1 im1 | exact sb1 im2 | exact sb1 im3)) | exact nmc (adne (by decide)) nm0 | exact nmc (adne (by decide)) (nmc (adnn (by decide)) nm0) | simp)) ?_
    refine w_nm F7.ns ((m7o nHome (by decide) (by decide)).trans m6h) ?_
    refine w_itemL (j := wHome ring) (lsKept lS Kf (by simpa using hL.2.2)).isList (hsp _ hh1) (by simp [tlen, sizeLine_eq]; lia) ?_
    obtain ⟨hla, hlb⟩ := hH.get (htlt _ hh1)
    obtain ⟨_, ⟨nn, eo⟩, _⟩ := hla.kept Kf (by simp only [List.mem_singleton]; exact Nat.ne_of_gt (Nat.lt_of_lt_of_le hb0 hlb))
    refine w_isNotRef eo eo (by first | (with_reducible (first | exact im1 | exact im2 | exact im3 | exact sb0 | exact sb1 im1 | exact sb1 im2 | exact sb1 im3)) | exact nmc (adne (by decide)) nm0 | exact nmc (adne (by decide)) (nmc (adnn (by decide)) nm0) | simp) ?_
    rw [decide_eq_true rfl]
    refine w_tBool ⟨fun e => (by cases e), fun _ => w_tOr0 ⟨fun e => (by cases e), fun _ => w_nil ?_⟩⟩
    exact k h7 m7 F7 Kf ⟨t1, (m7o nHome (by decide) (by decide)).trans m6h⟩ (fun x a b c d => (m7o x c d).trans (m6o x a b c))
end
end Mine
end
section
open PySem PySem.W PyProof.Rows PySem.Calls
set_option Elab.async false
set_option maxRecDepth 100000
set_option linter.unusedVariables false
set_option linter.unusedSimpArgs false
namespace Mine
theorem ltL_two (a b : W) (m n : Int) : ltL [.s a, .i m] [.s b, .i n] = if a = b then decide (m < n) else wlt a b := by
  by_cases e : a = b
  · subst e
    by_cases e2 : m = n
    · subst e2; simp [ltL]
    · simp [ltL, e2, At.lt]
  · simp [ltL, e, At.lt, wlt]
theorem cmp_la {prog : Program} {w : World} {h : Heap} {n : Nat} {a b : Addr} {as bs : List At} (ha : LA h a as) (hb : LA h b bs) (hk : Kin as bs = true) : CmpLt n prog w h (.ref a) (.ref b) (ltL as bs) := by
  intro A h' Q ok e k
  exact w_ltList (ha.ext e) (hb.ext e) hk (by have := ok.units; rw [show cLine = 9900 from rfl] at *; lia) (k h' (Ext.refl _))
section
variable {prog : Program} {w : World} {A : Around} {h base H : Heap} {mg mb : Str → Option Value} {L : Addr}
theorem spots_get (ring : List W) (hs : List Addr) {j : Nat} (hj : j < ring.length) : ((wT ring).map fun k => Value.ref (hs.getD k 0))[j]? = some (.ref (hs.getD ((wT ring).getD j 0) 0)) := by
  have tlen := spt_len (wL0 ring) ring.length
  simp [List.getElem?_map, List.getD_eq_getElem?_getD, tlen, hj]
theorem blSpot {n : Nat} {ring : List W} {hs : List Addr} {b0 SL x : Addr} {s p lo hi : Nat} {hiV : Value} {t : Tok} {pos : List Value} {kw : List (Str × Value)} {Q : Value → Heap → Prop} (G : G0 w mg mb h) (ok : OkA (n + 1) A) (hN : ring.length ≤ 18)
    (hH : HeardAt h (wL0 ring) b0 hs ring.length) (lS : Ls h SL ((wT ring).map fun k => Value.ref (hs.getD k 0))) (hs' : s < ring.length) (hp : p < ring.length) (e : (wT ring).getD s 0 = p)
    (hx : LA h x [.s (wL0 ring p), .i ((p : Int) + 1)])
    (hb : ∀ S, peek (KH w) S (bindArgs (fnAt w aBL) ⟨pos, kw⟩) = some [(nA, .ref SL), (nX, .ref x), (nLo, .int lo t), (nHi, hiV), (nKey, .none)])
    (hhi : HiIs hiV hi ring.length) (h1 : lo ≤ hi) (h2 : hi ≤ ring.length)
    (k : ∀ h' t, Ext h h' → Q (.int ((min (max lo s) hi : Nat) : Int) t) h') : Wp (model prog w) A (call (.ref aBL) pos kw) Q h := by
  have tlen := spt_len (wL0 ring) ring.length
  refine bl_call (ks := (wT ring).map fun k => Value.ref (hs.getD k 0)) (lo := lo) (hi := hi) (r := min (max lo s) hi) (less := fun j => decide (j < s)) G ok lS.isList (by simp [tlen]; lia) hb (by rw [List.length_map, tlen]; exact hhi) (by lia) (by lia) (by simp [tlen]; lia) (.inl ⟨rfl, rfl⟩) (fun i a b => decide_eq_true (by lia)) (fun i a b => decide_eq_false (by lia)) (fun j v e1 => ?_) k
  have hj : j < ring.length := by
    rcases Nat.lt_or_ge j ring.length with q | q
    · exact q
    · rw [List.getElem?_eq_none (by simpa [tlen] using q)] at e1; cases e1
  rw [spots_get ring hs hj] at e1
  cases e1
  have la := (hH.get ((wB ring).tlt [] hj)).1
  have c := cmp_la (n := n) (prog := prog) (w := w) la hx rfl
  rw [ltL_two] at c
  have q := (wB ring).spot_lt [] wlt_lin hj hs' e
  show CmpLt _ _ _ _ _ _ (decide (j < s))
  rw [← q]
  have e3 : decide ((((wT ring).getD j 0 + 1 : Nat) : Int) < (p : Int) + 1) = decide ((wT ring).getD j 0 < p) := by
    rw [decide_eq_decide]; lia
  rw [e3] at c
  exact c
theorem brSpot {n : Nat} {ring : List W} {hs : List Addr} {b0 SL x : Addr} {s p lo hi : Nat} {hiV : Value} {t : Tok} {pos : List Value} {kw : List (Str × Value)} {Q : Value → Heap → Prop} (G : G0 w mg mb h) (ok : OkA (n + 1) A) (hN : ring.length ≤ 18)
    (hH : HeardAt h (wL0 ring) b0 hs ring.length) (lS : Ls h SL ((wT ring).map fun k => Value.ref (hs.getD k 0))) (hs' : s < ring.length) (hp : p < ring.length) (e : (wT ring).getD s 0 = p)
    (hx : LA h x [.s (wL0 ring p), .i (p : Int)])
    (hb : ∀ S, peek (KH w) S (bindArgs (fnAt w aBR) ⟨pos, kw⟩) = some [(nA, .ref SL), (nX, .ref x), (nLo, .int lo t), (nHi, hiV), (nKey, .none)])
    (hhi : HiIs hiV hi ring.length) (h1 : lo ≤ hi) (h2 : hi ≤ ring.length)
    (k : ∀ h' t, Ext h h' → Q (.int ((min (max lo s) hi : Nat) : Int) t) h') : Wp (model prog w) A (call (.ref aBR) pos kw) Q h := by
  have tlen := spt_len (wL0 ring) ring.length
  refine br_call (ks := (wT ring).map fun k => Value.ref (hs.getD k 0)) (lo := lo) (hi := hi) (r := min (max lo s) hi) (less := fun j => decide (s ≤ j)) G ok lS.isList (by simp [tlen]; lia) hb (by rw [List.length_map, tlen]; exact hhi) (by lia) (by lia) (by simp [tlen]; lia) (.inl ⟨rfl, rfl⟩) (fun i a b => decide_eq_false (by lia)) (fun i a b => decide_eq_true (by lia)) (fun j v e1 => ?_) k
  have hj : j < ring.length := by
    rcases Nat.lt_or_ge j ring.length with q | q
    · exact q
    · rw [List.getElem?_eq_none (by simpa [tlen] using q)] at e1; cases e1
  rw [spots_get ring hs hj] at e1
  cases e1
  have la := (hH.get ((wB ring).tlt [] hj)).1
  have c := cmp_la (n := n) (prog := prog) (w := w) hx la rfl
  rw [ltL_two] at c
  have q := (wB ring).spot_gt [] wlt_lin hj hs' e
  show CmpLt _ _ _ _ _ _ (decide (s ≤ j))
  rw [← q]
  have e3 : decide ((p : Int) < (((wT ring).getD j 0 + 1 : Nat) : Int)) = decide (p < (wT ring).getD j 0 + 1) := by
    rw [decide_eq_decide]; lia
  rw [e3] at c
  exact c
end
end Mine
end
section
open PySem PySem.W PyProof.Rows PySem.Calls
set_option Elab.async false
set_option maxRecDepth 100000
set_option linter.unusedVariables false
set_option linter.unusedSimpArgs false
namespace Mine
abbrev nSooner : Str := Str.ofString "sooner"
abbrev nNear : Str := Str.ofString "near"
abbrev nPl : Str := Str.ofString "place"
abbrev nWd : Str := Str.ofString "word"
abbrev nLo7 : Str := Str.ofString "low"
abbrev nHi7 : Str := Str.ofString "high"
def ph7N : List Str := [nPl, nWd, nSooner, nLo7, nHi7, nNear]
section
variable {prog : Program} {w : World} {A : Around} {h base H : Heap} {mg mb : Str → Option Value} {L : Addr}
set_option maxHeartbeats 4000000 in
theorem ph7 {n : Nat} {rg SL HL b0 : Addr} {rys : List Value} {hs : List Addr} {ring : List W} {ts th : Tok} {Q : Flow → Heap → Prop} {m : Str → Option Value} (GB : Gd w mg mb H base) (ok : OkA (n + 5) A) (F : Fr base L h m)
    (c3 : h.IsCell (L + 3) (some (.ref rg))) (c4 : h.IsCell (L + 4) (some (.int (ring.length : Nat) ts))) (c8 : h.IsCell (L + 8) (some (.ref SL)))
    (lr : Ls h rg rys) (sr : Strs rys ring) (hN : ring.length ≤ 18) (hN0 : 2 ≤ ring.length)
    (hH : HeardAt h (wL0 ring) b0 hs ring.length) (lS : Ls h SL ((wT ring).map fun k => Value.ref (hs.getD k 0))) (lH : Ls h HL (hs.map Value.ref)) (hL : rg ≠ L ∧ SL ≠ L ∧ HL ≠ L) (hb0 : L < b0)
    (mh : m nHeard = some (.ref HL)) (mho : m nHome = some (.int (wHome ring : Nat) th))
    (k : ∀ h' m', Fr base L h' m' → Kept [L] h h' → (∀ x, x ∉ ph7N → m' x = m x) → Wp (model prog w) A (execs ((lawB w).drop 30) (lawE w L)) Q h') :
    Wp (model prog w) A (execs ((lawB w).drop 28) (lawE w L)) Q h := by
  have ctx : ∀ {h' m'}, Fr base L h' m' → Gd w mg mb H h' := fun F' => GB.ext F'.keep
  have X : Fs base h [L] L h m := Fs.mk0 F _
  have slen := sig_len ring ring.length
  have tlen := spt_len (wL0 ring) ring.length
  obtain ⟨hh1, hh2⟩ := (wB ring).home [] wlt_lin (by lia)
  have hrl := sr.length
  have hb0S : ∀ s ∈ [L], s < b0 := by simpa using hb0
  refine w_cons ?_
  refine w_asg ?_
  refine w_nm F.ns mho ?_
  refine w_stF X fun h1 X1 sb1 => ?_
  have lr1 := lsKept lr X1.K (by simpa using hL.1)
  refine w_cons ?_
  refine w_for ?_
  refine w_sub ?_
  refine w_nmC (c := L + 3) rfl (IsCell.kept c3 X1.K (by first | (with_reducible (first | exact im1 | exact im2 | exact im3 | exact sb0 | exact sb1 im1 | exact sb1 im2 | exact sb1 im3)) | exact nmc (adne (by decide)) nm0 | exact nmc (adne (by decide)) (nmc (adnn (by decide)) nm0) | simp)) ?_
  refine w_slice ?_
  refine w_part0 ?_
  refine w_part0 ?_
  refine w_part ?_
  refine w_neg ?_
  refine w_cInt fun _ => ⟨_, _, rfl, fun _ => ?_⟩
  refine w_sliceL lr1.isList (lo := none) (hi := none) (st := some (-1)) .none .none (.int _ _) (by decide) (fun rl h2 hrl e2 l2 z2 => ?_) (by rw [hrl, sizeLine_eq]; lia) _ rfl
  rw [slice_rev] at l2
  have X2 := X1.ext e2
  generalize hm2 : (fun z => if z = nPl then some (Value.int (wHome ring : Nat) th) else m z) = m2 at X2
  have m2p : m2 nPl = some (Value.int (wHome ring : Nat) th) := by rw [← hm2]; rfl
  have m2o : ∀ x, x ≠ nPl → m2 x = m x := fun x hx => by rw [← hm2]; exact if_neg hx
  have L2 : L < h2.objs.size := X2.ns.lt
  have hrlL : rl ≠ L := by
    have := X1.ns.lt
    lia
  refine w_forI (iterList (.inl rfl) ok.3 l2.isList) [L] (by simpa using ⟨L2, hrlL.symm⟩)
    (fun b0' i h' => ∃ m' p, Fr base L h' m' ∧ p < ring.length ∧ Rw ring (sig wlt ring ring.length) p = rot ring (ring.length - i) ∧ (∃ t, m' nPl = some (.int (p : Nat) t)) ∧ (∀ x, x ∉ ph7N → m' x = m x))
    (fun b0' i h1' h2' ⟨m', p, F', e⟩ off => ⟨m', p, frOff F' off L2, e⟩) (fun b0' => ⟨m2, wHome ring, X2.F, hh1, by rw [Nat.sub_zero, rot_n, rot_zero]; exact hh2, ⟨_, m2p⟩, fun x hx => m2o x (fun q => hx (by simp [ph7N, q]))⟩) (fun b0' i v h5 hi hlv hP hJ k5 => w_hide fun Qb hQb => ?_) (fun b0' h5 hJ k5 => ?_)
  · obtain ⟨m5, p, F5, hp, hrow, ⟨tp, m5p⟩, m5o⟩ := hJ
    have hi : i < ring.length := by rw [List.length_reverse, sr.length] at hi; exact hi
    have hP' := sr.reverse
    have hgr : ring.reverse[i]? = ring[ring.length - 1 - i]? := List.getElem?_reverse hi
    obtain ⟨x0, hx0⟩ : ∃ x0, ring[ring.length - 1 - i]? = some x0 := ⟨_, List.getElem?_eq_getElem (by lia)⟩
    rw [hx0] at hgr
    obtain ⟨tw, hw⟩ := hP'.get hgr
    rw [hw] at hP
    cases hP
    obtain ⟨s, hs1, hs2⟩ := (wB ring).place [] hp
    obtain ⟨hb1, hb2⟩ := (wB ring).back [] wlt_lin hs1 hs2 (i := ring.length - 1 - i) (by lia) (by rw [hrow]; congr 1; lia)
    rw [hx0] at hb2
    injection hb2 with hb2
    have hx0' : x0 = wL0 ring p := hb2.symm
    rw [hx0'] at *
    have Y5 : Fs base h5 [L] L h5 m5 := Fs.mk0 F5 _
    have K5 : Kept [L] h h5 := X2.K.trans k5
    refine w_asgName ?_
    refine w_stF Y5 fun h6 Y6 sb6 => ?_
    have fS : ∀ {h' m'}, Fs base h5 [L] L h' m' → Ls h' SL ((wT ring).map fun k => Value.ref (hs.getD k 0)) := fun Y => lsKept lS (K5.trans Y.K) (by simpa using hL.2.1)
    have fH : ∀ {h' m'}, Fs base h5 [L] L h' m' → HeardAt h' (wL0 ring) b0 hs ring.length := fun Y => hH.kept (K5.trans Y.K) hb0S
    have fl : ∀ {h' m'}, Fs base h5 [L] L h' m' → Ls h' HL (hs.map Value.ref) := fun Y => lsKept lH (K5.trans Y.K) (by simpa using hL.2.2)
    have f8 : ∀ {h' m'}, Fs base h5 [L] L h' m' → h'.IsCell (L + 8) (some (.ref SL)) := fun Y => IsCell.kept c8 (K5.trans Y.K) (by first | (with_reducible (first | exact im1 | exact im2 | exact im3 | exact sb0 | exact sb1 im1 | exact sb1 im2 | exact sb1 im3)) | exact nmc (adne (by decide)) nm0 | exact nmc (adne (by decide)) (nmc (adnn (by decide)) nm0) | simp)
    have f4 : ∀ {h' m'}, Fs base h5 [L] L h' m' → h'.IsCell (L + 4) (some (.int (ring.length : Nat) ts)) := fun Y => IsCell.kept c4 (K5.trans Y.K) (by first | (with_reducible (first | exact im1 | exact im2 | exact im3 | exact sb0 | exact sb1 im1 | exact sb1 im2 | exact sb1 im3)) | exact nmc (adne (by decide)) nm0 | exact nmc (adne (by decide)) (nmc (adnn (by decide)) nm0) | simp)
    refine w_cons ?_
    refine w_asg ?_
    refine w_callN ?_
    refine w_gK (ctx Y6.F).now (v := .ref aBL) (by kernel_rfl) ?_
    refine w_args ?_
    refine w_arg ?_
    refine w_nmC (c := L + 8) rfl (f8 Y6) ?_
    refine w_arg ?_
    refine w_list ?_
    refine w_arg ?_
    refine w_nm Y6.ns rfl ?_
    refine w_arg ?_
    refine w_binOp ?_
    refine w_nm Y6.ns m5p ?_
    refine w_cInt fun _ => ?_
    refine w_addInt fun _ => ?_
    refine w_arg0 ⟨by simp [sizeLine_eq], fun h7 a7 ha7 e7 l7 z7 => ?_⟩
    have Y7 := Y6.ext e7
    refine w_arg0 ?_
    refine w_kw0 ⟨kpFn aBL (ctx Y7.F).now (by kernel_rfl) (by kernel_rfl), ?_⟩
    refine blSpot (n := n + 4) (lo := 0) (hi := ring.length) (ctx Y7.F).now ok hN (fH Y7) (fS Y7) hs1 hp hs2 ⟨_, l7, ⟨_, rfl⟩, ⟨_, rfl⟩, trivial⟩ (bl_b2 w _ _) (.inl ⟨rfl, rfl⟩) (Nat.zero_le _) (Nat.le_refl _) (fun h8 t8 e8 => ?_)
    rw [show min (max 0 s) ring.length = s by lia]
    have Y8 := Y7.ext e8
    refine w_stF Y8 fun h9 Y9 sb9 => ?_
    generalize hm9 : (fun z => if z = nSooner then some (Value.int (s : Nat) t8) else if z = nWd then some (Value.str (S (wL0 ring p)) tw) else m5 z) = m9 at Y9
    have m9s : m9 nSooner = some (Value.int (s : Nat) t8) := by rw [← hm9]; rfl
    have m9w : m9 nWd = some (Value.str (S (wL0 ring p)) tw) := by rw [← hm9]; rfl
    have m9p : m9 nPl = some (.int (p : Nat) tp) := by rw [← hm9]; exact m5p
    have m9o : ∀ x, x ∉ ph7N → m9 x = m x := fun x hx => by
      rw [← hm9]
      have h1 : x ≠ nSooner := fun q => hx (by simp [ph7N, q])
      have h2 : x ≠ nWd := fun q => hx (by simp [ph7N, q])
      simp only [h1, h2, if_false]
      exact m5o x hx
    have m9h : m9 nHeard = some (.ref HL) := (m9o nHeard (by decide)).trans mh
    have hgH : (hs.map Value.ref)[p]? = some (.ref (hs.getD p 0)) := by
      have : p < hs.length := by rw [hH.1]; exact hp
      simp [List.getD_eq_getElem?_getD, this]
    have hgS := spots_get ring hs hs1
    rw [hs2] at hgS
    obtain ⟨⟨_, ⟨nn, eo⟩, _⟩, _⟩ := (fH Y9).get hp
    refine w_cons ?_
    refine w_if_ ?_
    refine w_tOr ?_
    refine w_tCmp ?_
    refine w_sub ?_
    refine w_nmC (c := L + 8) rfl (f8 Y9) ?_
    refine w_nm Y9.ns m9s ?_
    refine w_itemL (j := s) (fS Y9).isList hgS (by simp [tlen, sizeLine_eq]; lia) ?_
    refine w_sub ?_
    refine w_nm Y9.ns m9h ?_
    refine w_nm Y9.ns m9p ?_
    refine w_itemL (j := p) (fl Y9).isList hgH (by simp [hH.1, sizeLine_eq]; lia) ?_
    refine w_isNotRef eo eo (by first | (with_reducible (first | exact im1 | exact im2 | exact im3 | exact sb0 | exact sb1 im1 | exact sb1 im2 | exact sb1 im3)) | exact nmc (adne (by decide)) nm0 | exact nmc (adne (by decide)) (nmc (adnn (by decide)) nm0) | simp) ?_
    rw [decide_eq_true rfl]
    refine w_tBool ⟨fun e => (by cases e), fun _ => ?_⟩
    refine w_tOr ?_
    refine w_tCmp ?_
    refine w_callN ?_
    refine w_gK (ctx Y9.F).now (v := .ref aBR) (by kernel_rfl) ?_
    refine w_args ?_
    refine w_arg ?_
    refine w_nmC (c := L + 8) rfl (f8 Y9) ?_
    refine w_arg ?_
    refine w_list ?_
    refine w_arg ?_
    refine w_nm Y9.ns m9w ?_
    refine w_arg ?_
    refine w_nm Y9.ns m9p ?_
    refine w_arg0 ⟨by simp [sizeLine_eq], fun h10 a10 ha10 e10 l10 z10 => ?_⟩
    have Y10 := Y9.ext e10
    refine w_arg0 ?_
    refine w_kw0 ⟨kpFn aBR (ctx Y10.F).now (by kernel_rfl) (by kernel_rfl), ?_⟩
    refine brSpot (n := n + 4) (lo := 0) (hi := ring.length) (ctx Y10.F).now ok hN (fH Y10) (fS Y10) hs1 hp hs2 ⟨_, l10, ⟨_, rfl⟩, ⟨_, rfl⟩, trivial⟩ (br_b2 w _ _) (.inl ⟨rfl, rfl⟩) (Nat.zero_le _) (Nat.le_refl _) (fun h11 t11 e11 => ?_)
    rw [show min (max 0 s) ring.length = s by lia]
    have Y11 := Y10.ext e11
    refine w_nm Y11.ns m9s ?_
    refine w_neInt ?_
    rw [show (((s : Nat) : Int) == ((s : Nat) : Int)) = true by simp]
    refine w_tBool ⟨fun e => (by cases e), fun _ => w_tOr0 ⟨fun e => (by cases e), fun _ => w_nil ?_⟩⟩
    refine w_cons ?_
    refine w_for ?_
    refine w_list ?_
    refine w_arg ?_
    refine w_tuple ?_
    refine w_arg ?_
    refine w_cInt fun t0 => ?_
    refine w_arg ?_
    refine w_nm Y11.ns m9p ?_
    refine w_arg0 ⟨by simp [sizeLine_eq], fun h12 T0 hT0 e12 g12 z12 => ?_⟩
    have Y12 := Y11.ext e12
    refine w_arg ?_
    refine w_tuple ?_
    refine w_arg ?_
    refine w_nm Y12.ns m9p ?_
    refine w_arg ?_
    refine w_nmC (c := L + 4) rfl (f4 Y12) ?_
    refine w_arg0 ⟨by simp [sizeLine_eq], fun h13 T1 hT1 e13 g13 z13 => ?_⟩
    have Y13 := Y12.ext e13
    refine w_arg0 ⟨by simp [sizeLine_eq], fun h14 tl htl e14 l14 z14 => ?_⟩
    have Y14 := Y13.ext e14
    have L14 : L < h14.objs.size := Y14.ns.lt
    have L11 : L < h11.objs.size := Y11.ns.lt
    have L12 : L < h12.objs.size := Y12.ns.lt
    have L13 : L < h13.objs.size := Y13.ns.lt
    have hT0L : T0 ≠ L := by rw [hT0]; exact Nat.ne_of_gt L11
    have hT1L : T1 ≠ L := by rw [hT1]; exact Nat.ne_of_gt L12
    have htlL : tl ≠ L := by rw [htl]; exact Nat.ne_of_gt L13
    refine w_forI (iterList (.inr rfl) ok.3 l14.isList) [L] (by simpa using ⟨L14, htlL.symm⟩)
      (fun b0' i h' => ∃ m', Fr base L h' m' ∧ (∀ x, x ≠ nLo7 → x ≠ nHi7 → x ≠ nNear → m' x = m9 x))
      (fun b0' i h1' h2' ⟨m', F', e⟩ off => ⟨m', frOff F' off L14, e⟩) (fun b0' => ⟨m9, Y14.F, fun _ _ _ _ => rfl⟩) (fun b1 i1 v h15 hi1 hlv1 hP1 hJ1 k15 => w_hide fun Qc hQc => ?_) (fun b1 h15 hJ1 k15 => ?_)
    · obtain ⟨m15, F15, m15o⟩ := hJ1
      have Y15 : Fs base h5 [L] L h15 m15 := ⟨F15, Y14.K.trans k15⟩
      obtain ⟨T, lo, hi', u1, u2, rfl, hlo, hhi, hTe, hTL⟩ : ∃ T lo hi' u1 u2, v = .ref T ∧ lo ≤ hi' ∧ hi' ≤ ring.length ∧ h15.get? T = some (tpl [.int (lo : Nat) u1, .int (hi' : Nat) u2]) ∧ T ≠ L := by
        match i1, hP1 with
        | 0, hP1 =>
          cases hP1
          exact ⟨T0, 0, p, _, _, rfl, Nat.zero_le _, Nat.le_of_lt hp, k15 _ _ (by simpa using hT0L) (e14 _ _ (e13 _ _ g12)), hT0L⟩
        | 1, hP1 =>
          cases hP1
          exact ⟨T1, p, ring.length, _, _, rfl, Nat.le_of_lt hp, Nat.le_refl _, k15 _ _ (by simpa using hT1L) (e14 _ _ g13), hT1L⟩
        | i1 + 2, hP1 => exact absurd hi1 (by first | (with_reducible (first | exact im1 | exact im2 | exact im3 | exact sb0 | exact sb1 im1 | exact sb1 im2 | exact sb1 im3)) | exact nmc (adne (by decide)) nm0 | exact nmc (adne (by decide)) (nmc (adnn (by decide)) nm0) | simp)
      refine w_asgTup2F Y15 ok.3 ⟨_, hTe, rfl, _, rfl⟩ (fun h16 Y16 k16 => ?_)
      generalize hm16 : (fun z => if z = nHi7 then some (Value.int (hi' : Nat) u2) else if z = nLo7 then some (Value.int (lo : Nat) u1) else m15 z) = m16 at Y16
      have m16l : m16 nLo7 = some (Value.int (lo : Nat) u1) := by rw [← hm16]; rfl
      have m16h : m16 nHi7 = some (Value.int (hi' : Nat) u2) := by rw [← hm16]; rfl
      have m16o : ∀ x, x ≠ nLo7 → x ≠ nHi7 → x ≠ nNear → m16 x = m9 x := fun x a b c => by
        rw [← hm16]; simp only [a, b, if_false]; exact m15o x a b c
      have m16s : m16 nSooner = _ := (m16o nSooner (by decide) (by decide) (by decide)).trans m9s
      have m16w : m16 nWd = _ := (m16o nWd (by decide) (by decide) (by decide)).trans m9w
      have m16p : m16 nPl = _ := (m16o nPl (by decide) (by decide) (by decide)).trans m9p
      refine w_cons ?_
      refine w_asg ?_
      refine w_callN ?_
      refine w_gB (v := .builtin "min") (ctx Y16.F).now (by kernel_rfl) (by kernel_rfl) (by decide) ?_
      refine w_args ?_
      refine w_arg ?_
      refine w_callN ?_
      refine w_gB (v := .builtin "max") (ctx Y16.F).now (by kernel_rfl) (by kernel_rfl) (by decide) ?_
      refine w_args ?_
      refine w_arg ?_
      refine w_nm Y16.ns m16l ?_
      refine w_arg ?_
      refine w_nm Y16.ns m16s ?_
      refine w_arg0 ?_
      refine w_kw0 ⟨Kp.builtin _, ?_⟩
      refine w_max2 ok.3 (fun h17 t17 e17 => ?_)
      have Y17 := Y16.ext e17
      refine w_arg ?_
      refine w_nm Y17.ns m16h ?_
      refine w_arg0 ?_
      refine w_kw0 ⟨Kp.builtin _, ?_⟩
      refine w_min2 ok.3 (fun h18 t18 e18 => ?_)
      rw [show min (max (lo : Int) (s : Int)) (hi' : Int) = ((min (max lo s) hi' : Nat) : Int) by omega]
      have Y18 := Y17.ext e18
      refine w_stF Y18 fun h19 Y19 sb19 => ?_
      generalize hm19 : (fun z => if z = nNear then some (Value.int (min (max lo s) hi' : Nat) t18) else m16 z) = m19 at Y19
      have m19n : m19 nNear = some (Value.int (min (max lo s) hi' : Nat) t18) := by rw [← hm19]; rfl
      have m19x : ∀ x, x ≠ nNear → m19 x = m16 x := fun x hx => by rw [← hm19]; exact if_neg hx
      refine w_cons ?_
      refine w_if_ ?_
      refine w_tOr ?_
      refine w_tCmp ?_
      refine w_callN ?_
      refine w_gK (ctx Y19.F).now (v := .ref aBL) (by kernel_rfl) ?_
      refine w_args ?_
      refine w_arg ?_
      refine w_nmC (c := L + 8) rfl (f8 Y19) ?_
      refine w_arg ?_
      refine w_list ?_
      refine w_arg ?_
      refine w_nm Y19.ns ((m19x _ (by decide)).trans m16w) ?_
      refine w_arg ?_
      refine w_binOp ?_
      refine w_nm Y19.ns ((m19x _ (by decide)).trans m16p) ?_
      refine w_cInt fun _ => ?_
      refine w_addInt fun _ => ?_
      refine w_arg0 ⟨by simp [sizeLine_eq], fun h20 a20 ha20 e20 l20 z20 => ?_⟩
      have Y20 := Y19.ext e20
      refine w_arg ?_
      refine w_nm Y20.ns ((m19x _ (by decide)).trans m16l) ?_
      refine w_arg ?_
      refine w_nm Y20.ns ((m19x _ (by decide)).trans m16h) ?_
      refine w_arg0 ?_
      refine w_kw0 ⟨kpFn aBL (ctx Y20.F).now (by kernel_rfl) (by kernel_rfl), ?_⟩
      refine blSpot (n := n + 4) (lo := lo) (hi := hi') (ctx Y20.F).now ok hN (fH Y20) (fS Y20) hs1 hp hs2 ⟨_, l20, ⟨_, rfl⟩, ⟨_, rfl⟩, trivial⟩ (bl_b4 w _ _ _ _) (.inr ⟨_, rfl⟩) hlo hhi (fun h21 t21 e21 => ?_)
      have Y21 := Y20.ext e21
      refine w_nm Y21.ns m19n ?_
      refine w_neInt ?_
      rw [beq_self_eq_true]
      refine w_tBool ⟨fun e => (by cases e), fun _ => ?_⟩
      refine w_tOr ?_
      refine w_tCmp ?_
      refine w_callN ?_
      refine w_gK (ctx Y21.F).now (v := .ref aBR) (by kernel_rfl) ?_
      refine w_args ?_
      refine w_arg ?_
      refine w_nmC (c := L + 8) rfl (f8 Y21) ?_
      refine w_arg ?_
      refine w_list ?_
      refine w_arg ?_
      refine w_nm Y21.ns ((m19x _ (by decide)).trans m16w) ?_
      refine w_arg ?_
      refine w_nm Y21.ns ((m19x _ (by decide)).trans m16p) ?_
      refine w_arg0 ⟨by simp [sizeLine_eq], fun h22 a22 ha22 e22 l22 z22 => ?_⟩
      have Y22 := Y21.ext e22
      refine w_arg ?_
      refine w_nm Y22.ns ((m19x _ (by decide)).trans m16l) ?_
      refine w_arg ?_
      refine w_nm Y22.ns ((m19x _ (by decide)).trans m16h) ?_
      refine w_arg0 ?_
      refine w_kw0 ⟨kpFn aBR (ctx Y22.F).now (by kernel_rfl) (by kernel_rfl), ?_⟩
      refine brSpot (n := n + 4) (lo := lo) (hi := hi') (ctx Y22.F).now ok hN (fH Y22) (fS Y22) hs1 hp hs2 ⟨_, l22, ⟨_, rfl⟩, ⟨_, rfl⟩, trivial⟩ (br_b4 w _ _ _ _) (.inr ⟨_, rfl⟩) hlo hhi (fun h23 t23 e23 => ?_)
      have Y23 := Y22.ext e23
      refine w_nm Y23.ns m19n ?_
      refine w_neInt ?_
      rw [beq_self_eq_true]
      refine w_tBool ⟨fun e => (by cases e), fun _ => w_tOr0 ⟨fun e => (by cases e), fun _ => w_nil (w_nil (hQc _ _ ⟨?_, m19, Y23.F, fun x a b c => (m19x x c).trans (m16o x a b c)⟩))⟩⟩
      exact k16.trans ((Kept.of_ext (e17.trans e18)).trans ((Kept.of_same sb19 (by first | (with_reducible (first | exact im1 | exact im2 | exact im3 | exact sb0 | exact sb1 im1 | exact sb1 im2 | exact sb1 im3)) | exact nmc (adne (by decide)) nm0 | exact nmc (adne (by decide)) (nmc (adnn (by decide)) nm0) | simp)).trans (Kept.of_ext (e20.trans (e21.trans (e22.trans e23))))))
    · obtain ⟨m15, F15, m15o⟩ := hJ1
      have Y15 : Fs base h5 [L] L h15 m15 := ⟨F15, Y14.K.trans k15⟩
      refine w_nil ?_
      refine w_cons ?_
      refine w_asg ?_
      refine w_nm F15.ns ((m15o nSooner (by decide) (by decide) (by decide)).trans m9s) ?_
      refine w_stF Y15 fun h16 Y16 sb16 => w_nil (hQb _ _ ⟨Y16.K, _, s, Y16.F, hs1, ?_, ⟨_, rfl⟩, fun x hx => ?_⟩)
      · rw [hb1]; congr 1; lia
      · have h1 : x ≠ nPl := fun q => hx (by simp [ph7N, q])
        have h2 : x ≠ nLo7 := fun q => hx (by simp [ph7N, q])
        have h3 : x ≠ nHi7 := fun q => hx (by simp [ph7N, q])
        have h4 : x ≠ nNear := fun q => hx (by simp [ph7N, q])
        rw [if_neg h1, m15o x h2 h3 h4]
        exact m9o x hx
  · obtain ⟨m5, p, F5, hp, hrow, ⟨tp, m5p⟩, m5o⟩ := hJ
    exact w_nil (k h5 m5 F5 (X2.K.trans k5) m5o)
end
end Mine
end
section
open PySem PySem.W PyProof.Rows PySem.Calls
set_option Elab.async false
set_option maxRecDepth 100000
set_option linter.unusedVariables false
set_option linter.unusedSimpArgs false
namespace Mine
section
variable {prog : Program} {w : World} {A : Around} {E : Value → Shared → Prop} {s : Shared} {h : Heap} {env : Env}
theorem draw_list {it l : Addr} {items : Array Value} (hne : l ≠ it) : ∀ (n i : Nat) (s : Shared) (Q : List Value → Shared → Prop), s.heap.IsListIter it l i → s.heap.IsList l items → i + n ≤ items.size →
    (∀ h', h'.IsListIter it l (i + n) → Heap.SameBut it s.heap h' → Q ((items.toList.drop i).take n) { s with heap := h' }) → wpAny (model prog w) A (draw (.ref it) n) Q E s
  | 0, i, s, Q, hit, _, _, hQ => by
    show wpAny _ _ (pure []) Q E s
    exact wpAny_pure (by simpa using hQ s.heap hit (Heap.SameBut.refl ..))
  | n + 1, i, s, Q, hit, ht, hle, hQ => by
    have hlt : i < items.size := by lia
    show wpAny _ _ (pyNext (.ref it) >>= _) Q E s
    refine wpAny_bind (wpAny_pyNext_list_item hit ht (x := items[i]) (by simp [hlt]) fun h₁ hit₁ hs₁ => ?_)
    refine wpAny_bind (wpAny_holding (draw_list hne n (i + 1) _ _ hit₁ (IsList.same ht hs₁ hne) (by lia) fun h₂ hit₂ hs₂ => wpAny_pure ?_))
    have hd : items.toList.drop i = items[i] :: items.toList.drop (i + 1) := by simp [List.drop_eq_getElem_cons, hlt]
    have := hQ h₂ (by rw [show i + (n + 1) = i + 1 + n by lia]; exact hit₂) (hs₁.trans hs₂)
    rw [hd, List.take_succ_cons] at this
    exact this
theorem unpackItems_list {t : Addr} {items : Array Value} {Q : List Value → Shared → Prop} (hh : A.handled = none) (ht : s.heap.IsList t items)
    (hQ : ∀ h', Heap.ExtBut s.heap.objs.size s.heap h' → Q items.toList { s with heap := h' }) : wpAny (model prog w) A (unpackItems (.ref t) items.size none) Q E s := by
  have hlt : t ≠ s.heap.objs.size := by obtain ⟨o, ho, _⟩ := ht; exact Nat.ne_of_lt (Heap.lt_size ho)
  unfold unpackItems
  refine wpAny_bind ?_
  · unfold notIterableAtAll
    refine wpAny_bind (wpAny_specialOf ht.typeIs slot_list_iter.lookup ?_)
    refine wpAny_pure ?_
    simp only [Bool.false_eq_true, if_false]
    refine wpAny_bind (wpAny_holding (wpAny_pyIter_list ht ?_))
    have htp : (s.heap.push { cls := .type "list_iterator", data := .fields #[.ref t, .int 0 0] }).IsList t items := IsList.ext ht (Ext.push _ _)
    refine wpAny_bind (wpAny_holding (draw_list hlt items.size 0 _ _ ⟨_, Heap.get?_push_size _ rfl, rfl, rfl⟩ htp (by lia) fun h₁ hit₁ hs₁ => ?_))
    have hall : List.take items.size (List.drop 0 items.toList) = items.toList := by
      rw [List.drop_zero]; exact List.take_of_length_le (by simp)
    rw [hall]
    rw [if_neg (by simp)]
    have ht₁ : h₁.IsList t items := IsList.same htp hs₁ hlt
    refine wpAny_bind (wpAny_holding (wpAny_pyNext_list_end hh hit₁ ht₁ (by simp) fun h₂ he₂ => ?_))
    simp only [Option.isSome_none, Bool.false_eq_true, if_false]
    refine wpAny_pure (hQ h₂ fun b o hb e => he₂ b o hb (hs₁.extBut b o hb (Heap.get?_push_of_some _ e)))
/-- a, b = a list of two -/
theorem w_asgTup2L {a b : Str} {pa pb tp : Pos} {kk : Nat} {T : Addr} {x y : Value} {m : Str → Option Value} {Q : Unit → Heap → Prop} (hh : A.handled = none) (ht : Ls h T [x, y]) (hn : h.Ns env.locals m)
    (ha : env.kindOf a = some .local) (hb : env.kindOf b = some .local) (hp : (env.scope.kind == .class || (env.scope.kind == .module && env.locals != env.globals)) = false)
    (k : ∀ h', h'.Ns env.locals (fun z => if z = b then some y else if z = a then some x else m z) → Kept [env.locals] h h' → Q () h') :
    Wp (model prog w) A (assign (.Tuple [.Name a pa, .Name b pb] kk tp) env (.ref T)) Q h := fun s hs => by
  subst hs
  rw [arm_assign_Tuple]
  refine wpAny_bind (wpAny_standAt ?_)
  have ht' : s.heap.IsList T #[x, y] := ht.isList
  show wpAny _ _ (unpack (.ref T) (assignEach [.Name a pa, .Name b pb] env)) _ _ s
  unfold unpack
  show wpAny _ _ (holding _ (unpackItems (.ref T) 2 none) >>= _) _ _ s
  refine wpAny_bind (wpAny_holding (unpackItems_list (items := #[x, y]) hh ht' fun h₁ he₁ => ?_))
  have hL : env.locals ≠ s.heap.objs.size := Nat.ne_of_lt hn.lt
  have hn₁ : h₁.Ns env.locals m := hn.at' fun o e => he₁ _ o hL e
  have up₁ : ∀ c o, s.heap.get? c = some o → h₁.get? c = some o := fun c o e => he₁ c o (Nat.ne_of_lt (Heap.lt_size e)) e
  show wpAny _ _ (assignInOrder [assign (.Name a pa) env, assign (.Name b pb) env] [x, y]) _ _ _
  refine assignInOrder_cons ?_
  refine wpAny_assign_Name (wpAny_storeName_local ha hn₁ (fun h₂ hn₂ hs₂ => ?_) hp)
  refine assignInOrder_cons ?_
  refine wpAny_assign_Name (wpAny_storeName_local hb hn₂ (fun h₃ hn₃ hs₃ => ?_) hp)
  refine assignInOrder_nil ?_
  exact ⟨⟨rfl, rfl⟩, k h₃ hn₃ fun c o hc e => hs₃.extBut c o (by simpa using hc) (hs₂.extBut c o (by simpa using hc) (up₁ c o e))⟩
/-- sorted(l): ints -/
theorem w_sortedI {base : Heap} {L l : Addr} {m : Str → Option Value} {vs : List Value} {ns : List Int} {Q : Value → Heap → Prop} (F : Fr base L h m) (hl : h.IsList l vs.toArray) (hi : IntsAre vs ns) (h64 : ns.length < 64)
    (k : ∀ D vs' ns' h', Fr base L h' m → Kept [L] h h' → Ls h' D vs' → IntsAre vs' ns' → ns'.Perm ns → ns'.Pairwise (· ≤ ·) → Q (.ref D) h') :
    Wp (model prog w) A (call (.builtin "sorted") [.ref l]) Q h := by
  intro s hs
  subst hs
  refine kso_sorted (news := allNews base s.heap L) F (allNews_ok _ _ _) hl hi h64 (fun D vs' ns' c h' F' N' hD a1 a2 a3 a4 a5 => ⟨⟨rfl, rfl⟩, ?_⟩)
  exact k D vs' ns' h' F' (kept_of_news F F' fun p hp => (N' p (by simp [hp])).1) ⟨c, (N' (D, _) (List.mem_cons_self ..)).1⟩ a1 a3 a4
end
end Mine
end
section
open PySem PySem.W PyProof.Rows PySem.Calls
set_option Elab.async false
set_option maxRecDepth 100000
set_option linter.unusedVariables false
set_option linter.unusedSimpArgs false
namespace Mine
theorem S_ne6 : ∀ i, i < 6 → ∀ k, k < i → S (kinds6.getD k []) ≠ S (kinds6.getD i []) := by decide +kernel
theorem valueAt_mem {kvs : List (Str × Value)} (hn : (kvs.map (·.1)).Nodup) {k : Str} {v : Value} (h : (k, v) ∈ kvs) : valueAt kvs k = some v := by
  induction kvs with
  | nil => cases h
  | cons p kvs ih =>
    obtain ⟨k', v'⟩ := p
    simp only [List.map_cons, List.nodup_cons] at hn
    unfold valueAt
    by_cases e : k' = k
    · subst e
      rcases List.mem_cons.mp h with h | h
      · cases h; simp
      · exact absurd (List.mem_map.mpr ⟨_, h, rfl⟩) hn.1
    · rcases List.mem_cons.mp h with h | h
      · cases h; exact absurd rfl e
      · rw [List.find?_cons_of_neg (by simpa using e)]
        exact ih hn.2 h
theorem DP.nodup {prog : Program} {w : World} {h : Heap} {d : Addr} {kvs : List (Str × Value)} (x : DP prog w h d kvs) : (kvs.map (·.1)).Nodup := by
  obtain ⟨o, es, ep, ho, hc, hdat, hk, hp, hn⟩ := x
  exact hn
section
variable {prog : Program} {w : World} {A : Around} {h : Heap} {env : Env}
/-- x = {k: v for ..} with a frame -/
theorem w_asgDc {base h0 : Heap} {S : List Addr} {L : Addr} {m : Str → Option Value} {kx vx target iter : Expr} {scope : Scope} {cl : List (Str × Addr)} {pos pos' pos2 : Pos} {y : Str} {Q : Flow → Heap → Prop} (X0 : Fs base h0 S L h m) (ht : isNameT target = true)
    (hclos : closureFor scope env = pure cl) (hcell : (scope.names.all fun y => y.2 != .cell) = true) (hkind : scope.kind = .function) (hnames : (scope.names.all fun y => y.2 != .local || decide (scope.names.lookup y.1 = some .local)) = true)
    (hsw : swapsWith (.DictComp kx vx [⟨target, iter, [], 0⟩] scope pos) (some (.Name y pos')) pos2.line env = pure true) (hL : env.locals = L) (hS : L ∈ S) (hly : env.kindOf y = some .local) (hp : (env.scope.kind == .class || (env.scope.kind == .module && env.locals != env.globals)) = false)
    (e : Wp (model prog w) A (eval iter env) (fun xv h₁ => ∃ n P old, Iter prog w A target (fun Q => Wp (model prog w) A (pyIter xv) Q h₁) n P old h₁ ∧ n ≤ 1000 ∧ (∀ b ∈ old, b < h₁.objs.size) ∧ Ext h h₁ ∧
      ∃ J, DcT prog w A env kx vx target scope cl n P h₁ [] J ∧
        (∀ b0 f D C h'' h', h₁.objs.size ≤ D → D < C → C < b0 → L < h₁.objs.size → DP prog w h' D f → J b0 n f h'' → Kept [L, C] h'' h' → Ext h₁ h'' → Fs base h0 S L h' (fun z => if z = y then some (.ref D) else m z) → Q .next h')) h)
    (hs : ∀ x, foldedSetIterable iter env x = pure x := by intro _; rfl) :
    Wp (model prog w) A (exec (.Assign [.Name y pos'] (.DictComp kx vx [⟨target, iter, [], 0⟩] scope pos) pos2) env) Q h := by
  refine w_asgUsed hsw (w_dcIU ht hclos hcell hkind hnames (e.mono fun xv h₁ z => ?_) hs)
  obtain ⟨n, P, old, it, hn, hold, ex0, J, Y, k⟩ := z
  have X := X0.ext ex0
  refine ⟨n, P, old, it, hn, hold, [], J, by simp, Y, fun b0 f D C h' mC hD hDC hCb l j kk ns => ?_⟩
  have ex : Ext h₁ h' := fun b o e => kk b o (by first | (with_reducible (first | exact im1 | exact im2 | exact im3 | exact sb0 | exact sb1 im1 | exact sb1 im2 | exact sb1 im3)) | exact nmc (adne (by decide)) nm0 | exact nmc (adne (by decide)) (nmc (adnn (by decide)) nm0) | simp) e
  have X' := X.ext ex
  have hLn : L < h₁.objs.size := X.ns.lt
  have hCL : C ≠ L := by lia
  have hDL : D ≠ L := by lia
  refine w_asgName (w_stF X' (fun h3 X3 sb3 => ⟨⟨mC, ns.at' fun o e => (sb3.2 _ hCL).trans e⟩, fun h4 sb4 => ?_⟩) hS hL hly hp)
  refine k b0 f D C h' h4 hD hDC hCb hLn ((l.sameBut sb3 hDL).sameBut sb4 (Nat.ne_of_lt hDC)) j ((Kept.of_same sb3 (by first | (with_reducible (first | exact im1 | exact im2 | exact im3 | exact sb0 | exact sb1 im1 | exact sb1 im2 | exact sb1 im3)) | exact nmc (adne (by decide)) nm0 | exact nmc (adne (by decide)) (nmc (adnn (by decide)) nm0) | simp)).trans (Kept.of_same sb4 (by first | (with_reducible (first | exact im1 | exact im2 | exact im3 | exact sb0 | exact sb1 im1 | exact sb1 im2 | exact sb1 im3)) | exact nmc (adne (by decide)) nm0 | exact nmc (adne (by decide)) (nmc (adnn (by decide)) nm0) | simp))) ex ?_
  refine X3.kept (T := [C]) (Kept.of_same sb4 (by first | (with_reducible (first | exact im1 | exact im2 | exact im3 | exact sb0 | exact sb1 im1 | exact sb1 im2 | exact sb1 im3)) | exact nmc (adne (by decide)) nm0 | exact nmc (adne (by decide)) (nmc (adnn (by decide)) nm0) | simp)) (List.forall_mem_singleton.mpr ?_) (by simpa using hCL.symm) (List.forall_mem_singleton.mpr ?_)
  · exact get_none (Nat.le_trans X.F.above (Nat.le_of_lt (Nat.lt_of_lt_of_le hLn (Nat.le_trans hD (Nat.le_of_lt hDC)))))
  · by_cases hCS : C ∈ S
    · exact .inl hCS
    · refine .inr ?_
      cases e0 : h0.get? C with
      | none => rfl
      | some o =>
        have := Heap.lt_size (X.K _ _ hCS e0)
        lia
end
abbrev wSp (ring : List W) : List W := spw [] ring (sig wlt ring ring.length) (wT ring)
/-- the places of a word's own spots -/
def wOwn (ring : List W) (x : W) : Nat × Nat := (cL wlt (wSp ring) x, cR wlt (wSp ring) x)
section
variable {prog : Program} {w : World} {A : Around} {h base H : Heap} {mg mb : Str → Option Value} {L : Addr}
set_option maxHeartbeats 4000000 in
theorem ph8a {n : Nat} {kl SL b0 : Addr} {kys : List Value} {hs : List Addr} {ring : List W} {Q : Flow → Heap → Prop} {m : Str → Option Value} (GB : Gd w mg mb H base) (ok : OkA (n + 5) A) (F : Fr base L h m)
    (c1 : h.IsCell (L + 1) (some (.ref kl))) (c8 : h.IsCell (L + 8) (some (.ref SL)))
    (lk : Ls h kl kys) (sk : Strs kys kinds6) (hN : ring.length ≤ 18) (hN0 : 2 ≤ ring.length)
    (hH : HeardAt h (wL0 ring) b0 hs ring.length) (lS : Ls h SL ((wT ring).map fun k => Value.ref (hs.getD k 0)))
    (k : ∀ h' m' od f, Fr base L h' m' → Kept [L] h h' → DM prog w h' od f → m' nOwn = some (.ref od) → h.objs.size ≤ od →
      (∀ x ∈ kinds6, ∃ tp t1 t2, f (S x) = some (.ref tp) ∧ h.objs.size ≤ tp ∧ h'.get? tp = some (tpl [.int ((wOwn ring x).1 : Nat) t1, .int ((wOwn ring x).2 : Nat) t2])) → (∀ x, x ≠ nOwn → m' x = m x) → Wp (model prog w) A (execs ((lawB w).drop 31) (lawE w L)) Q h') :
    Wp (model prog w) A (execs ((lawB w).drop 30) (lawE w L)) Q h := by
  have ctx : ∀ {h' m'}, Fr base L h' m' → Gd w mg mb H h' := fun F' => GB.ext F'.keep
  have X : Fs base h [L] L h m := Fs.mk0 F _
  have hkl := sk.length
  have hk6 : kys.length = 6 := hkl
  have tlen := spt_len (wL0 ring) ring.length
  have wlen : (wSp ring).length = ring.length := by simp [wSp, spw, tlen]
  have srt := (wB ring).spw_sorted
  have hit : ∀ t, isNameT t = true → Iter prog w A t (fun Q => Wp (model prog w) A (pyIter (.ref kl)) Q h) 6 (fun i v _ => kys[i]? = some v) [kl] h := fun t ht => by
    have := iterList (target := t) (.inl ht) ok.3 lk.isList (prog := prog) (w := w) (h := h)
    rw [hk6] at this
    exact this
  refine w_cons ?_
  refine w_asgDc X (cl := [(nSpots, L + 8)]) rfl rfl rfl rfl rfl rfl rfl (by first | (with_reducible (first | exact im1 | exact im2 | exact im3 | exact sb0 | exact sb1 im1 | exact sb1 im2 | exact sb1 im3)) | exact nmc (adne (by decide)) nm0 | exact nmc (adne (by decide)) (nmc (adnn (by decide)) nm0) | simp) rfl rfl ?_
  refine w_nmC (c := L + 1) rfl c1 ?_
  refine ⟨6, (fun i v _ => kys[i]? = some v), [kl], ?_, by lia, by simpa using lk.lt, Ext.refl _, (fun b0' i f h' => ∃ tpf : Nat → Addr, f = (List.range i).map (fun k => (S (kinds6.getD k []), Value.ref (tpf k))) ∧ ∀ k, k < i → b0' ≤ tpf k ∧ ∃ t1 t2, h'.get? (tpf k) = some (tpl [.int ((wOwn ring (kinds6.getD k [])).1 : Nat) t1, .int ((wOwn ring (kinds6.getD k [])).2 : Nat) t2])),
    ⟨fun b0' i f h1 h2 ⟨tpf, e, hJ⟩ off => ⟨tpf, e, fun k hk => let ⟨a, t1, t2, g⟩ := hJ k hk; ⟨a, t1, t2, off _ _ (.inr a) g⟩⟩, fun b0' => ⟨fun _ => (0 : Nat), rfl, fun k hk => absurd hk (Nat.not_lt_zero _)⟩, fun b0' C i v f h' mm hi hC hbC hv hJ hfl kk ns => ?_⟩, fun b0' f D C h'' h' hD hDC hCb hLl hdp hJ k2 ex X2 => ?_⟩
  · exact hit _ rfl
  · obtain ⟨tpf, ef, hJ⟩ := hJ
    obtain ⟨x, hx⟩ : ∃ x, kinds6[i]? = some x := ⟨_, List.getElem?_eq_getElem (by simpa [kinds6] using hi)⟩
    have hxd : kinds6.getD i [] = x := by simp [List.getD_eq_getElem?_getD, hx]
    obtain ⟨tx, htx⟩ := sk.get hx
    rw [htx] at hv
    cases hv
    have hCh : h.get? C = none := get_none hC
    refine w_asgName ?_
    refine w_store (env := compEnvC _ [(nSpots, L + 8)] C (lawE w L)) (m := mm) ns (fun h2' n2 sb2' => ?_) rfl rfl
    have kC : Kept [C] h' h2' := Kept.of_same sb2' (List.mem_singleton.mpr rfl)
    have e02 : Ext h h2' := fun b o e => kC b o (by simp only [List.mem_singleton]; intro q; subst q; rw [hCh] at e; cases e) (kk b o (by first | (with_reducible (first | exact im1 | exact im2 | exact im3 | exact sb0 | exact sb1 im1 | exact sb1 im2 | exact sb1 im3)) | exact nmc (adne (by decide)) nm0 | exact nmc (adne (by decide)) (nmc (adnn (by decide)) nm0) | simp) e)
    have G2 := (ctx F).ext e02
    have lS2 := lS.ext e02
    have hH2 := hH.kept (Kept.of_ext (S := []) e02) (by first | (with_reducible (first | exact im1 | exact im2 | exact im3 | exact sb0 | exact sb1 im1 | exact sb1 im2 | exact sb1 im3)) | exact nmc (adne (by decide)) nm0 | exact nmc (adne (by decide)) (nmc (adnn (by decide)) nm0) | simp)
    have RL := hH2.rows (j := ring.length) (Nat.le_refl _) lS2
    obtain ⟨k0, k1, hk0, hk1, hkk⟩ := RL.keys
    rw [List.length_map, tlen] at hk0
    have hget : ∀ j v, k0[j]? = some v → j < ring.length ∧ ∃ t, v = .str (S ((wSp ring).getD j [])) t := fun j v e => by
      have hj : j < ring.length := by
        rcases Nat.lt_or_ge j ring.length with q | q
        · exact q
        · rw [List.getElem?_eq_none (by lia)] at e; cases e
      obtain ⟨v', u, t1', t2', f1, f2, f3, f4, f5⟩ := hkk j (hs.getD (spt wlt (wL0 ring) ring.length)[j] 0) (by simp [hj, tlen])
      rw [f1] at e; cases e
      exact ⟨hj, t1', f4⟩
    have hkey : KeyOk (n + 4) prog w h2' (.ref aFi) ((wT ring).map fun k => Value.ref (hs.getD k 0)) k0 := by
      refine .inr ⟨⟨_, rfl⟩, kpFn aFi G2.now (by kernel_rfl) (by kernel_rfl), by rw [hk0, List.length_map]; exact tlen.symm, fun j v kv e1' e2' => ?_⟩
      simp only [List.getElem?_map, Option.map_eq_some_iff] at e1'
      obtain ⟨b, eb, rfl⟩ := e1'
      obtain ⟨v, u, t1', t2', f1, f2, f3, f4, f5⟩ := hkk j (hs.getD b 0) (by simp [eb])
      rw [f1] at e2'; cases e2'
      exact fi_key G2 f3.isList (by first | (with_reducible (first | exact im1 | exact im2 | exact im3 | exact sb0 | exact sb1 im1 | exact sb1 im2 | exact sb1 im3)) | exact nmc (adne (by decide)) nm0 | exact nmc (adne (by decide)) (nmc (adnn (by decide)) nm0) | simp)
    have hgd : ∀ j (hj : j < ring.length), (wSp ring).getD j [] = (wSp ring)[j]'(by rw [wlen]; exact hj) := fun j hj => by simp [List.getD_eq_getElem?_getD, wlen, hj]
    have hLle := cLR wlt_lin (wSp ring) x
    have hRle : cR wlt (wSp ring) x ≤ ring.length := by rw [← wlen]; exact List.countP_le_length
    show Wp _ _ _ _ _
    refine w_nm n2 (if_pos rfl) ?_
    refine w_tuple ?_
    refine w_arg ?_
    refine w_callN ?_
    refine w_gK G2.now (v := .ref aBL) (by kernel_rfl) ?_
    refine w_args ?_
    refine w_arg ?_
    refine w_nmC (c := L + 8) rfl (c8.keeps e02) ?_
    refine w_arg ?_
    refine w_nm n2 (if_pos rfl) ?_
    refine w_arg0 ?_
    refine w_kw ?_
    refine w_gK G2.now (v := .ref aFi) (by kernel_rfl) ?_
    refine w_kw0 ⟨kpFn aBL G2.now (by kernel_rfl) (by kernel_rfl), ?_⟩
    refine bl_call (n := n + 4) (ks := k0) (lo := 0) (hi := ring.length) (r := cL wlt (wSp ring) x) (less := fun j => wlt ((wSp ring).getD j []) x) G2.now ok lS2.isList (by simp [tlen]; lia) (bl_b2k w _ _ _) (.inl ⟨rfl, by simp [tlen]⟩) (Nat.zero_le _) (by lia) (by simp [tlen]) hkey ?_ ?_ ?_ (fun h3 t3 e3 => ?_)
    · intro j _ hj
      have hjl : j < ring.length := by lia
      show wlt ((wSp ring).getD j []) x = true
      rw [hgd j hjl]
      exact (cL_iff wlt_lin srt x j (by rw [wlen]; exact hjl)).mp hj
    · intro j hj1 hjl
      show wlt ((wSp ring).getD j []) x = false
      rw [hgd j hjl]
      cases q : wlt ((wSp ring)[j]'(by rw [wlen]; exact hjl)) x with
      | false => rfl
      | true => exact absurd ((cL_iff wlt_lin srt x j (by rw [wlen]; exact hjl)).mpr q) (Nat.not_lt.mpr hj1)
    · intro j v e1'
      obtain ⟨_, t, rfl⟩ := hget j v e1'
      exact cmp_str1
    have G3 := G2.ext e3
    refine w_arg ?_
    refine w_callN ?_
    refine w_gK G3.now (v := .ref aBR) (by kernel_rfl) ?_
    refine w_args ?_
    refine w_arg ?_
    refine w_nmC (c := L + 8) rfl ((c8.keeps e02).keeps e3) ?_
    refine w_arg ?_
    refine w_nm (n2.keeps e3) (if_pos rfl) ?_
    refine w_arg0 ?_
    refine w_kw ?_
    refine w_gK G3.now (v := .ref aFi) (by kernel_rfl) ?_
    refine w_kw0 ⟨kpFn aBR G3.now (by kernel_rfl) (by kernel_rfl), ?_⟩
    refine br_call (n := n + 4) (ks := k0) (lo := 0) (hi := ring.length) (r := cR wlt (wSp ring) x) (less := fun j => wlt x ((wSp ring).getD j [])) G3.now ok (lS2.ext e3).isList (by simp [tlen]; lia) (br_b2k w _ _ _) (.inl ⟨rfl, by simp [tlen]⟩) (Nat.zero_le _) (by lia) (by simp [tlen]) (hkey.ext e3) ?_ ?_ ?_ (fun h4 t4 e4 => ?_)
    · intro j _ hj
      have hjl : j < ring.length := by lia
      show wlt x ((wSp ring).getD j []) = false
      rw [hgd j hjl]
      exact (cR_iff wlt_lin srt x j (by rw [wlen]; exact hjl)).mp hj
    · intro j hj1 hjl
      show wlt x ((wSp ring).getD j []) = true
      rw [hgd j hjl]
      cases q : wlt x ((wSp ring)[j]'(by rw [wlen]; exact hjl)) with
      | true => rfl
      | false => exact absurd ((cR_iff wlt_lin srt x j (by rw [wlen]; exact hjl)).mpr q) (Nat.not_lt.mpr hj1)
    · intro j v e1'
      obtain ⟨_, t, rfl⟩ := hget j v e1'
      exact cmp_str1
    refine w_arg0 ⟨by simp [sizeLine_eq], fun h5 T hT e5 g5 z5 => ?_⟩
    have k25 : Ext h2' h5 := e3.trans (e4.trans e5)
    have hCl : C < h2'.objs.size := n2.lt
    have hb0T : b0' ≤ T := by
      have : C < h4.objs.size := ((n2.keeps e3).keeps e4).lt
      rw [hT, hbC]; exact this
    refine ⟨S x, tx, rfl, kC.trans (Kept.of_ext k25), ⟨_, n2.keeps k25⟩, fun k => if k = i then T else tpf k, ?_, fun k hk => ?_⟩
    · have hany : f.any (fun kv => kv.1 = S x) = false := by
        rw [List.any_eq_false]
        intro p hp
        rw [ef] at hp
        obtain ⟨k, hk, rfl⟩ := List.mem_map.mp hp
        have := S_ne6 i hi k (List.mem_range.mp hk)
        rw [hxd] at this
        simpa using this
      unfold stored
      rw [hany]
      simp only [Bool.false_eq_true, if_false]
      rw [List.range_succ, List.map_append, ef]
      congr 1
      · refine List.map_congr_left fun k hk => ?_
        have := List.mem_range.mp hk
        rw [if_neg (by lia)]
      · simp [hx]
    · by_cases q : k = i
      · subst q
        show b0' ≤ (if _ then _ else _) ∧ _
        simp only [if_true, hxd]
        exact ⟨hb0T, t3, t4, g5⟩
      · simp only [q, if_false]
        obtain ⟨a, t1, t2, g⟩ := hJ k (by lia)
        exact ⟨a, t1, t2, k25 _ _ (kC _ _ (by simp only [List.mem_singleton] at ⊢; lia) g)⟩
  · obtain ⟨tpf, ef, hJ⟩ := hJ
    have kLC : Kept [L] h h' := fun b o nb e => k2 b o (by
      simp only [List.mem_cons, List.not_mem_nil, or_false, not_or]
      refine ⟨by simpa using nb, ?_⟩
      have := Heap.lt_size e
      lia) (ex b o e)
    refine k h' _ D (valueAt f) X2.F kLC hdp.mapOf rfl hD (fun x hx => ?_) (fun x hx => if_neg hx)
    obtain ⟨i, hi, hxi⟩ := List.getElem_of_mem hx
    have hi6 : i < 6 := hi
    have hxd : kinds6.getD i [] = x := by simp [List.getD_eq_getElem?_getD, hi, hxi]
    obtain ⟨a, t1, t2, g⟩ := hJ i hi6
    rw [hxd] at g
    have hmem : (S x, Value.ref (tpf i)) ∈ f := by
      rw [ef]; exact List.mem_map.mpr ⟨i, List.mem_range.mpr hi6, by rw [hxd]⟩
    refine ⟨tpf i, t1, t2, valueAt_mem hdp.nodup hmem, by lia, k2 _ _ (by simp only [List.mem_cons, List.not_mem_nil, or_false, not_or] at ⊢; lia) g⟩
end
end Mine
end
section
open PySem PySem.W PyProof.Rows PySem.Calls
set_option Elab.async false
set_option maxRecDepth 100000
set_option linter.unusedVariables false
set_option linter.unusedSimpArgs false
namespace Mine
abbrev nDue : Str := Str.ofString "due"
abbrev nStart : Str := Str.ofString "start"
theorem IntsAre.LA {h : Heap} {a : Addr} {vs : List Value} {ns : List Int} (l : Ls h a vs) (x : IntsAre vs ns) : LA h a (ns.map At.i) := by
  refine ⟨vs, l, ?_⟩
  clear l
  induction x with
  | nil => exact trivial
  | cons n t x ih => exact ⟨⟨_, rfl⟩, ih⟩
theorem kin_ints : ∀ (a b : List Int), Kin (a.map At.i) (b.map At.i) = true
  | [], b => rfl
  | _ :: _, [] => rfl
  | _ :: a, _ :: b => by simp [Kin, At.kin, kin_ints a b]
theorem dec_strs (a b : List W) : decide (a.map At.s = b.map At.s) = decide (a = b) := by
  rw [decide_eq_decide]
  exact List.map_inj_right (fun x y h => At.s.inj h)
def dueL (ring ph : List W) (i : Nat) : List Nat := (List.range i).filter fun i => decide (((ring ++ ring).drop i).take ph.length = ph)
theorem dueL_succ (ring ph : List W) (i : Nat) : dueL ring ph (i + 1) = if ((ring ++ ring).drop i).take ph.length = ph then dueL ring ph i ++ [i] else dueL ring ph i := by
  unfold dueL
  rw [List.range_succ, List.filter_append]
  by_cases q : ((ring ++ ring).drop i).take ph.length = ph
  · simp [q]
  · simp [q]
theorem due_sorted (ring ph : List W) (i : Nat) : (dueL ring ph i).Pairwise (· < ·) := List.Pairwise.filter _ List.pairwise_lt_range
theorem due_len (ring ph : List W) (i : Nat) : (dueL ring ph i).length ≤ i := by
  have := List.length_filter_le (fun i => decide (((ring ++ ring).drop i).take ph.length = ph)) (List.range i)
  rw [List.length_range] at this
  exact this
def ph8N : List Str := [nStart, nLow, nHigh, nDue]
theorem cellOff {n0 b0 : Addr} {h h' : Heap} {c : Addr} {v : Option Value} (x : h.IsCell c v) (k : Off n0 b0 h h') (hc : c < n0) : h'.IsCell c v := let ⟨o, e, r⟩ := x; ⟨o, k _ _ (.inl hc) e, r⟩
theorem cell_nf {h : Heap} {c : Addr} {v : Option Value} (x : h.IsCell c v) : ∀ o vs, h.get? c = some o → o.data ≠ .fields vs := by
  intro o vs e hv
  obtain ⟨o', e', hd⟩ := cell_data x
  rw [e] at e'; cases e'; exact hd _ hv
theorem ns_nf {h : Heap} {L : Addr} {m : Str → Option Value} (x : h.Ns L m) : ∀ o vs, h.get? L = some o → o.data ≠ .fields vs := by
  intro o vs e hv
  obtain ⟨o', e', hd⟩ := ns_data x
  rw [e] at e'; cases e'; exact hd _ hv
section
variable {prog : Program} {w : World} {A : Around} {h base H : Heap} {mg mb : Str → Option Value} {L : Addr}
set_option maxHeartbeats 8000000 in
theorem ph8b {n : Nat} {wl kl rg R SL od b0 lo hi : Addr} {wys kys rys : List Value} {hs : List Addr} {Tf Kf : Nat → Addr} {ring words : List W} {f : Str → Option Value} {ts : Tok} {m : Str → Option Value} {Q : Flow → Heap → Prop} (GB : Gd w mg mb H base) (ok : OkA (n + 5) A) (F : Fr base L h m)
    (C0 : CodeHd H codeT tabT) (hb : H.BuiltinsAt mg tabT) (hP : H.get? tabT = none) (T : TabP H h tabT (placesT w)) (hPb : base.get? tabT = none) (hPL : tabT < L)
    (c1 : h.IsCell (L + 1) (some (.ref kl))) (c3 : h.IsCell (L + 3) (some (.ref rg))) (c4 : h.IsCell (L + 4) (some (.int (ring.length : Nat) ts))) (c6 : h.IsCell (L + 6) (some (.ref R))) (c8 : h.IsCell (L + 8) (some (.ref SL))) (c9 : h.IsCell (L + 9) none) (hcb : ∀ i, L < i → base.get? i = none)
    (lw : Ls h wl wys) (hwn : wys.length ≤ ring.length) (lk : Ls h kl kys) (sk : Strs kys kinds6) (lr : Ls h rg rys) (sr : Strs rys ring) (hrk : ∀ x ∈ ring, x ∈ kinds6) (hN : ring.length ≤ 18) (hN0 : 3 ≤ ring.length)
    (lR : Ls h R ((sig wlt ring ring.length).map fun i => Value.ref (Tf i))) (hT : ∀ i, i < ring.length → TurnAt h (Tf i) (Kf i) i (rot ring i) lo hi)
    (hH : HeardAt h (wL0 ring) b0 hs ring.length) (lS : Ls h SL ((wT ring).map fun k => Value.ref (hs.getD k 0)))
    (hD : DM prog w h od f) (hf : ∀ x ∈ kinds6, ∃ tp t1 t2, f (S x) = some (.ref tp) ∧ L + 9 < tp ∧ h.get? tp = some (tpl [.int ((wOwn ring x).1 : Nat) t1, .int ((wOwn ring x).2 : Nat) t2]))
    (hgt : L + 9 < wl ∧ L + 9 < kl ∧ L + 9 < rg ∧ L + 9 < R ∧ L + 9 < SL ∧ L + 9 < od ∧ L + 9 < b0 ∧ L + 9 < lo)
    (mw : m nWords = some (.ref wl)) (mo : m nOwn = some (.ref od)) (k : ∀ h' m', Fr base L h' m' → Kept [L, L + 9, tabT] h h' → TabP H h' tabT (placesT w) → Q (.ret (.bool true)) h') :
    Wp (model prog w) A (execs ((lawB w).drop 31) (lawE w L)) Q h := by
  have ctx : ∀ {h' m'}, Fr base L h' m' → Gd w mg mb H h' := fun F' => GB.ext F'.keep
  obtain ⟨gw, gk, gr, gR, gS, go, gb, gl⟩ := hgt
  have big : ∀ {a : Addr}, L + 9 < a → a ∉ [L, L + 9, tabT] := fun {a} ha => by
    simp only [List.mem_cons, List.not_mem_nil, or_false, not_or]
    refine ⟨?_, ?_, ?_⟩ <;> (lia)
  have cel : ∀ {i : Nat}, 0 < i → i < 9 → L + i ∉ [L, L + 9, tabT] := fun {i} a b => by
    simp only [List.mem_cons, List.not_mem_nil, or_false, not_or]
    refine ⟨?_, ?_, ?_⟩ <;> (lia)
  have X : Fs base h [L, L + 9, tabT] L h m := Fs.mk0 F _
  have slen := sig_len ring ring.length
  have tlen := spt_len (wL0 ring) ring.length
  have hrn := sr.length
  have hbS : ∀ s ∈ [L, L + 9, tabT], s < b0 := by
    simp only [List.mem_cons, List.not_mem_nil, or_false]
    rintro s (q | q | q) <;> (rw [q]; lia)
  have hlS : ∀ s ∈ [L, L + 9, tabT], s < lo ∨ hi ≤ s := by
    simp only [List.mem_cons, List.not_mem_nil, or_false]
    rintro s (q | q | q) <;> (rw [q]; left; lia)
  have hS9 : ∀ s ∈ [L, L + 9, tabT], s ≤ L + 9 := by
    simp only [List.mem_cons, List.not_mem_nil, or_false]
    rintro s (q | q | q) <;> (rw [q]; lia)
  have RL0 := hH.rows (j := ring.length) (Nat.le_refl _) lS
  have f1 : ∀ {h' m'}, Fs base h [L, L + 9, tabT] L h' m' → h'.IsCell (L + 1) (some (.ref kl)) := fun Y => IsCell.kept c1 Y.K (cel (by decide) (by decide))
  have f3 : ∀ {h' m'}, Fs base h [L, L + 9, tabT] L h' m' → h'.IsCell (L + 3) (some (.ref rg)) := fun Y => IsCell.kept c3 Y.K (cel (by decide) (by decide))
  have f4 : ∀ {h' m'}, Fs base h [L, L + 9, tabT] L h' m' → h'.IsCell (L + 4) (some (.int (ring.length : Nat) ts)) := fun Y => IsCell.kept c4 Y.K (cel (by decide) (by decide))
  have f6 : ∀ {h' m'}, Fs base h [L, L + 9, tabT] L h' m' → h'.IsCell (L + 6) (some (.ref R)) := fun Y => IsCell.kept c6 Y.K (cel (by decide) (by decide))
  have f8 : ∀ {h' m'}, Fs base h [L, L + 9, tabT] L h' m' → h'.IsCell (L + 8) (some (.ref SL)) := fun Y => IsCell.kept c8 Y.K (cel (by decide) (by decide))
  have fk : ∀ {h' m'}, Fs base h [L, L + 9, tabT] L h' m' → Ls h' kl kys := fun Y => lsKept lk Y.K (big gk)
  have fr : ∀ {h' m'}, Fs base h [L, L + 9, tabT] L h' m' → Ls h' rg rys := fun Y => lsKept lr Y.K (big gr)
  have fR : ∀ {h' m'}, Fs base h [L, L + 9, tabT] L h' m' → Ls h' R ((sig wlt ring ring.length).map fun i => Value.ref (Tf i)) := fun Y => lsKept lR Y.K (big gR)
  have fT : ∀ {h' m'}, Fs base h [L, L + 9, tabT] L h' m' → ∀ i, i < ring.length → TurnAt h' (Tf i) (Kf i) i (rot ring i) lo hi := fun Y i hi => (hT i hi).kept Y.K hlS
  have fS : ∀ {h' m'}, Fs base h [L, L + 9, tabT] L h' m' → RowsL h' SL ((wT ring).map fun k => hs.getD k 0) ((wT ring).map (wL0 ring)) ((wT ring).map (· + 1)) := fun Y => RL0.kept Y.K (big gS) (fun a ha => by
    obtain ⟨j, hj, rfl⟩ := List.mem_map.mp ha
    exact big (Nat.lt_of_lt_of_le gb (hH.get (growN_lt _ _ _ hj)).2))
  have fD : ∀ {h' m'}, Fs base h [L, L + 9, tabT] L h' m' → DM prog w h' od f := fun Y => hD.kept Y.K (big go)
  have h9 : ∀ {h' : Heap} {v}, h'.IsCell (L + 9) v → L + 9 < h'.objs.size := fun ⟨o, e, _⟩ => Heap.lt_size e
  refine w_cons ?_
  refine w_for ?_
  refine w_callN ?_
  refine w_gB (v := .type "range") (ctx F).now (by kernel_rfl) (by kernel_rfl) (by decide) ?_
  refine w_args ?_
  refine w_arg ?_
  refine w_callN ?_
  refine w_gB (v := .builtin "len") (ctx F).now (by kernel_rfl) (by kernel_rfl) (by decide) ?_
  refine w_args ?_
  refine w_arg ?_
  refine w_nm F.ns mw ?_
  refine w_arg0 ?_
  refine w_kw0 ⟨Kp.builtin _, ?_⟩
  refine w_lenList lw.isList (by simp; lia) fun _ => ?_
  refine w_arg0 ?_
  refine w_kw0 ⟨Kp.type _, ?_⟩
  refine w_range fun h1 r t1 t2 t3 hr e1 z1 ir => ?_
  rw [List.size_toArray] at ir
  have X1 := X.ext e1
  have c91 := c9.keeps e1
  have T1 := T.ext e1
  have L1 : L < h1.objs.size := X1.ns.lt
  have z91 := h9 c91
  have tb1 : tabT < h1.objs.size := Nat.lt_trans hPL L1
  have hS1 : ∀ s ∈ [L, L + 9, tabT], s < h1.objs.size := fun s hs => Nat.lt_of_le_of_lt (hS9 s hs) z91
  refine w_forI (iterRange0 rfl ok.3 ir (by lia)) [L, L + 9, tabT] (fun s hs => ⟨hS1 s hs, by simp⟩)
    (fun b1 i h' => ∃ m' v9, Fr base L h' m' ∧ (∀ x, x ∉ ph8N → m' x = m x) ∧ h'.IsCell (L + 9) v9 ∧ TabR (fun c => c < h1.objs.size ∨ b1 ≤ c) H h' tabT (placesT w))
    (fun b1 i h1' h2' ⟨m', v9, F', e, c, t⟩ off => ⟨m', v9, frOff F' off L1, e, cellOff c off z91, t.off off tb1 (fun c hc => hc)⟩) (fun b1 => ⟨m, none, X1.F, fun _ _ => rfl, c91, T1.tabR.imp fun c _ hc => .inl hc⟩) (fun b1 i v h2 hi hlv hPv hJ k2 => w_hide fun Qb hQb => ?_) (fun b1 h2 hJ k2 => ?_)
  · obtain ⟨m2, v9, F2, m2o, c92, T2⟩ := hJ
    obtain ⟨tv, rfl⟩ := hPv
    have hi : i < ring.length := Nat.lt_of_lt_of_le hi hwn
    have X2 : Fs base h [L, L + 9, tabT] L h2 m2 := ⟨F2, X1.K.trans k2⟩
    have z92 := h9 c92
    refine w_asgName ?_
    refine w_stF X2 fun h3 X3 sb3 => ?_
    generalize hm3 : (fun z => if z = nStart then some (Value.int (i : Nat) tv) else m2 z) = m3 at X3
    have m3s : m3 nStart = some (Value.int (i : Nat) tv) := by rw [← hm3]; rfl
    have m3o : ∀ x, x ∉ ph8N → m3 x = m x := fun x hx => by
      rw [← hm3]
      have h1 : x ≠ nStart := fun q => hx (by simp [ph8N, q])
      simp only [h1, if_false]
      exact m2o x hx
    have c93 : h3.IsCell (L + 9) v9 := IsCell.kept c92 (Kept.of_same (S := [L]) sb3 (by first | (with_reducible (first | exact im1 | exact im2 | exact im3 | exact sb0 | exact sb1 im1 | exact sb1 im2 | exact sb1 im3)) | exact nmc (adne (by decide)) nm0 | exact nmc (adne (by decide)) (nmc (adnn (by decide)) nm0) | simp)) (by first | (with_reducible (first | exact im1 | exact im2 | exact im3 | exact sb0 | exact sb1 im1 | exact sb1 im2 | exact sb1 im3)) | exact nmc (adne (by decide)) nm0 | exact nmc (adne (by decide)) (nmc (adnn (by decide)) nm0) | simp)
    have T3 := T2.same F2.ns sb3 (Nat.ne_of_lt hPL)
    obtain ⟨j2, hj2, hj2a, hj2b⟩ : ∃ j, j < ring.length ∧ ((i : Int) - 2 = (j : Nat) ∨ (i : Int) - 2 + rys.length = (j : Nat)) ∧ ((i : Int) - 2 + rys.length = (j : Nat) → (i : Int) - 2 < 0) := by
      by_cases q : 2 ≤ i
      · exact ⟨i - 2, by lia, by lia, by lia⟩
      · exact ⟨ring.length + i - 2, by lia, by lia, by lia⟩
    obtain ⟨j1, hj1, hj1a, hj1b⟩ : ∃ j, j < ring.length ∧ ((i : Int) - 1 = (j : Nat) ∨ (i : Int) - 1 + rys.length = (j : Nat)) ∧ ((i : Int) - 1 + rys.length = (j : Nat) → (i : Int) - 1 < 0) := by
      by_cases q : 1 ≤ i
      · exact ⟨i - 1, by lia, by lia, by lia⟩
      · exact ⟨ring.length + i - 1, by lia, by lia, by lia⟩
    have gx : ∀ j, j < ring.length → ∃ x t, rys[j]? = some (Value.str (S x) t) ∧ x ∈ kinds6 := fun j hj => by
      obtain ⟨t, e⟩ := sr.get (List.getElem?_eq_getElem hj)
      exact ⟨_, t, e, hrk _ (List.getElem_mem hj)⟩
    obtain ⟨x2, tx2, ex2, kx2⟩ := gx j2 hj2
    obtain ⟨x1, tx1, ex1, kx1⟩ := gx j1 hj1
    obtain ⟨x0, tx0, ex0, kx0⟩ := gx i hi
    have hm6 : i % 6 < kinds6.length := by have := Nat.mod_lt i (show 0 < 6 by decide); simpa [kinds6] using this
    obtain ⟨ty, ey⟩ := sk.get (List.getElem?_eq_getElem hm6)
    have hzk : kys.length ≤ sizeLine := by rw [sk.length, sizeLine_eq]; simp [kinds6]
    have hzr : rys.length ≤ sizeLine := by rw [hrn, sizeLine_eq]; lia
    refine w_cons ?_
    refine w_for ?_
    refine w_list ?_
    refine w_arg ?_
    refine w_list ?_
    refine w_arg ?_
    refine w_sub ?_
    refine w_nmC (c := L + 3) rfl (f3 X3) ?_
    refine w_binOp ?_
    refine w_nm X3.ns m3s ?_
    refine w_cInt fun _ => ?_
    refine w_subInt fun _ => ?_
    refine w_itemI (j := j2) (fr X3).isList hj2a hj2b ex2 hzr ?_
    refine w_arg ?_
    refine w_sub ?_
    refine w_nmC (c := L + 3) rfl (f3 X3) ?_
    refine w_binOp ?_
    refine w_nm X3.ns m3s ?_
    refine w_cInt fun _ => ?_
    refine w_subInt fun _ => ?_
    refine w_itemI (j := j1) (fr X3).isList hj1a hj1b ex1 hzr ?_
    refine w_arg ?_
    refine w_sub ?_
    refine w_nmC (c := L + 3) rfl (f3 X3) ?_
    refine w_nm X3.ns m3s ?_
    refine w_itemL (j := i) (fr X3).isList ex0 hzr ?_
    refine w_arg0 ⟨by simp [sizeLine_eq], fun h4 p1 hp1 e4 l4 z4 => ?_⟩
    have X4 := X3.ext e4
    refine w_arg ?_
    refine w_list ?_
    refine w_arg ?_
    refine w_sub ?_
    refine w_nmC (c := L + 3) rfl (f3 X4) ?_
    refine w_nm X4.ns m3s ?_
    refine w_itemL (j := i) (fr X4).isList ex0 hzr ?_
    refine w_arg ?_
    refine w_sub ?_
    refine w_nmC (c := L + 1) rfl (f1 X4) ?_
    refine w_binOp ?_
    refine w_nm X4.ns m3s ?_
    refine w_cInt fun _ => ?_
    refine w_modInt (by decide) fun _ => ?_
    rw [show ((i : Int)).fmod 6 = ((i % 6 : Nat) : Int) from mod_nat i 6 (by decide)]
    refine w_itemL (j := i % 6) (fk X4).isList ey hzk ?_
    refine w_arg0 ⟨by simp [sizeLine_eq], fun h5 p2 hp2 e5 l5 z5 => ?_⟩
    have X5 := X4.ext e5
    refine w_arg0 ⟨by simp [sizeLine_eq], fun h6 pl hpl e6 l6 z6 => ?_⟩
    have X6 := X5.ext e6
    have e36 : Ext h3 h6 := e4.trans (e5.trans e6)
    have c96 := c93.keeps e36
    have T6 := T3.ext e36
    have z93 := h9 c93
    have z94 := h9 (c93.keeps e4)
    have z95 := h9 ((c93.keeps e4).keeps e5)
    have z96 := h9 c96
    have gp1 : L + 9 < p1 := by rw [hp1]; exact z93
    have gp2 : L + 9 < p2 := by rw [hp2]; exact z94
    have gpl : L + 9 < pl := by rw [hpl]; exact z95
    have L6 : L < h6.objs.size := X6.ns.lt
    have tb6 : tabT < h6.objs.size := Nat.lt_trans hPL L6
    have hS6 : ∀ s ∈ [L, L + 9, tabT], s < h6.objs.size := fun s hs => Nat.lt_of_le_of_lt (hS9 s hs) z96
    have k26 : Kept [L, L + 9, tabT] h2 h6 := ((Kept.of_same (S := [L]) sb3 (by first | (with_reducible (first | exact im1 | exact im2 | exact im3 | exact sb0 | exact sb1 im1 | exact sb1 im2 | exact sb1 im3)) | exact nmc (adne (by decide)) nm0 | exact nmc (adne (by decide)) (nmc (adnn (by decide)) nm0) | simp)).mono (by first | (with_reducible (first | exact im1 | exact im2 | exact im3 | exact sb0 | exact sb1 im1 | exact sb1 im2 | exact sb1 im3)) | exact nmc (adne (by decide)) nm0 | exact nmc (adne (by decide)) (nmc (adnn (by decide)) nm0) | simp)).trans (Kept.of_ext e36)
    have b16 : b1 ≤ h6.objs.size := live_le hlv k26 hS1
    have phr : ∀ (j : Nat) (v : Value), [Value.ref p1, Value.ref p2][j]? = some v → ∃ (pa : Addr) (ys : List Value) (ph : List W), v = Value.ref pa ∧ L + 9 < pa ∧ Ls h6 pa ys ∧ Strs ys ph ∧ ph.length ≤ 3 ∧ ∀ x ∈ ph, x ∈ kinds6 := fun j v hv => by
      match j, hv with
      | 0, hv =>
        cases hv
        refine ⟨p1, _, [x2, x1, x0], rfl, gp1, l4.ext (e5.trans e6), ⟨⟨_, rfl⟩, ⟨_, rfl⟩, ⟨_, rfl⟩, trivial⟩, by simp, ?_⟩
        simp only [List.mem_cons, List.not_mem_nil, or_false]
        rintro x (q | q | q) <;> (rw [q]; assumption)
      | 1, hv =>
        cases hv
        refine ⟨p2, _, [x0, kinds6[i % 6]], rfl, gp2, l5.ext e6, ⟨⟨_, rfl⟩, ⟨_, rfl⟩, trivial⟩, by simp, ?_⟩
        simp only [List.mem_cons, List.not_mem_nil, or_false]
        rintro x (q | q)
        · rw [q]; exact kx0
        · rw [q]; exact List.getElem_mem _
    refine w_forI (iterList (.inl rfl) ok.3 l6.isList) [L, L + 9, tabT] (fun s hs => ⟨hS6 s hs, by
        simp only [List.mem_singleton]; intro q; have := hS9 s hs; rw [q] at this; exact absurd gpl (Nat.not_lt.mpr this)⟩)
      (fun b2 j h' => ∃ m' v9, Fr base L h' m' ∧ (∀ x, x ∉ ph8N → m' x = m x) ∧ h'.IsCell (L + 9) v9 ∧ TabR (fun c => (c < h1.objs.size ∨ b1 ≤ c) ∧ (c < h6.objs.size ∨ b2 ≤ c)) H h' tabT (placesT w))
      (fun b2 j h1' h2' ⟨m', v9, F', e, c, t⟩ off => ⟨m', v9, frOff F' off L6, e, cellOff c off z96, t.off off tb6 (fun c hc => hc.2)⟩) (fun b2 => ⟨m3, v9, X6.F, m3o, c96, T6.imp fun c hlt hc => ⟨hc, .inl hlt⟩⟩) (fun b2 j v h7 hj hlv2 hPv hJ k7 => w_hide fun Qc hQc => ?_) (fun b2 h7 hJ k7 => ?_)
    · obtain ⟨m7, v97, F7, m7o, c97, T7⟩ := hJ
      have X7 : Fs base h [L, L + 9, tabT] L h7 m7 := ⟨F7, X6.K.trans k7⟩
      obtain ⟨pa, pys, ph, rfl, gpa, lpa6, spa, hphl, hphk⟩ := phr j v hPv
      have lpa7 := lsKept lpa6 k7 (big gpa)
      have hpyl := spa.length
      refine w_asgName ?_
      refine w_storeC (c := L + 9) rfl c97 (fun h8 c98 sb8 => ?_)
      have X8 := X7.kept (T := [L + 9]) (Kept.of_same sb8 (by first | (with_reducible (first | exact im1 | exact im2 | exact im3 | exact sb0 | exact sb1 im1 | exact sb1 im2 | exact sb1 im3)) | exact nmc (adne (by decide)) nm0 | exact nmc (adne (by decide)) (nmc (adnn (by decide)) nm0) | simp)) (List.forall_mem_singleton.mpr (hcb _ (by lia))) (by first | (with_reducible (first | exact im1 | exact im2 | exact im3 | exact sb0 | exact sb1 im1 | exact sb1 im2 | exact sb1 im3)) | exact nmc (adne (by decide)) nm0 | exact nmc (adne (by decide)) (nmc (adnn (by decide)) nm0) | simp) (by first | (with_reducible (first | exact im1 | exact im2 | exact im3 | exact sb0 | exact sb1 im1 | exact sb1 im2 | exact sb1 im3)) | exact nmc (adne (by decide)) nm0 | exact nmc (adne (by decide)) (nmc (adnn (by decide)) nm0) | simp)
      have k78 : Kept [L, L + 9, tabT] h7 h8 := (Kept.of_same (S := [L + 9]) sb8 (by first | (with_reducible (first | exact im1 | exact im2 | exact im3 | exact sb0 | exact sb1 im1 | exact sb1 im2 | exact sb1 im3)) | exact nmc (adne (by decide)) nm0 | exact nmc (adne (by decide)) (nmc (adnn (by decide)) nm0) | simp)).mono (by first | (with_reducible (first | exact im1 | exact im2 | exact im3 | exact sb0 | exact sb1 im1 | exact sb1 im2 | exact sb1 im3)) | exact nmc (adne (by decide)) nm0 | exact nmc (adne (by decide)) (nmc (adnn (by decide)) nm0) | simp)
      have lpa8 := lsKept lpa7 k78 (big gpa)
      have T8 := T7.kept (Kept.of_same (S := [L + 9]) sb8 (by first | (with_reducible (first | exact im1 | exact im2 | exact im3 | exact sb0 | exact sb1 im1 | exact sb1 im2 | exact sb1 im3)) | exact nmc (adne (by decide)) nm0 | exact nmc (adne (by decide)) (nmc (adnn (by decide)) nm0) | simp)) (by simp only [List.mem_singleton]; lia) (List.forall_mem_singleton.mpr (cell_nf c97))
      have b18 : b1 ≤ h8.objs.size := live_le hlv (k26.trans (k7.trans k78)) hS1
      have b28 : b2 ≤ h8.objs.size := live_le hlv2 k78 hS6
      refine w_cons ?_
      refine w_asgTup ?_
      refine w_callN ?_
      refine w_gK (ctx X8.F).now (v := .ref aSt) (by kernel_rfl) ?_
      refine w_args ?_
      refine w_arg ?_
      refine w_nmC (c := L + 8) rfl (f8 X8) ?_
      refine w_arg ?_
      refine w_nm X8.ns ((m7o nOwn (by decide)).trans mo) ?_
      refine w_arg ?_
      refine w_nmC (c := L + 9) rfl c98 ?_
      refine w_arg0 ?_
      refine w_kw0 ⟨kpFn aSt (ctx X8.F).now (by kernel_rfl) (by kernel_rfl), ?_⟩
      have own_ok := fun x => (wB ring).own_ok [] wlt_lin x
      have svl : ((wT ring).map fun k => hs.getD k 0).length = ring.length := by rw [List.length_map]; exact tlen
      refine w_call (st_call (n := n + 2) (ph := ph) (own := wOwn ring) (ctx X8.F) ok T8 (fun c hc => ⟨.inr (Nat.le_trans b18 hc), .inr (Nat.le_trans b28 hc)⟩) C0 hb hP (fS X8) (fD X8) lpa8 spa (by rw [svl]; lia) (by lia) ⟨?_, ?_, ?_⟩ (fun a ha => ?_) (fun x hx => ?_) (fun x hx => ?_) (fun h9' tp u1 u2 gtp htp k9 T9 => ?_))
      · lia
      · lia
      · lia
      · obtain ⟨q, hq, rfl⟩ := List.mem_map.mp ha
        have := (hH.get (growN_lt _ _ _ hq)).2
        lia
      · obtain ⟨tp, t1', t2', ff, g9, ge⟩ := hf x (hphk x hx)
        exact ⟨tp, t1', t2', ff, by lia, X8.K _ _ (big g9) ge⟩
      · rw [svl]; exact own_ok x
      rw [svl] at gtp
      have hfound := (wB ring).found [] wlt_lin (wOwn ring) ph (by lia) (fun x hx => rfl) (stretch ((wT ring).map (· + 1)) (wOwn ring) ring.length ph).1 (stretch ((wT ring).map (· + 1)) (wOwn ring) ring.length ph).2 rfl
      generalize (stretch ((wT ring).map (· + 1)) (wOwn ring) ring.length ph).1 = slo at gtp hfound
      generalize (stretch ((wT ring).map (· + 1)) (wOwn ring) ring.length ph).2 = shi at gtp hfound
      have X9 := X8.kept (T := [tabT]) k9 (by simpa using hPb) (by simp only [List.mem_singleton]; exact Nat.ne_of_gt hPL) (by first | (with_reducible (first | exact im1 | exact im2 | exact im3 | exact sb0 | exact sb1 im1 | exact sb1 im2 | exact sb1 im3)) | exact nmc (adne (by decide)) nm0 | exact nmc (adne (by decide)) (nmc (adnn (by decide)) nm0) | simp)
      refine w_asgTup2F X9 ok.3 ⟨_, gtp, rfl, _, rfl⟩ (fun h10 X10 k10 => ?_)
      generalize hm10 : (fun z => if z = nHigh then some (Value.int (shi : Nat) u2) else if z = nLow then some (Value.int (slo : Nat) u1) else m7 z) = m10 at X10
      have m10h : m10 nHigh = some (Value.int (shi : Nat) u2) := by rw [← hm10]; rfl
      have m10l : m10 nLow = some (Value.int (slo : Nat) u1) := by rw [← hm10]; rfl
      have m10o : ∀ x, x ∉ ph8N → m10 x = m x := fun x hx => by
        rw [← hm10]
        have h1 : x ≠ nHigh := fun q => hx (by simp [ph8N, q])
        have h2 : x ≠ nLow := fun q => hx (by simp [ph8N, q])
        simp only [h1, h2, if_false]
        exact m7o x hx
      have T10 := T9.keptL X9.ns k10 (Nat.ne_of_lt hPL)
      have k8a : Kept [L, L + 9, tabT] h8 h10 := (k9.mono (by first | (with_reducible (first | exact im1 | exact im2 | exact im3 | exact sb0 | exact sb1 im1 | exact sb1 im2 | exact sb1 im3)) | exact nmc (adne (by decide)) nm0 | exact nmc (adne (by decide)) (nmc (adnn (by decide)) nm0) | simp)).trans (k10.mono (by first | (with_reducible (first | exact im1 | exact im2 | exact im3 | exact sb0 | exact sb1 im1 | exact sb1 im2 | exact sb1 im3)) | exact nmc (adne (by decide)) nm0 | exact nmc (adne (by decide)) (nmc (adnn (by decide)) nm0) | simp))
      have c910 : h10.IsCell (L + 9) (some (.ref pa)) := IsCell.kept (IsCell.kept c98 k9 (by simp only [List.mem_singleton] at ⊢; lia)) k10 (by first | (with_reducible (first | exact im1 | exact im2 | exact im3 | exact sb0 | exact sb1 im1 | exact sb1 im2 | exact sb1 im3)) | exact nmc (adne (by decide)) nm0 | exact nmc (adne (by decide)) (nmc (adnn (by decide)) nm0) | simp)
      have lpa10 := lsKept lpa8 k8a (big gpa)
      have z910 := h9 c910
      refine w_cons ?_
      refine w_asgLc X10 (cl := [(nRing, L + 3), (nPhrase, L + 9)]) (by first | (with_reducible (first | exact im1 | exact im2 | exact im3 | exact sb0 | exact sb1 im1 | exact sb1 im2 | exact sb1 im3)) | exact nmc (adne (by decide)) nm0 | exact nmc (adne (by decide)) (nmc (adnn (by decide)) nm0) | simp) rfl rfl rfl rfl rfl rfl (by first | (with_reducible (first | exact im1 | exact im2 | exact im3 | exact sb0 | exact sb1 im1 | exact sb1 im2 | exact sb1 im3)) | exact nmc (adne (by decide)) nm0 | exact nmc (adne (by decide)) (nmc (adnn (by decide)) nm0) | simp) rfl rfl ?_
      refine w_callN ?_
      refine w_gB (v := .type "range") (ctx X10.F).now (by kernel_rfl) (by kernel_rfl) (by decide) ?_
      refine w_args ?_
      refine w_arg ?_
      refine w_nmC (c := L + 4) rfl (f4 X10) ?_
      refine w_arg0 ?_
      refine w_kw0 ⟨Kp.type _, ?_⟩
      refine w_range fun h11 r' t1' t2' t3' hr' e11 z11 ir' => ?_
      refine ⟨ring.length, _, [], iterRange0 rfl ok.3 ir' (by lia), by rw [sizeLine_eq]; lia, by simp, e11,
        (fun b3 i ys h' => IntsAre ys ((dueL ring ph i).map fun i : Nat => (i : Int))), ⟨fun b3 i ys h1' h2' hJ off => hJ, fun b3 => .nil, fun b3 C i' v ys h' mm hi' hC hbb hv hJ kk hy ns => t_hide fun Qd hQd => ?_⟩, fun b3 ys D C h12 h13 hD hDC hCb hLn l13 hy hJ k13 ex13 X13 => ?_⟩
      · obtain ⟨tv', rfl⟩ := hv
        have hCh : h10.get? C = none := by
          cases q : h10.get? C with
          | none => rfl
          | some o => exact absurd (Heap.lt_size (e11 _ _ q)) (Nat.not_lt.mpr hC)
        refine w_asgName ?_
        refine w_store (env := compEnvC _ [(nRing, L + 3), (nPhrase, L + 9)] C (lawE w L)) (m := mm) ns (fun h2' n2 sb2' => ?_) rfl rfl
        have kC : Kept [C] h' h2' := Kept.of_same sb2' (List.mem_singleton.mpr rfl)
        have e02 : Ext h10 h2' := fun b o e => kC b o (by simp only [List.mem_singleton]; intro q; subst q; rw [hCh] at e; cases e) (kk b o (by first | (with_reducible (first | exact im1 | exact im2 | exact im3 | exact sb0 | exact sb1 im1 | exact sb1 im2 | exact sb1 im3)) | exact nmc (adne (by decide)) nm0 | exact nmc (adne (by decide)) (nmc (adnn (by decide)) nm0) | simp) (e11 b o e))
        have Z2 := X10.ext e02
        refine TestElt.mk1 ?_
        refine w_tCmp ?_
        refine w_sub ?_
        refine w_binOp ?_
        refine w_nmC (c := L + 3) rfl (f3 Z2) ?_
        refine w_nmC (c := L + 3) rfl (f3 Z2) ?_
        refine w_addList (fr Z2) (fr Z2) (by rw [hrn, sizeLine_eq]; lia) (fun h3' e3' l3' z3' => ?_)
        have Z3 := Z2.ext e3'
        refine w_slice ?_
        refine w_part ?_
        refine w_nm (n2.keeps e3') (if_pos rfl) ?_
        refine w_part ?_
        refine w_binOp ?_
        refine w_nm (n2.keeps e3') (if_pos rfl) ?_
        refine w_callN ?_
        refine w_gB (v := .builtin "len") ((ctx Z3.F)).now (by kernel_rfl) (by kernel_rfl) (by decide) ?_
        refine w_args ?_
        refine w_arg ?_
        refine w_nmC (c := L + 9) rfl ((c910.keeps e02).keeps e3') ?_
        refine w_arg0 ?_
        refine w_kw0 ⟨Kp.builtin _, ?_⟩
        refine w_lenList ((lpa10.ext e02).ext e3').isList (by simp; lia) fun _ => ?_
        refine w_addInt fun _ => ?_
        refine w_part0 ?_
        rw [show ((i' : Int) + ((pys.toArray.size : Nat) : Int)) = ((i' + ph.length : Nat) : Int) by rw [List.size_toArray, hpyl]; lia]
        refine w_sliceL l3'.isList (lo := some (i' : Int)) (hi := some ((i' + ph.length : Nat) : Int)) (st := none) (.int _ _) (.int _ _) .none (by decide) (fun K h4' hK e4' l4' z4' => ?_) (by rw [List.length_append, hrn, sizeLine_eq]; lia) _ rfl
        rw [slice_mid, show i' + ph.length - i' = ph.length by lia] at l4'
        refine w_nmC (c := L + 9) rfl (((c910.keeps e02).keeps e3').keeps e4') ?_
        have s4 : Strs (List.take ph.length (List.drop i' (rys ++ rys))) (((ring ++ ring).drop i').take ph.length) := ((sr.append sr).drop i').take ph.length
        refine w_eqList (Strs.LA l4' s4) (Strs.LA (((lpa10.ext e02).ext e3').ext e4') spa) (kin_strs _ _) (by have := ok.units; rw [show cLine = 9900 from rfl] at *; lia) ?_
        rw [dec_strs]
        refine w_tBool ?_
        have kf := kC.trans (Kept.of_ext (e3'.trans e4'))
        have nf := n2.keeps (e3'.trans e4')
        by_cases q : ((ring ++ ring).drop i').take ph.length = ph
        · rw [decide_eq_true q, if_pos rfl]
          refine w_nm nf (if_pos rfl) ?_
          refine hQd _ _ ⟨kf, ⟨_, nf⟩, ?_⟩
          show IntsAre (ys ++ [_]) ((dueL ring ph (i' + 1)).map _)
          rw [dueL_succ, if_pos q, List.map_append]
          exact IntsAre.append hJ (.cons _ _ .nil)
        · rw [decide_eq_false q, if_neg (by decide)]
          refine hQd _ _ ⟨kf, ⟨_, nf⟩, ?_⟩
          show IntsAre ys ((dueL ring ph (i' + 1)).map _)
          rw [dueL_succ, if_neg q]
          exact hJ
      · generalize hm13 : (fun z => if z = nDue then some (Value.ref D) else m10 z) = m13 at X13
        have m13d : m13 nDue = some (.ref D) := by rw [← hm13]; rfl
        have m13x : ∀ x, x ≠ nDue → m13 x = m10 x := fun x hx => by rw [← hm13]; exact if_neg hx
        have k1013 : Kept [L, L + 9, tabT] h10 h13 := fun b o nb e => k13 b o (by
          simp only [List.mem_cons, List.not_mem_nil, or_false, not_or] at nb ⊢
          refine ⟨nb.1, ?_⟩
          have := Heap.lt_size (e11 _ _ e)
          lia) (ex13 b o (e11 b o e))
        have kL1013 : Kept [L] h10 h13 := fun b o nb e => k13 b o (by
          simp only [List.mem_cons, List.not_mem_nil, or_false, not_or] at nb ⊢
          refine ⟨nb, ?_⟩
          have := Heap.lt_size (e11 _ _ e)
          lia) (ex13 b o (e11 b o e))
        have T13 := T10.keptL X10.ns kL1013 (Nat.ne_of_lt hPL)
        have c913 := IsCell.kept c910 kL1013 (by first | (with_reducible (first | exact im1 | exact im2 | exact im3 | exact sb0 | exact sb1 im1 | exact sb1 im2 | exact sb1 im3)) | exact nmc (adne (by decide)) nm0 | exact nmc (adne (by decide)) (nmc (adnn (by decide)) nm0) | simp)
        have sdl := due_len ring ph ring.length
        refine w_cons ?_
        refine w_if_ ?_
        refine w_tCmp ?_
        refine w_callN ?_
        refine w_gB (v := .builtin "sorted") (ctx X13.F).now (by kernel_rfl) (by kernel_rfl) (by decide) ?_
        refine w_args ?_
        refine w_arg ?_
        refine w_lcI (cl := []) (by first | (with_reducible (first | exact im1 | exact im2 | exact im3 | exact sb0 | exact sb1 im1 | exact sb1 im2 | exact sb1 im3)) | exact nmc (adne (by decide)) nm0 | exact nmc (adne (by decide)) (nmc (adnn (by decide)) nm0) | simp) rfl rfl rfl rfl ?_
        refine w_sub ?_
        refine w_nmC (c := L + 6) rfl (f6 X13) ?_
        refine w_slice ?_
        refine w_part ?_
        refine w_nm X13.ns ((m13x nLow (by decide)).trans m10l) ?_
        refine w_part ?_
        refine w_nm X13.ns ((m13x nHigh (by decide)).trans m10h) ?_
        refine w_part0 ?_
        refine w_sliceL (fR X13).isList (lo := some (slo : Int)) (hi := some (shi : Int)) (st := none) (.int _ _) (.int _ _) .none (by decide) (fun K h14 hK e14 l14 z14 => ?_) (by rw [List.length_map, slen, sizeLine_eq]; lia) _ rfl
        rw [slice_mid, ← List.map_drop, ← List.map_take] at l14
        have hsg : ((sig wlt ring ring.length).drop slo).take (shi - slo) = ((sig wlt ring ring.length).drop slo).take (shi - slo) := rfl
        generalize hsub : ((sig wlt ring ring.length).drop slo).take (shi - slo) = sub at l14 hfound
        have hsubl : sub.length ≤ ring.length := by rw [← hsub]; simp [slen]; lia
        have hsubm : ∀ x ∈ sub, x < ring.length := fun x hx => by
          rw [← hsub] at hx
          exact growN_lt _ _ _ (List.mem_of_mem_drop (List.mem_of_mem_take hx))
        have X14 := X13.ext e14
        refine ⟨_, _, [K], iterList (.inr rfl) ok.3 l14.isList, by rw [List.length_map, sizeLine_eq]; lia, by simpa using l14.lt, [], (fun b4 i ys h' => IntsAre ys ((sub.take i).map fun i : Nat => (i : Int))), by simp,
          ⟨fun b4 i ys h1' h2' hJ off => hJ, fun b4 => .nil, fun b4 C4 i4 v ys4 h' mm hi4 hC4 hbb4 hv hJ4 kk hy4 ns => ?_⟩, fun b4 ys4 D4 h15 hD4 hb4 l15 hy4 hJ4 k15 => ?_⟩
        · rw [List.getElem?_map, Option.map_eq_some_iff] at hv
          obtain ⟨a4, ea4, rfl⟩ := hv
          have ha4 := hsubm a4 (List.mem_of_getElem? ea4)
          have Z4 : Fs base h [L, L + 9, tabT] L h' m13 := X14.ext (fun b o e => kk b o (by first | (with_reducible (first | exact im1 | exact im2 | exact im3 | exact sb0 | exact sb1 im1 | exact sb1 im2 | exact sb1 im3)) | exact nmc (adne (by decide)) nm0 | exact nmc (adne (by decide)) (nmc (adnn (by decide)) nm0) | simp) e)
          obtain ⟨⟨ta, lTa⟩, _, _⟩ := fT Z4 a4 ha4
          refine w_asgTup2L (env := compEnvC _ [] C4 (lawE w L)) (m := mm) ok.3 lTa ns rfl rfl rfl (fun h2' n2 k2' => ?_)
          show Wp _ _ _ _ _
          refine w_nm n2 (if_pos rfl) ?_
          refine ⟨k2', ⟨_, n2⟩, ?_⟩
          show IntsAre (ys4 ++ [_]) ((sub.take (i4 + 1)).map _)
          rw [List.take_add_one, ea4, List.map_append]
          exact IntsAre.append hJ4 (.cons _ _ .nil)
        · rw [List.length_map, List.take_length] at hJ4
          have X15 := X14.ext (fun b o e => k15 b o (by first | (with_reducible (first | exact im1 | exact im2 | exact im3 | exact sb0 | exact sb1 im1 | exact sb1 im2 | exact sb1 im3)) | exact nmc (adne (by decide)) nm0 | exact nmc (adne (by decide)) (nmc (adnn (by decide)) nm0) | simp) e)
          refine w_arg0 ?_
          refine w_kw0 ⟨Kp.builtin _, ?_⟩
          refine w_sortedI X15.F l15.isList hJ4 (by rw [List.length_map]; lia) (fun D16 vs16 ns16 h16 F16 k16 l16 i16 p16 s16 => ?_)
          have X16 : Fs base h [L, L + 9, tabT] L h16 m13 := ⟨F16, X15.K.trans (k16.mono (by first | (with_reducible (first | exact im1 | exact im2 | exact im3 | exact sb0 | exact sb1 im1 | exact sb1 im2 | exact sb1 im3)) | exact nmc (adne (by decide)) nm0 | exact nmc (adne (by decide)) (nmc (adnn (by decide)) nm0) | simp))⟩
          have e1315 : Ext h13 h15 := e14.trans (fun b o e => k15 b o (by first | (with_reducible (first | exact im1 | exact im2 | exact im3 | exact sb0 | exact sb1 im1 | exact sb1 im2 | exact sb1 im3)) | exact nmc (adne (by decide)) nm0 | exact nmc (adne (by decide)) (nmc (adnn (by decide)) nm0) | simp) e)
          have kL1316 : Kept [L] h13 h16 := (Kept.of_ext e1315).trans k16
          have T16 := T13.keptL X13.ns kL1316 (Nat.ne_of_lt hPL)
          have c916 := IsCell.kept c913 kL1316 (by first | (with_reducible (first | exact im1 | exact im2 | exact im3 | exact sb0 | exact sb1 im1 | exact sb1 im2 | exact sb1 im3)) | exact nmc (adne (by decide)) nm0 | exact nmc (adne (by decide)) (nmc (adnn (by decide)) nm0) | simp)
          have hDL : D ≠ L := by lia
          have lD16 := lsKept l13 kL1316 (by simpa using hDL)
          have hns : ns16 = (dueL ring ph ring.length).map fun i : Nat => (i : Int) := by
            have hp2 := p16.trans (hfound.map (fun i : Nat => (i : Int)))
            refine List.Perm.eq_of_pairwise (le := fun a b : Int => a ≤ b) (fun a b _ _ h1 h2 => Int.le_antisymm h1 h2) s16 ?_ hp2
            rw [List.pairwise_map]
            exact (due_sorted ring ph ring.length).imp fun h => by lia
          refine w_nm F16.ns m13d ?_
          refine w_neList (IntsAre.LA l16 i16) (IntsAre.LA lD16 hJ) (kin_ints _ _) (fun x hx => by obtain ⟨y, _, rfl⟩ := List.mem_map.mp hx; rfl) (fun x hx => by obtain ⟨y, _, rfl⟩ := List.mem_map.mp hx; rfl) (by have := ok.units; rw [show cLine = 9900 from rfl] at *; lia) ?_
          rw [hns, decide_eq_true rfl]
          refine w_tBool ⟨fun e => (by cases e), fun _ => w_nil (w_nil (hQc _ _ ⟨?_, m13, _, F16, fun x hx => ?_, c916, T16⟩))⟩
          · exact k78.trans (k8a.trans (k1013.trans (kL1316.mono (by first | (with_reducible (first | exact im1 | exact im2 | exact im3 | exact sb0 | exact sb1 im1 | exact sb1 im2 | exact sb1 im3)) | exact nmc (adne (by decide)) nm0 | exact nmc (adne (by decide)) (nmc (adnn (by decide)) nm0) | simp))))
          · rw [m13x x (fun q => hx (by simp [ph8N, q]))]; exact m10o x hx
    · obtain ⟨m7, v97, F7, m7o, c97, T7⟩ := hJ
      refine w_nil (w_nil (hQb _ _ ⟨k26.trans k7, m7, v97, F7, m7o, c97, T7.imp fun c _ hc => hc.1⟩))
  · obtain ⟨m2, v9, F2, m2o, c92, T2⟩ := hJ
    refine w_nil ?_
    refine w_cons ?_
    refine w_ret ?_
    refine w_cBool ?_
    exact k h2 m2 F2 (X1.K.trans k2) T2.tabP
end
end Mine
end
section
open PySem PySem.W PyProof.Rows PySem.Calls
set_option Elab.async false
set_option maxRecDepth 100000
set_option linter.unusedVariables false
set_option linter.unusedSimpArgs false
namespace Mine
/-! ## what a written word reads as -/
def Chk (c : Nat) (ch : List Nat) : Prop := ch = [92, c] ∨ (ch = [c] ∧ isWhite c = false ∧ c ≠ 92)
def Chks : List Nat → List (List Nat) → Prop
  | [], [] => True
  | c :: w, ch :: cs => Chk c ch ∧ Chks w cs
  | _, _ => False
theorem lexG_stop {stop : Nat → Bool} {c : Nat} {tok r : List Nat} (h : stop c = true) : lexG stop tok (c :: r) = (tok, r) := by rw [lexG.eq_def]; simp [h]
theorem lexG_esc {stop : Nat → Bool} {d : Nat} {tok r : List Nat} (h : stop 92 = false) : lexG stop tok (92 :: d :: r) = lexG stop (tok ++ [d]) r := by rw [lexG.eq_def]; simp [h]
theorem lexG_plain {stop : Nat → Bool} {c : Nat} {tok r : List Nat} (h : stop c = false) (h2 : c ≠ 92) : lexG stop tok (c :: r) = lexG stop (tok ++ [c]) r := by rw [lexG.eq_def]; simp [h, h2]
theorem lexT_w {c : Nat} {r : List Nat} (h : isWhite c = true) : lexT (c :: r) = lexT r := by rw [lexT.eq_def]; simp [h]
theorem lexT_q {r : List Nat} : lexT (34 :: r) = lexG isQuote [] r := by rw [lexT.eq_def]; simp [isWhite]
theorem lexT_e {d : Nat} {r : List Nat} : lexT (92 :: d :: r) = lexG isWhite [d] r := by rw [lexT.eq_def]; simp [isWhite]
theorem lexT_p {c : Nat} {r : List Nat} (h : isWhite c = false) (h1 : c ≠ 34) (h2 : c ≠ 92) : lexT (c :: r) = lexG isWhite [c] r := by rw [lexT.eq_def]; simp [h, h1, h2]
theorem lexG_chks : ∀ (w : List Nat) (cs : List (List Nat)) (tok rest : List Nat), Chks w cs → lexG isWhite tok (cs.flatten ++ rest) = lexG isWhite (tok ++ w) rest
  | [], [], tok, rest, _ => by simp
  | [], _ :: _, _, _, h => h.elim
  | _ :: _, [], _, _, h => h.elim
  | c :: w, ch :: cs, tok, rest, h => by
    obtain ⟨h1, h2⟩ := h
    have ih := lexG_chks w cs (tok ++ [c]) rest h2
    rw [List.append_assoc] at ih
    rcases h1 with rfl | ⟨rfl, a, b⟩
    · simp only [List.flatten_cons, List.cons_append, List.nil_append]
      rw [lexG_esc (by decide)]
      exact ih
    · simp only [List.flatten_cons, List.cons_append, List.nil_append]
      rw [lexG_plain a b]
      exact ih
theorem lexG_quote : ∀ (w : List Nat) (tok rest : List Nat), lexG isQuote tok ((w.map escQ).flatten ++ 34 :: rest) = (tok ++ w, rest)
  | [], tok, rest => by
    show lexG isQuote tok (34 :: rest) = _
    rw [lexG_stop (by decide), List.append_nil]
  | c :: w, tok, rest => by
    have ih := lexG_quote w (tok ++ [c]) rest
    rw [List.append_assoc] at ih
    by_cases q : c ∈ [34, 92]
    · simp only [List.map_cons, List.flatten_cons, escQ, if_pos q, List.cons_append, List.nil_append]
      rw [lexG_esc (by decide)]
      exact ih
    · have h1 : ¬ isQuote c = true := by simp [isQuote] at q ⊢; exact q.1
      have h2 : ¬ c = 92 := by simp at q; exact q.2
      simp only [List.map_cons, List.flatten_cons, escQ, if_neg q, List.cons_append, List.nil_append]
      rw [lexG_plain (by simpa using h1) h2]
      exact ih
theorem lexG_quote_end : ∀ (w : List Nat) (tok : List Nat), lexG isQuote tok ((w.map escQ).flatten) = (tok ++ w, [])
  | [], tok => by simp [lexG]
  | c :: w, tok => by
    have ih := lexG_quote_end w (tok ++ [c])
    rw [List.append_assoc] at ih
    by_cases q : c ∈ [34, 92]
    · simp only [List.map_cons, List.flatten_cons, escQ, if_pos q, List.cons_append, List.nil_append]
      rw [lexG_esc (by decide)]
      exact ih
    · have h1 : ¬ isQuote c = true := by simp [isQuote] at q ⊢; exact q.1
      have h2 : ¬ c = 92 := by simp at q; exact q.2
      simp only [List.map_cons, List.flatten_cons, escQ, if_neg q, List.cons_append, List.nil_append]
      rw [lexG_plain (by simpa using h1) h2]
      exact ih
theorem lexT_white : ∀ (ws rest : List Nat), (∀ c ∈ ws, isWhite c = true) → lexT (ws ++ rest) = lexT rest
  | [], _, _ => rfl
  | c :: ws, rest, h => by
    show lexT (c :: (ws ++ rest)) = _
    rw [lexT_w (h c (by simp))]
    exact lexT_white ws rest (fun c hc => h c (by simp [hc]))
theorem lexT_quote (w rest : List Nat) : lexT ([34] ++ (w.map escQ).flatten ++ [34] ++ rest) = (w, rest) := by
  have := lexG_quote w [] rest
  simp only [List.cons_append, List.nil_append, List.append_assoc]
  rw [lexT_q]
  simpa using this
theorem lexT_quote_end (w : List Nat) : lexT ([34] ++ (w.map escQ).flatten) = (w, []) := by
  have := lexG_quote_end w []
  simp only [List.cons_append, List.nil_append]
  rw [lexT_q]
  simpa using this
theorem lexT_chks (c : Nat) (w : List Nat) (ch : List Nat) (cs : List (List Nat)) (rest : List Nat) (h : Chks (c :: w) (ch :: cs)) (h0 : ch = [c] → c ≠ 34) : lexT ((ch :: cs).flatten ++ rest) = lexG isWhite (c :: w) rest := by
  obtain ⟨h1, h2⟩ := h
  have ih := lexG_chks w cs [c] rest h2
  rcases h1 with rfl | ⟨rfl, a, b⟩
  · simp only [List.flatten_cons, List.cons_append, List.nil_append]
    rw [lexT_e]
    exact ih
  · simp only [List.flatten_cons, List.cons_append, List.nil_append]
    rw [lexT_p a (h0 rfl) b]
    exact ih
/-- a word that the writing can carry -/
def okC (x : List Nat) : Bool := x.all fun c => !decide (c ∈ [9, 10, 13])
def quoted (word : List Nat) (way : Nat) : Bool := decide (word = [] ∨ way = 0)
theorem wrt_quoted {word : List Nat} {way : Nat} (h : quoted word way = true) : wrt word way = [34] ++ (word.map escQ).flatten ++ [34] := by
  unfold wrt; rw [if_pos (of_decide_eq_true h)]
theorem chks_A : ∀ w : List Nat, Chks w (w.map escA)
  | [] => trivial
  | c :: w => ⟨.inl rfl, chks_A w⟩
theorem chks_B : ∀ w : List Nat, okC w = true → Chks w (w.map escB)
  | [], _ => trivial
  | c :: w, h => by
    simp only [okC, List.all_cons, Bool.and_eq_true] at h
    refine ⟨?_, chks_B w h.2⟩
    have h1 := h.1
    unfold escB
    by_cases q : c ∈ [32, 92]
    · rw [if_pos q]; exact .inl rfl
    · rw [if_neg q]
      simp at h1 q
      exact .inr ⟨rfl, by simp [isWhite, h1, q], q.2⟩
theorem wrt_bare {word : List Nat} {way : Nat} (h : quoted word way = false) (ok : okC word = true) (rest : List Nat) : lexT (wrt word way ++ rest) = lexG isWhite word rest ∧ (wrt word way).head? ≠ some 34 := by
  have h' := of_decide_eq_false h
  unfold wrt
  rw [if_neg h']
  cases word with
  | nil => exact absurd (.inl rfl) h'
  | cons c w =>
    by_cases q : way = 1
    · rw [if_pos q]
      refine ⟨lexT_chks c w _ _ rest (chks_A (c :: w)) (by simp [escA]), by simp [escA]⟩
    · rw [if_neg q]
      have hB := chks_B (c :: w) ok
      unfold bareOf
      by_cases q2 : c = 34
      · subst q2
        simp only [List.head?_cons, if_true, List.map_cons, List.set_cons_zero]
        exact ⟨lexT_chks 34 w [92, 34] (w.map escB) rest ⟨.inl rfl, hB.2⟩ (by simp), by simp⟩
      · rw [if_neg (by simpa using q2)]
        refine ⟨lexT_chks c w (escB c) (w.map escB) rest hB (fun _ => q2), ?_⟩
        unfold escB
        simp only [List.map_cons, List.flatten_cons]
        split
        · simp
        · simpa using q2
/-- does the writing of this word leave it bare -/
theorem head_quoted {word : List Nat} {way : Nat} (ok : okC word = true) : (!decide ((wrt word way).head? = some 34)) = !quoted word way := by
  cases h : quoted word way with
  | true => rw [wrt_quoted h]; simp
  | false => have := (wrt_bare h ok []).2; simp [this]
/-! ## the text of the law -/
def wOf (p : List Nat × Int) : List Nat := wrt p.1 (p.2.fmod 3).toNat
def bOf (p : List Nat × Int) : Bool := !decide ((wOf p).head? = some 34)
def tlx : Bool → List (List Nat × Int) → List Nat
  | b, [] => if b = true then [92] else []
  | b, p :: r => txWhite b p.2 ++ ((if r = [] ∧ bOf p = false then (wOf p).dropLast else wOf p) ++ tlx (bOf p) r)
theorem tlx_of : ∀ (r : List (List Nat × Int)) (t : List Nat) (b : Bool), r ≠ [] → (if (r.foldl txStep (t, b)).2 = true then (r.foldl txStep (t, b)).1 ++ [92] else (r.foldl txStep (t, b)).1.dropLast) = t ++ tlx b r
  | [], _, _, h => absurd rfl h
  | [p], t, b, _ => by
    simp only [List.foldl_cons, List.foldl_nil, txStep, tlx]
    show (if bOf p = true then t ++ txWhite b p.2 ++ wOf p ++ [92] else (t ++ txWhite b p.2 ++ wOf p).dropLast) = _
    cases hb : bOf p with
    | true => simp
    | false =>
      have : wOf p ≠ [] := wrt_ne _ _
      simp only [Bool.false_eq_true, if_false, and_self, if_true, List.append_nil]
      rw [List.dropLast_append_of_ne_nil this, List.append_assoc]
  | p :: q :: r, t, b, _ => by
    have ih := tlx_of (q :: r) (t ++ txWhite b p.2 ++ wOf p) (bOf p) (by simp)
    rw [List.foldl_cons]
    have es : txStep (t, b) p = (t ++ txWhite b p.2 ++ wOf p, bOf p) := rfl
    rw [es, ih]
    conv => rhs; rw [tlx]
    rw [if_neg (by simp)]
    simp [List.append_assoc]
theorem txWhite_white (b : Bool) (d : Int) : (∀ c ∈ txWhite b d, isWhite c = true) ∧ (b = true → txWhite b d ≠ []) := by
  have hw : ∀ c ∈ whites d, isWhite c = true := by
    unfold whites
    have h1 := Int.fmod_nonneg_of_pos (d.fdiv 3) (b := 4) (by decide)
    have h2 := Int.fmod_lt_of_pos (d.fdiv 3) (b := 4) (by decide)
    obtain ⟨k, hk⟩ : ∃ k : Nat, (d.fdiv 3).fmod 4 = k := ⟨_, (Int.toNat_of_nonneg h1).symm⟩
    rw [hk]; rw [hk] at h2
    have : k = 0 ∨ k = 1 ∨ k = 2 ∨ k = 3 := by lia
    rcases this with rfl | rfl | rfl | rfl <;> decide
  unfold txWhite
  by_cases q : b = true ∧ whites d = []
  · rw [if_pos q]; exact ⟨by decide, by simp⟩
  · rw [if_neg q]; exact ⟨hw, fun hb e => q ⟨hb, e⟩⟩
/-- what is left ahead of the words r -/
def Nx (R : List Nat) (r : List (List Nat × Int)) : Prop := (r = [] ∧ R = []) ∨ ∃ p r', r = p :: r' ∧ ∃ ws, (∀ c ∈ ws, isWhite c = true) ∧ R = ws ++ ((if r' = [] ∧ bOf p = false then (wOf p).dropLast else wOf p) ++ tlx (bOf p) r')
theorem nx_tlx (r : List (List Nat × Int)) : Nx (tlx false r) r := by
  cases r with
  | nil => exact .inl ⟨rfl, rfl⟩
  | cons p r => exact .inr ⟨p, r, rfl, _, (txWhite_white false p.2).1, rfl⟩
theorem nx_step {R : List Nat} {p : List Nat × Int} {r : List (List Nat × Int)} (h : Nx R (p :: r)) (ok : okC p.1 = true) : (lexT R).1 = p.1 ∧ Nx (lexT R).2 r := by
  rcases h with ⟨h, _⟩ | ⟨p', r', e, ws, hw, rfl⟩
  · cases h
  cases e
  rw [lexT_white _ _ hw]
  have hbq : bOf p = !quoted p.1 (p.2.fmod 3).toNat := head_quoted ok
  cases hq : quoted p.1 (p.2.fmod 3).toNat with
  | true =>
    rw [hq] at hbq
    have hb : bOf p = false := hbq
    have hwq : wOf p = [34] ++ (p.1.map escQ).flatten ++ [34] := wrt_quoted hq
    rw [hb]
    by_cases hr : r = []
    · subst hr
      rw [if_pos ⟨rfl, rfl⟩, hwq, List.dropLast_concat]
      have : tlx false [] = [] := rfl
      rw [this, List.append_nil, lexT_quote_end]
      exact ⟨rfl, .inl ⟨rfl, rfl⟩⟩
    · rw [if_neg (fun q => hr q.1), hwq, lexT_quote]
      exact ⟨rfl, nx_tlx r⟩
  | false =>
    rw [hq] at hbq
    have hb : bOf p = true := hbq
    rw [hb, if_neg (by simp)]
    have h1 := (wrt_bare hq ok (tlx true r)).1
    show (lexT (wrt p.1 (p.2.fmod 3).toNat ++ tlx true r)).1 = _ ∧ Nx (lexT (wrt p.1 (p.2.fmod 3).toNat ++ tlx true r)).2 r
    rw [h1]
    cases r with
    | nil =>
      show (lexG isWhite p.1 [92]).1 = _ ∧ Nx (lexG isWhite p.1 [92]).2 []
      simp [lexG, isWhite, Nx]
    | cons q r =>
      obtain ⟨t1, t2⟩ := txWhite_white true q.2
      cases ht : txWhite true q.2 with
      | nil => exact absurd ht (t2 rfl)
      | cons c ws' =>
        rw [ht] at t1
        rw [tlx, ht, List.cons_append, lexG_stop (t1 c (by simp))]
        exact ⟨rfl, .inr ⟨q, r, rfl, ws', fun c hc => t1 c (by simp [hc]), rfl⟩⟩
theorem nx_rem {text : List Nat} {r : List (List Nat × Int)} (h : Nx text r) (ok : ∀ p ∈ r, okC p.1 = true) : ∀ k, k ≤ r.length → Nx (remT text k) (r.drop k)
  | 0, _ => by simpa [remT] using h
  | k + 1, hk => by
    have ih := nx_rem h ok k (by lia)
    rw [List.drop_eq_getElem_cons (by lia)] at ih
    exact (nx_step ih (ok _ (List.getElem_mem _))).2
theorem nx_read {text : List Nat} {r : List (List Nat × Int)} (h : Nx text r) (ok : ∀ p ∈ r, okC p.1 = true) :
    (∀ i (hi : i < r.length), tokT text i = r[i].1) ∧ tokT text r.length = [] ∧ remT text (r.length + 1) = [] := by
  have hend : remT text r.length = [] := by
    have := nx_rem h ok r.length (Nat.le_refl _)
    rw [List.drop_length] at this
    rcases this with ⟨_, e⟩ | ⟨p, r', e, _⟩
    · exact e
    · cases e
  refine ⟨fun i hi => ?_, ?_, ?_⟩
  · have ih := nx_rem h ok i (by lia)
    rw [List.drop_eq_getElem_cons hi] at ih
    exact (nx_step ih (ok _ (List.getElem_mem _))).1
  · unfold tokT; rw [hend]; rfl
  · show (lexT (remT text r.length)).2 = []; rw [hend]; rfl
/-- the law's text is read as it was drawn -/
theorem lawText_read (words : List (List Nat)) (dr : List Int) (hl : dr.length = words.length) (h0 : words ≠ []) (ok : ∀ x ∈ words, okC x = true) :
    (∀ i, i < words.length → words[i]? = some (tokT (lawText words dr) i)) ∧ tokT (lawText words dr) words.length = [] ∧ remT (lawText words dr) (words.length + 1) = [] := by
  have hz : (words.zip dr).length = words.length := by simp [hl]
  have hne : words.zip dr ≠ [] := by
    intro q
    have := congrArg List.length q
    rw [hz] at this
    exact h0 (List.length_eq_zero_iff.mp (by simpa using this))
  have e : lawText words dr = tlx false (words.zip dr) := by
    have := tlx_of (words.zip dr) [] false hne
    rw [List.nil_append] at this
    unfold lawText txAll
    exact this
  have hnx : Nx (lawText words dr) (words.zip dr) := by rw [e]; exact nx_tlx _
  have hok : ∀ p ∈ words.zip dr, okC p.1 = true := fun p hp => ok _ (List.of_mem_zip hp).1
  obtain ⟨r1, r2, r3⟩ := nx_read hnx hok
  rw [hz] at r2 r3
  refine ⟨fun i hi => ?_, r2, r3⟩
  rw [r1 i (by rw [hz]; exact hi)]
  simp [hi]
/-! ## the page -/
def segOf (p : List Nat × Nat) (c : Nat) : List Nat := wrt p.1 p.2 ++ [c] ++ [10]
/-- the lines from the i-th on -/
def pgF (ring : List W) (i : Nat) : List Nat := (((List.range ring.length).drop i).map (pageSeg ring)).flatten
theorem pgF_step (ring : List W) (i : Nat) (h : i < ring.length) : pgF ring i = pageSeg ring i ++ pgF ring (i + 1) := by
  unfold pgF
  rw [List.drop_eq_getElem_cons (by simpa using h)]
  simp
theorem pgF_end (ring : List W) : pgF ring ring.length = [] := by
  unfold pgF
  rw [List.drop_of_length_le (by simp)]
  rfl
theorem cnt_wrt {word : List Nat} (ok : okC word = true) (way : Nat) : (wrt word way).count 10 = 0 := by
  rw [List.count_eq_zero]
  intro hm
  have hw : ∀ c ∈ word, c ≠ 10 := fun c hc e => by
    have := List.all_eq_true.mp ok c hc
    subst e; simp at this
  have fl : ∀ (f : Nat → List Nat), (∀ c, c ≠ 10 → 10 ∉ f c) → 10 ∉ (word.map f).flatten := fun f hf h => by
    obtain ⟨l, hl, h⟩ := List.mem_flatten.mp h
    obtain ⟨c, hc, rfl⟩ := List.mem_map.mp hl
    exact hf c (hw c hc) h
  unfold wrt at hm
  split at hm
  · simp only [List.mem_append, List.mem_singleton] at hm
    rcases hm with (h | h) | h
    · cases h
    · exact fl escQ (fun c hc => by unfold escQ; split <;> simp <;> lia) h
    · cases h
  · split at hm
    · exact fl escA (fun c hc => by unfold escA; simp; lia) hm
    · unfold bareOf at hm
      split at hm
      · obtain ⟨l, hl, h⟩ := List.mem_flatten.mp hm
        rcases List.mem_or_eq_of_mem_set hl with q | q
        · obtain ⟨c, hc, rfl⟩ := List.mem_map.mp q
          have := hw c hc
          unfold escB at h; split at h <;> simp at h <;> lia
        · subst q; simp at h
      · exact fl escB (fun c hc => by unfold escB; split <;> simp <;> lia) hm
theorem wc4_white (i : Nat) : isWhite (wc4.getD (i % 4) 0) = true ∧ wc4.getD (i % 4) 0 ≠ 10 := by
  have : i % 4 < 4 := Nat.mod_lt _ (by decide)
  have : i % 4 = 0 ∨ i % 4 = 1 ∨ i % 4 = 2 ∨ i % 4 = 3 := by lia
  rcases this with h | h | h | h <;> rw [h] <;> decide
theorem page_read (ring : List W) (ok : ∀ x ∈ ring, okC x = true) :
    (∀ i, i < ring.length → tokT (pageOf ring) i = lasts [] ring (sig wlt ring ring.length) i ∧ (remT (pageOf ring) (i + 1)).count 10 = ring.length - i) ∧ (pageOf ring).count 10 = ring.length ∧ tokT (pageOf ring) ring.length = [] ∧ remT (pageOf ring) (ring.length + 1) = [] := by
  have okl : ∀ i, i < ring.length → okC (lasts [] ring (sig wlt ring ring.length) i) = true := fun i hi => ok _ (lasts_mem ring i hi)
  have cnt : ∀ k i, ring.length - i = k → i ≤ ring.length → (pgF ring i).count 10 = ring.length - i := by
    intro k
    induction k with
    | zero => intro i h h'; have : i = ring.length := by lia
              subst this; rw [pgF_end]; simp
    | succ k ih =>
      intro i h h'
      rw [pgF_step ring i (by lia), List.count_append, ih (i + 1) (by lia) (by lia)]
      unfold pageSeg
      rw [List.count_append, List.count_append, cnt_wrt (okl i (by lia))]
      have := (wc4_white i).2
      have e : [wc4.getD (i % 4) 0].count 10 = 0 := by rw [List.count_eq_zero]; simpa using this.symm
      rw [e]
      have : List.count 10 [10] = 1 := by decide
      lia
  have step : ∀ i ws, i < ring.length → (∀ c ∈ ws, isWhite c = true) → (lexT (ws ++ pgF ring i)).1 = lasts [] ring (sig wlt ring ring.length) i ∧ ∃ ws', (∀ c ∈ ws', isWhite c = true) ∧ ws'.count 10 = 1 ∧ (lexT (ws ++ pgF ring i)).2 = ws' ++ pgF ring (i + 1) := by
    intro i ws hi hw
    rw [lexT_white _ _ hw, pgF_step ring i hi]
    obtain ⟨w1, w2⟩ := wc4_white i
    unfold pageSeg
    generalize wc4.getD (i % 4) 0 = c at w1 w2
    have okx := okl i hi
    generalize hx : lasts [] ring (sig wlt ring ring.length) i = x at *
    cases hq : quoted x (i % 3) with
    | true =>
      rw [wrt_quoted hq]
      have := lexT_quote x ([c] ++ [10] ++ pgF ring (i + 1))
      simp only [List.append_assoc] at this ⊢
      rw [this]
      refine ⟨rfl, [c, 10], ?_, ?_, by simp⟩
      · simp only [List.mem_cons, List.not_mem_nil, or_false]
        rintro b (q | q) <;> rw [q]
        · exact w1
        · decide
      · rw [List.count_cons_of_ne w2]; decide
    | false =>
      have := (wrt_bare hq okx ([c] ++ [10] ++ pgF ring (i + 1))).1
      simp only [List.append_assoc] at this ⊢
      rw [this]
      simp only [List.cons_append, List.nil_append]
      rw [lexG_stop w1]
      exact ⟨rfl, [10], by decide, by decide, rfl⟩
  have rem : ∀ i, i ≤ ring.length → ∃ ws, (∀ c ∈ ws, isWhite c = true) ∧ remT (pageOf ring) i = ws ++ pgF ring i ∧ (0 < i → ws.count 10 = 1) := by
    intro i
    induction i with
    | zero => intro _; exact ⟨[], by simp, by simp [remT, pgF, pageOf], fun h => absurd h (Nat.lt_irrefl _)⟩
    | succ i ih =>
      intro hi
      obtain ⟨ws, h1, h2, _⟩ := ih (by lia)
      obtain ⟨_, ws', h3, h4, h5⟩ := step i ws (by lia) h1
      refine ⟨ws', h3, ?_, fun _ => h4⟩
      show (lexT (remT (pageOf ring) i)).2 = _
      rw [h2]; exact h5
  have hp : (pageOf ring) = pgF ring 0 := by simp [pgF, pageOf]
  have last : remT (pageOf ring) ring.length = (remT (pageOf ring) ring.length) ++ [] ∧ ∀ c ∈ remT (pageOf ring) ring.length, isWhite c = true := by
    obtain ⟨ws, h1, h2, _⟩ := rem ring.length (Nat.le_refl _)
    have : pgF ring ring.length = [] := pgF_end ring
    rw [this, List.append_nil] at h2
    exact ⟨by simp, by rw [h2]; exact h1⟩
  refine ⟨fun i hi => ?_, ?_, ?_, ?_⟩
  · obtain ⟨ws, h1, h2, _⟩ := rem i (by lia)
    obtain ⟨a, _⟩ := step i ws hi h1
    obtain ⟨ws', h3, h4, h5⟩ := rem (i + 1) hi
    refine ⟨?_, ?_⟩
    · unfold tokT; rw [h2]; exact a
    · rw [h4, List.count_append, h5 (by lia), cnt _ (i + 1) rfl hi]; lia
  · rw [hp, cnt _ 0 rfl (by lia)]; simp
  · unfold tokT; rw [last.1, lexT_white _ _ last.2]; rfl
  · show (lexT (remT (pageOf ring) ring.length)).2 = []
    rw [last.1, lexT_white _ _ last.2]; rfl
theorem kinds_ok : ∀ x ∈ kinds6, okC x = true ∧ okW x = true ∧ x.length ≤ 5 := by decide
end Mine
end
section
open PySem PySem.W PyProof.Rows PySem.Calls
set_option Elab.async false
set_option maxRecDepth 100000
set_option linter.unusedVariables false
set_option linter.unusedSimpArgs false
namespace Mine
theorem cNot {L i : Nat} {js ts : List Nat} (h : i ∉ js) (ht : ∀ t ∈ ts, t < L) : L + i ∉ js.map (fun j => L + j) ++ ts := by
  intro q
  rcases List.mem_append.mp q with q | q
  · obtain ⟨j, hj, e⟩ := List.mem_map.mp q
    have : j = i := by lia
    exact h (this ▸ hj)
  · have := ht _ q; lia
theorem bNot {L a : Nat} {js ts : List Nat} (ha : L + 9 < a) (h : ∀ j ∈ js, j ≤ 9) (ht : ∀ t ∈ ts, t < L) : a ∉ js.map (fun j => L + j) ++ ts := by
  intro q
  rcases List.mem_append.mp q with q | q
  · obtain ⟨j, hj, e⟩ := List.mem_map.mp q
    have := h j hj; lia
  · have := ht _ q; lia
theorem tNot {L t : Nat} {js ts : List Nat} (ha : t < L) (ht : t ∉ ts) : t ∉ js.map (fun j => L + j) ++ ts := by
  intro q
  rcases List.mem_append.mp q with q | q
  · obtain ⟨j, hj, e⟩ := List.mem_map.mp q
    lia
  · exact ht q
theorem c3n {L i d pb pl n0 : Nat} (h : i ∉ [0, 3, 4, 5]) (hi : i ≤ 9) (h9 : L + 9 < n0) (hd : n0 ≤ d) (hb : n0 ≤ pb) (hl : n0 ≤ pl) : L + i ∉ [L, L + 3, L + 4, L + 5, d, pb, pl] := by
  simp only [List.mem_cons, List.not_mem_nil, or_false, not_or] at *
  lia
theorem a3n {L a d pb pl n0 : Nat} (ha : L + 9 < a) (han : a < n0) (hd : n0 ≤ d) (hb : n0 ≤ pb) (hl : n0 ≤ pl) : a ∉ [L, L + 3, L + 4, L + 5, d, pb, pl] := by
  simp only [List.mem_cons, List.not_mem_nil, or_false, not_or] at *
  lia
theorem t3n {L a d pb pl n0 : Nat} (ha : a < L) (han : L < n0) (hd : n0 ≤ d) (hb : n0 ≤ pb) (hl : n0 ≤ pl) : a ∉ [L, L + 3, L + 4, L + 5, d, pb, pl] := by
  simp only [List.mem_cons, List.not_mem_nil, or_false, not_or] at *
  lia
theorem words_kinds (sc : List Int) : ∀ x ∈ wordsOf sc, x ∈ kinds6 := fun x hx => by
  obtain ⟨z, _, rfl⟩ := List.mem_map.mp hx
  obtain ⟨j, hj6, hj, hkj⟩ := mod6 z
  exact List.mem_of_getElem? hkj
theorem words_len (sc : List Int) : 4 ≤ (wordsOf sc).length ∧ (wordsOf sc).length ≤ 9 := by
  simp only [wordsOf, numsOf, List.length_map, List.length_append, List.length_take, List.length_cons, List.length_nil]; lia
theorem ring_facts (sc : List Int) : (∀ x ∈ ringOf sc (wordsOf sc), x ∈ kinds6) ∧ (wordsOf sc).length ≤ (ringOf sc (wordsOf sc)).length ∧ (ringOf sc (wordsOf sc)).length ≤ 18 := by
  have h1 := words_kinds sc
  have h2 := words_len sc
  unfold ringOf
  split
  · refine ⟨fun x hx => ?_, by simp, by simp; lia⟩
    rcases List.mem_append.mp hx with q | q <;> exact h1 x q
  · exact ⟨h1, Nat.le_refl _, by lia⟩
theorem text_len (sc : List Int) : (lawText (wordsOf sc) (dressOf sc)).length ≤ 1048576 := by
  have h2 := words_len sc
  have h3 := txFold_len (B := 5) ((wordsOf sc).zip (dressOf sc)) ([], false) (fun p hp => (kinds_ok _ (words_kinds sc _ (List.of_mem_zip hp).1)).2.2)
  have h4 : ((wordsOf sc).zip (dressOf sc)).length ≤ 9 := by rw [List.length_zip]; lia
  have h5 : ((txAll (wordsOf sc) (dressOf sc)).1).length ≤ 200 := by
    unfold txAll
    have : ((wordsOf sc).zip (dressOf sc)).length * (2 * 5 + 4) ≤ 9 * 14 := Nat.mul_le_mul_right 14 h4
    have h6 : (([], false) : List Nat × Bool).1.length = 0 := rfl
    lia
  unfold lawText
  split
  · simp; lia
  · simp; lia
section
variable {prog : Program} {w : World} {A : Around} {h base H : Heap} {mg mb : Str → Option Value} {L : Addr}
set_option maxHeartbeats 4000000 in
theorem law_body {sl : Addr} {svs : List Value} {sc : List Int} {Q : Flow → Heap → Prop} {m : Str → Option Value} (GB : Gd w mg mb H base) (ok : OkA 9 A) (F : Fr base L h m) (hm : m nScript = some (.ref sl)) (hsl : base.IsList sl svs.toArray) (hsv : IntsAre svs sc) (hz : sc.length ≤ 63)
    (C94 : CodeHd H 98 tabS) (b94 : H.BuiltinsAt mg tabS) (H94 : H.get? tabS = none) (B94 : base.get? tabS = none) (T94 : h.get? tabS = some (tabObj #[])) (hSL : tabS < L)
    (C127 : CodeHd H codeT tabT) (b127 : H.BuiltinsAt mg tabT) (H127 : H.get? tabT = none) (B127 : base.get? tabT = none) (T127 : h.get? tabT = some (tabObj #[])) (hTL : tabT < L)
    (hc : ∀ i : Nat, 0 < i → i < 10 → h.IsCell (L + i) none) (hcb : ∀ i, L < i → base.get? i = none)
    (k : ∀ h', Ext base h' → (∃ ps, h'.get? tabS = some (tabObj ps)) → (∃ ps, h'.get? tabT = some (tabObj ps)) → Q (.ret (.bool true)) h') :
    Wp (model prog w) A (execs (lawB w) (lawE w L)) Q h := by
  have hS : ∀ t ∈ [tabS], t < L := by simpa using hSL
  have hT' : ∀ t ∈ [tabT], t < L := by simpa using hTL
  have hE : ∀ t ∈ ([] : List Nat), t < L := by simp
  have cellk : ∀ {h1 h2 : Heap} {S : List Addr} {c : Addr} {v : Option Value}, h1.IsCell c v → Kept S h1 h2 → c ∉ S → h2.IsCell c v := fun c k n => IsCell.kept c k n
  have z9 : L + 9 < h.objs.size := by obtain ⟨o, e, _⟩ := hc 9 (by decide) (by decide); exact Heap.lt_size e
  obtain ⟨wn1, wn2⟩ := words_len sc
  have wk := words_kinds sc
  obtain ⟨rk, rn1, rn2⟩ := ring_facts sc
  obtain ⟨rd1, rd2, rd3⟩ := lawText_read (wordsOf sc) (dressOf sc) (by simp [wordsOf, dressOf]) (by intro q; rw [q] at wn1; simp at wn1) (fun x hx => (kinds_ok x (wk x hx)).1)
  obtain ⟨pg1, pg2, pg3, pg4⟩ := page_read (ringOf sc (wordsOf sc)) (fun x hx => (kinds_ok x (rk x hx)).1)
  refine ph1 (n := 5) GB ok F hm hsl hsv hz (hc 1 (by decide) (by decide)) (hcb _ (Nat.lt_succ_self _)) (fun h1 m1 kl wl kys wys tt F1 K1 c11 lk1 sk lw1 sw ms1 mw1 mt1 gkl gwl => ?_)
  have gk : L + 9 < kl := Nat.lt_of_lt_of_le z9 gkl
  have gw : L + 9 < wl := Nat.lt_trans gk gwl
  have cs1 : ∀ i : Nat, 1 < i → i < 10 → h1.IsCell (L + i) none := fun i a b => cellk (hc i (by lia) b) K1 (cNot (js := [0, 1]) (ts := []) (by simp; lia) hE)
  have g94_1 := K1 _ _ (tNot (js := [0, 1]) (ts := []) hSL (by first | (with_reducible (first | exact im1 | exact im2 | exact im3 | exact sb0 | exact sb1 im1 | exact sb1 im2 | exact sb1 im3)) | exact nmc (adne (by decide)) nm0 | exact nmc (adne (by decide)) (nmc (adnn (by decide)) nm0) | simp)) T94
  have g127_1 := K1 _ _ (tNot (js := [0, 1]) (ts := []) hTL (by first | (with_reducible (first | exact im1 | exact im2 | exact im3 | exact sb0 | exact sb1 im1 | exact sb1 im2 | exact sb1 im3)) | exact nmc (adne (by decide)) nm0 | exact nmc (adne (by decide)) (nmc (adnn (by decide)) nm0) | simp)) T127
  refine ph2 (n := 4) GB ok F1 C94 b94 H94 ⟨#[], g94_1, True.intro, fun q hq => .inl rfl⟩ B94 ⟨?_, Nat.ne_of_lt hSL⟩ lw1 sw mw1 mt1 (text_len sc) (by lia) (by lia) (fun x hx => (kinds_ok x (wk x hx)).2.1) rd1 rd2 rd3 (cs1 2 (by decide) (by decide)) (hcb _ (Nat.lt_add_of_pos_right (by decide))) ⟨?_, ?_, ?_⟩ (fun h2 m2 a text F2 K2 c22 C2 M2 hfr2 T2 mo2 => ?_)
  · exact Nat.ne_of_lt (Nat.lt_trans hSL (Nat.lt_add_of_pos_right (by decide)))
  · simp only [Addr] at gw ⊢; lia
  · simp only [Addr] at gw ⊢; lia
  · simp only [Addr] at gw hSL ⊢; lia
  have lt1 : L < h1.objs.size := F1.ns.lt
  have z91 : L + 9 < h1.objs.size := by obtain ⟨o, e, _⟩ := cs1 9 (by decide) (by decide); exact Heap.lt_size e
  have cs2 : ∀ (i : Nat) v, i ∉ [0, 2] → h1.IsCell (L + i) v → h2.IsCell (L + i) v := fun i v a c => cellk c K2 (cNot (js := [0, 2]) (ts := [tabS]) a hS)
  have lw2 := lsKept lw1 K2 (bNot (js := [0, 2]) (ts := [tabS]) gw (by decide) hS)
  have lk2 := lsKept lk1 K2 (bNot (js := [0, 2]) (ts := [tabS]) gk (by decide) hS)
  have g127_2 := K2 _ _ (tNot (js := [0, 2]) (ts := [tabS]) hTL (by decide)) g127_1
  obtain ⟨nd, nb, nl⟩ := lex_mut_ne (n0 := h1.objs.size) C2 hfr2
  refine ph3 (n := 5) (n0 := h1.objs.size) GB ok F2 lw2 sw ((mo2 _ (by decide) (by decide)).trans mw1) ((mo2 _ (by decide) (by decide)).trans ms1) hsl (IntsAre.length hsv) hz wn2 (by lia) (fun x hx => (kinds_ok x (wk x hx)).2.1) C2 M2 hfr2 ⟨lt1, z91, lw1.lt⟩ c22
    (cs2 3 _ (by decide) (cs1 3 (by decide) (by decide))) (cs2 4 _ (by decide) (cs1 4 (by decide) (by decide))) (cs2 5 _ (by decide) (cs1 5 (by decide) (by decide))) hcb (cs2 9 _ (by decide) (cs1 9 (by decide) (by decide))) gw (fun h3 m3 rg pl rys pys ts F3 K3 c33 c43 c53 lr3 sr lp3 sp hrg grg gpl mo3 => ?_)
  have cs3 : ∀ i : Nat, 5 < i → i < 10 → h3.IsCell (L + i) none := fun i x y => cellk (cs2 i _ (by simp; lia) (cs1 i (by lia) y)) K3 (c3n (by simp; lia) (by lia) z91 nd nb nl)
  have c13 : h3.IsCell (L + 1) (some (.ref kl)) := cellk (cs2 1 _ (by decide) c11) K3 (c3n (by decide) (by decide) z91 nd nb nl)
  have lw3 := lsKept lw2 K3 (a3n gw lw1.lt nd nb nl)
  have lk3 := lsKept lk2 K3 (a3n gk lk1.lt nd nb nl)
  have g127_3 := K3 _ _ (t3n hTL lt1 nd nb nl) g127_2
  have T3 : TabP H h3 tabS (placesS w) := T2.kept K3 (t3n hSL lt1 nd nb nl) (by
    intro i hi o vs ho hv
    obtain ⟨⟨t1, t2, ⟨es, n', ed, _⟩⟩, ⟨n'', ep⟩, ⟨t8, o8, e8, d8, n8, d8'⟩, _⟩ := M2
    simp only [List.mem_cons, List.not_mem_nil, or_false] at hi
    rcases hi with q | q | q | q | q | q | q
    · subst q; exact ns_nf F2.ns o vs ho hv
    · subst q; exact cell_nf (cs2 3 _ (by decide) (cs1 3 (by decide) (by decide))) o vs ho hv
    · subst q; exact cell_nf (cs2 4 _ (by decide) (cs1 4 (by decide) (by decide))) o vs ho hv
    · subst q; exact cell_nf (cs2 5 _ (by decide) (cs1 5 (by decide) (by decide))) o vs ho hv
    · subst q; rw [ed] at ho; cases ho; cases hv
    · subst q; rw [ep] at ho; cases ho; cases hv
    · subst q; rw [e8] at ho; cases ho; rw [d8'] at hv; cases hv)
  refine ph4a (n := 5) GB ok F3 c43 c53 (cs3 6 (by decide) (by decide)) (cs3 9 (by decide) (by decide)) hcb lp3 sp rn2 (by lia) gpl (fun h4 m4 tl R Tf Kf lo hi F4 K4 c64 lR4 ltl mt4 hT4 hb4 mo4 => ?_)
  refine ph4b (n := 5) GB ok F4 (cellk c43 K4 (cNot (js := [0, 6]) (ts := []) (by decide) hE)) c64 (cellk (cs3 7 (by decide) (by decide)) K4 (cNot (js := [0, 6]) (ts := []) (by decide) hE)) hcb rn2 (by lia) lR4 ltl mt4 hT4 hb4 (fun h5 F5 K5 => ?_)
  obtain ⟨glo, ghi, hiz, _, _⟩ := hb4
  have lohi : lo < hi := by
    obtain ⟨_, _, b1, b2, _⟩ := hT4 0 (by lia)
    exact Nat.lt_of_le_of_lt b1 b2
  have gR : L + 9 < R := by lia
  have K35 : Kept [L, L + 6, L + 7] h3 h5 := (K4.mono (by first | (with_reducible (first | exact im1 | exact im2 | exact im3 | exact sb0 | exact sb1 im1 | exact sb1 im2 | exact sb1 im3)) | exact nmc (adne (by decide)) nm0 | exact nmc (adne (by decide)) (nmc (adnn (by decide)) nm0) | simp)).trans (K5.mono (by first | (with_reducible (first | exact im1 | exact im2 | exact im3 | exact sb0 | exact sb1 im1 | exact sb1 im2 | exact sb1 im3)) | exact nmc (adne (by decide)) nm0 | exact nmc (adne (by decide)) (nmc (adnn (by decide)) nm0) | simp))
  have cs5 : ∀ (i : Nat) v, i ∉ [0, 6, 7] → h3.IsCell (L + i) v → h5.IsCell (L + i) v := fun i v a c => cellk c K35 (cNot (js := [0, 6, 7]) (ts := []) a hE)
  have big5 : ∀ {b : Addr}, L + 9 < b → b ∉ [L, L + 6, L + 7] := fun hb => bNot (js := [0, 6, 7]) (ts := []) hb (by decide) hE
  have c65 := cellk c64 K5 (cNot (js := [0, 7]) (ts := []) (by decide) hE)
  have lR5 := lsKept lR4 K5 (bNot (js := [0, 7]) (ts := []) gR (by decide) hE)
  have hT5 : ∀ i, i < (ringOf sc (wordsOf sc)).length → TurnAt h5 (Tf i) (Kf i) i (rot (ringOf sc (wordsOf sc)) i) lo hi := fun i hi' => (hT4 i hi').kept K5 (by
    intro s hs
    simp only [List.mem_cons, List.not_mem_nil, or_false] at hs
    left
    rcases hs with q | q <;> rw [q] <;> (simp only [Addr] at glo ⊢; lia))
  have T5 : TabP H h5 tabS (placesS w) := T3.kept K35 (tNot (js := [0, 6, 7]) (ts := []) hSL (by first | (with_reducible (first | exact im1 | exact im2 | exact im3 | exact sb0 | exact sb1 im1 | exact sb1 im2 | exact sb1 im3)) | exact nmc (adne (by decide)) nm0 | exact nmc (adne (by decide)) (nmc (adnn (by decide)) nm0) | simp)) (by
    intro i hi o vs ho hv
    simp only [List.mem_cons, List.not_mem_nil, or_false] at hi
    rcases hi with q | q | q
    · subst q; exact ns_nf F3.ns o vs ho hv
    · subst q; exact cell_nf (cs3 6 (by decide) (by decide)) o vs ho hv
    · subst q; exact cell_nf (cs3 7 (by decide) (by decide)) o vs ho hv)
  have g127_5 := K35 _ _ (tNot (js := [0, 6, 7]) (ts := []) hTL (by first | (with_reducible (first | exact im1 | exact im2 | exact im3 | exact sb0 | exact sb1 im1 | exact sb1 im2 | exact sb1 im3)) | exact nmc (adne (by decide)) nm0 | exact nmc (adne (by decide)) (nmc (adnn (by decide)) nm0) | simp)) g127_3
  have c85 := cs5 8 _ (by decide) (cs3 8 (by decide) (by decide))
  have c95 := cs5 9 _ (by decide) (cs3 9 (by decide) (by decide))
  have c45 := cs5 4 _ (by decide) c43
  refine ph5a (n := 4) GB ok F5 C94 b94 H94 T5 B94 hSL c45 c65 c85 c95 hcb rn2 (by lia) (fun x hx => Nat.le_trans (kinds_ok x (rk x hx)).2.2 (by decide)) lR5 hT5 ⟨glo, ghi⟩ (fun h6 m6 a6 HL SL F6 K6 C6 M6 hfr6 hne6 lH6 lS6 hHS gHL gSL nHL nSL nd6 nb6 nl6 c86 g94_6 mr6 mh6 mo6 => ?_)
  refine ph5b (n := 4) (L0 := wL0 (ringOf sc (wordsOf sc))) GB ok F6 C6 M6 hfr6 hne6 lH6 lS6 hHS gHL gSL (cellk c45 K6 (cNot (js := [0, 8]) (ts := [tabS]) (by decide) hS)) c86 (cellk c95 K6 (cNot (js := [0, 8]) (ts := [tabS]) (by decide) hS)) mr6 mh6 hcb rn2 (by lia) pg1 pg2 pg3 pg4 (fun h7 m7 hs b0 F7 K7 hH7 gb0 lH7 lS7 mo7 => ?_)
  have K57 : Kept [L, L + 8, tabS] h5 h7 := fun b o nb e => K7 b o (by
    simp only [List.mem_cons, List.not_mem_nil, or_false, not_or] at nb ⊢
    have ne : ∀ c, h5.get? c = none → b ≠ c := fun c hc q => by rw [q, hc] at e; cases e
    exact ⟨nb.1, ne _ nHL, ne _ nSL, ne _ nd6, ne _ nb6, ne _ nl6⟩) (K6 b o nb e)
  have cs7 : ∀ (i : Nat) v, i ∉ [0, 8] → h5.IsCell (L + i) v → h7.IsCell (L + i) v := fun i v a c => cellk c K57 (cNot (js := [0, 8]) (ts := [tabS]) a hS)
  have c87 : h7.IsCell (L + 8) (some (.ref SL)) := cellk c86 K7 (by
    simp only [List.mem_cons, List.not_mem_nil, or_false, not_or]
    have ne : ∀ c, h5.get? c = none → L + 8 ≠ c := fun c hc q => by obtain ⟨o, e, _⟩ := c85; rw [q, hc] at e; cases e
    exact ⟨by simp, ne _ nHL, ne _ nSL, ne _ nd6, ne _ nb6, ne _ nl6⟩)
  have big7 : ∀ {b : Addr}, L + 9 < b → b ∉ [L, L + 8, tabS] := fun hb => bNot (js := [0, 8]) (ts := [tabS]) hb (by decide) hS
  have c37 := cs7 3 _ (by decide) (cs5 3 _ (by decide) c33)
  have c47 := cs7 4 _ (by decide) c45
  have c67 := cs7 6 _ (by decide) c65
  have c17 := cs7 1 _ (by decide) (cs5 1 _ (by decide) c13)
  have c97 := cs7 9 _ (by decide) c95
  have lr7 := lsKept (lsKept lr3 K35 (big5 grg)) K57 (big7 grg)
  have lk7 := lsKept (lsKept lk3 K35 (big5 gk)) K57 (big7 gk)
  have lw7 := lsKept (lsKept lw3 K35 (big5 gw)) K57 (big7 gw)
  have lR7 := lsKept lR5 K57 (big7 gR)
  have g127_7 := K57 _ _ (tNot (js := [0, 8]) (ts := [tabS]) hTL (by decide)) g127_5
  have hT7 : ∀ i, i < (ringOf sc (wordsOf sc)).length → TurnAt h7 (Tf i) (Kf i) i (rot (ringOf sc (wordsOf sc)) i) lo hi := fun i hi' => (hT5 i hi').kept K57 (by
    intro s hs
    simp only [List.mem_cons, List.not_mem_nil, or_false] at hs
    left
    rcases hs with q | q | q <;> rw [q] <;> (simp only [Addr] at glo hSL ⊢; lia))
  have neL : ∀ {b : Addr}, L + 9 < b → b ≠ L := fun hb q => by rw [q] at hb; simp only [Addr] at hb; lia
  have inL : ∀ {b : Addr}, L + 9 < b → b ∉ [L] := fun hb => by simpa using neL hb
  have g94_7 : ∃ ps, h7.get? tabS = some (tabObj ps) := by
    obtain ⟨ps, e⟩ := g94_6
    obtain ⟨ps5, e5, _⟩ := T5
    refine ⟨ps, K7 _ _ ?_ e⟩
    simp only [List.mem_cons, List.not_mem_nil, or_false, not_or]
    have ne : ∀ c, h5.get? c = none → tabS ≠ c := fun c hc q => by rw [q, hc] at e5; cases e5
    exact ⟨Nat.ne_of_lt hSL, ne _ nHL, ne _ nSL, ne _ nd6, ne _ nb6, ne _ nl6⟩
  refine ph6 (n := 4) GB ok F7 c37 c47 c67 c87 hcb lr7 sr (fun x hx => (kinds_ok x (rk x hx)).2.1) rn2 (by lia) lR7 hT7 hH7 lS7 ⟨neL grg, neL gR, neL gSL⟩ (Nat.lt_of_le_of_lt (Nat.le_add_right L 9) gb0) (Nat.lt_of_le_of_lt (Nat.le_add_right L 9) glo) (fun h8 m8 F8 K8 hho mo8 => ?_)
  obtain ⟨th, mho⟩ := hho
  have hb0L : ∀ s ∈ [L], s < b0 := by simpa using Nat.lt_of_le_of_lt (Nat.le_add_right L 9) gb0
  refine ph7 (n := 4) GB ok F8 (cellk c37 K8 (by first | (with_reducible (first | exact im1 | exact im2 | exact im3 | exact sb0 | exact sb1 im1 | exact sb1 im2 | exact sb1 im3)) | exact nmc (adne (by decide)) nm0 | exact nmc (adne (by decide)) (nmc (adnn (by decide)) nm0) | simp)) (cellk c47 K8 (by first | (with_reducible (first | exact im1 | exact im2 | exact im3 | exact sb0 | exact sb1 im1 | exact sb1 im2 | exact sb1 im3)) | exact nmc (adne (by decide)) nm0 | exact nmc (adne (by decide)) (nmc (adnn (by decide)) nm0) | simp)) (cellk c87 K8 (by first | (with_reducible (first | exact im1 | exact im2 | exact im3 | exact sb0 | exact sb1 im1 | exact sb1 im2 | exact sb1 im3)) | exact nmc (adne (by decide)) nm0 | exact nmc (adne (by decide)) (nmc (adnn (by decide)) nm0) | simp)) (lsKept lr7 K8 (inL grg)) sr rn2 (by lia) (hH7.kept K8 hb0L) (lsKept lS7 K8 (inL gSL)) (lsKept lH7 K8 (inL gHL)) ⟨neL grg, neL gSL, neL gHL⟩ (Nat.lt_of_le_of_lt (Nat.le_add_right L 9) gb0) ((mo8 _ (by decide) (by decide) (by decide) (by decide)).trans ((mo7 _ (by decide)).trans mh6)) mho (fun h9 m9 F9 K9 mo9 => ?_)
  have K79 : Kept [L] h7 h9 := K8.trans K9
  refine ph8a (n := 4) GB ok F9 (cellk c17 K79 (by first | (with_reducible (first | exact im1 | exact im2 | exact im3 | exact sb0 | exact sb1 im1 | exact sb1 im2 | exact sb1 im3)) | exact nmc (adne (by decide)) nm0 | exact nmc (adne (by decide)) (nmc (adnn (by decide)) nm0) | simp)) (cellk c87 K79 (by first | (with_reducible (first | exact im1 | exact im2 | exact im3 | exact sb0 | exact sb1 im1 | exact sb1 im2 | exact sb1 im3)) | exact nmc (adne (by decide)) nm0 | exact nmc (adne (by decide)) (nmc (adnn (by decide)) nm0) | simp)) (lsKept lk7 K79 (inL gk)) sk rn2 (by lia) (hH7.kept K79 hb0L) (lsKept lS7 K79 (inL gSL)) (fun h10 m10 od f F10 K10 hD mo10 god hf mx10 => ?_)
  have K710 : Kept [L] h7 h10 := K79.trans K10
  have z99 : L + 9 < h9.objs.size := by obtain ⟨o, e, _⟩ := cellk c97 K79 (by first | (with_reducible (first | exact im1 | exact im2 | exact im3 | exact sb0 | exact sb1 im1 | exact sb1 im2 | exact sb1 im3)) | exact nmc (adne (by decide)) nm0 | exact nmc (adne (by decide)) (nmc (adnn (by decide)) nm0) | simp); exact Heap.lt_size e
  have mw10 : m10 nWords = some (.ref wl) := by
    rw [mx10 _ (by decide), mo9 _ (by decide), mo8 _ (by decide) (by decide) (by decide) (by decide), mo7 _ (by decide), mo6 _ (by decide) (by decide) (by decide), mo4 _ (by decide) (by decide), mo3 _ (by decide), mo2 _ (by decide) (by decide)]
    exact mw1
  refine ph8b (n := 4) (words := []) GB ok F10 C127 b127 H127 ⟨#[], K710 _ _ (tNot (js := [0]) (ts := []) hTL (by first | (with_reducible (first | exact im1 | exact im2 | exact im3 | exact sb0 | exact sb1 im1 | exact sb1 im2 | exact sb1 im3)) | exact nmc (adne (by decide)) nm0 | exact nmc (adne (by decide)) (nmc (adnn (by decide)) nm0) | simp)) g127_7, True.intro, fun q hq => .inl rfl⟩ B127 hTL (cellk c17 K710 (by first | (with_reducible (first | exact im1 | exact im2 | exact im3 | exact sb0 | exact sb1 im1 | exact sb1 im2 | exact sb1 im3)) | exact nmc (adne (by decide)) nm0 | exact nmc (adne (by decide)) (nmc (adnn (by decide)) nm0) | simp)) (cellk c37 K710 (by first | (with_reducible (first | exact im1 | exact im2 | exact im3 | exact sb0 | exact sb1 im1 | exact sb1 im2 | exact sb1 im3)) | exact nmc (adne (by decide)) nm0 | exact nmc (adne (by decide)) (nmc (adnn (by decide)) nm0) | simp)) (cellk c47 K710 (by first | (with_reducible (first | exact im1 | exact im2 | exact im3 | exact sb0 | exact sb1 im1 | exact sb1 im2 | exact sb1 im3)) | exact nmc (adne (by decide)) nm0 | exact nmc (adne (by decide)) (nmc (adnn (by decide)) nm0) | simp)) (cellk c67 K710 (by first | (with_reducible (first | exact im1 | exact im2 | exact im3 | exact sb0 | exact sb1 im1 | exact sb1 im2 | exact sb1 im3)) | exact nmc (adne (by decide)) nm0 | exact nmc (adne (by decide)) (nmc (adnn (by decide)) nm0) | simp)) (cellk c87 K710 (by first | (with_reducible (first | exact im1 | exact im2 | exact im3 | exact sb0 | exact sb1 im1 | exact sb1 im2 | exact sb1 im3)) | exact nmc (adne (by decide)) nm0 | exact nmc (adne (by decide)) (nmc (adnn (by decide)) nm0) | simp)) (cellk c97 K710 (by first | (with_reducible (first | exact im1 | exact im2 | exact im3 | exact sb0 | exact sb1 im1 | exact sb1 im2 | exact sb1 im3)) | exact nmc (adne (by decide)) nm0 | exact nmc (adne (by decide)) (nmc (adnn (by decide)) nm0) | simp)) hcb
    (lsKept lw7 K710 (inL gw)) (by rw [sw.length]; exact rn1) (lsKept lk7 K710 (inL gk)) sk (lsKept lr7 K710 (inL grg)) sr rk rn2 (by lia) (lsKept lR7 K710 (inL gR)) (fun i hi' => (hT7 i hi').kept K710 (by
      intro s hs
      simp only [List.mem_singleton] at hs
      left
      rw [hs]; simp only [Addr] at glo ⊢; lia)) (hH7.kept K710 hb0L) (lsKept lS7 K710 (inL gSL)) hD (fun x hx => ?_) ⟨gw, gk, grg, gR, gSL, Nat.lt_of_lt_of_le z99 god, gb0, glo⟩ mw10 mo10 (fun h11 m11 F11 K11 T11 => ?_)
  · obtain ⟨tp, t1, t2, a1, a2, a3⟩ := hf x hx
    exact ⟨tp, t1, t2, a1, Nat.lt_of_lt_of_le z99 a2, a3⟩
  · obtain ⟨ps, e, _⟩ := T11
    obtain ⟨ps2, e2⟩ := g94_7
    refine k h11 F11.keep ⟨ps2, K11 _ _ (tNot (js := [0, 9]) (ts := [tabT]) hSL (by decide)) (K710 _ _ (tNot (js := [0]) (ts := []) hSL (by first | (with_reducible (first | exact im1 | exact im2 | exact im3 | exact sb0 | exact sb1 im1 | exact sb1 im2 | exact sb1 im3)) | exact nmc (adne (by decide)) nm0 | exact nmc (adne (by decide)) (nmc (adnn (by decide)) nm0) | simp)) e2)⟩ ⟨ps, e⟩
end
end Mine
end
section
open PySem PySem.W PyProof.Rows PySem.Calls
set_option Elab.async false
set_option maxRecDepth 100000
set_option linter.unusedVariables false
set_option linter.unusedSimpArgs false
namespace Mine
abbrev tabs2 : List (Addr × Addr) := [(131, 127), (98, 94)]
section
variable {prog : Program} {w : World} {A : Around} {h : Heap} {mg mb : Str → Option Value}
theorem ba_ghost {P : Addr} (hT : TabsAt tabs2 h) (g : h.Ns mainGlobals mg) (hP : (ghostOf h tabs2).get? P = none)
    (bm : ∃ bm ob, mg "__builtins__" = some (.ref bm) ∧ bm ≠ builtinsNs ∧ h.get? bm = some ob ∧ ob.cls = .type "module" ∧ ob.dict = some builtinsNs ∧ ob.data = .plain) : (ghostOf h tabs2).BuiltinsAt mg P := by
  obtain ⟨b, ob, a1, a2, a3, a4, a5, a6⟩ := bm
  have e : (ghostOf h tabs2).get? b = some ob := ghost_get hT a3 (fun q => by rw [q] at a4; cases a4)
  refine ⟨b, ob, a1, a2, ?_, ?_, e, a4, a5, a6⟩
  · rintro rfl
    obtain ⟨o, es, ep, e1, hd, _⟩ := g
    rw [a3] at e1; cases e1
    rw [a6] at hd; cases hd
  · rintro rfl; rw [hP] at e; cases e
set_option maxHeartbeats 4000000 in
theorem law_main {l : Addr} {vs : List Value} {ns : List Int} (K : (KH w).In h) (g : h.Ns mainGlobals mg) (b : h.Ns builtinsNs mb) (lim : h.NoLimit) (bb : ∀ x : Str, x ≠ "__name__" → mb x = bootBuiltins x)
    (bm : ∃ bm ob, mg "__builtins__" = some (.ref bm) ∧ bm ≠ builtinsNs ∧ h.get? bm = some ob ∧ ob.cls = .type "module" ∧ ob.dict = some builtinsNs ∧ ob.data = .plain)
    (hT : TabsAt tabs2 h) (hl : h.IsList l vs.toArray) (hI : IntsAre vs ns) (hz : ns.length ≤ 63) :
    Wc (model prog w) callerA (.call (.ref aLaw) ⟨[.ref l], []⟩) (fun v h' => v = .bool true ∧ Ext (ghostOf h tabs2) h' ∧ GrownAll tabs2 h') h := by
  refine c_callC (fd := fnAt w aLaw) (body := bodyAt w aLaw) (binds := [(nScript, .ref l)]) (by decide) (K _ _ (by kernel_rfl : (KH w).lookup aLaw = some (objAt w aLaw))) (by kernel_rfl) lim
    (codeRec_of K (by kernel_rfl)) (by kernel_rfl) (by kernel_rfl) (by kernel_rfl) (fun L x hx => ?_) (fun L h₁ hL F cell => ?_)
  · simp only [List.mem_singleton] at hx; subst hx; exact .inl (by kernel_rfl)
  have ok : OkA 9 (callerA.deeper (callEnvC (fnAt w aLaw) L aLaw)) := OkA.deeper (n := 9) ⟨by decide, by decide, rfl⟩ _
  have hK : noTabs (KH w) = true := by kernel_rfl
  have hmem : ∀ q ∈ tabs2, h.get? q.2 = some (tabObj #[]) := fun q hq => (hT q hq).2
  have hc127 := hmem (131, 127) (by simp)
  have hc94 := hmem (98, 94) (by simp)
  have gh : ∀ P ∈ [127, 94], (ghostOf h tabs2).get? P = none := fun P hP => hideAll_none _ hP
  have gsz : (ghostOf h tabs2).objs.size = h.objs.size := hideAll_size _ _
  have lg : (ghostOf h tabs2).NoLimit := let ⟨mc, a, r⟩ := lim; ⟨mc, ghost_ns hT a, r⟩
  have GB : Gd w mg mb (ghostOf h tabs2) (ghostOf h tabs2) := ⟨⟨ghost_K hT K hK, lg, ghost_ns hT g, ghost_ns hT b, bb⟩, Ext.refl _⟩
  have hca := ghost_code hT
  have lt : ∀ P, h.get? P = some (tabObj #[]) → P < L := fun P e => by rw [hL]; exact Heap.lt_size e
  refine law_body (svs := vs) (sc := ns) GB ok (ghost_fr hT F) rfl (ghost_list hT hl) hI hz hca.2.1 (ba_ghost hT g (gh 94 (by simp)) bm) (gh 94 (by simp)) (gh 94 (by simp)) (F.keep _ _ hc94) (lt _ hc94)
    hca.1 (ba_ghost hT g (gh 127 (by simp)) bm) (gh 127 (by simp)) (gh 127 (by simp)) (F.keep _ _ hc127) (lt _ hc127) (fun i h1 h2 => ?_) (fun i hi => get_none (by rw [gsz]; rw [hL] at hi; exact Nat.le_of_lt hi)) (fun h' ex t1 t2 => ⟨rfl, ex, t2, t1, True.intro⟩)
  match i, h1, h2 with
  | 1, _, _ => exact cell nKinds _ rfl
  | 2, _, _ => exact cell nLexer _ rfl
  | 3, _, _ => exact cell nRing _ rfl
  | 4, _, _ => exact cell nSize _ rfl
  | 5, _, _ => exact cell nPassed _ rfl
  | 6, _, _ => exact cell nRows _ rfl
  | 7, _, _ => exact cell nOrder _ rfl
  | 8, _, _ => exact cell nSpots _ rfl
  | 9, _, _ => exact cell nPhrase _ rfl
  | i + 10, _, h2 => omega
end
end Mine
end
section
open PySem PySem.W PyProof.Rows
set_option Elab.async false
namespace Mine
set_option maxRecDepth 100000
set_option maxHeartbeats 8000000
theorem t0 : PySem.Challenge.rw_pk0071_01.row.Holds := hd (by
  k_fill
  intro w s₀ s₁ mg mb G Y fa o pm cd doc dV kV ho hd hcd hD hmg hg args vals as hpre hlay hrd hwl hlo
  have KX := km_in_of Y
  km_tabs Y
  have X := (Ground.X G).1
  have V := (Ground.X G).2
  refine Ground.open G ?_
  intro T B D TE TW
  try (refine guard_noD D (by decide +kernel) ?_; clear D)
  have hfa : fa = aLaw := by
    have h1 := mg_of KX T.g (n := Str.ofString "law") (v := .ref aLaw) (by kernel_rfl)
    have h2 : mg (Str.ofString "law") = some (.ref fa) := hmg
    rw [h1] at h2
    injection h2 with h2
    injection h2 with h2
    exact h2.symm
  km_lay T hmg ho hd cd
  clear hmg
  wrow_args hpre hlay hrd hwl hlo
  rename s₁.heap.IsList _ _ => hlist
  rename IntsAre _ _ => hints
  rename ¬ (_ < _) => hlen
  clear ho hd hcd hD
  subst hfa
  refine enter_call ?_
  refine kn_post hT9 (fun _ _ => rfl) ?_
  refine codeAny_mono (law_main KX T.g T.b T.nolimit T.builtins T.bmain hT9 hlist hints (by omega) s₁ rfl) (fun r s' y => ?_)
  rcases r with e | (_ | _ | _ | v)
  · exact y.elim
  · exact y.elim
  · exact y.elim
  · exact y.elim
  · obtain ⟨⟨y1, y2⟩, rfl, y3, y4⟩ := y
    refine ⟨⟨.inl ⟨_, .bool true, [], rfl, fun _ => rfl, ReadsW.bool _, ?_, fun _ => ⟨List.nodup_nil, by simp⟩⟩, y3, y1, y2.trans hg⟩, y4⟩
    wrow_post)
theorem t : PySem.Challenge.rw_pk0071_01.Holds := holds_law said fun _ => t0
end Mine
end
open PySem PySem.W PyProof.Rows
set_option maxRecDepth 100000 in
set_option maxHeartbeats 8000000 in
theorem PySem.Challenge.cw_pk0071_01_holds : PySem.Challenge.rw_pk0071_01.Holds := by
  exact Mine.t
