import PyProof.Rows.All
import Wide.All
import OpenK.AllK
import Wide.FinOn
import PyProof.EqAt
import KE.KSortAsk
import KE.KSortTup
import PyProof.Rows.RuleB_pow
import PyProof.Rows.RuleC_bool
import PyProof.Rows.SortStr
import PyProof.Rows.ListMul
import KE.KNest
import Lean
import PySem.Challenge.RW_pk0071_02
set_option Elab.async false
section
open PySem PySem.W PyProof.Rows
set_option Elab.async false
namespace Mine

/-! ## heaps that grow -/
def Ext (h h' : Heap) : Prop := ∀ b o, h.get? b = some o → h'.get? b = some o
theorem Ext.refl (h : Heap) : Ext h h := fun _ _ e => e
theorem Ext.trans {a b c : Heap} (x : Ext a b) (y : Ext b c) : Ext a c := fun i o e => y i o (x i o e)
theorem Ext.push (h : Heap) (o : Obj) : Ext h (h.push o) := fun _ _ e => Heap.get?_push_of_some o e

/-! ## membership, cheaply -/
theorem im1 {α : Type} {a : α} {l : List α} : a ∈ a :: l := .head _
theorem im2 {α : Type} {a b : α} {l : List α} : a ∈ b :: a :: l := .tail _ (.head _)
theorem im3 {α : Type} {a b c : α} {l : List α} : a ∈ b :: c :: a :: l := .tail _ (.tail _ (.head _))
theorem sb0 {α : Type} {S : List α} : ∀ a ∈ ([] : List α), a ∈ S := fun _ h => nomatch h
theorem sb1 {α : Type} {a : α} {S : List α} (h : a ∈ S) : ∀ b ∈ [a], b ∈ S := fun b hb => by cases hb with
  | head => exact h
  | tail _ q => cases q
theorem sb2 {α : Type} {a c : α} {S : List α} (h : a ∈ S) (h2 : c ∈ S) : ∀ b ∈ [a, c], b ∈ S := fun b hb => by cases hb with
  | head => exact h
  | tail _ q => exact sb1 h2 b q
theorem nm0 {α : Type} {a : α} : a ∉ ([] : List α) := fun h => nomatch h
theorem nmc {α : Type} {a b : α} {l : List α} (h : a ≠ b) (h2 : a ∉ l) : a ∉ b :: l := fun q => by cases q with
  | head => exact h rfl
  | tail _ q => exact h2 q
theorem adne {L i : Nat} (h : i ≠ 0) : L + i ≠ L := fun q => h (Nat.add_left_cancel (q.trans (Nat.add_zero L).symm))
theorem adnn {L i j : Nat} (h : i ≠ j) : L + i ≠ L + j := fun q => h (Nat.add_left_cancel q)

/-! ## room for n more frames -/
structure OkA (n : Nat) (A : Around) : Prop where
  depth : A.depth + n < recursionLimit
  units : A.units + 20 * n < cLine
  handled : A.handled = none
theorem OkA.deeper {n : Nat} {A : Around} (h : OkA (n + 1) A) (env : Env) : OkA n (A.deeper env) :=
  ⟨by have := h.depth; show A.depth + 1 + n < _; lia, by have := h.units; show A.units + 3 + 20 * n < _; lia, h.handled⟩
theorem OkA.mono {n k : Nat} {A : Around} (h : OkA n A) (hk : k ≤ n) : OkA k A :=
  ⟨by have := h.depth; lia, by have := h.units; lia, h.handled⟩
theorem OkA.in1 {n : Nat} {A : Around} (h : OkA (n + 1) A) : OkA n A.in1 :=
  ⟨by have := h.depth; show A.depth + n < _; lia, by have := h.units; show A.units + 1 + 20 * n < _; lia, h.handled⟩

abbrev NoE : Value → Shared → Prop := fun _ _ => False

/-! ## the logic of heaps: a tree that ends without an exception -/
def Wp {α : Type} (M : Model) (A : Around) (t : Sem α) (Q : α → Heap → Prop) (h : Heap) : Prop :=
  ∀ s : Shared, s.heap = h → wpAny M A t (fun a s' => (s'.os = s.os ∧ s'.gens = s.gens) ∧ Q a s'.heap) NoE s

section
variable {α β : Type} {M : Model} {A : Around} {h : Heap}
theorem Wp.run {t : Sem α} {Q : α → Heap → Prop} {s : Shared} {Q' : α → Shared → Prop} {E : Value → Shared → Prop} (x : Wp M A t Q s.heap) (k : ∀ a s', s'.os = s.os → s'.gens = s.gens → Q a s'.heap → Q' a s') : wpAny M A t Q' E s :=
  wpAny_mono (x s rfl) (fun a s' y => k a s' y.1.1 y.1.2 y.2) fun _ _ y => y.elim
theorem w_pure {a : α} {Q : α → Heap → Prop} (k : Q a h) : Wp M A (pure a) Q h := fun _ hs => wpAny_pure ⟨⟨rfl, rfl⟩, hs ▸ k⟩
theorem Wp.mono {t : Sem α} {Q Q' : α → Heap → Prop} (x : Wp M A t Q h) (k : ∀ a h', Q a h' → Q' a h') : Wp M A t Q' h :=
  fun s hs => wpAny_mono (x s hs) (fun a s' y => ⟨y.1, k a _ y.2⟩) fun _ _ y => y
theorem w_bind {m : Sem α} {f : α → Sem β} {Q : β → Heap → Prop} (x : Wp M A m (fun a h' => Wp M A (f a) Q h') h) : Wp M A (m >>= f) Q h :=
  fun s hs => wpAny_bind (wpAny_mono (x s hs) (fun _ s' y => wpAny_mono (y.2 s' rfl) (fun _ _ z => ⟨⟨z.1.1.trans y.1.1, z.1.2.trans y.1.2⟩, z.2⟩) fun _ _ z => z) fun _ _ y => y)
theorem w_holding {vs : List Value} {t : Sem α} {Q : α → Heap → Prop} (x : Wp M A t Q h) : Wp M A (holding vs t) Q h := fun s hs => wpAny_holding (x s hs)
theorem w_standAt {p : Pos} {Q : Unit → Heap → Prop} (k : Q () h) : Wp M A (standAt p) Q h := fun _ hs => wpAny_standAt ⟨⟨rfl, rfl⟩, hs ▸ k⟩
theorem w_point {Q : Unit → Heap → Prop} (k : Q () h) : Wp M A point Q h := fun _ hs => wpAny_point ⟨⟨rfl, rfl⟩, hs ▸ k⟩
theorem w_operate {vs : List Value} {t : Sem Value} {Q : Value → Heap → Prop} (x : Wp M A t Q h) : Wp M A (operate vs t) Q h :=
  fun s hs Γ p hΓ => by rw [Sem.wp_operate]; exact x s hs Γ p hΓ
theorem w_rule {tag : String} {Q : Unit → Heap → Prop} (k : Q () h) : Wp M A (rule tag) Q h := fun _ hs => wpAny_rule ⟨⟨rfl, rfl⟩, hs ▸ k⟩
theorem w_load {a : Addr} {o : Obj} {Q : Obj → Heap → Prop} (ho : h.get? a = some o) (k : Q o h) : Wp M A (load a) Q h := fun s hs => by subst hs; exact wpAny_load ho ⟨⟨rfl, rfl⟩, k⟩
theorem w_alloc {o : Obj} {Q : Addr → Heap → Prop} (k : Q h.objs.size (h.push o)) : Wp M A (alloc o) Q h := fun s hs => by subst hs; exact wpAny_alloc ⟨⟨rfl, rfl⟩, k⟩
theorem w_update {a : Addr} {f : Obj → Obj} {o : Obj} {Q : Unit → Heap → Prop} (ho : h.get? a = some o) (k : Q () (h.update a f)) : Wp M A (update a f) Q h := fun s hs => by subst hs; exact wpAny_update ho ⟨⟨rfl, rfl⟩, k⟩
theorem w_mkInt {i : Int} {Q : Value → Heap → Prop} (k : ∀ t, Q (.int i t) h) : Wp M A (mkInt i) Q h := fun s hs => by subst hs; exact wpAny_mkInt ⟨⟨rfl, rfl⟩, k _⟩
theorem w_mkStr {x : Str} {Q : Value → Heap → Prop} (k : ∀ t, Q (.str x t) h) (hx : x.length ≤ sizeLine) : Wp M A (mkStr x) Q h := fun s hs => by subst hs; exact wpAny_mkStr ⟨⟨rfl, rfl⟩, k _⟩ hx
theorem w_ite {c : Prop} [Decidable c] {a b : Sem α} {Q : α → Heap → Prop} (x : c → Wp M A a Q h) (y : ¬ c → Wp M A b Q h) : Wp M A (if c then a else b) Q h := by
  split
  · exact x (by assumption)
  · exact y (by assumption)
/-- a look that changes nothing -/
theorem w_looks {t : Sem α} {r : α} {Q : α → Heap → Prop} (x : Looks M h t r) (k : Q r h) : Wp M A t Q h := fun s hs => by subst hs; exact x.here ⟨⟨rfl, rfl⟩, k⟩
end

section
variable {M : Model} {A : Around} {h : Heap} {env : Env}

/-! ## names -/
theorem w_nm {x : Str} {pos : Pos} {v : Value} {m : Str → Option Value} {Q : Value → Heap → Prop} (hn : h.Ns env.locals m) (hv : m x = some v) (k : Q v h)
    (hk : env.scope.kind = .function := by rfl) (hl : env.kindOf x = some .local := by rfl) (hd : (x == ("__debug__" : Str)) = false := by decide) :
    Wp M A (eval (.Name x pos) env) Q h := fun s hs => by subst hs; exact wpAny_Name (wpAny_loadName_local hk hl hn hv ⟨⟨rfl, rfl⟩, k⟩) hd
theorem w_nmG {x : Str} {pos : Pos} {v : Value} {mg : Str → Option Value} {Q : Value → Heap → Prop} (hg : h.Ns env.globals mg) (hv : mg x = some v) (k : Q v h)
    (hk : env.scope.kind = .function := by rfl) (hl : env.kindOf x = some .globalImplicit := by rfl) (hd : (x == ("__debug__" : Str)) = false := by decide) :
    Wp M A (eval (.Name x pos) env) Q h := fun s hs => by subst hs; exact Calls.Name_function_global hk hl (Calls.loadGlobal_global hg hv ⟨⟨rfl, rfl⟩, k⟩) hd
theorem w_nmB {x : Str} {pos : Pos} {v : Value} {mg mb : Str → Option Value} {Q : Value → Heap → Prop} (hg : h.Ns env.globals mg) (hmiss : mg x = none) (hb : h.Ns env.builtins mb) (hv : mb x = some v) (k : Q v h)
    (hk : env.scope.kind = .function := by rfl) (hl : env.kindOf x = some .globalImplicit := by rfl) (hd : (x == ("__debug__" : Str)) = false := by decide) :
    Wp M A (eval (.Name x pos) env) Q h := fun s hs => by subst hs; exact Calls.Name_function_global hk hl (Calls.loadGlobal_builtin hg hmiss hb hv ⟨⟨rfl, rfl⟩, k⟩) hd
theorem w_store {x : Str} {v : Value} {m : Str → Option Value} {Q : Unit → Heap → Prop} (hn : h.Ns env.locals m)
    (k : ∀ h', h'.Ns env.locals (fun y => if y = x then some v else m y) → Heap.SameBut env.locals h h' → Q () h')
    (hl : env.kindOf x = some .local := by rfl) (hp : (env.scope.kind == .class || (env.scope.kind == .module && env.locals != env.globals)) = false := by rfl) :
    Wp M A (storeName env x v) Q h := fun s hs => by subst hs; exact wpAny_storeName_local hl hn (fun h' a b => ⟨⟨rfl, rfl⟩, k h' a b⟩) hp
theorem w_st {base : Heap} {L : Addr} {x : Str} {v : Value} {m : Str → Option Value} {Q : Unit → Heap → Prop} (F : Fr base L h m)
    (k : ∀ h', Fr base L h' (fun y => if y = x then some v else m y) → Q () h') (hL : env.locals = L := by rfl)
    (hl : env.kindOf x = some .local := by rfl) (hp : (env.scope.kind == .class || (env.scope.kind == .module && env.locals != env.globals)) = false := by rfl) :
    Wp M A (storeName env x v) Q h := by
  subst hL
  exact w_store F.ns (fun h' a b => k h' (F.set a b)) hl hp

/-! ## constants -/
theorem w_cInt {i : Int} {k' : Nat} {pos : Pos} {Q : Value → Heap → Prop} (k : ∀ t, Q (.int i t) h) : Wp M A (eval (.Constant (.int i) k' pos) env) Q h := fun s hs => by subst hs; exact wpAny_Constant_int ⟨⟨rfl, rfl⟩, k _⟩
theorem w_cStr {x : Str} {k' : Nat} {pos : Pos} {Q : Value → Heap → Prop} (k : ∀ t, Q (.str x t) h) : Wp M A (eval (.Constant (.str x) k' pos) env) Q h := fun s hs => by subst hs; exact wpAny_Constant_str ⟨⟨rfl, rfl⟩, k _⟩
theorem w_cNone {k' : Nat} {pos : Pos} {Q : Value → Heap → Prop} (k : Q .none h) : Wp M A (eval (.Constant .none k' pos) env) Q h := fun s hs => by subst hs; exact wpAny_Constant_none ⟨⟨rfl, rfl⟩, k⟩
theorem w_cBool {b : Bool} {k' : Nat} {pos : Pos} {Q : Value → Heap → Prop} (k : Q (.bool b) h) : Wp M A (eval (.Constant (.bool b) k' pos) env) Q h := fun s hs => by subst hs; exact wpAny_Constant_bool ⟨⟨rfl, rfl⟩, k⟩

/-! ## nodes -/
theorem w_binOp {l r : Expr} {op : Operator} {pos : Pos} {Q : Value → Heap → Prop}
    (x : Wp M A (eval l env) (fun a h₁ => Wp M A (eval r env) (fun b h₂ => Wp M A (binaryOp op a b) Q h₂) h₁) h) : Wp M A (eval (.BinOp l op r pos) env) Q h := by
  rw [eval_BinOp]
  exact w_bind (x.mono fun _ _ y => w_bind (w_holding (y.mono fun _ _ z => w_bind (w_standAt (w_operate z)))))
theorem w_cmp {l r : Expr} {op : CmpOp} {pos : Pos} {Q : Value → Heap → Prop}
    (x : Wp M A (eval l env) (fun a h₁ => Wp M A (eval r env) (fun b h₂ => Wp M A (compareOp op a b) Q h₂) h₁) h) (hm : behindInMarks op r = false := by with_unfolding_all rfl) :
    Wp M A (eval (.Compare l [op] [r] pos) env) Q h := by
  rw [eval_Compare1, markedBehindIn_of_false hm]
  exact w_bind (x.mono fun _ _ y => w_bind (w_holding (y.mono fun _ _ z => w_bind (w_standAt (w_operate z)))))
theorem w_tCmp {l r : Expr} {op : CmpOp} {pos : Pos} {whole : Sem Value} {Q : Bool → Heap → Prop}
    (x : Wp M A (eval l env) (fun a h₁ => Wp M A (eval r env) (fun b h₂ => Wp M A (compareOp op a b) (fun c h₃ => Wp M A (truthy c) Q h₃) h₂) h₁) h) (hm : behindInMarks op r = false := by with_unfolding_all rfl) :
    Wp M A (isTrue (.Compare l [op] [r] pos) env whole) Q h := by
  rw [isTrue_Compare1, markedBehindIn_of_false hm]
  exact w_bind (x.mono fun _ _ y => w_bind (w_holding (y.mono fun _ _ z => w_bind (w_standAt (w_bind (w_operate (z.mono fun _ _ u => w_holding u)))))))
theorem w_tBool {b : Bool} {Q : Bool → Heap → Prop} (k : Q b h) : Wp M A (truthy (.bool b)) Q h := fun s hs => by subst hs; exact wpAny_truthy_bool ⟨⟨rfl, rfl⟩, k⟩
theorem w_tPlain {e : Expr} {whole : Sem Value} {Q : Bool → Heap → Prop} (x : Wp M A whole (fun v h₁ => Wp M A (truthy v) Q h₁) h)
    (he : isTrue e env whole = (do let v ← whole; standAt e.pos; holding [v] (truthy v)) := by rfl) : Wp M A (isTrue e env whole) Q h := by
  rw [he]; exact w_bind (x.mono fun _ _ y => w_bind (w_standAt (w_holding y)))
theorem w_tNot {e : Expr} {pos : Pos} {whole : Sem Value} {Q : Bool → Heap → Prop} (x : Wp M A (isTrue e env (eval e env)) (fun c h₁ => Q (!c) h₁) h) :
    Wp M A (isTrue (.UnaryOp .Not e pos) env whole) Q h := by
  show Wp M A (do return !(← isTrue e env (eval e env))) Q h
  exact w_bind (x.mono fun _ _ y => w_pure y)
theorem w_tOr {e : Expr} {rest : List Expr} {pos : Pos} {whole : Sem Value} {Q : Bool → Heap → Prop}
    (x : Wp M A (isTrue e env (eval e env)) (fun c h' => (c = true → Q true h') ∧ (c = false → Wp M A (isTrue (.BoolOp .Or rest pos) env whole) Q h')) h) :
    Wp M A (isTrue (.BoolOp .Or (e :: rest) pos) env whole) Q h := by
  show Wp M A (do
    match BoolOp.Or, ← isTrue e env (eval e env) with
    | .And, false => pure false
    | .Or, true => pure true
    | _, _ => allTrue .Or rest env) Q h
  refine w_bind (x.mono fun c h' y => ?_)
  cases c with
  | false => exact y.2 rfl
  | true => exact w_pure (y.1 rfl)
theorem w_tOr0 {pos : Pos} {whole : Sem Value} {Q : Bool → Heap → Prop} (k : Q false h) : Wp M A (isTrue (.BoolOp .Or [] pos) env whole) Q h := w_pure (a := false) k
theorem w_tAnd {e : Expr} {rest : List Expr} {pos : Pos} {whole : Sem Value} {Q : Bool → Heap → Prop}
    (x : Wp M A (isTrue e env (eval e env)) (fun c h' => (c = true → Wp M A (isTrue (.BoolOp .And rest pos) env whole) Q h') ∧ (c = false → Q false h')) h) :
    Wp M A (isTrue (.BoolOp .And (e :: rest) pos) env whole) Q h := by
  show Wp M A (do
    match BoolOp.And, ← isTrue e env (eval e env) with
    | .And, false => pure false
    | .Or, true => pure true
    | _, _ => allTrue .And rest env) Q h
  refine w_bind (x.mono fun c h' y => ?_)
  cases c with
  | false => exact w_pure (y.2 rfl)
  | true => exact y.1 rfl
theorem w_tAnd0 {pos : Pos} {whole : Sem Value} {Q : Bool → Heap → Prop} (k : Q true h) : Wp M A (isTrue (.BoolOp .And [] pos) env whole) Q h := w_pure (a := true) k
theorem w_ifExp {test body orelse : Expr} {pos : Pos} {Q : Value → Heap → Prop}
    (x : Wp M A (isTrue test env (eval test env)) (fun c h' => (c = true → Wp M A (eval body env) Q h') ∧ (c = false → Wp M A (eval orelse env) Q h')) h) :
    Wp M A (eval (.IfExp test body orelse pos) env) Q h := by
  rw [PyProof.Rows.eval_IfExp]
  refine w_bind (x.mono fun c h' y => ?_)
  cases c with
  | false => exact y.2 rfl
  | true => exact y.1 rfl

/-! ## statements -/
theorem w_nil {Q : Flow → Heap → Prop} (k : Q .next h) : Wp M A (execs [] env) Q h := w_pure k
theorem w_cons {st : Stmt} {rest : List Stmt} {Q : Flow → Heap → Prop}
    (x : Wp M A (exec st env) (fun f h' => match f with | .next => Wp M A (execs rest env) Q h' | f => Q f h') h) : Wp M A (execs (st :: rest) env) Q h := by
  rw [execs_cons]
  refine w_bind (x.mono fun f h' y => ?_)
  cases f <;> first | exact y | exact w_pure y
theorem w_if_ {test : Expr} {body orelse : List Stmt} {pos : Pos} {Q : Flow → Heap → Prop}
    (x : Wp M A (isTrue test env (eval test env)) (fun c h' => (c = true → Wp M A (execs body env) Q h') ∧ (c = false → Wp M A (execs orelse env) Q h')) h) :
    Wp M A (exec (.If test body orelse pos) env) Q h := by
  rw [exec_If]
  refine w_bind (w_standAt (w_bind (x.mono fun c h' y => ?_)))
  cases c with
  | false => exact y.2 rfl
  | true => exact y.1 rfl
theorem w_ret {e : Expr} {pos : Pos} {Q : Flow → Heap → Prop} (x : Wp M A (eval e env) (fun v => Q (.ret v)) h) : Wp M A (exec (.Return (some e) pos) env) Q h := by
  rw [exec_Return_some]
  exact w_bind (w_standAt (w_bind (x.mono fun _ _ y => w_pure y)))
theorem w_bindName {x : Str} {v : Value} {Q : Unit → Heap → Prop} (y : Wp M A (storeName env x v) Q h) : Wp M A (bindName env x v) Q h := fun s hs => wpAny_bindName (y s hs)
theorem w_asg {x : Str} {pos' : Pos} {value : Expr} {pos : Pos} {Q : Flow → Heap → Prop}
    (y : Wp M A (eval value env) (fun v h₁ => Wp M A (storeName env x v) (fun _ => Q .next) h₁) h)
    (hs : swapsWith value (some (.Name x pos')) pos.line env = pure false := by rfl) : Wp M A (exec (.Assign [.Name x pos'] value pos) env) Q h := by
  rw [exec_Assign_Name env x pos' value pos hs]
  exact w_bind (w_standAt (w_bind (y.mono fun _ _ z => w_bind (w_standAt (w_bind (w_bindName (z.mono fun _ _ u => w_pure u)))))))
theorem w_aug {x : Str} {pos' : Pos} {op : Operator} {value : Expr} {pos : Pos} {Q : Flow → Heap → Prop}
    (y : Wp M A (loadName env x) (fun old h₁ => Wp M A (eval value env) (fun v h₂ => Wp M A (inplaceOp op old v) (fun r h₃ => Wp M A (storeName env x r) (fun _ => Q .next) h₃) h₂) h₁) h) :
    Wp M A (exec (.AugAssign (.Name x pos') op value pos) env) Q h := by
  rw [exec_AugAssign_Name]
  exact w_bind (w_standAt (w_bind (y.mono fun _ _ z => w_bind (w_holding (z.mono fun _ _ u => w_bind (w_standAt (w_bind (w_operate (u.mono fun _ _ o => w_bind (w_standAt (w_bind (w_bindName (o.mono fun _ _ q => w_pure q)))))))))))))
/-- an expression as a statement whose value is no object -/
theorem w_expr {e : Expr} {pos : Pos} {Q : Flow → Heap → Prop} (x : Wp M A (eval e env) (fun v h' => (∀ a, v ≠ .ref a) ∧ Q .next h') h)
    (hi : interactive env = false := by rfl) (hs : swapsWith e none pos.line env = pure false := by rfl) : Wp M A (exec (.Expr e pos) env) Q h := by
  rw [exec_Expr env e pos hi hs]
  refine w_bind (w_standAt (w_bind (x.mono fun v h' y => ?_)))
  rw [dropValue_plain y.1]
  exact w_pure y.2
end

section
variable {prog : Program} {w : World} {A : Around} {h : Heap} {env : Env}
theorem w_while_ {test : Expr} {body orelse : List Stmt} {pos : Pos} {Q : Flow → Heap → Prop} (I : Nat → Heap → Prop) (n : Nat) (h0 : I n h)
    (turn : ∀ n h, I n h → Wp (model prog w) A (isTrue test env (eval test env)) (fun b h₂ =>
        (b = true → Wp (model prog w) A (execs body env) (fun f h₃ => match f with
            | .next | .cont => ∃ m, m < n ∧ I m h₃
            | .brk => Q .next h₃
            | .ret v => Q (.ret v) h₃) h₂) ∧
        (b = false → Wp (model prog w) A (execs orelse env) Q h₂)) h) :
    Wp (model prog w) A (exec (.While test body orelse pos) env) Q h := by
  intro s hs
  subst hs
  refine wpAny_While (codeAny_whileLoop (fun k s' => (s'.os = s.os ∧ s'.gens = s.gens) ∧ I k s'.heap) (fun n s' hI => ?_) n ⟨⟨rfl, rfl⟩, h0⟩)
  refine Wp.run (turn n s'.heap hI.2) (fun b s₂ o₂ g₂ hb => ?_)
  cases b with
  | true =>
    rw [if_pos rfl]
    refine Wp.run (hb.1 rfl) (fun f s₃ o₃ g₃ hf => ?_)
    have q : s₃.os = s.os ∧ s₃.gens = s.gens := ⟨(o₃.trans o₂).trans hI.1.1, (g₃.trans g₂).trans hI.1.2⟩
    cases f with
    | next => obtain ⟨m, hm, hi⟩ := hf; exact ⟨m, hm, q, hi⟩
    | cont => obtain ⟨m, hm, hi⟩ := hf; exact ⟨m, hm, q, hi⟩
    | brk => exact ⟨q, hf⟩
    | ret v => exact ⟨q, hf⟩
  | false =>
    rw [if_neg (by decide)]
    exact Wp.run (hb.2 rfl) (fun f s₃ o₃ g₃ hf => ⟨⟨(o₃.trans o₂).trans hI.1.1, (g₃.trans g₂).trans hI.1.2⟩, hf⟩)

/-! ## ints -/
theorem w_addInt {a b : Int} {t u : Tok} {Q : Value → Heap → Prop} (k : ∀ t, Q (.int (a + b) t) h) : Wp (model prog w) A (binaryOp .Add (.int a t) (.int b u)) Q h := fun s hs => by subst hs; exact wpAny_add_int ⟨⟨rfl, rfl⟩, k _⟩
theorem w_subInt {a b : Int} {t u : Tok} {Q : Value → Heap → Prop} (k : ∀ t, Q (.int (a - b) t) h) : Wp (model prog w) A (binaryOp .Sub (.int a t) (.int b u)) Q h := fun s hs => by subst hs; exact sub_int ⟨⟨rfl, rfl⟩, k _⟩
theorem w_divInt {a b : Int} {t u : Tok} {Q : Value → Heap → Prop} (hb : b ≠ 0) (k : ∀ t, Q (.int (a.fdiv b) t) h) (hz : b.natAbs < 1073741824 := by decide) : Wp (model prog w) A (binaryOp .FloorDiv (.int a t) (.int b u)) Q h := fun s hs => by subst hs; exact floordiv_int hb ⟨⟨rfl, rfl⟩, k _⟩ (Or.inl (PyProof.noPylong_small hz))
theorem w_modInt {a b : Int} {t u : Tok} {Q : Value → Heap → Prop} (hb : b ≠ 0) (k : ∀ t, Q (.int (a.fmod b) t) h) : Wp (model prog w) A (binaryOp .Mod (.int a t) (.int b u)) Q h := fun s hs => by subst hs; exact mod_int' hb ⟨⟨rfl, rfl⟩, k _⟩
theorem w_ltInt {a b : Int} {t u : Tok} {Q : Value → Heap → Prop} (k : Q (.bool (decide (a < b))) h) : Wp (model prog w) A (compareOp .Lt (.int a t) (.int b u)) Q h := fun s hs => by subst hs; exact wpAny_lt_int ⟨⟨rfl, rfl⟩, k⟩
theorem w_isNone {v : Value} {Q : Value → Heap → Prop} (k : Q (.bool (v == .none)) h) : Wp (model prog w) A (compareOp .Is v .none) Q h := fun s hs => by subst hs; exact is_none_gen ⟨⟨rfl, rfl⟩, k⟩

/-! ## lists -/
theorem w_lenList {l : Addr} {items : Array Value} {Q : Value → Heap → Prop} (hl : h.IsList l items) (hfit : (items.size : Int) < 2 ^ 63) (k : ∀ t, Q (.int items.size t) h) :
    Wp (model prog w) A (call (.builtin "len") [.ref l]) Q h := fun s hs => by subst hs; exact len_list hl hfit ⟨⟨rfl, rfl⟩, k _⟩
theorem w_sub {value slice : Expr} {pos : Pos} {Q : Value → Heap → Prop}
    (x : Wp (model prog w) A (eval value env) (fun o h₁ => Wp (model prog w) A (eval slice env) (fun i h₂ => Wp (model prog w) A (subscriptTail value slice o i) Q h₂) h₁) h) : Wp (model prog w) A (eval (.Subscript value slice pos) env) Q h := by
  intro s hs
  refine Subscript_ ?_
  refine wpAny_mono (x s hs) (fun o s₁ y => ?_) fun _ _ z => z
  refine wpAny_mono (y.2 s₁ rfl) (fun i s₂ z => ?_) fun _ _ z => z
  exact wpAny_mono (z.2 s₂ rfl) (fun r s₃ u => ⟨⟨u.1.1.trans (z.1.1.trans y.1.1), u.1.2.trans (z.1.2.trans y.1.2)⟩, u.2⟩) fun _ _ z => z
theorem w_itemList {value slice : Expr} {l : Addr} {items : Array Value} {j : Int} {u : Tok} {x : Value} {Q : Value → Heap → Prop} (hl : h.IsList l items)
    (h0 : 0 ≤ j) (hfit : j < 2 ^ 63) (hx : items[j.toNat]? = some x) (k : Q x h)
    (hs : subscripted slice false (.ref l) (.int j u) = operate [.ref l, .int j u] (getItem (.ref l) (.int j u)) := by with_unfolding_all rfl) (hg : ∀ r, letTemporaryGo value (.ref l) r = pure () := by intro _; with_unfolding_all rfl) :
    Wp (model prog w) A (subscriptTail value slice (.ref l) (.int j u)) Q h := fun s hs' => by subst hs'; exact item_list hl h0 hfit hx ⟨⟨rfl, rfl⟩, k⟩ hs hg
end

/-! ## calls -/
section
variable {M : Model} {A : Around} {h : Heap} {env : Env} {pos : Pos}
/-- who keeps a callee's arguments alive: a look -/
def Kp (M : Model) (h : Heap) (f : Value) : Prop := ∃ k, Looks M h (keeperOf f) k
theorem Kp.ext {h' : Heap} {f : Value} (x : Kp M h f) (k : Ext h h') : Kp M h' f := let ⟨a, b⟩ := x; ⟨a, b.keeps k⟩
theorem Kp.func {a : Addr} {o : Obj} {fd : FuncData} (ho : h.get? a = some o) (hd : o.data = .func fd) : Kp M h (.ref a) :=
  ⟨.frame, fun A Q E s k q => by unfold keeperOf; exact wpAny_bind (wpAny_load (k _ _ ho) (by rw [hd]; exact wpAny_pure q))⟩
theorem Kp.builtin (i : String) : Kp M h (.builtin i) := ⟨.machine, Looks.of_pure rfl⟩
theorem Kp.type (i : String) : Kp M h (.type i) := ⟨.machine, Looks.of_pure rfl⟩
theorem w_keep {vs : List Value} {t : Sem Value} {Q : Value → Heap → Prop} (x : Wp M A t Q h) : Wp M A (t.keep vs) Q h := fun s hs => Calls.wpAny_keep (x s hs)
theorem w_callWith {f : Value} {first : List Value} {args : List (Bool × Sem Value)} {keywords : List (Option Str × Sem Value)} {Q : Value → Heap → Prop}
    (x : Wp M A (evalArgs f true args keywords) (fun a h₁ => Kp M h₁ f ∧ Wp M A (call f (first ++ a.pos) a.kw) Q h₁) h) : Wp M A (callWith pos f first args keywords) Q h := by
  unfold callWith
  refine w_bind (w_holding (x.mono fun a h₁ y => w_bind (w_standAt ?_)))
  obtain ⟨⟨k, hk⟩, y⟩ := y
  have tail : ∀ {t : Sem Value}, Wp M A t Q h₁ → Wp M A (t >>= fun r => holding [r] point >>= fun _ => pure r) Q h₁ :=
    fun ht => w_bind (ht.mono fun r h₂ hr => w_bind (w_holding (w_point (w_pure hr))))
  have marked (mk : Value) : Wp M A (callMarked mk f (first ++ a.pos) a.kw) Q h₁ := by unfold callMarked; exact w_keep y
  cases hs : (args.any (·.1) || keywords.any (·.1.isNone)) <;> dsimp only <;> refine w_bind (w_looks hk ?_) <;> cases k <;> dsimp only <;>
    first | exact tail y | exact tail (marked _) | exact tail (w_operate y) | (split <;> first | exact tail y | exact tail (marked _))
theorem w_callN {id : Str} {p : Pos} {args : List Expr} {kws : List Keyword} {Q : Value → Heap → Prop}
    (x : Wp M A (eval (.Name id p) env) (fun f h₁ => Wp M A (callWith pos f [] (backTo pos (starEach args env)) (backToKw pos (keywordEach kws env))) Q h₁) h) :
    Wp M A (eval (.Call (.Name id p) args kws pos) env) Q h := by
  rw [arm_eval_Call_Name']
  exact w_bind x
theorem w_arg {e : Expr} {rest : List Expr} {Q : List Value → Heap → Prop}
    (x : Wp M A (eval e env) (fun v h₁ => Wp M A (spliced (backTo pos (starEach rest env))) (fun vs h₂ => Q (v :: vs) h₂) h₁) h)
    (he : starEach (e :: rest) env = (false, eval e env) :: starEach rest env := by rfl) : Wp M A (spliced (backTo pos (starEach (e :: rest) env))) Q h := by
  rw [he]
  show Wp M A (do
    let v ← eval e env
    let here ← (pure [v] : Sem (List Value))
    return here ++ (← holding here (spliced (backTo pos (starEach rest env))))) Q h
  exact w_bind (x.mono fun v h₁ y => w_bind (w_pure (w_bind (w_holding (y.mono fun vs h₂ z => w_pure z)))))
theorem w_arg0 {Q : List Value → Heap → Prop} (k : Q [] h) : Wp M A (spliced (backTo pos (starEach [] env))) Q h := w_pure k
theorem w_kw0 {Q : List Value → Heap → Prop} (k : Q [] h) : Wp M A (evalAll ((backToKw pos (keywordEach [] env)).map (·.2))) Q h := w_pure k
theorem w_kw {n : Option Str} {e : Expr} {p : Pos} {rest : List Keyword} {Q : List Value → Heap → Prop}
    (x : Wp M A (eval e env) (fun v h₁ => Wp M A (evalAll ((backToKw pos (keywordEach rest env)).map (·.2))) (fun vs h₂ => Q (v :: vs) h₂) h₁) h) :
    Wp M A (evalAll ((backToKw pos (keywordEach (⟨n, e, p⟩ :: rest) env)).map (·.2))) Q h := by
  show Wp M A (do
    let v ← (do let v ← eval e env; standAt pos; pure v)
    return v :: (← holding [v] (evalAll ((backToKw pos (keywordEach rest env)).map (·.2))))) Q h
  refine w_bind (w_bind (x.mono fun v h₁ y => w_bind (w_standAt (w_pure ?_))))
  exact w_bind (w_holding (y.mono fun vs h₂ z => w_pure z))
theorem w_evalArgs {f : Value} {e : Expr} {es : List Expr} {kws : List Keyword} {Q : Args → Heap → Prop}
    (x : Wp M A (spliced (backTo pos (starEach (e :: es) env))) (fun vs h₁ => Wp M A (evalAll ((backToKw pos (keywordEach kws env)).map (·.2))) (fun ks h₂ => Q ⟨vs, ((backToKw pos (keywordEach kws env)).filterMap (·.1)).zip ks⟩ h₂) h₁) h)
    (hall : (backToKw pos (keywordEach kws env)).all (·.1.isSome) = true := by rfl) (he : starEach (e :: es) env = (false, eval e env) :: starEach es env := by rfl) :
    Wp M A (evalArgs f true (backTo pos (starEach (e :: es) env)) (backToKw pos (keywordEach kws env))) Q h := by
  intro s hs
  have hb : backTo pos (starEach (e :: es) env) = (false, eval e env) :: backTo pos (starEach es env) := by rw [he]; rfl
  rw [hb]
  refine evalArgs_kw hall ?_
  rw [← hb]
  refine wpAny_mono (x s hs) (fun vs s₁ y => ?_) fun _ _ z => z
  exact wpAny_mono (y.2 s₁ rfl) (fun ks s₂ z => ⟨⟨z.1.1.trans y.1.1, z.1.2.trans y.1.2⟩, z.2⟩) fun _ _ z => z
theorem w_evalArgs0 {f : Value} {kws : List Keyword} {Q : Args → Heap → Prop}
    (x : Wp M A (evalAll ((backToKw pos (keywordEach kws env)).map (·.2))) (fun ks h₂ => Q ⟨[], ((backToKw pos (keywordEach kws env)).filterMap (·.1)).zip ks⟩ h₂) h)
    (hall : (backToKw pos (keywordEach kws env)).all (·.1.isSome) = true := by rfl) :
    Wp M A (evalArgs f true (backTo pos (starEach [] env)) (backToKw pos (keywordEach kws env))) Q h := by
  intro s hs
  refine evalArgs_kw_nil hall ?_
  exact x s hs
/-- a call with positional arguments and keywords: the arguments from left to right, then the call -/
theorem w_args {f : Value} {first : List Value} {e : Expr} {es : List Expr} {kws : List Keyword} {Q : Value → Heap → Prop}
    (x : Wp M A (spliced (backTo pos (starEach (e :: es) env))) (fun vs h₁ => Wp M A (evalAll ((backToKw pos (keywordEach kws env)).map (·.2)))
      (fun ks h₂ => Kp M h₂ f ∧ Wp M A (call f (first ++ vs) (((backToKw pos (keywordEach kws env)).filterMap (·.1)).zip ks)) Q h₂) h₁) h)
    (hall : (backToKw pos (keywordEach kws env)).all (·.1.isSome) = true := by rfl) (he : starEach (e :: es) env = (false, eval e env) :: starEach es env := by rfl) :
    Wp M A (callWith pos f first (backTo pos (starEach (e :: es) env)) (backToKw pos (keywordEach kws env))) Q h := w_callWith (w_evalArgs x hall he)
theorem w_args0 {f : Value} {first : List Value} {Q : Value → Heap → Prop} (hk : Kp M h f) (x : Wp M A (call f (first ++ []) []) Q h) :
    Wp M A (callWith pos f first (backTo pos (starEach [] env)) (backToKw pos (keywordEach [] env))) Q h := w_callWith (w_evalArgs0 (w_kw0 ⟨hk, x⟩))
end

section
variable {prog : Program} {w : World} {A : Around} {h : Heap}
/-- a code that ends in a value -/
def Wc (M : Model) (A : Around) (c : Code) (Q : Value → Heap → Prop) (h : Heap) : Prop :=
  ∀ s : Shared, s.heap = h → codeAny M A c (fun r s' => match r with | .ok (.ret v) => (s'.os = s.os ∧ s'.gens = s.gens) ∧ Q v s'.heap | .ok _ => False | .error _ => False) s
theorem w_call {M : Model} {f : Value} {pos : List Value} {kw : List (Str × Value)} {Q : Value → Heap → Prop} (x : Wc M A (.call f ⟨pos, kw⟩) Q h) : Wp M A (call f pos kw) Q h :=
  fun s hs => wpAny_call (codeAny_mono (x s hs) fun r s' y => by rcases r with e | (v | _ | _ | _) <;> first | exact y | exact y.elim)
theorem Wc.mono {M : Model} {c : Code} {Q Q' : Value → Heap → Prop} (x : Wc M A c Q h) (k : ∀ a h', Q a h' → Q' a h') : Wc M A c Q' h :=
  fun s hs => codeAny_mono (x s hs) fun r s' y => by rcases r with e | (_ | _ | _ | v) <;> first | exact y.elim | exact ⟨y.1, k _ _ y.2⟩
/-- a plain def is called: its frame lies at the heap's end -/
theorem c_callDef {fa : Addr} {o : Obj} {fd : FuncData} {body : List Stmt} {pos : List Value} {kw : List (Str × Value)} {binds : List (Str × Value)} {Q : Value → Heap → Prop}
    (hroom : A.depth < recursionLimit) (ho : h.get? fa = some o) (hd : o.data = .func fd) (hlim : h.NoLimit) (hcd : h.CodeRec fd.code fd.qualname) (hbody : fd.body = .stmts body)
    (hb : ∀ s : Shared, s.heap = h → BindsTo s fd ⟨pos, kw⟩ binds) (hcell : ∀ x ∈ fd.scope.names, x.2 ≠ .cell) (hloc : ∀ x ∈ binds, fd.scope.names.lookup x.1 = some .local)
    (x : ∀ L h₁, L = h.objs.size → Fr h L h₁ (fun y => binds.reverse.lookup y) →
      Wp (model prog w) (A.deeper (callEnv fd L fa)) (execs body (callEnv fd L fa)) (fun f h' => Q (match f with | .ret v => v | _ => .none) h') h₁)
    (hco : fd.scope.isCoroutine = false := by rfl) (hgen : fd.scope.isGenerator = false := by rfl) (hk : fd.scope.kind = .function := by rfl) :
    Wc (model prog w) A (.call (.ref fa) ⟨pos, kw⟩) Q h := by
  intro s hs
  subst hs
  refine codeAny_call_def hroom ho hd hlim hcd hbody (hb s rfl) hcell hloc (fun h₀ hns hk₀ => ?_) hco hgen hk
  refine Wp.run (x s.heap.objs.size h₀ rfl ⟨hns, hk₀, Nat.le_refl _⟩) (fun f s' o g q => ?_)
  exact ⟨⟨o, g⟩, q⟩
end

theorem IsList.ext {h h' : Heap} {l : Addr} {items : Array Value} (hl : h.IsList l items) (k : Ext h h') : h'.IsList l items := let ⟨o, ho, r⟩ := hl; ⟨o, k _ _ ho, r⟩

/-- in every later heap the comparison v < x gives b and adds objects alone -/
def CmpLt (n : Nat) (prog : Program) (w : World) (h : Heap) (v x : Value) (b : Bool) : Prop :=
  ∀ (A : Around) (h' : Heap) (Q : Value → Heap → Prop), OkA n A → Ext h h' → (∀ h'', Ext h' h'' → Q (.bool b) h'') → Wp (model prog w) A (compareOp .Lt v x) Q h'
theorem CmpLt.ext {n : Nat} {prog : Program} {w : World} {h h' : Heap} {v x : Value} {b : Bool} (c : CmpLt n prog w h v x b) (k : Ext h h') : CmpLt n prog w h' v x b :=
  fun A s Q ok e q => c A s Q ok (k.trans e) q
def KeyIs (n : Nat) (prog : Program) (w : World) (h : Heap) (key v kv : Value) : Prop :=
  ∀ (A : Around) (h' : Heap) (Q : Value → Heap → Prop), OkA n A → Ext h h' → (∀ h'', Ext h' h'' → Q kv h'') → Wp (model prog w) A (call key [v]) Q h'
theorem KeyIs.ext {n : Nat} {prog : Program} {w : World} {h h' : Heap} {key v kv : Value} (c : KeyIs n prog w h key v kv) (k : Ext h h') : KeyIs n prog w h' key v kv :=
  fun A s Q ok e q => c A s Q ok (k.trans e) q
end Mine
end
section
open PySem PySem.W PyProof.Rows
set_option Elab.async false
namespace Mine
/-- the top is checked at once, not in pieces: the compiled text gets smaller by far -/
abbrev LeftAll (p q : Program) (loose : List Str) (Xt : Shared → Bool) {α : Type} (Yf : Shared → α) (Ya : World → α) (N : Nat) : Prop := LeftO p q loose Xt Yf Ya N
theorem PySem.W.holds_open {r : OpenRow} {q : Program} {loose : List Str} {Xt : Shared → Bool} {XP : (Str → Option Value) → Heap → Prop} {α : Type} {Yf : Shared → α} {Ya : World → α} {YP : World → Heap → Prop} {d : DefRec} {kwd : List (Str × Expr)} {N : Nat}
    (left : LeftAll r.prog q loose Xt Yf Ya N) (hY : ∀ w s, Yf s = Ya w → YP w s.heap) (hYk : ∀ w h h', YP w h → (∀ b o, h.get? b = some o → h'.get? b = some o) → YP w h')
    (hX : ∀ s, Xt s = true → XP (s.heap.nsMap mainGlobals) s.heap) (hXk : ∀ mg h h', XP mg h → (∀ b o, h.get? b = some o → h'.get? b = some o) → XP mg h')
    (hdef : defOf q r.name = some (d, kwd)) (hp : r.prog.theDef r.name = some (d.params, d.body, d.scope)) (hk : kwWritten? d.params.kwonlyargs d.params.kw_defaults = some kwd) (hRf : ∀ s, Xt s = true → RecFacts r.records s.heap) (hwr : (!r.writes || r.records.isEmpty) = true)
    (k1 : r.wellSaid = true) (ok : (chainsOk q && opensWell r.prog && (frees r.toRowW && r.within.isEmpty)) = true) (hb : r.prog.bare) (hw : r.toRowW.promised)
    (call : WalkO q loose XP YP r.toRowW d kwd fun f vs => PySem.call f vs) : r.Holds := _root_.PySem.W.holds_open left hY hYk hX hXk hdef hp hk hRf hwr k1 ok hb hw call
set_option maxRecDepth 100000 in
set_option maxHeartbeats 8000000 in
open_top hd for PySem.Challenge.rw_pk0071_02.row
set_option maxRecDepth 100000 in
theorem said : PySem.Challenge.rw_pk0071_02.wellSaid = true := by decide +kernel
end Mine
end
section
open PySem PySem.W PyProof.Rows
set_option Elab.async false
set_option maxRecDepth 100000
set_option linter.unusedVariables false
namespace Mine
noncomputable abbrev KH (w : World) : Frag := Mine.hd.heap_1 w.params
abbrev aBR : Addr := 74
abbrev aBL : Addr := 92

structure G0 (w : World) (mg mb : Str → Option Value) (h : Heap) : Prop where
  K : (KH w).In h
  lim : h.NoLimit
  g : h.Ns mainGlobals mg
  b : h.Ns builtinsNs mb
  bb : ∀ x : Str, x ≠ "__name__" → mb x = bootBuiltins x
theorem G0.ext {w : World} {mg mb : Str → Option Value} {h h' : Heap} (g : G0 w mg mb h) (k : Ext h h') : G0 w mg mb h' :=
  ⟨g.K.keeps k, g.lim.keeps k, g.g.keeps k, g.b.keeps k, g.bb⟩

noncomputable def fnAt (w : World) (a : Addr) : FuncData := match (KH w).lookup a with
  | some ⟨_, _, .func fd, _⟩ => fd
  | _ => default
noncomputable def bodyAt (w : World) (a : Addr) : List Stmt := match (fnAt w a).body with
  | .stmts b => b
  | _ => []
noncomputable def objAt (w : World) (a : Addr) : Obj := ((KH w).lookup a).getD default
/-- the token of a def's first default -/
noncomputable def dtok (w : World) (a : Addr) : Tok := match (fnAt w a).defaults with
  | .ref d => (match (objAt w d).data with
    | .seq xs _ => (match (xs.toList.headD Value.none) with | Value.int _ t => t | _ => 0)
    | _ => 0)
  | _ => 0
noncomputable def envAt (w : World) (a L : Addr) : Env := callEnv (fnAt w a) L a


section
variable {prog : Program} {w : World} {A : Around} {h : Heap} {mg mb : Str → Option Value} {env : Env}
theorem w_gK {x : Str} {pos : Pos} {v : Value} {Q : Value → Heap → Prop} (G : G0 w mg mb h) (e : nsIn (KH w) mainGlobals x = some (some v)) (k : Q v h)
    (hk : env.scope.kind = .function := by rfl) (hl : env.kindOf x = some .globalImplicit := by rfl) (hg : env.globals = mainGlobals := by rfl) (hd : (x == ("__debug__" : Str)) = false := by decide) :
    Wp (model prog w) A (eval (.Name x pos) env) Q h := w_nmG (hg ▸ G.g) (mg_of G.K G.g e) k hk hl hd
theorem w_gB {x : Str} {pos : Pos} {v : Value} {Q : Value → Heap → Prop} (G : G0 w mg mb h) (e : nsIn (KH w) mainGlobals x = some none) (hv : bootBuiltins x = some v) (hn : x ≠ "__name__") (k : Q v h)
    (hk : env.scope.kind = .function := by rfl) (hl : env.kindOf x = some .globalImplicit := by rfl) (hg : env.globals = mainGlobals := by rfl) (hbl : env.builtins = builtinsNs := by rfl) (hd : (x == ("__debug__" : Str)) = false := by decide) :
    Wp (model prog w) A (eval (.Name x pos) env) Q h := w_nmB (hg ▸ G.g) (mg_none_of G.K G.g e) (hbl ▸ G.b) ((G.bb x hn).trans hv) k hk hl hd
/-- a call of one of the text's own defs -/
theorem c_callK {fa : Addr} {pos : List Value} {kw : List (Str × Value)} {binds : List (Str × Value)} {Q : Value → Heap → Prop} {n : Nat} (G : G0 w mg mb h) (ok : OkA (n + 1) A)
    (ho : (KH w).lookup fa = some (objAt w fa)) (hd : (objAt w fa).data = .func (fnAt w fa)) (hcd : codeIn (KH w) (fnAt w fa).code (fnAt w fa).qualname = true) (hbody : (fnAt w fa).body = .stmts (bodyAt w fa))
    (hb : ∀ S, peek (KH w) S (bindArgs (fnAt w fa) ⟨pos, kw⟩) = some binds) (hcell : ((fnAt w fa).scope.names.all fun x => x.2 != .cell) = true) (hloc : (binds.all fun x => decide ((fnAt w fa).scope.names.lookup x.1 = some .local)) = true)
    (x : ∀ L h₁, Fr h L h₁ (fun y => binds.reverse.lookup y) → OkA n (A.deeper (envAt w fa L)) →
      Wp (model prog w) (A.deeper (envAt w fa L)) (execs (bodyAt w fa) (envAt w fa L)) (fun f h' => Q (match f with | .ret v => v | _ => .none) h') h₁)
    (hco : (fnAt w fa).scope.isCoroutine = false := by rfl) (hgen : (fnAt w fa).scope.isGenerator = false := by rfl) (hk : (fnAt w fa).scope.kind = .function := by rfl) :
    Wc (model prog w) A (.call (.ref fa) ⟨pos, kw⟩) Q h :=
  c_callDef (by have := ok.depth; lia) (G.K _ _ ho) hd G.lim (codeRec_of G.K hcd) hbody (fun s hs => kp_binds (hs ▸ G.K) hb) (fun x hx => by simpa using List.all_eq_true.mp hcell x hx) (locs hloc) (fun L h₁ _ F => x L h₁ F (ok.deeper _)) hco hgen hk
end

theorem mid_eq (a b : Nat) : ((a : Int) + (b : Int)).fdiv 2 = (((a + b) / 2 : Nat) : Int) := by
  rw [Int.fdiv_eq_ediv_of_nonneg _ (by decide)]; lia

abbrev nA : Str := Str.ofString "a"
abbrev nX : Str := Str.ofString "x"
abbrev nLo : Str := Str.ofString "lo"
abbrev nHi : Str := Str.ofString "hi"
abbrev nKey : Str := Str.ofString "key"

/-- the locals of a search -/
structure BisM (m : Str → Option Value) (la : Addr) (x key : Value) (lo hi : Nat) : Prop where
  a : m nA = some (.ref la)
  x : m nX = some x
  key : m nKey = some key
  lo : ∃ t, m nLo = some (.int lo t)
  hi : ∃ t, m nHi = some (.int hi t)
section
variable {prog : Program} {w : World} {A : Around} {h : Heap} {mg mb : Str → Option Value}

set_option maxHeartbeats 1000000 in
theorem bl_nokey {base : Heap} {L la : Addr} {m : Str → Option Value} {vs : List Value} {x : Value} {lo hi r : Nat} {less : Nat → Bool} {Q : Flow → Heap → Prop} {n : Nat}
    (F : Fr base L h m) (hla : base.IsList la vs.toArray) (B : BisM m la x .none lo hi) (ok : OkA n A)
    (h1 : lo ≤ r) (h2 : r ≤ hi) (h3 : hi ≤ vs.length) (hsz : vs.length < 2 ^ 62)
    (hl : ∀ i, lo ≤ i → i < r → less i = true) (hr : ∀ i, r ≤ i → i < hi → less i = false)
    (hc : ∀ i v, vs[i]? = some v → CmpLt n prog w base v x (less i))
    (hQ : ∀ h' t, Ext base h' → Q (.ret (.int r t)) h') :
    Wp (model prog w) A (execs ((bodyAt w aBL).drop 2) (envAt w aBL L)) Q h := by
  refine w_cons ?_
  refine w_if_ ?_
  refine w_tCmp ?_
  refine w_nm F.ns B.key ?_
  refine w_cNone ?_
  refine w_isNone ?_
  refine w_tBool ⟨fun _ => ?_, fun e => by cases e⟩
  refine w_cons ?_
  refine w_while_ (fun k h' => ∃ m' lo' hi', Fr base L h' m' ∧ BisM m' la x .none lo' hi' ∧ lo ≤ lo' ∧ lo' ≤ r ∧ r ≤ hi' ∧ hi' ≤ hi ∧ k = hi' - lo') (hi - lo)
    ⟨m, lo, hi, F, B, Nat.le_refl _, h1, h2, Nat.le_refl _, rfl⟩ ?_
  rintro k h' ⟨m', lo', hi', F', B', g1, g2, g3, g4, rfl⟩
  obtain ⟨tl, hlo⟩ := B'.lo
  obtain ⟨th, hhi⟩ := B'.hi
  refine w_tCmp ?_
  refine w_nm F'.ns hlo ?_
  refine w_nm F'.ns hhi ?_
  refine w_ltInt ?_
  refine w_tBool ⟨fun hlt => ?_, fun hlt => ?_⟩
  · have hlt : lo' < hi' := by simpa using hlt
    refine w_cons ?_
    refine w_asg ?_
    refine w_binOp ?_
    refine w_binOp ?_
    refine w_nm F'.ns hlo ?_
    refine w_nm F'.ns hhi ?_
    refine w_addInt fun _ => ?_
    refine w_cInt fun _ => ?_
    refine w_divInt (by decide) fun tm => ?_
    rw [mid_eq]
    refine w_st F' fun h1 F1 => ?_
    have hm : (lo' + hi') / 2 < vs.length := by lia
    have hv : vs.toArray[((((lo' + hi') / 2 : Nat) : Int)).toNat]? = some vs[(lo' + hi') / 2] := by rw [Int.toNat_natCast]; simp [hm]
    refine w_cons ?_
    refine w_if_ ?_
    refine w_tCmp ?_
    refine w_sub ?_
    refine w_nm F1.ns B'.a ?_
    refine w_nm F1.ns rfl ?_
    refine w_itemList (IsList.ext hla F1.keep) (by lia) (by lia) hv ?_
    refine w_nm F1.ns B'.x ?_
    refine hc _ _ (List.getElem?_eq_getElem hm) _ _ _ ok F1.keep fun h2 e2 => ?_
    have F2 := F1.kept e2
    refine w_tBool ⟨fun hle => ?_, fun hle => ?_⟩
    · refine w_cons ?_
      refine w_asg ?_
      refine w_binOp ?_
      refine w_nm F2.ns rfl ?_
      refine w_cInt fun _ => ?_
      refine w_addInt fun _ => ?_
      refine w_st F2 fun h3 F3 => ?_
      refine w_nil ?_
      refine w_nil ?_
      refine ⟨_, ?_, _, (lo' + hi') / 2 + 1, hi', F3, ⟨B'.a, B'.x, B'.key, ⟨_, rfl⟩, B'.hi⟩, by lia, ?_, g3, g4, rfl⟩
      · lia
      · have := hr ((lo' + hi') / 2)
        rcases Nat.lt_or_ge ((lo' + hi') / 2) r with q | q
        · lia
        · rw [this q (by lia)] at hle; cases hle
    · refine w_cons ?_
      refine w_asg ?_
      refine w_nm F2.ns rfl ?_
      refine w_st F2 fun h3 F3 => ?_
      refine w_nil ?_
      refine w_nil ?_
      refine ⟨_, ?_, _, lo', (lo' + hi') / 2, F3, ⟨B'.a, B'.x, B'.key, B'.lo, ⟨_, rfl⟩⟩, g1, g2, ?_, by lia, rfl⟩
      · lia
      · have := hl ((lo' + hi') / 2)
        rcases Nat.lt_or_ge ((lo' + hi') / 2) r with q | q
        · rw [this (by lia) q] at hle; cases hle
        · lia
  · have hlt : ¬ lo' < hi' := by simpa using hlt
    refine w_nil ?_
    refine w_nil ?_
    refine w_cons ?_
    refine w_ret ?_
    have e : lo' = r := by lia
    subst e
    refine w_nm F'.ns hlo ?_
    exact hQ _ _ F'.keep

set_option maxHeartbeats 1000000 in
theorem br_nokey {base : Heap} {L la : Addr} {m : Str → Option Value} {vs : List Value} {x : Value} {lo hi r : Nat} {less : Nat → Bool} {Q : Flow → Heap → Prop} {n : Nat}
    (F : Fr base L h m) (hla : base.IsList la vs.toArray) (B : BisM m la x .none lo hi) (ok : OkA n A)
    (h1 : lo ≤ r) (h2 : r ≤ hi) (h3 : hi ≤ vs.length) (hsz : vs.length < 2 ^ 62)
    (hl : ∀ i, lo ≤ i → i < r → less i = false) (hr : ∀ i, r ≤ i → i < hi → less i = true)
    (hc : ∀ i v, vs[i]? = some v → CmpLt n prog w base x v (less i))
    (hQ : ∀ h' t, Ext base h' → Q (.ret (.int r t)) h') :
    Wp (model prog w) A (execs ((bodyAt w aBR).drop 2) (envAt w aBR L)) Q h := by
  refine w_cons ?_
  refine w_if_ ?_
  refine w_tCmp ?_
  refine w_nm F.ns B.key ?_
  refine w_cNone ?_
  refine w_isNone ?_
  refine w_tBool ⟨fun _ => ?_, fun e => by cases e⟩
  refine w_cons ?_
  refine w_while_ (fun k h' => ∃ m' lo' hi', Fr base L h' m' ∧ BisM m' la x .none lo' hi' ∧ lo ≤ lo' ∧ lo' ≤ r ∧ r ≤ hi' ∧ hi' ≤ hi ∧ k = hi' - lo') (hi - lo)
    ⟨m, lo, hi, F, B, Nat.le_refl _, h1, h2, Nat.le_refl _, rfl⟩ ?_
  rintro k h' ⟨m', lo', hi', F', B', g1, g2, g3, g4, rfl⟩
  obtain ⟨tl, hlo⟩ := B'.lo
  obtain ⟨th, hhi⟩ := B'.hi
  refine w_tCmp ?_
  refine w_nm F'.ns hlo ?_
  refine w_nm F'.ns hhi ?_
  refine w_ltInt ?_
  refine w_tBool ⟨fun hlt => ?_, fun hlt => ?_⟩
  · have hlt : lo' < hi' := by simpa using hlt
    refine w_cons ?_
    refine w_asg ?_
    refine w_binOp ?_
    refine w_binOp ?_
    refine w_nm F'.ns hlo ?_
    refine w_nm F'.ns hhi ?_
    refine w_addInt fun _ => ?_
    refine w_cInt fun _ => ?_
    refine w_divInt (by decide) fun tm => ?_
    rw [mid_eq]
    refine w_st F' fun h1 F1 => ?_
    have hm : (lo' + hi') / 2 < vs.length := by lia
    have hv : vs.toArray[((((lo' + hi') / 2 : Nat) : Int)).toNat]? = some vs[(lo' + hi') / 2] := by rw [Int.toNat_natCast]; simp [hm]
    refine w_cons ?_
    refine w_if_ ?_
    refine w_tCmp ?_
    refine w_nm F1.ns B'.x ?_
    refine w_sub ?_
    refine w_nm F1.ns B'.a ?_
    refine w_nm F1.ns rfl ?_
    refine w_itemList (IsList.ext hla F1.keep) (by lia) (by lia) hv ?_
    refine hc _ _ (List.getElem?_eq_getElem hm) _ _ _ ok F1.keep fun h2 e2 => ?_
    have F2 := F1.kept e2
    refine w_tBool ⟨fun hle => ?_, fun hle => ?_⟩
    · refine w_cons ?_
      refine w_asg ?_
      refine w_nm F2.ns rfl ?_
      refine w_st F2 fun h3 F3 => ?_
      refine w_nil ?_
      refine w_nil ?_
      refine ⟨_, ?_, _, lo', (lo' + hi') / 2, F3, ⟨B'.a, B'.x, B'.key, B'.lo, ⟨_, rfl⟩⟩, g1, g2, ?_, by lia, rfl⟩
      · lia
      · have := hl ((lo' + hi') / 2)
        rcases Nat.lt_or_ge ((lo' + hi') / 2) r with q | q
        · rw [this (by lia) q] at hle; cases hle
        · lia
    · refine w_cons ?_
      refine w_asg ?_
      refine w_binOp ?_
      refine w_nm F2.ns rfl ?_
      refine w_cInt fun _ => ?_
      refine w_addInt fun _ => ?_
      refine w_st F2 fun h3 F3 => ?_
      refine w_nil ?_
      refine w_nil ?_
      refine ⟨_, ?_, _, (lo' + hi') / 2 + 1, hi', F3, ⟨B'.a, B'.x, B'.key, ⟨_, rfl⟩, B'.hi⟩, by lia, ?_, g3, g4, rfl⟩
      · lia
      · have := hr ((lo' + hi') / 2)
        rcases Nat.lt_or_ge ((lo' + hi') / 2) r with q | q
        · lia
        · rw [this q (by lia)] at hle; cases hle
  · have hlt : ¬ lo' < hi' := by simpa using hlt
    refine w_nil ?_
    refine w_nil ?_
    refine w_cons ?_
    refine w_ret ?_
    have e : lo' = r := by lia
    subst e
    refine w_nm F'.ns hlo ?_
    exact hQ _ _ F'.keep

set_option maxHeartbeats 1000000 in
theorem bl_key {base : Heap} {L la : Addr} {m : Str → Option Value} {vs ks : List Value} {x key : Value} {lo hi r : Nat} {less : Nat → Bool} {Q : Flow → Heap → Prop} {n : Nat}
    (F : Fr base L h m) (hla : base.IsList la vs.toArray) (B : BisM m la x key lo hi) (ok : OkA n A)
    (h1 : lo ≤ r) (h2 : r ≤ hi) (h3 : hi ≤ vs.length) (hsz : vs.length < 2 ^ 62)
    (hl : ∀ i, lo ≤ i → i < r → less i = true) (hr : ∀ i, r ≤ i → i < hi → less i = false)
    (hkf : ∃ a, key = .ref a) (hkk : Kp (model prog w) base key) (hkl : ks.length = vs.length) (hkey : ∀ (i : Nat) (v kv : Value), vs[i]? = some v → ks[i]? = some kv → KeyIs n prog w base key v kv)
    (hc : ∀ i v, ks[i]? = some v → CmpLt n prog w base v x (less i))
    (hQ : ∀ h' t, Ext base h' → Q (.ret (.int r t)) h') :
    Wp (model prog w) A (execs ((bodyAt w aBL).drop 2) (envAt w aBL L)) Q h := by
  refine w_cons ?_
  refine w_if_ ?_
  refine w_tCmp ?_
  refine w_nm F.ns B.key ?_
  refine w_cNone ?_
  refine w_isNone ?_
  obtain ⟨ka, rfl⟩ := hkf
  refine w_tBool ⟨fun e => (by cases e), fun _ => ?_⟩
  refine w_cons ?_
  refine w_while_ (fun k h' => ∃ m' lo' hi', Fr base L h' m' ∧ BisM m' la x (.ref ka) lo' hi' ∧ lo ≤ lo' ∧ lo' ≤ r ∧ r ≤ hi' ∧ hi' ≤ hi ∧ k = hi' - lo') (hi - lo)
    ⟨m, lo, hi, F, B, Nat.le_refl _, h1, h2, Nat.le_refl _, rfl⟩ ?_
  rintro k h' ⟨m', lo', hi', F', B', g1, g2, g3, g4, rfl⟩
  obtain ⟨tl, hlo⟩ := B'.lo
  obtain ⟨th, hhi⟩ := B'.hi
  refine w_tCmp ?_
  refine w_nm F'.ns hlo ?_
  refine w_nm F'.ns hhi ?_
  refine w_ltInt ?_
  refine w_tBool ⟨fun hlt => ?_, fun hlt => ?_⟩
  · have hlt : lo' < hi' := by simpa using hlt
    refine w_cons ?_
    refine w_asg ?_
    refine w_binOp ?_
    refine w_binOp ?_
    refine w_nm F'.ns hlo ?_
    refine w_nm F'.ns hhi ?_
    refine w_addInt fun _ => ?_
    refine w_cInt fun _ => ?_
    refine w_divInt (by decide) fun tm => ?_
    rw [mid_eq]
    refine w_st F' fun h1 F1 => ?_
    have hm : (lo' + hi') / 2 < vs.length := by lia
    have hv : vs.toArray[((((lo' + hi') / 2 : Nat) : Int)).toNat]? = some vs[(lo' + hi') / 2] := by rw [Int.toNat_natCast]; simp [hm]
    refine w_cons ?_
    refine w_if_ ?_
    refine w_tCmp ?_
    refine w_callN ?_
    refine w_nm F1.ns B'.key ?_
    refine w_args ?_
    refine w_arg ?_
    refine w_sub ?_
    refine w_nm F1.ns B'.a ?_
    refine w_nm F1.ns rfl ?_
    refine w_itemList (IsList.ext hla F1.keep) (by lia) (by lia) hv ?_
    refine w_arg0 ?_
    refine w_kw0 ⟨hkk.ext F1.keep, ?_⟩
    have hmk : (lo' + hi') / 2 < ks.length := by lia
    refine hkey _ _ _ (List.getElem?_eq_getElem hm) (List.getElem?_eq_getElem hmk) _ _ _ ok F1.keep fun h1k e1k => ?_
    have F1k := F1.kept e1k
    refine w_nm F1k.ns B'.x ?_
    refine hc _ _ (List.getElem?_eq_getElem hmk) _ _ _ ok F1k.keep fun h2 e2 => ?_
    have F2 := F1k.kept e2
    refine w_tBool ⟨fun hle => ?_, fun hle => ?_⟩
    · refine w_cons ?_
      refine w_asg ?_
      refine w_binOp ?_
      refine w_nm F2.ns rfl ?_
      refine w_cInt fun _ => ?_
      refine w_addInt fun _ => ?_
      refine w_st F2 fun h3 F3 => ?_
      refine w_nil ?_
      refine w_nil ?_
      refine ⟨_, ?_, _, (lo' + hi') / 2 + 1, hi', F3, ⟨B'.a, B'.x, B'.key, ⟨_, rfl⟩, B'.hi⟩, by lia, ?_, g3, g4, rfl⟩
      · lia
      · have := hr ((lo' + hi') / 2)
        rcases Nat.lt_or_ge ((lo' + hi') / 2) r with q | q
        · lia
        · rw [this q (by lia)] at hle; cases hle
    · refine w_cons ?_
      refine w_asg ?_
      refine w_nm F2.ns rfl ?_
      refine w_st F2 fun h3 F3 => ?_
      refine w_nil ?_
      refine w_nil ?_
      refine ⟨_, ?_, _, lo', (lo' + hi') / 2, F3, ⟨B'.a, B'.x, B'.key, B'.lo, ⟨_, rfl⟩⟩, g1, g2, ?_, by lia, rfl⟩
      · lia
      · have := hl ((lo' + hi') / 2)
        rcases Nat.lt_or_ge ((lo' + hi') / 2) r with q | q
        · rw [this (by lia) q] at hle; cases hle
        · lia
  · have hlt : ¬ lo' < hi' := by simpa using hlt
    refine w_nil ?_
    refine w_nil ?_
    refine w_cons ?_
    refine w_ret ?_
    have e : lo' = r := by lia
    subst e
    refine w_nm F'.ns hlo ?_
    exact hQ _ _ F'.keep

set_option maxHeartbeats 1000000 in
theorem br_key {base : Heap} {L la : Addr} {m : Str → Option Value} {vs ks : List Value} {x key : Value} {lo hi r : Nat} {less : Nat → Bool} {Q : Flow → Heap → Prop} {n : Nat}
    (F : Fr base L h m) (hla : base.IsList la vs.toArray) (B : BisM m la x key lo hi) (ok : OkA n A)
    (h1 : lo ≤ r) (h2 : r ≤ hi) (h3 : hi ≤ vs.length) (hsz : vs.length < 2 ^ 62)
    (hl : ∀ i, lo ≤ i → i < r → less i = false) (hr : ∀ i, r ≤ i → i < hi → less i = true)
    (hkf : ∃ a, key = .ref a) (hkk : Kp (model prog w) base key) (hkl : ks.length = vs.length) (hkey : ∀ (i : Nat) (v kv : Value), vs[i]? = some v → ks[i]? = some kv → KeyIs n prog w base key v kv)
    (hc : ∀ i v, ks[i]? = some v → CmpLt n prog w base x v (less i))
    (hQ : ∀ h' t, Ext base h' → Q (.ret (.int r t)) h') :
    Wp (model prog w) A (execs ((bodyAt w aBR).drop 2) (envAt w aBR L)) Q h := by
  refine w_cons ?_
  refine w_if_ ?_
  refine w_tCmp ?_
  refine w_nm F.ns B.key ?_
  refine w_cNone ?_
  refine w_isNone ?_
  obtain ⟨ka, rfl⟩ := hkf
  refine w_tBool ⟨fun e => (by cases e), fun _ => ?_⟩
  refine w_cons ?_
  refine w_while_ (fun k h' => ∃ m' lo' hi', Fr base L h' m' ∧ BisM m' la x (.ref ka) lo' hi' ∧ lo ≤ lo' ∧ lo' ≤ r ∧ r ≤ hi' ∧ hi' ≤ hi ∧ k = hi' - lo') (hi - lo)
    ⟨m, lo, hi, F, B, Nat.le_refl _, h1, h2, Nat.le_refl _, rfl⟩ ?_
  rintro k h' ⟨m', lo', hi', F', B', g1, g2, g3, g4, rfl⟩
  obtain ⟨tl, hlo⟩ := B'.lo
  obtain ⟨th, hhi⟩ := B'.hi
  refine w_tCmp ?_
  refine w_nm F'.ns hlo ?_
  refine w_nm F'.ns hhi ?_
  refine w_ltInt ?_
  refine w_tBool ⟨fun hlt => ?_, fun hlt => ?_⟩
  · have hlt : lo' < hi' := by simpa using hlt
    refine w_cons ?_
    refine w_asg ?_
    refine w_binOp ?_
    refine w_binOp ?_
    refine w_nm F'.ns hlo ?_
    refine w_nm F'.ns hhi ?_
    refine w_addInt fun _ => ?_
    refine w_cInt fun _ => ?_
    refine w_divInt (by decide) fun tm => ?_
    rw [mid_eq]
    refine w_st F' fun h1 F1 => ?_
    have hm : (lo' + hi') / 2 < vs.length := by lia
    have hv : vs.toArray[((((lo' + hi') / 2 : Nat) : Int)).toNat]? = some vs[(lo' + hi') / 2] := by rw [Int.toNat_natCast]; simp [hm]
    refine w_cons ?_
    refine w_if_ ?_
    refine w_tCmp ?_
    refine w_nm F1.ns B'.x ?_
    refine w_callN ?_
    refine w_nm F1.ns B'.key ?_
    refine w_args ?_
    refine w_arg ?_
    refine w_sub ?_
    refine w_nm F1.ns B'.a ?_
    refine w_nm F1.ns rfl ?_
    refine w_itemList (IsList.ext hla F1.keep) (by lia) (by lia) hv ?_
    refine w_arg0 ?_
    refine w_kw0 ⟨hkk.ext F1.keep, ?_⟩
    have hmk : (lo' + hi') / 2 < ks.length := by lia
    refine hkey _ _ _ (List.getElem?_eq_getElem hm) (List.getElem?_eq_getElem hmk) _ _ _ ok F1.keep fun h1k e1k => ?_
    have F1k := F1.kept e1k
    refine hc _ _ (List.getElem?_eq_getElem hmk) _ _ _ ok F1k.keep fun h2 e2 => ?_
    have F2 := F1k.kept e2
    refine w_tBool ⟨fun hle => ?_, fun hle => ?_⟩
    · refine w_cons ?_
      refine w_asg ?_
      refine w_nm F2.ns rfl ?_
      refine w_st F2 fun h3 F3 => ?_
      refine w_nil ?_
      refine w_nil ?_
      refine ⟨_, ?_, _, lo', (lo' + hi') / 2, F3, ⟨B'.a, B'.x, B'.key, B'.lo, ⟨_, rfl⟩⟩, g1, g2, ?_, by lia, rfl⟩
      · lia
      · have := hl ((lo' + hi') / 2)
        rcases Nat.lt_or_ge ((lo' + hi') / 2) r with q | q
        · rw [this (by lia) q] at hle; cases hle
        · lia
    · refine w_cons ?_
      refine w_asg ?_
      refine w_binOp ?_
      refine w_nm F2.ns rfl ?_
      refine w_cInt fun _ => ?_
      refine w_addInt fun _ => ?_
      refine w_st F2 fun h3 F3 => ?_
      refine w_nil ?_
      refine w_nil ?_
      refine ⟨_, ?_, _, (lo' + hi') / 2 + 1, hi', F3, ⟨B'.a, B'.x, B'.key, ⟨_, rfl⟩, B'.hi⟩, by lia, ?_, g3, g4, rfl⟩
      · lia
      · have := hr ((lo' + hi') / 2)
        rcases Nat.lt_or_ge ((lo' + hi') / 2) r with q | q
        · lia
        · rw [this q (by lia)] at hle; cases hle
  · have hlt : ¬ lo' < hi' := by simpa using hlt
    refine w_nil ?_
    refine w_nil ?_
    refine w_cons ?_
    refine w_ret ?_
    have e : lo' = r := by lia
    subst e
    refine w_nm F'.ns hlo ?_
    exact hQ _ _ F'.keep

def HiIs (hiV : Value) (hi len : Nat) : Prop := (hiV = .none ∧ hi = len) ∨ ∃ t, hiV = .int hi t

set_option maxHeartbeats 1000000 in
theorem bl_pre {base : Heap} {L la : Addr} {m : Str → Option Value} {vs : List Value} {x key hiV : Value} {lo hi : Nat} {Q : Flow → Heap → Prop}
    (G : G0 w mg mb base) (F : Fr base L h m) (hla : base.IsList la vs.toArray) (hsz : vs.length < 2 ^ 62)
    (ma : m nA = some (.ref la)) (mx : m nX = some x) (mk : m nKey = some key) (mlo : ∃ t, m nLo = some (.int lo t)) (mhi : m nHi = some hiV) (hhi : HiIs hiV hi vs.length)
    (k : ∀ m' h', Fr base L h' m' → BisM m' la x key lo hi → Wp (model prog w) A (execs ((bodyAt w aBL).drop 2) (envAt w aBL L)) Q h') :
    Wp (model prog w) A (execs (bodyAt w aBL) (envAt w aBL L)) Q h := by
  obtain ⟨tl, mlo⟩ := mlo
  refine w_cons (w_if_ (w_tCmp (w_nm F.ns mlo (w_cInt fun _ => w_ltInt (w_tBool ⟨fun e => ?_, fun _ => w_nil ?_⟩)))))
  · simp at e; lia
  refine w_cons (w_if_ (w_tCmp (w_nm F.ns mhi (w_cNone (w_isNone (w_tBool ⟨fun e => ?_, fun e => w_nil ?_⟩))))))
  · rcases hhi with ⟨rfl, rfl⟩ | ⟨t, rfl⟩
    · refine w_cons (w_asg (w_callN (w_gB (v := .builtin "len") (G.ext F.keep) (by kernel_rfl) (by kernel_rfl) (by decide) ?_)))
      refine w_args (w_arg (w_nm F.ns ma (w_arg0 (w_kw0 ⟨Kp.builtin _, ?_⟩))))
      refine w_lenList (IsList.ext hla F.keep) (by simp; lia) fun t => ?_
      refine w_st F fun h1 F1 => w_nil ?_
      refine k _ _ F1 ⟨ma, mx, mk, ⟨tl, mlo⟩, ⟨t, ?_⟩⟩
      simp
    · cases e
  · rcases hhi with ⟨rfl, rfl⟩ | ⟨t, rfl⟩
    · cases e
    · exact k m h F ⟨ma, mx, mk, ⟨tl, mlo⟩, ⟨t, mhi⟩⟩
set_option maxHeartbeats 1000000 in
theorem br_pre {base : Heap} {L la : Addr} {m : Str → Option Value} {vs : List Value} {x key hiV : Value} {lo hi : Nat} {Q : Flow → Heap → Prop}
    (G : G0 w mg mb base) (F : Fr base L h m) (hla : base.IsList la vs.toArray) (hsz : vs.length < 2 ^ 62)
    (ma : m nA = some (.ref la)) (mx : m nX = some x) (mk : m nKey = some key) (mlo : ∃ t, m nLo = some (.int lo t)) (mhi : m nHi = some hiV) (hhi : HiIs hiV hi vs.length)
    (k : ∀ m' h', Fr base L h' m' → BisM m' la x key lo hi → Wp (model prog w) A (execs ((bodyAt w aBR).drop 2) (envAt w aBR L)) Q h') :
    Wp (model prog w) A (execs (bodyAt w aBR) (envAt w aBR L)) Q h := by
  obtain ⟨tl, mlo⟩ := mlo
  refine w_cons (w_if_ (w_tCmp (w_nm F.ns mlo (w_cInt fun _ => w_ltInt (w_tBool ⟨fun e => ?_, fun _ => w_nil ?_⟩)))))
  · simp at e; lia
  refine w_cons (w_if_ (w_tCmp (w_nm F.ns mhi (w_cNone (w_isNone (w_tBool ⟨fun e => ?_, fun e => w_nil ?_⟩))))))
  · rcases hhi with ⟨rfl, rfl⟩ | ⟨t, rfl⟩
    · refine w_cons (w_asg (w_callN (w_gB (v := .builtin "len") (G.ext F.keep) (by kernel_rfl) (by kernel_rfl) (by decide) ?_)))
      refine w_args (w_arg (w_nm F.ns ma (w_arg0 (w_kw0 ⟨Kp.builtin _, ?_⟩))))
      refine w_lenList (IsList.ext hla F.keep) (by simp; lia) fun t => ?_
      refine w_st F fun h1 F1 => w_nil ?_
      refine k _ _ F1 ⟨ma, mx, mk, ⟨tl, mlo⟩, ⟨t, ?_⟩⟩
      simp
    · cases e
  · rcases hhi with ⟨rfl, rfl⟩ | ⟨t, rfl⟩
    · cases e
    · exact k m h F ⟨ma, mx, mk, ⟨tl, mlo⟩, ⟨t, mhi⟩⟩

/-- the key's values: the items themselves, or what the key gives of each -/
def KeyOk (n : Nat) (prog : Program) (w : World) (h : Heap) (key : Value) (vs ks : List Value) : Prop :=
  (key = .none ∧ ks = vs) ∨ ((∃ a, key = .ref a) ∧ Kp (model prog w) h key ∧ ks.length = vs.length ∧ ∀ (i : Nat) (v kv : Value), vs[i]? = some v → ks[i]? = some kv → KeyIs n prog w h key v kv)

set_option maxHeartbeats 1000000 in
theorem bl_call {la : Addr} {vs ks : List Value} {x key hiV : Value} {lo hi r : Nat} {less : Nat → Bool} {n : Nat} {pos : List Value} {kw : List (Str × Value)} {t : Tok} {Q : Value → Heap → Prop}
    (G : G0 w mg mb h) (ok : OkA (n + 1) A) (hla : h.IsList la vs.toArray) (hsz : vs.length < 2 ^ 62)
    (hb : ∀ S, peek (KH w) S (bindArgs (fnAt w aBL) ⟨pos, kw⟩) = some [(nA, .ref la), (nX, x), (nLo, .int lo t), (nHi, hiV), (nKey, key)])
    (hhi : HiIs hiV hi vs.length) (h1 : lo ≤ r) (h2 : r ≤ hi) (h3 : hi ≤ vs.length) (hkey : KeyOk n prog w h key vs ks)
    (hl : ∀ i, lo ≤ i → i < r → less i = true) (hr : ∀ i, r ≤ i → i < hi → less i = false)
    (hc : ∀ i v, ks[i]? = some v → CmpLt n prog w h v x (less i))
    (k : ∀ h' t, Ext h h' → Q (.int r t) h') : Wp (model prog w) A (call (.ref aBL) pos kw) Q h := by
  refine w_call (c_callK G ok (by kernel_rfl) (by kernel_rfl) (by kernel_rfl) (by kernel_rfl) hb (by kernel_rfl) (by kernel_rfl) (fun L h₁ F ok' => ?_))
  refine bl_pre (lo := lo) (hi := hi) G F hla hsz rfl rfl rfl ⟨t, rfl⟩ rfl hhi (fun m' h' F' B' => ?_)
  rcases hkey with ⟨rfl, rfl⟩ | ⟨hkf, hkk, hkl, hkey⟩
  · exact bl_nokey F' hla B' ok' h1 h2 h3 hsz hl hr hc (fun h'' t e => k h'' t e)
  · exact bl_key F' hla B' ok' h1 h2 h3 hsz hl hr hkf hkk hkl hkey hc (fun h'' t e => k h'' t e)
theorem bl_b2 (w : World) (a x : Value) : ∀ S, peek (KH w) S (bindArgs (fnAt w aBL) ⟨[a, x], []⟩) = some [(nA, a), (nX, x), (nLo, .int 0 (dtok w aBL)), (nHi, .none), (nKey, .none)] := fun _ => by kernel_rfl
theorem bl_b2k (w : World) (a x key : Value) : ∀ S, peek (KH w) S (bindArgs (fnAt w aBL) ⟨[a, x], [(nKey, key)]⟩) = some [(nA, a), (nX, x), (nLo, .int 0 (dtok w aBL)), (nHi, .none), (nKey, key)] := fun _ => by kernel_rfl
theorem bl_b4 (w : World) (a x lo hi : Value) : ∀ S, peek (KH w) S (bindArgs (fnAt w aBL) ⟨[a, x, lo, hi], []⟩) = some [(nA, a), (nX, x), (nLo, lo), (nHi, hi), (nKey, .none)] := fun _ => by kernel_rfl
theorem bl_b4k (w : World) (a x lo hi key : Value) : ∀ S, peek (KH w) S (bindArgs (fnAt w aBL) ⟨[a, x, lo, hi], [(nKey, key)]⟩) = some [(nA, a), (nX, x), (nLo, lo), (nHi, hi), (nKey, key)] := fun _ => by kernel_rfl

set_option maxHeartbeats 1000000 in
theorem br_call {la : Addr} {vs ks : List Value} {x key hiV : Value} {lo hi r : Nat} {less : Nat → Bool} {n : Nat} {pos : List Value} {kw : List (Str × Value)} {t : Tok} {Q : Value → Heap → Prop}
    (G : G0 w mg mb h) (ok : OkA (n + 1) A) (hla : h.IsList la vs.toArray) (hsz : vs.length < 2 ^ 62)
    (hb : ∀ S, peek (KH w) S (bindArgs (fnAt w aBR) ⟨pos, kw⟩) = some [(nA, .ref la), (nX, x), (nLo, .int lo t), (nHi, hiV), (nKey, key)])
    (hhi : HiIs hiV hi vs.length) (h1 : lo ≤ r) (h2 : r ≤ hi) (h3 : hi ≤ vs.length) (hkey : KeyOk n prog w h key vs ks)
    (hl : ∀ i, lo ≤ i → i < r → less i = false) (hr : ∀ i, r ≤ i → i < hi → less i = true)
    (hc : ∀ i v, ks[i]? = some v → CmpLt n prog w h x v (less i))
    (k : ∀ h' t, Ext h h' → Q (.int r t) h') : Wp (model prog w) A (call (.ref aBR) pos kw) Q h := by
  refine w_call (c_callK G ok (by kernel_rfl) (by kernel_rfl) (by kernel_rfl) (by kernel_rfl) hb (by kernel_rfl) (by kernel_rfl) (fun L h₁ F ok' => ?_))
  refine br_pre (lo := lo) (hi := hi) G F hla hsz rfl rfl rfl ⟨t, rfl⟩ rfl hhi (fun m' h' F' B' => ?_)
  rcases hkey with ⟨rfl, rfl⟩ | ⟨hkf, hkk, hkl, hkey⟩
  · exact br_nokey F' hla B' ok' h1 h2 h3 hsz hl hr hc (fun h'' t e => k h'' t e)
  · exact br_key F' hla B' ok' h1 h2 h3 hsz hl hr hkf hkk hkl hkey hc (fun h'' t e => k h'' t e)
theorem br_b2 (w : World) (a x : Value) : ∀ S, peek (KH w) S (bindArgs (fnAt w aBR) ⟨[a, x], []⟩) = some [(nA, a), (nX, x), (nLo, .int 0 (dtok w aBR)), (nHi, .none), (nKey, .none)] := fun _ => by kernel_rfl
theorem br_b2k (w : World) (a x key : Value) : ∀ S, peek (KH w) S (bindArgs (fnAt w aBR) ⟨[a, x], [(nKey, key)]⟩) = some [(nA, a), (nX, x), (nLo, .int 0 (dtok w aBR)), (nHi, .none), (nKey, key)] := fun _ => by kernel_rfl
theorem br_b4 (w : World) (a x lo hi : Value) : ∀ S, peek (KH w) S (bindArgs (fnAt w aBR) ⟨[a, x, lo, hi], []⟩) = some [(nA, a), (nX, x), (nLo, lo), (nHi, hi), (nKey, .none)] := fun _ => by kernel_rfl
theorem br_b4k (w : World) (a x lo hi key : Value) : ∀ S, peek (KH w) S (bindArgs (fnAt w aBR) ⟨[a, x, lo, hi], [(nKey, key)]⟩) = some [(nA, a), (nX, x), (nLo, lo), (nHi, hi), (nKey, key)] := fun _ => by kernel_rfl
end
end Mine
end
section
open PySem PySem.W PyProof.Rows
set_option Elab.async false
set_option maxRecDepth 100000
set_option linter.unusedVariables false
namespace Mine

/-! ## lists -/
abbrev lst (vs : List Value) (n : Nat) : Obj := { cls := .type "list", data := .seq vs.toArray n }
def Ls (h : Heap) (a : Addr) (vs : List Value) : Prop := ∃ n, h.get? a = some (lst vs n)
theorem Ls.isList {h : Heap} {a : Addr} {vs : List Value} (x : Ls h a vs) : h.IsList a vs.toArray := let ⟨n, e⟩ := x; ⟨_, e, rfl, n, rfl⟩
theorem Ls.ext {h h' : Heap} {a : Addr} {vs : List Value} (x : Ls h a vs) (k : Ext h h') : Ls h' a vs := let ⟨n, e⟩ := x; ⟨n, k _ _ e⟩
theorem Ls.same {h h' : Heap} {a b : Addr} {vs : List Value} (x : Ls h a vs) (k : Heap.SameBut b h h') (hab : a ≠ b) : Ls h' a vs := let ⟨n, e⟩ := x; ⟨n, (k.2 a hab).trans e⟩
theorem Ls.lt {h : Heap} {a : Addr} {vs : List Value} (x : Ls h a vs) : a < h.objs.size := let ⟨_, e⟩ := x; Heap.lt_size e
theorem Ls.upd {h : Heap} {a : Addr} {vs vs' : List Value} {n : Nat} (x : h.get? a = some (lst vs n)) (f : Array Value → Array Value) (he : f vs.toArray = vs'.toArray) : Ls (h.update a (Obj.mapSeq f)) a vs' :=
  ⟨_, by have := IsL.update (l := a) (items := vs.toArray) (n := n) x f; rw [he] at this; exact this⟩
theorem Ls.inj {h : Heap} {a : Addr} {vs vs' : List Value} (x : Ls h a vs) (y : Ls h a vs') : vs = vs' := by
  obtain ⟨n, e⟩ := x
  obtain ⟨n', e'⟩ := y
  rw [e] at e'
  injection e' with e'
  injection e' with _ _ e' _
  injection e' with e' _
  simpa using e'
theorem Ls.new (h : Heap) (vs : List Value) : Ls (h.push (lst vs 0)) h.objs.size vs := ⟨0, Heap.get?_push_size _ rfl⟩

section
variable {prog : Program} {w : World} {A : Around} {h : Heap} {env : Env}
/-- the value is of the built-in type -/
def Ty (h : Heap) (v : Value) (T : String) : Prop := ∀ s : Shared, s.heap = h → s.TypeIs v T
theorem Ls.ty {a : Addr} {vs : List Value} (x : Ls h a vs) : Ty h (.ref a) "list" := fun s hs => by obtain ⟨n, e⟩ := x; subst hs; exact ⟨_, e, rfl⟩
/-- a method of a built-in type by its name -/
theorem w_meth {o : Expr} {name : Str} {apos pos : Pos} {args : List Expr} {T id : String} {Q : Value → Heap → Prop}
    (pa : PlainAttrs T) (slot : Slot T name id) (hty : typeOf (.builtin id) = pure (.type "method_descriptor"))
    (x : Wp (model prog w) A (eval o env) (fun ov h₁ => Ty h₁ ov T ∧ (∀ a, ov = .ref a → ∃ ob, h₁.get? a = some ob ∧ ob.dict = none) ∧
      Wp (model prog w) A (callWith pos (.builtin id) [ov] (backTo pos (starEach args env)) (backToKw pos (keywordEach [] env))) Q h₁) h)
    (hbase : attributeBase o name env (eval o env) = eval o env := by rfl)
    (hfew : ((backTo pos (starEach args env)).all (fun x => !x.1) && (backToKw pos (keywordEach [] env)).all (fun x => x.1.isSome)
      && decide (args.length + ([] : List Keyword).length + (if ([] : List Keyword).isEmpty then 0 else 1) < 30)) = true := by rfl)
    (hline : (apos.endLine == pos.line) = true := by rfl) :
    Wp (model prog w) A (eval (.Call (.Attribute o name apos) args [] pos) env) Q h := by
  intro s hs
  refine wpAny_Call_method hbase hfew hline pa slot hty ?_
  refine wpAny_mono (x s hs) (fun ov s₁ y => ?_) fun _ _ z => z
  refine ⟨y.2.1 s₁ rfl, y.2.2.1, ?_⟩
  exact wpAny_mono (y.2.2.2 s₁ rfl) (fun v s₂ z => ⟨⟨z.1.1.trans y.1.1, z.1.2.trans y.1.2⟩, z.2⟩) fun _ _ z => z

theorem w_append {l : Addr} {vs : List Value} {x : Value} {Q : Value → Heap → Prop} (hl : Ls h l vs) (hz : vs.length ≤ sizeLine)
    (k : ∀ h', Ls h' l (vs ++ [x]) → Heap.SameBut l h h' → Q .none h') : Wp (model prog w) A (call (.builtin "list.append") [.ref l, x]) Q h := fun s hs => by
  subst hs
  obtain ⟨n, e⟩ := hl
  exact call_meets PySem.F.slot_list_append ⟨_, e, rfl⟩ PySem.F.entry_list_append (PySem.F.args_list_append_2 _ _) (PySem.AutoListH.list_append_list_val_0 l vs.toArray n x (by simpa using hz))
    ⟨e, ⟨rfl, rfl⟩, k _ (Ls.upd e _ (by simp)) (Heap.SameBut.update ..)⟩

theorem fits_nat {i : Nat} (hi : i < 2 ^ 62) : Builtin.List.listFitsIndex (i : Int) = true := by
  unfold Builtin.List.listFitsIndex; simp; lia
theorem insert_eq (vs : List Value) (x : Value) {i : Nat} (hi : i ≤ vs.length) :
    (have k := if (i : Int) < 0 then ((i : Int) + ((vs.toArray.size : Nat) : Int)).toNat else min (i : Int).toNat vs.toArray.size; (vs.toArray.extract 0 k).push x ++ vs.toArray.extract k) = (vs.take i ++ x :: vs.drop i).toArray := by
  have e : (if (i : Int) < 0 then ((i : Int) + ((vs.toArray.size : Nat) : Int)).toNat else min (i : Int).toNat vs.toArray.size) = i := by
    rw [if_neg (by lia), Int.toNat_natCast, List.size_toArray]; lia
  show (vs.toArray.extract 0 (if (i : Int) < 0 then _ else _)).push x ++ vs.toArray.extract (if (i : Int) < 0 then _ else _) = _
  rw [e]
  apply Array.ext'
  simp [List.extract_eq_take_drop, List.take_of_length_le]
theorem w_insert {l : Addr} {vs : List Value} {x : Value} {i : Nat} {t : Tok} {Q : Value → Heap → Prop} (hl : Ls h l vs) (hi : i ≤ vs.length) (hz : vs.length ≤ sizeLine)
    (k : ∀ h', Ls h' l (vs.take i ++ x :: vs.drop i) → Heap.SameBut l h h' → Q .none h') : Wp (model prog w) A (call (.builtin "list.insert") [.ref l, .int i t, x]) Q h := fun s hs => by
  subst hs
  obtain ⟨n, e⟩ := hl
  have hz2 : vs.length < 2 ^ 62 := by rw [sizeLine_eq] at hz; lia
  have hf := fits_nat (i := i) (by lia)
  have ie := insert_eq vs x hi
  revert hf ie
  generalize (i : Int) = j
  intro hf ie
  have g := PySem.AutoListH.list_insert_list_int_val_1 l vs.toArray n j t x (by rw [hf]; decide) (by simpa using hz)
  refine call_meets PySem.F.slot_list_insert ⟨_, e, rfl⟩ PySem.F.entry_list_insert (PySem.F.args_list_insert_3 _ _ _) g ?_
  refine ⟨e, ⟨rfl, rfl⟩, ?_⟩
  exact k _ (Ls.upd e _ ie) (Heap.SameBut.update ..)
theorem w_popAt {l : Addr} {vs : List Value} {i : Nat} {t : Tok} {y : Value} {Q : Value → Heap → Prop} (hl : Ls h l vs) (hy : vs[i]? = some y) (hz : vs.length ≤ sizeLine)
    (k : ∀ h', Ls h' l (vs.eraseIdx i) → Heap.SameBut l h h' → Q y h') : Wp (model prog w) A (call (.builtin "list.pop") [.ref l, .int i t]) Q h := fun s hs => by
  subst hs
  obtain ⟨n, e⟩ := hl
  have hi : i < vs.length := by
    rcases Nat.lt_or_ge i vs.length with q | q
    · exact q
    · rw [List.getElem?_eq_none q] at hy; cases hy
  have hz2 : vs.length < 2 ^ 62 := by rw [sizeLine_eq] at hz; lia
  have hk : seqIndex? (i : Int) vs.toArray.size = some i := by
    unfold seqIndex?; simp [hi]; lia
  have hf := fits_nat (i := i) (by lia)
  revert hf hk
  generalize (i : Int) = j
  intro hk hf
  have g := PySem.MeetsSeq.list_pop_at l vs.toArray n j t i y hf hk (by simpa using hy) (by simpa using hz)
  refine call_meets PySem.F.slot_list_pop ⟨_, e, rfl⟩ PySem.F.entry_list_pop (PySem.F.args_list_pop_2 _ _) g ?_
  refine ⟨e, ⟨rfl, rfl⟩, k _ (Ls.upd e _ ?_) (Heap.SameBut.update ..)⟩
  simp [Array.eraseIdxIfInBounds, hi]
end
end Mine
end
section
open PySem PySem.W PyProof.Rows
set_option Elab.async false
set_option maxRecDepth 100000
set_option linter.unusedVariables false
namespace Mine
abbrev aIR : Addr := 65
abbrev aIL : Addr := 83
theorem KeyOk.ext {n : Nat} {prog : Program} {w : World} {h h' : Heap} {key : Value} {vs ks : List Value} (x : KeyOk n prog w h key vs ks) (k : Ext h h') : KeyOk n prog w h' key vs ks := by
  rcases x with x | ⟨a, b, c, d⟩
  · exact .inl x
  · exact .inr ⟨a, b.ext k, c, fun i v kv e1 e2 => (d i v kv e1 e2).ext k⟩
/-- the key of one thing -/
def Key1 (n : Nat) (prog : Program) (w : World) (h : Heap) (key x kx : Value) : Prop := (key = .none ∧ kx = x) ∨ ((∃ a, key = .ref a) ∧ Kp (model prog w) h key ∧ KeyIs n prog w h key x kx)
section
variable {prog : Program} {w : World} {A : Around} {h : Heap} {mg mb : Str → Option Value}

set_option maxHeartbeats 1000000 in
theorem il_call {la : Addr} {vs ks : List Value} {x kx key hiV : Value} {lo hi r : Nat} {less : Nat → Bool} {n : Nat} {pos : List Value} {kw : List (Str × Value)} {t : Tok} {Q : Value → Heap → Prop}
    (G : G0 w mg mb h) (ok : OkA (n + 2) A) (hla : Ls h la vs) (hsz : vs.length ≤ sizeLine)
    (hb : ∀ S, peek (KH w) S (bindArgs (fnAt w aIL) ⟨pos, kw⟩) = some [(nA, .ref la), (nX, x), (nLo, .int lo t), (nHi, hiV), (nKey, key)])
    (hhi : HiIs hiV hi vs.length) (h1 : lo ≤ r) (h2 : r ≤ hi) (h3 : hi ≤ vs.length) (hkey : KeyOk n prog w h key vs ks) (hkx : Key1 (n + 1) prog w h key x kx)
    (hl : ∀ i, lo ≤ i → i < r → less i = true) (hr : ∀ i, r ≤ i → i < hi → less i = false)
    (hc : ∀ i v, ks[i]? = some v → CmpLt n prog w h v kx (less i))
    (k : ∀ h', Ls h' la (vs.take r ++ x :: vs.drop r) → Heap.ExtBut la h h' → Q .none h') : Wp (model prog w) A (call (.ref aIL) pos kw) Q h := by
  refine w_call (c_callK G ok (by kernel_rfl) (by kernel_rfl) (by kernel_rfl) (by kernel_rfl) hb (by kernel_rfl) (by kernel_rfl) (fun L h₁ F ok' => ?_))
  have hsz2 : vs.length < 2 ^ 62 := by rw [sizeLine_eq] at hsz; omega
  have fin : ∀ h2 m2 t2, Fr h L h2 m2 → m2 nA = some (.ref la) → m2 nX = some x → m2 nLo = some (.int r t2) →
      Wp (model prog w) (A.deeper (envAt w aIL L)) (execs ((bodyAt w aIL).drop 1) (envAt w aIL L)) (fun f h' => Q (match f with | .ret v => v | _ => .none) h') h2 := by
    intro h2 m2 t2 F2 e1 e2 e3
    refine w_cons (w_expr (w_meth PySem.F.plainAttrs_list PySem.F.slot_list_insert PySem.F.type_list_insert (w_nm F2.ns e1 ⟨(hla.ext F2.keep).ty, ?_, ?_⟩)))
    · intro a e; injection e with e; subst e; obtain ⟨nn, e⟩ := hla.ext F2.keep; exact ⟨_, e, rfl⟩
    refine w_args (w_arg (w_nm F2.ns e3 (w_arg (w_nm F2.ns e2 (w_arg0 (w_kw0 ⟨Kp.builtin _, ?_⟩))))))
    refine w_insert (hla.ext F2.keep) (by omega) hsz (fun h3 l3 sb3 => ⟨fun a e => (by cases e), w_nil ?_⟩)
    exact k _ l3 (fun b o hb e => (sb3.2 b hb).trans (F2.keep b o e))
  refine w_cons (w_if_ (w_tCmp (w_nm F.ns rfl (w_cNone (w_isNone (w_tBool ⟨fun e => ?_, fun e => ?_⟩))))))
  · rcases hkx with ⟨rfl, rfl⟩ | ⟨⟨ka, rfl⟩, _⟩
    · refine w_cons (w_asg (w_callN (w_gK (v := .ref aBL) (G.ext F.keep) (by kernel_rfl) ?_)))
      refine w_args (w_arg (w_nm F.ns rfl (w_arg (w_nm F.ns rfl (w_arg (w_nm F.ns rfl (w_arg (w_nm F.ns rfl (w_arg0 (w_kw0 ⟨?_, ?_⟩))))))))))
      · exact Kp.func ((G.ext F.keep).K aBL (objAt w aBL) (by kernel_rfl)) (fd := fnAt w aBL) (by kernel_rfl)
      refine bl_call (lo := lo) (hi := hi) (G.ext F.keep) (ok'.mono (by omega)) (hla.ext F.keep).isList hsz2 (bl_b4 w _ _ _ _) hhi h1 h2 h3 (hkey.ext F.keep) hl hr (fun i v e => (hc i v e).ext F.keep) (fun h2 t2 e2 => ?_)
      refine w_st (F.kept e2) (fun h3 F3 => w_nil ?_)
      exact fin h3 _ t2 F3 rfl rfl rfl
    · cases e
  · rcases hkx with ⟨rfl, rfl⟩ | ⟨⟨ka, rfl⟩, hkp, hkx⟩
    · cases e
    · refine w_cons (w_asg (w_callN (w_gK (v := .ref aBL) (G.ext F.keep) (by kernel_rfl) ?_)))
      refine w_args (w_arg (w_nm F.ns rfl (w_arg (w_callN (w_nm F.ns rfl (w_args (w_arg (w_nm F.ns rfl (w_arg0 (w_kw0 ⟨hkp.ext F.keep, ?_⟩)))))))))) 
      refine hkx _ _ _ ok' F.keep (fun h1k e1k => ?_)
      have F1 := F.kept e1k
      refine w_arg (w_nm F1.ns rfl (w_arg (w_nm F1.ns rfl (w_arg0 (w_kw (w_nm F1.ns rfl (w_kw0 ⟨?_, ?_⟩)))))))
      · exact Kp.func ((G.ext F1.keep).K aBL (objAt w aBL) (by kernel_rfl)) (fd := fnAt w aBL) (by kernel_rfl)
      refine bl_call (lo := lo) (hi := hi) (G.ext F1.keep) (ok'.mono (by omega)) (hla.ext F1.keep).isList hsz2 (bl_b4k w _ _ _ _ _) hhi h1 h2 h3 (hkey.ext F1.keep) hl hr (fun i v e => (hc i v e).ext F1.keep) (fun h2 t2 e2 => ?_)
      refine w_st (F1.kept e2) (fun h3 F3 => w_nil ?_)
      exact fin h3 _ t2 F3 rfl rfl rfl
theorem il_b2 (w : World) (a x : Value) : ∀ S, peek (KH w) S (bindArgs (fnAt w aIL) ⟨[a, x], []⟩) = some [(nA, a), (nX, x), (nLo, .int 0 (dtok w aIL)), (nHi, .none), (nKey, .none)] := fun _ => by kernel_rfl
theorem il_b2k (w : World) (a x key : Value) : ∀ S, peek (KH w) S (bindArgs (fnAt w aIL) ⟨[a, x], [(nKey, key)]⟩) = some [(nA, a), (nX, x), (nLo, .int 0 (dtok w aIL)), (nHi, .none), (nKey, key)] := fun _ => by kernel_rfl
theorem il_b4k (w : World) (a x lo hi key : Value) : ∀ S, peek (KH w) S (bindArgs (fnAt w aIL) ⟨[a, x, lo, hi], [(nKey, key)]⟩) = some [(nA, a), (nX, x), (nLo, lo), (nHi, hi), (nKey, key)] := fun _ => by kernel_rfl

set_option maxHeartbeats 1000000 in
theorem ir_call {la : Addr} {vs ks : List Value} {x kx key hiV : Value} {lo hi r : Nat} {less : Nat → Bool} {n : Nat} {pos : List Value} {kw : List (Str × Value)} {t : Tok} {Q : Value → Heap → Prop}
    (G : G0 w mg mb h) (ok : OkA (n + 2) A) (hla : Ls h la vs) (hsz : vs.length ≤ sizeLine)
    (hb : ∀ S, peek (KH w) S (bindArgs (fnAt w aIR) ⟨pos, kw⟩) = some [(nA, .ref la), (nX, x), (nLo, .int lo t), (nHi, hiV), (nKey, key)])
    (hhi : HiIs hiV hi vs.length) (h1 : lo ≤ r) (h2 : r ≤ hi) (h3 : hi ≤ vs.length) (hkey : KeyOk n prog w h key vs ks) (hkx : Key1 (n + 1) prog w h key x kx)
    (hl : ∀ i, lo ≤ i → i < r → less i = false) (hr : ∀ i, r ≤ i → i < hi → less i = true)
    (hc : ∀ i v, ks[i]? = some v → CmpLt n prog w h kx v (less i))
    (k : ∀ h', Ls h' la (vs.take r ++ x :: vs.drop r) → Heap.ExtBut la h h' → Q .none h') : Wp (model prog w) A (call (.ref aIR) pos kw) Q h := by
  refine w_call (c_callK G ok (by kernel_rfl) (by kernel_rfl) (by kernel_rfl) (by kernel_rfl) hb (by kernel_rfl) (by kernel_rfl) (fun L h₁ F ok' => ?_))
  have hsz2 : vs.length < 2 ^ 62 := by rw [sizeLine_eq] at hsz; omega
  have fin : ∀ h2 m2 t2, Fr h L h2 m2 → m2 nA = some (.ref la) → m2 nX = some x → m2 nLo = some (.int r t2) →
      Wp (model prog w) (A.deeper (envAt w aIR L)) (execs ((bodyAt w aIR).drop 1) (envAt w aIR L)) (fun f h' => Q (match f with | .ret v => v | _ => .none) h') h2 := by
    intro h2 m2 t2 F2 e1 e2 e3
    refine w_cons (w_expr (w_meth PySem.F.plainAttrs_list PySem.F.slot_list_insert PySem.F.type_list_insert (w_nm F2.ns e1 ⟨(hla.ext F2.keep).ty, ?_, ?_⟩)))
    · intro a e; injection e with e; subst e; obtain ⟨nn, e⟩ := hla.ext F2.keep; exact ⟨_, e, rfl⟩
    refine w_args (w_arg (w_nm F2.ns e3 (w_arg (w_nm F2.ns e2 (w_arg0 (w_kw0 ⟨Kp.builtin _, ?_⟩))))))
    refine w_insert (hla.ext F2.keep) (by omega) hsz (fun h3 l3 sb3 => ⟨fun a e => (by cases e), w_nil ?_⟩)
    exact k _ l3 (fun b o hb e => (sb3.2 b hb).trans (F2.keep b o e))
  refine w_cons (w_if_ (w_tCmp (w_nm F.ns rfl (w_cNone (w_isNone (w_tBool ⟨fun e => ?_, fun e => ?_⟩))))))
  · rcases hkx with ⟨rfl, rfl⟩ | ⟨⟨ka, rfl⟩, _⟩
    · refine w_cons (w_asg (w_callN (w_gK (v := .ref aBR) (G.ext F.keep) (by kernel_rfl) ?_)))
      refine w_args (w_arg (w_nm F.ns rfl (w_arg (w_nm F.ns rfl (w_arg (w_nm F.ns rfl (w_arg (w_nm F.ns rfl (w_arg0 (w_kw0 ⟨?_, ?_⟩))))))))))
      · exact Kp.func ((G.ext F.keep).K aBR (objAt w aBR) (by kernel_rfl)) (fd := fnAt w aBR) (by kernel_rfl)
      refine br_call (lo := lo) (hi := hi) (G.ext F.keep) (ok'.mono (by omega)) (hla.ext F.keep).isList hsz2 (br_b4 w _ _ _ _) hhi h1 h2 h3 (hkey.ext F.keep) hl hr (fun i v e => (hc i v e).ext F.keep) (fun h2 t2 e2 => ?_)
      refine w_st (F.kept e2) (fun h3 F3 => w_nil ?_)
      exact fin h3 _ t2 F3 rfl rfl rfl
    · cases e
  · rcases hkx with ⟨rfl, rfl⟩ | ⟨⟨ka, rfl⟩, hkp, hkx⟩
    · cases e
    · refine w_cons (w_asg (w_callN (w_gK (v := .ref aBR) (G.ext F.keep) (by kernel_rfl) ?_)))
      refine w_args (w_arg (w_nm F.ns rfl (w_arg (w_callN (w_nm F.ns rfl (w_args (w_arg (w_nm F.ns rfl (w_arg0 (w_kw0 ⟨hkp.ext F.keep, ?_⟩)))))))))) 
      refine hkx _ _ _ ok' F.keep (fun h1k e1k => ?_)
      have F1 := F.kept e1k
      refine w_arg (w_nm F1.ns rfl (w_arg (w_nm F1.ns rfl (w_arg0 (w_kw (w_nm F1.ns rfl (w_kw0 ⟨?_, ?_⟩)))))))
      · exact Kp.func ((G.ext F1.keep).K aBR (objAt w aBR) (by kernel_rfl)) (fd := fnAt w aBR) (by kernel_rfl)
      refine br_call (lo := lo) (hi := hi) (G.ext F1.keep) (ok'.mono (by omega)) (hla.ext F1.keep).isList hsz2 (br_b4k w _ _ _ _ _) hhi h1 h2 h3 (hkey.ext F1.keep) hl hr (fun i v e => (hc i v e).ext F1.keep) (fun h2 t2 e2 => ?_)
      refine w_st (F1.kept e2) (fun h3 F3 => w_nil ?_)
      exact fin h3 _ t2 F3 rfl rfl rfl
theorem ir_b2 (w : World) (a x : Value) : ∀ S, peek (KH w) S (bindArgs (fnAt w aIR) ⟨[a, x], []⟩) = some [(nA, a), (nX, x), (nLo, .int 0 (dtok w aIR)), (nHi, .none), (nKey, .none)] := fun _ => by kernel_rfl
theorem ir_b2k (w : World) (a x key : Value) : ∀ S, peek (KH w) S (bindArgs (fnAt w aIR) ⟨[a, x], [(nKey, key)]⟩) = some [(nA, a), (nX, x), (nLo, .int 0 (dtok w aIR)), (nHi, .none), (nKey, key)] := fun _ => by kernel_rfl
theorem ir_b4k (w : World) (a x lo hi key : Value) : ∀ S, peek (KH w) S (bindArgs (fnAt w aIR) ⟨[a, x, lo, hi], [(nKey, key)]⟩) = some [(nA, a), (nX, x), (nLo, lo), (nHi, hi), (nKey, key)] := fun _ => by kernel_rfl
end
end Mine
end
section
open PySem PySem.W PyProof.Rows PySem.Calls
set_option Elab.async false
set_option maxRecDepth 100000
set_option linter.unusedVariables false
namespace Mine

/-! ## the entries of an instance's dict: names and values -/
inductive EsAre : List DictEntry → List (Str × Value) → Prop
  | nil : EsAre [] []
  | cons (hsh : Int) (k : Str) (t : Tok) (v : Value) {es : List DictEntry} {kvs : List (Str × Value)} : EsAre es kvs → EsAre (⟨hsh, .str k t, v⟩ :: es) ((k, v) :: kvs)
def kvGet (name : Str) : List (Str × Value) → Option Value
  | [] => none
  | (k, v) :: r => if k = name then some v else kvGet name r
def kvPut (name : Str) (v : Value) : List (Str × Value) → List (Str × Value)
  | [] => [(name, v)]
  | (k, u) :: r => if k = name then (k, v) :: r else (k, u) :: kvPut name v r
theorem EsAre.noRef {es : List DictEntry} {kvs : List (Str × Value)} (x : EsAre es kvs) : es.any (·.refKey) = false := by
  induction x with
  | nil => rfl
  | cons hsh k t v _ ih => rw [List.any_cons, ih]; rfl
theorem EsAre.get {es : List DictEntry} {kvs : List (Str × Value)} (x : EsAre es kvs) (name : Str) : getL name es = some (kvGet name kvs) := by
  have nr := x.noRef
  unfold getL
  rw [nr]
  clear nr
  induction x with
  | nil => rfl
  | cons hsh k t v _ ih =>
    simp only [List.find?_cons, Value.isStr, kvGet]
    by_cases e : k = name
    · subst e; simp
    · rw [if_neg e, beq_eq_false_iff_ne.mpr e]; exact ih
theorem EsAre.put {es : List DictEntry} {kvs : List (Str × Value)} (x : EsAre es kvs) (name : Str) (hsh : Int) (t : Tok) (v : Value) : EsAre (putL name hsh (.str name t) v es) (kvPut name v kvs) := by
  induction x with
  | nil => exact .cons _ _ _ _ .nil
  | cons h' k t' u x ih =>
    unfold putL kvPut
    by_cases e : k = name
    · subst e
      rw [if_pos (show (Value.str k t').isStr k = true from by simp [Value.isStr]), if_pos rfl]
      exact .cons _ _ _ _ x
    · rw [if_neg (show ¬ (Value.str k t').isStr name = true from by simpa [Value.isStr] using e), if_neg e]
      exact .cons _ _ _ _ ih
theorem EsAre.length {es : List DictEntry} {kvs : List (Str × Value)} (x : EsAre es kvs) : es.length = kvs.length := by
  induction x with
  | nil => rfl
  | cons _ _ _ _ _ ih => simp [ih]

/-- a dict by names -/
def Dc (h : Heap) (d : Addr) (kvs : List (Str × Value)) : Prop := ∃ es n, h.get? d = some (dictOf es n) ∧ EsAre es kvs
theorem Dc.ext {h h' : Heap} {d : Addr} {kvs : List (Str × Value)} (x : Dc h d kvs) (k : Ext h h') : Dc h' d kvs := let ⟨es, n, e, r⟩ := x; ⟨es, n, k _ _ e, r⟩
theorem Dc.same {h h' : Heap} {d b : Addr} {kvs : List (Str × Value)} (x : Dc h d kvs) (k : Heap.SameBut b h h') (hd : d ≠ b) : Dc h' d kvs := let ⟨es, n, e, r⟩ := x; ⟨es, n, (k.2 d hd).trans e, r⟩
theorem Dc.lt {h : Heap} {d : Addr} {kvs : List (Str × Value)} (x : Dc h d kvs) : d < h.objs.size := let ⟨_, _, e, _⟩ := x; Heap.lt_size e
/-- an instance of C whose dict lies at d -/
def Ins (h : Heap) (C x d : Addr) : Prop := h.get? x = some ⟨.ref C, some d, .plain, #[]⟩
theorem Ins.ext {h h' : Heap} {C x d : Addr} (i : Ins h C x d) (k : Ext h h') : Ins h' C x d := k _ _ i
theorem Ins.same {h h' : Heap} {C x d b : Addr} (i : Ins h C x d) (k : Heap.SameBut b h h') (hx : x ≠ b) : Ins h' C x d := (k.2 x hx).trans i

section
variable {prog : Program} {w : World} {A : Around} {h : Heap} {K : Frag} {C x d : Addr} {name : Str} {v : Value} {kvs : List (Str × Value)}
theorem w_getOwn {expr : Bool} {attr : Option Value} {Q : Value → Heap → Prop} (X : K.In h) (I : Ins h C x d) (D : Dc h d kvs) (hg : plainGet K C name = true) (hh : hasDictIn K C = true)
    (ha : findIn K (.ref C) name = some attr) (hn : noGet K attr = true) (hl : kvGet name kvs = some v) (k : Q v h) (hv : handedIn v = true := by rfl) : Wp (model prog w) A (getAttr (.ref x) name expr) Q h := fun s hs => by
  subst hs
  obtain ⟨es, n, e, r⟩ := D
  exact get_value X (⟨I, rfl, rfl, e⟩ : InstAt s.heap x ⟨.ref C, some d, .plain, #[]⟩ C (some (dictOf es n))) (plainGet_of hg).1 (findObj_own hh ha hn ((lookIn_dict name es n).trans ((r.get name).trans (by rw [hl])))) hv ⟨⟨rfl, rfl⟩, k⟩
theorem w_method {pl : Sem Bool} {f : Addr} {Q : Value × List Value → Heap → Prop} (X : K.In h) (I : Ins h C x d) (D : Dc h d kvs) (hg : plainGet K C name = true)
    (hf : findIn K (.ref C) name = some (some (.ref f))) (ht : isFn K (.ref f) = true) (hl : kvGet name kvs = none) (k : Q (.ref f, [.ref x]) h) : Wp (model prog w) A (getMethod (.ref x) name pl) Q h := fun s hs => by
  subst hs
  obtain ⟨es, n, e, r⟩ := D
  refine method_fn X (⟨I, rfl, rfl, e⟩ : InstAt s.heap x ⟨.ref C, some d, .plain, #[]⟩ C (some (dictOf es n))) (plainGet_of hg).1 (plainGet_of hg).2 hf (beq_iff_eq.mp ht) ?_ ⟨⟨rfl, rfl⟩, k⟩
  show (lookIn name (dictOf es n)).map _ = _
  rw [lookIn_dict, r.get name, hl]; rfl
/-- a method's name that the instance itself bears -/
theorem w_methOwn {pl : Sem Bool} {Q : Value × List Value → Heap → Prop} (X : K.In h) (I : Ins h C x d) (D : Dc h d kvs) (hg : plainGet K C name = true) (hh : hasDictIn K C = true)
    (ha : findIn K (.ref C) name = some none) (hl : kvGet name kvs = some v) (k : Q (v, []) h) (hv : handedIn v = true := by rfl) : Wp (model prog w) A (getMethod (.ref x) name pl) Q h := fun s hs => by
  subst hs
  have z := w_getOwn (prog := prog) (w := w) (A := A) (expr := false) (Q := fun v h => Q (v, []) h) X I D hg hh ha rfl hl k hv
  obtain ⟨es, n, e, r⟩ := D
  exact method_usual X (⟨I, rfl, rfl, e⟩ : InstAt s.heap x ⟨.ref C, some d, .plain, #[]⟩ C (some (dictOf es n))) (plainGet_of hg).1 (plainGet_of hg).2 ha rfl (z s rfl)
/-- a function of the class, bound -/
theorem w_bound {expr : Bool} {f : Addr} {Q : Value → Heap → Prop} (X : K.In h) (I : Ins h C x d) (D : Dc h d kvs) (hg : plainGet K C name = true) (hh : hasDictIn K C = true) (ha : findIn K (.ref C) name = some (some (.ref f))) (hf : isFn K (.ref f) = true)
    (hgf : specialIn K (.ref f) "__get__" = some (some (.builtin "function.__get__"))) (ht : takesIn K (.ref f) = some false) (hc : copiedNames.contains name = false) (hl : kvGet name kvs = none)
    (k : ∀ h', Ext h h' → h'.get? h.objs.size = some (methodObj (.ref f) (.ref x)) → h'.objs.size = h.objs.size + 1 → Q (.ref h.objs.size) h') : Wp (model prog w) A (getAttr (.ref x) name expr) Q h := fun s hs => by
  subst hs
  obtain ⟨es, n, e, r⟩ := D
  have I' : InstAt s.heap x ⟨.ref C, some d, .plain, #[]⟩ C (some (dictOf es n)) := ⟨I, rfl, rfl, e⟩
  exact get_bind X I' (plainGet_of hg).1 (findObj_fn hh ha hgf ht hc (by show lookIn name (dictOf es n) = _; rw [lookIn_dict, r.get name, hl])) (plainGet_of hg).2
    (wpAny_call (fn_get (s := { s with toks := s.toks + 1 }) X (beq_iff_eq.mp hf) (handed_on rfl ⟨⟨rfl, rfl⟩, k _ (Ext.push _ _) (Heap.get?_push_size _ rfl) (by simp)⟩)))
theorem w_setAttr {Q : Unit → Heap → Prop} (X : K.In h) (I : Ins h C x d) (D : Dc h d kvs) (hs : findIn K (.ref C) "__setattr__" = some (some (.builtin "object.__setattr__"))) (hp : plainOver K C = true) (ht : takerIn K C name = some none)
    (hh : hasDictIn K C = true) (hz : kvs.length < 900) (k : ∀ h', Dc h' d (kvPut name v kvs) → Heap.SameBut d h h' → Q () h') : Wp (model prog w) A (setAttr (.ref x) name v) Q h := fun s hs' => by
  subst hs'
  obtain ⟨es, n, e, r⟩ := D
  have I' : InstAt s.heap x ⟨.ref C, some d, .plain, #[]⟩ C (some (dictOf es n)) := ⟨I, rfl, rfl, e⟩
  refine set_plain X I' hs ?_
  refine osa_open (s := { s with toks := s.toks + 1 }) X I' hp ht fun b => ?_
  obtain ⟨cd, hc, hd'⟩ := any_some hh
  have nf : (dictOf (putL name (PyData.keyHash w.params name) (.str name (s.toks + 1)) v es) (putN name es n)).isFreed = false := rfl
  have up : (s.heap.update d (Obj.putName name (PyData.keyHash w.params name) (.str name (s.toks + 1)) v)).get? d = some (dictOf (putL name (PyData.keyHash w.params name) (.str name (s.toks + 1)) v es) (putN name es n)) := by
    rw [← putName_dict]; rw [← putName_dict] at nf; exact Heap.get?_update_self _ e nf
  refine wpAny_bind (wpAny_pure (wpAny_bind (wpAny_bind (wpAny_loadPart I (wpAny_bind (Looks.here (s := { s with toks := s.toks + 1 }) (looks_clsIn X hc) ?_))))))
  rw [hd']
  refine wpAny_pure (a := some d) (wpAny_bind (wpAny_pure (wpAny_bind ?_)))
  unfold nsSet
  refine wpAny_bind (wpAny_bind (wpAny_askSetting (wpAny_pure (wpAny_bind (wpAny_mkText (wpAny_bind (wpAny_loadPart e ?_)))))))
  dsimp only
  have c : (!es.toArray.any (·.key.isStr name) && es.toArray.any (·.refKey)) = false := by
    rw [List.any_toArray, List.any_toArray, r.noRef, Bool.and_false]
  rw [aRefKeyMayBeTheName_at, c]
  refine wpAny_updatePart e ?_
  have hlen : (putL name (PyData.keyHash w.params name) (.str name (s.toks + 1)) v es).length ≤ kvs.length + 1 := by
    rw [(r.put name (PyData.keyHash w.params name) (s.toks + 1) v).length]
    have : ∀ l : List (Str × Value), (kvPut name v l).length ≤ l.length + 1 := by
      intro l
      induction l with
      | nil => simp [kvPut]
      | cons p l ih => obtain ⟨a, b⟩ := p; simp only [kvPut]; split <;> simp_all
    exact this kvs
  refine wpAny_bind (wpAny_lookBehind up (pastItsLine_dict (by rw [List.size_toArray, sizeLine_eq]; omega)) ?_)
  exact wpAny_pure ⟨⟨rfl, rfl⟩, k _ ⟨_, _, up, r.put name _ _ v⟩ (Heap.SameBut.update ..)⟩
end
end Mine
end
section
open PySem PySem.W PyProof.Rows PySem.Calls
set_option Elab.async false
set_option maxRecDepth 100000
set_option linter.unusedVariables false
namespace Mine
section
variable {M : Model} {A : Around} {h : Heap} {env : Env}
theorem w_attr {x attr : Str} {p pos : Pos} {Q : Value → Heap → Prop} (k : Wp M A (eval (.Name x p) env) (fun o h₁ => Wp M A (getAttr o attr true) Q h₁) h) :
    Wp M A (eval (.Attribute (.Name x p) attr pos) env) Q h := by
  rw [arm_eval_Attribute]
  refine w_bind ?_
  show Wp M A (eval (.Name x p) env) _ h
  refine k.mono fun o h₁ y => w_bind (w_standAt (w_bind (w_holding (y.mono fun r h₂ z => ?_))))
  exact w_bind (w_pure (w_pure z))
theorem w_mcall {o : Expr} {name : Str} {apos pos : Pos} {args : List Expr} {kws : List Keyword} {Q : Value → Heap → Prop}
    (k : Wp M A (eval o env) (fun ov h₁ => Wp M A (getMethod ov name (do return (← importBound o env).getD true)) (fun fv h₂ => Wp M A (callWith pos fv.1 fv.2 (backTo pos (starEach args env)) (backToKw pos (keywordEach kws env))) Q h₂) h₁) h)
    (hbase : attributeBase o name env (eval o env) = eval o env := by rfl)
    (hform : methodCallForm (args.length + kws.length) (backTo pos (starEach args env)) (backToKw pos (keywordEach kws env)) = true := by rfl)
    (hline : (apos.endLine == pos.line) = true := by rfl) :
    Wp M A (eval (.Call (.Attribute o name apos) args kws pos) env) Q h := by
  rw [arm_eval_Call, hbase]
  refine w_bind (k.mono fun ov h₁ y => w_bind (w_standAt ?_))
  unfold methodCall
  rw [hform]
  refine w_bind (w_holding ?_)
  show Wp M A (getMethod ov name (do return (← importBound o env).getD true)) _ h₁
  refine y.mono fun fv h₂ z => ?_
  obtain ⟨f, first⟩ := fv
  have hpos : methodCallPos true o env apos pos = pure pos := by unfold methodCallPos; simp [hline]
  show Wp M A (methodCallPos true o env apos pos >>= fun callPos => callWith callPos f first _ _) Q h₂
  rw [hpos]
  exact w_bind (w_pure z)
theorem w_asgAttr {x attr : Str} {p p' pos : Pos} {value : Expr} {Q : Flow → Heap → Prop}
    (k : Wp M A (eval value env) (fun v h₁ => Wp M A (eval (.Name x p) env) (fun ov h₂ => Wp M A (setAttr ov attr v) (fun _ h₃ => Q .next h₃) h₂) h₁) h)
    (h1 : swapsWithSole [.Attribute (.Name x p) attr p'] value pos.line env = pure false := by rfl)
    (h2 : swappedStores [.Attribute (.Name x p) attr p'] value env = pure none := by rfl) :
    Wp M A (exec (.Assign [.Attribute (.Name x p) attr p'] value pos) env) Q h := by
  have e : exec (.Assign [.Attribute (.Name x p) attr p'] value pos) env = (do
      standAt pos
      if ← swapsWithSole [.Attribute (.Name x p) attr p'] value pos.line env then do
        evalThenUse value env fun v => assignAll v ((assignEach [.Attribute (.Name x p) attr p'] env).map (·.2))
        pure .next
      else do
        let v ← eval value env
        assignStores env v (← swappedStores [.Attribute (.Name x p) attr p'] value env) ((assignEach [.Attribute (.Name x p) attr p'] env).map (·.2))) := rfl
  rw [e, h1, h2]
  refine w_bind (w_standAt (w_bind (w_pure ?_)))
  rw [if_neg (by decide)]
  refine w_bind (k.mono fun v h₁ y => w_bind (w_pure ?_))
  show Wp M A (do assignAll v [assign (.Attribute (.Name x p) attr p') env]; pure .next) Q h₁
  refine w_bind ?_
  show Wp M A (assign (.Attribute (.Name x p) attr p') env v) _ h₁
  rw [arm_assign_Attribute]
  refine w_bind (w_holding (y.mono fun ov h₂ z => w_bind (w_standAt (w_bind (w_holding (z.mono fun _ h₃ u => ?_))))))
  intro s hs Γ p hΓ
  rw [Sem.wp_release]
  exact ⟨⟨rfl, rfl⟩, fun s' hs' => wpAny_pure ⟨⟨rfl, rfl⟩, by rw [hs', hs]; exact u⟩⟩
theorem w_augAttr {x attr : Str} {op : Operator} {p p' pos : Pos} {value : Expr} {Q : Flow → Heap → Prop}
    (k : Wp M A (eval (.Name x p) env) (fun ov h₁ => Wp M A (getAttr ov attr true) (fun old h₂ => Wp M A (eval value env) (fun v h₃ => Wp M A (inplaceOp op old v) (fun new h₄ => Wp M A (setAttr ov attr new) (fun _ h₅ => Q .next h₅) h₄) h₃) h₂) h₁) h) :
    Wp M A (exec (.AugAssign (.Attribute (.Name x p) attr p') op value pos) env) Q h := by
  have e : exec (.AugAssign (.Attribute (.Name x p) attr p') op value pos) env = (do
    standAt pos
    let ov ← eval (.Name x p) env
    let new ← holding [ov] do
      standAt p'.atName
      let old ← getAttr ov attr true
      let v ← holding [old] (eval value env)
      standAt pos
      operate [old, v] (inplaceOp op old v)
    standAt p'.atName
    holding [new, ov] (setAttr ov attr new)
    release [new, ov] []
    pure .next) := rfl
  rw [e]
  refine w_bind (w_standAt (w_bind (k.mono fun ov h₁ y => w_bind (w_holding (w_bind (w_standAt (w_bind (y.mono fun old h₂ z => w_bind (w_holding (z.mono fun v h₃ u => w_bind (w_standAt (w_operate (u.mono fun new h₄ q => ?_))))))))))))) 
  refine w_bind (w_standAt (w_bind (w_holding (q.mono fun _ h₅ r => w_bind ?_))))
  intro s hs Γ p hΓ
  rw [Sem.wp_release]
  exact ⟨⟨rfl, rfl⟩, fun s' hs' => wpAny_pure ⟨⟨rfl, rfl⟩, by rw [hs', hs]; exact r⟩⟩
end

section
variable {prog : Program} {w : World} {A : Around} {h : Heap} {K : Frag}
/-- a class of the text is called: a new dict, a new instance, its __init__ -/
theorem w_make {C fI : Addr} {rest : List Value} {kw : List (Str × Value)} {Q : Value → Heap → Prop} (X : K.In h) (hm : makesIn K C = true)
    (hi : findIn K (.ref C) "__init__" = some (some (.ref fI))) (hf : typeIn K (.ref fI) = some (.type "function"))
    (k : ∀ x d h', x = h.objs.size + 1 → d = h.objs.size → Ext h h' → Ins h' C x d → Dc h' d [] → h'.objs.size = h.objs.size + 2 →
      Wc (model prog w) (A.under (.builtin "type.__call__" ⟨.ref C :: rest, kw⟩)) (.call (.ref fI) ⟨.ref x :: rest, kw⟩) (fun v h'' => v = .none ∧ Q (.ref x) h'') h') :
    Wp (model prog w) A (call (.ref C) rest kw) Q h := by
  intro s hs
  subst hs
  obtain ⟨hh, g, d, t, os⟩ := s
  refine wpAny_call ?_
  refine make_core (makes_of X hm) (looks_findIn X hi) (fun self => bind_fn X self hf) (.inl rfl) ?_
  have e1 : ((hh.push emptyDict).push (instObj C hh.objs.size)).get? (hh.objs.size + 1) = some (instObj C hh.objs.size) := by
    have := Heap.get?_push_size (hh.push emptyDict) (o := instObj C hh.objs.size) rfl
    rwa [Heap.size_push] at this
  have e2 : ((hh.push emptyDict).push (instObj C hh.objs.size)).get? hh.objs.size = some emptyDict := Heap.get?_push_of_some _ (Heap.get?_push_size _ rfl)
  have kk := k (hh.objs.size + 1) hh.objs.size ((hh.push emptyDict).push (instObj C hh.objs.size)) rfl rfl
    (fun b o e => Heap.get?_push_of_some _ (Heap.get?_push_of_some _ e)) e1 ⟨[], 0, e2, .nil⟩ (by simp)
  refine codeAny_mono (kk ⟨(hh.push emptyDict).push (instObj C hh.objs.size), g, d, t, os⟩ rfl) fun r s' y => ?_
  rcases r with e | (_ | _ | _ | v) <;> first | exact y.elim | skip
  exact ⟨y.2.1, y.1, y.2.2⟩
end
end Mine
end
section
open PySem PySem.W PyProof.Rows PySem.Calls
set_option Elab.async false
set_option maxRecDepth 100000
set_option linter.unusedVariables false
set_option linter.unusedSimpArgs false
namespace Mine
/-- a text by its signs -/
abbrev S (l : List Nat) : Str := ⟨l.toArray⟩
theorem S_append (a b : List Nat) : S a ++ S b = S (a ++ b) := by
  show Str.append _ _ = _
  simp [Str.append, S]
theorem S_length (a : List Nat) : (S a).length = a.length := by simp [Str.length, S]
theorem S_inj {a b : List Nat} (h : S a = S b) : a = b := by injection h with h; simpa using h
section
variable {prog : Program} {w : World} {A : Around} {h : Heap} {env : Env} {x y : List Nat} {t u : Tok}
theorem w_addStr {Q : Value → Heap → Prop} (k : ∀ t, Q (.str (S (x ++ y)) t) h) (hz : x.length + y.length ≤ sizeLine) : Wp (model prog w) A (binaryOp .Add (.str (S x) t) (.str (S y) u)) Q h := fun s hs => by
  subst hs; exact SB.add (fun t' _ => by rw [S_append]; exact ⟨⟨rfl, rfl⟩, k t'⟩) (by rw [S_length, S_length]; exact hz)
theorem w_iaddStr {Q : Value → Heap → Prop} (k : ∀ t, Q (.str (S (x ++ y)) t) h) (hz : x.length + y.length ≤ sizeLine) : Wp (model prog w) A (inplaceOp .Add (.str (S x) t) (.str (S y) u)) Q h := fun s hs => by
  subst hs; exact SB.iadd (fun t' _ => by rw [S_append]; exact ⟨⟨rfl, rfl⟩, k t'⟩) (by rw [S_length, S_length]; exact hz)
theorem w_eqStr {Q : Value → Heap → Prop} (k : Q (.bool (decide (x = y))) h) : Wp (model prog w) A (compareOp .Eq (.str (S x) t) (.str (S y) u)) Q h := fun s hs => by
  subst hs
  refine P.eq_str ⟨⟨rfl, rfl⟩, ?_⟩
  have e : ((S x).cps.toList == (S y).cps.toList) = decide (x = y) := by
    show (x == y) = decide (x = y)
    by_cases q : x = y
    · simp [q]
    · simp [q]
  rw [e]; exact k
theorem w_neStr {Q : Value → Heap → Prop} (k : Q (.bool (!decide (x = y))) h) : Wp (model prog w) A (compareOp .NotEq (.str (S x) t) (.str (S y) u)) Q h := fun s hs => by
  subst hs
  refine P.ne_str ⟨⟨rfl, rfl⟩, ?_⟩
  have e : ((S x).cps.toList != (S y).cps.toList) = !decide (x = y) := by
    by_cases q : x = y
    · simp [S, q]
    · simp [S, q, bne]
  rw [e]; exact k
theorem w_ltStr {Q : Value → Heap → Prop} (k : Q (.bool (decide (x < y))) h) : Wp (model prog w) A (compareOp .Lt (.str (S x) t) (.str (S y) u)) Q h := fun s hs => by
  subst hs
  refine P.lt_str ⟨⟨rfl, rfl⟩, ?_⟩
  have e : (decide ((S x).cps.toList < (S y).cps.toList)) = decide (x < y) := by simp [S]
  rw [e]; exact k
/-- one sign in a text -/
theorem w_inStr1 {c : Nat} {Q : Value → Heap → Prop} (k : Q (.bool (decide (c ∈ y))) h) : Wp (model prog w) A (compareOp .In (.str (S [c]) t) (.str (S y) u)) Q h := fun s hs => by
  subst hs
  refine P.in_str ⟨⟨rfl, rfl⟩, ?_⟩
  have e := StrLaws.found_one (S y) c
  have e2 : ((S y).cps.toList) = y := by simp [S]
  rw [e2] at e
  rw [e]; exact k
theorem w_lenStr {Q : Value → Heap → Prop} (k : ∀ t, Q (.int x.length t) h) (hz : x.length ≤ sizeLine) : Wp (model prog w) A (call (.builtin "len") [.str (S x) t]) Q h := fun s hs => by
  subst hs
  refine P.len_str (by rw [S_length]; rw [sizeLine_eq] at hz; lia) ⟨⟨rfl, rfl⟩, ?_⟩
  rw [S_length]; exact k _

/-! ## slices -/
theorem w_part0 {Q : Value → Heap → Prop} (k : Q .none h) : Wp (model prog w) A (evalPart none env) Q h := w_pure k
theorem w_part {e : Expr} {Q : Value → Heap → Prop} (k : Wp (model prog w) A (eval e env) Q h) : Wp (model prog w) A (evalPart (some e) env) Q h := k
theorem w_slice {l u st : Option Expr} {p : Pos} {Q : Value → Heap → Prop}
    (k : Wp (model prog w) A (evalPart l env) (fun lv h₁ => Wp (model prog w) A (evalPart u env) (fun uv h₂ => Wp (model prog w) A (evalPart st env) (fun sv h₃ =>
      Q (.ref h₃.objs.size) (h₃.push { cls := .type "slice", data := .fields #[lv, uv, sv] })) h₂) h₁) h) : Wp (model prog w) A (eval (.Slice l u st p) env) Q h := fun s hs =>
  wpAny_Slice (wpAny_mono (k s hs) (fun lv s₁ y => wpAny_mono (y.2 s₁ rfl) (fun uv s₂ z => wpAny_mono (z.2 s₂ rfl)
    (fun sv s₃ q => ⟨⟨q.1.1.trans (z.1.1.trans y.1.1), q.1.2.trans (z.1.2.trans y.1.2)⟩, q.2⟩) fun _ _ e => e) fun _ _ e => e) fun _ _ e => e)
/-- a list's slice is a new list -/
theorem w_sliceList {value slice : Expr} {l : Addr} {items : List Value} {lv uv sv : Value} {lo hi st : Option Int} {ops : List Value} {Q : Value → Heap → Prop} (hl : h.IsList l items.toArray) (pl : IsPart lv lo) (pu : IsPart uv hi) (pk : IsPart sv st) (h0 : st ≠ some 0)
    (k : ∀ a h', a = h.objs.size + 1 → Ext h h' → Ls h' a (slicePick items.toArray lo hi st).toList → h'.objs.size = h.objs.size + 2 → Q (.ref a) h') (hsz : items.length ≤ sizeLine)
    (hs : subscripted slice false (.ref l) (.ref h.objs.size) = operate ops (getItem (.ref l) (.ref h.objs.size)) := by with_unfolding_all rfl)
    (ht : ∀ r, letTemporaryGo value (.ref l) r = pure () := by intro _; with_unfolding_all rfl) :
    Wp (model prog w) A (subscriptTail value slice (.ref l) (.ref h.objs.size)) Q (h.push { cls := .type "slice", data := .fields #[lv, uv, sv] }) := fun s hs' => by
  have hl' : s.heap.IsList l items.toArray := by rw [hs']; exact hl.push _
  refine subscriptTail_ops (Heap.IsList.typeIs hl') list_getitem_lookup (wpAny_getItem_list_slice hl' (vl := lv) (vu := uv) (vs := sv) (by rw [hs']; exact Heap.IsSliceOf.new ..) pl pu pk h0 ?_ (by simpa using hsz)) hs ht
  refine ⟨⟨rfl, rfl⟩, ?_⟩
  rw [hs']
  refine k _ _ (by simp) (fun b o e => Heap.get?_push_of_some _ (Heap.get?_push_of_some _ e)) ?_ (by simp)
  have := Ls.new (h.push { cls := .type "slice", data := .fields #[lv, uv, sv] }) (slicePick items.toArray lo hi st).toList
  simpa [lst] using this
theorem w_sliceStr {value slice : Expr} {i j : Int} {ui uj : Tok} {Q : Value → Heap → Prop}
    (k : ∀ t h', Ext h h' → Q (.str (Txt.slice (S x) (some i) (some j)) t) h') (hsz : x.length ≤ sizeLine)
    (hs : subscripted slice false (.str (S x) t) (.ref h.objs.size) = operate [.ref h.objs.size, .str (S x) t] (getItem (.str (S x) t) (.ref h.objs.size)) := by with_unfolding_all rfl)
    (ht : ∀ r, letTemporaryGo value (.str (S x) t) r = pure () := by intro _; with_unfolding_all rfl) :
    Wp (model prog w) A (subscriptTail value slice (.str (S x) t) (.ref h.objs.size)) Q (h.push { cls := .type "slice", data := .fields #[.int i ui, .int j uj, .none] }) := fun s hs' => by
  have z : ItemOn (model prog w) A NoE (.str (S x) t) (.ref h.objs.size) (fun a s' => (s'.os = s.os ∧ s'.gens = s.gens) ∧ Q a s'.heap) s := by
    have := SBH.sliceItem_ss (prog := prog) (w := w) (A := A) (E := NoE) (P := fun h' => Ext h h') (s := { s with heap := h }) (x := S x) (t := t) (i := i) (j := j) (ui := ui) (uj := uj)
      (Q := fun a s' => (s'.os = s.os ∧ s'.gens = s.gens) ∧ Q a s'.heap) (fun h₁ ob e => e.trans (Ext.push _ _)) (Ext.refl _) (fun h' t' kk e => ⟨⟨rfl, rfl⟩, k t' h' e⟩) (by rw [S_length]; exact hsz)
    rw [← hs'] at this
    exact this
  exact tail_of_ItemOn z hs ht
theorem w_sliceStrTo {value slice : Expr} {j : Int} {uj : Tok} {Q : Value → Heap → Prop}
    (k : ∀ t h', Ext h h' → Q (.str (Txt.slice (S x) none (some j)) t) h') (hsz : x.length ≤ sizeLine)
    (hs : subscripted slice false (.str (S x) t) (.ref h.objs.size) = operate [.ref h.objs.size, .str (S x) t] (getItem (.str (S x) t) (.ref h.objs.size)) := by with_unfolding_all rfl)
    (ht : ∀ r, letTemporaryGo value (.str (S x) t) r = pure () := by intro _; with_unfolding_all rfl) :
    Wp (model prog w) A (subscriptTail value slice (.str (S x) t) (.ref h.objs.size)) Q (h.push { cls := .type "slice", data := .fields #[.none, .int j uj, .none] }) := fun s hs' => by
  have z : ItemOn (model prog w) A NoE (.str (S x) t) (.ref h.objs.size) (fun a s' => (s'.os = s.os ∧ s'.gens = s.gens) ∧ Q a s'.heap) s := by
    have := SBH.sliceItem_ns (prog := prog) (w := w) (A := A) (E := NoE) (P := fun h' => Ext h h') (s := { s with heap := h }) (x := S x) (t := t) (j := j) (uj := uj)
      (Q := fun a s' => (s'.os = s.os ∧ s'.gens = s.gens) ∧ Q a s'.heap) (fun h₁ ob e => e.trans (Ext.push _ _)) (Ext.refl _) (fun h' t' kk e => ⟨⟨rfl, rfl⟩, k t' h' e⟩) (by rw [S_length]; exact hsz)
    rw [← hs'] at this
    exact this
  exact tail_of_ItemOn z hs ht
theorem w_itemStr {value slice : Expr} {i : Nat} {c : Nat} {Q : Value → Heap → Prop} (hc : x[i]? = some c) (hsz : x.length ≤ sizeLine)
    (k : ∀ t, Q (.str (S [c]) t) h)
    (hs : subscripted slice false (.str (S x) t) (.int i u) = operate [.str (S x) t, .int i u] (getItem (.str (S x) t) (.int i u)) := by with_unfolding_all rfl)
    (ht : ∀ r, letTemporaryGo value (.str (S x) t) r = pure () := by intro _; with_unfolding_all rfl) :
    Wp (model prog w) A (subscriptTail value slice (.str (S x) t) (.int i u)) Q h := fun s hs' => by
  subst hs'
  have hi : i < x.length := by
    rcases Nat.lt_or_ge i x.length with q | q
    · exact q
    · rw [List.getElem?_eq_none q] at hc; cases hc
  have hch : Txt.charAt (S x) (i : Int) = some c := by
    unfold Txt.charAt seqIndex?
    rw [S_length]
    have : (if (i : Int) < 0 then (i : Int) + x.length else (i : Int)) = i := by rw [if_neg (by lia)]
    simp only [this]
    rw [if_pos (by simp; lia)]
    simp [S, hc]
  refine tail_of_ItemOn (SB.item ?_ (by rw [hch]; rfl) ⟨⟨rfl, rfl⟩, ?_⟩) hs ht
  · rw [sizeLine_eq] at hsz; unfold fitsSsize; simp; lia
  · unfold Txt.item; rw [hch]; exact k _
/-! ## a list's place is stored -/
theorem w_asgSub {o i : Expr} {p pos : Pos} {value : Expr} {Q : Flow → Heap → Prop}
    (k : Wp (model prog w) A (eval value env) (fun v h₁ => Wp (model prog w) A (eval o env) (fun ov h₂ => Wp (model prog w) A (eval i env) (fun iv h₃ => Wp (model prog w) A (setItem ov iv v) (fun _ => Q .next) h₃) h₂) h₁) h)
    (hs : swapsWith value (some (.Subscript o i p)) pos.line env = pure false := by rfl) : Wp (model prog w) A (exec (.Assign [.Subscript o i p] value pos) env) Q h := fun s hs' =>
  wpAny_Assign_Subscript (wpAny_mono (k s hs') (fun v s₁ y => wpAny_mono (y.2 s₁ rfl) (fun ov s₂ z => wpAny_mono (z.2 s₂ rfl) (fun iv s₃ q => wpAny_mono (q.2 s₃ rfl)
    (fun _ s₄ r => ⟨⟨r.1.1.trans (q.1.1.trans (z.1.1.trans y.1.1)), r.1.2.trans (q.1.2.trans (z.1.2.trans y.1.2))⟩, r.2⟩) fun _ _ e => e) fun _ _ e => e) fun _ _ e => e) fun _ _ e => e) hs
theorem w_setItem {l : Addr} {items : List Value} {j : Nat} {v : Value} {Q : Unit → Heap → Prop} (hl : h.IsList l items.toArray) (hj : j < items.length) (hz : items.length ≤ sizeLine)
    (k : ∀ h', h'.IsList l (items.set j v).toArray → Heap.SameBut l h h' → Q () h') : Wp (model prog w) A (setItem (.ref l) (.int j t) v) Q h := fun s hs => by
  subst hs
  rw [sizeLine_eq] at hz
  refine wpAny_setItem_list hl (by lia) (by lia) (by simpa using hj) (fun h' a b => ⟨⟨rfl, rfl⟩, k h' ?_ b⟩)
  simpa using a
end
end Mine
end
section
open PySem PySem.W PyProof.Rows PySem.Calls
set_option Elab.async false
set_option maxRecDepth 100000
set_option linter.unusedVariables false
set_option linter.unusedSimpArgs false
namespace Mine
/-! ## what a text's slice is -/
theorem strIdx (lo hi : Option Int) (n a b : Nat) (ha : (match lo with | none => (0 : Int) | some i => max 0 (min (if i < 0 then i + n else i) n)) = (a : Int)) (hb : (match hi with | none => (n : Int) | some i => max 0 (min (if i < 0 then i + n else i) n)) = (b : Int)) :
    PySem.Builtin.Str.strSliceIndices lo hi 1 n = (List.range (b - a)).map (a + ·) := by
  rw [← sliceRange_one, ← ha, ← hb]
  cases lo <;> cases hi <;> rfl
theorem slice_gen (x : List Nat) (lo hi : Option Int) (a b : Nat) (hb' : b ≤ x.length) (ha : (match lo with | none => (0 : Int) | some i => max 0 (min (if i < 0 then i + x.length else i) x.length)) = (a : Int)) (hb : (match hi with | none => (x.length : Int) | some i => max 0 (min (if i < 0 then i + x.length else i) x.length)) = (b : Int)) :
    Txt.slice (S x) lo hi = S ((x.drop a).take (b - a)) := by
  unfold Txt.slice
  rw [S_length, strIdx lo hi x.length a b ha hb]
  have e : ((List.range (b - a)).map (a + ·)).filterMap ((S x).cps[·]?) = (x.drop a).take (b - a) := by
    have := pick_run (S x).cps a (b - a)
    simpa using this
  rw [e]
  split
  · rename_i q
    simp at q
    rcases Nat.eq_zero_or_pos x.length with z | z
    · have : x = [] := List.length_eq_zero_iff.mp z
      subst this; simp
    · have : a = 0 := by omega
      subst this
      have : b = x.length := by omega
      subst this
      simp
  · rfl
theorem slice_eq (x : List Nat) (i j : Nat) : Txt.slice (S x) (some (i : Int)) (some (j : Int)) = S ((x.drop i).take (j - i)) := by
  rw [slice_gen x _ _ (min i x.length) (min j x.length) (by omega) (by simp only []; split <;> omega) (by simp only []; split <;> omega)]
  congr 1
  rcases Nat.le_total i x.length with q | q
  · rw [Nat.min_eq_left q]
    rcases Nat.le_total j x.length with r | r
    · rw [Nat.min_eq_left r]
    · rw [Nat.min_eq_right r, List.take_of_length_le (by simp), List.take_of_length_le (by simp; omega)]
  · have : x.drop i = [] := List.drop_of_length_le q
    rw [this, Nat.min_eq_right q]
    simp
theorem slice_butLast (x : List Nat) : Txt.slice (S x) none (some (-1)) = S x.dropLast := by
  rw [slice_gen x _ _ 0 (x.length - 1) (by omega) rfl (by simp only []; split <;> omega)]
  simp [List.dropLast_eq_take]

/-! ## cells -/
section
variable {M : Model} {A : Around} {h : Heap} {env : Env}
theorem w_nmC {x : Str} {pos : Pos} {c : Addr} {v : Value} {Q : Value → Heap → Prop} (hc : env.cells.lookup x = some c) (hv : h.IsCell c (some v)) (k : Q v h)
    (hk : env.scope.kind = .function := by rfl) (hl : env.kindOf x = some .cell := by rfl) (hd : (x == ("__debug__" : Str)) = false := by decide) :
    Wp M A (eval (.Name x pos) env) Q h := fun s hs => by subst hs; exact wpAny_Name (wpAny_loadName_cell hk hl hc hv ⟨⟨rfl, rfl⟩, k⟩) hd
theorem w_nmF {x : Str} {pos : Pos} {c : Addr} {v : Value} {Q : Value → Heap → Prop} (hc : env.cells.lookup x = some c) (hv : h.IsCell c (some v)) (k : Q v h)
    (hk : env.scope.kind = .function := by rfl) (hl : env.kindOf x = some .free := by rfl) (hd : (x == ("__debug__" : Str)) = false := by decide) (hn : (x == ("__classdict__" : Str)) = false := by decide) :
    Wp M A (eval (.Name x pos) env) Q h := fun s hs => by subst hs; exact wpAny_Name (wpAny_loadName_free hk hl hc hv ⟨⟨rfl, rfl⟩, k⟩ hn) hd
theorem w_storeC {x : Str} {v : Value} {c : Addr} {v₀ : Option Value} {Q : Unit → Heap → Prop} (hc : env.cells.lookup x = some c) (hv : h.IsCell c v₀)
    (k : ∀ h', h'.IsCell c (some v) → Heap.SameBut c h h' → Q () h') (hk : env.scope.kind = .function := by rfl) (hl : env.kindOf x = some .cell := by rfl) :
    Wp M A (storeName env x v) Q h := fun s hs => by subst hs; exact wpAny_storeName_cell hk hl hc hv (fun h' a b => ⟨⟨rfl, rfl⟩, k h' a b⟩)
end
section
variable {prog : Program} {w : World} {A : Around} {h : Heap}
/-- a plain def or closure without defaults is called -/
theorem c_callFn {fa : Addr} {o : Obj} {fd : FuncData} {body : List Stmt} {pos : List Value} {binds : List (Str × Value)} {Q : Value → Heap → Prop}
    (hroom : A.depth < recursionLimit) (ho : h.get? fa = some o) (hd : o.data = .func fd) (hlim : h.NoLimit) (hcd : h.CodeRec fd.code fd.qualname) (hbody : fd.body = .stmts body)
    (hb : bindArgs fd ⟨pos, []⟩ = pure binds) (hcell : ∀ x ∈ fd.scope.names, x.2 ≠ .cell) (hloc : ∀ x ∈ binds, fd.scope.names.lookup x.1 = some .local)
    (x : ∀ L h₁, L = h.objs.size → Fr h L h₁ (fun y => binds.reverse.lookup y) →
      Wp (model prog w) (A.deeper (callEnv fd L fa)) (execs body (callEnv fd L fa)) (fun f h' => Q (match f with | .ret v => v | _ => .none) h') h₁)
    (hco : fd.scope.isCoroutine = false) (hgen : fd.scope.isGenerator = false) (hk : fd.scope.kind = .function) :
    Wc (model prog w) A (.call (.ref fa) ⟨pos, []⟩) Q h :=
  c_callDef hroom ho hd hlim hcd hbody (fun _ _ => BindsTo.of_eq hb) hcell hloc x hco hgen hk
end
section
variable {M : Model} {A : Around} {h : Heap} {env : Env}
theorem w_stS {base : Heap} {L : Addr} {x : Str} {v : Value} {m : Str → Option Value} {Q : Unit → Heap → Prop} (F : Fr base L h m)
    (k : ∀ h', Fr base L h' (fun y => if y = x then some v else m y) → Heap.SameBut L h h' → Q () h') (hL : env.locals = L := by rfl)
    (hl : env.kindOf x = some .local := by rfl) (hp : (env.scope.kind == .class || (env.scope.kind == .module && env.locals != env.globals)) = false := by rfl) :
    Wp M A (storeName env x v) Q h := by
  subst hL
  exact w_store F.ns (fun h' a b => k h' (F.set a b) b) hl hp
theorem w_cS {x : Str} (l : List Nat) {k' : Nat} {pos : Pos} {Q : Value → Heap → Prop} (e : x = S l) (k : ∀ t, Q (.str (S l) t) h) : Wp M A (eval (.Constant (.str x) k' pos) env) Q h := by
  subst e; exact w_cStr k
end
section
variable {prog : Program} {w : World} {A : Around} {h : Heap}
theorem w_iaddInt {a b : Int} {t u : Tok} {Q : Value → Heap → Prop} (k : ∀ t, Q (.int (a + b) t) h) : Wp (model prog w) A (inplaceOp .Add (.int a t) (.int b u)) Q h := fun s hs => by subst hs; exact wpAny_iadd_int ⟨⟨rfl, rfl⟩, k _⟩
end
/-! ## hidden objects: those that a frame may change -/
theorem frHid {h h₁ : Heap} {L : Addr} {m : Str → Option Value} (F : Fr h L h₁ m) (S : List Addr) : Fr (hideAll h S) L h₁ m :=
  ⟨F.ns, fun b o e => F.keep b o (of_hideAll _ e), Nat.le_trans (Nat.le_of_eq (hideAll_size _ _)) F.above⟩
theorem frChg {base h h' : Heap} {L a : Addr} {m : Str → Option Value} (F : Fr base L h m) (sb : Heap.SameBut a h h') (ha : a ≠ L) (hn : base.get? a = none) : Fr base L h' m := ksk_fr F sb ha hn
theorem Ext.hid {H h : Heap} (e : Ext H h) {S : List Addr} (hS : ∀ a ∈ S, H.get? a = none) : Ext H (hideAll h S) :=
  fun b o q => hideAll_get _ (e b o q) fun m => by rw [hS b m] at q; cases q
/-- all but those of S are kept -/
def Kept (S : List Addr) (h h' : Heap) : Prop := ∀ b o, b ∉ S → h.get? b = some o → h'.get? b = some o
theorem Kept.refl (S : List Addr) (h : Heap) : Kept S h h := fun _ _ _ e => e
theorem Kept.trans {S : List Addr} {a b c : Heap} (x : Kept S a b) (y : Kept S b c) : Kept S a c := fun i o n e => y i o n (x i o n e)
theorem Kept.of_ext {S : List Addr} {a b : Heap} (x : Ext a b) : Kept S a b := fun i o _ e => x i o e
theorem Kept.of_same {S : List Addr} {a b : Heap} {c : Addr} (x : Heap.SameBut c a b) (hc : c ∈ S) : Kept S a b := fun i o n e => (x.2 i fun q => n (q ▸ hc)).trans e
theorem Kept.of_fr {S : List Addr} {h h' : Heap} {L : Addr} {m : Str → Option Value} (F : Fr (hideAll h S) L h' m) : Kept S h h' := fun b o n e => F.keep b o (hideAll_get _ e n)
theorem Kept.mono {S T : List Addr} {a b : Heap} (x : Kept S a b) (hs : ∀ i ∈ S, i ∈ T) : Kept T a b := fun i o n e => x i o (fun q => n (hs i q)) e
theorem Kept.ext {S : List Addr} {H a b : Heap} (x : Kept S a b) (e : Ext H a) (hS : ∀ i ∈ S, H.get? i = none) : Ext H b := fun i o q => x i o (fun m => by rw [hS i m] at q; cases q) (e i o q)
end Mine
end
section
open PySem PySem.W PyProof.Rows PySem.Calls
set_option Elab.async false
set_option maxRecDepth 100000
set_option linter.unusedVariables false
set_option linter.unusedSimpArgs false
namespace Mine
abbrev aInit : Addr := 28
abbrev aRC : Addr := 35
abbrev aGT : Addr := 42
abbrev aPT : Addr := 49
abbrev aCls : Addr := 52
abbrev aStream : Addr := 99
/-- the ground: what stood before the law's call, kept -/
structure Gd (w : World) (mg mb : Str → Option Value) (H h : Heap) : Prop where
  G : G0 w mg mb H
  E : Ext H h
theorem Gd.now {w : World} {mg mb : Str → Option Value} {H h : Heap} (g : Gd w mg mb H h) : G0 w mg mb h := g.G.ext g.E
theorem Gd.ext {w : World} {mg mb : Str → Option Value} {H h h' : Heap} (g : Gd w mg mb H h) (e : Ext h h') : Gd w mg mb H h' := ⟨g.G, g.E.trans e⟩
theorem Gd.kept {w : World} {mg mb : Str → Option Value} {H h h' : Heap} {S : List Addr} (g : Gd w mg mb H h) (x : Kept S h h') (hS : ∀ i ∈ S, H.get? i = none) : Gd w mg mb H h' := ⟨g.G, x.ext g.E hS⟩
theorem Gd.hid {w : World} {mg mb : Str → Option Value} {H h : Heap} {S : List Addr} (g : Gd w mg mb H h) (hS : ∀ i ∈ S, H.get? i = none) : Gd w mg mb H (hideAll h S) := ⟨g.G, g.E.hid hS⟩

noncomputable def rdStmt (w : World) : Stmt := ((bodyAt w aStream)[1]?).getD (.Pass ⟨0, 0, 0, 0⟩)
noncomputable def rdParams (w : World) : Arguments := match rdStmt w with
  | .FunctionDef _ a _ _ _ _ _ _ _ _ => a
  | _ => ⟨[], [], none, [], [], none, []⟩
noncomputable def rdBody (w : World) : List Stmt := match rdStmt w with
  | .FunctionDef _ _ b _ _ _ _ _ _ _ => b
  | _ => []
noncomputable def rdScope (w : World) : Scope := match rdStmt w with
  | .FunctionDef _ _ _ _ _ _ s _ _ _ => s
  | _ => default
abbrev nText : Str := Str.ofString "text"
abbrev nPlace : Str := Str.ofString "place"
abbrev nSize : Str := Str.ofString "size"
abbrev rdName : Str := Str.ofString "_law_read"
def rdQual : Str := (Str.ofString "_law_stream" ++ Str.ofString ".<locals>.") ++ rdName
noncomputable abbrev rdFd (w : World) (ct cp : Addr) (doc pm : Value) (c : Addr) (ctv : Value) : FuncData :=
  fnX rdName rdQual (rdParams w) (rdBody w) (rdScope w) [(nText, ct), (nPlace, cp)] .none .none doc pm none (.ref c) ctv
/-- a closure _law_read over the two cells -/
def ReadFn (w : World) (h : Heap) (f ct cp : Addr) : Prop := ∃ doc pm c ctv, h.get? f = some { cls := .type "function", data := .func (rdFd w ct cp doc pm c ctv) } ∧ h.CodeRec (.ref c) rdQual

section
variable {prog : Program} {w : World} {A : Around} {h H : Heap} {mg mb : Str → Option Value}
theorem rd_bindE (w : World) (ct cp : Addr) (doc pm : Value) (c : Addr) (ctv v : Value) : bindArgs (rdFd w ct cp doc pm c ctv) ⟨[v], []⟩ = pure [(nSize, v)] := by kernel_rfl
theorem rd_cell (w : World) : ∀ x ∈ (rdScope w).names, x.2 ≠ .cell := by
  have : ((rdScope w).names.all fun x => x.2 != .cell) = true := by kernel_rfl
  exact fun x hx => by simpa using List.all_eq_true.mp this x hx
theorem rd_loc (w : World) (v : Value) : ∀ x ∈ [(nSize, v)], (rdScope w).names.lookup x.1 = some .local := locs (by kernel_rfl)
theorem rd_s1 (w : World) : (rdScope w).isCoroutine = false := by kernel_rfl
theorem rd_s2 (w : World) : (rdScope w).isGenerator = false := by kernel_rfl
theorem rd_s3 (w : World) : (rdScope w).kind = .function := by kernel_rfl
set_option maxHeartbeats 1000000 in
theorem rd_call {f ct cp pl : Addr} {text : List Nat} {tt tp t1 : Tok} {p n : Nat} {Q : Value → Heap → Prop} (G : Gd w mg mb H h) (ok : OkA (n + 1) A) (R : ReadFn w h f ct cp)
    (hct : h.IsCell ct (some (.str (S text) tt))) (hcp : h.IsCell cp (some (.ref pl))) (hpl : h.IsList pl [Value.int p tp].toArray) (hH : H.get? pl = none) (hne1 : ct ≠ pl) (hne2 : cp ≠ pl) (hp : p ≤ text.length) (hz : text.length ≤ 1048576)
    (k : ∀ h' t t', h'.IsList pl [Value.int ((p + ((text.drop p).take 1).length : Nat) : Int) t'].toArray → Kept [pl] h h' → Q (.str (S ((text.drop p).take 1)) t) h') :
    Wc (model prog w) A (.call (.ref f) ⟨[.int 1 t1], []⟩) Q h := by
  obtain ⟨doc, pm, c, ctv, ho, hcr⟩ := R
  refine c_callFn (fd := rdFd w ct cp doc pm c ctv) (binds := [(nSize, .int 1 t1)]) (body := rdBody w) (by have := ok.depth; lia) ho rfl G.now.lim hcr rfl (rd_bindE w ct cp doc pm c ctv _) (rd_cell w) (rd_loc w _) (fun L h₁ hL F => ?_) (rd_s1 w) (rd_s2 w) (rd_s3 w)
  have hLpl : pl ≠ L := by obtain ⟨o, e, _⟩ := hpl; rw [hL]; exact Nat.ne_of_lt (Heap.lt_size e)
  have G1 := G.ext F.keep
  have hpl1 := IsList.ext hpl F.keep
  refine w_cons (w_asg (w_sub (w_nmF (c := ct) rfl (hct.keeps F.keep) ?_)))
  refine w_slice (w_part (w_sub (w_nmF (c := cp) rfl (hcp.keeps F.keep) (w_cInt fun _ => w_itemList hpl1 (by decide) (by decide) rfl ?_))))
  refine w_part (w_binOp (w_sub (w_nmF (c := cp) rfl (hcp.keeps F.keep) (w_cInt fun _ => w_itemList hpl1 (by decide) (by decide) rfl (w_nm F.ns rfl (w_addInt fun _ => w_part0 ?_))))))
  refine w_sliceStr (fun t h2 e2 => ?_) (by rw [sizeLine_eq]; lia)
  rw [show ((p : Int) + 1) = ((p + 1 : Nat) : Int) by lia, slice_eq, show p + 1 - p = 1 by lia]
  refine w_st (F.kept e2) (fun h3 F3 => ?_)
  refine w_cons (w_asgSub (w_binOp (w_sub (w_nmF (c := cp) rfl (hcp.keeps F3.keep) (w_cInt fun _ => w_itemList (IsList.ext hpl F3.keep) (by decide) (by decide) rfl ?_)))))
  refine w_callN (w_gB (v := .builtin "len") (G.ext F3.keep).now (by kernel_rfl) (by kernel_rfl) (by decide) ?_)
  refine w_args (w_arg (w_nm F3.ns rfl (w_arg0 (w_kw0 ⟨Kp.builtin _, ?_⟩))))
  refine w_lenStr (fun _ => w_addInt fun t4 => ?_) (by rw [sizeLine_eq]; simp; lia)
  refine w_nmF (c := cp) rfl (hcp.keeps F3.keep) (w_cInt fun _ => ?_)
  refine w_setItem (j := 0) (IsList.ext hpl F3.keep) (by simp) (by simp [sizeLine_eq]) (fun h4 l4 sb4 => ?_)
  refine w_cons (w_ret (w_nm (F3.ns.sameBut sb4 (Ne.symm hLpl)) rfl ?_))
  refine k h4 _ t4 ?_ (fun b o hb e => (sb4.2 b (by simpa using hb)).trans (F3.keep b o e))
  simpa using l4
end
end Mine
end
section
open PySem PySem.W PyProof.Rows PySem.Calls
set_option Elab.async false
set_option maxRecDepth 100000
set_option linter.unusedVariables false
set_option linter.unusedSimpArgs false
namespace Mine
theorem slot_ci_next : Slot "callable_iterator" "__next__" "callable_iterator.__next__" :=
  .of (owner := "callable_iterator") (n := "__next__") (by rw [typeLookup_type, builtinLookup_eq_fast]; kernel_rfl) (by decide +kernel) (by decide +kernel) (by decide +kernel)
    (by first | exact .inl (by decide +kernel) | exact .inr (by decide +kernel)) (by rw [isSubtype_type]; kernel_rfl)
theorem entry_ci_next : entryFor table "callable_iterator.__next__" = some Builtin.«callable_iterator.__next__» := entryFor_of_tree (by kernel_rfl)
theorem args_ci_next (a : Value) : argsOk "callable_iterator.__next__" ⟨[a], []⟩ := by unfold argsOk; kernel_rfl
theorem slot_ci_iter : Slot "callable_iterator" "__iter__" "callable_iterator.__iter__" :=
  .of (owner := "callable_iterator") (n := "__iter__") (by rw [typeLookup_type, builtinLookup_eq_fast]; kernel_rfl) (by decide +kernel) (by decide +kernel) (by decide +kernel)
    (by first | exact .inl (by decide +kernel) | exact .inr (by decide +kernel)) (by rw [isSubtype_type]; kernel_rfl)
theorem args_ci_iter (a : Value) : argsOk "callable_iterator.__iter__" ⟨[a], []⟩ := by unfold argsOk; kernel_rfl
theorem entry_ci_iter : entryFor table "callable_iterator.__iter__" = some Builtin.«dict_keyiterator.__iter__» :=
  entryFor_alias (id' := "dict_keyiterator.__iter__") (by kernel_rfl) rfl (by decide +kernel) (by kernel_rfl)
theorem entry_iter : entryFor table "iter" = some Builtin.«iter» := entryFor_of_tree (by kernel_rfl)
theorem kind_iter : builtinKind "iter" = none := by decide +kernel
theorem plain_iter : plainId "iter" = true := by decide +kernel
theorem args_iter2 (a b : Value) : argsOk "iter" ⟨[a, b], []⟩ := by unfold argsOk; kernel_rfl
theorem meth_hascall : typeLookup (.type "method") "__call__" = pure (some (.builtin "method.__call__")) := by rw [typeLookup_type, builtinLookup_eq_fast]; kernel_rfl

abbrev ciEnd : Obj := { cls := .type "callable_iterator", data := .fields #[.none, .none, .bool true] }
abbrev ciObj (q : Addr) (ts : Tok) : Obj := { cls := .type "callable_iterator", data := .fields #[.ref q, .str (S []) ts, .bool false] }
section
variable {prog : Program} {w : World} {A : Around} {h : Heap} {s : Shared} {E : Value → Shared → Prop}
theorem wpAny_callBorrowed {M : Model} {f : Value} {pos : List Value} {Q : Value → Shared → Prop}
    (hc : codeAny M A (.call f ⟨pos, []⟩) (fun r s' => match r with | .ok (.ret v) => Q v s' | .ok _ => False | .error e => E e s') s) : wpAny M A (callBorrowed f pos) Q E s := fun Γ p hΓ => by
  unfold callBorrowed
  rw [Sem.wp_call]
  refine wpCode_mono (fun r s' y => ?_) (hc _ p rfl (hΓ.enter (.call f ⟨pos, []⟩) none p (by intro x; cases x)))
  rcases r with e | (_ | _ | _ | v) <;> first | exact y | exact y.elim
theorem looks_borrows {M : Model} {q fa : Addr} {self : Value} {of : Obj} {fd : FuncData} (hq : h.get? q = some (methodObj (.ref fa) self)) (hf : h.get? fa = some of) (hd : of.data = .func fd) : Looks M h (borrowsExactly (.ref q)) true := by
  intro A Q E s k r
  unfold borrowsExactly
  refine wpAny_bind (wpAny_load (k _ _ hq) ?_)
  show wpAny M A (do match (← load fa).data with | .func _ => pure true | _ => pure false) Q E s
  refine wpAny_bind (wpAny_load (k _ _ hf) ?_)
  rw [hd]
  exact wpAny_pure r
theorem w_iter2 {q fa : Addr} {self : Value} {t : Tok} {Q : Value → Heap → Prop} (hq : h.get? q = some (methodObj (.ref fa) self))
    (k : ∀ h', Ext h h' → h'.get? h.objs.size = some (ciObj q t) → h'.objs.size = h.objs.size + 1 → Q (.ref h.objs.size) h') : Wp (model prog w) A (call (.builtin "iter") [.ref q, .str (S []) t]) Q h := fun s hs => by
  subst hs
  refine Calls.call_function_entry kind_iter plain_iter entry_iter (args_iter2 _ _) ?_
  unfold Builtin.«iter»
  refine wpAny_bind (m := someArgs "iter" 1 2 _) (wpAny_pure ?_)
  refine wpAny_bind (wpAny_specialOf (T := "method") ⟨_, hq, rfl⟩ meth_hascall ?_)
  refine wpAny_bind (wpAny_rule (wpAny_bind (wpAny_newObj_type (wpAny_pure ⟨_, rfl, ⟨rfl, rfl⟩, k _ (Ext.push _ _) (Heap.get?_push_size _ rfl) (by simp)⟩))))
theorem w_iterCi {ci q : Addr} {t : Tok} {Q : Value → Heap → Prop} (hc : h.get? ci = some (ciObj q t)) (k : Q (.ref ci) h) : Wp (model prog w) A (pyIter (.ref ci)) Q h := fun s hs => by
  subst hs
  refine wpAny_pyIter_slot ⟨_, hc, rfl⟩ slot_ci_iter (wpAny_call_entry slot_ci_iter ⟨_, hc, rfl⟩ entry_ci_iter ?_ (args_ci_iter _))
  show wpAny _ _ (ret (.ref ci)) _ _ s
  exact wpAny_pure ⟨_, rfl, "callable_iterator", _, ⟨_, hc, rfl⟩, slot_ci_next.lookup, ⟨rfl, rfl⟩, k⟩
theorem w_nextCi {ci q fa : Addr} {self : Value} {ts : Tok} {of : Obj} {fd : FuncData} {Q : Option Value → Heap → Prop} (hc : h.get? ci = some (ciObj q ts)) (hq : h.get? q = some (methodObj (.ref fa) self)) (hf : h.get? fa = some of) (hd : of.data = .func fd) (hh : A.handled = none)
    (x : Wc (model prog w) A.in1 (.call (.ref fa) ⟨[self], []⟩) (fun v h' => ∃ l t, v = .str (S l) t ∧ h'.get? ci = some (ciObj q ts) ∧ h'.get? q = some (methodObj (.ref fa) self) ∧ h'.get? fa = some of ∧
      (l ≠ [] → Q (some v) h') ∧ (l = [] → ∀ h'', Heap.ExtBut ci h' h'' → h''.get? ci = some ciEnd → Q none h'')) h) : Wp (model prog w) A (pyNext (.ref ci)) Q h := fun s hs => by
  subst hs
  unfold pyNext
  refine wpAny_bind (wpAny_attempt (wpAny_callSpecial?_slot (name := Str.ofString "__next__") (T := "callable_iterator") ⟨_, hc, rfl⟩ slot_ci_next
    (wpAny_call_entry slot_ci_next ⟨_, hc, rfl⟩ entry_ci_next ?_ (args_ci_next _))))
  unfold Builtin.«callable_iterator.__next__»
  refine wpAny_bind (m := slotArgs "__next__" 0 _) (wpAny_pure ?_)
  refine wpAny_bind (wpAny_field hc rfl (x := .bool false) rfl ?_)
  rw [if_neg (by decide)]
  refine wpAny_bind (wpAny_field hc rfl (x := .ref q) rfl ?_)
  refine wpAny_bind (wpAny_attempt ?_)
  unfold callOutOfASlot
  refine wpAny_bind ((looks_borrows hq hf hd).here ?_)
  rw [if_pos rfl]
  refine wpAny_callBorrowed (method_call hq ?_)
  refine codeAny_mono (x s rfl) fun r s' y => ?_
  rcases r with e | (_ | _ | _ | v) <;> first | exact y.elim | skip
  obtain ⟨⟨o1, g1⟩, l, t, rfl, hc', hq', hf', k1, k2⟩ := y
  dsimp only
  refine wpAny_bind (wpAny_field hc' rfl (x := .bool false) rfl ?_)
  rw [if_neg (by decide)]
  refine wpAny_bind (wpAny_field hc' rfl (x := .str (S []) ts) rfl ?_)
  refine wpAny_bind (wpAny_holding (wpAny_eqBool_str ?_))
  by_cases hl : l = []
  · subst hl
    rw [decide_eq_true rfl, if_neg (by decide)]
    refine wpAny_bind (wpAny_rule (wpAny_bind ?_))
    refine wpAny_bind (wpAny_field hc' rfl (x := .ref q) rfl ?_)
    refine wpAny_bind (m := slotLetsGo _ (.ref q) _) ?_
    unfold slotLetsGo
    refine wpAny_bind ((looks_borrows hq' hf' hd).here ?_)
    rw [if_pos rfl]
    refine wpAny_pure ?_
    refine wpAny_bind (wpAny_setField_rec hc' (by simp) fun h1 e1 sb1 => ?_)
    refine wpAny_bind (wpAny_setField_rec (s := { s' with heap := h1 }) e1 (by simp) fun h2 e2 sb2 => ?_)
    refine wpAny_setField_rec (s := { s' with heap := h2 }) e2 (by simp) fun h3 e3 sb3 => ?_
    show wpAny _ _ (newExc (.type "StopIteration") [] >>= _) _ _ _
    refine wpAny_bind ?_
    simp only [newExc, newTuple]
    refine wpAny_bind (wpAny_newObj_type ?_ (by size_fits))
    refine wpAny_bind (m := firstArgMember _ _) (wpAny_of_eq (a := Value.none) (by first | rfl | (simp only [firstArgMember]; rfl)) ?_)
    refine wpAny_newObj_type ?_ (by size_fits)
    simp only [raiseNew]
    refine wpAny_bind (wpAny_handled ?_)
    rw [show A.in1.handled = none from hh]
    refine wpAny_bind (wpAny_pure (wpAny_throw ?_))
    refine wpAny_bind (wpAny_isInstance (T := "StopIteration") (b := true) ⟨_, Heap.get?_push_size _ rfl, rfl⟩ isSubtype_stop ?_)
    exact wpAny_pure ⟨⟨o1, g1⟩, k2 rfl _ ((((sb1.trans sb2).trans sb3).extBut.push _).push _) (Heap.get?_push_of_some _ (Heap.get?_push_of_some _ (by simpa using e3)))⟩
  · have : decide (S [] = S l) = false := decide_eq_false fun e => hl (S_inj e).symm
    rw [this, if_pos (by decide)]
    exact wpAny_pure ⟨_, rfl, wpAny_pure ⟨⟨o1, g1⟩, k1 hl⟩⟩
theorem w_nextEnd {ci : Addr} {Q : Option Value → Heap → Prop} (hc : h.get? ci = some ciEnd) (hh : A.handled = none) (k : ∀ h', Ext h h' → Q none h') : Wp (model prog w) A (pyNext (.ref ci)) Q h := fun s hs => by
  subst hs
  unfold pyNext
  refine wpAny_bind (wpAny_attempt (wpAny_callSpecial?_slot (name := Str.ofString "__next__") (T := "callable_iterator") ⟨_, hc, rfl⟩ slot_ci_next
    (wpAny_call_entry slot_ci_next ⟨_, hc, rfl⟩ entry_ci_next ?_ (args_ci_next _))))
  unfold Builtin.«callable_iterator.__next__»
  refine wpAny_bind (m := slotArgs "__next__" 0 _) (wpAny_pure ?_)
  refine wpAny_bind (wpAny_field hc rfl (x := .bool true) rfl ?_)
  rw [if_pos (by decide)]
  refine wpAny_bind (wpAny_rule (wpAny_bind ?_))
  show wpAny _ _ (newExc (.type "StopIteration") [] >>= _) _ _ _
  refine wpAny_bind ?_
  simp only [newExc, newTuple]
  refine wpAny_bind (wpAny_newObj_type ?_ (by size_fits))
  refine wpAny_bind (m := firstArgMember _ _) (wpAny_of_eq (a := Value.none) (by first | rfl | (simp only [firstArgMember]; rfl)) ?_)
  refine wpAny_newObj_type ?_ (by size_fits)
  simp only [raiseNew]
  refine wpAny_bind (wpAny_handled ?_)
  rw [show A.in1.handled = none from hh]
  refine wpAny_bind (wpAny_pure (wpAny_throw ?_))
  refine wpAny_bind (wpAny_isInstance (T := "StopIteration") (b := true) ⟨_, Heap.get?_push_size _ rfl, rfl⟩ isSubtype_stop ?_)
  exact wpAny_pure ⟨⟨rfl, rfl⟩, k _ (fun b o e => Heap.get?_push_of_some _ (Heap.get?_push_of_some _ e))⟩

/-! ## for -/
variable {env : Env}
def Wf (M : Model) (A : Around) (target : Expr) (it : Value) (body orelse : List Stmt) (env : Env) (Q : Flow → Heap → Prop) (h : Heap) : Prop :=
  ∀ s : Shared, s.heap = h → codeAny M A (.forLoop target it body orelse env) (fun r s' => match r with | .ok f => (s'.os = s.os ∧ s'.gens = s.gens) ∧ Q f s'.heap | .error _ => False) s
theorem w_for {target iter : Expr} {body orelse : List Stmt} {pos : Pos} {Q : Flow → Heap → Prop}
    (x : Wp (model prog w) A (eval iter env) (fun v h₁ => Wp (model prog w) A (pyIter v) (fun it h₂ => Wf (model prog w) A target it body orelse env Q h₂) h₁) h)
    (hf : ∀ v, foldedSetIterable iter env v = pure v := by intro _; rfl) : Wp (model prog w) A (exec (.For target iter body orelse pos) env) Q h := by
  have e : exec (.For target iter body orelse pos) env = (do
    standAt pos
    let x ← foldedSetIterable iter env (← eval iter env)
    standAt iter.pos
    runOwn (.forLoop target (← holding [x] (pyIter x)) body orelse env) env) := rfl
  rw [e]
  refine w_bind (w_standAt (w_bind (x.mono fun v h₁ y => ?_)))
  rw [hf]
  refine w_bind (w_pure (w_bind (w_standAt (w_bind (w_holding (y.mono fun it h₂ z => ?_))))))
  intro s hs
  refine wpAny_runOwn (codeAny_mono (z s hs) fun r s' q => ?_)
  cases r with
  | ok f => exact q
  | error e => exact q.elim
theorem w_forLoop {target : Expr} {it : Value} {body orelse : List Stmt} {Q : Flow → Heap → Prop} (I : Nat → Heap → Prop) (n : Nat) (h0 : I n h)
    (turn : ∀ n h, I n h → Wp (model prog w) A (pyNext it) (fun r h₁ => match r with
      | none => Wp (model prog w) A (execs orelse env) Q h₁
      | some v => Wp (model prog w) A (letOwnedTupleGo target it v) (fun _ h₁' => Wp (model prog w) A (assign target env v) (fun _ h₂ => Wp (model prog w) A (execs body env) (fun f h₃ => match f with
          | .next | .cont => ∃ m, m < n ∧ I m h₃
          | .brk => Q .next h₃
          | .ret v => Q (.ret v) h₃) h₂) h₁') h₁) h) : Wf (model prog w) A target it body orelse env Q h := by
  intro s hs
  subst hs
  refine codeAny_forLoop_any (fun k s' => (s'.os = s.os ∧ s'.gens = s.gens) ∧ I k s'.heap) (fun n s' hI => ?_) n ⟨⟨rfl, rfl⟩, h0⟩
  refine Wp.run (turn n s'.heap hI.2) (fun r s₁ o₁ g₁ y => ?_)
  cases r with
  | none => exact Wp.run y (fun f s₂ o₂ g₂ z => ⟨⟨o₂.trans (o₁.trans hI.1.1), g₂.trans (g₁.trans hI.1.2)⟩, z⟩)
  | some v =>
    refine Wp.run y (fun _ s₁' o₁' g₁' y' => ?_)
    refine Wp.run y' (fun _ s₂ o₂ g₂ z => ?_)
    refine Wp.run z (fun f s₃ o₃ g₃ q => ?_)
    have oo : s₃.os = s.os := o₃.trans (o₂.trans (o₁'.trans (o₁.trans hI.1.1)))
    have gg : s₃.gens = s.gens := g₃.trans (g₂.trans (g₁'.trans (g₁.trans hI.1.2)))
    cases f with
    | next => obtain ⟨m, hm, hi⟩ := q; exact ⟨m, hm, ⟨oo, gg⟩, hi⟩
    | cont => obtain ⟨m, hm, hi⟩ := q; exact ⟨m, hm, ⟨oo, gg⟩, hi⟩
    | brk => exact ⟨⟨oo, gg⟩, q⟩
    | ret v => exact ⟨⟨oo, gg⟩, q⟩
theorem w_asgName {M : Model} {x : Str} {pos : Pos} {v : Value} {Q : Unit → Heap → Prop} (k : Wp M A (storeName env x v) Q h) : Wp M A (assign (.Name x pos) env v) Q h := by
  rw [arm_assign_Name]; exact w_bind (w_standAt (w_bindName k))
theorem w_continue {M : Model} {pos : Pos} {Q : Flow → Heap → Prop} (k : Q .cont h) : Wp M A (exec (.Continue pos) env) Q h := fun s hs => by subst hs; exact wpAny_Continue ⟨⟨rfl, rfl⟩, k⟩
end
theorem frKept {base h h' : Heap} {L : Addr} {m : Str → Option Value} {S : List Addr} (F : Fr base L h m) (k : Kept S h h') (hS : ∀ a ∈ S, base.get? a = none) (hL : L ∉ S) : Fr base L h' m := by
  obtain ⟨o, es, ep, ho, r⟩ := F.ns
  exact ⟨⟨o, es, ep, k _ _ hL ho, r⟩, fun b o e => k b o (fun q => by rw [hS b q] at e; cases e) (F.keep b o e), F.above⟩
end Mine
end
section
open PySem PySem.W PyProof.Rows PySem.Calls
set_option Elab.async false
set_option maxRecDepth 100000
set_option linter.unusedVariables false
set_option linter.unusedSimpArgs false
namespace Mine
abbrev nLine : Str := Str.ofString "lineno"
abbrev nIns : Str := Str.ofString "instream"
abbrev nWh : Str := Str.ofString "whitespace"
abbrev nPb : Str := Str.ofString "pushback"
abbrev nRead : Str := Str.ofString "read"
abbrev nRC : Str := Str.ofString "_read_char"
abbrev nGT : Str := Str.ofString "get_token"
abbrev nPT : Str := Str.ofString "push_token"
abbrev nSelf : Str := Str.ofString "self"
section
variable (w : World)
theorem pgC (n : Str) : plainGet (KH w) aCls n = true := by kernel_rfl
theorem hdC : hasDictIn (KH w) aCls = true := by kernel_rfl
theorem fiLine : findIn (KH w) (.ref aCls) nLine = some none := by kernel_rfl
theorem fiIns : findIn (KH w) (.ref aCls) nIns = some none := by kernel_rfl
theorem fiWh : findIn (KH w) (.ref aCls) nWh = some none := by kernel_rfl
theorem fiPb : findIn (KH w) (.ref aCls) nPb = some none := by kernel_rfl
theorem fiRead : findIn (KH w) (.ref aCls) nRead = some none := by kernel_rfl
theorem fiRC : findIn (KH w) (.ref aCls) nRC = some (some (.ref aRC)) := by kernel_rfl
theorem fiGT : findIn (KH w) (.ref aCls) nGT = some (some (.ref aGT)) := by kernel_rfl
theorem fiPT : findIn (KH w) (.ref aCls) nPT = some (some (.ref aPT)) := by kernel_rfl
theorem fnRC : isFn (KH w) (.ref aRC) = true := by kernel_rfl
theorem fnGT : isFn (KH w) (.ref aGT) = true := by kernel_rfl
theorem fnPT : isFn (KH w) (.ref aPT) = true := by kernel_rfl
theorem saC : findIn (KH w) (.ref aCls) "__setattr__" = some (some (.builtin "object.__setattr__")) := by kernel_rfl
theorem poC : plainOver (KH w) aCls = true := by kernel_rfl
theorem tkLine : takerIn (KH w) aCls nLine = some none := by kernel_rfl
theorem tkIns : takerIn (KH w) aCls nIns = some none := by kernel_rfl
theorem tkWh : takerIn (KH w) aCls nWh = some none := by kernel_rfl
theorem tkPb : takerIn (KH w) aCls nPb = some none := by kernel_rfl
theorem tkRead : takerIn (KH w) aCls nRead = some none := by kernel_rfl
theorem gfRC : specialIn (KH w) (.ref aRC) "__get__" = some (some (.builtin "function.__get__")) := by kernel_rfl
theorem toRC : takesIn (KH w) (.ref aRC) = some false := by kernel_rfl
end
/-- the addresses of a lexer and its stream -/
structure LexA where
  (x d pb st sd f c ct cp pl : Addr)
def LexA.all (a : LexA) : List Addr := [a.x, a.d, a.pb, a.st, a.sd, a.f, a.c, a.ct, a.cp, a.pl]
def LexA.mut (a : LexA) : List Addr := [a.d, a.pb, a.pl]
/-- what a lexer's calls do not change -/
structure LexC (w : World) (H h : Heap) (a : LexA) (text : List Nat) : Prop where
  ix : Ins h aCls a.x a.d
  ist : Ins h aCls a.st a.sd
  sd : ∃ kvs, Dc h a.sd kvs ∧ kvGet nRead kvs = some (.ref a.f)
  fn : ∃ doc pm ctv, h.get? a.f = some { cls := .type "function", data := .func (rdFd w a.ct a.cp doc pm a.c ctv) }
  cd : h.CodeRec (.ref a.c) rdQual
  ct : ∃ t, h.IsCell a.ct (some (.str (S text) t))
  cp : h.IsCell a.cp (some (.ref a.pl))
  nd : a.all.Nodup
  fr : ∀ i ∈ a.all, H.get? i = none
  len : text.length ≤ 1048576
theorem nd_at {l : List Addr} (h : l.Nodup) {i j : Nat} {x y : Addr} (hi : l[i]? = some x) (hj : l[j]? = some y) (hij : i ≠ j) : x ≠ y := fun q => by
  subst q
  exact hij ((List.getElem?_inj (List.getElem?_eq_some_iff.mp hi).1 h).mp (hi.trans hj.symm))
theorem LexA.m_x (a : LexA) : a.x ∈ a.all := List.mem_of_getElem? (i := 0) rfl
theorem LexA.m_d (a : LexA) : a.d ∈ a.all := List.mem_of_getElem? (i := 1) rfl
theorem LexA.m_pb (a : LexA) : a.pb ∈ a.all := List.mem_of_getElem? (i := 2) rfl
theorem LexA.m_st (a : LexA) : a.st ∈ a.all := List.mem_of_getElem? (i := 3) rfl
theorem LexA.m_sd (a : LexA) : a.sd ∈ a.all := List.mem_of_getElem? (i := 4) rfl
theorem LexA.m_f (a : LexA) : a.f ∈ a.all := List.mem_of_getElem? (i := 5) rfl
theorem LexA.m_c (a : LexA) : a.c ∈ a.all := List.mem_of_getElem? (i := 6) rfl
theorem LexA.m_ct (a : LexA) : a.ct ∈ a.all := List.mem_of_getElem? (i := 7) rfl
theorem LexA.m_cp (a : LexA) : a.cp ∈ a.all := List.mem_of_getElem? (i := 8) rfl
theorem LexA.m_pl (a : LexA) : a.pl ∈ a.all := List.mem_of_getElem? (i := 9) rfl
theorem LexA.s_nil (a : LexA) : ∀ b ∈ ([] : List Addr), b ∈ a.mut := sb0
theorem LexA.s_pb (a : LexA) : ∀ b ∈ [a.pb], b ∈ a.mut := sb1 im2
theorem LexA.s_pl (a : LexA) : ∀ b ∈ [a.pl], b ∈ a.mut := sb1 im3
theorem LexA.s_dl (a : LexA) : ∀ b ∈ [a.d, a.pl], b ∈ a.mut := sb2 im1 im3
theorem nd_ne {a : LexA} (h : a.all.Nodup) : a.x ∉ a.mut ∧ a.st ∉ a.mut ∧ a.sd ∉ a.mut ∧ a.f ∉ a.mut ∧ a.c ∉ a.mut ∧ a.ct ∉ a.mut ∧ a.cp ∉ a.mut := by
  have k : ∀ (i : Nat) (y : Addr), a.all[i]? = some y → i ≠ 1 → i ≠ 2 → i ≠ 9 → y ∉ a.mut := fun i y e h1 h2 h3 => nmc (nd_at h (j := 1) e rfl h1) (nmc (nd_at h (j := 2) e rfl h2) (nmc (nd_at h (j := 9) e rfl h3) nm0))
  exact ⟨k 0 _ rfl (by decide) (by decide) (by decide), k 3 _ rfl (by decide) (by decide) (by decide), k 4 _ rfl (by decide) (by decide) (by decide), k 5 _ rfl (by decide) (by decide) (by decide), k 6 _ rfl (by decide) (by decide) (by decide), k 7 _ rfl (by decide) (by decide) (by decide), k 8 _ rfl (by decide) (by decide) (by decide)⟩
theorem CodeRec.kept {S : List Addr} {h h' : Heap} {c : Addr} {q : Str} (x : h.CodeRec (.ref c) q) (k : Kept S h h') (hc : c ∉ S) : h'.CodeRec (.ref c) q := by
  obtain ⟨c', o, vs, t, e, ho, r⟩ := x
  injection e with e
  subst e
  exact ⟨_, o, vs, t, rfl, k _ _ hc ho, r⟩
theorem LexC.kept {w : World} {H h h' : Heap} {a : LexA} {text : List Nat} (C : LexC w H h a text) (k : Kept a.mut h h') : LexC w H h' a text := by
  obtain ⟨n1, n2, n3, n4, n5, n6, n7⟩ := nd_ne C.nd
  refine ⟨k _ _ n1 C.ix, k _ _ n2 C.ist, ?_, ?_, CodeRec.kept C.cd k n5, ?_, ?_, C.nd, C.fr, C.len⟩
  · obtain ⟨kvs, ⟨es, n, e, r⟩, g⟩ := C.sd
    exact ⟨kvs, ⟨es, n, k _ _ n3 e, r⟩, g⟩
  · obtain ⟨doc, pm, ctv, e⟩ := C.fn
    exact ⟨doc, pm, ctv, k _ _ n4 e⟩
  · obtain ⟨t, o, ho, hd⟩ := C.ct
    exact ⟨t, o, k _ _ n6 ho, hd⟩
  · obtain ⟨o, ho, hd⟩ := C.cp
    exact ⟨o, k _ _ n7 ho, hd⟩
theorem LexC.ext {w : World} {H h h' : Heap} {a : LexA} {text : List Nat} (C : LexC w H h a text) (k : Ext h h') : LexC w H h' a text := C.kept (Kept.of_ext k)
abbrev white : List Nat := [10, 9, 13, 32]
/-- where a lexer stands: so many signs read, those words pushed back -/
structure LexM (h : Heap) (a : LexA) (text : List Nat) (p : Nat) (toks : List Value) : Prop where
  d : ∃ t1 t2, Dc h a.d [(nLine, .int (1 + (text.take p).count 10 : Nat) t1), (nIns, .ref a.st), (nWh, .str (S white) t2), (nPb, .ref a.pb)]
  pb : Ls h a.pb toks
  pl : ∃ t, h.IsList a.pl [Value.int p t].toArray
  le : p ≤ text.length
theorem LexM.ext {h h' : Heap} {a : LexA} {text : List Nat} {p : Nat} {toks : List Value} (m : LexM h a text p toks) (k : Ext h h') : LexM h' a text p toks := by
  obtain ⟨⟨t1, t2, d⟩, pb, ⟨t, pl⟩, le⟩ := m
  exact ⟨⟨t1, t2, d.ext k⟩, pb.ext k, ⟨t, IsList.ext pl k⟩, le⟩
theorem IsList.kept {S : List Addr} {h h' : Heap} {l : Addr} {items : Array Value} (hl : h.IsList l items) (k : Kept S h h') (hn : l ∉ S) : h'.IsList l items := let ⟨o, ho, r⟩ := hl; ⟨o, k _ _ hn ho, r⟩
theorem IsList.same {h h' : Heap} {l b : Addr} {items : Array Value} (hl : h.IsList l items) (sb : Heap.SameBut b h h') (hn : l ≠ b) : h'.IsList l items := let ⟨o, ho, r⟩ := hl; ⟨o, (sb.2 l hn).trans ho, r⟩
theorem Ls.kept {S : List Addr} {h h' : Heap} {l : Addr} {vs : List Value} (hl : Ls h l vs) (k : Kept S h h') (hn : l ∉ S) : Ls h' l vs := let ⟨n, e⟩ := hl; ⟨n, k _ _ hn e⟩
theorem Dc.kept {S : List Addr} {h h' : Heap} {d : Addr} {kvs : List (Str × Value)} (x : Dc h d kvs) (k : Kept S h h') (hn : d ∉ S) : Dc h' d kvs := let ⟨es, n, e, r⟩ := x; ⟨es, n, k _ _ hn e, r⟩
theorem count_next (text : List Nat) (p : Nat) : (text.take (p + ((text.drop p).take 1).length)).count 10 = (text.take p).count 10 + ((text.drop p).take 1).count 10 := by
  rw [List.take_add, List.count_append]
  congr 2
  cases text.drop p <;> simp

section
variable {prog : Program} {w : World} {A : Around} {h H : Heap} {mg mb : Str → Option Value}
set_option maxHeartbeats 2000000 in
theorem rc_call {a : LexA} {text : List Nat} {p n : Nat} {toks : List Value} {Q : Value → Heap → Prop} (G : Gd w mg mb H h) (ok : OkA (n + 2) A) (C : LexC w H h a text) (X : LexM h a text p toks)
    (k : ∀ h' t, LexM h' a text (p + ((text.drop p).take 1).length) toks → Kept [a.d, a.pl] h h' → Q (.str (S ((text.drop p).take 1)) t) h') :
    Wc (model prog w) A (.call (.ref aRC) ⟨[.ref a.x], []⟩) Q h := by
  obtain ⟨⟨t1, t2, hd⟩, hpb, ⟨tp, hpl⟩, le⟩ := X
  refine c_callK (binds := [(nSelf, .ref a.x)]) G.now ok (by kernel_rfl) (by kernel_rfl) (by kernel_rfl) (by kernel_rfl) (fun _ => by kernel_rfl) (by kernel_rfl) (by kernel_rfl) (fun L h₁ F ok' => ?_)
  have hS : ∀ i ∈ [a.d, a.pl], (hideAll h [a.d, a.pl]).get? i = none := fun i hi => hideAll_none _ hi
  have hSH : ∀ i ∈ [a.d, a.pl], H.get? i = none := by
    intro i hi
    simp only [List.mem_cons, List.not_mem_nil, or_false] at hi
    rcases hi with rfl | rfl
    · exact C.fr _ (by first | exact LexA.m_x _ | exact LexA.m_d _ | exact LexA.m_pb _ | exact LexA.m_st _ | exact LexA.m_sd _ | exact LexA.m_f _ | exact LexA.m_c _ | exact LexA.m_ct _ | exact LexA.m_cp _ | exact LexA.m_pl _)
    · exact C.fr _ (by first | exact LexA.m_x _ | exact LexA.m_d _ | exact LexA.m_pb _ | exact LexA.m_st _ | exact LexA.m_sd _ | exact LexA.m_f _ | exact LexA.m_c _ | exact LexA.m_ct _ | exact LexA.m_cp _ | exact LexA.m_pl _)
  have F0 := frHid F [a.d, a.pl]
  have hLS : L ∉ [a.d, a.pl] := by
    intro q
    simp only [List.mem_cons, List.not_mem_nil, or_false] at q
    rcases q with q | q
    · exact Nat.not_lt.mpr F.above (q ▸ hd.lt)
    · obtain ⟨o, e, _⟩ := hpl; exact Nat.not_lt.mpr F.above (q ▸ Heap.lt_size e)
  have G1 := G.ext F.keep
  have C1 := C.ext F.keep
  have hd1 := hd.ext F.keep
  obtain ⟨kvs, hsd, hrd⟩ := C1.sd
  obtain ⟨doc, pm, ctv, hfn⟩ := C1.fn
  obtain ⟨tt, hct⟩ := C1.ct
  refine w_cons (w_asg (w_mcall (w_attr (w_nm F.ns rfl (w_getOwn G1.now.K C1.ix hd1 (pgC w _) (hdC w) (fiIns w) rfl rfl ?_)))))
  refine w_methOwn G1.now.K C1.ist hsd (pgC w _) (hdC w) (fiRead w) hrd ?_
  refine w_args (w_arg (w_cInt fun _ => w_arg0 (w_kw0 ⟨Kp.func hfn rfl, ?_⟩)))
  refine w_call (rd_call G1 (n := n) (ok'.mono (by omega)) ⟨doc, pm, a.c, ctv, hfn, C1.cd⟩ hct C1.cp (IsList.ext hpl F.keep) (hSH _ (by first | (with_reducible (first | exact im1 | exact im2 | exact im3 | exact sb0 | exact sb1 im1 | exact sb1 im2 | exact sb1 im3)) | exact nmc (adne (by decide)) nm0 | exact nmc (adne (by decide)) (nmc (adnn (by decide)) nm0) | simp)) ?_ ?_ le C.len (fun h2 t t' l2 k2 => ?_))
  · exact (nd_at C.nd (i := 7) (j := 9) rfl rfl (by decide))
  · exact (nd_at C.nd (i := 8) (j := 9) rfl rfl (by decide))
  have k2' : Kept [a.d, a.pl] h₁ h2 := k2.mono (by first | (with_reducible (first | exact im1 | exact im2 | exact im3 | exact sb0 | exact sb1 im1 | exact sb1 im2 | exact sb1 im3)) | exact nmc (adne (by decide)) nm0 | exact nmc (adne (by decide)) (nmc (adnn (by decide)) nm0) | simp)
  have F2 := frKept F0 k2' hS hLS
  have hd2 : Dc h2 a.d _ := hd1.kept k2 (by simp; exact (nd_at C.nd (i := 1) (j := 9) rfl rfl (by decide)))
  have C2 := C1.kept (k2.mono (by first | exact LexA.s_nil _ | exact LexA.s_pb _ | exact LexA.s_dl _ | exact LexA.s_pl _ | simp [LexA.mut]))
  have G2 := G1.kept k2' hSH
  have hLd : a.d ≠ L := fun q => hLS (by simp [q])
  have hLp : a.pl ≠ L := fun q => hLS (by simp [q])
  refine w_stS F2 (fun h3 F3 sb3 => ?_)
  have hd3 := hd2.same sb3 hLd
  have l3 := IsList.same l2 sb3 hLp
  have G3 : Gd w mg mb H h3 := ⟨G.G, (G.hid hSH).E.trans F3.keep⟩
  have ix3 : Ins h3 aCls a.x a.d := F3.keep _ _ (hideAll_get _ C.ix (by simp; exact ⟨(nd_at C.nd (i := 0) (j := 1) rfl rfl (by decide)), (nd_at C.nd (i := 0) (j := 9) rfl rfl (by decide))⟩))
  have fin : ∀ h4 m4, Fr (hideAll h [a.d, a.pl]) L h4 m4 → m4 (Str.ofString "ch") = some (.str (S ((text.drop p).take 1)) t) → (∃ t1, Dc h4 a.d [(nLine, .int (1 + (text.take (p + ((text.drop p).take 1).length)).count 10 : Nat) t1), (nIns, .ref a.st), (nWh, .str (S white) t2), (nPb, .ref a.pb)]) →
      h4.IsList a.pl [Value.int ((p + ((text.drop p).take 1).length : Nat) : Int) t'].toArray →
      Wp (model prog w) (A.deeper (envAt w aRC L)) (execs ((bodyAt w aRC).drop 2) (envAt w aRC L)) (fun f h' => Q (match f with | .ret v => v | _ => .none) h') h4 := by
    intro h4 m4 F4 e4 ⟨t4, d4⟩ l4
    refine w_cons (w_ret (w_nm F4.ns e4 ?_))
    refine k h4 t ⟨⟨t4, t2, d4⟩, ?_, ⟨t', l4⟩, ?_⟩ (Kept.of_fr F4)
    · obtain ⟨nn, e⟩ := hpb
      exact ⟨nn, F4.keep _ _ (hideAll_get _ e (by simp; exact ⟨fun q => (nd_at C.nd (i := 1) (j := 2) rfl rfl (by decide)) q.symm, (nd_at C.nd (i := 2) (j := 9) rfl rfl (by decide))⟩))⟩
    · simp; omega
  refine w_cons (w_if_ (w_tCmp (w_nm F3.ns rfl (w_cS [10] (by kernel_rfl) fun _ => w_eqStr (w_tBool ⟨fun e => ?_, fun e => w_nil ?_⟩)))))
  · have e : (text.drop p).take 1 = [10] := by simpa using e
    refine w_cons (w_augAttr (w_nm F3.ns rfl (w_getOwn G3.now.K ix3 hd3 (pgC w _) (hdC w) (fiLine w) rfl rfl (w_cInt fun _ => w_iaddInt fun t4 => ?_))))
    refine w_setAttr G3.now.K ix3 hd3 (saC w) (poC w) (tkLine w) (hdC w) (by first | (with_reducible (first | exact im1 | exact im2 | exact im3 | exact sb0 | exact sb1 im1 | exact sb1 im2 | exact sb1 im3)) | exact nmc (adne (by decide)) nm0 | exact nmc (adne (by decide)) (nmc (adnn (by decide)) nm0) | simp) (fun h4 d4 sb4 => w_nil ?_)
    refine fin h4 _ (frChg F3 sb4 hLd (hS _ (by first | (with_reducible (first | exact im1 | exact im2 | exact im3 | exact sb0 | exact sb1 im1 | exact sb1 im2 | exact sb1 im3)) | exact nmc (adne (by decide)) nm0 | exact nmc (adne (by decide)) (nmc (adnn (by decide)) nm0) | simp))) rfl ⟨t4, ?_⟩ (IsList.same l3 sb4 (fun q => (nd_at C.nd (i := 1) (j := 9) rfl rfl (by decide)) q.symm))
    have e2 : ((1 + (text.take p).count 10 : Nat) : Int) + 1 = ((1 + (text.take (p + ((text.drop p).take 1).length)).count 10 : Nat) : Int) := by
      rw [count_next, e]; simp; omega
    rw [e2] at d4
    exact d4
  · have e : (text.drop p).take 1 ≠ [10] := by simpa using e
    refine fin h3 _ F3 rfl ⟨t1, ?_⟩ l3
    have e2 : (text.take (p + ((text.drop p).take 1).length)).count 10 = (text.take p).count 10 := by
      rw [count_next]
      have : ((text.drop p).take 1).count 10 = 0 := by
        cases hq : text.drop p with
        | nil => rfl
        | cons c r => rw [hq] at e; exact List.count_eq_zero.2 (fun q => e (by simp at q ⊢; exact q.symm))
      omega
    rw [e2]
    exact hd3
end
end Mine
end
section
open PySem PySem.W PyProof.Rows PySem.Calls
set_option Elab.async false
set_option maxRecDepth 100000
set_option linter.unusedVariables false
set_option linter.unusedSimpArgs false
namespace Mine
section
variable {M : Model} {A : Around} {h : Heap} {env : Env}
theorem w_ld {x : Str} {v : Value} {m : Str → Option Value} {Q : Value → Heap → Prop} (hn : h.Ns env.locals m) (hv : m x = some v) (k : Q v h)
    (hk : env.scope.kind = .function := by rfl) (hl : env.kindOf x = some .local := by rfl) :
    Wp M A (loadName env x) Q h := fun s hs => by subst hs; exact wpAny_loadName_local hk hl hn hv ⟨⟨rfl, rfl⟩, k⟩
end
section
variable {prog : Program} {w : World} {A : Around} {h : Heap} {env : Env}
theorem w_tList {l : Addr} {items : Array Value} {Q : Bool → Heap → Prop} (hl : h.IsList l items) (hfit : (items.size : Int) < 2 ^ 63) (k : Q (!items.isEmpty) h) : Wp (model prog w) A (truthy (.ref l)) Q h := fun s hs => by
  subst hs; exact wpAny_truthy_list hl hfit ⟨⟨rfl, rfl⟩, k⟩
end
/-! ## pure: what a lexer reads -/
def lexG (stop : Nat → Bool) (tok : List Nat) : List Nat → List Nat × List Nat
  | [] => (tok, [])
  | c :: r => if stop c then (tok, r) else if c = 92 then (match r with | [] => (tok, []) | d :: r' => lexG stop (tok ++ [d]) r') else lexG stop (tok ++ [c]) r
def isWhite (c : Nat) : Bool := decide (c ∈ white)
def isQuote (c : Nat) : Bool := decide ([c] = [34])
def lexT : List Nat → List Nat × List Nat
  | [] => ([], [])
  | c :: r => if isWhite c then lexT r else if c = 34 then lexG isQuote [] r else if c = 92 then (match r with | [] => ([], []) | d :: r' => lexG isWhite [d] r') else lexG isWhite [c] r

abbrev nTok : Str := Str.ofString "token"
abbrev nFit : Str := Str.ofString "fiter"
abbrev nCh : Str := Str.ofString "ch"
section
variable {prog : Program} {w : World} {A : Around} {h H : Heap} {mg mb : Str → Option Value}
set_option maxHeartbeats 1000000 in
theorem pt_call {a : LexA} {text : List Nat} {p n : Nat} {toks : List Value} {v : Value} {Q : Value → Heap → Prop} (G : Gd w mg mb H h) (ok : OkA (n + 1) A) (C : LexC w H h a text) (X : LexM h a text p toks) (hz : toks.length ≤ 1000000)
    (k : ∀ h', LexM h' a text p (toks ++ [v]) → Kept [a.pb] h h' → Q .none h') :
    Wc (model prog w) A (.call (.ref aPT) ⟨[.ref a.x, v], []⟩) Q h := by
  obtain ⟨⟨t1, t2, hd⟩, hpb, ⟨tp, hpl⟩, le⟩ := X
  refine c_callK (binds := [(nSelf, .ref a.x), (nTok, v)]) G.now ok (by kernel_rfl) (by kernel_rfl) (by kernel_rfl) (by kernel_rfl) (fun _ => by kernel_rfl) (by kernel_rfl) (by kernel_rfl) (fun L h₁ F ok' => ?_)
  have G1 := G.ext F.keep
  have C1 := C.ext F.keep
  have hLp : a.pb ≠ L := fun q => Nat.not_lt.mpr F.above (q ▸ hpb.lt)
  refine w_cons (w_expr (w_meth PySem.F.plainAttrs_list PySem.F.slot_list_append PySem.F.type_list_append
    (w_attr (w_nm F.ns rfl (w_getOwn G1.now.K C1.ix (hd.ext F.keep) (pgC w _) (hdC w) (fiPb w) rfl rfl ⟨(hpb.ext F.keep).ty, ?_, ?_⟩)))))
  · intro b e; injection e with e; subst e; obtain ⟨nn, e⟩ := hpb.ext F.keep; exact ⟨_, e, rfl⟩
  refine w_args (w_arg (w_nm F.ns rfl (w_arg0 (w_kw0 ⟨Kp.builtin _, ?_⟩))))
  refine w_append (hpb.ext F.keep) (by rw [sizeLine_eq]; omega) (fun h3 l3 sb3 => ⟨fun a e => (by cases e), w_nil ?_⟩)
  refine k h3 ⟨⟨t1, t2, (hd.ext F.keep).same sb3 (nd_at C.nd (i := 1) (j := 2) rfl rfl (by decide))⟩, l3, ⟨tp, IsList.same (IsList.ext hpl F.keep) sb3 (fun q => (nd_at C.nd (i := 2) (j := 9) rfl rfl (by decide)) q.symm)⟩, le⟩ ?_
  exact (Kept.of_ext F.keep).trans (Kept.of_same sb3 (by first | (with_reducible (first | exact im1 | exact im2 | exact im3 | exact sb0 | exact sb1 im1 | exact sb1 im2 | exact sb1 im3)) | exact nmc (adne (by decide)) nm0 | exact nmc (adne (by decide)) (nmc (adnn (by decide)) nm0) | simp))

structure GtK (h0 : Heap) (a : LexA) (L ci q : Addr) : Prop where
  (Ld : a.d ≠ L) (Ll : a.pl ≠ L) (Lb : a.pb ≠ L) (cL : ci ≠ L) (qL : q ≠ L) (cq : q ≠ ci)
  (cd : a.d ≠ ci) (cl : a.pl ≠ ci) (cb : a.pb ≠ ci) (qd : q ≠ a.d) (ql : q ≠ a.pl)
  (base : (hideAll h0 [a.d, a.pl]).get? ci = none)
structure GtI (a : LexA) (text : List Nat) (h0 : Heap) (L ci q : Addr) (o : Obj) (h : Heap) (m : Str → Option Value) (p : Nat) (tok : List Nat) : Prop where
  F : Fr (hideAll h0 [a.d, a.pl]) L h m
  self : m nSelf = some (.ref a.x)
  tk : ∃ t, m nTok = some (.str (S tok) t)
  fit : m nFit = some (.ref ci)
  hc : h.get? ci = some o
  hq : h.get? q = some (methodObj (.ref aRC) (.ref a.x))
  X : LexM h a text p []
  len : tok.length ≤ p
theorem LexM.same {h h' : Heap} {a : LexA} {text : List Nat} {p : Nat} {toks : List Value} {b : Addr} (m : LexM h a text p toks) (sb : Heap.SameBut b h h') (h1 : a.d ≠ b) (h2 : a.pb ≠ b) (h3 : a.pl ≠ b) : LexM h' a text p toks := by
  obtain ⟨⟨t1, t2, d⟩, pb, ⟨t, pl⟩, le⟩ := m
  exact ⟨⟨t1, t2, d.same sb h1⟩, pb.same sb h2, ⟨t, IsList.same pl sb h3⟩, le⟩
theorem LexM.kept {S : List Addr} {h h' : Heap} {a : LexA} {text : List Nat} {p : Nat} {toks : List Value} (m : LexM h a text p toks) (k : Kept S h h') (h1 : a.d ∉ S) (h2 : a.pb ∉ S) (h3 : a.pl ∉ S) : LexM h' a text p toks := by
  obtain ⟨⟨t1, t2, d⟩, pb, ⟨t, pl⟩, le⟩ := m
  exact ⟨⟨t1, t2, d.kept k h1⟩, pb.kept k h2, ⟨t, IsList.kept pl k h3⟩, le⟩
section
variable {a : LexA} {text : List Nat} {h0 : Heap} {L ci q : Addr} {o : Obj} {m : Str → Option Value} {p : Nat} {tok : List Nat}
theorem GtI.ch {v : Value} {h' : Heap} (I : GtI a text h0 L ci q o h m p tok) (K : GtK h0 a L ci q) (F' : Fr (hideAll h0 [a.d, a.pl]) L h' (fun y => if y = nCh then some v else m y)) (sb : Heap.SameBut L h h') :
    GtI a text h0 L ci q o h' (fun y => if y = nCh then some v else m y) p tok :=
  ⟨F', (if_neg (by decide)).trans I.self, let ⟨t, e⟩ := I.tk; ⟨t, (if_neg (by decide)).trans e⟩, (if_neg (by decide)).trans I.fit, (sb.2 _ K.cL).trans I.hc, (sb.2 _ K.qL).trans I.hq, I.X.same sb K.Ld K.Lb K.Ll, I.len⟩
theorem GtI.token {t : Tok} {tok' : List Nat} {h' : Heap} (I : GtI a text h0 L ci q o h m p tok) (K : GtK h0 a L ci q) (F' : Fr (hideAll h0 [a.d, a.pl]) L h' (fun y => if y = nTok then some (.str (S tok') t) else m y)) (sb : Heap.SameBut L h h') (hl : tok'.length ≤ p) :
    GtI a text h0 L ci q o h' (fun y => if y = nTok then some (.str (S tok') t) else m y) p tok' :=
  ⟨F', (if_neg (by decide)).trans I.self, ⟨t, if_pos rfl⟩, (if_neg (by decide)).trans I.fit, (sb.2 _ K.cL).trans I.hc, (sb.2 _ K.qL).trans I.hq, I.X.same sb K.Ld K.Lb K.Ll, hl⟩
theorem GtI.ctx (I : GtI a text h0 L ci q o h m p tok) (G : Gd w mg mb H h0) (C : LexC w H h0 a text) : Gd w mg mb H h ∧ LexC w H h a text := by
  have k := Kept.of_fr I.F
  refine ⟨G.kept k ?_, C.kept (k.mono (by first | exact LexA.s_nil _ | exact LexA.s_pb _ | exact LexA.s_dl _ | exact LexA.s_pl _ | simp [LexA.mut]))⟩
  intro i hi
  simp only [List.mem_cons, List.not_mem_nil, or_false] at hi
  rcases hi with rfl | rfl
  · exact C.fr _ (by first | exact LexA.m_x _ | exact LexA.m_d _ | exact LexA.m_pb _ | exact LexA.m_st _ | exact LexA.m_sd _ | exact LexA.m_f _ | exact LexA.m_c _ | exact LexA.m_ct _ | exact LexA.m_cp _ | exact LexA.m_pl _)
  · exact C.fr _ (by first | exact LexA.m_x _ | exact LexA.m_d _ | exact LexA.m_pb _ | exact LexA.m_st _ | exact LexA.m_sd _ | exact LexA.m_f _ | exact LexA.m_c _ | exact LexA.m_ct _ | exact LexA.m_cp _ | exact LexA.m_pl _)
theorem gt_read {n : Nat} {Q : Value → Heap → Prop} (G : Gd w mg mb H h0) (C : LexC w H h0 a text) (K : GtK h0 a L ci q) (hco : ci ∉ [a.d, a.pl]) (ok : OkA (n + 2) A) (I : GtI a text h0 L ci q o h m p tok)
    (k : ∀ h' t, GtI a text h0 L ci q o h' m (p + ((text.drop p).take 1).length) tok → Q (.str (S ((text.drop p).take 1)) t) h') : Wc (model prog w) A (.call (.ref aRC) ⟨[.ref a.x], []⟩) Q h := by
  obtain ⟨G1, C1⟩ := I.ctx G C
  refine rc_call G1 ok C1 I.X (fun h' t X' k' => k h' t ⟨frKept I.F k' (fun i hi => hideAll_none _ hi) ?_, I.self, I.tk, I.fit, k' _ _ hco I.hc, k' _ _ ?_ I.hq, X', Nat.le_trans I.len (by omega)⟩)
  · simp only [List.mem_cons, List.not_mem_nil, or_false, not_or]; exact ⟨K.Ld.symm, K.Ll.symm⟩
  · simp only [List.mem_cons, List.not_mem_nil, or_false, not_or]; exact ⟨K.qd, K.ql⟩
theorem gt_next {n : Nat} {ts : Tok} {Q : Option Value → Heap → Prop} (G : Gd w mg mb H h0) (C : LexC w H h0 a text) (K : GtK h0 a L ci q) (ok : OkA (n + 3) A) (I : GtI a text h0 L ci q (ciObj q ts) h m p tok)
    (k1 : ∀ h' c r t, text.drop p = c :: r → GtI a text h0 L ci q (ciObj q ts) h' m (p + 1) tok → Q (some (.str (S [c]) t)) h')
    (k2 : text.drop p = [] → ∀ h', GtI a text h0 L ci q ciEnd h' m p tok → Q none h') : Wp (model prog w) A (pyNext (.ref ci)) Q h := by
  obtain ⟨G1, C1⟩ := I.ctx G C
  have hco : ci ∉ [a.d, a.pl] := by simp only [List.mem_cons, List.not_mem_nil, or_false, not_or]; exact ⟨K.cd.symm, K.cl.symm⟩
  have hf : h.get? aRC = some (objAt w aRC) := G1.now.K _ _ (by kernel_rfl)
  refine w_nextCi I.hc I.hq hf (fd := fnAt w aRC) (by kernel_rfl) ok.3 (gt_read (n := n) G C K hco ok.in1 I (fun h' t I' => ?_))
  obtain ⟨G2, C2⟩ := I'.ctx G C
  refine ⟨_, t, rfl, I'.hc, I'.hq, G2.now.K _ _ (by kernel_rfl), fun hl => ?_, fun hl h'' eb ec => ?_⟩
  · cases hq : text.drop p with
    | nil => rw [hq] at hl; exact absurd rfl hl
    | cons c r =>
      rw [hq] at I'
      exact k1 h' c r t hq I'
  · have e0 : text.drop p = [] := by cases hq : text.drop p with
      | nil => rfl
      | cons c r => rw [hq] at hl; simp at hl
    rw [e0] at I'
    have kk : Kept [ci] h' h'' := fun b o n e => eb b o (by simpa using n) e
    refine k2 e0 h'' ⟨frKept I'.F kk (by simpa using K.base) (by simpa using K.cL.symm), I'.self, I'.tk, I'.fit, ec, kk _ _ (by simpa using K.cq) I'.hq, I'.X.kept kk (by simpa using K.cd) (by simpa using K.cb) (by simpa using K.cl), I'.len⟩

set_option maxHeartbeats 2000000 in
/-- one of the two inner loops -/
theorem gt_inner {n : Nat} {ts : Tok} {Q : Flow → Heap → Prop} (stop : Nat → Bool) {test : Expr} {sc : Str} {k4 : Nat} {pc p1 p2 p3 p4 p5 p6 p7 p8 p9 p10 p11 p12 p13 p14 p15 : Pos} (hsc : sc = S [92]) (hline : (p8.endLine == p9.line) = true)
    (G : Gd w mg mb H h0) (C : LexC w H h0 a text) (K : GtK h0 a L ci q) (ok : OkA (n + 3) A) (res : List Nat × List Nat)
    (htest : ∀ h m p tok c t (Q : Bool → Heap → Prop), GtI a text h0 L ci q (ciObj q ts) h m p tok → m nCh = some (.str (S [c]) t) → Q (stop c) h → Wp (model prog w) A (isTrue test (envAt w aGT L) (eval test (envAt w aGT L))) Q h)
    (kret : ∀ h' t m p', GtI a text h0 L ci q (ciObj q ts) h' m p' res.1 → text.drop p' = res.2 → Q (.ret (.str (S res.1) t)) h')
    (kend : ∀ h' m p', GtI a text h0 L ci q ciEnd h' m p' res.1 → text.drop p' = [] → res.2 = [] → Q .next h')
    (I : GtI a text h0 L ci q (ciObj q ts) h m p tok) (hres : lexG stop tok (text.drop p) = res) :
    Wf (model prog w) A (.Name nCh pc) (.ref ci) [.If test [.Return (some (.Name nTok p1)) p2] [.If (.Compare (.Name nCh p3) [.Eq] [.Constant (.str sc) k4 p4] p5) [.Assign [.Name nCh p6] (.Call (.Attribute (.Name nSelf p7) nRC p8) [] [] p9) p10] [] p11] p12, .AugAssign (.Name nTok p13) .Add (.Name nCh p14) p15] []
      (envAt w aGT L) Q h := by
  have hco : ci ∉ [a.d, a.pl] := by simp only [List.mem_cons, List.not_mem_nil, or_false, not_or]; exact ⟨K.cd.symm, K.cl.symm⟩
  have hsz := C.len
  refine w_forLoop (fun n h => ∃ m p tok, GtI a text h0 L ci q (ciObj q ts) h m p tok ∧ lexG stop tok (text.drop p) = res ∧ n = text.length - p) _ ⟨m, p, tok, I, hres, rfl⟩ ?_
  clear I hres
  rintro nn h ⟨m, p, tok, I, hr, hn⟩
  refine gt_next (n := n) G C K ok I (fun h' c r t hdrop I' => ?_) (fun hd h' I' => ?_)
  · have hlt : p < text.length := by
      rcases Nat.lt_or_ge p text.length with y | y
      · exact y
      · rw [List.drop_of_length_le y] at hdrop; cases hdrop
    have hd1 : text.drop (p + 1) = r := by rw [← List.drop_drop, hdrop]; rfl
    refine w_pure (a := ()) ?_
    refine w_asgName (w_stS I'.F (fun h2 F2 sb2 => ?_))
    have I2 := I'.ch K F2 sb2
    rw [hdrop] at hr
    unfold lexG at hr
    refine w_cons (w_if_ (htest _ _ _ _ _ _ _ I2 (if_pos rfl) ⟨fun e => ?_, fun e => ?_⟩))
    · obtain ⟨tt, et⟩ := I2.tk
      refine w_cons (w_ret (w_nm I2.F.ns et ?_))
      rw [if_pos e] at hr
      subst hr
      exact kret h2 tt _ _ I2 hd1
    · rw [if_neg (by rw [e]; decide)] at hr
      refine w_cons (w_if_ (w_tCmp (w_nm I2.F.ns (if_pos rfl) (w_cS [92] hsc fun _ => w_eqStr (w_tBool ⟨fun e2 => ?_, fun e2 => w_nil (w_nil ?_)⟩)))))
      · have e2 : c = 92 := by simpa using e2
        rw [if_pos e2] at hr
        obtain ⟨G2, C2⟩ := I2.ctx G C
        obtain ⟨t1, t2, d2⟩ := I2.X.d
        refine w_cons (w_asg (w_mcall (w_nm I2.F.ns I2.self (w_method G2.now.K C2.ix d2 (pgC w _) (fiRC w) (fnRC w) rfl ?_)) (hline := hline)))
        refine w_args0 (Kp.func (G2.now.K _ _ (by kernel_rfl : (KH w).lookup aRC = some (objAt w aRC))) (fd := fnAt w aRC) (by kernel_rfl)) (w_call (gt_read (n := n) G C K hco (ok.mono (by omega)) I2 (fun h3 t3 I3 => w_stS I3.F (fun h4 F4 sb4 => w_nil (w_nil ?_)))))
        have I4 := I3.ch K F4 sb4
        obtain ⟨tt, et⟩ := I4.tk
        refine w_cons (w_aug (w_ld I4.F.ns et (w_nm I4.F.ns (if_pos rfl) (w_iaddStr (fun t5 => w_stS I4.F (fun h5 F5 sb5 => w_nil ?_)) ?_))))
        · rw [hd1] at I4 F5
          cases r with
          | nil =>
            refine ⟨_, ?_, _, p + 1, tok, I4.token K (tok' := tok) (t := t5) (by simpa using F5) sb5 I4.len, ?_, rfl⟩
            · omega
            · rw [hd1]; exact hr
          | cons d r' =>
            have hd2 : text.drop (p + 1 + 1) = r' := by rw [← List.drop_drop, hd1]; rfl
            refine ⟨_, ?_, _, p + 1 + 1, tok ++ [d], I4.token K (tok' := tok ++ [d]) (t := t5) F5 sb5 (by have := I.len; simp; omega), ?_, rfl⟩
            · omega
            · rw [hd2]; exact hr
        · have := I.len; rw [sizeLine_eq]; simp; omega
      · have e2 : c ≠ 92 := by simpa using e2
        rw [if_neg e2] at hr
        obtain ⟨tt, et⟩ := I2.tk
        refine w_cons (w_aug (w_ld I2.F.ns et (w_nm I2.F.ns (if_pos rfl) (w_iaddStr (fun t5 => w_stS I2.F (fun h5 F5 sb5 => w_nil ?_)) ?_))))
        · refine ⟨_, ?_, _, p + 1, tok ++ [c], I2.token K F5 sb5 (by have := I.len; simp; omega), ?_, rfl⟩
          · omega
          · rw [hd1]; exact hr
        · have := I.len; rw [sizeLine_eq]; simp; omega
  · rw [hd] at hr
    unfold lexG at hr
    subst hr
    exact w_nil (kend h' _ _ I' hd rfl)
end
end
end Mine
end
section
open PySem PySem.W PyProof.Rows PySem.Calls
set_option Elab.async false
set_option maxRecDepth 100000
set_option linter.unusedVariables false
set_option linter.unusedSimpArgs false
namespace Mine
noncomputable def elseAt (w : World) : List Stmt := match (((bodyAt w aGT)[3]?).getD (.Pass ⟨0, 0, 0, 0⟩)) with
  | .For _ _ b _ _ => (match b[1]?.getD (.Pass ⟨0, 0, 0, 0⟩) with | .If _ _ e _ => e | _ => [])
  | _ => []
section
variable {prog : Program} {w : World} {A : Around} {h H : Heap} {mg mb : Str → Option Value}
set_option maxHeartbeats 2000000 in
theorem gt_pop {a : LexA} {text : List Nat} {p n : Nat} {toks : List Value} {v : Value} {Q : Value → Heap → Prop} (G : Gd w mg mb H h) (ok : OkA (n + 1) A) (C : LexC w H h a text) (X : LexM h a text p (v :: toks)) (hz : toks.length ≤ 1000000)
    (k : ∀ h', LexM h' a text p toks → Kept [a.pb] h h' → Q v h') :
    Wc (model prog w) A (.call (.ref aGT) ⟨[.ref a.x], []⟩) Q h := by
  obtain ⟨⟨t1, t2, hd⟩, hpb, ⟨tp, hpl⟩, le⟩ := X
  refine c_callK (binds := [(nSelf, .ref a.x)]) G.now ok (by kernel_rfl) (by kernel_rfl) (by kernel_rfl) (by kernel_rfl) (fun _ => by kernel_rfl) (by kernel_rfl) (by kernel_rfl) (fun L h₁ F ok' => ?_)
  have G1 := G.ext F.keep
  have C1 := C.ext F.keep
  have hpb1 := hpb.ext F.keep
  refine w_cons (w_if_ (w_tPlain (w_attr (w_nm F.ns rfl (w_getOwn G1.now.K C1.ix (hd.ext F.keep) (pgC w _) (hdC w) (fiPb w) rfl rfl (w_tList hpb1.isList (by simp; omega) ⟨fun e => ?_, fun e => by simp at e⟩))))))
  refine w_cons (w_ret (w_meth PySem.F.plainAttrs_list PySem.F.slot_list_pop PySem.F.type_list_pop
    (w_attr (w_nm F.ns rfl (w_getOwn G1.now.K C1.ix (hd.ext F.keep) (pgC w _) (hdC w) (fiPb w) rfl rfl ⟨hpb1.ty, ?_, ?_⟩)))))
  · intro b e; injection e with e; subst e; obtain ⟨nn, e⟩ := hpb1; exact ⟨_, e, rfl⟩
  refine w_args (w_arg (w_cInt fun _ => w_arg0 (w_kw0 ⟨Kp.builtin _, ?_⟩)))
  refine w_popAt (i := 0) hpb1 rfl (by rw [sizeLine_eq]; simp; omega) (fun h3 l3 sb3 => ?_)
  refine k h3 ⟨⟨t1, t2, (hd.ext F.keep).same sb3 (nd_at C.nd (i := 1) (j := 2) rfl rfl (by decide))⟩, l3, ⟨tp, IsList.same (IsList.ext hpl F.keep) sb3 (fun q => (nd_at C.nd (i := 2) (j := 9) rfl rfl (by decide)) q.symm)⟩, le⟩ ?_
  exact (Kept.of_ext F.keep).trans (Kept.of_same sb3 (by first | (with_reducible (first | exact im1 | exact im2 | exact im3 | exact sb0 | exact sb1 im1 | exact sb1 im2 | exact sb1 im3)) | exact nmc (adne (by decide)) nm0 | exact nmc (adne (by decide)) (nmc (adnn (by decide)) nm0) | simp))
set_option maxHeartbeats 4000000 in
theorem gt_call {a : LexA} {text : List Nat} {p0 n : Nat} {Q : Value → Heap → Prop} (G : Gd w mg mb H h) (ok : OkA (n + 4) A) (C : LexC w H h a text) (X : LexM h a text p0 [])
    (k : ∀ h' t p', LexM h' a text p' [] → text.drop p' = (lexT (text.drop p0)).2 → Kept [a.d, a.pl] h h' → Q (.str (S (lexT (text.drop p0)).1) t) h') :
    Wc (model prog w) A (.call (.ref aGT) ⟨[.ref a.x], []⟩) Q h := by
  have X0 := X
  obtain ⟨⟨t1, t2, hd⟩, hpb, ⟨tp, hpl⟩, le⟩ := X
  refine c_callK (binds := [(nSelf, .ref a.x)]) G.now (n := n + 3) ok (by kernel_rfl) (by kernel_rfl) (by kernel_rfl) (by kernel_rfl) (fun _ => by kernel_rfl) (by kernel_rfl) (by kernel_rfl) (fun L h₁ F ok' => ?_)
  have G1 := G.ext F.keep
  have C1 := C.ext F.keep
  have hpb1 := hpb.ext F.keep
  have hS : ∀ i ∈ [a.d, a.pl], (hideAll h [a.d, a.pl]).get? i = none := fun i hi => hideAll_none _ hi
  have Ld : a.d ≠ L := fun q => Nat.not_lt.mpr F.above (q ▸ hd.lt)
  have Lb : a.pb ≠ L := fun q => Nat.not_lt.mpr F.above (q ▸ hpb.lt)
  have hpll : a.pl < h.objs.size := by obtain ⟨o, e, _⟩ := hpl; exact Heap.lt_size e
  have Ll : a.pl ≠ L := fun q => Nat.not_lt.mpr F.above (q ▸ hpll)
  refine w_cons (w_if_ (w_tPlain (w_attr (w_nm F.ns rfl (w_getOwn G1.now.K C1.ix (hd.ext F.keep) (pgC w _) (hdC w) (fiPb w) rfl rfl (w_tList hpb1.isList (by first | (with_reducible (first | exact im1 | exact im2 | exact im3 | exact sb0 | exact sb1 im1 | exact sb1 im2 | exact sb1 im3)) | exact nmc (adne (by decide)) nm0 | exact nmc (adne (by decide)) (nmc (adnn (by decide)) nm0) | simp) ⟨fun e => by simp at e, fun e => w_nil ?_⟩))))))
  refine w_cons (w_asg (w_cS [] (by kernel_rfl) fun t0 => w_stS (frHid F [a.d, a.pl]) (fun h2 F2 sb2 => ?_)))
  have k2 : Kept [a.d, a.pl] h h2 := Kept.of_fr F2
  have hSH : ∀ i ∈ [a.d, a.pl], H.get? i = none := by
    intro i hi
    simp only [List.mem_cons, List.not_mem_nil, or_false] at hi
    rcases hi with rfl | rfl
    · exact C.fr _ (by first | exact LexA.m_x _ | exact LexA.m_d _ | exact LexA.m_pb _ | exact LexA.m_st _ | exact LexA.m_sd _ | exact LexA.m_f _ | exact LexA.m_c _ | exact LexA.m_ct _ | exact LexA.m_cp _ | exact LexA.m_pl _)
    · exact C.fr _ (by first | exact LexA.m_x _ | exact LexA.m_d _ | exact LexA.m_pb _ | exact LexA.m_st _ | exact LexA.m_sd _ | exact LexA.m_f _ | exact LexA.m_c _ | exact LexA.m_ct _ | exact LexA.m_cp _ | exact LexA.m_pl _)
  have G2 := G.kept k2 hSH
  have C2 := C.kept (k2.mono (by first | exact LexA.s_nil _ | exact LexA.s_pb _ | exact LexA.s_dl _ | exact LexA.s_pl _ | simp [LexA.mut]))
  have X2 := (X0.ext F.keep).same sb2 Ld Lb Ll
  obtain ⟨t1', t2', hd2⟩ := X2.d
  refine w_cons (w_asg (w_callN (w_gB G2.now (v := .builtin "iter") (by kernel_rfl) (by kernel_rfl) (by decide) ?_)))
  refine w_args (w_arg (w_attr (w_nm F2.ns rfl (w_bound G2.now.K C2.ix hd2 (pgC w _) (hdC w) (fiRC w) (fnRC w) (gfRC w) (toRC w) (by decide) rfl (fun h3 e3 q3 z3 => ?_)))))
  refine w_arg (w_cS [] (by kernel_rfl) fun ts => w_arg0 (w_kw0 ⟨Kp.builtin _, ?_⟩))
  refine w_iter2 q3 (fun h4 e4 c4 z4 => ?_)
  have F4 : Fr (hideAll h [a.d, a.pl]) L h4 _ := frKept F2 (Kept.of_ext (S := []) (e3.trans e4)) (by first | (with_reducible (first | exact im1 | exact im2 | exact im3 | exact sb0 | exact sb1 im1 | exact sb1 im2 | exact sb1 im3)) | exact nmc (adne (by decide)) nm0 | exact nmc (adne (by decide)) (nmc (adnn (by decide)) nm0) | simp) (by first | (with_reducible (first | exact im1 | exact im2 | exact im3 | exact sb0 | exact sb1 im1 | exact sb1 im2 | exact sb1 im3)) | exact nmc (adne (by decide)) nm0 | exact nmc (adne (by decide)) (nmc (adnn (by decide)) nm0) | simp)
  have hL2 : L < h2.objs.size := F2.ns.lt
  have hs2 : h.objs.size ≤ h2.objs.size := by
    have := F2.above; rw [hideAll_size] at this; exact Nat.le_of_lt (Nat.lt_of_le_of_lt this hL2)
  have z3' : h3.objs.size = h2.objs.size + 1 := z3
  generalize hq : h2.objs.size = q at *
  generalize hci : h3.objs.size = ci at *
  have hdl := hd.lt
  have hbl := hpb.lt
  have K : GtK h a L ci q := by
    refine ⟨Ld, Ll, Lb, ?_, ?_, ?_, ?_, ?_, ?_, ?_, ?_, ?_⟩ <;> try (intro e; simp only [Addr] at *; omega)
    cases e : (hideAll h [a.d, a.pl]).get? ci with
    | none => rfl
    | some o => have := Heap.lt_size e; rw [hideAll_size] at this; simp only [Addr] at *; omega
  refine w_stS F4 (fun h5 F5 sb5 => ?_)
  have I5 : GtI a text h L ci q (ciObj q ts) h5 _ p0 [] := ⟨F5, rfl, ⟨t0, rfl⟩, rfl, (sb5.2 _ K.cL).trans c4, (sb5.2 _ K.qL).trans (e4 _ _ q3), (X2.ext (e3.trans e4)).same sb5 Ld Lb Ll, by simp⟩
  generalize (fun y => if y = Str.ofString "fiter" then some (Value.ref ci) else if y = Str.ofString "token" then some (Value.str (S []) t0) else List.lookup y [(nSelf, Value.ref a.x)].reverse) = m5 at I5
  have hco : ci ∉ [a.d, a.pl] := by simp only [List.mem_cons, List.not_mem_nil, or_false, not_or]; exact ⟨K.cd.symm, K.cl.symm⟩
  have hsz := C.len
  generalize hres : lexT (text.drop p0) = res at *
  have retQ : ∀ h' t m p', GtI a text h L ci q (ciObj q ts) h' m p' res.1 → text.drop p' = res.2 → Q (.str (S res.1) t) h' :=
    fun h' t m p' I e => k h' t p' I.X e (Kept.of_fr I.F)
  refine w_cons (w_for (w_nm I5.F.ns I5.fit (w_iterCi I5.hc ?_)))
  refine w_forLoop (fun n h' => (∃ m p, GtI a text h L ci q (ciObj q ts) h' m p [] ∧ lexT (text.drop p) = res ∧ n = text.length - p + 1) ∨
    (∃ m p, GtI a text h L ci q ciEnd h' m p res.1 ∧ text.drop p = [] ∧ res.2 = [] ∧ n = 0)) _ (.inl ⟨m5, p0, I5, hres, rfl⟩) ?_
  clear I5 F5 sb5 F4 c4 q3
  rintro nn h6 (⟨m, p, I, hr, hn⟩ | ⟨m, p, I, hd, hr, hn⟩)
  · refine gt_next (n := n) G C K ok' I (fun h' c r t hdrop I' => ?_) (fun hd h' I' => ?_)
    · have hlt : p < text.length := by
        rcases Nat.lt_or_ge p text.length with y | y
        · exact y
        · rw [List.drop_of_length_le y] at hdrop; cases hdrop
      have hd1 : text.drop (p + 1) = r := by rw [← List.drop_drop, hdrop]; rfl
      refine w_pure (a := ()) ?_
      refine w_asgName (w_stS I'.F (fun h2 F2 sb2 => ?_))
      have I2 := I'.ch K F2 sb2
      rw [hdrop] at hr
      unfold lexT at hr
      obtain ⟨G2, C2⟩ := I2.ctx G C
      obtain ⟨u1, u2, d2⟩ := I2.X.d
      refine w_cons (w_if_ (w_tCmp (w_nm I2.F.ns (if_pos rfl) (w_attr (w_nm I2.F.ns I2.self (w_getOwn G2.now.K C2.ix d2 (pgC w _) (hdC w) (fiWh w) rfl rfl (w_inStr1 (w_tBool ⟨fun e => ?_, fun e => w_nil ?_⟩))))))))
      · refine w_cons (w_continue ?_)
        rw [if_pos (show isWhite c = true from e)] at hr
        exact ⟨_, by omega, .inl ⟨_, p + 1, I2, by rw [hd1]; exact hr, rfl⟩⟩
      · rw [if_neg (by rw [show isWhite c = false from e]; decide)] at hr
        refine w_cons (w_if_ (w_tCmp (w_nm I2.F.ns (if_pos rfl) (w_cS [34] (by kernel_rfl) fun _ => w_eqStr (w_tBool ⟨fun e2 => ?_, fun e2 => ?_⟩)))))
        · have e2 : c = 34 := by simpa using e2
          rw [if_pos e2] at hr
          refine w_cons (w_for (w_nm I2.F.ns I2.fit (w_iterCi I2.hc ?_)))
          refine gt_inner (n := n) isQuote (by kernel_rfl) (by kernel_rfl) G C K ok' res (fun h m p tok c t Q I hch kq => ?_) retQ (fun h' m p' I3 hd3 hr3 => ?_) I2 (by rw [hd1]; exact hr)
          · exact w_tCmp (w_nm I.F.ns hch (w_cS [34] (by kernel_rfl) fun _ => w_eqStr (w_tBool kq)))
          · exact w_nil (w_nil ⟨0, by omega, .inr ⟨m, p', I3, hd3, hr3, rfl⟩⟩)
        · have e2 : c ≠ 34 := by simpa using e2
          rw [if_neg e2] at hr
          have tail : ∀ h' m p' tok, GtI a text h L ci q (ciObj q ts) h' m p' tok → lexG isWhite tok (text.drop p') = res → p < p' →
              Wp (model prog w) (A.deeper (envAt w aGT L)) (execs ((elseAt w).drop 2) (envAt w aGT L)) (fun f h₃ => match f with
                | .next => ∃ m, m < nn ∧ ((∃ m_1 p, GtI a text h L ci q (ciObj q ts) h₃ m_1 p [] ∧ lexT (text.drop p) = res ∧ m = text.length - p + 1) ∨ (∃ m_1 p, GtI a text h L ci q ciEnd h₃ m_1 p res.1 ∧ text.drop p = [] ∧ res.2 = [] ∧ m = 0))
                | .ret v => Q v h₃
                | _ => False) h' := by
            intro h' m p' tok I3 hr3 hp3
            refine w_cons (w_for (w_nm I3.F.ns I3.fit (w_iterCi I3.hc ?_)))
            refine gt_inner (n := n) isWhite (by kernel_rfl) (by kernel_rfl) G C K ok' res (fun h m p tok c t Q I hch kq => ?_) retQ (fun h' m p' I3 hd3 hr3 => ?_) I3 hr3
            · obtain ⟨G2, C2⟩ := I.ctx G C
              obtain ⟨u1, u2, d2⟩ := I.X.d
              exact w_tCmp (w_nm I.F.ns hch (w_attr (w_nm I.F.ns I.self (w_getOwn G2.now.K C2.ix d2 (pgC w _) (hdC w) (fiWh w) rfl rfl (w_inStr1 (w_tBool kq))))))
            · exact w_nil ⟨0, by omega, .inr ⟨m, p', I3, hd3, hr3, rfl⟩⟩
          refine w_cons (w_if_ (w_tCmp (w_nm I2.F.ns (if_pos rfl) (w_cS [92] (by kernel_rfl) fun _ => w_eqStr (w_tBool ⟨fun e3 => ?_, fun e3 => w_nil ?_⟩)))))
          · have e3 : c = 92 := by simpa using e3
            rw [if_pos e3] at hr
            refine w_cons (w_asg (w_mcall (w_nm I2.F.ns I2.self (w_method G2.now.K C2.ix d2 (pgC w _) (fiRC w) (fnRC w) rfl ?_))))
            refine w_args0 (Kp.func (G2.now.K _ _ (by kernel_rfl : (KH w).lookup aRC = some (objAt w aRC))) (fd := fnAt w aRC) (by kernel_rfl)) (w_call (gt_read (n := n) G C K hco (ok'.mono (by omega)) I2 (fun h3 t3 I3 => w_stS I3.F (fun h4 F4 sb4 => w_nil ?_))))
            have I4 := I3.ch K F4 sb4
            obtain ⟨tt, et⟩ := I4.tk
            refine w_cons (w_aug (w_ld I4.F.ns et (w_nm I4.F.ns (if_pos rfl) (w_iaddStr (fun t5 => w_stS I4.F (fun h5 F5 sb5 => ?_)) ?_))))
            · rw [hd1] at I4 F5
              cases r with
              | nil => 
                refine (tail h5 _ (p + 1) [] (I4.token K (tok' := []) (t := t5) (by simpa using F5) sb5 I4.len) ?_ (by omega)).mono (fun f h₃ y => ?_)
                · rw [hd1]; exact hr
                · cases f <;> first | exact y.elim | exact w_nil y | exact y
              | cons d r' =>
                have hd2 : text.drop (p + 1 + 1) = r' := by rw [← List.drop_drop, hd1]; rfl
                refine (tail h5 _ (p + 1 + 1) [d] (I4.token K (tok' := [d]) (t := t5) F5 sb5 (by first | (with_reducible (first | exact im1 | exact im2 | exact im3 | exact sb0 | exact sb1 im1 | exact sb1 im2 | exact sb1 im3)) | exact nmc (adne (by decide)) nm0 | exact nmc (adne (by decide)) (nmc (adnn (by decide)) nm0) | simp)) ?_ (by omega)).mono (fun f h₃ y => ?_)
                · rw [hd2]; exact hr
                · cases f <;> first | exact y.elim | exact w_nil y | exact y
            · rw [sizeLine_eq]; simp; omega
          · have e3 : c ≠ 92 := by simpa using e3
            rw [if_neg e3] at hr
            obtain ⟨tt, et⟩ := I2.tk
            refine w_cons (w_aug (w_ld I2.F.ns et (w_nm I2.F.ns (if_pos rfl) (w_iaddStr (fun t5 => w_stS I2.F (fun h5 F5 sb5 => ?_)) ?_))))
            · refine (tail h5 _ (p + 1) [c] (I2.token K (tok' := [c]) (t := t5) F5 sb5 (by first | (with_reducible (first | exact im1 | exact im2 | exact im3 | exact sb0 | exact sb1 im1 | exact sb1 im2 | exact sb1 im3)) | exact nmc (adne (by decide)) nm0 | exact nmc (adne (by decide)) (nmc (adnn (by decide)) nm0) | simp)) ?_ (by omega)).mono (fun f h₃ y => ?_)
              · rw [hd1]; exact hr
              · cases f <;> first | exact y.elim | exact w_nil y | exact y
            · rw [sizeLine_eq]; simp
    · rw [hd] at hr
      unfold lexT at hr
      subst hr
      obtain ⟨tt, et⟩ := I'.tk
      exact w_nil (w_cons (w_ret (w_nm I'.F.ns et (k h' tt p I'.X hd (Kept.of_fr I'.F)))))
  · refine w_nextEnd I.hc ok'.3 (fun h' e' => ?_)
    obtain ⟨tt, et⟩ := I.tk
    have F' := frKept I.F (Kept.of_ext (S := []) e') (by first | (with_reducible (first | exact im1 | exact im2 | exact im3 | exact sb0 | exact sb1 im1 | exact sb1 im2 | exact sb1 im3)) | exact nmc (adne (by decide)) nm0 | exact nmc (adne (by decide)) (nmc (adnn (by decide)) nm0) | simp) (by first | (with_reducible (first | exact im1 | exact im2 | exact im3 | exact sb0 | exact sb1 im1 | exact sb1 im2 | exact sb1 im3)) | exact nmc (adne (by decide)) nm0 | exact nmc (adne (by decide)) (nmc (adnn (by decide)) nm0) | simp)
    exact w_nil (w_cons (w_ret (w_nm F'.ns et (k h' tt p (I.X.ext e') (hd.trans hr.symm) (Kept.of_fr F')))))
end
end Mine
end
section
open PySem PySem.W PyProof.Rows PySem.Calls
set_option Elab.async false
set_option maxRecDepth 100000
set_option linter.unusedVariables false
set_option linter.unusedSimpArgs false
namespace Mine
abbrev tpl (vs : List Value) : Obj := { cls := .type "tuple", data := .seq vs.toArray }
section
variable {M : Model} {A : Around} {h : Heap} {env : Env}
theorem w_list {elts : List Expr} {pos : Pos} {Q : Value → Heap → Prop}
    (x : Wp M A (spliced (backTo pos (starEach elts env))) (fun vs h₁ => vs.length ≤ sizeLine ∧ ∀ h₂ a, a = h₁.objs.size → Ext h₁ h₂ → Ls h₂ a vs → h₂.objs.size = h₁.objs.size + 1 → Q (.ref a) h₂) h) : Wp M A (eval (.List elts pos) env) Q h := by
  rw [arm_eval_List]
  refine w_bind (w_standAt (w_bind (x.mono fun vs h₁ y => ?_)))
  intro s hs
  subst hs
  refine wpAny_newObj_type ⟨⟨rfl, rfl⟩, y.2 _ _ rfl (Ext.push _ _) (Ls.new _ _) (by simp)⟩ ?_
  simpa [sizeOk] using y.1
theorem w_tuple {elts : List Expr} {k : Nat} {pos : Pos} {Q : Value → Heap → Prop}
    (x : Wp M A (spliced (backTo pos (starEach elts env))) (fun vs h₁ => vs.length ≤ sizeLine ∧ ∀ h₂ a, a = h₁.objs.size → Ext h₁ h₂ → h₂.get? a = some (tpl vs) → h₂.objs.size = h₁.objs.size + 1 → Q (.ref a) h₂) h) : Wp M A (eval (.Tuple elts k pos) env) Q h := by
  rw [arm_eval_Tuple]
  refine w_bind (w_standAt (w_bind (x.mono fun vs h₁ y => ?_)))
  intro s hs
  subst hs
  refine wpAny_newObj_type ⟨⟨rfl, rfl⟩, y.2 _ _ rfl (Ext.push _ _) (Heap.get?_push_size _ rfl) (by simp)⟩ ?_
  simpa [sizeOk] using y.1
end
theorem get_none {h : Heap} {a : Addr} (ha : h.objs.size ≤ a) : h.get? a = none := by
  cases e : h.get? a with
  | none => rfl
  | some o => exact absurd (Heap.lt_size e) (Nat.not_lt.mpr ha)
end Mine
end
section
open PySem PySem.W PyProof.Rows PySem.Calls
set_option Elab.async false
set_option maxRecDepth 100000
set_option linter.unusedVariables false
set_option linter.unusedSimpArgs false
namespace Mine
section
variable {prog : Program} {w : World} {A : Around} {h H : Heap} {mg mb : Str → Option Value}
theorem mkWeight (C : Addr) (rest : List Value) (kw : List (Str × Value)) : (Code.builtin "type.__call__" ⟨.ref C :: rest, kw⟩).weight = 1 := by kernel_rfl
theorem mkUnits (C : Addr) (rest : List Value) (kw : List (Str × Value)) : (Code.builtin "type.__call__" ⟨.ref C :: rest, kw⟩).cUnits = 1 := by kernel_rfl
theorem OkA.make {n : Nat} {A : Around} {C : Addr} {rest : List Value} {kw : List (Str × Value)} (h : OkA (n + 1) A) : OkA n (A.under (.builtin "type.__call__" ⟨.ref C :: rest, kw⟩)) :=
  ⟨by have := h.depth; show A.depth + (Code.builtin "type.__call__" ⟨.ref C :: rest, kw⟩).weight + n < _; rw [mkWeight]; lia,
   by have := h.units; show A.units + (Code.builtin "type.__call__" ⟨.ref C :: rest, kw⟩).cUnits + 20 * n < _; rw [mkUnits]; lia, h.handled⟩
set_option maxHeartbeats 2000000 in
theorem in_call {x d n : Nat} {v : Value} {Q : Value → Heap → Prop} (G : Gd w mg mb H h) (ok : OkA (n + 1) A) (I : Ins h aCls x d) (D : Dc h d []) (hH : H.get? d = none) (hxd : x ≠ d)
    (k : ∀ h' pb t1 t2, Dc h' d [(nLine, .int 1 t1), (nIns, v), (nWh, .str (S white) t2), (nPb, .ref pb)] → Ls h' pb [] → h.objs.size ≤ pb → Kept [d] h h' → Q .none h') :
    Wc (model prog w) A (.call (.ref aInit) ⟨[.ref x, v], []⟩) Q h := by
  refine c_callK (binds := [(nSelf, .ref x), (Str.ofString "fp", v)]) G.now ok (by kernel_rfl) (by kernel_rfl) (by kernel_rfl) (by kernel_rfl) (fun _ => by kernel_rfl) (by kernel_rfl) (by kernel_rfl) (fun L h₁ F ok' => ?_)
  have G1 := G.ext F.keep
  have I1 := I.ext F.keep
  have D1 := D.ext F.keep
  have hLd : d ≠ L := fun q => Nat.not_lt.mpr F.above (q ▸ D.lt)
  have hSH : ∀ i ∈ [d], H.get? i = none := by simpa using hH
  have hS : (hideAll h [d]).get? d = none := hideAll_none _ (by simp)
  have F1 := frHid F [d]
  refine w_cons (w_asgAttr (w_cInt fun t1 => w_nm F.ns rfl ?_))
  refine w_setAttr G1.now.K I1 D1 (saC w) (poC w) (tkLine w) (hdC w) (by simp) (fun h2 (d2 : Dc h2 d [(nLine, .int 1 t1)]) sb2 => ?_)
  have F2 := frChg F1 sb2 hLd hS
  have I2 := I1.same sb2 hxd
  have G2 := G1.kept (Kept.of_same (S := [d]) sb2 (by simp)) hSH
  refine w_cons (w_asgAttr (w_nm F2.ns rfl (w_nm F2.ns rfl ?_)))
  refine w_setAttr G2.now.K I2 d2 (saC w) (poC w) (tkIns w) (hdC w) (by simp) (fun h3 (d3 : Dc h3 d [(nLine, .int 1 t1), (nIns, v)]) sb3 => ?_)
  have F3 := frChg F2 sb3 hLd hS
  have I3 := I2.same sb3 hxd
  have G3 := G2.kept (Kept.of_same (S := [d]) sb3 (by simp)) hSH
  refine w_cons (w_asgAttr (w_cS white (by kernel_rfl) fun t2 => w_nm F3.ns rfl ?_))
  refine w_setAttr G3.now.K I3 d3 (saC w) (poC w) (tkWh w) (hdC w) (by simp) (fun h4 (d4 : Dc h4 d [(nLine, .int 1 t1), (nIns, v), (nWh, .str (S white) t2)]) sb4 => ?_)
  have F4 := frChg F3 sb4 hLd hS
  have I4 := I3.same sb4 hxd
  have G4 := G3.kept (Kept.of_same (S := [d]) sb4 (by simp)) hSH
  refine w_cons (w_asgAttr (w_list (w_arg0 ⟨by simp, fun h5 pb ep e5 l5 z5 => ?_⟩)))
  have F5 := frKept F4 (Kept.of_ext (S := []) e5) (by simp) (by simp)
  refine w_nm F5.ns rfl ?_
  have hpd : pb ≠ d := by subst ep; exact Nat.ne_of_gt d4.lt
  refine w_setAttr (G4.ext e5).now.K (I4.ext e5) (d4.ext e5) (saC w) (poC w) (tkPb w) (hdC w) (by simp) (fun h6 d6 sb6 => w_nil ?_)
  have F6 := frChg F5 sb6 hLd hS
  refine k h6 pb t1 t2 d6 (l5.same sb6 hpd) ?_ (Kept.of_fr F6)
  have := F4.above
  rw [hideAll_size] at this
  subst ep
  exact Nat.le_of_lt (Nat.lt_of_le_of_lt this F4.ns.lt)

theorem gd_none {w : World} {mg mb : Str → Option Value} {H h : Heap} {a : Addr} (G : Gd w mg mb H h) (ha : h.objs.size ≤ a) : H.get? a = none := by
  cases e : H.get? a with
  | none => rfl
  | some o => exact absurd (Heap.lt_size (G.E _ _ e)) (Nat.not_lt.mpr ha)
theorem mk_makes (w : World) : makesIn (KH w) aCls = true := by kernel_rfl
theorem mk_init (w : World) : findIn (KH w) (.ref aCls) "__init__" = some (some (.ref aInit)) := by kernel_rfl
theorem mk_fn (w : World) : typeIn (KH w) (.ref aInit) = some (.type "function") := by kernel_rfl
/-- a lexer is made -/
theorem mk_call {n : Nat} {v : Value} {Q : Value → Heap → Prop} (G : Gd w mg mb H h) (ok : OkA (n + 2) A)
    (k : ∀ h' x d pb t1 t2, x = h.objs.size + 1 → d = h.objs.size → h.objs.size + 2 ≤ pb → Ins h' aCls x d → Dc h' d [(nLine, .int 1 t1), (nIns, v), (nWh, .str (S white) t2), (nPb, .ref pb)] → Ls h' pb [] → Ext h h' → Q (.ref x) h') :
    Wp (model prog w) A (call (.ref aCls) [v]) Q h := by
  refine w_make G.now.K (mk_makes w) (mk_init w) (mk_fn w) (fun x d h1 hx hd e1 I1 D1 z1 => ?_)
  have G1 := G.ext e1
  have hH : H.get? d = none := gd_none G (Nat.le_of_eq hd.symm)
  have hxd : x ≠ d := by subst hx; subst hd; exact Nat.succ_ne_self _
  refine in_call (n := n) G1 (OkA.make ok) I1 D1 hH hxd (fun h2 pb t1 t2 d2 l2 hp k2 => ⟨rfl, ?_⟩)
  refine k h2 x d pb t1 t2 hx hd (by rw [← z1]; exact hp) (k2 _ _ (by simpa using hxd) I1) d2 l2 ?_
  intro b o e
  exact k2 _ _ (by simp; intro q; subst q; subst hd; exact absurd (Heap.lt_size e) (Nat.lt_irrefl _)) (e1 _ _ e)
end
end Mine
end
section
open PySem PySem.W PyProof.Rows PySem.Calls
set_option Elab.async false
set_option maxRecDepth 100000
set_option linter.unusedVariables false
set_option linter.unusedSimpArgs false
namespace Mine
/-! ## tables of codes -/
theorem among_snoc {p : Pos} {a b : Int} {c : Value} (l : List Value) (h : TriplesOk l) :
    codeAmong p (l ++ [rawInt a, rawInt b, c]) = (codeAmong p l).or (if a == p.line && b == p.col then some c else none) := by
  fun_induction TriplesOk l with
  | case1 => simp [codeAmong, rawInt]
  | case2 a' t b' u x rest ih =>
    simp only [List.cons_append, codeAmong]
    split
    · simp
    · exact ih h
  | case3 l h1 h2 => exact h.elim
/-- a def's own table: what it holds for the places that matter -/
def TabP (H h : Heap) (P : Addr) (places : List (Pos × Str)) : Prop := ∃ ps, h.get? P = some (tabObj ps) ∧ TriplesOk ps.toList ∧
  ∀ q ∈ places, codeAmong q.1 ps.toList = none ∨ ∃ c', codeAmong q.1 ps.toList = some (.ref c') ∧ h.CodeRec (.ref c') q.2 ∧ H.get? c' = none ∧ c' ≠ P
theorem CodeRec.keptTo {h h' : Heap} {c : Addr} {q : Str} (x : h.CodeRec (.ref c) q) (k : ∀ o, h.get? c = some o → h'.get? c = some o) : h'.CodeRec (.ref c) q := by
  obtain ⟨c', o, vs, t, e, ho, r⟩ := x
  injection e with e
  subst e
  exact ⟨_, o, vs, t, rfl, k _ ho, r⟩
theorem CodeRec.fields {h : Heap} {c : Addr} {q : Str} (x : h.CodeRec (.ref c) q) : ∃ o vs, h.get? c = some o ∧ o.data = .fields vs := by
  obtain ⟨c', o, vs, t, e, ho, r⟩ := x
  injection e with e
  subst e
  exact ⟨o, vs, ho, r.1⟩
theorem TabP.kept {S : List Addr} {H h h' : Heap} {P : Addr} {places : List (Pos × Str)} (T : TabP H h P places) (k : Kept S h h') (hP : P ∉ S) (hS : ∀ i ∈ S, ∀ o vs, h.get? i = some o → o.data ≠ .fields vs) : TabP H h' P places := by
  obtain ⟨ps, e, t, r⟩ := T
  refine ⟨ps, k _ _ hP e, t, fun q hq => (r q hq).imp id fun ⟨c', e1, e2, e3⟩ => ⟨c', e1, CodeRec.keptTo e2 (fun o ho => k _ _ (fun m => ?_) ho), e3⟩⟩
  obtain ⟨o', vs, e4, e5⟩ := CodeRec.fields e2
  exact hS _ m o' vs e4 e5
theorem TabP.ext {H h h' : Heap} {P : Addr} {places : List (Pos × Str)} (T : TabP H h P places) (k : Ext h h') : TabP H h' P places := T.kept (Kept.of_ext (S := []) k) (by first | (with_reducible (first | exact im1 | exact im2 | exact im3 | exact sb0 | exact sb1 im1 | exact sb1 im2 | exact sb1 im3)) | exact nmc (adne (by decide)) nm0 | exact nmc (adne (by decide)) (nmc (adnn (by decide)) nm0) | simp) (by first | (with_reducible (first | exact im1 | exact im2 | exact im3 | exact sb0 | exact sb1 im1 | exact sb1 im2 | exact sb1 im3)) | exact nmc (adne (by decide)) nm0 | exact nmc (adne (by decide)) (nmc (adnn (by decide)) nm0) | simp)
theorem BuiltinsAt.ext {h h' : Heap} {mg : Str → Option Value} {P : Addr} (x : h.BuiltinsAt mg P) (k : Ext h h') : h'.BuiltinsAt mg P :=
  let ⟨bm, o, a, b, c, d, e, r⟩ := x; ⟨bm, o, a, b, c, d, k _ _ e, r⟩
section
variable {M : Model} {A : Around} {H h : Heap} {env : Env} {c P : Addr} {mg : Str → Option Value} {clos : List (Str × Addr)} {places : List (Pos × Str)} {name qual : Str} {params : Arguments} {body : List Stmt} {scope : Scope} {pos : Pos} {firstLine : Nat}
theorem w_makeFn {Q : Value → Heap → Prop} (T : TabP H h P places) (E : Ext H h) (hm : (pos, qual) ∈ places) (hsame : ∀ q ∈ places, q.1.line = pos.line → q.1.col = pos.col → q.2 = qual)
    (hcl : closureFor scope env = pure clos) (hg0 : env.globals = mainGlobals) (hg : h.Ns mainGlobals mg) (hcode : env.code = .ref c) (C : CodeHd h c P) (hb : h.BuiltinsAt mg P)
    (k : ∀ h' f c' ctv doc, Heap.ExtBut P h h' → TabP H h' P places → h.objs.size ≤ f → f < h'.objs.size → h'.get? f = some (fnMade name qual params body scope clos doc ((mg "__name__").getD .none) c' ctv) → h'.CodeRec (.ref c') qual → H.get? c' = none → c' ≠ f → c' ≠ P → Q (.ref f) h') :
    Wp M A (makeFunction name qual params (.stmts body) scope env [] [] [] pos firstLine) Q h := by
  intro s hs
  subst hs
  obtain ⟨ps, e, t, r⟩ := T
  have hgP : mainGlobals ≠ P := fun q => by
    obtain ⟨o, es, ep, e', hd, _⟩ := hg
    rw [q, e] at e'; cases e'; cases hd
  have hPlt := Heap.lt_size e
  rcases r _ hm with hn | ⟨c', hc', rec', hH, hcP⟩
  · refine makeFunction_K hcl hg0 hg hcode C e t hn hgP hb (fun c' ctv doc h' tk eb hge hlt hrec htab => ⟨⟨rfl, rfl⟩, ?_⟩)
    have hcP : c' ≠ P := by intro q; rw [q] at hge; exact absurd hPlt (Nat.not_lt.mpr hge)
    have hH : H.get? c' = none := by
      cases e' : H.get? c' with
      | none => rfl
      | some o => exact absurd (Heap.lt_size (E _ _ e')) (Nat.not_lt.mpr hge)
    have ebf : Heap.ExtBut P s.heap (h'.push (fnMade name qual params body scope clos doc ((mg "__name__").getD .none) c' ctv)) := fun b o nb eb' => Heap.get?_push_of_some _ (eb b o nb eb')
    refine k _ h'.objs.size c' ctv doc ebf ?_ (Nat.le_of_lt (Nat.lt_of_le_of_lt hge hlt)) (by first | (with_reducible (first | exact im1 | exact im2 | exact im3 | exact sb0 | exact sb1 im1 | exact sb1 im2 | exact sb1 im3)) | exact nmc (adne (by decide)) nm0 | exact nmc (adne (by decide)) (nmc (adnn (by decide)) nm0) | simp) (Heap.get?_push_size _ rfl) (CodeRec.keptTo hrec fun o ho => Heap.get?_push_of_some _ ho) hH (Nat.ne_of_lt hlt) hcP
    refine ⟨_, Heap.get?_push_of_some _ htab, by simpa using TriplesOk_snoc _ _ _ _ t, fun q hq => ?_⟩
    simp only [Array.toList_append]
    rw [among_snoc _ t]
    rcases r q hq with h1 | ⟨c2, h1, h2, h3, h4⟩
    · rw [h1]
      by_cases hq2 : ((pos.line : Int) == q.1.line && (pos.col : Int) == q.1.col) = true
      · rw [if_pos hq2]
        simp at hq2
        refine .inr ⟨c', rfl, ?_, hH, hcP⟩
        rw [hsame q hq (by lia) (by lia)]
        exact CodeRec.keptTo hrec fun o ho => Heap.get?_push_of_some _ ho
      · rw [if_neg hq2]; exact .inl rfl
    · rw [h1]
      exact .inr ⟨c2, rfl, CodeRec.keptTo h2 fun o ho => ebf _ _ h4 ho, h3, h4⟩
  · refine makeFunction_hit hcl hg0 hg hcode C e t hc' hb (fun ctv doc h' tk hk hsz => ⟨⟨rfl, rfl⟩, ?_⟩)
    have ex : Ext s.heap (h'.push (fnMade name qual params body scope clos doc ((mg "__name__").getD .none) c' ctv)) := fun b o e' => Heap.get?_push_of_some _ (hk b o e')
    refine k _ h'.objs.size c' ctv doc (fun b o _ e' => ex b o e') (TabP.ext ⟨ps, e, t, r⟩ ex) hsz (by first | (with_reducible (first | exact im1 | exact im2 | exact im3 | exact sb0 | exact sb1 im1 | exact sb1 im2 | exact sb1 im3)) | exact nmc (adne (by decide)) nm0 | exact nmc (adne (by decide)) (nmc (adnn (by decide)) nm0) | simp) (Heap.get?_push_size _ rfl) (CodeRec.keptTo rec' fun o ho => ex _ _ ho) hH ?_ hcP
    obtain ⟨o', vs, e4, e5⟩ := CodeRec.fields rec'
    exact Nat.ne_of_lt (Nat.lt_of_lt_of_le (Heap.lt_size e4) hsz)
theorem w_def {Q : Flow → Heap → Prop} (hd0 : params.defaults = []) (hk0 : params.kw_defaults = []) (ha : annTrees params none env = [])
    (x : Wp M A (makeFunction name (qualnameIn env name name) params (.stmts body) scope env [] [] [] pos pos.line) (fun v h' => Wp M A (storeName env name v) (fun _ h'' => Q .next h'') h') h) :
    Wp M A (exec (.FunctionDef name params body [] none [] scope none name pos) env) Q h := by
  intro s hs
  refine nestDef_K hd0 hk0 ha (wpAny_mono (x s hs) (fun v s' y => ?_) fun _ _ z => z)
  exact wpAny_mono (y.2 s' rfl) (fun u s'' z => ⟨⟨z.1.1.trans y.1.1, z.1.2.trans y.1.2⟩, z.2⟩) fun _ _ z => z
end
/-! ## frames with cells -/
section
variable {prog : Program} {w : World} {A : Around} {h : Heap}
theorem c_callC {fa : Addr} {o : Obj} {fd : FuncData} {body : List Stmt} {vals : List Value} {binds : List (Str × Value)} {Q : Value → Heap → Prop}
    (hroom : A.depth < recursionLimit) (ho : h.get? fa = some o) (hd : o.data = .func fd) (hlim : h.NoLimit) (hcd : h.CodeRec fd.code fd.qualname) (hbody : fd.body = .stmts body)
    (hbind : bindArgs fd ⟨vals, []⟩ = pure binds) (hclo : fd.closure = [])
    (hkind : ∀ L, ∀ x ∈ binds, fd.scope.names.lookup x.1 = some .local ∨ (fd.scope.names.lookup x.1 = some .cell ∧ ((cellsFrom (L + 1) fd.scope.names []).lookup x.1).isSome = true))
    (x : ∀ L h₁, L = h.objs.size → Fr h L h₁ (bindL (callEnvC fd L fa).kindOf binds fun _ => none) → (∀ n c, (callEnvC fd L fa).cells.lookup n = some c → h₁.IsCell c (bindC (callEnvC fd L fa).kindOf binds (fun _ => none) n)) →
      Wp (model prog w) (A.deeper (callEnvC fd L fa)) (execs body (callEnvC fd L fa)) (fun f h' => Q (match f with | .ret v => v | _ => .none) h') h₁)
    (hco : fd.scope.isCoroutine = false := by rfl) (hgen : fd.scope.isGenerator = false := by rfl) (hk : fd.scope.kind = .function := by rfl) :
    Wc (model prog w) A (.call (.ref fa) ⟨vals, []⟩) Q h := by
  intro s hs
  subst hs
  refine codeAny_call_cells hroom ho hd hlim hcd hbody hbind hclo (hkind _) (fun s₁ I => ?_) hco hgen hk
  obtain ⟨⟨⟨h1, tk, rfl⟩, ns, keep, fresh⟩, cell, apart, above⟩ := I
  refine Wp.run (x _ _ rfl ⟨ns, keep, fresh⟩ cell) (fun f s' o1 g1 y => ⟨⟨o1, g1⟩, y⟩)
end
end Mine
end
section
open PySem PySem.W PyProof.Rows PySem.Calls
set_option Elab.async false
set_option maxRecDepth 100000
set_option linter.unusedVariables false
set_option linter.unusedSimpArgs false
namespace Mine
section
variable {prog : Program} {w : World} {A : Around} {h H : Heap} {mg mb : Str → Option Value}
theorem kpCls (G : G0 w mg mb h) : Kp (model prog w) h (.ref aCls) := by
  refine ⟨.machine, ?_⟩
  obtain ⟨cd, hd⟩ : ∃ cd, (objAt w aCls).data = .cls cd := ⟨_, rfl⟩
  have ho : h.get? aCls = some (objAt w aCls) := G.K _ _ (by kernel_rfl)
  have hs : Looks (model prog w) h (specialOf (.ref aCls) "__call__") (some (.builtin "type.__call__")) := looks_specialIn G.K (by kernel_rfl)
  intro A Q E s k q
  unfold keeperOf
  refine wpAny_bind (wpAny_load (k _ _ ho) ?_)
  rw [hd]
  exact wpAny_bind (hs _ _ _ _ k (wpAny_pure q))
noncomputable def rdPos (w : World) : Pos := match rdStmt w with
  | .FunctionDef _ _ _ _ _ _ _ _ _ p => p
  | _ => ⟨0, 0, 0, 0⟩
abbrev tabS : Addr := 94
/-- what a stream is -/
structure StrC (w : World) (h : Heap) (st sd f c ct cp pl : Addr) (text : List Nat) : Prop where
  ist : Ins h aCls st sd
  sd : ∃ kvs, Dc h sd kvs ∧ kvGet nRead kvs = some (.ref f)
  fn : ∃ doc pm ctv, h.get? f = some { cls := .type "function", data := .func (rdFd w ct cp doc pm c ctv) }
  cd : h.CodeRec (.ref c) rdQual
  ct : ∃ t, h.IsCell ct (some (.str (S text) t))
  cp : h.IsCell cp (some (.ref pl))
  pl : ∃ t, h.IsList pl [Value.int 0 t].toArray
set_option maxHeartbeats 4000000 in
theorem str_call {n : Nat} {text : List Nat} {t0 : Tok} {Q : Value → Heap → Prop} (G : Gd w mg mb H h) (ok : OkA (n + 3) A) (T : TabP H h tabS [(rdPos w, rdQual)]) (C : CodeHd H 98 tabS) (hb : H.BuiltinsAt mg tabS) (hP : H.get? tabS = none)
    (k : ∀ h' st sd f c ct cp pl, StrC w h' st sd f c ct cp pl text → (∀ i ∈ [st, sd, f, ct, cp, pl], h.objs.size ≤ i) → [st, sd, f, ct, cp, pl].Nodup → H.get? c = none → Kept [tabS] h h' → TabP H h' tabS [(rdPos w, rdQual)] → Q (.ref st) h') :
    Wc (model prog w) A (.call (.ref aStream) ⟨[.str (S text) t0], []⟩) Q h := by
  have hE := G.E
  have hPlt : tabS < h.objs.size := by obtain ⟨ps, e, _⟩ := T; exact Heap.lt_size e
  refine c_callC (fd := fnAt w aStream) (body := bodyAt w aStream) (binds := [(nText, .str (S text) t0)]) (by have := ok.depth; omega) (G.now.K _ _ (by kernel_rfl : (KH w).lookup aStream = some (objAt w aStream))) (by kernel_rfl) G.now.lim
    (codeRec_of G.now.K (by kernel_rfl)) (by kernel_rfl) (by kernel_rfl) (by kernel_rfl) (fun L x hx => ?_) (fun L h₁ hL F cell => ?_)
  · simp only [List.mem_singleton] at hx; subst hx; exact .inr ⟨by kernel_rfl, by rfl⟩
  have ok' : OkA (n + 2) (A.deeper (callEnvC (fnAt w aStream) L aStream)) := ok.deeper _
  have c1 : h₁.IsCell (L + 1) (some (.str (S text) t0)) := cell nText _ rfl
  have c2 : h₁.IsCell (L + 1 + 1) none := cell nPlace _ rfl
  have F : Fr h L h₁ (fun _ => none) := F
  clear cell
  refine w_cons (w_asg (w_list (w_arg (w_cInt fun tz => w_arg0 ⟨by simp [sizeLine_eq], fun h2 pl ep e2 l2 z2 => ?_⟩))))
  have c2' : h2.IsCell (L + 1 + 1) none := let ⟨o, a, b⟩ := c2; ⟨o, e2 _ _ a, b⟩
  have c1' : h2.IsCell (L + 1) (some (.str (S text) t0)) := let ⟨o, a, b⟩ := c1; ⟨o, e2 _ _ a, b⟩
  have hlt1 : L + 1 < h₁.objs.size := let ⟨o, a, b⟩ := c1; Heap.lt_size a
  have hlt2 : L + 1 + 1 < h₁.objs.size := let ⟨o, a, b⟩ := c2; Heap.lt_size a
  refine w_storeC (c := L + 1 + 1) rfl c2' (fun h3 c3 sb3 => ?_)
  have hLh : h.objs.size ≤ L := F.above
  have hL1 : h.objs.size ≤ L + 1 := Nat.le_succ_of_le hLh
  have hL2 : h.objs.size ≤ L + 1 + 1 := Nat.le_succ_of_le hL1
  have hne2 : L + 1 + 1 ≠ L := fun q => by have : L + 1 + 1 = L + 0 := q; omega
  have hTL : tabS ≠ L := Nat.ne_of_lt (Nat.lt_of_lt_of_le hPlt hLh)
  have hT1 : tabS ≠ L + 1 := Nat.ne_of_lt (Nat.lt_of_lt_of_le hPlt hL1)
  have hT2 : tabS ≠ L + 1 + 1 := Nat.ne_of_lt (Nat.lt_of_lt_of_le hPlt hL2)
  have F2 := frKept F (Kept.of_ext (S := []) e2) (by first | (with_reducible (first | exact im1 | exact im2 | exact im3 | exact sb0 | exact sb1 im1 | exact sb1 im2 | exact sb1 im3)) | exact nmc (adne (by decide)) nm0 | exact nmc (adne (by decide)) (nmc (adnn (by decide)) nm0) | simp) (by first | (with_reducible (first | exact im1 | exact im2 | exact im3 | exact sb0 | exact sb1 im1 | exact sb1 im2 | exact sb1 im3)) | exact nmc (adne (by decide)) nm0 | exact nmc (adne (by decide)) (nmc (adnn (by decide)) nm0) | simp)
  have F3 := frHid (frChg F2 sb3 hne2 (get_none hL2)) [tabS]
  have hSP : ∀ i ∈ [tabS], (hideAll h [tabS]).get? i = none := fun i hi => hideAll_none _ hi
  have G3 : Gd w mg mb H h3 := (G.hid (S := [tabS]) (by simpa using hP)).ext F3.keep
  have T3 : TabP H h3 tabS [(rdPos w, rdQual)] := ((T.ext F.keep).ext e2).kept (Kept.of_same sb3 (List.mem_singleton.mpr rfl)) (by simpa using hT2) (by
    intro i hi o vs ho hv
    simp only [List.mem_singleton] at hi
    subst hi
    obtain ⟨o', a, b⟩ := c2'
    rw [a] at ho; cases ho; rw [b] at hv; cases hv)
  refine w_cons (w_def (by kernel_rfl) (by kernel_rfl) (by rfl) ?_)
  refine w_makeFn (c := 98) (qual := rdQual) T3 G3.E (List.mem_singleton.mpr rfl) (by intro q hq _ _; simp only [List.mem_singleton] at hq; subst hq; rfl) (clos := [(nText, L + 1), (nPlace, L + 1 + 1)]) (by rfl) rfl G3.now.g rfl (C.keeps G3.E) (BuiltinsAt.ext hb G3.E) (fun h4 f c' ctv doc eb T4 hf1 hf2 hfn hrec hHc hcf hcP => ?_)
  have k4 : Kept [tabS] h3 h4 := fun b o n e => eb b o (by simpa using n) e
  have F4 := frKept F3 k4 hSP (by simpa using hTL.symm)
  have G4 := G3.kept k4 (by simpa using hP)
  have hs3 : h3.objs.size = h2.objs.size := sb3.1
  have l3 : Ls h3 pl [Value.int 0 tz] := l2.same sb3 (by subst ep; exact (Nat.ne_of_lt hlt2).symm)
  refine w_stS F4 (fun h5 F5 sb5 => ?_)
  have G5 : Gd w mg mb H h5 := (G.hid (S := [tabS]) (by simpa using hP)).ext F5.keep
  refine w_cons (w_asg (w_callN (w_gK G5.now (v := .ref aCls) (by kernel_rfl) (w_args (w_arg (w_cNone (w_arg0 (w_kw0 ⟨kpCls G5.now, ?_⟩))))))))
  refine mk_call (n := n) G5 ok' (fun h6 x d pb t1 t2 hx hd hpb I6 D6 L6 e6 => ?_)
  have F6 := frKept F5 (Kept.of_ext (S := []) e6) (by first | (with_reducible (first | exact im1 | exact im2 | exact im3 | exact sb0 | exact sb1 im1 | exact sb1 im2 | exact sb1 im3)) | exact nmc (adne (by decide)) nm0 | exact nmc (adne (by decide)) (nmc (adnn (by decide)) nm0) | simp) (by first | (with_reducible (first | exact im1 | exact im2 | exact im3 | exact sb0 | exact sb1 im1 | exact sb1 im2 | exact sb1 im3)) | exact nmc (adne (by decide)) nm0 | exact nmc (adne (by decide)) (nmc (adnn (by decide)) nm0) | simp)
  have hLlt : L < h5.objs.size := F5.ns.lt
  have hdL : d ≠ L := by subst hd; exact (Nat.ne_of_lt hLlt).symm
  have hxL : x ≠ L := by subst hx; exact (Nat.ne_of_lt (Nat.lt_succ_of_lt hLlt)).symm
  have hxd : x ≠ d := by subst hx; subst hd; exact Nat.succ_ne_self _
  refine w_stS F6 (fun h7 F7 sb7 => ?_)
  have G7 : Gd w mg mb H h7 := (G.hid (S := [tabS]) (by simpa using hP)).ext F7.keep
  have hs5 : h5.objs.size = h4.objs.size := sb5.1
  have hbig : h.objs.size ≤ h5.objs.size := Nat.le_of_lt (Nat.lt_of_le_of_lt hLh hLlt)
  have hdb : (hideAll h [tabS]).get? d = none := get_none (by rw [hideAll_size, hd]; exact hbig)
  refine w_cons (w_asgAttr (w_nm F7.ns rfl (w_nm F7.ns rfl ?_)))
  refine w_setAttr G7.now.K (I6.same sb7 hxL) (D6.same sb7 hdL) (saC w) (poC w) (tkRead w) (hdC w) (by first | (with_reducible (first | exact im1 | exact im2 | exact im3 | exact sb0 | exact sb1 im1 | exact sb1 im2 | exact sb1 im3)) | exact nmc (adne (by decide)) nm0 | exact nmc (adne (by decide)) (nmc (adnn (by decide)) nm0) | simp) (fun h8 d8 sb8 => ?_)
  have F8 := frChg F7 sb8 hdL hdb
  refine w_cons (w_ret (w_nm F8.ns rfl ?_))
  have k48 : Kept [L, d] h4 h8 := (((Kept.of_same sb5 (by first | (with_reducible (first | exact im1 | exact im2 | exact im3 | exact sb0 | exact sb1 im1 | exact sb1 im2 | exact sb1 im3)) | exact nmc (adne (by decide)) nm0 | exact nmc (adne (by decide)) (nmc (adnn (by decide)) nm0) | simp)).trans (Kept.of_ext e6)).trans (Kept.of_same sb7 (by first | (with_reducible (first | exact im1 | exact im2 | exact im3 | exact sb0 | exact sb1 im1 | exact sb1 im2 | exact sb1 im3)) | exact nmc (adne (by decide)) nm0 | exact nmc (adne (by decide)) (nmc (adnn (by decide)) nm0) | simp))).trans (Kept.of_same sb8 (by first | (with_reducible (first | exact im1 | exact im2 | exact im3 | exact sb0 | exact sb1 im1 | exact sb1 im2 | exact sb1 im3)) | exact nmc (adne (by decide)) nm0 | exact nmc (adne (by decide)) (nmc (adnn (by decide)) nm0) | simp))
  have k38 : Kept [tabS, L, d] h3 h8 := (k4.mono (by first | (with_reducible (first | exact im1 | exact im2 | exact im3 | exact sb0 | exact sb1 im1 | exact sb1 im2 | exact sb1 im3)) | exact nmc (adne (by decide)) nm0 | exact nmc (adne (by decide)) (nmc (adnn (by decide)) nm0) | simp)).trans (k48.mono (by first | (with_reducible (first | exact im1 | exact im2 | exact im3 | exact sb0 | exact sb1 im1 | exact sb1 im2 | exact sb1 im3)) | exact nmc (adne (by decide)) nm0 | exact nmc (adne (by decide)) (nmc (adnn (by decide)) nm0) | simp))
  have hpl : pl = h₁.objs.size := ep
  have hz2 : h2.objs.size = h₁.objs.size + 1 := z2
  have o1 : L + 1 < pl := by rw [hpl]; exact hlt1
  have o2 : L + 1 + 1 < pl := by rw [hpl]; exact hlt2
  have o3 : pl < f := Nat.lt_of_lt_of_le (show pl < h3.objs.size by rw [hs3, hz2, hpl]; exact Nat.lt_succ_self _) hf1
  have o4 : f < d := by rw [hd, hs5]; exact hf2
  have o5 : d < x := by rw [hd, hx]; exact Nat.lt_succ_self _
  have o6 : tabS < L := Nat.lt_of_lt_of_le hPlt hLh
  have cellK : ∀ {b v}, h3.IsCell b v → b ∉ [tabS, L, d] → h8.IsCell b v := fun ⟨o, a, b⟩ hn => ⟨o, k38 _ _ hn a, b⟩
  have c13 : h3.IsCell (L + 1) (some (.str (S text) t0)) := let ⟨o, a, b⟩ := c1'; ⟨o, (sb3.2 _ (by exact Nat.ne_of_lt (Nat.lt_succ_self _))).trans a, b⟩
  obtain ⟨oc, vsc, ec, dc⟩ := CodeRec.fields hrec
  have hcd : c' ∉ [L, d] := by
    simp only [List.mem_cons, List.not_mem_nil, or_false, not_or]
    refine ⟨fun q => ?_, fun q => ?_⟩
    · subst q
      obtain ⟨o, es, epo, e', hd', _⟩ := F4.ns
      rw [ec] at e'; cases e'; rw [dc] at hd'; cases hd'
    · have := Heap.lt_size ec
      rw [q, hd, hs5] at this
      exact Nat.lt_irrefl _ this
  simp only [Addr] at *
  refine k h8 x d f c' (L + 1) (L + 1 + 1) pl ⟨(I6.same sb7 hxL).same sb8 hxd, ⟨_, d8, rfl⟩, ⟨doc, _, ctv, k48 _ _ ?_ hfn⟩, CodeRec.kept hrec k48 hcd, ⟨t0, cellK c13 ?_⟩, cellK c3 ?_, ⟨tz, IsList.kept l3.isList k38 ?_⟩⟩ ?_ ?_ hHc (Kept.of_fr F8) ?_
  · simp only [List.mem_cons, List.not_mem_nil, or_false, not_or, Addr]; refine ⟨?_, ?_⟩ <;> omega
  · simp only [List.mem_cons, List.not_mem_nil, or_false, not_or, Addr]; refine ⟨?_, ?_, ?_⟩ <;> omega
  · simp only [List.mem_cons, List.not_mem_nil, or_false, not_or, Addr]; refine ⟨?_, ?_, ?_⟩ <;> omega
  · simp only [List.mem_cons, List.not_mem_nil, or_false, not_or, Addr]; refine ⟨?_, ?_, ?_⟩ <;> omega
  · intro i hi
    simp only [List.mem_cons, List.not_mem_nil, or_false, not_or, Addr] at hi
    omega
  · simp only [List.nodup_cons, List.mem_cons, List.not_mem_nil, or_false, not_or, List.nodup_nil, and_true, not_false_eq_true, Addr]
    omega
  · have T5 := T4.kept (Kept.of_same (S := [L]) sb5 (by first | (with_reducible (first | exact im1 | exact im2 | exact im3 | exact sb0 | exact sb1 im1 | exact sb1 im2 | exact sb1 im3)) | exact nmc (adne (by decide)) nm0 | exact nmc (adne (by decide)) (nmc (adnn (by decide)) nm0) | simp)) (by simp only [List.mem_singleton, Addr]; omega) (by
      intro i hi o vs ho hv
      simp only [List.mem_singleton] at hi
      subst hi
      obtain ⟨o', es, epo, e', hd', _⟩ := F4.ns
      rw [ho] at e'; cases e'; rw [hv] at hd'; cases hd')
    have T7 := (T5.ext e6).kept (Kept.of_same (S := [L]) sb7 (by first | (with_reducible (first | exact im1 | exact im2 | exact im3 | exact sb0 | exact sb1 im1 | exact sb1 im2 | exact sb1 im3)) | exact nmc (adne (by decide)) nm0 | exact nmc (adne (by decide)) (nmc (adnn (by decide)) nm0) | simp)) (by simp only [List.mem_singleton, Addr]; omega) (by
      intro i hi o vs ho hv
      simp only [List.mem_singleton] at hi
      subst hi
      obtain ⟨o', es, epo, e', hd', _⟩ := F6.ns
      rw [ho] at e'; cases e'; rw [hv] at hd'; cases hd')
    refine T7.kept (Kept.of_same (S := [d]) sb8 (by first | (with_reducible (first | exact im1 | exact im2 | exact im3 | exact sb0 | exact sb1 im1 | exact sb1 im2 | exact sb1 im3)) | exact nmc (adne (by decide)) nm0 | exact nmc (adne (by decide)) (nmc (adnn (by decide)) nm0) | simp)) (by simp only [List.mem_singleton, Addr]; omega) (by
      intro i hi o vs ho hv
      simp only [List.mem_singleton] at hi
      subst hi
      obtain ⟨es, n', e', _⟩ := D6.same sb7 hdL
      rw [ho] at e'; cases e'; cases hv)
end
end Mine
end
section
open PySem PySem.W PyProof.Rows PySem.Calls
set_option Elab.async false
set_option maxRecDepth 100000
set_option linter.unusedVariables false
set_option linter.unusedSimpArgs false
namespace Mine
theorem lsKept {S : List Addr} {h h' : Heap} {l : Addr} {vs : List Value} (hl : Ls h l vs) (k : Kept S h h') (hn : l ∉ S) : Ls h' l vs := let ⟨n, e⟩ := hl; ⟨n, k _ _ hn e⟩
section
variable {prog : Program} {w : World} {A : Around} {h : Heap} {env : Env}
theorem w_asgUsed {x : Str} {pos' : Pos} {value : Expr} {pos : Pos} {Q : Flow → Heap → Prop} (hs : swapsWith value (some (.Name x pos')) pos.line env = pure true)
    (y : Wp (model prog w) A (evalThenUse value env (assign (.Name x pos') env)) (fun _ => Q .next) h) : Wp (model prog w) A (exec (.Assign [.Name x pos'] value pos) env) Q h := by
  rw [exec_Assign_Name_used x pos' value pos hs]
  exact w_bind (w_standAt (w_bind (y.mono fun _ _ z => w_pure z)))
end
end Mine
end
section
open PySem PySem.W PyProof.Rows PySem.Calls
set_option Elab.async false
set_option maxRecDepth 100000
set_option linter.unusedVariables false
set_option linter.unusedSimpArgs false
namespace Mine
/-! ## lists of texts -/
def Strs : List Value → List (List Nat) → Prop
  | [], [] => True
  | y :: ys, t :: ts => (∃ k, y = .str (S t) k) ∧ Strs ys ts
  | _, _ => False
theorem Strs.append {ys zs : List Value} {ts us : List (List Nat)} (x : Strs ys ts) (y : Strs zs us) : Strs (ys ++ zs) (ts ++ us) := by
  induction ys generalizing ts with
  | nil => cases ts with | nil => exact y | cons t ts => exact x.elim
  | cons v ys ih => cases ts with | nil => exact x.elim | cons t ts => exact ⟨x.1, ih x.2⟩
theorem Strs.one {t : List Nat} {k : Tok} : Strs [.str (S t) k] [t] := ⟨⟨k, rfl⟩, trivial⟩
theorem Strs.length {ys : List Value} {ts : List (List Nat)} (x : Strs ys ts) : ys.length = ts.length := by
  induction ys generalizing ts with
  | nil => cases ts with | nil => rfl | cons t ts => exact x.elim
  | cons v ys ih => cases ts with | nil => exact x.elim | cons t ts => simp [ih x.2]
theorem Strs.get {ys : List Value} {ts : List (List Nat)} (x : Strs ys ts) {i : Nat} {t : List Nat} (h : ts[i]? = some t) : ∃ k, ys[i]? = some (.str (S t) k) := by
  induction ys generalizing ts i with
  | nil => cases ts with | nil => simp at h | cons t ts => exact x.elim
  | cons v ys ih =>
    cases ts with
    | nil => exact x.elim
    | cons t' ts =>
      obtain ⟨⟨k, rfl⟩, x⟩ := x
      cases i with
      | zero => simp at h; subst h; exact ⟨k, rfl⟩
      | succ i => simp at h ⊢; exact ih x h
theorem Strs.vals {ys : List Value} {ts : List (List Nat)} (x : Strs ys ts) : ∃ l, ys = PySem.strValues l ∧ l.map (·.1) = ts.map S := by
  induction ys generalizing ts with
  | nil => cases ts with | nil => exact ⟨[], rfl, rfl⟩ | cons t ts => exact x.elim
  | cons v ys ih =>
    cases ts with
    | nil => exact x.elim
    | cons t ts =>
      obtain ⟨⟨k, rfl⟩, x⟩ := x
      obtain ⟨l, rfl, e⟩ := ih x
      exact ⟨(S t, k) :: l, rfl, by simp [e]⟩
theorem glued_flat : ∀ (ts : List (List Nat)), Builtin.Str.glued (S []) (ts.map S) = S ts.flatten := by
  intro ts
  have fold : ∀ (l : List (List Nat)) (acc : List Nat), (l.map S).foldl (fun acc p => acc ++ (S []).cps ++ p.cps) acc.toArray = (acc ++ l.flatten).toArray := by
    intro l
    induction l with
    | nil => intro acc; simp
    | cons t l ih =>
      intro acc
      simp only [List.map_cons, List.foldl_cons, List.flatten_cons]
      have : acc.toArray ++ (S []).cps ++ (S t).cps = (acc ++ t).toArray := by simp [S]
      rw [this, ih]
      simp
  cases ts with
  | nil => rfl
  | cons t ts =>
    unfold Builtin.Str.glued
    simp only [List.map_cons, List.drop_one, List.tail_cons, List.headD_cons]
    have := fold ts t
    rw [this]
    simp
theorem flat_le {B : Nat} : ∀ (ts : List (List Nat)), (∀ y ∈ ts, y.length ≤ B) → ts.flatten.length ≤ ts.length * B
  | [], _ => by simp
  | t :: ts, hB => by
    have h1 := hB t (List.mem_cons_self ..)
    have h2 := flat_le ts (fun y hy => hB y (List.mem_cons_of_mem _ hy))
    simp only [List.flatten_cons, List.length_append, List.length_cons, Nat.succ_mul]
    omega
section
variable {prog : Program} {w : World} {A : Around} {h : Heap} {env : Env}
theorem w_join {a : Addr} {ys : List Value} {ts : List (List Nat)} {t : Tok} {Q : Value → Heap → Prop} (hl : h.IsList a ys.toArray) (hs : Strs ys ts) {B : Nat} (hB : ∀ y ∈ ts, y.length ≤ B) (hz : ts.length * B ≤ 16777216)
    (k : ∀ t, Q (.str (S ts.flatten) t) h) : Wp (model prog w) A (call (.builtin "str.join") [.str (S []) t, .ref a]) Q h := fun s hs' => by
  subst hs'
  obtain ⟨l, rfl, e⟩ := hs.vals
  have hfit : Builtin.Str.tooLong ((l.map (·.1)).toArray.foldl (· + ·.length + (S []).length) 0) = false := by
    refine StrLaws.joinFits (B := B) (fun y hy => ?_) ?_
    · rw [e] at hy
      obtain ⟨y', hy', rfl⟩ := List.mem_map.mp hy
      rw [S_length]; exact hB _ hy'
    · have : (l.map (·.1)).length = ts.length := by rw [e]; simp
      rw [this]
      have : (S []).length = 0 := rfl
      rw [this]; simpa using hz
  refine call_meets PySem.F.slot_str_join (typeIs_str _ _ _) PySem.F.entry_str_join (PySem.F.args_str_join_2 _ _) (PySem.meets_str_join_list (S []) t a l hfit) ⟨hl, ?_⟩
  have hg := glued_flat ts
  rw [← e] at hg
  have hfl : (S ts.flatten).length ≤ sizeLine := by
    rw [S_length, sizeLine_eq]
    have := flat_le ts hB
    omega
  match l, e, hg with
  | [], e, hg => exact ⟨by rw [show Builtin.Str.glued (S []) _ = _ from hg]; exact hfl, ⟨⟨rfl, rfl⟩, hg ▸ k _⟩⟩
  | [p], e, hg =>
    have hp : p.1 = S ts.flatten := by rw [← hg]; rfl
    show (s.os = s.os ∧ s.gens = s.gens) ∧ Q (.str p.1 p.2) s.heap
    rw [hp]; exact ⟨⟨rfl, rfl⟩, k _⟩
  | p :: q :: r, e, hg => exact ⟨by rw [show Builtin.Str.glued (S []) _ = _ from hg]; exact hfl, ⟨⟨rfl, rfl⟩, hg ▸ k _⟩⟩
theorem w_iterList {l : Addr} {items : Array Value} {Q : Value → Heap → Prop} (hh : A.handled = none) (hl : h.IsList l items)
    (k : ∀ h' I, I = h.objs.size → Ext h h' → h'.objs.size = h.objs.size + 1 → Walks prog w A I [I, l] [I] items.size (fun i v => items[i]? = some v) (fun i h => h.IsListIter I l i ∧ h.IsList l items) → (h'.IsListIter I l 0 ∧ h'.IsList l items) → Q (.ref I) h') :
    Wp (model prog w) A (pyIter (.ref l)) Q h := fun s hs => by
  subst hs
  have hlt : l < s.heap.objs.size := let ⟨o, e, _⟩ := hl; Heap.lt_size e
  refine wpAny_pyIter_list hl ⟨⟨rfl, rfl⟩, k _ _ rfl (Ext.push _ _) (by simp) (Walks.list hh _ _ (Nat.ne_of_lt hlt) _) ⟨⟨_, Heap.get?_push_size _ rfl, rfl, rfl⟩, IsList.ext hl (Ext.push _ _)⟩⟩
theorem w_range {n : Nat} {t : Tok} {Q : Value → Heap → Prop} (k : ∀ h' a t1 t2 t3, a = h.objs.size → Ext h h' → h'.objs.size = h.objs.size + 1 → IsRange h' a 0 n 1 t1 t2 t3 → Q (.ref a) h') :
    Wp (model prog w) A (call (.type "range") [.int n t]) Q h := fun s hs => by
  subst hs
  exact call_range_1 ⟨⟨rfl, rfl⟩, k _ _ _ _ _ rfl (Ext.push _ _) (by simp) (IsRange.new ..)⟩
end
end Mine
end
section
open PySem PySem.W PyProof.Rows PySem.Calls
set_option Elab.async false
set_option maxRecDepth 100000
set_option linter.unusedVariables false
set_option linter.unusedSimpArgs false
namespace Mine
/-! ## iterators, a body's view -/
section
variable {prog : Program} {w : World} {A : Around} {h : Heap} {env : Env}
structure IterW (prog : Program) (w : World) (A : Around) (target : Expr) (I : Addr) (fp wr : List Addr) (n : Nat) (P : Nat → Value → Heap → Prop) (St : Nat → Heap → Prop) : Prop where
  sub : ∀ b ∈ wr, b ∈ fp
  top : ∀ b ∈ wr, b ≤ I
  live : ∀ i h, St i h → ∃ o, h.get? I = some o
  frame : ∀ i h h', St i h → (∀ b ∈ fp, ∀ o, h.get? b = some o → h'.get? b = some o) → St i h'
  item : ∀ i h (Q : Value → Heap → Prop), i < n → St i h → (∀ v h', P i v h' → St (i + 1) h' → Kept wr h h' → Q v h') →
    Wp (model prog w) A (pyNext (.ref I)) (fun r h1 => ∃ v, r = some v ∧ Wp (model prog w) A (letOwnedTupleGo target (.ref I) v) (fun _ h' => Q v h') h1) h
  done : ∀ h (Q : Heap → Prop), St n h → (∀ h', Kept wr h h' → Q h') → Wp (model prog w) A (pyNext (.ref I)) (fun r h' => r = none ∧ Q h') h
  self : ∀ (s : Shared) (Q : Value → Shared → Prop) (E : Value → Shared → Prop), St 0 s.heap → Q (.ref I) s → wpAny (model prog w) A (pyIter (.ref I)) Q E s
theorem IterW.lt {prog : Program} {w : World} {A : Around} {target : Expr} {I : Addr} {fp wr : List Addr} {n : Nat} {P : Nat → Value → Heap → Prop} {St : Nat → Heap → Prop} (W : IterW prog w A target I fp wr n P St) (i : Nat) (h : Heap) (st : St i h) : I < h.objs.size := let ⟨o, e⟩ := W.live i h st; Heap.lt_size e
/-- a tree that ends in an iterator over n things -/
def Iter (prog : Program) (w : World) (A : Around) (target : Expr) (K : (Value → Heap → Prop) → Prop) (n : Nat) (P : Nat → Value → Heap → Prop) (old : List Addr) (h : Heap) : Prop :=
  ∀ Q : Value → Heap → Prop, (∀ I fp wr St h2, IterW prog w A target I fp wr n P St → St 0 h2 → Ext h h2 → h.objs.size ≤ I → (∀ b ∈ wr, h.objs.size ≤ b) → (∀ b ∈ fp, b ∈ old ∨ (h.objs.size ≤ b ∧ b ≤ I)) → Q (.ref I) h2) → K Q
def isTupT : Expr → Bool
  | .Tuple .. => true
  | _ => false
def isNameT : Expr → Bool
  | .Name .. => true
  | _ => false
theorem letOwn_name {target : Expr} (ht : isNameT target = true) (it v : Value) : letOwnedTupleGo target it v = pure () := by
  cases target <;> first | rfl | (simp [isNameT] at ht)
theorem w_letOwnList {target : Expr} {I l : Addr} {i : Nat} {v : Value} {Q : Unit → Heap → Prop} (ht : isNameT target = true ∨ isTupT target = true) (hit : h.IsListIter I l i) (k : Q () h) :
    Wp (model prog w) A (letOwnedTupleGo target (.ref I) v) Q h := by
  rcases ht with ht | ht
  · rw [letOwn_name ht]; exact w_pure k
  · cases target <;> first | (simp [isTupT] at ht; done) | skip
    cases v with
    | ref T => exact fun s hs => by subst hs; exact wpAny_letOwnedTupleGo_listiter hit ⟨⟨rfl, rfl⟩, k⟩
    | _ => exact w_pure k
theorem iterList {target : Expr} {l : Addr} {items : List Value} (ht : isNameT target = true ∨ isTupT target = true) (hh : A.handled = none) (hl : h.IsList l items.toArray) :
    Iter prog w A target (fun Q => Wp (model prog w) A (pyIter (.ref l)) Q h) items.length (fun i v _ => items[i]? = some v) [l] h := by
  intro Q k
  refine w_iterList hh hl (fun h' I hI e z W st => ?_)
  have hlt : l < h.objs.size := let ⟨o, e, _⟩ := hl; Heap.lt_size e
  refine k I [I, l] [I] (fun i h => h.IsListIter I l i ∧ h.IsList l items.toArray) h' ⟨W.sub, by simp, fun i h st => ?_, W.frame, fun i h Q hi st hQ s hs => ?_, fun h Q st hQ s hs => ?_, fun s Q E st hQ => W.self 0 s Q E st hQ⟩ st e (Nat.le_of_eq hI.symm) (by simp [hI]) ?_
  · obtain ⟨o, e, _⟩ := st.1; exact ⟨_, e⟩
  · subst hs
    refine W.item i s _ _ (by simpa using hi) st (fun v h' tk hp st' kk => ⟨⟨rfl, rfl⟩, v, rfl, ?_⟩)
    exact w_letOwnList ht st'.1 (hQ v h' (by simpa using hp) st' kk)
  · subst hs
    exact W.done s _ _ (by simpa using st) (fun h' tk kk => ⟨⟨rfl, rfl⟩, rfl, hQ h' kk⟩)
  · intro b hb
    simp only [List.mem_cons, List.not_mem_nil, or_false] at hb
    rcases hb with rfl | rfl
    · exact .inr ⟨Nat.le_of_eq hI.symm, Nat.le_refl _⟩
    · simp
theorem rangeSize_nat (a : Int) (n : Nat) : Builtin.Range.rangeSize a (a + n) 1 = (n : Int) := by
  unfold Builtin.Range.rangeSize
  rw [if_pos (by decide)]
  split
  · rw [Int.ediv_one]; lia
  · lia
theorem iterRange {target : Expr} {r : Addr} {n : Nat} {a : Int} {t1 t2 t3 : Tok} (ht : isNameT target = true) (hh : A.handled = none) (hr : IsRange h r a (a + n) 1 t1 t2 t3) (hz : Builtin.Range.small a (a + n) 1 = true) :
    Iter prog w A target (fun Q => Wp (model prog w) A (pyIter (.ref r)) Q h) n (fun i v _ => ∃ t, v = .int (a + i) t) [] h := by
  intro Q k s hs
  subst hs
  have W := Walks.range (prog := prog) (w := w) hh s.heap.objs.size a 1 n
  refine wpAny_pyIter_range hr hz ⟨⟨rfl, rfl⟩, k s.heap.objs.size [s.heap.objs.size] [s.heap.objs.size] (fun i h => IsRangeIter h s.heap.objs.size (a + (i : Nat) * 1) ((n : Int) - (i : Nat)) 1) _ ⟨fun b hb => hb, by simp, fun i h q => ⟨_, q⟩, W.frame, fun i h Q hi st hQ s hs => ?_, fun h Q st hQ s hs => ?_, fun s Q E st hQ => W.self 0 s Q E st hQ⟩ ?_ (Ext.push _ _) (Nat.le_refl _) (by first | (with_reducible (first | exact im1 | exact im2 | exact im3 | exact sb0 | exact sb1 im1 | exact sb1 im2 | exact sb1 im3)) | exact nmc (adne (by decide)) nm0 | exact nmc (adne (by decide)) (nmc (adnn (by decide)) nm0) | simp) (by first | (with_reducible (first | exact im1 | exact im2 | exact im3 | exact sb0 | exact sb1 im1 | exact sb1 im2 | exact sb1 im3)) | exact nmc (adne (by decide)) nm0 | exact nmc (adne (by decide)) (nmc (adnn (by decide)) nm0) | simp)⟩
  · subst hs
    refine W.item i s _ _ hi st (fun v h' tk hp st' kk => ⟨⟨rfl, rfl⟩, v, rfl, ?_⟩)
    rw [letOwn_name ht]
    exact w_pure (hQ v h' (by simpa using hp) st' kk)
  · subst hs
    exact W.done s _ _ st (fun h' tk kk => ⟨⟨rfl, rfl⟩, rfl, hQ h' kk⟩)
  · have e : Builtin.Range.rangeSize a (a + n) 1 = (n : Int) := rangeSize_nat a n
    show IsRangeIter _ _ _ _ _
    unfold IsRangeIter
    rw [e]
    simpa using Heap.get?_push_size s.heap (o := { cls := .type "range_iterator", dict := none, data := .fields #[rawInt a, rawInt (n : Int), rawInt 1], slots := #[] }) rfl
theorem iterZip {elts : List Expr} {kk : Nat} {pos : Pos} {l1 l2 : Addr} {xs ys : List Value} (hh : A.handled = none) (h1 : h.IsList l1 xs.toArray) (h2 : h.IsList l2 ys.toArray) :
    Iter prog w A (.Tuple elts kk pos) (fun Q => Wp (model prog w) A (call (.type "zip") [.ref l1, .ref l2]) (fun v h1 => Wp (model prog w) A (pyIter v) Q h1) h) (min xs.length ys.length)
      (fun i v h' => ∃ T x y, v = .ref T ∧ xs[i]? = some x ∧ ys[i]? = some y ∧ h'.IsTuple T #[x, y]) [l1, l2] h := by
  intro Q k s hs
  subst hs
  have l1lt : l1 < s.heap.objs.size := let ⟨o, e, _⟩ := h1; Heap.lt_size e
  have l2lt : l2 < s.heap.objs.size := let ⟨o, e, _⟩ := h2; Heap.lt_size e
  refine call_zip_2 h1 h2 (fun h' z1 z2 z3 z4 z5 z6 z7 => ⟨⟨rfl, rfl⟩, ?_⟩)
  have D : ZipApart (s.heap.objs.size + 4) (s.heap.objs.size + 2) (s.heap.objs.size + 3) s.heap.objs.size (s.heap.objs.size + 1) l1 l2 := by
    constructor <;> (lia)
  have W := WalksT.zip2 (prog := prog) (w := w) hh _ _ _ _ _ _ _ D xs.toArray ys.toArray
  intro s' hs'
  subst hs'
  refine wpAny_pyIter_zip z1 ⟨⟨rfl, rfl⟩, ?_⟩
  have n1 : min xs.toArray.size ys.toArray.size = min xs.length ys.length := by simp
  rw [n1] at W
  refine k (s.heap.objs.size + 4) _ _ _ _ ⟨W.sub, ?_, fun i h q => ⟨_, q.1⟩, W.frame, fun i h Q hi st hQ s hs => ?_, fun h Q st hQ s hs => ?_, fun s Q E st hQ => ?_⟩ ⟨z1, z2, ⟨_, _, z3⟩, z4, z5, IsList.ext h1 z7, IsList.ext h2 z7⟩ z7 (Nat.le_add_right _ _) ?_ ?_
  · intro b hb
    simp only [List.mem_cons, List.not_mem_nil, or_false, Addr] at *
    lia
  · subst hs
    refine W.item i s _ _ hi st (fun T vals h' tk hp hT ht hm kk => ⟨⟨rfl, rfl⟩, .ref T, rfl, fun s2 hs2 => ?_⟩)
    subst hs2
    have ap := W.apart i T _ hm
    refine W.go elts _ pos i T s2 _ _ hm (fun h'' st' kk2 => ⟨⟨rfl, rfl⟩, hQ _ h'' ?_ st' (fun b o hb e => kk2 b o hb (kk b o hb e))⟩)
    obtain ⟨x, y, hx, hy, rfl⟩ := hp
    obtain ⟨o, e, r⟩ := ht
    exact ⟨T, x, y, rfl, by simpa using hx, by simpa using hy, o, kk2 T o ap e, r⟩
  · subst hs
    exact W.done s _ _ st (fun h' tk kk => ⟨⟨rfl, rfl⟩, rfl, hQ h' kk⟩)
  · exact W.self 0 s Q E st hQ
  · intro b hb
    simp only [List.mem_cons, List.not_mem_nil, or_false, Addr] at *
    lia
  · intro b hb
    simp only [List.mem_cons, List.not_mem_nil, or_false, Addr] at *
    lia

/-- what the loop's own machinery leaves alone -/
def Off (n0 b0 : Addr) (h h' : Heap) : Prop := ∀ a o, (a < n0 ∨ b0 ≤ a) → h.get? a = some o → h'.get? a = some o
theorem Off.refl (n0 b0 : Addr) (h : Heap) : Off n0 b0 h h := fun _ _ _ e => e
theorem Off.of_ext {n0 b0 : Addr} {h h' : Heap} (e : Ext h h') : Off n0 b0 h h' := fun a o _ x => e a o x
theorem Off.trans {n0 b0 : Addr} {a b c : Heap} (x : Off n0 b0 a b) (y : Off n0 b0 b c) : Off n0 b0 a c := fun i o n e => y i o n (x i o n e)
theorem Off.of_kept {n0 b0 : Addr} {S : List Addr} {h h' : Heap} (k : Kept S h h') (hS : ∀ b ∈ S, n0 ≤ b ∧ b < b0) : Off n0 b0 h h' :=
  fun a o ha e => k a o (fun m => by have := hS a m; lia) e
theorem Kept.of_off {n0 b0 : Addr} {h0 h h' : Heap} {T : List Addr} (k : Kept T h0 h) (x : Off n0 b0 h h') (hn : n0 = h0.objs.size) : Kept T h0 h' :=
  fun a o ha e => x a o (.inl (by rw [hn]; exact Heap.lt_size e)) (k a o ha e)

theorem live_le {n0 b0 : Addr} {h' h'' : Heap} {T : List Addr} (x : ∃ I o, b0 = I + 1 ∧ n0 ≤ I ∧ h'.get? I = some o) (k : Kept T h' h'') (hT : ∀ a ∈ T, a < n0) : b0 ≤ h''.objs.size := by
  obtain ⟨I, o, rfl, hI, e⟩ := x
  exact Heap.lt_size (k I o (fun m => absurd (hT I m) (Nat.not_lt.mpr hI)) e)
theorem live_n0 {n0 b0 : Addr} {h' : Heap} (x : ∃ I o, b0 = I + 1 ∧ n0 ≤ I ∧ h'.get? I = some o) : n0 ≤ b0 := by
  obtain ⟨I, o, rfl, hI, e⟩ := x
  exact Nat.le_succ_of_le hI
theorem w_forI {target : Expr} {K : (Value → Heap → Prop) → Prop} {n : Nat} {P : Nat → Value → Heap → Prop} {old : List Addr} {body orelse : List Stmt} {Q : Flow → Heap → Prop}
    (it : Iter prog w A target K n P old h) (T : List Addr) (hT : ∀ b ∈ T, b < h.objs.size ∧ b ∉ old) (J : Addr → Nat → Heap → Prop)
    (hJ : ∀ b0 i h1 h2, J b0 i h1 → Off h.objs.size b0 h1 h2 → J b0 i h2) (j0 : ∀ b0, J b0 0 h)
    (turn : ∀ b0 i v h', i < n → (∃ I o, b0 = I + 1 ∧ h.objs.size ≤ I ∧ h'.get? I = some o) → P i v h' → J b0 i h' → Kept T h h' → Wp (model prog w) A (assign target env v) (fun _ h2 => Wp (model prog w) A (execs body env) (fun f h3 => match f with
      | .next | .cont => Kept T h' h3 ∧ J b0 (i + 1) h3
      | .brk => Q .next h3
      | .ret v => Q (.ret v) h3) h2) h')
    (done : ∀ b0 h', J b0 n h' → Kept T h h' → Wp (model prog w) A (execs orelse env) Q h') :
    K (fun v h2 => Wf (model prog w) A target v body orelse env Q h2) := by
  refine it _ (fun I fp wr St h2 W st e hI0 hwr hfp => ?_)
  refine w_forLoop (fun k h' => ∃ i, k = n - i ∧ i ≤ n ∧ St i h' ∧ J (I + 1) i h' ∧ Kept T h h') n ⟨0, rfl, Nat.zero_le _, st, hJ _ _ _ _ (j0 _) (Off.of_ext e), Kept.of_ext e⟩ ?_
  rintro k h1 ⟨i, hk, hi, st1, j1, k1⟩
  have hoff : ∀ b ∈ wr, h.objs.size ≤ b ∧ b < I + 1 := fun b hb => ⟨hwr b hb, Nat.lt_succ_of_le (W.top b hb)⟩
  rcases Nat.lt_or_ge i n with lt | ge
  · refine (W.item i h1 (fun v h' => P i v h' ∧ St (i + 1) h' ∧ Kept wr h1 h') lt st1 (fun v h' p st' kk => ⟨p, st', kk⟩)).mono (fun r h1' y => ?_)
    obtain ⟨v, rfl, y⟩ := y
    refine y.mono (fun _ h3 z => ?_)
    obtain ⟨p, st3, kk⟩ := z
    have off := Off.of_kept kk hoff
    refine (turn (I + 1) i v h3 lt (let ⟨o, e⟩ := W.live _ _ st3; ⟨I, o, rfl, hI0, e⟩) p (hJ _ _ _ _ j1 off) (k1.of_off off rfl)).mono (fun _ h4 z => z.mono fun f h5 y => ?_)
    have fin : Kept T h3 h5 ∧ J (I + 1) (i + 1) h5 → ∃ m, m < k ∧ ∃ i, m = n - i ∧ i ≤ n ∧ St i h5 ∧ J (I + 1) i h5 ∧ Kept T h h5 := by
      rintro ⟨k5, j5⟩
      refine ⟨n - (i + 1), by lia, i + 1, rfl, lt, W.frame _ _ _ st3 (fun b hb o eo => k5 b o (fun hbT => ?_) eo), j5, (k1.of_off off rfl).trans k5⟩
      have := hT b hbT
      rcases hfp b hb with q | q
      · exact this.2 q
      · exact absurd this.1 (Nat.not_lt.mpr q.1)
    cases f with
    | next => exact fin y
    | cont => exact fin y
    | brk => exact y
    | ret v => exact y
  · have : i = n := Nat.le_antisymm hi ge
    subst this
    refine (W.done h1 (fun h' => Kept wr h1 h') st1 (fun h' kk => kk)).mono (fun r h' y => ?_)
    obtain ⟨rfl, kk⟩ := y
    have off := Off.of_kept kk hoff
    exact done (I + 1) h' (hJ _ _ _ _ j1 off) (k1.of_off off rfl)
end
end Mine
end
section
open PySem PySem.W PyProof.Rows PySem.Calls
set_option Elab.async false
set_option maxRecDepth 100000
set_option linter.unusedVariables false
set_option linter.unusedSimpArgs false
namespace Mine
section
variable {prog : Program} {w : World} {A : Around} {h : Heap} {env : Env}
/-- the tests, then the element -/
def TestElt (M : Model) (A : Around) (ifs : List Expr) (elt : Expr) (env : Env) (Q : Option Value → Heap → Prop) (h : Heap) : Prop :=
  match ifs with
  | [] => Wp M A (eval elt env) (fun y => Q (some y)) h
  | [c] => Wp M A (isTrue c env (eval c env)) (fun ok h2 => if ok = true then Wp M A (eval elt env) (fun y => Q (some y)) h2 else Q none h2) h
  | _ => False
theorem TestElt.nil {M : Model} {elt : Expr} {Q : Option Value → Heap → Prop} (z : TestElt M A [] elt env Q h) : Wp M A (eval elt env) (fun y => Q (some y)) h := z
theorem TestElt.one {M : Model} {c elt : Expr} {Q : Option Value → Heap → Prop} (z : TestElt M A [c] elt env Q h) : Wp M A (isTrue c env (eval c env)) (fun ok h2 => if ok = true then Wp M A (eval elt env) (fun y => Q (some y)) h2 else Q none h2) h := z
/-- what a comprehension's turn does -/
structure CompT (prog : Program) (w : World) (A : Around) (env : Env) (elt target : Expr) (ifs : List Expr) (scope : Scope) (cl : List (Str × Addr)) (n : Nat) (P : Nat → Value → Heap → Prop) (h₁ : Heap)
    (T : List Addr) (J : Addr → Nat → List Value → Heap → Prop) : Prop where
  off : ∀ b0 i ys h1 h2, J b0 i ys h1 → Off h₁.objs.size b0 h1 h2 → J b0 i ys h2
  zero : ∀ b0, J b0 0 [] h₁
  turn : ∀ b0 C i v ys h' m, i < n → h₁.objs.size ≤ C → b0 = C + 1 → P i v h' → J b0 i ys h' → Kept T h₁ h' → ys.length ≤ i → h'.Ns C m →
    Wp (model prog w) A (assign target (compEnvC scope cl C env) v) (fun _ h2 => TestElt (model prog w) A ifs elt (compEnvC scope cl C env)
      (fun r h3 => Kept (C :: T) h' h3 ∧ (∃ m, h3.Ns C m) ∧ (match r with | some y => J b0 (i + 1) (ys ++ [y]) h3 | none => J b0 (i + 1) ys h3)) h2) h'
theorem comp_loop {elt target iter : Expr} {ifs : List Expr} {scope : Scope} {cl : List (Str × Addr)} {pos : Pos} {n : Nat} {P : Nat → Value → Heap → Prop} {old T : List Addr} {J : Addr → Nat → List Value → Heap → Prop} {h₁ h₂ h₃ : Heap}
    {I D C : Addr} {fp wr : List Addr} {St : Nat → Heap → Prop} {R : Result → Shared → Prop} {s : Shared} (hs : s.heap = h₃) (hif : ifs.length ≤ 1) (hn : n ≤ sizeLine)
    (W : IterW prog w A target I fp wr n P St) (e2 : Ext h₁ h₂) (hI0 : h₁.objs.size ≤ I) (hwr : ∀ b ∈ wr, h₁.objs.size ≤ b) (hfp : ∀ b ∈ fp, b ∈ old ∨ (h₁.objs.size ≤ b ∧ b ≤ I)) (hIl : I < h₂.objs.size)
    (hold : ∀ b ∈ old, b < h₁.objs.size) (hT : ∀ b ∈ T, b < h₁.objs.size ∧ b ∉ old) (Y : CompT prog w A env elt target ifs scope cl n P h₁ T J)
    (hD : D = h₂.objs.size) (hC : C = h₂.objs.size + 1) (e3 : Ext h₂ h₃) (l3 : Ls h₃ D []) (ns3 : h₃.Ns C (fun _ => none)) (st3 : St 0 h₃)
    (k : ∀ s' : Shared, s'.os = s.os → s'.gens = s.gens → ∀ ys m, Ls s'.heap D ys → ys.length ≤ n → s'.heap.Ns C m → J (C + 1) n ys s'.heap → Kept T h₁ s'.heap → R (.ok .next) s') :
    codeAny (model prog w) A (.compLoop (.ListComp elt [⟨target, iter, ifs, 0⟩] scope pos) 0 (.ref I) (.ref D) (compEnvC scope cl C env)) R s := by
  subst hs
  have hDC : D ≠ C := by lia
  have hID : I < D := by lia
  have hoff : ∀ b ∈ D :: C :: wr, h₁.objs.size ≤ b ∧ b < C + 1 := by
    intro b hb
    rcases List.mem_cons.mp hb with rfl | hb
    · lia
    rcases List.mem_cons.mp hb with rfl | hb
    · lia
    · have := hwr b hb; have := W.top b hb; lia
  have hwlt : ∀ b ∈ wr, b < D := fun b hb => Nat.lt_of_le_of_lt (W.top b hb) hID
  have hfplt : ∀ b ∈ fp, b < D := fun b hb => by
    rcases hfp b hb with q | q
    · have := hold b q; lia
    · lia
  have hTlt : ∀ b ∈ T, b < D := fun b hb => by have := (hT b hb).1; lia
  have hTfp : ∀ b ∈ fp, b ∉ T := fun b hb hbT => by
    have := hT b hbT
    rcases hfp b hb with q | q
    · exact this.2 q
    · exact absurd this.1 (Nat.not_lt.mpr q.1)
  have e13 : Ext h₁ s.heap := e2.trans e3
  let Inv : Nat → Shared → Prop := fun k s' => (s'.os = s.os ∧ s'.gens = s.gens) ∧ ∃ i ys m, k = n - i ∧ i ≤ n ∧ St i s'.heap ∧ Ls s'.heap D ys ∧ ys.length ≤ i ∧ s'.heap.Ns C m ∧ J (C + 1) i ys s'.heap ∧ Kept T h₁ s'.heap
  have h0 : Inv n s := ⟨⟨rfl, rfl⟩, 0, [], _, rfl, Nat.zero_le _, st3, l3, Nat.le_refl _, ns3, Y.off _ _ _ _ _ (Y.zero _) (Off.of_ext e13), Kept.of_ext e13⟩
  have nxt : ∀ {k : Nat} {s1 : Shared} {R' : Value → Shared → Prop} {R0 : Shared → Prop} {E : Value → Shared → Prop}, Inv k s1 →
      (∀ i v ys s2 m, k = n - i → i < n → (s2.os = s.os ∧ s2.gens = s.gens) → P i v s2.heap → St (i + 1) s2.heap → Ls s2.heap D ys → ys.length ≤ i → s2.heap.Ns C m → J (C + 1) i ys s2.heap → Kept T h₁ s2.heap → R' v s2) →
      (∀ s', (s'.os = s.os ∧ s'.gens = s.gens) → (∃ ys m, Ls s'.heap D ys ∧ ys.length ≤ n ∧ s'.heap.Ns C m ∧ J (C + 1) n ys s'.heap ∧ Kept T h₁ s'.heap) → R0 s') →
      wpAny (model prog w) A (pyNext (.ref I)) (fun r s₁ => match r with | none => R0 s₁ | some v => wpAny (model prog w) A (letOwnedTupleGo target (.ref I) v) (fun _ s₀ => R' v s₀) E s₁) E s1 := by
    rintro k s1 R' R0 E ⟨og, i, ys, m, hk, hi, st1, l1, hy, ns1, j1, k1⟩ x y
    rcases Nat.lt_or_ge i n with lt | ge
    · refine Wp.run (W.item i s1.heap (fun v h' => P i v h' ∧ St (i + 1) h' ∧ Kept wr s1.heap h') lt st1 (fun v h' p st' kk => ⟨p, st', kk⟩)) (fun r s2 o2 g2 z => ?_)
      obtain ⟨v, rfl, z⟩ := z
      refine Wp.run z (fun _ s3 o3 g3 z => ?_)
      obtain ⟨p, st', kk⟩ := z
      have off := Off.of_kept kk (fun b hb => hoff b (by simp [hb]))
      exact x i v ys s3 m hk lt ⟨o3.trans (o2.trans og.1), g3.trans (g2.trans og.2)⟩ p st' (lsKept l1 kk (fun q => Nat.lt_irrefl _ (hwlt _ q))) hy
        (ns1.at' fun o e => kk _ _ (fun q => by have := hwlt _ q; lia) e) (Y.off _ _ _ _ _ j1 off) (k1.of_off off rfl)
    · have : i = n := Nat.le_antisymm hi ge
      subst this
      refine Wp.run (W.done s1.heap (fun h' => Kept wr s1.heap h') st1 (fun h' kk => kk)) (fun r s2 o2 g2 z => ?_)
      obtain ⟨rfl, kk⟩ := z
      have off := Off.of_kept kk (fun b hb => hoff b (by simp [hb]))
      exact y s2 ⟨o2.trans og.1, g2.trans og.2⟩ ⟨ys, m, lsKept l1 kk (fun q => Nat.lt_irrefl _ (hwlt _ q)), hy,
        ns1.at' fun o e => kk _ _ (fun q => by have := hwlt _ q; lia) e, Y.off _ _ _ _ _ j1 off, k1.of_off off rfl⟩
  have cont : ∀ {i : Nat} {ys ys' : List Value} {h' h'' : Heap}, i < n → St (i + 1) h' → Ls h' D ys → Kept T h₁ h' → Kept (C :: T) h' h'' → St (i + 1) h'' ∧ Ls h'' D ys ∧ Kept T h₁ h'' := by
    intro i ys ys' h' h'' lt st l k1 k2
    refine ⟨W.frame _ _ _ st (fun b hb o e => k2 b o (fun q => ?_) e), lsKept l k2 (fun q => ?_), fun a o ha e => k2 a o (fun q => ?_) (k1 a o ha e)⟩
    · rcases List.mem_cons.mp q with rfl | q
      · have := hfplt _ hb; lia
      · exact hTfp b hb q
    · rcases List.mem_cons.mp q with q | q
      · exact hDC q
      · exact Nat.lt_irrefl _ (hTlt _ q)
    · rcases List.mem_cons.mp q with rfl | q
      · have := Heap.lt_size (e2 _ _ e); lia
      · exact ha q
  have app : ∀ {i : Nat} {ys : List Value} {y : Value} {s5 : Shared} {m : Str → Option Value} {k : Nat} {E : Value → Shared → Prop}, k = n - i → i < n → (s5.os = s.os ∧ s5.gens = s.gens) → St (i + 1) s5.heap → Ls s5.heap D ys → ys.length ≤ i → s5.heap.Ns C m → J (C + 1) (i + 1) (ys ++ [y]) s5.heap → Kept T h₁ s5.heap →
      wpAny (model prog w) A (call (.builtin "list.append") [.ref D, y]) (fun _ s₅ => ∃ m, m < k ∧ Inv m s₅) E s5 := by
    intro i ys y s5 m k E hk lt og st l hy ns j k5
    refine Wp.run (w_append (Q := fun _ h5 => Ls h5 D (ys ++ [y]) ∧ Heap.SameBut D s5.heap h5) l (by lia) (fun h5 l5 sb5 => ⟨l5, sb5⟩)) (fun _ s6 o6 g6 z => ?_)
    obtain ⟨l6, sb6⟩ := z
    have kD : Kept [D] s5.heap s6.heap := Kept.of_same sb6 (by first | (with_reducible (first | exact im1 | exact im2 | exact im3 | exact sb0 | exact sb1 im1 | exact sb1 im2 | exact sb1 im3)) | exact nmc (adne (by decide)) nm0 | exact nmc (adne (by decide)) (nmc (adnn (by decide)) nm0) | simp)
    have off : Off h₁.objs.size (C + 1) s5.heap s6.heap := Off.of_kept kD (by intro b hb; simp only [List.mem_singleton] at hb; exact hoff b (by simp [hb]))
    refine ⟨n - (i + 1), by lia, ⟨o6.trans og.1, g6.trans og.2⟩, i + 1, ys ++ [y], m, rfl, lt, ?_, l6, by simp; lia, ?_, Y.off _ _ _ _ _ j off, k5.of_off off rfl⟩
    · exact W.frame _ _ _ st fun b hb o e => kD _ _ (by simp only [List.mem_singleton]; intro q; have := hfplt _ hb; lia) e
    · exact ns.at' fun o e => kD _ _ (by simp only [List.mem_singleton]; exact fun q => hDC q.symm) e
  have skip : ∀ {i : Nat} {ys : List Value} {s5 : Shared} {m : Str → Option Value} {k : Nat}, k = n - i → i < n → (s5.os = s.os ∧ s5.gens = s.gens) → St (i + 1) s5.heap → Ls s5.heap D ys → ys.length ≤ i → s5.heap.Ns C m → J (C + 1) (i + 1) ys s5.heap → Kept T h₁ s5.heap → ∃ m, m < k ∧ Inv m s5 := by
    intro i ys s5 m k hk lt og st l hy ns j k5
    exact ⟨n - (i + 1), by lia, og, i + 1, ys, m, rfl, lt, st, l, by lia, ns, j, k5⟩
  have hCb : h₁.objs.size ≤ C := by lia
  match ifs, hif with
  | [], _ =>
    refine kcp_loop Inv ?_ n h0
    intro kk s1 hinv
    refine nxt hinv (fun i v ys s2 m hk lt og p st l hy ns j k2 => ?_) (fun s' og z => ?_)
    · refine Wp.run (Y.turn (C + 1) C i v ys s2.heap m lt hCb rfl p j k2 hy ns) (fun _ s3 o3 g3 z => ?_)
      refine Wp.run z.nil (fun y s4 o4 g4 z => ?_)
      obtain ⟨k4, ⟨m4, ns4⟩, j4⟩ := z
      obtain ⟨c1, c2, c3⟩ := cont (ys' := []) lt st l k2 k4
      exact app hk lt ⟨o4.trans (o3.trans og.1), g4.trans (g3.trans og.2)⟩ c1 c2 hy ns4 j4 c3
    · obtain ⟨ys, m, a, b, c, d, e⟩ := z
      exact k s' og.1 og.2 ys m a b c d e
  | [c], _ =>
    refine kct_loop Inv ?_ n h0
    intro kk s1 hinv
    refine nxt hinv (fun i v ys s2 m hk lt og p st l hy ns j k2 => ?_) (fun s' og z => ?_)
    · refine Wp.run (Y.turn (C + 1) C i v ys s2.heap m lt hCb rfl p j k2 hy ns) (fun _ s3 o3 g3 z => ?_)
      refine Wp.run z.one (fun ok s4 o4 g4 z => ?_)
      cases ok with
      | true =>
        rw [if_pos rfl] at z ⊢
        refine Wp.run z (fun y s5 o5 g5 z => ?_)
        obtain ⟨k4, ⟨m4, ns4⟩, j4⟩ := z
        obtain ⟨c1, c2, c3⟩ := cont (ys' := []) lt st l k2 k4
        exact app hk lt ⟨o5.trans (o4.trans (o3.trans og.1)), g5.trans (g4.trans (g3.trans og.2))⟩ c1 c2 hy ns4 j4 c3
      | false =>
        rw [if_neg (by decide)] at z ⊢
        obtain ⟨k4, ⟨m4, ns4⟩, j4⟩ := z
        obtain ⟨c1, c2, c3⟩ := cont (ys' := []) lt st l k2 k4
        exact skip hk lt ⟨o4.trans (o3.trans og.1), g4.trans (g3.trans og.2)⟩ c1 c2 hy ns4 j4 c3
    · obtain ⟨ys, m, a, b, c, d, e⟩ := z
      exact k s' og.1 og.2 ys m a b c d e

/-- a list comprehension; use: what is done with it (none: it is the value) -/
theorem w_lcGo {elt target iter : Expr} {ifs : List Expr} {scope : Scope} {cl : List (Str × Addr)} {pos : Pos} {use : Option (Value → Sem Unit)} {Q : Value → Heap → Prop} (hif : ifs.length ≤ 1)
    (hclos : closureFor scope env = pure cl) (hcell : (scope.names.all fun y => y.2 != .cell) = true) (hkind : scope.kind = .function) (hnames : (scope.names.all fun y => y.2 != .local || decide (scope.names.lookup y.1 = some .local)) = true)
    (e : Wp (model prog w) A (eval iter env) (fun xv h₁ => ∃ n P old, Iter prog w A target (fun Q => Wp (model prog w) A (pyIter xv) Q h₁) n P old h₁ ∧ n ≤ sizeLine ∧ (∀ b ∈ old, b < h₁.objs.size) ∧
      ∃ T J, (∀ b ∈ T, b < h₁.objs.size ∧ b ∉ old) ∧ CompT prog w A env elt target ifs scope cl n P h₁ T J ∧
        (∀ b0 ys D C h' m, h₁.objs.size ≤ D → D < C → C < b0 → Ls h' D ys → ys.length ≤ n → J b0 n ys h' → Kept T h₁ h' → h'.Ns C m →
          match use with
          | none => ∀ h'', Heap.SameBut C h' h'' → Q (.ref D) h''
          | some u => Wp (model prog w) A (u (.ref D)) (fun _ h₃ => (∃ m, h₃.Ns C m) ∧ ∀ h', Heap.SameBut C h₃ h' → Q .none h') h')) h)
    (hs : ∀ x, foldedSetIterable iter env x = pure x := by intro _; rfl) :
    Wp (model prog w) A (comprehension (.ListComp elt [⟨target, iter, ifs, 0⟩] scope pos) scope env (firstIterPos [⟨target, iter, ifs, 0⟩] pos) (newList []) false (eval iter env) use) Q h := by
  intro s hs'
  subst hs'
  refine wpAny_comprehension_free (use := use) rfl hs hclos hkind (fun y hy hl => ?_) ?_
  · have := List.all_eq_true.mp hnames y hy
    simp [hl] at this
    exact this
  refine Wp.run e (fun xv s₁ o1 g1 y => ?_)
  obtain ⟨n, P, old, it, hn, hold, T, J, hT, Y, kd⟩ := y
  refine Wp.run (it (fun v h₂ => ∃ I fp wr St, v = .ref I ∧ IterW prog w A target I fp wr n P St ∧ St 0 h₂ ∧ Ext s₁.heap h₂ ∧ s₁.heap.objs.size ≤ I ∧ (∀ b ∈ wr, s₁.heap.objs.size ≤ b) ∧ (∀ b ∈ fp, b ∈ old ∨ (s₁.heap.objs.size ≤ b ∧ b ≤ I)))
    (fun I fp wr St h2 W st e a b c => ⟨I, fp, wr, St, rfl, W, st, e, a, b, c⟩)) (fun it s₂ o2 g2 y => ?_)
  obtain ⟨I, fp, wr, St, rfl, W, st, e12, hI0, hwr, hfp⟩ := y
  refine wpAny_newObj_type (wpAny_newFunctionEnv (fun z hz => by simpa using List.all_eq_true.mp hcell z hz) (by intro y hy; simp at hy) (fun h₁ hns₁ hsb₁ => ?_) hkind)
  dsimp only at hns₁ hsb₁ ⊢
  generalize hH2 : s₂.heap.push { cls := .type "list", dict := none, data := .seq ([] : List Value).toArray } = H2 at hns₁ hsb₁ ⊢
  have hC : H2.objs.size = s₂.heap.objs.size + 1 := by rw [← hH2, Heap.size_push]
  have hDC : s₂.heap.objs.size ≠ H2.objs.size := by rw [hC]; exact Nat.ne_of_lt (Nat.lt_succ_self _)
  have below : ∀ b, b < s₂.heap.objs.size → b ≠ H2.objs.size := fun b hb => by rw [hC]; exact Nat.ne_of_lt (Nat.lt_succ_of_lt hb)
  have old' : ∀ b o, s₂.heap.get? b = some o → h₁.get? b = some o := fun b o e => hsb₁.extBut b o (below b (Heap.lt_size e)) (Heap.get?_push_of_some _ (hH2 ▸ Heap.get?_push_of_some _ e))
  have hacc : Ls h₁ s₂.heap.objs.size [] := ⟨_, hsb₁.extBut _ _ hDC (Heap.get?_push_of_some _ (hH2 ▸ Heap.get?_push_size _ rfl))⟩
  have hst₁ : St 0 h₁ := W.frame _ _ _ st fun b _ o e => old' b o e
  have hI2 := W.lt _ _ st
  have hDn : s₁.heap.objs.size ≤ s₂.heap.objs.size := by lia
  have loop : ∀ s₃ : Shared, s₃ = { s₂ with heap := h₁, toks := s₂.toks + ([] : List (Str × Value)).length } →
      codeAny (model prog w) A (.compLoop (.ListComp elt [⟨target, iter, ifs, 0⟩] scope pos) 0 (.ref I) (.ref s₂.heap.objs.size) (compEnvC scope cl H2.objs.size env))
        (compPost (model prog w) A NoE use (fun v s' => (s'.os = s.os ∧ s'.gens = s.gens) ∧ Q v s'.heap) (.ref s₂.heap.objs.size) H2.objs.size) s₃ := by
    rintro s₃ rfl
    refine comp_loop (h₁ := s₁.heap) (h₂ := s₂.heap) (h₃ := h₁) (old := old) (T := T) rfl hif hn W e12 hI0 hwr hfp hI2 hold hT Y rfl hC old' hacc hns₁ hst₁ (fun s' os gs ys m l hy ns j kk => ?_)
    have z := kd _ ys _ H2.objs.size s'.heap m hDn (by rw [hC]; exact Nat.lt_succ_self _) (Nat.lt_succ_self _) l hy j kk ns
    cases use with
    | none => exact ⟨m, ns, fun h'' sb => ⟨⟨os.trans (o2.trans o1), gs.trans (g2.trans g1)⟩, z h'' sb⟩⟩
    | some u =>
      refine Wp.run z (fun _ s4 o4 g4 y => ?_)
      obtain ⟨⟨m, hm⟩, y⟩ := y
      exact ⟨m, hm, fun h' hs' => ⟨⟨o4.trans (os.trans (o2.trans o1)), g4.trans (gs.trans (g2.trans g1))⟩, y h' hs'⟩⟩
  exact codeAny_compStart_list (loop _ rfl) (W.self _ _ _ hst₁ (loop _ rfl))
theorem w_lcI {elt target iter : Expr} {ifs : List Expr} {scope : Scope} {cl : List (Str × Addr)} {pos : Pos} {Q : Value → Heap → Prop} (hif : ifs.length ≤ 1)
    (hclos : closureFor scope env = pure cl) (hcell : (scope.names.all fun y => y.2 != .cell) = true) (hkind : scope.kind = .function) (hnames : (scope.names.all fun y => y.2 != .local || decide (scope.names.lookup y.1 = some .local)) = true)
    (e : Wp (model prog w) A (eval iter env) (fun xv h₁ => ∃ n P old, Iter prog w A target (fun Q => Wp (model prog w) A (pyIter xv) Q h₁) n P old h₁ ∧ n ≤ sizeLine ∧ (∀ b ∈ old, b < h₁.objs.size) ∧
      ∃ T J, (∀ b ∈ T, b < h₁.objs.size ∧ b ∉ old) ∧ CompT prog w A env elt target ifs scope cl n P h₁ T J ∧
        (∀ b0 ys D h', h₁.objs.size ≤ D → D < b0 → Ls h' D ys → ys.length ≤ n → J b0 n ys h' → Kept T h₁ h' → Q (.ref D) h')) h)
    (hs : ∀ x, foldedSetIterable iter env x = pure x := by intro _; rfl) :
    Wp (model prog w) A (eval (.ListComp elt [⟨target, iter, ifs, 0⟩] scope pos) env) Q h := by
  rw [eval_ListComp]
  refine w_lcGo (use := none) hif hclos hcell hkind hnames (e.mono fun xv h₁ y => ?_) hs
  obtain ⟨n, P, old, it, hn, hold, T, J, hT, Y, kd⟩ := y
  refine ⟨n, P, old, it, hn, hold, T, J, hT, Y, fun b0 ys D C h' m hD hDC hCb l hy j kk ns h'' sb => ?_⟩
  have kC : Kept [C] h' h'' := Kept.of_same sb (by first | (with_reducible (first | exact im1 | exact im2 | exact im3 | exact sb0 | exact sb1 im1 | exact sb1 im2 | exact sb1 im3)) | exact nmc (adne (by decide)) nm0 | exact nmc (adne (by decide)) (nmc (adnn (by decide)) nm0) | simp)
  have off : Off h₁.objs.size b0 h' h'' := Off.of_kept kC (by intro b hb; simp only [List.mem_singleton] at hb; subst hb; exact ⟨Nat.le_of_lt (Nat.lt_of_le_of_lt hD hDC), hCb⟩)
  exact kd b0 ys D h'' hD (Nat.lt_trans hDC hCb) (l.same sb (Nat.ne_of_lt hDC)) hy (Y.off _ _ _ _ _ j off) (kk.of_off off rfl)
theorem w_lcIU {elt target iter : Expr} {ifs : List Expr} {scope : Scope} {cl : List (Str × Addr)} {pos : Pos} {u : Value → Sem Unit} {Q : Heap → Prop} (hif : ifs.length ≤ 1)
    (hclos : closureFor scope env = pure cl) (hcell : (scope.names.all fun y => y.2 != .cell) = true) (hkind : scope.kind = .function) (hnames : (scope.names.all fun y => y.2 != .local || decide (scope.names.lookup y.1 = some .local)) = true)
    (e : Wp (model prog w) A (eval iter env) (fun xv h₁ => ∃ n P old, Iter prog w A target (fun Q => Wp (model prog w) A (pyIter xv) Q h₁) n P old h₁ ∧ n ≤ sizeLine ∧ (∀ b ∈ old, b < h₁.objs.size) ∧
      ∃ T J, (∀ b ∈ T, b < h₁.objs.size ∧ b ∉ old) ∧ CompT prog w A env elt target ifs scope cl n P h₁ T J ∧
        (∀ b0 ys D C h' m, h₁.objs.size ≤ D → D < C → C < b0 → Ls h' D ys → ys.length ≤ n → J b0 n ys h' → Kept T h₁ h' → h'.Ns C m →
          Wp (model prog w) A (u (.ref D)) (fun _ h₃ => (∃ m, h₃.Ns C m) ∧ ∀ h', Heap.SameBut C h₃ h' → Q h') h')) h)
    (hs : ∀ x, foldedSetIterable iter env x = pure x := by intro _; rfl) :
    Wp (model prog w) A (evalThenUse (.ListComp elt [⟨target, iter, ifs, 0⟩] scope pos) env u) (fun _ => Q) h := by
  show Wp (model prog w) A (comprehension (.ListComp elt [⟨target, iter, ifs, 0⟩] scope pos) scope env (firstIterPos [⟨target, iter, ifs, 0⟩] pos) (newList []) false (eval iter env) (some u) >>= fun _ => pure ()) _ h
  refine w_bind ((w_lcGo (use := some u) (Q := fun _ => Q) hif hclos hcell hkind hnames (e.mono fun xv h₁ y => ?_) hs).mono fun _ _ y => w_pure y)
  obtain ⟨n, P, old, it, hn, hold, T, J, hT, Y, kd⟩ := y
  exact ⟨n, P, old, it, hn, hold, T, J, hT, Y, kd⟩
end
end Mine
end
section
open PySem PySem.W PyProof.Rows PySem.Calls
set_option Elab.async false
set_option maxRecDepth 100000
set_option linter.unusedVariables false
set_option linter.unusedSimpArgs false
namespace Mine
/-! ## small things in lists -/
inductive At where
  | i (n : Int)
  | s (l : List Nat)
  deriving DecidableEq
def At.lt : At → At → Bool
  | .i a, .i b => decide (a < b)
  | .s a, .s b => decide (a < b)
  | _, _ => false
def At.kin : At → At → Bool
  | .i _, .i _ => true
  | .s _, .s _ => true
  | _, _ => false
def AtV : Value → At → Prop
  | v, .i m => ∃ t, v = .int m t
  | v, .s l => ∃ t, v = .str (S l) t
def AtL : List Value → List At → Prop
  | [], [] => True
  | v :: vs, a :: as => AtV v a ∧ AtL vs as
  | _, _ => False
def ltL : List At → List At → Bool
  | [], [] => false
  | [], _ :: _ => true
  | _ :: _, [] => false
  | a :: as, b :: bs => if a = b then ltL as bs else At.lt a b
def Kin : List At → List At → Bool
  | a :: as, b :: bs => At.kin a b && Kin as bs
  | _, _ => true
theorem AtL.length : ∀ {vs : List Value} {as : List At}, AtL vs as → vs.length = as.length
  | [], [], _ => rfl
  | _ :: _, _ :: _, h => by simp [AtL.length h.2]
  | [], _ :: _, h => h.elim
  | _ :: _, [], h => h.elim
theorem AtL.get : ∀ {vs : List Value} {as : List At}, AtL vs as → ∀ {i : Nat} {a : At}, as[i]? = some a → ∃ v, vs[i]? = some v ∧ AtV v a
  | [], [], _, i, a, e => by simp at e
  | v :: vs, b :: as, h, 0, a, e => by simp at e; subst e; exact ⟨v, rfl, h.1⟩
  | v :: vs, b :: as, h, i + 1, a, e => by simpa using h.2.get (by simpa using e)
  | [], _ :: _, h, _, _, _ => h.elim
  | _ :: _, [], h, _, _, _ => h.elim
theorem Strs.atL : ∀ {vs : List Value} {ts : List (List Nat)}, Strs vs ts → AtL vs (ts.map .s)
  | [], [], _ => trivial
  | _ :: _, _ :: _, h => ⟨h.1, Strs.atL h.2⟩
  | [], _ :: _, h => h.elim
  | _ :: _, [], h => h.elim
theorem AtL.strs : ∀ {vs : List Value} {ts : List (List Nat)}, AtL vs (ts.map .s) → Strs vs ts
  | [], [], _ => trivial
  | _ :: _, _ :: _, h => ⟨h.1, AtL.strs h.2⟩
  | [], _ :: _, h => h.elim
  | _ :: _, [], h => h.elim
/-- a list of small things -/
def LA (h : Heap) (a : Addr) (as : List At) : Prop := ∃ vs, Ls h a vs ∧ AtL vs as
theorem LA.kept {S : List Addr} {h h' : Heap} {a : Addr} {as : List At} (x : LA h a as) (k : Kept S h h') (hn : a ∉ S) : LA h' a as := let ⟨vs, l, r⟩ := x; ⟨vs, lsKept l k hn, r⟩
theorem LA.ext {h h' : Heap} {a : Addr} {as : List At} (x : LA h a as) (k : Ext h h') : LA h' a as := let ⟨vs, l, r⟩ := x; ⟨vs, l.ext k, r⟩
theorem LA.off {n0 b0 : Addr} {h h' : Heap} {a : Addr} {as : List At} (x : LA h a as) (k : Mine.Off n0 b0 h h') (hn : a < n0 ∨ b0 ≤ a) : LA h' a as := let ⟨vs, ⟨n, l⟩, r⟩ := x; ⟨vs, ⟨n, k _ _ hn l⟩, r⟩
theorem AtV.eqAt {A : Around} {s : Shared} {v u : Value} {a b : At} (ha : AtV v a) (hb : AtV u b) (hk : At.kin a b = true) : SeqAt.EqAt A s v u (decide (a = b)) := by
  cases a with
  | i m =>
    cases b with
    | i k => obtain ⟨t, rfl⟩ := ha; obtain ⟨t', rfl⟩ := hb; have := SeqAt.EqAt.int_int (A := A) (s := s) m t k t'; have e : (m == k) = decide (At.i m = At.i k) := by by_cases q : m = k <;> simp [q]
             rw [e] at this; exact this
    | s l => cases hk
  | s l =>
    cases b with
    | i k => cases hk
    | s l' => obtain ⟨t, rfl⟩ := ha; obtain ⟨t', rfl⟩ := hb; have := SeqAt.EqAt.str_str (A := A) (s := s) (S l) t (S l') t'; have e : (S l == S l') = decide (At.s l = At.s l') := by by_cases q : l = l' <;> simp [q, S]
              rw [e] at this; exact this
theorem AtV.ltAt {prog : Program} {w : World} {A : Around} {E : Value → Shared → Prop} {s : Shared} {Q : Value → Shared → Prop} {v u : Value} {a b : At} (ha : AtV v a) (hb : AtV u b) (hk : At.kin a b = true) (k : Q (.bool (At.lt a b)) s) : wpAny (model prog w) A (richCompare .Lt v u) Q E s := by
  cases a with
  | i m =>
    cases b with
    | i k => obtain ⟨t, rfl⟩ := ha; obtain ⟨t', rfl⟩ := hb; exact wpAny_lt_int k
    | s l => cases hk
  | s l =>
    cases b with
    | i k => cases hk
    | s l' => obtain ⟨t, rfl⟩ := ha; obtain ⟨t', rfl⟩ := hb
              have := P.lt_str (prog := prog) (w := w) (A := A) (E := E) (s := s) (Q := Q) (x := S l) (y := S l') (t := t) (u := t') (by simpa [S, At.lt] using k)
              exact this
open AutoSeq1 (wpAny_loadPart') in
theorem lt_loopAt (l b : Addr) (xs ys : List Value) (n n2 : Nat) (as bs : List At) (hx : AtL xs as) (hy : AtL ys bs) (hk : Kin as bs = true) (k : Nat) :
    ∀ i : Nat, xs.length - i = k → i ≤ xs.length → i ≤ ys.length → Kin (as.drop i) (bs.drop i) = true → Meets (Builtin.«list.__eq__.loop» ⟨[.ref l, .ref b, rawInt i, rawInt 0], []⟩)
      (fun A R s => s.heap.get? l = some (lst xs n) ∧ s.heap.get? b = some (lst ys n2) ∧ R (.ok (.ret (.bool (ltL (as.drop i) (bs.drop i))))) s) := by
  have lx := hx.length
  have ly := hy.length
  induction k with
  | zero =>
    intro i hk1 h1 h2 hkin prog w A R s h
    obtain ⟨hp, g, d, tk, os⟩ := s; obtain ⟨hl, hb, h⟩ := h
    wp_walk using wpAny_loadPart' hl, wpAny_loadPart' hb
    have hi1 : xs.toArray[((i : Nat) : Int).toNat]? = none := by simp; lia
    have hd : as.drop i = [] := by simp; lia
    rw [hd] at h
    rw [hi1]
    wp_walk using wpAny_loadPart' hl, wpAny_loadPart' hb
    cases hd2 : bs.drop i with
    | nil =>
      rw [hd2] at h
      have : ys.length = i := by have := congrArg List.length hd2; simp at this; lia
      have e : (decide (xs.toArray.size < ys.toArray.size)) = false := by simp; lia
      show R (.ok (.ret (.bool (decide (xs.toArray.size < ys.toArray.size))))) _
      rw [e]; exact h
    | cons c r =>
      rw [hd2] at h
      have : i < ys.length := by have := congrArg List.length hd2; simp at this; lia
      have e : (decide (xs.toArray.size < ys.toArray.size)) = true := by simp; lia
      show R (.ok (.ret (.bool (decide (xs.toArray.size < ys.toArray.size))))) _
      rw [e]; exact h
  | succ k ih =>
    intro i hk1 h1 h2 hkin prog w A R s h
    obtain ⟨hp, g, d, tk, os⟩ := s; obtain ⟨hl, hb, h⟩ := h
    wp_walk using wpAny_loadPart' hl, wpAny_loadPart' hb
    have hlt : i < xs.length := by lia
    have hi1 : xs.toArray[((i : Nat) : Int).toNat]? = some xs[i] := by simp [hlt]
    have ha1 : as.drop i = as[i] :: as.drop (i + 1) := List.drop_eq_getElem_cons (by lia)
    rw [ha1] at h hkin
    rw [hi1]
    rcases Nat.lt_or_ge i ys.length with q | q
    · have hi2 : ys.toArray[((i : Nat) : Int).toNat]? = some ys[i] := by simp [q]
      have hb1 : bs.drop i = bs[i] :: bs.drop (i + 1) := List.drop_eq_getElem_cons (by lia)
      rw [hb1] at h hkin
      rw [hi2]
      obtain ⟨v, ev, av⟩ := hx.get (i := i) (a := as[i]) (by simp)
      obtain ⟨u, eu, au⟩ := hy.get (i := i) (a := bs[i]) (by simp)
      have ev' : xs[i] = v := by simpa [hlt] using ev
      have eu' : ys[i] = u := by simpa [q] using eu
      simp only [Kin, Bool.and_eq_true] at hkin
      have hc : ((i : Int) + 1) = ((i + 1 : Nat) : Int) := by push_cast; rfl
      refine wpAny_bind ((ev' ▸ eu' ▸ AtV.eqAt av au hkin.1 : SeqAt.EqAt A.in1 _ xs[i] ys[i] _) prog w _ _ ?_)
      simp only [ltL] at h
      by_cases e : as[i] = bs[i]
      · rw [if_pos e] at h
        rw [decide_eq_true e]
        wp_walk
        rw [hc]
        exact ⟨plainId_quiet MeetsSeq3.plain_eq_loop _, codeAny_builtin MeetsSeq3.entry_eq_loop (by
          rw [Around.under_plainId MeetsSeq3.plain_eq_loop _]
          exact ih (i + 1) (by lia) (by lia) (by lia) hkin.2 prog w A R _ ⟨hl, hb, h⟩)⟩
      · rw [if_neg e] at h
        rw [decide_eq_false e]
        wp_walk using wpAny_loadPart' hl, wpAny_loadPart' hb
        rw [hi1, hi2]
        refine wpAny_bind (AtV.ltAt (prog := prog) (w := w) (ev' ▸ av) (eu' ▸ au) hkin.1 (wpAny_pure ?_))
        exact h
    · have hi2 : ys.toArray[((i : Nat) : Int).toNat]? = none := by simp; lia
      have hb1 : bs.drop i = [] := by simp; lia
      rw [hb1] at h
      rw [hi2]
      wp_walk using wpAny_loadPart' hl, wpAny_loadPart' hb
      have e : (decide (xs.toArray.size < ys.toArray.size)) = false := by simp; lia
      show R (.ok (.ret (.bool (decide (xs.toArray.size < ys.toArray.size))))) _
      rw [e]; exact h
open AutoSeq1 (wpAny_loadPart') in
theorem list_ltAt (l b : Addr) (xs ys : List Value) (n n2 : Nat) (as bs : List At) (hx : AtL xs as) (hy : AtL ys bs) (hk : Kin as bs = true) :
    Meets (Builtin.«list.__lt__» ⟨[.ref l, .ref b], []⟩)
      (fun A R s => s.heap.get? l = some (lst xs n) ∧ s.heap.get? b = some (lst ys n2) ∧ R (.ok (.ret (.bool (ltL as bs)))) s) := by
  intro prog w A R s h
  obtain ⟨hp, g, d, tk, os⟩ := s; obtain ⟨hl, hb, h⟩ := h
  have f3 := AutoSeq1.sub_list_list
  wp_walk using wpAny_loadPart' hl, wpAny_loadPart' hb
  exact ⟨plainId_quiet MeetsSeq3.plain_eq_loop _, codeAny_builtin MeetsSeq3.entry_eq_loop (by
    rw [Around.under_plainId MeetsSeq3.plain_eq_loop _]
    exact lt_loopAt l b xs ys n n2 as bs hx hy hk _ 0 rfl (Nat.zero_le _) (Nat.zero_le _) hk prog w A R _ ⟨hl, hb, h⟩)⟩
section
variable {prog : Program} {w : World} {A : Around} {h : Heap} {env : Env}
theorem w_ltList {l b : Addr} {as bs : List At} {Q : Value → Heap → Prop} (hl : LA h l as) (hb : LA h b bs) (hk : Kin as bs = true) (hu : A.units < cLine) (k : Q (.bool (ltL as bs)) h) :
    Wp (model prog w) A (compareOp .Lt (.ref l) (.ref b)) Q h := fun s hs => by
  subst hs
  obtain ⟨xs, ⟨n, e1⟩, hx⟩ := hl
  obtain ⟨ys, ⟨n2, e2⟩, hy⟩ := hb
  exact richCompare_meets_room (op := .Lt) ⟨_, e1, rfl⟩ ⟨_, e2, rfl⟩ F.slot_list_lt F.entry_list_lt (F.args_list_lt_2 _ _) (list_ltAt l b xs ys n n2 as bs hx hy hk)
    ⟨e1, e2, (fun x => nomatch x), ⟨rfl, rfl⟩, k⟩ hu
theorem atl_all (e : Nat → Bool) (as bs : List At) (hz : as.length = bs.length) (he : ∀ (i : Nat) a b, as[i]? = some a → bs[i]? = some b → e i = decide (a = b)) : (List.range as.length).all e = decide (as = bs) := by
  by_cases q : as = bs
  · subst q
    rw [decide_eq_true rfl, List.all_eq_true]
    intro i hi
    have hi := List.mem_range.mp hi
    rw [he i as[i] as[i] (by simp [hi]) (by simp [hi])]
    simp
  · rw [decide_eq_false q]
    cases hq : (List.range as.length).all e with
    | false => rfl
    | true =>
      exfalso
      apply q
      rw [List.all_eq_true] at hq
      apply List.ext_getElem hz
      intro i h1 h2
      have := hq i (List.mem_range.mpr h1)
      rw [he i as[i] bs[i] (by simp) (by simp)] at this
      simpa using this
theorem kin_get : ∀ {as bs : List At}, Kin as bs = true → ∀ {i : Nat} {a b : At}, as[i]? = some a → bs[i]? = some b → At.kin a b = true
  | a :: as, b :: bs, h, 0, x, y, e1, e2 => by simp at e1 e2; subst e1; subst e2; simp only [Kin, Bool.and_eq_true] at h; exact h.1
  | a :: as, b :: bs, h, i + 1, x, y, e1, e2 => by simp only [Kin, Bool.and_eq_true] at h; exact kin_get h.2 (by simpa using e1) (by simpa using e2)
  | [], _, h, i, x, y, e1, e2 => by simp at e1
  | _ :: _, [], h, i, x, y, e1, e2 => by simp at e2
theorem w_eqList {l b : Addr} {as bs : List At} {Q : Value → Heap → Prop} (hl : LA h l as) (hb : LA h b bs) (hk : Kin as bs = true) (hu : A.units < cLine) (k : Q (.bool (decide (as = bs))) h) :
    Wp (model prog w) A (compareOp .Eq (.ref l) (.ref b)) Q h := fun s hs => by
  subst hs
  obtain ⟨xs, l1, hx⟩ := hl
  obtain ⟨ys, l2, hy⟩ := hb
  have lx := hx.length
  have ly := hy.length
  by_cases hz : as.length = bs.length
  · have hsz : xs.toArray.size = ys.toArray.size := by simp; lia
    refine SeqAt.eq_listAt (e := fun i => decide (as[i]? = bs[i]?)) l1.isList l2.isList hsz hu (fun j h1 h2 => ?_) ⟨⟨rfl, rfl⟩, ?_⟩
    · simp only [List.size_toArray] at h1 h2
      have a1 : as[j]? = some as[j] := by simp
      have b1 : bs[j]? = some bs[j] := by simp
      obtain ⟨v, ev, av⟩ := hx.get a1
      obtain ⟨u, eu, au⟩ := hy.get b1
      have ev' : xs[j] = v := by simpa [h1] using ev
      have eu' : ys[j] = u := by simpa [h2] using eu
      have := AtV.eqAt (A := A.in1) (s := s) av au (kin_get hk a1 b1)
      rw [a1, b1]
      simpa [ev', eu'] using this
    · have : (List.range xs.toArray.size).all (fun i => decide (as[i]? = bs[i]?)) = decide (as = bs) := by
        rw [List.size_toArray, lx]
        refine atl_all _ as bs hz (fun i a b e1 e2 => ?_)
        rw [e1, e2]; simp
      rw [this]; exact k
  · refine SeqAt.eq_list_lengthsAt l1.isList l2.isList (by simp; lia) hu ⟨⟨rfl, rfl⟩, ?_⟩
    have : decide (as = bs) = false := decide_eq_false fun q => hz (congrArg List.length q)
    rw [this] at k; exact k
/-! reading for deep comparisons -/
def At.data : At → PyData
  | .i n => .int n
  | .s l => .str (S l)
theorem AtV.reads {v : Value} {a : At} (x : AtV v a) : Reads h v a.data [] := by
  cases a with
  | i n => obtain ⟨t, rfl⟩ := x; exact .int _ _
  | s l => obtain ⟨t, rfl⟩ := x; exact .str _ _
theorem AtL.reads : ∀ {vs : List Value} {as : List At}, AtL vs as → ReadsAll h vs (as.map At.data) []
  | [], [], _ => .nil
  | v :: vs, a :: as, x => by
    have := ReadsAll.cons (h := h) x.1.reads x.2.reads
    simpa using this
  | [], _ :: _, h => h.elim
  | _ :: _, [], h => h.elim
theorem LA.reads {a : Addr} {as : List At} (x : LA h a as) : Reads h (.ref a) (.list (as.map At.data)) [a] := by
  obtain ⟨vs, ⟨n, e⟩, r⟩ := x
  exact .list e rfl rfl (by simpa using r.reads)
theorem at_data_eqv (a b : At) (hk : At.kin a b = true) : PyData.eqv a.data b.data = decide (a = b) := by
  cases a with
  | i m =>
    cases b with
    | i k => by_cases q : m = k <;> simp [At.data, PyData.eqv, q]
    | s l => cases hk
  | s l =>
    cases b with
    | i k => cases hk
    | s l' => by_cases q : l = l' <;> simp [At.data, PyData.eqv, q, S]
def At.ok : At → Bool
  | .i _ => true
  | .s l => PyData.strOk (S l)
theorem at_ok (a : At) (h : a.ok = true) : a.data.canLay0 = true ∧ a.data.depth = 0 := by
  cases a with
  | i n => exact ⟨by simp [At.data, PyData.canLay0], by simp [At.data, PyData.depth]⟩
  | s l => exact ⟨by simpa [At.data, PyData.canLay0, At.ok] using h, by simp [At.data, PyData.depth]⟩
theorem atl_ok : ∀ (as : List At), (∀ a ∈ as, a.ok = true) → PyData.canLayAll0 (as.map At.data) = true ∧ PyData.depthAll (as.map At.data) = 0
  | [], _ => ⟨rfl, rfl⟩
  | a :: as, h => by
    have h1 := at_ok a (h a (by simp))
    have h2 := atl_ok as (fun b hb => h b (by simp [hb]))
    exact ⟨by simp [PyData.canLayAll0, h1.1, h2.1], by simp [PyData.depthAll, h1.2, h2.2]⟩
theorem atl_shaped (as : List At) (h : ∀ a ∈ as, a.ok = true) : SeqAt.shaped (.list (as.map At.data)) = true := by
  have := atl_ok as h
  simp [SeqAt.shaped, PyData.canLay0, PyData.depth, this.1, this.2]
theorem atl_eqv : ∀ (as bs : List At), Kin as bs = true → PyData.eqvAll (as.map At.data) (bs.map At.data) = decide (as = bs)
  | [], [], _ => by simp [PyData.eqvAll]
  | [], _ :: _, _ => by simp [PyData.eqvAll]
  | _ :: _, [], _ => by simp [PyData.eqvAll]
  | a :: as, b :: bs, hk => by
    simp only [Kin, Bool.and_eq_true] at hk
    simp only [List.map_cons, PyData.eqvAll, at_data_eqv a b hk.1, atl_eqv as bs hk.2]
    by_cases h1 : a = b <;> by_cases h2 : as = bs <;> simp [h1, h2]
theorem w_neList {l b : Addr} {as bs : List At} {Q : Value → Heap → Prop} (hl : LA h l as) (hb : LA h b bs) (hk : Kin as bs = true) (ha : ∀ a ∈ as, a.ok = true) (hbo : ∀ a ∈ bs, a.ok = true) (hu : A.units + 64 < cLine) (k : Q (.bool (!decide (as = bs))) h) :
    Wp (model prog w) A (compareOp .NotEq (.ref l) (.ref b)) Q h := fun s hs => by
  subst hs
  refine ne_dataH hl.reads hb.reads (atl_shaped _ ha) (atl_shaped _ hbo) hu ⟨⟨rfl, rfl⟩, ?_⟩
  · show Q (.bool (!PyData.eqvAll _ _)) _
    rw [atl_eqv as bs hk]; exact k
end
end Mine
end
section
open PySem PySem.W PyProof.Rows
set_option Elab.async false
set_option linter.unusedVariables false
set_option linter.unusedSimpArgs false
namespace Mine
/-! ## the sort's decision tree, run with an order: the stable result -/
def KOk {α : Type} (c : Nat → Nat → Bool) (n : Nat) (Q : α → Prop) : KasT α → Prop
  | .ret a => Q a
  | .ask i j k => i < n ∧ j < n ∧ KOk c n Q (k (c i j))
theorem KOk.bind {α β : Type} {c : Nat → Nat → Bool} {n : Nat} {Q : β → Prop} {f : α → KasT β} : ∀ {t : KasT α}, KOk c n (fun a => KOk c n Q (f a)) t → KOk c n Q (t.bind f)
  | .ret a, h => h
  | .ask i j k, h => ⟨h.1, h.2.1, KOk.bind h.2.2⟩
theorem KOk.mono {α : Type} {c : Nat → Nat → Bool} {n : Nat} {Q Q' : α → Prop} (hq : ∀ a, Q a → Q' a) : ∀ {t : KasT α}, KOk c n Q t → KOk c n Q' t
  | .ret a, h => hq a h
  | .ask i j k, h => ⟨h.1, h.2.1, KOk.mono hq h.2.2⟩
theorem KOk.wp {α : Type} {c : Nat → Nat → Bool} {n : Nat} {P : α → Prop} {cmp : Nat → Nat → (Bool → Shared → Prop) → Shared → Prop} {Q : α → Shared → Prop} (I : Shared → Prop)
    (hc : ∀ i j C s, i < n → j < n → I s → (∀ s', I s' → C (c i j) s') → cmp i j C s) (hQ : ∀ a s, P a → I s → Q a s) : ∀ {t : KasT α} {s : Shared}, KOk c n P t → I s → t.kasWp cmp Q s
  | .ret a, s, h, hi => hQ a s h hi
  | .ask i j k, s, h, hi => hc i j _ s h.1 h.2.1 hi fun s' hi' => KOk.wp I hc hQ h.2.2 hi'
structure Weak (c : Nat → Nat → Bool) : Prop where
  asym : ∀ i j, c i j = true → c j i = false
  nt : ∀ i j k, c j i = false → c k j = false → c k i = false
theorem Weak.irr {c : Nat → Nat → Bool} (W : Weak c) (i : Nat) : c i i = false := by
  cases h : c i i with
  | false => rfl
  | true => have := W.asym i i h; rw [h] at this; exact this
/-- strictly below, in the stable order -/
def prec (c : Nat → Nat → Bool) (i j : Nat) : Prop := c j i = false ∧ (c i j = true ∨ i < j)
theorem Weak.tl {c : Nat → Nat → Bool} (W : Weak c) {i j k : Nat} (h1 : c i j = true) (h2 : c k j = false) : c i k = true := by
  cases h : c i k with
  | true => rfl
  | false => have := W.nt j k i h2 h; rw [h1] at this; cases this
theorem Weak.tr {c : Nat → Nat → Bool} (W : Weak c) {i j k : Nat} (h1 : c j i = false) (h2 : c j k = true) : c i k = true := by
  cases h : c i k with
  | true => rfl
  | false => have := W.nt k i j h h1; rw [h2] at this; cases this
theorem prec.trans {c : Nat → Nat → Bool} (W : Weak c) {i j k : Nat} (h1 : prec c i j) (h2 : prec c j k) : prec c i k := by
  refine ⟨W.nt i j k h1.1 h2.1, ?_⟩
  rcases h1.2 with a | a
  · exact .inl (W.tl a h2.1)
  · rcases h2.2 with b | b
    · exact .inl (W.tr h1.1 b)
    · exact .inr (Nat.lt_trans a b)
abbrev gD (p : Array Nat) (k : Nat) : Nat := p.getD k 0
theorem gD_get (p : Array Nat) (k : Nat) : gD p k = (p[k]?).getD 0 := by simp [gD, Array.getD_eq_getD_getElem?]
theorem gD_rev {p : Array Nat} {i j : Nat} (hj : j ≤ p.size) (k : Nat) : gD (kas_rev p i j) k = if i ≤ k ∧ k < j then gD p (i + j - 1 - k) else gD p k := by
  rw [gD_get]; unfold kas_rev
  rw [getElem?_mirror_all hj]
  split <;> simp [gD_get]
theorem gD_bub {p : Array Nat} {k l : Nat} (hk : k < p.size) (hl : l ≤ k) (m : Nat) : gD (bubble p k (k - l)) m = if m = l then gD p k else if l < m ∧ m ≤ k then gD p (m - 1) else gD p m := by
  rw [gD_get, getElem?_bubble hk _ (by lia)]
  have e : k - (k - l) = l := by lia
  rw [e]
  repeat' split
  all_goals simp_all [gD_get]
theorem gD_range (n k : Nat) (h : k < n) : gD (List.toArray (List.range n)) k = k := by simp [gD, h]
/-- the array is a rearrangement; what lies from m on lies where it lay -/
structure Arr (n m : Nat) (p : Array Nat) : Prop where
  size : p.size = n
  le : m ≤ n
  fix : ∀ k, m ≤ k → k < n → gD p k = k
  lt : ∀ k, k < m → gD p k < m
def Srt (c : Nat → Nat → Bool) (m : Nat) (p : Array Nat) : Prop := ∀ a b, a < b → b < m → prec c (gD p a) (gD p b)
theorem Arr.all {n m : Nat} {p : Array Nat} (A : Arr n m p) (k : Nat) (h : k < n) : gD p k < n := by
  by_cases q : k < m
  · have := A.lt k q; have := A.le; lia
  · rw [A.fix k (by lia) h]; exact h
theorem Arr.up {n m m' : Nat} {p : Array Nat} (A : Arr n m p) (h : m ≤ m') (h' : m' ≤ n) : Arr n m' p :=
  ⟨A.size, h', fun k a b => A.fix k (by lia) b, fun k a => by
    by_cases q : k < m
    · have := A.lt k q; lia
    · rw [A.fix k (by lia) (by lia)]; exact a⟩
theorem Srt.up {c : Nat → Nat → Bool} (W : Weak c) {n m : Nat} {p : Array Nat} (A : Arr n m p) (S : Srt c m p) (hm : 1 ≤ m) (hn : m < n) (h : c (gD p m) (gD p (m - 1)) = false) : Srt c (m + 1) p := by
  intro a b hab hb
  have hlast : prec c (gD p (m - 1)) (gD p m) := ⟨h, .inr (by rw [A.fix m (Nat.le_refl _) hn]; exact A.lt _ (by lia))⟩
  by_cases q : b < m
  · exact S a b hab q
  · have : b = m := by lia
    subst this
    by_cases q2 : a = b - 1
    · subst q2; exact hlast
    · exact (S a (b - 1) (by lia) (by lia)).trans W hlast
theorem asc_ok {c : Nat → Nat → Bool} (W : Weak c) {n : Nat} {p : Array Nat} : ∀ (f m : Nat), 1 ≤ m → m + f = n → Arr n m p → Srt c m p →
    KOk c n (fun m' => m ≤ m' ∧ m' ≤ n ∧ Srt c m' p ∧ (m' < n → c (gD p m') (gD p (m' - 1)) = true)) (kas_asc p f m)
  | 0, m, h1, hf, A, S => ⟨Nat.le_refl _, by lia, S, fun h => by lia⟩
  | f + 1, m, h1, hf, A, S => by
    refine ⟨A.all _ (by lia), A.all _ (by lia), ?_⟩
    show KOk c n _ (if c (gD p m) (gD p (m - 1)) = true then KasT.ret m else kas_asc p f (m + 1))
    cases h : c (gD p m) (gD p (m - 1)) with
    | true => rw [if_pos rfl]; exact ⟨Nat.le_refl _, by lia, S, fun _ => h⟩
    | false =>
      rw [if_neg (by decide)]
      exact (asc_ok W f (m + 1) (by lia) (by lia) (A.up (by lia) (by lia)) (S.up W A h1 (by lia) h)).mono fun m' h => ⟨by lia, h.2.1, h.2.2⟩
/-- a falling run: the last q + 1 things are alike -/
structure Dsc (c : Nat → Nat → Bool) (n m q : Nat) (p : Array Nat) : Prop where
  b : q + 1 ≤ m
  A : Arr n (m - (q + 1)) p
  mn : m ≤ n
  one : ∀ a a', a < a' → a' < m - (q + 1) → prec c (gD p a') (gD p a)
  two : ∀ a a', a < m - (q + 1) → m - (q + 1) ≤ a' → a' < m → c a' (gD p a) = true
  three : ∀ a a', m - (q + 1) ≤ a → a < m → m - (q + 1) ≤ a' → a' < m → c a a' = false
theorem Dsc.rev {c : Nat → Nat → Bool} (W : Weak c) {n m q : Nat} {p : Array Nat} (D : Dsc c n m q p) : Arr n m (kas_rev p (m - (q + 1)) m) ∧ ∀ a a', a < a' → a' < m → prec c (gD (kas_rev p (m - (q + 1)) m) a') (gD (kas_rev p (m - (q + 1)) m) a) := by
  have hz := D.A.size
  have hb := D.b
  have hmn := D.mn
  have g := gD_rev (p := p) (i := m - (q + 1)) (j := m) (by lia)
  have fx : ∀ k, m - (q + 1) ≤ k → k < m → gD (kas_rev p (m - (q + 1)) m) k = m - (q + 1) + m - 1 - k := fun k h1 h2 => by
    rw [g, if_pos ⟨h1, h2⟩, D.A.fix _ (by lia) (by lia)]
  refine ⟨⟨by rw [kas_rev_size]; exact hz, hmn, fun k h1 h2 => by rw [g, if_neg (by lia), D.A.fix _ (by lia) h2], fun k h => ?_⟩, fun a a' h1 h2 => ?_⟩
  · by_cases q2 : m - (q + 1) ≤ k
    · rw [fx k q2 h]; lia
    · rw [g, if_neg (by lia)]; have := D.A.lt k (by lia); lia
  · by_cases q2 : a' < m - (q + 1)
    · rw [g, g, if_neg (by lia), if_neg (by lia)]; exact D.one a a' h1 q2
    · rw [fx a' (by lia) h2]
      by_cases q3 : a < m - (q + 1)
      · rw [g, if_neg (by lia)]
        have := D.two a (m - (q + 1) + m - 1 - a') q3 (by lia) (by lia)
        exact ⟨W.asym _ _ this, .inl this⟩
      · rw [fx a (by lia) (by lia)]
        exact ⟨D.three _ _ (by lia) (by lia) (by lia) (by lia), .inr (by lia)⟩
theorem Dsc.none {c : Nat → Nat → Bool} (W : Weak c) {n m : Nat} {p : Array Nat} (D : Dsc c n m 0 p) : Arr n m p ∧ ∀ a a', a < a' → a' < m → prec c (gD p a') (gD p a) := by
  have hz := D.A.size
  have hb := D.b
  have hmn := D.mn
  refine ⟨D.A.up (by lia) hmn, fun a a' h1 h2 => ?_⟩
  by_cases q2 : a' < m - (0 + 1)
  · exact D.one a a' h1 q2
  · have := D.two a a' (by lia) (by lia) h2
    rw [D.A.fix a' (by lia) (by lia)]
    exact ⟨W.asym _ _ this, .inl this⟩
theorem Dsc.next {c : Nat → Nat → Bool} (W : Weak c) {n m : Nat} {p : Array Nat} (A : Arr n m p) (R : ∀ a a', a < a' → a' < m → prec c (gD p a') (gD p a)) (hn : m < n) (h : ∀ a, a < m → c m (gD p a) = true) : Dsc c n (m + 1) 0 p :=
  ⟨by lia, by simpa using A, by lia, fun a a' h1 h2 => R a a' h1 (by lia), fun a a' h1 h2 h3 => by
    have : a' = m := by lia
    subst this; exact h a (by lia), fun a a' h1 h2 h3 h4 => by
    have e1 : a = m := by lia
    have e2 : a' = m := by lia
    subst e1; subst e2; exact W.irr _⟩
theorem desc_ok {c : Nat → Nat → Bool} (W : Weak c) {n : Nat} : ∀ (f : Nat) (p : Array Nat) (m q : Nat), m + f = n → Dsc c n m q p →
    KOk c n (fun r => Dsc c n r.2.1 r.2.2 r.1) (kas_desc f p m q)
  | 0, p, m, q, hf, D => D
  | f + 1, p, m, q, hf, D => by
    have hb := D.b
    have hmn := D.mn
    have e1 : gD p m = m := D.A.fix m (by lia) (by lia)
    have e2 : gD p (m - 1) = m - 1 := D.A.fix (m - 1) (by lia) (by lia)
    refine ⟨by show gD p m < n; lia, by show gD p (m - 1) < n; lia, ?_⟩
    show KOk c n _ (if c (gD p m) (gD p (m - 1)) = true then (if q > 0 then kas_desc f (kas_rev p (m - (q + 1)) m) (m + 1) 0 else kas_desc f p (m + 1) 0)
      else KasT.ask (gD p (m - 1)) (gD p m) fun d => if d = true then .ret (p, m, q) else kas_desc f p (m + 1) (q + 1))
    rw [e1, e2]
    cases h : c m (m - 1) with
    | true =>
      rw [if_pos rfl]
      have hall : ∀ a, m - (q + 1) ≤ a → a < m → c m a = true := fun a h1 h2 => W.tl h (D.three a (m - 1) h1 h2 (by lia) (by lia))
      have hlow : ∀ a, a < m - (q + 1) → c m (gD p a) = true := fun a h1 => W.tl h (W.asym _ _ (D.two a (m - 1) h1 (by lia) (by lia)))
      by_cases hq : q > 0
      · rw [if_pos hq]
        obtain ⟨A', R'⟩ := D.rev W
        refine desc_ok W f _ (m + 1) 0 (by lia) (Dsc.next W A' R' (by lia) fun a ha => ?_)
        rw [gD_rev (by have := D.A.size; lia)]
        split
        · rw [D.A.fix _ (by lia) (by lia)]; exact hall _ (by lia) (by lia)
        · exact hlow a (by lia)
      · rw [if_neg hq]
        have : q = 0 := by lia
        subst this
        obtain ⟨A', R'⟩ := D.none W
        refine desc_ok W f _ (m + 1) 0 (by lia) (Dsc.next W A' R' (by lia) fun a ha => ?_)
        by_cases q2 : a < m - (0 + 1)
        · exact hlow a q2
        · rw [D.A.fix a (by lia) (by lia)]; exact hall a (by lia) ha
    | false =>
      rw [if_neg (by decide)]
      refine ⟨by lia, by lia, ?_⟩
      cases h2 : c (m - 1) m with
      | true => show KOk c n _ (if true = true then _ else _); rw [if_pos rfl]; exact D
      | false =>
        show KOk c n _ (if false = true then _ else _)
        rw [if_neg (by decide)]
        have eb : m + 1 - (q + 1 + 1) = m - (q + 1) := by lia
        refine desc_ok W f _ (m + 1) (q + 1) (by lia) ⟨by lia, by rw [eb]; exact D.A, by lia, by rw [eb]; exact D.one, ?_, ?_⟩
        · rw [eb]; intro a a' h1 h3 h4
          by_cases q2 : a' < m
          · exact D.two a a' h1 h3 q2
          · have : a' = m := by lia
            subst this
            exact W.tr h2 (D.two a (a' - 1) h1 (by lia) (by lia))
        · rw [eb]
          have key : ∀ a, m - (q + 1) ≤ a → a < m → c a m = false ∧ c m a = false := fun a h1 h3 =>
            ⟨W.nt m (m - 1) a h2 (D.three a (m - 1) h1 h3 (by lia) (by lia)), W.nt a (m - 1) m (D.three (m - 1) a (by lia) (by lia) h1 h3) h⟩
          intro a a' h1 h3 h4 h5
          by_cases qa : a < m
          · by_cases qb : a' < m
            · exact D.three a a' h1 qa h4 qb
            · have : a' = m := by lia
              subst this; exact (key a h1 qa).1
          · have : a = m := by lia
            subst this
            by_cases qb : a' < a
            · exact (key a' h4 qb).2
            · have : a' = a := by lia
              subst this; exact W.irr _
theorem tail_ok {c : Nat → Nat → Bool} (W : Weak c) {n m : Nat} {p : Array Nat} (hm : 1 ≤ m) (A : Arr n m p) (R : ∀ a a', a < a' → a' < m → prec c (gD p a') (gD p a)) :
    KOk c n (fun r => 1 ≤ r.1 ∧ Arr n r.1 r.2 ∧ Srt c r.1 r.2) (kas_tail3 m n p) := by
  have hz := A.size
  have hle := A.le
  have g := gD_rev (p := p) (i := 0) (j := m) (by lia)
  have A' : Arr n m (kas_rev p 0 m) := ⟨by rw [kas_rev_size]; exact hz, hle, fun k h1 h2 => by rw [g, if_neg (by lia)]; exact A.fix k h1 h2, fun k h => by rw [g, if_pos ⟨by lia, h⟩]; exact A.lt _ (by lia)⟩
  have S' : Srt c m (kas_rev p 0 m) := fun a b h1 h2 => by
    rw [g, g, if_pos ⟨by lia, by lia⟩, if_pos ⟨by lia, by lia⟩]; exact R _ _ (by lia) (by lia)
  exact KOk.bind ((asc_ok W (n - m) m hm (by lia) A' S').mono fun m' h => ⟨by lia, A'.up h.1 h.2.1, h.2.2.1⟩)
theorem descPart_ok {c : Nat → Nat → Bool} (W : Weak c) {n m : Nat} {p : Array Nat} (hm : 1 ≤ m) (D : Dsc c n (m + 1) 0 p) :
    KOk c n (fun r => 1 ≤ r.1 ∧ Arr n r.1 r.2 ∧ Srt c r.1 r.2) (kas_descPart m n p) := by
  have hmn := D.mn
  refine KOk.bind ((desc_ok W (n - (m + 1)) p (m + 1) 0 (by lia) D).mono fun r D' => ?_)
  have hb := D'.b
  by_cases hq : r.2.2 > 0
  · rw [if_pos hq]
    obtain ⟨A', R'⟩ := D'.rev W
    exact tail_ok W (by lia) A' R'
  · rw [if_neg hq]
    have e : r.2.2 = 0 := by lia
    rw [e] at D'
    obtain ⟨A', R'⟩ := D'.none W
    exact tail_ok W (by lia) A' R'
theorem range_arr (n m : Nat) (h : m ≤ n) : Arr n m (List.toArray (List.range n)) := ⟨by simp, h, fun k _ h2 => gD_range n k h2, fun k h2 => by rw [gD_range n k (by lia)]; exact h2⟩
theorem count_ok {c : Nat → Nat → Bool} (W : Weak c) {n : Nat} (hn : 2 ≤ n) : KOk c n (fun r => 1 ≤ r.1 ∧ Arr n r.1 r.2 ∧ Srt c r.1 r.2) (kas_count n (List.toArray (List.range n))) := by
  refine KOk.bind ((asc_ok W (n - 1) 1 (Nat.le_refl _) (by lia) (range_arr n 1 (by lia)) (fun a b h1 h2 => by lia)).mono fun m h => ?_)
  obtain ⟨h1, h2, S, h3⟩ := h
  by_cases e : (m == n) = true
  · rw [if_pos e]; exact ⟨h1, range_arr n m h2, S⟩
  rw [if_neg e]
  have e : m ≠ n := by simpa using e
  have h3 := h3 (by lia)
  rw [gD_range n m (by lia), gD_range n (m - 1) (by lia)] at h3
  by_cases h4 : m > 1
  · rw [if_pos h4]
    have g0 := gD_range n 0 (by lia)
    have g1 := gD_range n (m - 1) (by lia)
    refine ⟨by show gD _ 0 < n; lia, by show gD _ (m - 1) < n; lia, ?_⟩
    show KOk c n _ (if c (gD (List.toArray (List.range n)) 0) (gD (List.toArray (List.range n)) (m - 1)) = true then KasT.ret (m, List.toArray (List.range n)) else kas_descPart m n (kas_rev (List.toArray (List.range n)) 0 m))
    rw [g0, g1]
    cases h5 : c 0 (m - 1) with
    | true => rw [if_pos rfl]; exact ⟨h1, range_arr n m h2, S⟩
    | false =>
      rw [if_neg (by decide)]
      have le1 : ∀ a b, a ≤ b → b < m → c b a = false := fun a b ha hb => by
        by_cases q : a = b
        · subst q; exact W.irr _
        · have := (S a b (by lia) hb).1
          rwa [gD_range n a (by lia), gD_range n b (by lia)] at this
      have eq : ∀ a b, a < m → b < m → c a b = false := fun a b ha hb => W.nt b (m - 1) a (le1 b (m - 1) (by lia) (by lia)) (W.nt (m - 1) 0 a h5 (le1 0 a (by lia) ha))
      have g := gD_rev (p := List.toArray (List.range n)) (i := 0) (j := m) (by simp; lia)
      have gk : ∀ k, k < m → gD (kas_rev (List.toArray (List.range n)) 0 m) k = m - 1 - k := fun k hk => by rw [g, if_pos ⟨by lia, hk⟩, gD_range _ _ (by lia)]; lia
      refine descPart_ok W h1 (Dsc.next W ⟨by rw [kas_rev_size]; simp, h2, fun k a b => by rw [g, if_neg (by lia), gD_range _ _ b], fun k a => by rw [gk k a]; lia⟩ (fun a a' ha hb => ?_) (by lia) fun a ha => ?_)
      · rw [gk a (by lia), gk a' hb]
        exact ⟨eq _ _ (by lia) (by lia), .inr (by lia)⟩
      · rw [gk a ha]; exact W.tl h3 (eq _ _ (by lia) (by lia))
  · rw [if_neg h4]
    have : m = 1 := by lia
    subst this
    exact descPart_ok W (Nat.le_refl _) (Dsc.next W (range_arr n 1 (by lia)) (fun a a' h1 h2 => by lia) (by lia) fun a ha => by
      have : a = 0 := by lia
      subst this
      rw [gD_range n 0 (by lia)]; exact h3)
theorem place_ok {c : Nat → Nat → Bool} (W : Weak c) {n k : Nat} {p : Array Nat} (A : Arr n k p) (hk : k < n) (S : Srt c k p) : ∀ (f l r : Nat), r ≤ l + f → l ≤ r → r ≤ k → (∀ a, a < l → c k (gD p a) = false) → (∀ a, r ≤ a → a < k → c k (gD p a) = true) →
    KOk c n (fun l => l ≤ k ∧ (∀ a, a < l → c k (gD p a) = false) ∧ (∀ a, l ≤ a → a < k → c k (gD p a) = true)) (kas_place p k f l r)
  | 0, l, r, hf, h1, h2, hl, hr => ⟨by lia, hl, fun a h3 h4 => hr a (by lia) h4⟩
  | f + 1, l, r, hf, h1, h2, hl, hr => by
    show KOk c n _ (if l ≥ r then KasT.ret l else .ask (gD p k) (gD p ((l + r) / 2)) fun c => if c = true then kas_place p k f l ((l + r) / 2) else kas_place p k f ((l + r) / 2 + 1) r)
    by_cases q : l ≥ r
    · rw [if_pos q]; exact ⟨by lia, hl, fun a h3 h4 => hr a (by lia) h4⟩
    · rw [if_neg q]
      have e : gD p k = k := A.fix k (Nat.le_refl _) hk
      have hmid : (l + r) / 2 < k := by lia
      rw [e]
      refine ⟨hk, A.all _ (by lia), ?_⟩
      cases h : c k (gD p ((l + r) / 2)) with
      | true =>
        show KOk c n _ (if true = true then _ else _)
        rw [if_pos rfl]
        refine place_ok W A hk S f l ((l + r) / 2) (by lia) (by lia) (by lia) hl fun a h3 h4 => ?_
        by_cases q2 : a = (l + r) / 2
        · subst q2; exact h
        · exact W.tl h (S _ a (by lia) h4).1
      | false =>
        show KOk c n _ (if false = true then _ else _)
        rw [if_neg (by decide)]
        refine place_ok W A hk S f ((l + r) / 2 + 1) r (by lia) (by lia) h2 (fun a h3 => ?_) hr
        by_cases q2 : a = (l + r) / 2
        · subst q2; exact h
        · exact W.nt _ _ _ (S a ((l + r) / 2) (by lia) hmid).1 h
theorem bin_ok {c : Nat → Nat → Bool} (W : Weak c) {n : Nat} : ∀ (f k : Nat) (p : Array Nat), 1 ≤ k → k + f = n → Arr n k p → Srt c k p → KOk c n (fun p => Arr n n p ∧ Srt c n p) (kas_bin f p k)
  | 0, k, p, h1, hf, A, S => by
    have : k = n := by lia
    subst this; exact ⟨A, S⟩
  | f + 1, k, p, h1, hf, A, S => by
    refine KOk.bind ((place_ok W A (by lia) S k 0 k (by lia) (by lia) (by lia) (fun a h => by lia) (fun a h h' => by lia)).mono fun l h => ?_)
    obtain ⟨hl, h2, h3⟩ := h
    have hz := A.size
    have g := gD_bub (p := p) (k := k) (l := l) (by lia) hl
    have e : gD p k = k := A.fix k (Nat.le_refl _) (by lia)
    refine bin_ok W f (k + 1) _ (by lia) (by lia) ⟨by rw [bubble_size]; exact hz, by lia, fun m a b => ?_, fun m a => ?_⟩ (fun a b hab hb => ?_)
    · rw [g, if_neg (by lia), if_neg (by lia)]; exact A.fix m (by lia) b
    · rw [g]
      repeat' split
      · lia
      · have := A.lt (m - 1) (by lia); lia
      · have := A.lt m (by lia); lia
    · have up : ∀ m, m < l → prec c (gD p m) k := fun m hm => ⟨h2 m hm, .inr (A.lt m (by lia))⟩
      have dn : ∀ m, l ≤ m → m < k → prec c k (gD p m) := fun m h4 h5 => ⟨W.asym _ _ (h3 m h4 h5), .inl (h3 m h4 h5)⟩
      rw [g a, g b, e]
      by_cases ha : a = l
      · rw [if_pos ha, if_neg (by lia), if_pos (by lia)]; exact dn _ (by lia) (by lia)
      · rw [if_neg ha]
        by_cases hb2 : b = l
        · rw [if_neg (by lia), if_pos hb2]; exact up a (by lia)
        · rw [if_neg hb2]
          by_cases ha2 : l < a ∧ a ≤ k
          · rw [if_pos ha2, if_pos (by lia)]; exact S _ _ (by lia) (by lia)
          · rw [if_neg ha2]
            by_cases hb3 : l < b ∧ b ≤ k
            · rw [if_pos hb3]; exact S _ _ (by lia) (by lia)
            · rw [if_neg hb3]; exact S _ _ hab (by lia)
theorem sort_ok {c : Nat → Nat → Bool} (W : Weak c) {n : Nat} (hn : 2 ≤ n) : KOk c n (fun p => Arr n n p ∧ Srt c n p) (kas_sort n) := by
  refine KOk.bind ((count_ok W hn).mono fun r h => ?_)
  obtain ⟨h1, A, S⟩ := h
  have hle := A.le
  by_cases q : r.1 < n
  · rw [if_pos q]
    have e : max r.1 1 = r.1 := by lia
    rw [e]
    exact bin_ok W (n - r.1) r.1 r.2 h1 (by lia) A S
  · rw [if_neg q]
    have e : r.1 = n := by lia
    rw [e] at A S
    exact ⟨A, S⟩
end Mine
end
section
open PySem PySem.W PyProof.Rows PySem.Calls
set_option Elab.async false
set_option maxRecDepth 100000
set_option linter.unusedVariables false
set_option linter.unusedSimpArgs false
namespace Mine
/-! ## the order of lists of small things -/
theorem at_lt_asym {a b : At} (h : At.lt a b = true) : At.lt b a = false := by
  cases a <;> cases b <;> simp [At.lt] at h ⊢
  · lia
  · exact List.le_of_lt h
theorem at_lt_tri {a b : At} (hk : At.kin a b = true) (h1 : At.lt a b = false) (h2 : At.lt b a = false) : a = b := by
  cases a <;> cases b <;> simp [At.lt, At.kin] at h1 h2 hk ⊢
  · lia
  · exact List.le_antisymm h2 h1
theorem at_lt_irr (a : At) : At.lt a a = false := by
  cases a <;> simp [At.lt]
theorem at_lt_trans {a b c : At} (h1 : At.lt a b = true) (h2 : At.lt b c = true) : At.lt a c = true := by
  cases a <;> cases b <;> cases c <;> simp [At.lt] at h1 h2 ⊢
  · lia
  · exact List.lt_trans h1 h2
theorem kin_symm (a b : At) : At.kin a b = At.kin b a := by cases a <;> cases b <;> rfl
theorem Kin_symm : ∀ (as bs : List At), Kin as bs = Kin bs as
  | [], [] => rfl
  | [], _ :: _ => rfl
  | _ :: _, [] => rfl
  | a :: as, b :: bs => by simp [Kin, kin_symm a b, Kin_symm as bs]
theorem ltL_irr : ∀ as : List At, ltL as as = false
  | [] => rfl
  | a :: as => by simp [ltL, ltL_irr as]
theorem ltL_asym : ∀ as bs : List At, ltL as bs = true → ltL bs as = false
  | [], [], h => by cases h
  | [], _ :: _, _ => rfl
  | _ :: _, [], h => by cases h
  | a :: as, b :: bs, h => by
    simp only [ltL] at h ⊢
    by_cases e : a = b
    · rw [if_pos e] at h; rw [if_pos e.symm]; exact ltL_asym as bs h
    · rw [if_neg e] at h; rw [if_neg (fun q => e q.symm)]; exact at_lt_asym h
theorem ltL_tri : ∀ as bs : List At, Kin as bs = true → ltL as bs = false → ltL bs as = false → as = bs
  | [], [], _, _, _ => rfl
  | [], _ :: _, _, h, _ => by cases h
  | _ :: _, [], _, _, h => by cases h
  | a :: as, b :: bs, hk, h1, h2 => by
    simp only [Kin, Bool.and_eq_true] at hk
    simp only [ltL] at h1 h2
    by_cases e : a = b
    · rw [if_pos e] at h1; rw [if_pos e.symm] at h2; rw [e, ltL_tri as bs hk.2 h1 h2]
    · rw [if_neg e] at h1; rw [if_neg (fun q => e q.symm)] at h2; exact absurd (at_lt_tri hk.1 h1 h2) e
theorem ltL_trans : ∀ as bs cs : List At, ltL as bs = true → ltL bs cs = true → ltL as cs = true
  | [], _, [], h1, h2 => by rename_i b; cases b <;> simp [ltL] at h1 h2
  | [], _, _ :: _, _, _ => rfl
  | _ :: _, [], _, h1, _ => by cases h1
  | _ :: _, _ :: _, [], _, h2 => by cases h2
  | a :: as, b :: bs, c :: cs, h1, h2 => by
    simp only [ltL] at h1 h2 ⊢
    by_cases e : a = b
    · subst e
      rw [if_pos rfl] at h1
      by_cases e2 : a = c
      · rw [if_pos e2] at h2 ⊢; exact ltL_trans as bs cs h1 h2
      · rw [if_neg e2] at h2 ⊢; exact h2
    · rw [if_neg e] at h1
      by_cases e2 : b = c
      · subst e2; rw [if_neg e]; exact h1
      · rw [if_neg e2] at h2
        have := at_lt_trans h1 h2
        by_cases e3 : a = c
        · subst e3; rw [at_lt_irr] at this; cases this
        · rw [if_neg e3]; exact this
theorem ltL_nt (as bs cs : List At) (k1 : Kin as bs = true) (k2 : Kin bs cs = true) (h1 : ltL bs as = false) (h2 : ltL cs bs = false) : ltL cs as = false := by
  cases h : ltL cs as with
  | false => rfl
  | true =>
    exfalso
    cases h3 : ltL as bs with
    | true => have := ltL_trans _ _ _ h h3; rw [h2] at this; cases this
    | false =>
      have := ltL_tri as bs k1 h3 h1
      subst this
      rw [h2] at h; cases h
def cmpOf (ks : List (List At)) (i j : Nat) : Bool := ltL (ks.getD i []) (ks.getD j [])
theorem weak_cmp (ks : List (List At)) (hk : ∀ i j, Kin (ks.getD i []) (ks.getD j []) = true) : Weak (cmpOf ks) :=
  ⟨fun i j h => ltL_asym _ _ h, fun i j k h1 h2 => ltL_nt _ _ _ (hk _ _) (hk _ _) h1 h2⟩
/-- all the new objects of a heap -/
noncomputable def allNews (h₀ h : Heap) (L : Addr) : List (Addr × Obj) := (List.range h.objs.size).filterMap fun b => if b = L ∨ (h₀.get? b).isSome then none else (h.get? b).map fun o => (b, o)
theorem mem_allNews {h₀ h : Heap} {L b : Addr} {o : Obj} : (b, o) ∈ allNews h₀ h L ↔ b ≠ L ∧ h₀.get? b = none ∧ h.get? b = some o := by
  unfold allNews
  rw [List.mem_filterMap]
  constructor
  · rintro ⟨a, ha, e⟩
    split at e
    · cases e
    · rename_i q
      simp only [not_or] at q
      cases e2 : h.get? a with
      | none => rw [e2] at e; cases e
      | some o' =>
        rw [e2] at e
        simp only [Option.map_some, Option.some.injEq, Prod.mk.injEq] at e
        obtain ⟨rfl, rfl⟩ := e
        exact ⟨q.1, by simpa using q.2, e2⟩
  · rintro ⟨h1, h2, h3⟩
    refine ⟨b, List.mem_range.mpr (Heap.lt_size h3), ?_⟩
    rw [if_neg (by rw [h2]; simpa using h1), h3]
    rfl
theorem allNews_ok (h₀ h : Heap) (L : Addr) : News h₀ L h (allNews h₀ h L) := fun p hp => by
  obtain ⟨b, o⟩ := p
  obtain ⟨h1, h2, h3⟩ := mem_allNews.mp hp
  exact ⟨h3, h1, h2⟩
theorem kept_of_news {h₀ h h' : Heap} {L : Addr} {m m' : Str → Option Value} (F : Fr h₀ L h m) (F' : Fr h₀ L h' m') (N : ∀ p ∈ allNews h₀ h L, h'.get? p.1 = some p.2) : Kept [L] h h' := by
  intro b o hb e
  have hb : b ≠ L := by simpa using hb
  cases e0 : h₀.get? b with
  | none => exact N _ (mem_allNews.mpr ⟨hb, e0, e⟩)
  | some o' =>
    have := F.keep b o' e0
    rw [e] at this
    cases this
    exact F'.keep b o e0
section
variable {prog : Program} {w : World} {A : Around} {h : Heap} {env : Env}
theorem oneLt_list {l b : Addr} {as bs : List At} {E : Value → Shared → Prop} {Q : Bool → Shared → Prop} {s : Shared} (hl : LA s.heap l as) (hb : LA s.heap b bs) (hk : Kin as bs = true) (hu : A.units < cLine) (k : Q (ltL as bs) s) : wpAny (model prog w) A (oneLt' true (.ref l) (.ref b)) Q E s := by
  obtain ⟨xs, ⟨n, e1⟩, hx⟩ := hl
  obtain ⟨ys, ⟨n2, e2⟩, hy⟩ := hb
  rw [oneLt'_eq]
  simp only [if_true]
  refine wpAny_bind (wpAny_cRoomFor hu ?_)
  refine wpAny_bind (wpAny_callSpecialIfBound?_slot (name := "__lt__") (T := "list") ⟨_, e1, rfl⟩ F.slot_list_lt (call_meets F.slot_list_lt ⟨_, e1, rfl⟩ F.entry_list_lt (F.args_list_lt_2 _ _) (list_ltAt l b xs ys n n2 as bs hx hy hk) ⟨e1, e2, ?_⟩))
  exact wpAny_truthy_bool k

/-- what a sort by an order gives: a stable rearrangement -/
structure Sorted (c : Nat → Nat → Bool) (n : Nat) (p : List Nat) : Prop where
  len : p.length = n
  lt : ∀ i ∈ p, i < n
  srt : p.Pairwise (prec c)
theorem sorted_of {c : Nat → Nat → Bool} {n : Nat} {p : Array Nat} (A : Arr n n p) (S : Srt c n p) : Sorted c n p.toList := by
  have hz := A.size
  refine ⟨by simpa using hz, fun i hi => ?_, ?_⟩
  · obtain ⟨k, hk, rfl⟩ := List.getElem_of_mem hi
    have : gD p k = p.toList[k] := by simp at hk; simp [gD, Array.getD_eq_getD_getElem?, hk]
    rw [← this]
    exact A.lt k (by simp at hk; lia)
  · rw [List.pairwise_iff_getElem]
    intro i j hi hj hij
    have e1 : gD p i = p.toList[i] := by simp at hi; simp [gD, Array.getD_eq_getD_getElem?, hi]
    have e2 : gD p j = p.toList[j] := by simp at hj; simp [gD, Array.getD_eq_getD_getElem?, hj]
    rw [← e1, ← e2]
    exact S i j hij (by simp at hj; lia)
theorem cmp_list {n : Nat} {ks : List Value} {kas : List (List At)} (hkl : kas.length = n) (hks : ∀ i (h : i < kas.length), ∃ a, ks[i]? = some (.ref a) ∧ LA h' a kas[i]) (hkin : ∀ x ∈ kas, ∀ y ∈ kas, Kin x y = true) (hu : A.units < cLine)
    {i j : Nat} {C : Bool → Shared → Prop} {s : Shared} (hi : i < n) (hj : j < n) (hs : Ext h' s.heap) (hC : C (cmpOf kas i j) s) : kas_ask prog w A oneType' ks i j C s := by
  unfold kas_ask
  obtain ⟨a, e1, l1⟩ := hks i (by lia)
  obtain ⟨b, e2, l2⟩ := hks j (by lia)
  rw [show ks.getD i Value.none = .ref a by simp [List.getD_eq_getElem?_getD, e1], show ks.getD j Value.none = .ref b by simp [List.getD_eq_getElem?_getD, e2], keyLt'_oneType]
  refine oneLt_list (l1.ext hs) (l2.ext hs) (hkin _ (List.getElem_mem _) _ (List.getElem_mem _)) hu ?_
  have e3 : cmpOf kas i j = ltL kas[i] kas[j] := by simp [cmpOf, List.getD_eq_getElem?_getD, hkl, hi, hj]
  rw [← e3]; exact hC
theorem kin_getD {kas : List (List At)} (hkin : ∀ x ∈ kas, ∀ y ∈ kas, Kin x y = true) (i j : Nat) : Kin (kas.getD i []) (kas.getD j []) = true := by
  have nl : ∀ x : List At, Kin [] x = true := fun x => rfl
  have nr : ∀ x : List At, Kin x [] = true := fun x => by cases x <;> rfl
  by_cases hi : i < kas.length
  · by_cases hj : j < kas.length
    · simp only [List.getD_eq_getElem?_getD, List.getElem?_eq_getElem hi, List.getElem?_eq_getElem hj, Option.getD_some]
      exact hkin _ (List.getElem_mem _) _ (List.getElem_mem _)
    · rw [show kas.getD j [] = [] by simp [List.getD_eq_getElem?_getD, List.getElem?_eq_none (Nat.le_of_not_lt hj)]]; exact nr _
  · rw [show kas.getD i [] = [] by simp [List.getD_eq_getElem?_getD, List.getElem?_eq_none (Nat.le_of_not_lt hi)]]; exact nl _
theorem lookList {h : Heap} {a : Addr} {vs : List Value} (l : Ls h a vs) : Looks (model prog w) h (typeOf (.ref a)) (.type "list") := by
  obtain ⟨n, e⟩ := l
  exact kitAt_ty _ _ ⟨_, e, rfl⟩
theorem getD_ref {ks : List Value} {i : Nat} {v : Value} (h : ks[i]? = some v) : ks.getD i Value.none = v := by simp [List.getD_eq_getElem?_getD, h]
theorem IsListOf.mk {h : Heap} {a : Addr} {vs : List Value} {n : Nat} (e : h.get? a = some (listOf vs.toArray n)) : h.IsList a vs.toArray := ⟨_, e, rfl, n, rfl⟩
theorem katKeys {base : Heap} {L q D kS : Addr} {m : Str → Option Value} {vs ks : List Value} {n : Nat} {h0 : Heap} {e1 : Nat} {news : List (Addr × Obj)} {Fin : List Value → Nat → Shared → Prop} {Inv : Shared → Prop}
    (ok : OkA n A) (hkey : ∀ (i : Nat) (v kv : Value), vs[i]? = some v → ks[i]? = some kv → KeyIs n prog w h0 (.ref q) v kv) (hkl : ks.length = vs.length)
    (hext : ∀ h' o, Fr base L h' m → News base L h' ((kS, o) :: (D, seqObj "list" #[] e1) :: news) → Ext h0 h') (hD : ∀ p ∈ (D, seqObj "list" #[] e1) :: news, p.1 ≠ kS)
    (hinv : ∀ s s' : Shared, Inv s → s'.os = s.os → s'.gens = s.gens → Inv s')
    (fin : ∀ e s, Inv s → Fr base L s.heap m → News base L s.heap ((kS, seqObj "list" ks.toArray e) :: (D, seqObj "list" #[] e1) :: news) → Fin ks e s) :
    ∀ (r : List Value) (j e : Nat) (s : Shared), vs.drop j = r → j ≤ vs.length → Inv s → Fr base L s.heap m → News base L s.heap ((kS, seqObj "list" (ks.take j).toArray e) :: (D, seqObj "list" #[] e1) :: news) → KatKeys prog w A base L m kS (.ref q) Fin r (ks.take j) e s
  | [], j, e, s, hr, hj, iv, F, N => by
    have : ks.take j = ks := List.take_of_length_le (by have := congrArg List.length hr; simp at this; lia)
    rw [this] at N ⊢
    exact fin e s iv F N
  | v :: r, j, e, s, hr, hj, iv, F, N => by
    have hlt : j < vs.length := by have := congrArg List.length hr; simp at this; lia
    have hv : vs[j]? = some v := by have := congrArg (fun l => l[0]?) hr; simpa using this
    have hr' : vs.drop (j + 1) = r := by rw [← List.drop_drop, hr]; rfl
    have hk : ks[j]? = some ks[j] := by simp
    have htk : ks.take (j + 1) = ks.take j ++ [ks[j]] := by rw [List.take_add_one, hk]; rfl
    refine KatKeys.cons (Wp.run (hkey j v ks[j] hv hk A s.heap (fun u h' => u = ks[j] ∧ Ext s.heap h') ok (hext _ _ F N) (fun h' e' => ⟨rfl, e'⟩)) (fun u s' o g y => ?_))
    obtain ⟨rfl, ex⟩ := y
    have N' := N.grown (h' := s'.heap) ex
    refine KatBack.intro (F.kept ex) N' (.head hD) (fun h' c F2 N2 => ?_)
    rw [← htk] at N2 ⊢
    exact katKeys ok hkey hkl hext hD hinv fin r (j + 1) c _ hr' hlt (hinv s _ iv o g) F2 N2
/-- sorted(l, key=f): the keys are lists of small things -/
theorem w_sortedK {base : Heap} {L l q : Addr} {m : Str → Option Value} {vs ks : List Value} {kas : List (List At)} {n : Nat} {Q : Value → Heap → Prop} (F : Fr base L h m) (hl : h.IsList l vs.toArray) (h2 : 2 ≤ vs.length) (h64 : vs.length < 64)
    (ok : OkA n A.in1.in1) (hkey : ∀ (i : Nat) (v kv : Value), vs[i]? = some v → ks[i]? = some kv → KeyIs n prog w (hideAll h [L]) (.ref q) v kv) (hkl : ks.length = vs.length)
    (hks : ∀ i (x : i < kas.length), ∃ a, ks[i]? = some (.ref a) ∧ a ≠ L ∧ LA h a kas[i]) (hl2 : kas.length = vs.length) (hkin : ∀ x ∈ kas, ∀ y ∈ kas, Kin x y = true) (hu : A.units + 64 < cLine)
    (k : ∀ D p h', Sorted (cmpOf kas) vs.length p → h.get? D = none → base.get? D = none → D ≠ L → Fr base L h' m → Kept [L] h h' → h'.IsList D (p.map fun i => vs.getD i Value.none).toArray → Q (.ref D) h') :
    Wp (model prog w) A (call (.builtin "sorted") [.ref l] [(Str.ofString "key", .ref q)]) Q h := by
  intro s hs
  subst hs
  refine kat_sortedK (news := allNews base s.heap L) (b := false) F (allNews_ok _ _ _) hl h2 h64 (ksk_s1 _ _) (fun x => ksk_l1 _ _) (fun x => rfl) (fun D kS e1 h' F' N' hDk hD => ?_)
  have hDL : D ≠ L := (N' (D, seqObj "list" #[] e1) (List.mem_cons_of_mem _ (List.mem_cons_self ..))).2.1
  have hDb : base.get? D = none := (N' (D, seqObj "list" #[] e1) (List.mem_cons_of_mem _ (List.mem_cons_self ..))).2.2
  have hDn : s.heap.get? D = none := by
    cases e : s.heap.get? D with
    | none => rfl
    | some o => exact absurd (hD _ (mem_allNews.mpr ⟨hDL, hDb, e⟩)) (Nat.lt_irrefl _)
  have kp : ∀ {h' : Heap} {o o' : Obj}, Fr base L h' m → News base L h' ((kS, o) :: (D, o') :: allNews base s.heap L) → Kept [L] s.heap h' := fun F' N' => kept_of_news F F' fun p hp => (N' p (by simp [hp])).1
  have hidE : ∀ {h' : Heap}, Kept [L] s.heap h' → Ext (hideAll s.heap [L]) h' := fun kk b o e => by
    by_cases q : b ∈ [L]
    · rw [hideAll_none _ q] at e; cases e
    · exact kk b o q (of_hideAll _ e)
  have hne : ∀ p ∈ (D, seqObj "list" #[] e1) :: allNews base s.heap L, p.1 ≠ kS := fun p hp => by
    rcases List.mem_cons.mp hp with rfl | hp
    · exact Nat.ne_of_lt hDk
    · exact Nat.ne_of_lt (Nat.lt_trans (hD p hp) hDk)
  have hneD : ∀ p ∈ allNews base s.heap L, p.1 ≠ D := fun p hp => Nat.ne_of_lt (hD p hp)
  refine katKeys (h0 := hideAll s.heap [L]) (Inv := fun s' => s'.os = s.os ∧ s'.gens = s.gens) ok hkey hkl (fun h2 o F2 N2 => hidE (kp F2 N2)) hne (fun s1 s2 iv o g => ⟨o.trans iv.1, g.trans iv.2⟩) (fun e s1 iv F1 N1 => ?_) vs 0 0 _ (by simp) (Nat.zero_le _) ⟨rfl, rfl⟩ F' N'
  have k1 := kp F1 N1
  have hks1 : ∀ i (x : i < kas.length), ∃ a, ks[i]? = some (.ref a) ∧ LA s1.heap a kas[i] := fun i x => by
    obtain ⟨a, e1, e2, l1⟩ := hks i x
    exact ⟨a, e1, l1.kept k1 (by simpa using e2)⟩
  refine kas_kind (T := .type "list") (by lia) (fun v hv => ?_) (by decide) (by decide) ?_
  · obtain ⟨i, hi, rfl⟩ := List.getElem_of_mem hv
    obtain ⟨a, e1, vs', l1, _⟩ := hks1 i (by lia)
    have : ks[i] = .ref a := by simpa [hi] using e1
    rw [this]
    exact lookList l1
  refine KOk.wp (c := cmpOf kas) (n := vs.length) (P := fun p => Arr vs.length vs.length p ∧ Srt (cmpOf kas) vs.length p) (fun s' => s' = s1) (fun i j C s' hi hj hI hC => ?_) (fun p s' hp hI => ?_) (sort_ok (weak_cmp kas (kin_getD hkin)) h2) rfl
  · subst hI
    exact cmp_list (h' := s'.heap) hl2 hks1 hkin (show A.units + 1 + 1 < cLine by lia) hi hj (Ext.refl _) (hC s' rfl)
  · subst hI
    refine KatFin.intro F1 N1 (.head hne) (fun h3 c F3 N3 => ?_)
    have N3' : News base L h3 ((D, seqObj "list" #[] e1) :: (kS, seqObj "list" #[] c) :: allNews base s.heap L) := fun p hp => N3 p (by simp at hp ⊢; rcases hp with h | h | h <;> simp [h])
    refine KasFin.intro F3 N3' (.head (fun p hp => ?_)) (fun h4 c4 F4 N4 => ?_)
    · rcases List.mem_cons.mp hp with rfl | hp
      · exact Nat.ne_of_gt hDk
      · exact hneD p hp
    · refine ⟨iv, ?_⟩
      refine k D p.toList h4 (sorted_of hp.1 hp.2) hDn hDb hDL F4 (kept_of_news F F4 fun p hp => (N4 p (by simp [hp])).1) ?_
      exact IsListOf.mk (N4 (D, _) (List.mem_cons_self ..)).1
end
end Mine
end
section
open PySem PySem.W PyProof.Rows PySem.Calls
set_option Elab.async false
set_option maxRecDepth 100000
set_option linter.unusedVariables false
set_option linter.unusedSimpArgs false
namespace Mine
section
variable {prog : Program} {w : World} {A : Around} {h : Heap} {env : Env}
theorem w_addList {l b : Addr} {xs ys : List Value} {Q : Value → Heap → Prop} (hl : Ls h l xs) (hb : Ls h b ys) (hz : xs.length + ys.length ≤ sizeLine)
    (k : ∀ h', Ext h h' → Ls h' h.objs.size (xs ++ ys) → h'.objs.size = h.objs.size + 1 → Q (.ref h.objs.size) h') : Wp (model prog w) A (binaryOp .Add (.ref l) (.ref b)) Q h := fun s hs => by
  subst hs
  obtain ⟨n, e1⟩ := hl
  obtain ⟨n2, e2⟩ := hb
  refine P.add_list e1 e2 ⟨⟨rfl, rfl⟩, k _ (Ext.push _ _) ?_ (by simp)⟩ (by simpa using hz)
  have := Ls.new s.heap (xs ++ ys)
  simpa [lst] using this
theorem w_max2 {a b : Int} {t u : Tok} {Q : Value → Heap → Prop} (hh : A.handled = none) (k : ∀ h' t, Ext h h' → Q (.int (max a b) t) h') : Wp (model prog w) A (call (.builtin "max") [.int a t, .int b u]) Q h := fun s hs => by
  subst hs
  refine max_two_ints hh (fun h' tk hk => ⟨⟨rfl, rfl⟩, ?_⟩)
  split
  · rw [show b = max a b by lia]; exact k h' _ hk
  · have : a = max a b := by lia
    rw [this]; simpa using k h' t hk
theorem w_min2 {a b : Int} {t u : Tok} {Q : Value → Heap → Prop} (hh : A.handled = none) (k : ∀ h' t, Ext h h' → Q (.int (min a b) t) h') : Wp (model prog w) A (call (.builtin "min") [.int a t, .int b u]) Q h := fun s hs => by
  subst hs
  refine min_two_ints hh (fun h' tk hk => ⟨⟨rfl, rfl⟩, ?_⟩)
  split
  · have := k h' u hk; rw [show min a b = b by lia] at this; exact this
  · have := k h' t hk; rw [show min a b = a by lia] at this; exact this
theorem w_isSame {x y : Addr} {ox oy : Obj} {Q : Bool → Heap → Prop} (hx : h.get? x = some ox) (hy : h.get? y = some oy) (hc : ox.cls ≠ .type "tuple") (k : Q (decide (x = y)) h) : Wp (model prog w) A (isSame (.ref x) (.ref y)) Q h := by
  unfold isSame
  by_cases e : x = y
  · subst e
    simp only [beq_self_eq_true, if_true]
    rw [decide_eq_true rfl] at k
    exact w_pure k
  · rw [decide_eq_false e] at k
    have e2 : (x == y) = false := by simpa using e
    simp only [e2, Bool.false_eq_true, if_false]
    refine w_bind (w_load hx (w_bind (w_load hy ?_)))
    split
    · exact absurd (by assumption) hc
    · exact w_pure k
theorem w_isRef {x y : Addr} {ox oy : Obj} {Q : Value → Heap → Prop} (hx : h.get? x = some ox) (hy : h.get? y = some oy) (hc : ox.cls ≠ .type "tuple") (k : Q (.bool (decide (x = y))) h) : Wp (model prog w) A (compareOp .Is (.ref x) (.ref y)) Q h := by
  show Wp (model prog w) A (do return Value.bool (← isSame (.ref x) (.ref y))) Q h
  exact w_bind (w_isSame hx hy hc (w_pure k))
theorem w_isNotRef {x y : Addr} {ox oy : Obj} {Q : Value → Heap → Prop} (hx : h.get? x = some ox) (hy : h.get? y = some oy) (hc : ox.cls ≠ .type "tuple") (k : Q (.bool (!decide (x = y))) h) : Wp (model prog w) A (compareOp .IsNot (.ref x) (.ref y)) Q h := by
  show Wp (model prog w) A (do return Value.bool (!(← isSame (.ref x) (.ref y)))) Q h
  exact w_bind (w_isSame hx hy hc (w_pure k))
theorem w_isNotNone {v : Value} {Q : Value → Heap → Prop} (hv : v = .none) (k : Q (.bool false) h) : Wp (model prog w) A (compareOp .IsNot v .none) Q h := fun s hs => by
  subst hs; subst hv
  show wpAny (model prog w) A (do return Value.bool (!(← isSame .none .none))) _ _ _
  exact wpAny_bind (wpAny_of_eq (a := true) rfl (wpAny_pure ⟨⟨rfl, rfl⟩, k⟩))
/-! ## ints -/
theorem w_neInt {a b : Int} {t u : Tok} {Q : Value → Heap → Prop} (k : Q (.bool (!(a == b))) h) : Wp (model prog w) A (compareOp .NotEq (.int a t) (.int b u)) Q h := fun s hs => by subst hs; exact ne_int ⟨⟨rfl, rfl⟩, k⟩
theorem w_mulInt {a b : Int} {t u : Tok} {Q : Value → Heap → Prop} (ha : Builtin.Int.intBits a ≤ 64) (k : ∀ t, Q (.int (a * b) t) h) : Wp (model prog w) A (binaryOp .Mult (.int a t) (.int b u)) Q h := fun s hs => by
  subst hs; exact PyProof.Rows.mul_int ⟨⟨rfl, rfl⟩, k _⟩ (IntMulOk.of_left ha)
theorem w_neg {e : Expr} {pos : Pos} {Q : Value → Heap → Prop} (x : Wp (model prog w) A (eval e env) (fun v h' => ∃ i t, v = .int i t ∧ ∀ t, Q (.int (-i) t) h') h) : Wp (model prog w) A (eval (.UnaryOp .USub e pos) env) Q h := by
  rw [arm_eval_UnaryOp]
  refine w_bind (x.mono fun v h' y => w_bind (w_standAt (w_holding ?_)))
  obtain ⟨i, t, rfl, k⟩ := y
  intro s hs
  subst hs
  exact PyProof.Rows.neg_int ⟨⟨rfl, rfl⟩, k _⟩
/-! ## slices -/
theorem slice_mid (items : List Value) (a b : Nat) : (slicePick items.toArray (some (a : Int)) (some (b : Int)) none).toList = (items.drop a).take (b - a) := by
  rw [slicePick_plain]
  simp only [Option.elim, clipAt_nat, List.size_toArray]
  rcases Nat.le_total a items.length with q | q
  · rw [Nat.min_eq_left q]
    rcases Nat.le_total b items.length with r | r
    · rw [Nat.min_eq_left r]
    · rw [Nat.min_eq_right r, List.take_of_length_le (by simp), List.take_of_length_le (by simp; lia)]
  · rw [Nat.min_eq_right q, List.drop_of_length_le (by simp), List.drop_of_length_le q]; simp
theorem slice_to (items : List Value) (b : Nat) : (slicePick items.toArray none (some (b : Int)) none).toList = items.take b := by
  rw [slicePick_upto']
theorem slice_initL (items : List Value) : (slicePick items.toArray none (some (-1)) none).toList = items.dropLast := by
  have := slicePick_butLast items.toArray 1 (by lia)
  rw [show (-1 : Int) = -((1 : Nat) : Int) by rfl, this]
  simp [List.dropLast_eq_take]
theorem slice_rev (items : List Value) : (slicePick items.toArray none none (some (-1))).toList = items.reverse := by
  rw [krv_pick]
/-! ## str.count of a sign -/
theorem occ_loop (x : List Nat) (c : Nat) : ∀ (k i : Nat) (st : Array Nat × Nat), i + k = x.length + 1 → st.2 ≤ i → st.1.size ≤ i →
    (forIn (List.range' i k) st (StrLaws.occBody (S x) (S [c]) (S x).length ((S x).length + 1))).run.fst.size = st.1.size + (x.drop i).count c
  | 0, i, st, hk, h1, h2 => by
    have : x.drop i = [] := by simp; lia
    simp [this]
  | k + 1, i, st, hk, h1, h2 => by
    rw [List.range'_succ, List.forIn_cons]
    have hs := StrLaws.subAt_one (S x) c i
    have e1 : (S x).cps.toList = x := by simp [S]
    rw [e1] at hs
    unfold StrLaws.occBody
    by_cases q : x[i]? = some c
    · obtain ⟨q1, q2⟩ := hs.mpr q
      have hi : i < x.length := by
        rcases Nat.lt_or_ge i x.length with y | y
        · exact y
        · rw [List.getElem?_eq_none y] at q; cases q
      rw [if_pos ⟨⟨⟨by rw [S_length]; lia, h1⟩, q1⟩, q2⟩]
      have := occ_loop x c k (i + 1) (st.1.push i, i + (S [c]).length) (by lia) (Nat.le_refl _) (by simp; lia)
      have e2 : x.drop i = c :: x.drop (i + 1) := by
        rw [List.drop_eq_getElem_cons hi]
        have : x[i] = c := by rw [List.getElem?_eq_getElem hi] at q; simpa using q
        rw [this]
      rw [e2, List.count_cons_self]
      refine Eq.trans this ?_
      simp; lia
    · rw [if_neg (fun y => q (hs.mp ⟨y.1.2, y.2⟩))]
      refine Eq.trans (occ_loop x c k (i + 1) st (by lia) (by lia) (by lia)) ?_
      rcases Nat.lt_or_ge i x.length with y | y
      · rw [List.drop_eq_getElem_cons y, List.count_cons_of_ne]
        intro e; exact q (by rw [List.getElem?_eq_getElem y, e])
      · rw [List.drop_of_length_le y, List.drop_of_length_le (by lia)]
theorem count_one (x : List Nat) (c : Nat) : (Builtin.Str.occurrences (S x) (S [c]) 0 (S x).length ((S x).length + 1)).length = x.count c := by
  rw [StrLaws.occ_eq, Array.length_toList]
  have := occ_loop x c (x.length + 1) 0 (#[], 0) (by lia) (Nat.le_refl _) (Nat.le_refl _)
  rw [show (S x).length + 1 - 0 = x.length + 1 by rw [S_length]; lia]
  simpa using this
theorem w_strCount {x : List Nat} {c : Nat} {t u : Tok} {Q : Value → Heap → Prop} (k : ∀ t, Q (.int (x.count c : Nat) t) h) : Wp (model prog w) A (call (.builtin "str.count") [.str (S x) t, .str (S [c]) u]) Q h := fun s hs => by
  subst hs
  refine call_gives PySem.F.slot_str_count (typeIs_str _ _ _) PySem.F.entry_str_count (PySem.F.args_str_count_2 _ _) (PySem.gives_str_count (S x) (S [c]) t u) ?_
  rw [count_one]
  exact ⟨⟨rfl, rfl⟩, k _⟩
end
end Mine
end
section
open PySem PySem.W PyProof.Rows PySem.Calls
set_option Elab.async false
set_option maxRecDepth 100000
set_option linter.unusedVariables false
set_option linter.unusedSimpArgs false
namespace Mine
section
variable {prog : Program} {w : World} {A : Around} {h : Heap} {env : Env}
theorem w_turn {value value' slice : Expr} {o i : Value} {Q : Value → Heap → Prop} (hv : ∀ r, letTemporaryGo value' o r = pure ()) (x : Wp (model prog w) A (subscriptTail value' slice o i) Q h) : Wp (model prog w) A (subscriptTail value slice o i) Q h := fun s hs => kba_turn hv (x s hs)
theorem w_itemL {value slice : Expr} {l : Addr} {items : List Value} {j : Nat} {u : Tok} {x : Value} {Q : Value → Heap → Prop} (hl : h.IsList l items.toArray) (hx : items[j]? = some x) (hz : items.length ≤ sizeLine) (k : Q x h)
    (hs : subscripted slice false (.ref l) (.int j u) = operate [.ref l, .int j u] (getItem (.ref l) (.int j u)) := by with_unfolding_all rfl) :
    Wp (model prog w) A (subscriptTail value slice (.ref l) (.int j u)) Q h := fun s hs' => by
  subst hs'
  have hj : j < items.length := by
    rcases Nat.lt_or_ge j items.length with q | q
    · exact q
    · rw [List.getElem?_eq_none q] at hx; cases hx
  rw [sizeLine_eq] at hz
  exact tail_any hl.typeIs slot_list_getitem.lookup (wpAny_getItem_list hl (by lia) (by lia) (by simpa using hx) ⟨⟨rfl, rfl⟩, k⟩) hs
theorem w_itemI {value slice : Expr} {l : Addr} {items : List Value} {i : Int} {j : Nat} {u : Tok} {x : Value} {Q : Value → Heap → Prop} (hl : h.IsList l items.toArray) (hi : i = j ∨ i + items.length = j) (h0 : i + items.length = j → i < 0) (hx : items[j]? = some x) (hz : items.length ≤ sizeLine) (k : Q x h)
    (hs : subscripted slice false (.ref l) (.int i u) = operate [.ref l, .int i u] (getItem (.ref l) (.int i u)) := by with_unfolding_all rfl) :
    Wp (model prog w) A (subscriptTail value slice (.ref l) (.int i u)) Q h := fun s hs' => by
  subst hs'
  have hj : j < items.length := by
    rcases Nat.lt_or_ge j items.length with q | q
    · exact q
    · rw [List.getElem?_eq_none q] at hx; cases hx
  rw [sizeLine_eq] at hz
  rcases hi with rfl | hi
  · exact tail_any hl.typeIs slot_list_getitem.lookup (wpAny_getItem_list hl (by lia) (by lia) (by simpa using hx) ⟨⟨rfl, rfl⟩, k⟩) hs
  · have h0 := h0 hi
    refine tail_any hl.typeIs slot_list_getitem.lookup (wpAny_getItem_list_neg hl h0 (by simp; lia) (by lia) ?_ ⟨⟨rfl, rfl⟩, k⟩) hs
    rw [List.size_toArray, hi]
    simpa using hx
theorem w_itemT {value slice : Expr} {t : Addr} {items : List Value} {j : Nat} {u : Tok} {x : Value} {Q : Value → Heap → Prop} (hl : h.IsTuple t items.toArray) (hx : items[j]? = some x) (hz : items.length ≤ sizeLine) (k : Q x h)
    (hs : subscripted slice false (.ref t) (.int j u) = operate [.ref t, .int j u] (getItem (.ref t) (.int j u)) := by with_unfolding_all rfl) :
    Wp (model prog w) A (subscriptTail value slice (.ref t) (.int j u)) Q h := fun s hs' => by
  subst hs'
  have hj : j < items.length := by
    rcases Nat.lt_or_ge j items.length with q | q
    · exact q
    · rw [List.getElem?_eq_none q] at hx; cases hx
  rw [sizeLine_eq] at hz
  exact item_tupleT hl (by lia) (by lia) (by unfold seqIndex?; simp [hj]; lia) hx ⟨⟨rfl, rfl⟩, k⟩ hs
/-- a slice of a list, whatever it is a slice of -/
theorem w_sliceL {value slice : Expr} {l : Addr} {items : List Value} {lv uv sv : Value} {lo hi st : Option Int} {Q : Value → Heap → Prop} (hl : h.IsList l items.toArray) (pl : IsPart lv lo) (pu : IsPart uv hi) (pk : IsPart sv st) (h0 : st ≠ some 0)
    (k : ∀ a h', a = h.objs.size + 1 → Ext h h' → Ls h' a (slicePick items.toArray lo hi st).toList → h'.objs.size = h.objs.size + 2 → Q (.ref a) h') (hsz : items.length ≤ sizeLine)
    (ops : List Value) (hs : subscripted slice false (.ref l) (.ref h.objs.size) = operate ops (getItem (.ref l) (.ref h.objs.size))) :
    Wp (model prog w) A (subscriptTail value slice (.ref l) (.ref h.objs.size)) Q (h.push { cls := .type "slice", data := .fields #[lv, uv, sv] }) :=
  w_turn (value' := .Name (Str.ofString "_") ⟨0, 0, 0, 0⟩) (fun _ => rfl) (w_sliceList hl pl pu pk h0 k hsz hs (fun _ => rfl))
/-- two names are bound to a pair -/
theorem w_asgTup2 {a b : Str} {pa pb tp : Pos} {kk : Nat} {T : Addr} {x y : Value} {m : Str → Option Value} {Q : Unit → Heap → Prop} (hh : A.handled = none) (ht : h.IsTuple T #[x, y]) (hn : h.Ns env.locals m)
    (ha : env.kindOf a = some .local) (hb : env.kindOf b = some .local) (hp : (env.scope.kind == .class || (env.scope.kind == .module && env.locals != env.globals)) = false)
    (k : ∀ h', h'.Ns env.locals (fun z => if z = b then some y else if z = a then some x else m z) → Kept [env.locals] h h' → Q () h') :
    Wp (model prog w) A (assign (.Tuple [.Name a pa, .Name b pb] kk tp) env (.ref T)) Q h := fun s hs => by
  subst hs
  exact kcp_assign hh ht ha hb hp hn (fun h' tk n kk => ⟨⟨rfl, rfl⟩, k h' n (fun c o hc e => kk c o (by simpa using hc) e)⟩)
end
theorem frOff {base h1 h2 : Heap} {L n0 b0 : Addr} {m : Str → Option Value} (F : Fr base L h1 m) (k : Off n0 b0 h1 h2) (hL : L < n0) : Fr base L h2 m :=
  ⟨F.ns.at' fun o e => k _ _ (.inl hL) e, fun b o e => k _ _ (.inl (Nat.lt_trans (Nat.lt_of_lt_of_le (Heap.lt_size e) F.above) hL)) (F.keep b o e), F.above⟩
theorem frNs {base h1 h2 : Heap} {L : Addr} {m m' : Str → Option Value} {T : List Addr} (F : Fr base L h1 m) (k : Kept T h1 h2) (hT : ∀ a ∈ T, base.get? a = none) (n : h2.Ns L m') : Fr base L h2 m' :=
  ⟨n, fun b o e => k b o (fun q => by rw [hT b q] at e; cases e) (F.keep b o e), F.above⟩
theorem frL {base h : Heap} {L : Addr} {m : Str → Option Value} (F : Fr base L h m) : base.get? L = none := by
  cases e : base.get? L with
  | none => rfl
  | some o => exact absurd (Heap.lt_size e) (Nat.not_lt.mpr F.above)
/-- a frame, and what has stayed since h0 -/
structure Fs (base h0 : Heap) (S : List Addr) (L : Addr) (h : Heap) (m : Str → Option Value) : Prop where
  F : Fr base L h m
  K : Kept S h0 h
theorem Fs.mk0 {base h : Heap} {L : Addr} {m : Str → Option Value} (F : Fr base L h m) (S : List Addr) : Fs base h S L h m := ⟨F, Kept.refl _ _⟩
theorem Fs.ns {base h0 h : Heap} {S : List Addr} {L : Addr} {m : Str → Option Value} (X : Fs base h0 S L h m) : h.Ns L m := X.F.ns
theorem Fs.ext {base h0 h h' : Heap} {S : List Addr} {L : Addr} {m : Str → Option Value} (X : Fs base h0 S L h m) (e : Ext h h') : Fs base h0 S L h' m := ⟨X.F.kept e, X.K.trans (Kept.of_ext e)⟩
theorem Fs.kept {base h0 h h' : Heap} {S T : List Addr} {L : Addr} {m : Str → Option Value} (X : Fs base h0 S L h m) (k : Kept T h h') (hT : ∀ a ∈ T, base.get? a = none) (hL : L ∉ T) (hS : ∀ a ∈ T, a ∈ S ∨ h0.get? a = none) : Fs base h0 S L h' m :=
  ⟨frKept X.F k hT hL, fun b o hb e => k b o (fun q => (hS b q).elim (fun r => hb r) fun r => by rw [r] at e; cases e) (X.K b o hb e)⟩
section
variable {M : Model} {A : Around} {h : Heap} {env : Env}
theorem w_stF {base h0 : Heap} {S : List Addr} {L : Addr} {x : Str} {v : Value} {m : Str → Option Value} {Q : Unit → Heap → Prop} (X : Fs base h0 S L h m)
    (k : ∀ h', Fs base h0 S L h' (fun y => if y = x then some v else m y) → Heap.SameBut L h h' → Q () h') (hS : L ∈ S := by simp) (hL : env.locals = L := by rfl)
    (hl : env.kindOf x = some .local := by rfl) (hp : (env.scope.kind == .class || (env.scope.kind == .module && env.locals != env.globals)) = false := by rfl) :
    Wp M A (storeName env x v) Q h :=
  w_stS X.F (fun h' F' sb => k h' ⟨F', X.K.trans (Kept.of_same sb hS)⟩ sb) hL hl hp
theorem w_asgTup2F {prog : Program} {w : World} {base h0 : Heap} {S : List Addr} {L : Addr} {a b : Str} {pa pb tp : Pos} {kk : Nat} {T : Addr} {x y : Value} {m : Str → Option Value} {Q : Unit → Heap → Prop} (X : Fs base h0 S L h m) (hh : A.handled = none) (ht : h.IsTuple T #[x, y])
    (k : ∀ h', Fs base h0 S L h' (fun z => if z = b then some y else if z = a then some x else m z) → Kept [L] h h' → Q () h') (hS : L ∈ S := by simp) (hL : env.locals = L := by rfl)
    (ha : env.kindOf a = some .local := by rfl) (hb : env.kindOf b = some .local := by rfl) (hp : (env.scope.kind == .class || (env.scope.kind == .module && env.locals != env.globals)) = false := by rfl) :
    Wp (model prog w) A (assign (.Tuple [.Name a pa, .Name b pb] kk tp) env (.ref T)) Q h := by
  subst hL
  exact w_asgTup2 hh ht X.F.ns ha hb hp (fun h' n kk => k h' ⟨frNs X.F kk (List.forall_mem_singleton.mpr (frL X.F)) n, X.K.trans (kk.mono (by simpa using hS))⟩ kk)
end
end Mine
end
section
open PySem PySem.W PyProof.Rows PySem.Calls
set_option Elab.async false
set_option maxRecDepth 100000
set_option linter.unusedVariables false
set_option linter.unusedSimpArgs false
namespace Mine
/-- a loop's postcondition is hidden behind a variable, so that no step copies it -/
theorem w_hide {M : Model} {A : Around} {t : Sem Unit} {s : Sem Flow} {Q : Flow → Heap → Prop} {h : Heap} (x : ∀ Qb : Flow → Heap → Prop, (∀ f h, Q f h → Qb f h) → Wp M A t (fun _ h2 => Wp M A s Qb h2) h) : Wp M A t (fun _ h2 => Wp M A s Q h2) h := x Q (fun _ _ h => h)
theorem t_hide {M : Model} {A : Around} {t : Sem Unit} {ifs : List Expr} {elt : Expr} {env : Env} {Q : Option Value → Heap → Prop} {h : Heap} (x : ∀ Qb : Option Value → Heap → Prop, (∀ r h, Q r h → Qb r h) → Wp M A t (fun _ h2 => TestElt M A ifs elt env Qb h2) h) : Wp M A t (fun _ h2 => TestElt M A ifs elt env Q h2) h := x Q (fun _ _ h => h)
section
variable {prog : Program} {w : World} {A : Around} {h : Heap} {env : Env}
/-- things that stand to each other, place by place -/
def Rel2 (E : Nat → Value → Value → Prop) (items ys : List Value) : Prop := ys.length = items.length ∧ ∀ i v y, items[i]? = some v → ys[i]? = some y → E i v y
theorem rel_step {E : Nat → Value → Value → Prop} {items ys : List Value} {i : Nat} {v y : Value} (h : Rel2 E (items.take i) ys) (hv : items[i]? = some v) (hy : E i v y) : Rel2 E (items.take (i + 1)) (ys ++ [y]) := by
  have hi : i < items.length := by
    rcases Nat.lt_or_ge i items.length with q | q
    · exact q
    · rw [List.getElem?_eq_none q] at hv; cases hv
  have hl : ys.length = i := by have := h.1; simp at this; lia
  refine ⟨by simp; lia, fun j v' y' e1 e2 => ?_⟩
  by_cases q : j < i
  · refine h.2 j v' y' ?_ ?_
    · rw [List.getElem?_take] at e1 ⊢; rw [if_pos (by lia)] at e1; rw [if_pos q]; exact e1
    · rwa [List.getElem?_append_left (by lia)] at e2
  · have hj : j = i := by
      rw [List.getElem?_take] at e1
      split at e1
      · lia
      · cases e1
    subst hj
    rw [List.getElem?_take, if_pos (by lia), hv] at e1
    rw [List.getElem?_append_right (by lia), hl] at e2
    simp at e1 e2
    subst e1; subst e2; exact hy
theorem compT_pure {elt : Expr} {x : Str} {px : Pos} {scope : Scope} {cl : List (Str × Addr)} {n : Nat} {items : List Value} (E : Nat → Value → Value → Prop) (hn : n = items.length) (hkind : scope.kind = .function) (hx : scope.names.lookup x = some .local)
    (he : ∀ C h' (m : Str → Option Value) i v (Q' : Value → Heap → Prop), items[i]? = some v → Ext h h' → h'.Ns C (fun y => if y = x then some v else m y) → h.objs.size ≤ C → (∀ y h'', E i v y → Ext h' h'' → Q' y h'') → Wp (model prog w) A (eval elt (compEnvC scope cl C env)) Q' h') :
    CompT prog w A env elt (.Name x px) [] scope cl n (fun i v _ => items[i]? = some v) h [] (fun b0 i ys h' => Rel2 E (items.take i) ys) where
  off := fun _ _ _ _ _ j _ => j
  zero := fun _ => ⟨rfl, fun i v y e _ => by simp at e⟩
  turn := fun b0 C i v ys h' m hi hC hb p j k hy ns => by
    refine w_asgName ?_
    refine w_store (env := compEnvC scope cl C env) (m := m) ns (fun h2 n2 sb2 => ?_) (lookup_relabel_local hx) (by simp [compEnvC, relabel, hkind])
    show Wp _ _ _ _ _
    have k2 : Kept [C] h' h2 := Kept.of_same sb2 (List.mem_singleton.mpr rfl)
    have e2 : Ext h h2 := fun b o e => k2 b o (by simp only [List.mem_singleton]; intro q; subst q; exact absurd (Heap.lt_size e) (Nat.not_lt.mpr hC)) (k b o (by first | (with_reducible (first | exact im1 | exact im2 | exact im3 | exact sb0 | exact sb1 im1 | exact sb1 im2 | exact sb1 im3)) | exact nmc (adne (by decide)) nm0 | exact nmc (adne (by decide)) (nmc (adnn (by decide)) nm0) | simp) e)
    refine he C h2 m i v _ p e2 n2 hC (fun y h3 hy e3 => ⟨?_, ⟨_, n2.keeps e3⟩, rel_step j p hy⟩)
    exact k2.trans (Kept.of_ext e3)
/-- [elt for x in l]: a pure element -/
theorem w_lcPure {elt iter : Expr} {x : Str} {px : Pos} {scope : Scope} {cl : List (Str × Addr)} {pos : Pos} {Q : Value → Heap → Prop} (hh : A.handled = none)
    (hclos : closureFor scope env = pure cl) (hcell : (scope.names.all fun y => y.2 != .cell) = true) (hkind : scope.kind = .function) (hnames : (scope.names.all fun y => y.2 != .local || decide (scope.names.lookup y.1 = some .local)) = true) (hx : scope.names.lookup x = some .local)
    (e : Wp (model prog w) A (eval iter env) (fun xv h₁ => ∃ l items E, xv = .ref l ∧ h₁.IsList l items.toArray ∧ items.length ≤ sizeLine ∧
      (∀ C h' (m : Str → Option Value) i v (Q' : Value → Heap → Prop), items[i]? = some v → Ext h₁ h' → h'.Ns C (fun y => if y = x then some v else m y) → h₁.objs.size ≤ C → (∀ y h'', E i v y → Ext h' h'' → Q' y h'') → Wp (model prog w) A (eval elt (compEnvC scope cl C env)) Q' h') ∧
      (∀ ys D h', h₁.objs.size ≤ D → Ls h' D ys → Rel2 E items ys → Ext h₁ h' → Q (.ref D) h')) h)
    (hs : ∀ x, foldedSetIterable iter env x = pure x := by intro _; rfl) :
    Wp (model prog w) A (eval (.ListComp elt [⟨.Name x px, iter, [], 0⟩] scope pos) env) Q h := by
  refine w_lcI (by first | (with_reducible (first | exact im1 | exact im2 | exact im3 | exact sb0 | exact sb1 im1 | exact sb1 im2 | exact sb1 im3)) | exact nmc (adne (by decide)) nm0 | exact nmc (adne (by decide)) (nmc (adnn (by decide)) nm0) | simp) hclos hcell hkind hnames (e.mono fun xv h₁ y => ?_) hs
  obtain ⟨l, items, E, rfl, hl, hz, he, k⟩ := y
  have hlt : l < h₁.objs.size := let ⟨o, e, _⟩ := hl; Heap.lt_size e
  refine ⟨items.length, _, [l], iterList (.inl rfl) hh hl, hz, by simpa using hlt, [], _, by simp, compT_pure E rfl hkind hx he, fun b0 ys D h' hD hb l hy j kk => ?_⟩
  rw [List.take_length] at j
  exact k ys D h' hD l j (fun b o e => kk b o (by first | (with_reducible (first | exact im1 | exact im2 | exact im3 | exact sb0 | exact sb1 im1 | exact sb1 im2 | exact sb1 im3)) | exact nmc (adne (by decide)) nm0 | exact nmc (adne (by decide)) (nmc (adnn (by decide)) nm0) | simp) e)
/-- x = [elt for ..] with a frame -/
theorem w_asgLc {base h0 : Heap} {S : List Addr} {L : Addr} {m : Str → Option Value} {elt target iter : Expr} {ifs : List Expr} {scope : Scope} {cl : List (Str × Addr)} {pos pos' pos2 : Pos} {y : Str} {Q : Flow → Heap → Prop} (X0 : Fs base h0 S L h m) (hif : ifs.length ≤ 1)
    (hclos : closureFor scope env = pure cl) (hcell : (scope.names.all fun y => y.2 != .cell) = true) (hkind : scope.kind = .function) (hnames : (scope.names.all fun y => y.2 != .local || decide (scope.names.lookup y.1 = some .local)) = true)
    (hsw : swapsWith (.ListComp elt [⟨target, iter, ifs, 0⟩] scope pos) (some (.Name y pos')) pos2.line env = pure true) (hL : env.locals = L) (hS : L ∈ S) (hly : env.kindOf y = some .local) (hp : (env.scope.kind == .class || (env.scope.kind == .module && env.locals != env.globals)) = false)
    (e : Wp (model prog w) A (eval iter env) (fun xv h₁ => ∃ n P old, Iter prog w A target (fun Q => Wp (model prog w) A (pyIter xv) Q h₁) n P old h₁ ∧ n ≤ sizeLine ∧ (∀ b ∈ old, b < h₁.objs.size) ∧ Ext h h₁ ∧
      ∃ J, CompT prog w A env elt target ifs scope cl n P h₁ [] J ∧
        (∀ b0 ys D C h'' h', h₁.objs.size ≤ D → D < C → C < b0 → L < h₁.objs.size → Ls h' D ys → ys.length ≤ n → J b0 n ys h'' → Kept [L, C] h'' h' → Ext h₁ h'' → Fs base h0 S L h' (fun z => if z = y then some (.ref D) else m z) → Q .next h')) h)
    (hs : ∀ x, foldedSetIterable iter env x = pure x := by intro _; rfl) :
    Wp (model prog w) A (exec (.Assign [.Name y pos'] (.ListComp elt [⟨target, iter, ifs, 0⟩] scope pos) pos2) env) Q h := by
  refine w_asgUsed hsw (w_lcIU hif hclos hcell hkind hnames (e.mono fun xv h₁ z => ?_) hs)
  obtain ⟨n, P, old, it, hn, hold, ex0, J, Y, k⟩ := z
  have X := X0.ext ex0
  refine ⟨n, P, old, it, hn, hold, [], J, by simp, Y, fun b0 ys D C h' mC hD hDC hCb l hy j kk ns => ?_⟩
  have ex : Ext h₁ h' := fun b o e => kk b o (by first | (with_reducible (first | exact im1 | exact im2 | exact im3 | exact sb0 | exact sb1 im1 | exact sb1 im2 | exact sb1 im3)) | exact nmc (adne (by decide)) nm0 | exact nmc (adne (by decide)) (nmc (adnn (by decide)) nm0) | simp) e
  have X' := X.ext ex
  have hLn : L < h₁.objs.size := X.ns.lt
  have hCL : C ≠ L := by lia
  have hDL : D ≠ L := by lia
  refine w_asgName (w_stF X' (fun h3 X3 sb3 => ⟨⟨mC, ns.at' fun o e => (sb3.2 _ hCL).trans e⟩, fun h4 sb4 => ?_⟩) hS hL hly hp)
  refine k b0 ys D C h' h4 hD hDC hCb hLn ((l.same sb3 hDL).same sb4 (Nat.ne_of_lt hDC)) hy j ((Kept.of_same sb3 (by first | (with_reducible (first | exact im1 | exact im2 | exact im3 | exact sb0 | exact sb1 im1 | exact sb1 im2 | exact sb1 im3)) | exact nmc (adne (by decide)) nm0 | exact nmc (adne (by decide)) (nmc (adnn (by decide)) nm0) | simp)).trans (Kept.of_same sb4 (by first | (with_reducible (first | exact im1 | exact im2 | exact im3 | exact sb0 | exact sb1 im1 | exact sb1 im2 | exact sb1 im3)) | exact nmc (adne (by decide)) nm0 | exact nmc (adne (by decide)) (nmc (adnn (by decide)) nm0) | simp))) ex ?_
  refine X3.kept (T := [C]) (Kept.of_same sb4 (by first | (with_reducible (first | exact im1 | exact im2 | exact im3 | exact sb0 | exact sb1 im1 | exact sb1 im2 | exact sb1 im3)) | exact nmc (adne (by decide)) nm0 | exact nmc (adne (by decide)) (nmc (adnn (by decide)) nm0) | simp)) (List.forall_mem_singleton.mpr ?_) (by simpa using hCL.symm) (List.forall_mem_singleton.mpr ?_)
  · exact get_none (Nat.le_trans X.F.above (Nat.le_of_lt (Nat.lt_of_lt_of_le hLn (Nat.le_trans hD (Nat.le_of_lt hDC)))))
  · by_cases hCS : C ∈ S
    · exact .inl hCS
    · refine .inr ?_
      cases e0 : h0.get? C with
      | none => rfl
      | some o =>
        have := Heap.lt_size (X.K _ _ hCS e0)
        lia
end
end Mine
end
section
open PySem PySem.W PyProof.Rows PySem.Calls
set_option Elab.async false
set_option maxRecDepth 100000
set_option linter.unusedVariables false
set_option linter.unusedSimpArgs false
namespace Mine
section
variable {prog : Program} {w : World} {A : Around} {h H : Heap} {mg mb : Str → Option Value} {env : Env}
/-- the signs of a text, one by one -/
theorem iterStr {target : Expr} {x : List Nat} {t : Tok} (ht : isNameT target = true) (hh : A.handled = none) :
    Iter prog w A target (fun Q => Wp (model prog w) A (pyIter (.str (S x) t)) Q h) x.length (fun i v _ => ∃ c k, x[i]? = some c ∧ v = .str (S [c]) k) [] h := by
  intro Q k s hs
  subst hs
  have e : (S x).cps.size = x.length := by simp [S]
  have go : ∀ (T : String) (o : Obj), Walks prog w A s.heap.objs.size [s.heap.objs.size] [s.heap.objs.size] (S x).cps.size (SignAt (S x)) (fun i h => h.IsStrIter s.heap.objs.size T (S x) t i) → (s.heap.push o).IsStrIter s.heap.objs.size T (S x) t 0 → Q (.ref s.heap.objs.size) (s.heap.push o) := fun T o W st => by
    rw [e] at W
    refine k s.heap.objs.size [s.heap.objs.size] [s.heap.objs.size] _ _ ⟨W.sub, fun b hb => by rw [List.mem_singleton.mp hb]; exact Nat.le_refl _, fun i h q => ⟨_, q.choose_spec.1⟩, W.frame, fun i h Q hi st hQ s hs => ?_, fun h Q st hQ s hs => ?_, fun s Q E st hQ => W.self 0 s Q E st hQ⟩ st (Ext.push _ _) (Nat.le_refl _) (fun b hb => by rw [List.mem_singleton.mp hb]; exact Nat.le_refl _) (fun b hb => .inr (by rw [List.mem_singleton.mp hb]; exact ⟨Nat.le_refl _, Nat.le_refl _⟩))
    · subst hs
      refine W.item i s _ _ hi st (fun v h' tk hp st' kk => ⟨⟨rfl, rfl⟩, v, rfl, ?_⟩)
      rw [letOwn_name ht]
      obtain ⟨c, u, h1, h2⟩ := hp
      exact w_pure (hQ v h' ⟨c, u, by simpa [S] using h1, h2⟩ st' kk)
    · subst hs
      exact W.done s _ _ st (fun h' tk kk => ⟨⟨rfl, rfl⟩, rfl, hQ h' kk⟩)
  cases ha : (S x).cps.all (· < 128)
  · exact wpAny_pyIter_wide ha ⟨⟨rfl, rfl⟩, go _ _ (Walks.strWide hh _ (S x) t) ⟨_, Heap.get?_push_size _ rfl, rfl, rfl⟩⟩
  · exact wpAny_pyIter_ascii ha ⟨⟨rfl, rfl⟩, go _ _ (Walks.strAscii hh _ (S x) t) ⟨_, Heap.get?_push_size _ rfl, rfl, rfl⟩⟩
theorem compT_str {elt : Expr} {x : Str} {px : Pos} {scope : Scope} {cl : List (Str × Addr)} {word : List Nat} (f : Nat → List Nat) (hkind : scope.kind = .function) (hx : scope.names.lookup x = some .local)
    (he : ∀ C h (m : Str → Option Value) c t (Q' : Value → Heap → Prop), c ∈ word → h.Ns C (fun y => if y = x then some (.str (S [c]) t) else m y) → (∀ t, Q' (.str (S (f c)) t) h) → Wp (model prog w) A (eval elt (compEnvC scope cl C env)) Q' h) :
    CompT prog w A env elt (.Name x px) [] scope cl word.length (fun i v _ => ∃ c k, word[i]? = some c ∧ v = .str (S [c]) k) h [] (fun b0 i ys h' => Strs ys ((word.take i).map f)) where
  off := fun _ _ _ _ _ j _ => j
  zero := fun _ => trivial
  turn := fun b0 C i v ys h' m hi hC hb ⟨c, u, hc, hv⟩ j k hy ns => by
    subst hv
    refine w_asgName (w_store (env := compEnvC scope cl C env) (m := m) ns (fun h2 n2 sb2 => ?_) (lookup_relabel_local hx) (by simp [compEnvC, relabel, hkind]))
    refine he C h2 m c u _ (List.mem_of_getElem? hc) n2 (fun t => ⟨Kept.of_same sb2 (List.mem_cons_self ..), ⟨_, n2⟩, ?_⟩)
    show Strs _ ((word.take (i + 1)).map f)
    rw [List.take_add_one, hc, List.map_append]
    exact j.append Strs.one
theorem w_lcStr {base : Heap} {L : Addr} {m : Str → Option Value} {elt iter : Expr} {x : Str} {px : Pos} {scope : Scope} {cl : List (Str × Addr)} {pos : Pos} {Q : Value → Heap → Prop} {word : List Nat} (f : Nat → List Nat) (F : Fr base L h m) (hh : A.handled = none) (hz : word.length ≤ sizeLine)
    (hclos : closureFor scope env = pure cl) (hcell : (scope.names.all fun y => y.2 != .cell) = true) (hkind : scope.kind = .function) (hnames : (scope.names.all fun y => y.2 != .local || decide (scope.names.lookup y.1 = some .local)) = true) (hx : scope.names.lookup x = some .local)
    (hi : ∀ Q' : Value → Heap → Prop, (∀ t, Q' (.str (S word) t) h) → Wp (model prog w) A (eval iter env) Q' h)
    (he : ∀ C h (m : Str → Option Value) c t (Q' : Value → Heap → Prop), c ∈ word → h.Ns C (fun y => if y = x then some (.str (S [c]) t) else m y) → (∀ t, Q' (.str (S (f c)) t) h) → Wp (model prog w) A (eval elt (compEnvC scope cl C env)) Q' h)
    (k : ∀ D ys h', Fr base L h' m → Ls h' D ys → Strs ys (word.map f) → base.objs.size ≤ D → D ≠ L → Q (.ref D) h')
    (hs : ∀ x, foldedSetIterable iter env x = pure x := by intro _; rfl) :
    Wp (model prog w) A (eval (.ListComp elt [⟨.Name x px, iter, [], 0⟩] scope pos) env) Q h := by
  refine w_lcI (Nat.zero_le _) hclos hcell hkind hnames (hi _ fun t => ⟨word.length, _, [], iterStr rfl hh, hz, fun b hb => (nomatch hb), [], _, fun b hb => (nomatch hb), compT_str f hkind hx he, fun b0 ys D h' hD hb l hy j kk => ?_⟩) hs
  rw [List.take_length] at j
  exact k D ys h' (F.kept fun b o e => kk b o (fun q => (nomatch q)) e) l j (Nat.le_trans F.above (Nat.le_trans (Nat.le_of_lt F.ns.lt) hD)) (Nat.ne_of_gt (Nat.lt_of_lt_of_le F.ns.lt hD))

theorem w_lcStrA {base : Heap} {L : Addr} {m : Str → Option Value} {elt iter : Expr} {x : Str} {px : Pos} {scope : Scope} {cl : List (Str × Addr)} {pos pos' pos2 : Pos} {y : Str} {Q : Flow → Heap → Prop} {word : List Nat} (f : Nat → List Nat) (F : Fr base L h m) (hh : A.handled = none) (hz : word.length ≤ sizeLine)
    (hclos : closureFor scope env = pure cl) (hcell : (scope.names.all fun y => y.2 != .cell) = true) (hkind : scope.kind = .function) (hnames : (scope.names.all fun y => y.2 != .local || decide (scope.names.lookup y.1 = some .local)) = true) (hx : scope.names.lookup x = some .local)
    (hi : ∀ Q' : Value → Heap → Prop, (∀ t, Q' (.str (S word) t) h) → Wp (model prog w) A (eval iter env) Q' h)
    (he : ∀ C h (m : Str → Option Value) c t (Q' : Value → Heap → Prop), c ∈ word → h.Ns C (fun y => if y = x then some (.str (S [c]) t) else m y) → (∀ t, Q' (.str (S (f c)) t) h) → Wp (model prog w) A (eval elt (compEnvC scope cl C env)) Q' h)
    (hsw : swapsWith (.ListComp elt [⟨.Name x px, iter, [], 0⟩] scope pos) (some (.Name y pos')) pos2.line env = pure true) (hloc : env.locals = L) (hly : env.kindOf y = some .local) (hp : (env.scope.kind == .class || (env.scope.kind == .module && env.locals != env.globals)) = false)
    (k : ∀ D ys h', Fr base L h' (fun z => if z = y then some (.ref D) else m z) → Ls h' D ys → Strs ys (word.map f) → base.objs.size ≤ D → D ≠ L → Q .next h')
    (hs : ∀ x, foldedSetIterable iter env x = pure x := by intro _; rfl) :
    Wp (model prog w) A (exec (.Assign [.Name y pos'] (.ListComp elt [⟨.Name x px, iter, [], 0⟩] scope pos) pos2) env) Q h := by
  refine w_asgLc (Fs.mk0 F [L]) (Nat.zero_le _) hclos hcell hkind hnames hsw hloc (List.mem_cons_self ..) hly hp (hi _ fun t => ⟨word.length, _, [], iterStr rfl hh, hz, fun b hb => (nomatch hb), Ext.refl _, _, compT_str f hkind hx he, fun b0 ys D C h'' h' hD hDC hCb hL l hy j kk ex X => ?_⟩) hs
  rw [List.take_length] at j
  exact k D ys h' X.F l j (Nat.le_trans F.above (Nat.le_trans (Nat.le_of_lt hL) hD)) (Nat.ne_of_gt (Nat.lt_of_lt_of_le hL hD))

theorem w_eqInt {a b : Int} {t u : Tok} {Q : Value → Heap → Prop} (k : Q (.bool (a == b)) h) : Wp (model prog w) A (compareOp .Eq (.int a t) (.int b u)) Q h := fun s hs => by subst hs; exact wpAny_eq_int ⟨⟨rfl, rfl⟩, k⟩
end
section
variable {M : Model} {A : Around} {h : Heap} {env : Env}
theorem w_ifP {test : Expr} {body orelse : List Stmt} {pos : Pos} {Q : Flow → Heap → Prop} {P : Prop}
    (ht : ∀ Q' : Bool → Heap → Prop, (P → Q' true h) → (¬ P → Q' false h) → Wp M A (isTrue test env (eval test env)) Q' h) (x : P → Wp M A (execs body env) Q h) (y : ¬ P → Wp M A (execs orelse env) Q h) :
    Wp M A (exec (.If test body orelse pos) env) Q h := w_if_ (ht _ (fun p => ⟨fun _ => x p, fun e => by cases e⟩) (fun p => ⟨fun e => (by cases e), fun _ => y p⟩))
end
section
variable {prog : Program} {w : World} {A : Around} {h : Heap} {env : Env}
/-- ''.join(e) -/
theorem w_joinCall {sep name : Str} {kk : Nat} {p apos pos : Pos} {e : Expr} {Q : Value → Heap → Prop} (hsep : sep = S []) (hname : name = Str.ofString "join")
    (x : Wp (model prog w) A (eval e env) (fun v h₁ => ∃ a ys ts B, v = .ref a ∧ h₁.IsList a ys.toArray ∧ Strs ys ts ∧ (∀ y ∈ ts, y.length ≤ B) ∧ ts.length * B ≤ 16777216 ∧ ∀ t, Q (.str (S ts.flatten) t) h₁) h)
    (he : starEach [e] env = [(false, eval e env)] := by rfl) (hline : (apos.endLine == pos.line) = true := by rfl) :
    Wp (model prog w) A (eval (.Call (.Attribute (.Constant (.str sep) kk p) name apos) [e] [] pos) env) Q h := by
  subst hname
  refine w_meth (T := "str") (id := "str.join") PySem.F.plainAttrs_str PySem.F.slot_str_join PySem.F.type_str_join ?_ rfl (by rw [he]; rfl) hline
  refine w_cS [] hsep fun _ => ⟨fun s hs => typeIs_str _ _ _, fun a e => (by cases e), ?_⟩
  refine w_args (w_arg (x.mono fun v h1 y => ?_) he) rfl he
  obtain ⟨a, ys, ts, B, rfl, hl, hs, hB, hz, k⟩ := y
  exact w_arg0 (w_kw0 ⟨Kp.builtin _, w_join hl hs hB hz k⟩)
end
def escQ (c : Nat) : List Nat := if c ∈ [34, 92] then [92, c] else [c]
def escB (c : Nat) : List Nat := if c ∈ [32, 10, 92] then [92, c] else [c]
def escA (c : Nat) : List Nat := [92, c]
def bareOf (word : List Nat) : List (List Nat) := if word.head? = some 34 then (word.map escB).set 0 [92, 34] else word.map escB
/-- what _law_written answers -/
def wrt (word : List Nat) (way : Nat) : List Nat :=
  if word = [] ∨ way = 0 then [34] ++ (word.map escQ).flatten ++ [34] else if way = 1 then (word.map escA).flatten else (bareOf word).flatten
abbrev aWr : Addr := 109
abbrev nWord : Str := Str.ofString "word"
abbrev nWay : Str := Str.ofString "way"
abbrev nSign : Str := Str.ofString "sign"
theorem escQ_len (c : Nat) : (escQ c).length ≤ 2 := by unfold escQ; split <;> simp
theorem escB_len (c : Nat) : (escB c).length ≤ 2 := by unfold escB; split <;> simp
section
variable {prog : Program} {w : World} {A : Around} {h H : Heap} {mg mb : Str → Option Value} {env : Env}
set_option maxHeartbeats 4000000 in
theorem wr_call {n : Nat} {word : List Nat} {way : Nat} {t u : Tok} {Q : Value → Heap → Prop} (G : Gd w mg mb H h) (ok : OkA (n + 1) A) (hz : word.length ≤ 1000)
    (k : ∀ h' t, Ext h h' → Q (.str (S (wrt word way)) t) h') :
    Wc (model prog w) A (.call (.ref aWr) ⟨[.str (S word) t, .int way u], []⟩) Q h := by
  refine c_callK (binds := [(nWord, .str (S word) t), (nWay, .int way u)]) G.now ok (by kernel_rfl) (by kernel_rfl) (by kernel_rfl) (by kernel_rfl) (fun _ => by kernel_rfl) (by kernel_rfl) (by kernel_rfl) (fun L h₁ F ok' => ?_)
  have fin : ∀ {h' : Heap} {m : Str → Option Value} {t : Tok}, Fr h L h' m → Q (.str (S (wrt word way)) t) h' := fun F' => k _ _ F'.keep
  have hb1 : ∀ (g : Nat → List Nat), (∀ c, (g c).length ≤ 2) → ∀ y ∈ word.map g, y.length ≤ 2 := fun g hg y hy => by
    obtain ⟨c, _, rfl⟩ := List.mem_map.mp hy; exact hg c
  refine w_cons (w_ifP (P := word = [] ∨ way = 0) (fun Q' kt kf => ?_) (fun hq => ?_) (fun hq => w_nil ?_))
  · refine w_tOr (w_tCmp (w_nm F.ns rfl (w_cS [] (by kernel_rfl) fun _ => w_eqStr (w_tBool ⟨fun e => kt (.inl (by simpa using e)), fun e => ?_⟩))))
    refine w_tOr (w_tCmp (w_nm F.ns rfl (w_cInt fun _ => w_eqInt (w_tBool ⟨fun e2 => kt (.inr ?_), fun e2 => w_tOr0 (kf ?_)⟩))))
    · simp at e2; lia
    · simp at e e2; rintro (q | q)
      · exact e q
      · exact e2 (by lia)
  · refine w_cons ?_
    refine w_ret ?_
    refine w_binOp ?_
    refine w_binOp ?_
    refine w_cS [34] (by kernel_rfl) fun _ => ?_
    refine w_joinCall (by kernel_rfl) (by kernel_rfl) ?_
    refine w_lcStr (word := word) escQ F ok'.3 ?_ (cl := []) ?_ ?_ ?_ ?_ ?_ ?_ (fun C h2 m2 c t2 Q' hc ns kq => ?_) (fun D ys h2 F2 l2 st2 hD hDL => ⟨D, ys, _, 2, rfl, l2.isList, st2, hb1 escQ escQ_len, by simp; lia, fun t3 => ?_⟩)
    · rw [sizeLine_eq]; lia
    · rfl
    · rfl
    · rfl
    · rfl
    · rfl
    · exact fun Q' kq => w_nm F.ns rfl (kq _)
    · refine w_ifExp (w_tCmp (w_nm ns (if_pos rfl) (w_cS [34, 92] (by kernel_rfl) fun _ => w_inStr1 (w_tBool ⟨fun e => ?_, fun e => ?_⟩))))
      · have e : c ∈ [34, 92] := by simpa using e
        have := kq; unfold escQ at this; rw [if_pos e] at this
        exact w_binOp (w_cS [92] (by kernel_rfl) fun _ => w_nm ns (if_pos rfl) (w_addStr this (by simp [sizeLine_eq])))
      · have e : ¬ c ∈ [34, 92] := by simpa using e
        have := kq; unfold escQ at this; rw [if_neg e] at this
        exact w_nm ns (if_pos rfl) (this _)
    · refine w_addStr (fun t4 => w_cS [34] (by kernel_rfl) fun _ => w_addStr (fun t5 => ?_) ?_) ?_
      · have := fin F2 (t := t5); unfold wrt at this; rw [if_pos hq] at this; exact this
      · have := flat_le _ (hb1 escQ escQ_len); simp at this; simp [sizeLine_eq]; lia
      · have := flat_le _ (hb1 escQ escQ_len); simp at this; simp [sizeLine_eq]; lia
  · have hne : word ≠ [] := fun q => hq (.inl q)
    refine w_cons (w_ifP (P := way = 1) (fun Q' kt kf => ?_) (fun hw => ?_) (fun hw => w_nil ?_))
    · refine w_tCmp (w_nm F.ns rfl (w_cInt fun _ => w_eqInt (w_tBool ?_)))
      by_cases q : way = 1
      · have : ((way : Int) == 1) = true := by simp [q]
        rw [this]; exact kt q
      · have : ((way : Int) == 1) = false := by simp; lia
        rw [this]; exact kf q
    · refine w_cons ?_
      refine w_ret ?_
      refine w_joinCall (by kernel_rfl) (by kernel_rfl) ?_
      refine w_lcStr (word := word) escA F ok'.3 ?_ (cl := []) ?_ ?_ ?_ ?_ ?_ ?_ (fun C h2 m2 c t2 Q' hc ns kq => ?_) (fun D ys h2 F2 l2 st2 hD hDL => ⟨D, ys, _, 2, rfl, l2.isList, st2, hb1 escA (fun _ => by simp [escA]), by simp; lia, fun t3 => ?_⟩)
      · rw [sizeLine_eq]; lia
      · rfl
      · rfl
      · rfl
      · rfl
      · rfl
      · exact fun Q' kq => w_nm F.ns rfl (kq _)
      · refine w_binOp ?_
        refine w_cS [92] (by kernel_rfl) fun _ => ?_
        refine w_nm ns (if_pos rfl) ?_
        exact w_addStr kq (by simp [sizeLine_eq])
      · have := fin F2 (t := t3); unfold wrt at this; rw [if_neg hq, if_pos hw] at this; exact this
    · refine w_cons ?_
      refine w_lcStrA (word := word) escB F ok'.3 ?_ (cl := []) ?_ ?_ ?_ ?_ ?_ ?_ (fun C h2 m2 c t2 Q' hc ns kq => ?_) ?_ ?_ ?_ ?_ (fun D ys h3 F3 l3 st2 hD hDL => ?_)
      · rw [sizeLine_eq]; lia
      · rfl
      · rfl
      · rfl
      · rfl
      · rfl
      · exact fun Q' kq => w_nm F.ns rfl (kq _)
      · refine w_ifExp ?_
        refine w_tCmp (w_nm ns (if_pos rfl) (w_cS [32, 10, 92] (by kernel_rfl) fun _ => w_inStr1 (w_tBool ⟨fun e => ?_, fun e => ?_⟩)))
        · have e : c ∈ [32, 10, 92] := by simpa using e
          have := kq; unfold escB at this; rw [if_pos e] at this
          refine w_binOp ?_
          refine w_cS [92] (by kernel_rfl) fun _ => ?_
          refine w_nm ns (if_pos rfl) ?_
          exact w_addStr this (by simp [sizeLine_eq])
        · have e : ¬ c ∈ [32, 10, 92] := by simpa using e
          have := kq; unfold escB at this; rw [if_neg e] at this
          exact w_nm ns (if_pos rfl) (this _)
      · rfl
      · rfl
      · rfl
      · rfl
      · obtain ⟨c0, rest, hwd⟩ : ∃ c0 rest, word = c0 :: rest := by cases word with | nil => exact absurd rfl hne | cons a b => exact ⟨a, b, rfl⟩
        have hDb : h.get? D = none := get_none hD
        refine w_cons (w_ifP (P := word.head? = some 34) (fun Q' kt kf => ?_) (fun hw2 => ?_) (fun hw2 => w_nil ?_))
        · refine w_tCmp ?_
          refine w_sub ?_
          refine w_nm F3.ns rfl ?_
          refine w_cInt fun _ => ?_
          refine w_itemStr (i := 0) (c := c0) (by rw [hwd]; rfl) (by rw [sizeLine_eq]; lia) (fun t => ?_)
          refine w_cS [34] (by kernel_rfl) fun _ => w_eqStr (w_tBool ?_)
          by_cases q : c0 = 34
          · have : decide ([c0] = [34]) = true := by simp [q]
            rw [this]; exact kt (by rw [hwd, q]; rfl)
          · have : decide ([c0] = [34]) = false := by simp [q]
            rw [this]; exact kf (by rw [hwd]; simpa using q)
        · refine w_cons ?_
          refine w_asgSub ?_
          refine w_cS [92, 34] (by kernel_rfl) fun t5 => ?_
          refine w_nm F3.ns rfl ?_
          refine w_cInt fun _ => ?_
          have hyl : ys.length = word.length := by rw [st2.length]; simp
          refine w_setItem (j := 0) l3.isList (by rw [hyl, hwd]; simp) (by rw [hyl, sizeLine_eq]; lia) (fun h4 l4 sb4 => w_nil ?_)
          have F4 := frChg F3 sb4 hDL hDb
          have s4 : Strs (ys.set 0 (.str (S [92, 34]) t5)) ((word.map escB).set 0 [92, 34]) := by
            rw [hwd] at st2 ⊢
            cases ys with
            | nil => exact st2.elim
            | cons y ys => exact ⟨⟨t5, rfl⟩, st2.2⟩
          refine w_cons ?_
          refine w_ret ?_
          refine w_joinCall (by kernel_rfl) (by kernel_rfl) ?_
          refine w_nm F4.ns rfl ⟨D, _, _, 2, rfl, l4, s4, ?_, by simp; lia, fun t6 => ?_⟩
          · intro y hy
            rcases List.mem_or_eq_of_mem_set hy with q | q
            · exact hb1 escB escB_len y q
            · rw [q]; simp
          · have := fin F4 (t := t6); unfold wrt at this; rw [if_neg hq, if_neg hw] at this; unfold bareOf at this; rw [if_pos hw2] at this; exact this
        · refine w_cons ?_
          refine w_ret ?_
          refine w_joinCall (by kernel_rfl) (by kernel_rfl) ?_
          refine w_nm F3.ns rfl ⟨D, _, _, 2, rfl, l3.isList, st2, hb1 escB escB_len, by simp; lia, fun t6 => ?_⟩
          have := fin F3 (t := t6); unfold wrt at this; rw [if_neg hq, if_neg hw] at this; unfold bareOf at this; rw [if_neg hw2] at this; exact this
end
end Mine
end
section
open PySem PySem.W PyProof.Rows PySem.Calls
set_option Elab.async false
set_option maxRecDepth 100000
set_option linter.unusedVariables false
set_option linter.unusedSimpArgs false
namespace Mine
def wh4 : List (List Nat) := [[], [10], [9, 13], [32, 10]]
def whites (d : Int) : List Nat := wh4.getD (d.fmod 4).toNat []
def txWhite (bare : Bool) (d : Int) : List Nat := if bare = true ∧ whites d = [] then [32] else whites d
def txStep (st : List Nat × Bool) (p : List Nat × Int) : List Nat × Bool :=
  (st.1 ++ txWhite st.2 p.2 ++ wrt p.1 (p.2.fmod 3).toNat, !decide ((wrt p.1 (p.2.fmod 3).toNat).head? = some 34))
def txAll (words : List (List Nat)) (dr : List Int) : List Nat × Bool := (words.zip dr).foldl txStep ([], false)
/-- what _law_text answers -/
def lawText (words : List (List Nat)) (dr : List Int) : List Nat := if (txAll words dr).2 = true then (txAll words dr).1 ++ [92] else (txAll words dr).1.dropLast
theorem whites_len (d : Int) : (whites d).length ≤ 2 := by
  unfold whites
  have h1 := Int.fmod_nonneg_of_pos d (b := 4) (by decide)
  have h2 := Int.fmod_lt_of_pos d (b := 4) (by decide)
  obtain ⟨k, hk⟩ : ∃ k : Nat, d.fmod 4 = k := ⟨_, (Int.toNat_of_nonneg h1).symm⟩
  rw [hk]; rw [hk] at h2
  have : k = 0 ∨ k = 1 ∨ k = 2 ∨ k = 3 := by lia
  rcases this with rfl | rfl | rfl | rfl <;> decide
theorem txWhite_len (b : Bool) (d : Int) : (txWhite b d).length ≤ 2 := by
  unfold txWhite; split
  · decide
  · exact whites_len d
theorem bareOf_len (word : List Nat) : (bareOf word).length = word.length ∧ ∀ y ∈ bareOf word, y.length ≤ 2 := by
  unfold bareOf
  have h : ∀ y ∈ word.map escB, y.length ≤ 2 := fun y hy => by obtain ⟨c, _, rfl⟩ := List.mem_map.mp hy; exact escB_len c
  split
  · refine ⟨by simp, fun y hy => ?_⟩
    rcases List.mem_or_eq_of_mem_set hy with q | q
    · exact h y q
    · rw [q]; simp
  · exact ⟨by simp, h⟩
theorem wrt_len (word : List Nat) (way : Nat) : (wrt word way).length ≤ 2 * word.length + 2 := by
  unfold wrt
  split
  · have := flat_le (B := 2) (word.map escQ) (fun y hy => by obtain ⟨c, _, rfl⟩ := List.mem_map.mp hy; exact escQ_len c)
    simp at this ⊢; lia
  · split
    · have := flat_le (B := 2) (word.map escA) (fun y hy => by obtain ⟨c, _, rfl⟩ := List.mem_map.mp hy; simp [escA])
      simp at this ⊢; lia
    · have := flat_le (B := 2) (bareOf word) (bareOf_len word).2
      rw [(bareOf_len word).1] at this; lia
theorem wrt_ne (word : List Nat) (way : Nat) : wrt word way ≠ [] := by
  unfold wrt
  split
  · simp
  · rename_i h
    obtain ⟨c, r, rfl⟩ : ∃ c r, word = c :: r := by cases word with | nil => exact absurd (.inl rfl) h | cons a b => exact ⟨a, b, rfl⟩
    split
    · simp [escA]
    · unfold bareOf
      split
      · simp
      · simp [escB]; split <;> simp
theorem txStep_len (st : List Nat × Bool) (p : List Nat × Int) : (txStep st p).1.length ≤ st.1.length + 2 * p.1.length + 4 := by
  unfold txStep
  have := txWhite_len st.2 p.2
  have := wrt_len p.1 (p.2.fmod 3).toNat
  simp; lia
theorem txFold_len {B : Nat} : ∀ (l : List (List Nat × Int)) (st : List Nat × Bool), (∀ p ∈ l, p.1.length ≤ B) → (l.foldl txStep st).1.length ≤ st.1.length + l.length * (2 * B + 4)
  | [], st, _ => by simp
  | p :: l, st, h => by
    have h1 := txFold_len l (txStep st p) (fun q hq => h q (by simp [hq]))
    have h2 := txStep_len st p
    have h3 := h p (by first | (with_reducible (first | exact im1 | exact im2 | exact im3 | exact sb0 | exact sb1 im1 | exact sb1 im2 | exact sb1 im3)) | exact nmc (adne (by decide)) nm0 | exact nmc (adne (by decide)) (nmc (adnn (by decide)) nm0) | simp)
    have e : (l.length + 1) * (2 * B + 4) = l.length * (2 * B + 4) + (2 * B + 4) := Nat.succ_mul _ _
    simp only [List.foldl_cons, List.length_cons, e]
    generalize l.length * (2 * B + 4) = X at *
    lia
abbrev aTx : Addr := 116
abbrev nWords : Str := Str.ofString "words"
abbrev nDresses : Str := Str.ofString "dresses"
abbrev nBare : Str := Str.ofString "bare"
abbrev nDress : Str := Str.ofString "dress"
theorem ints_get : ∀ {vs : List Value} {ns : List Int}, IntsAre vs ns → ∀ {i : Nat} {v : Value}, vs[i]? = some v → ∃ n t, ns[i]? = some n ∧ v = .int n t
  | _, _, .nil, i, v, e => by simp at e
  | _, _, .cons n t h, 0, v, e => by simp at e; exact ⟨n, t, rfl, e.symm⟩
  | _, _, .cons n t h, i + 1, v, e => by simpa using ints_get h (by simpa using e)
theorem Strs.get' {ys : List Value} {ts : List (List Nat)} (x : Strs ys ts) {i : Nat} {v : Value} (h : ys[i]? = some v) : ∃ t k, ts[i]? = some t ∧ v = .str (S t) k := by
  induction ys generalizing ts i with
  | nil => simp at h
  | cons v' ys ih =>
    cases ts with
    | nil => exact x.elim
    | cons t' ts =>
      obtain ⟨⟨k, rfl⟩, x⟩ := x
      cases i with
      | zero => simp at h; subst h; exact ⟨t', k, rfl, rfl⟩
      | succ i => exact by simpa using ih x (i := i) (by simpa using h)
noncomputable def txBody (w : World) : List Stmt := match (((bodyAt w aTx)[2]?).getD (.Pass ⟨0, 0, 0, 0⟩)) with
  | .For _ _ b _ _ => b
  | _ => []
section
variable {prog : Program} {w : World} {A : Around} {h H : Heap} {mg mb : Str → Option Value} {env : Env}
theorem kpFn {w : World} {mg mb : Str → Option Value} {h : Heap} {M : Model} (a : Addr) (G : G0 w mg mb h) (e : (KH w).lookup a = some (objAt w a)) (hd : (objAt w a).data = .func (fnAt w a)) : Kp M h (.ref a) := Kp.func (G.K _ _ e) hd
set_option maxHeartbeats 4000000 in
theorem tx_call {n : Nat} {wl dl : Addr} {ys ds : List Value} {words : List (List Nat)} {dr : List Int} {Q : Value → Heap → Prop} (G : Gd w mg mb H h) (ok : OkA (n + 2) A) (hw : Ls h wl ys) (hd : Ls h dl ds) (sw : Strs ys words) (sd : IntsAre ds dr)
    (hl : words.length = dr.length) (hz : words.length ≤ 1000) (hB : ∀ x ∈ words, x.length ≤ 10)
    (k : ∀ h' t, Ext h h' → Q (.str (S (lawText words dr)) t) h') : Wc (model prog w) A (.call (.ref aTx) ⟨[.ref wl, .ref dl], []⟩) Q h := by
  refine c_callK (n := n + 1) (binds := [(nWords, .ref wl), (nDresses, .ref dl)]) G.now ok (by kernel_rfl) (by kernel_rfl) (by kernel_rfl) (by kernel_rfl) (fun _ => by kernel_rfl) (by kernel_rfl) (by kernel_rfl) (fun L h₁ F ok' => ?_)
  refine w_cons ?_
  refine w_asg ?_
  refine w_cS [] (by kernel_rfl) fun t0 => ?_
  refine w_st F fun h2 F2 => ?_
  refine w_cons ?_
  refine w_asg ?_
  refine w_cBool ?_
  refine w_st F2 fun h3 F3 => ?_
  refine w_cons ?_
  refine w_for ?_
  refine w_callN ?_
  refine w_gB (v := .type "zip") (G.ext F3.keep).now (by kernel_rfl) (by kernel_rfl) (by decide) ?_
  refine w_args ?_
  refine w_arg ?_
  refine w_nm F3.ns rfl ?_
  refine w_arg ?_
  refine w_nm F3.ns rfl ?_
  refine w_arg0 ?_
  refine w_kw0 ⟨Kp.type _, ?_⟩
  have hL3 : L < h3.objs.size := F3.ns.lt
  have w3 := hw.ext F3.keep
  have d3 := hd.ext F3.keep
  have hwL : wl ≠ L := fun q => Nat.not_lt.mpr F.above (q ▸ hw.lt)
  have hdL : dl ≠ L := fun q => Nat.not_lt.mpr F.above (q ▸ hd.lt)
  have lw := sw.length
  have ld := sd.length
  have tl : ∀ i, (((words.zip dr).take i).foldl txStep ([], false)).1.length ≤ 24 * 1000 := fun i => by
    have := txFold_len (B := 10) ((words.zip dr).take i) ([], false) (fun p hp => hB _ (List.of_mem_zip (List.mem_of_mem_take hp)).1)
    have e : ((words.zip dr).take i).length ≤ 1000 := by simp; lia
    have := Nat.mul_le_mul_right (2 * 10 + 4) e
    simp at *; lia
  refine w_forI (iterZip ok'.3 w3.isList d3.isList) [L] (by simp only [List.mem_singleton, forall_eq, List.mem_cons, List.not_mem_nil, or_false, not_or]; exact ⟨hL3, hwL.symm, hdL.symm⟩)
    (fun b0 i h' => ∃ m t, Fr h L h' m ∧ m (Str.ofString "text") = some (.str (S (((words.zip dr).take i).foldl txStep ([], false)).1) t) ∧ m nBare = some (.bool (((words.zip dr).take i).foldl txStep ([], false)).2))
    (fun b0 i h1 h2 ⟨m, t, F, e⟩ off => ⟨m, t, frOff F off hL3, e⟩) (fun b0 => ⟨_, t0, F3, rfl, rfl⟩) (fun b0 i v h4 hi hb hP hJ k4 => ?_) (fun b0 h4 hJ k4 => ?_)
  · obtain ⟨T, x, y, rfl, hx, hy, hT⟩ := hP
    obtain ⟨m, tt, F4, mt, mb'⟩ := hJ
    obtain ⟨word, tw, hwd, rfl⟩ := sw.get' hx
    obtain ⟨d, td, hdd, rfl⟩ := ints_get sd hy
    generalize hst : ((words.zip dr).take i).foldl txStep ([], false) = st at mt mb'
    have hst' : ((words.zip dr).take (i + 1)).foldl txStep ([], false) = txStep st (word, d) := by
      have : (words.zip dr)[i]? = some (word, d) := by rw [List.getElem?_zip_eq_some]; exact ⟨hwd, hdd⟩
      rw [List.take_add_one, this, List.foldl_append, hst]; rfl
    have hstl : st.1.length ≤ 24 * 1000 := by rw [← hst]; exact tl i
    have hstl' : (txStep st (word, d)).1.length ≤ 24 * 1000 := by rw [← hst']; exact tl (i + 1)
    have hwl : word.length ≤ 10 := hB _ (List.mem_of_getElem? hwd)
    have X4 : Fs h h4 [L] L h4 m := Fs.mk0 F4 _
    refine w_asgTup2F X4 ok'.3 hT (fun h5 X5 k5 => ?_)
    refine w_cons ?_
    refine w_asg ?_
    refine w_sub ?_
    refine w_list ?_
    refine w_arg (w_cS [] (by kernel_rfl) fun ta => ?_)
    refine w_arg (w_cS [10] (by kernel_rfl) fun tb => ?_)
    refine w_arg (w_cS [9, 13] (by kernel_rfl) fun tc => ?_)
    refine w_arg (w_cS [32, 10] (by kernel_rfl) fun te => ?_)
    refine w_arg0 ⟨by simp [sizeLine_eq], fun h6 la hla e6 l6 z6 => ?_⟩
    have X6 := X5.ext e6
    refine w_binOp ?_
    refine w_nm X6.ns rfl ?_
    refine w_cInt fun _ => ?_
    refine w_modInt (by decide) fun _ => ?_
    have h41 := Int.fmod_nonneg_of_pos d (b := 4) (by decide)
    have h42 := Int.fmod_lt_of_pos d (b := 4) (by decide)
    obtain ⟨j, hj⟩ : ∃ j : Nat, d.fmod 4 = j := ⟨_, (Int.toNat_of_nonneg h41).symm⟩
    have hj4 : j < 4 := by lia
    have hwhites : whites d = wh4.getD j [] := by unfold whites; rw [hj]; rfl
    rw [hj]
    obtain ⟨tq, hq⟩ := Strs.get (ts := wh4) (show Strs [Value.str (S []) _, Value.str (S [10]) _, Value.str (S [9, 13]) _, Value.str (S [32, 10]) _] wh4 from ⟨⟨ta, rfl⟩, ⟨tb, rfl⟩, ⟨tc, rfl⟩, ⟨te, rfl⟩, trivial⟩) (i := j) (t := whites d) (by
      rw [hwhites]
      have : j = 0 ∨ j = 1 ∨ j = 2 ∨ j = 3 := by lia
      rcases this with rfl | rfl | rfl | rfl <;> rfl)
    refine w_itemL l6.isList hq (by simp [sizeLine_eq]) ?_
    refine w_stF X6 fun h7 X7 _ => ?_
    have rest : ∀ h8 m8 t8, Fs h h4 [L] L h8 m8 → m8 (Str.ofString "white") = some (.str (S (txWhite st.2 d)) t8) → m8 (Str.ofString "text") = some (.str (S st.1) tt) → m8 nWord = some (.str (S word) tw) → m8 nDress = some (.int d td) → 
        Wp (model prog w) (A.deeper (envAt w aTx L)) (execs ((txBody w).drop 2) (envAt w aTx L)) (fun f h3 => match f with
          | .next | .cont => Kept [L] h4 h3 ∧ ∃ m t, Fr h L h3 m ∧ m (Str.ofString "text") = some (.str (S (((words.zip dr).take (i + 1)).foldl txStep ([], false)).1) t) ∧ m nBare = some (.bool (((words.zip dr).take (i + 1)).foldl txStep ([], false)).2)
          | .brk => False
          | .ret v => False) h8 := by
      intro h8 m8 t8 X8 e1 e2 e3 e4
      have h31 := Int.fmod_nonneg_of_pos d (b := 3) (by decide)
      obtain ⟨j3, hj3⟩ : ∃ j3 : Nat, d.fmod 3 = j3 := ⟨_, (Int.toNat_of_nonneg h31).symm⟩
      refine w_cons ?_
      refine w_asg ?_
      refine w_callN ?_
      refine w_gK (G.ext X8.F.keep).now (v := .ref aWr) (by kernel_rfl) ?_
      refine w_args ?_
      refine w_arg ?_
      refine w_nm X8.ns e3 ?_
      refine w_arg ?_
      refine w_binOp ?_
      refine w_nm X8.ns e4 ?_
      refine w_cInt fun _ => ?_
      refine w_modInt (by decide) fun _ => ?_
      rw [hj3]
      refine w_arg0 ?_
      refine w_kw0 ⟨kpFn aWr (G.ext X8.F.keep).now (by kernel_rfl) (by kernel_rfl), ?_⟩
      refine w_call (wr_call (n := n) (G.ext X8.F.keep) ok' (by lia) (fun h9 t9 e9 => ?_))
      have X9 := X8.ext e9
      refine w_stF X9 fun h10 X10 _ => ?_
      obtain ⟨c0, r0, hwr⟩ : ∃ c0 r0, wrt word j3 = c0 :: r0 := by cases hq : wrt word j3 with | nil => exact absurd hq (wrt_ne _ _) | cons a b => exact ⟨a, b, rfl⟩
      have hwl3 := wrt_len word j3
      refine w_cons ?_
      refine w_asg ?_
      refine w_cmp ?_
      refine w_sub ?_
      refine w_nm X10.ns rfl ?_
      refine w_cInt fun _ => ?_
      refine w_itemStr (i := 0) (c := c0) (by rw [hwr]; rfl) (by rw [sizeLine_eq]; lia) (fun t => ?_)
      refine w_cS [34] (by kernel_rfl) fun _ => ?_
      refine w_neStr ?_
      refine w_stF X10 fun h11 X11 _ => ?_
      refine w_cons ?_
      refine w_asg ?_
      refine w_binOp ?_
      refine w_binOp ?_
      refine w_nm X11.ns e2 ?_
      refine w_nm X11.ns e1 ?_
      have := txWhite_len st.2 d
      refine w_addStr (fun _ => ?_) (by rw [sizeLine_eq]; lia)
      refine w_nm X11.ns rfl ?_
      refine w_addStr (fun t12 => ?_) (by rw [sizeLine_eq]; simp; lia)
      refine w_stF X11 fun h12 X12 _ => ?_
      refine w_nil ?_
      rw [hst']
      have e5 : txStep st (word, d) = (st.1 ++ txWhite st.2 d ++ wrt word j3, !decide ((wrt word j3).head? = some 34)) := by unfold txStep; simp only [hj3]; rfl
      refine ⟨X12.K, _, t12, X12.F, ?_, ?_⟩
      · rw [e5]; rfl
      · rw [e5, hwr]
        show some (Value.bool (!decide ([c0] = [34]))) = some (Value.bool (!decide ((c0 :: r0).head? = some 34)))
        simp
    refine w_cons (w_ifP (P := st.2 = true ∧ whites d = []) (fun Q' kt kf => ?_) (fun hq2 => ?_) (fun hq2 => w_nil ?_))
    · refine w_tAnd ?_
      refine w_tPlain ?_
      refine w_nm X7.ns mb' ?_
      refine w_tBool ⟨fun e => ?_, fun e => kf (fun q => by rw [q.1] at e; cases e)⟩
      refine w_tAnd ?_
      refine w_tCmp ?_
      refine w_nm X7.ns rfl ?_
      refine w_cS [] (by kernel_rfl) fun _ => ?_
      refine w_eqStr ?_
      refine w_tBool ⟨fun e2 => w_tAnd0 (kt ⟨e, by simpa using e2⟩), fun e2 => kf (fun q => ?_)⟩
      simp [q.2] at e2
    · refine w_cons ?_
      refine w_asg ?_
      refine w_cS [32] (by kernel_rfl) fun ts => ?_
      refine w_stF X7 fun h8 X8 _ => ?_
      refine w_nil ?_
      refine (rest h8 _ ts X8 ?_ mt rfl rfl).mono (fun f h3 y => by cases f <;> first | exact y | exact y.elim)
      have : txWhite st.2 d = [32] := by unfold txWhite; rw [if_pos hq2]
      rw [this]; rfl
    · refine (rest h7 _ tq X7 ?_ mt rfl rfl).mono (fun f h3 y => by cases f <;> first | exact y | exact y.elim)
      have : txWhite st.2 d = whites d := by unfold txWhite; rw [if_neg hq2]
      rw [this]; rfl
  · obtain ⟨m, tt, F4, mt, mb'⟩ := hJ
    have e0 : (words.zip dr).take (min ys.length ds.length) = words.zip dr := List.take_of_length_le (by simp; lia)
    rw [e0] at mt mb'
    have tl0 : ((words.zip dr).foldl txStep ([], false)).1.length ≤ 24 * 1000 := by have := tl (min ys.length ds.length); rw [e0] at this; exact this
    refine w_nil ?_
    refine w_cons ?_
    refine w_ret ?_
    refine w_ifExp ?_
    refine w_tPlain ?_
    refine w_nm F4.ns mb' ?_
    refine w_tBool ⟨fun e => ?_, fun e => ?_⟩
    · refine w_binOp ?_
      refine w_nm F4.ns mt ?_
      refine w_cS [92] (by kernel_rfl) fun _ => ?_
      refine w_addStr (fun t5 => ?_) (by rw [sizeLine_eq]; simp; lia)
      have : lawText words dr = (txAll words dr).1 ++ [92] := by unfold lawText; rw [if_pos (show (txAll words dr).2 = true from e)]
      have kk := k h4 t5 F4.keep
      rw [this] at kk
      exact kk
    · refine w_sub ?_
      refine w_nm F4.ns mt ?_
      refine w_slice ?_
      refine w_part0 ?_
      refine w_part ?_
      refine w_neg ?_
      refine w_cInt fun _ => ⟨_, _, rfl, fun t5 => ?_⟩
      refine w_part0 ?_
      refine w_sliceStrTo (fun t6 h5 e5 => ?_) (by rw [sizeLine_eq]; lia)
      rw [slice_butLast]
      have : lawText words dr = (txAll words dr).1.dropLast := by unfold lawText; rw [if_neg (by rw [show (txAll words dr).2 = false from e]; decide)]
      have kk := k h5 t6 (F4.kept e5).keep
      rw [this] at kk
      exact kk
end
end Mine
end
section
open PySem PySem.W PyProof.Rows PySem.Calls
set_option Elab.async false
set_option maxRecDepth 100000
set_option linter.unusedVariables false
set_option linter.unusedSimpArgs false
namespace Mine
/-! ## a queue that turns -/
def turnL {α : Type} : Nat → List α → List α
  | 0, _ => []
  | _ + 1, [] => []
  | n + 1, v :: r => v :: turnL n (r ++ [v])
def turnQ {α : Type} : Nat → List α → List α
  | 0, q => q
  | _ + 1, [] => []
  | n + 1, v :: r => turnQ n (r ++ [v])
theorem turn_step {α : Type} : ∀ (n : Nat) (q : List α), q ≠ [] → ∃ v r, turnQ n q = v :: r ∧ turnQ (n + 1) q = r ++ [v] ∧ turnL (n + 1) q = turnL n q ++ [v]
  | _, [], h => absurd rfl h
  | 0, v :: r, _ => ⟨v, r, rfl, rfl, rfl⟩
  | n + 1, v :: r, _ => by
    obtain ⟨u, s, h1, h2, h3⟩ := turn_step n (r ++ [v]) (by first | (with_reducible (first | exact im1 | exact im2 | exact im3 | exact sb0 | exact sb1 im1 | exact sb1 im2 | exact sb1 im3)) | exact nmc (adne (by decide)) nm0 | exact nmc (adne (by decide)) (nmc (adnn (by decide)) nm0) | simp)
    refine ⟨u, s, h1, h2, ?_⟩
    show v :: turnL (n + 1) (r ++ [v]) = v :: turnL n (r ++ [v]) ++ [u]
    rw [h3]; rfl
theorem turnL_length {α : Type} (n : Nat) (q : List α) (h : q ≠ []) : (turnL n q).length = n := by
  induction n with
  | zero => rfl
  | succ n ih => obtain ⟨v, r, _, _, h3⟩ := turn_step n q h; rw [h3]; simp [ih]
theorem turnQ_length {α : Type} (n : Nat) (q : List α) : (turnQ n q).length = q.length := by
  induction n generalizing q with
  | zero => rfl
  | succ n ih => cases q with | nil => rfl | cons v r => show (turnQ n (r ++ [v])).length = _; rw [ih]; simp
theorem LexM.off {h h' : Heap} {a : LexA} {text : List Nat} {p : Nat} {toks : List Value} {n0 b0 : Addr} (m : LexM h a text p toks) (k : Off n0 b0 h h') (h1 : a.d < n0) (h2 : a.pb < n0) (h3 : a.pl < n0) : LexM h' a text p toks := by
  obtain ⟨⟨t1, t2, ⟨es, n, e, r⟩⟩, ⟨np, pb⟩, ⟨t, ⟨o, ho, r'⟩⟩, le⟩ := m
  exact ⟨⟨t1, t2, es, n, k _ _ (.inl h1) e, r⟩, ⟨np, k _ _ (.inl h2) pb⟩, ⟨t, o, k _ _ (.inl h3) ho, r'⟩, le⟩
theorem LexM.lt {h : Heap} {a : LexA} {text : List Nat} {p : Nat} {toks : List Value} (m : LexM h a text p toks) : a.d < h.objs.size ∧ a.pb < h.objs.size ∧ a.pl < h.objs.size := by
  obtain ⟨⟨t1, t2, d⟩, pb, ⟨t, ⟨o, ho, r'⟩⟩, le⟩ := m
  exact ⟨d.lt, pb.lt, Heap.lt_size ho⟩
theorem Ls.off {n0 b0 : Addr} {h h' : Heap} {a : Addr} {vs : List Value} (x : Ls h a vs) (k : Off n0 b0 h h') (hn : a < n0 ∨ b0 ≤ a) : Ls h' a vs := let ⟨n, l⟩ := x; ⟨n, k _ _ hn l⟩
abbrev aTu : Addr := 123
abbrev nLexer : Str := Str.ofString "lexer"
abbrev nTimes : Str := Str.ofString "times"
abbrev nPassed : Str := Str.ofString "passed"
theorem iterRange0 {prog : Program} {w : World} {A : Around} {h : Heap} {target : Expr} {r : Addr} {n : Nat} {t1 t2 t3 : Tok} (ht : isNameT target = true) (hh : A.handled = none) (hr : IsRange h r 0 n 1 t1 t2 t3) (hz : n ≤ 1000000) :
    Iter prog w A target (fun Q => Wp (model prog w) A (pyIter (.ref r)) Q h) n (fun i v _ => ∃ t, v = .int (i : Nat) t) [] h := by
  have := iterRange (prog := prog) (w := w) (n := n) (a := 0) (t1 := t1) (t2 := t2) (t3 := t3) ht hh (by rw [Int.zero_add]; exact hr) (small_one (by lia) (by lia) (by lia) (by lia))
  simpa using this
section
variable {prog : Program} {w : World} {A : Around} {h H : Heap} {mg mb : Str → Option Value} {env : Env}
set_option maxHeartbeats 4000000 in
theorem tu_call {a : LexA} {text : List Nat} {p n times : Nat} {tt : Tok} {toks : List Value} {Q : Value → Heap → Prop} (G : Gd w mg mb H h) (ok : OkA (n + 2) A) (C : LexC w H h a text) (X : LexM h a text p toks) (hne : toks ≠ []) (hz : toks.length ≤ 1000) (ht : times ≤ 1000)
    (k : ∀ h' D, LexM h' a text p (turnQ times toks) → Kept [a.pb] h h' → Ls h' D (turnL times toks) → h.objs.size ≤ D → Q (.ref D) h') :
    Wc (model prog w) A (.call (.ref aTu) ⟨[.ref a.x, .int times tt], []⟩) Q h := by
  refine c_callK (n := n + 1) (binds := [(nLexer, .ref a.x), (nTimes, .int times tt)]) G.now ok (by kernel_rfl) (by kernel_rfl) (by kernel_rfl) (by kernel_rfl) (fun _ => by kernel_rfl) (by kernel_rfl) (by kernel_rfl) (fun L h₁ F ok' => ?_)
  have hpbH : H.get? a.pb = none := C.fr _ (by first | exact LexA.m_x _ | exact LexA.m_d _ | exact LexA.m_pb _ | exact LexA.m_st _ | exact LexA.m_sd _ | exact LexA.m_f _ | exact LexA.m_c _ | exact LexA.m_ct _ | exact LexA.m_cp _ | exact LexA.m_pl _)
  have hSH : ∀ i ∈ [a.pb], H.get? i = none := List.forall_mem_singleton.mpr hpbH
  have F1 := frHid F [a.pb]
  have hb0 : (hideAll h [a.pb]).get? a.pb = none := hideAll_none _ (by first | (with_reducible (first | exact im1 | exact im2 | exact im3 | exact sb0 | exact sb1 im1 | exact sb1 im2 | exact sb1 im3)) | exact nmc (adne (by decide)) nm0 | exact nmc (adne (by decide)) (nmc (adnn (by decide)) nm0) | simp)
  refine w_cons ?_
  refine w_asg ?_
  refine w_list ?_
  refine w_arg0 ⟨by simp, fun h2 pl hpl e2 l2 z2 => ?_⟩
  have F2 := F1.kept e2
  have hL2 : L < h2.objs.size := F2.ns.lt
  have hLl : L < pl := by rw [hpl]; exact F1.ns.lt
  have hplL : pl ≠ L := Nat.ne_of_gt hLl
  obtain ⟨ld, lb, ll⟩ := X.lt
  have hle : h.objs.size ≤ L := F.above
  have hbL : a.pb ≠ L := Nat.ne_of_lt (Nat.lt_of_lt_of_le lb hle)
  have hdL : a.d ≠ L := Nat.ne_of_lt (Nat.lt_of_lt_of_le ld hle)
  have hlL : a.pl ≠ L := Nat.ne_of_lt (Nat.lt_of_lt_of_le ll hle)
  refine w_stS F2 fun h3 F3 sb3 => ?_
  have l3 := l2.same sb3 hplL
  have X3 : LexM h3 a text p toks := ((X.ext F.keep).ext e2).same sb3 hdL hbL hlL
  have z3 : h3.objs.size = h2.objs.size := sb3.1
  refine w_cons ?_
  refine w_for ?_
  refine w_callN ?_
  have G3 : Gd w mg mb H h3 := (G.hid hSH).ext F3.keep
  refine w_gB (v := .type "range") G3.now (by kernel_rfl) (by kernel_rfl) (by decide) ?_
  refine w_args ?_
  refine w_arg ?_
  refine w_nm F3.ns rfl ?_
  refine w_arg0 ?_
  refine w_kw0 ⟨Kp.type _, ?_⟩
  refine w_range fun h4 r t1 t2 t3 hr e4 z4 ir => ?_
  have F4 := F3.kept e4
  have l4 := l3.ext e4
  have X4 := X3.ext e4
  have C4 : LexC w H h4 a text := C.kept ((Kept.of_fr F4).mono (by first | exact LexA.s_nil _ | exact LexA.s_pb _ | exact LexA.s_dl _ | exact LexA.s_pl _ | simp [LexA.mut]))
  obtain ⟨ld4, lb4, ll4⟩ := X4.lt
  have pl4 := l4.lt
  have L4 : L < h4.objs.size := F4.ns.lt
  have ndb : a.d ≠ a.pb ∧ a.pl ≠ a.pb := by
    exact ⟨(nd_at C.nd (i := 1) (j := 2) rfl rfl (by decide)), fun q => (nd_at C.nd (i := 2) (j := 9) rfl rfl (by decide)) q.symm⟩
  have hplb : pl ≠ a.pb := by intro q; subst q; exact absurd lb (Nat.not_lt.mpr (Nat.le_trans hle (Nat.le_of_lt hLl)))
  have hpld : pl ≠ a.d := by intro q; subst q; exact absurd ld (Nat.not_lt.mpr (Nat.le_trans hle (Nat.le_of_lt hLl)))
  have hpll : pl ≠ a.pl := by intro q; rw [q] at hLl; exact absurd ll (Nat.not_lt.mpr (Nat.le_trans hle (Nat.le_of_lt hLl)))
  refine w_forI (iterRange0 rfl ok'.3 ir (by lia)) [L, a.pb, pl] (by simp only [List.mem_cons, List.not_mem_nil, or_false, not_false_eq_true, and_true]; rintro b (rfl | rfl | rfl) <;> assumption)
    (fun b0 i h' => ∃ m, Fr (hideAll h [a.pb]) L h' m ∧ m nLexer = some (.ref a.x) ∧ m nPassed = some (.ref pl) ∧ Ls h' pl (turnL i toks) ∧ LexM h' a text p (turnQ i toks))
    (fun b0 i h1 h2 ⟨m, F, e1, e2, l, X⟩ off => ⟨m, frOff F off L4, e1, e2, l.off off (.inl pl4), X.off off ld4 lb4 ll4⟩) (fun b0 => ⟨_, F4, rfl, rfl, l4, X4⟩) (fun b0 i v h5 hi hb hP hJ k5 => ?_) (fun b0 h5 hJ k5 => ?_)
  · obtain ⟨tv, rfl⟩ := hP
    obtain ⟨m, F5, e1, e2', l5, X5⟩ := hJ
    obtain ⟨u, r', q1, q2, q3⟩ := turn_step i toks hne
    have hlen : (turnQ i toks).length = toks.length := turnQ_length _ _
    rw [q1] at X5 hlen
    have Y5 : Fs (hideAll h [a.pb]) h5 [L, a.pb, pl] L h5 m := Fs.mk0 F5 _
    refine w_asgName ?_
    refine w_stF Y5 fun h6 Y6 sb6 => ?_
    have l6 := l5.same sb6 hplL
    have X6 := X5.same sb6 hdL hbL hlL
    have ctx : ∀ h' m', Fr (hideAll h [a.pb]) L h' m' → Gd w mg mb H h' ∧ LexC w H h' a text := fun h' m' F' => ⟨(G.hid hSH).ext F'.keep, C.kept ((Kept.of_fr F').mono (by first | exact LexA.s_nil _ | exact LexA.s_pb _ | exact LexA.s_dl _ | exact LexA.s_pl _ | simp [LexA.mut]))⟩
    obtain ⟨G6, C6⟩ := ctx _ _ Y6.F
    obtain ⟨t1', t2', d6⟩ := X6.d
    refine w_cons ?_
    refine w_expr ?_
    refine w_meth PySem.F.plainAttrs_list PySem.F.slot_list_append PySem.F.type_list_append ?_
    refine w_nm Y6.ns e2' ⟨l6.ty, ?_, ?_⟩
    · intro b e; injection e with e; subst e; obtain ⟨nn, e⟩ := l6; exact ⟨_, e, rfl⟩
    refine w_args ?_
    refine w_arg ?_
    refine w_mcall ?_
    refine w_nm Y6.ns e1 ?_
    refine w_method G6.now.K C6.ix d6 (pgC w _) (fiGT w) (fnGT w) rfl ?_
    refine w_args0 (kpFn aGT G6.now (by kernel_rfl) (by kernel_rfl)) ?_
    refine w_call (gt_pop (n := n) G6 ok' C6 X6 (by simp at hlen; lia) (fun h7 X7 k7 => ?_))
    refine w_arg0 ?_
    refine w_kw0 ⟨Kp.builtin _, ?_⟩
    have Y7 := Y6.kept k7 (List.forall_mem_singleton.mpr hb0) (by simpa using hbL.symm) (by first | (with_reducible (first | exact im1 | exact im2 | exact im3 | exact sb0 | exact sb1 im1 | exact sb1 im2 | exact sb1 im3)) | exact nmc (adne (by decide)) nm0 | exact nmc (adne (by decide)) (nmc (adnn (by decide)) nm0) | simp)
    have l7 : Ls h7 pl (turnL i toks) := lsKept l6 k7 (by simpa using hplb)
    refine w_append l7 (by rw [turnL_length _ _ hne, sizeLine_eq]; lia) (fun h8 l8 sb8 => ⟨fun a e => (by cases e), ?_⟩)
    have Y8 := Y7.kept (Kept.of_same (S := [pl]) sb8 (by first | (with_reducible (first | exact im1 | exact im2 | exact im3 | exact sb0 | exact sb1 im1 | exact sb1 im2 | exact sb1 im3)) | exact nmc (adne (by decide)) nm0 | exact nmc (adne (by decide)) (nmc (adnn (by decide)) nm0) | simp)) (List.forall_mem_singleton.mpr (get_none (by rw [hideAll_size]; exact Nat.le_trans hle (Nat.le_of_lt hLl)))) (by simpa using hplL.symm) (by first | (with_reducible (first | exact im1 | exact im2 | exact im3 | exact sb0 | exact sb1 im1 | exact sb1 im2 | exact sb1 im3)) | exact nmc (adne (by decide)) nm0 | exact nmc (adne (by decide)) (nmc (adnn (by decide)) nm0) | simp)
    have X8 := X7.same sb8 hpld.symm hplb.symm hpll.symm
    obtain ⟨G8, C8⟩ := ctx _ _ Y8.F
    obtain ⟨t1'', t2'', d8⟩ := X8.d
    refine w_cons ?_
    refine w_expr ?_
    refine w_mcall ?_
    refine w_nm Y8.ns e1 ?_
    refine w_method G8.now.K C8.ix d8 (pgC w _) (fiPT w) (fnPT w) rfl ?_
    refine w_args ?_
    refine w_arg ?_
    refine w_sub ?_
    refine w_nm Y8.ns e2' ?_
    refine w_neg ?_
    refine w_cInt fun _ => ⟨_, _, rfl, fun _ => ?_⟩
    refine w_itemI (j := i) (x := u) l8.isList (.inr ?_) (by lia) ?_ ?_ ?_
    · simp [turnL_length _ _ hne]; lia
    · rw [List.getElem?_append_right (by rw [turnL_length _ _ hne]; lia), turnL_length _ _ hne]; simp
    · simp [turnL_length _ _ hne, sizeLine_eq]; lia
    refine w_arg0 ?_
    refine w_kw0 ⟨kpFn aPT G8.now (by kernel_rfl) (by kernel_rfl), ?_⟩
    refine w_call (pt_call (n := n) G8 ok' C8 X8 (by simp at hlen; lia) (fun h9 X9 k9 => ⟨fun a e => (by cases e), ?_⟩))
    have Y9 := Y8.kept k9 (List.forall_mem_singleton.mpr hb0) (by simpa using hbL.symm) (by first | (with_reducible (first | exact im1 | exact im2 | exact im3 | exact sb0 | exact sb1 im1 | exact sb1 im2 | exact sb1 im3)) | exact nmc (adne (by decide)) nm0 | exact nmc (adne (by decide)) (nmc (adnn (by decide)) nm0) | simp)
    have l9 := lsKept l8 k9 (by simpa using hplb)
    refine w_nil ⟨Y9.K, _, Y9.F, e1, e2', ?_, ?_⟩
    · rw [q3]; exact l9
    · rw [q2]; exact X9
  · obtain ⟨m, F5, e1, e2', l5, X5⟩ := hJ
    refine w_nil ?_
    refine w_cons ?_
    refine w_ret ?_
    refine w_nm F5.ns e2' ?_
    exact k h5 pl X5 (Kept.of_fr F5) l5 (Nat.le_trans hle (Nat.le_of_lt hLl))
end
end Mine
end
section
open PySem PySem.W PyProof.Rows PySem.Calls
set_option Elab.async false
set_option maxRecDepth 100000
set_option linter.unusedVariables false
set_option linter.unusedSimpArgs false
namespace Mine
/-- a table whose records lie where R says -/
def TabR (R : Addr → Prop) (H h : Heap) (P : Addr) (places : List (Pos × Str)) : Prop := ∃ ps, h.get? P = some (tabObj ps) ∧ TriplesOk ps.toList ∧
  ∀ q ∈ places, codeAmong q.1 ps.toList = none ∨ ∃ c', codeAmong q.1 ps.toList = some (.ref c') ∧ h.CodeRec (.ref c') q.2 ∧ H.get? c' = none ∧ c' ≠ P ∧ R c'
theorem TabR.tabP {R : Addr → Prop} {H h : Heap} {P : Addr} {places : List (Pos × Str)} (T : TabR R H h P places) : TabP H h P places :=
  let ⟨ps, e, t, r⟩ := T; ⟨ps, e, t, fun q hq => (r q hq).imp id fun ⟨c', a, b, c, d, _⟩ => ⟨c', a, b, c, d⟩⟩
theorem TabP.tabR {H h : Heap} {P : Addr} {places : List (Pos × Str)} (T : TabP H h P places) : TabR (fun c => c < h.objs.size) H h P places :=
  let ⟨ps, e, t, r⟩ := T; ⟨ps, e, t, fun q hq => (r q hq).imp id fun ⟨c', a, b, c, d⟩ => ⟨c', a, b, c, d, by obtain ⟨o, vs, e1, e2⟩ := CodeRec.fields b; exact Heap.lt_size e1⟩⟩
theorem TabR.imp {R R' : Addr → Prop} {H h : Heap} {P : Addr} {places : List (Pos × Str)} (T : TabR R H h P places) (hr : ∀ c, c < h.objs.size → R c → R' c) : TabR R' H h P places :=
  let ⟨ps, e, t, r⟩ := T; ⟨ps, e, t, fun q hq => (r q hq).imp id fun ⟨c', a, b, c, d, x⟩ => ⟨c', a, b, c, d, hr c' (by obtain ⟨o, vs, e1, e2⟩ := CodeRec.fields b; exact Heap.lt_size e1) x⟩⟩
theorem TabR.kept {R : Addr → Prop} {S : List Addr} {H h h' : Heap} {P : Addr} {places : List (Pos × Str)} (T : TabR R H h P places) (k : Kept S h h') (hP : P ∉ S) (hS : ∀ i ∈ S, ∀ o vs, h.get? i = some o → o.data ≠ .fields vs) : TabR R H h' P places := by
  obtain ⟨ps, e, t, r⟩ := T
  refine ⟨ps, k _ _ hP e, t, fun q hq => (r q hq).imp id fun ⟨c', e1, e2, e3⟩ => ⟨c', e1, CodeRec.keptTo e2 (fun o ho => k _ _ (fun m => ?_) ho), e3⟩⟩
  obtain ⟨o', vs, e4, e5⟩ := CodeRec.fields e2
  exact hS _ m o' vs e4 e5
theorem TabR.ext {R : Addr → Prop} {H h h' : Heap} {P : Addr} {places : List (Pos × Str)} (T : TabR R H h P places) (k : Ext h h') : TabR R H h' P places := T.kept (Kept.of_ext (S := []) k) (by first | (with_reducible (first | exact im1 | exact im2 | exact im3 | exact sb0 | exact sb1 im1 | exact sb1 im2 | exact sb1 im3)) | exact nmc (adne (by decide)) nm0 | exact nmc (adne (by decide)) (nmc (adnn (by decide)) nm0) | simp) (by first | (with_reducible (first | exact im1 | exact im2 | exact im3 | exact sb0 | exact sb1 im1 | exact sb1 im2 | exact sb1 im3)) | exact nmc (adne (by decide)) nm0 | exact nmc (adne (by decide)) (nmc (adnn (by decide)) nm0) | simp)
theorem TabR.off {R : Addr → Prop} {n0 b0 : Addr} {H h h' : Heap} {P : Addr} {places : List (Pos × Str)} (T : TabR R H h P places) (k : Off n0 b0 h h') (hP : P < n0) (hR : ∀ c, R c → c < n0 ∨ b0 ≤ c) : TabR R H h' P places := by
  obtain ⟨ps, e, t, r⟩ := T
  exact ⟨ps, k _ _ (.inl hP) e, t, fun q hq => (r q hq).imp id fun ⟨c', e1, e2, e3, e4, e5⟩ => ⟨c', e1, CodeRec.keptTo e2 (fun o ho => k _ _ (hR _ e5) ho), e3, e4, e5⟩⟩
theorem TabR.same {R : Addr → Prop} {L : Addr} {m : Str → Option Value} {H h h' : Heap} {P : Addr} {places : List (Pos × Str)} (T : TabR R H h P places) (ns : h.Ns L m) (sb : Heap.SameBut L h h') (hP : P ≠ L) : TabR R H h' P places :=
  T.kept (Kept.of_same (S := [L]) sb (by first | (with_reducible (first | exact im1 | exact im2 | exact im3 | exact sb0 | exact sb1 im1 | exact sb1 im2 | exact sb1 im3)) | exact nmc (adne (by decide)) nm0 | exact nmc (adne (by decide)) (nmc (adnn (by decide)) nm0) | simp)) (by simpa using hP) (by
    intro i hi o vs ho hv
    simp only [List.mem_singleton] at hi
    subst hi
    obtain ⟨o', es, epo, e', hd', _⟩ := ns
    rw [ho] at e'; cases e'; rw [hv] at hd'; cases hd')
theorem TabR.keptL {R : Addr → Prop} {L : Addr} {m : Str → Option Value} {H h h' : Heap} {P : Addr} {places : List (Pos × Str)} (T : TabR R H h P places) (ns : h.Ns L m) (k : Kept [L] h h') (hP : P ≠ L) : TabR R H h' P places :=
  T.kept k (by simpa using hP) (by
    intro i hi o vs ho hv
    simp only [List.mem_singleton] at hi
    subst hi
    obtain ⟨o', es, epo, e', hd', _⟩ := ns
    rw [ho] at e'; cases e'; rw [hv] at hd'; cases hd')
section
variable {M : Model} {A : Around} {H h : Heap} {env : Env} {c P : Addr} {mg : Str → Option Value} {clos : List (Str × Addr)} {places : List (Pos × Str)} {name qual : Str} {params : Arguments} {body : Expr} {scope : Scope} {pos : Pos} {firstLine : Nat}
theorem w_makeLam {R : Addr → Prop} {Q : Value → Heap → Prop} (T : TabR R H h P places) (hR : ∀ c, h.objs.size ≤ c → R c) (E : Ext H h) (hm : (pos, qual) ∈ places) (hsame : ∀ q ∈ places, q.1.line = pos.line → q.1.col = pos.col → q.2 = qual)
    (hcl : closureFor scope env = pure clos) (hg0 : env.globals = mainGlobals) (hg : h.Ns mainGlobals mg) (hcode : env.code = .ref c) (C : CodeHd h c P) (hb : h.BuiltinsAt mg P)
    (k : ∀ h' f c' ctv, Heap.ExtBut P h h' → TabR R H h' P places → h.objs.size ≤ f → f < h'.objs.size → h'.get? f = some (kla_obj name qual params body scope clos ((mg "__name__").getD .none) c' ctv) → h'.CodeRec (.ref c') qual → H.get? c' = none → c' ≠ f → c' ≠ P → Q (.ref f) h') :
    Wp M A (makeFunction name qual params (.expr body) scope env [] [] [] pos firstLine) Q h := by
  intro s hs
  subst hs
  obtain ⟨ps, e, t, r⟩ := T
  have hgP : mainGlobals ≠ P := fun q => by
    obtain ⟨o, es, ep, e', hd, _⟩ := hg
    rw [q, e] at e'; cases e'; cases hd
  have hPlt := Heap.lt_size e
  rcases r _ hm with hn | ⟨c', hc', rec', hH, hcP, hRc⟩
  · refine kla_makeFunction hcl hg0 hg hcode C e t hn hgP hb (fun c' ctv h' tk eb hge hlt hrec htab => ⟨⟨rfl, rfl⟩, ?_⟩)
    have hcP : c' ≠ P := by intro q; rw [q] at hge; exact absurd hPlt (Nat.not_lt.mpr hge)
    have hH : H.get? c' = none := by
      cases e' : H.get? c' with
      | none => rfl
      | some o => exact absurd (Heap.lt_size (E _ _ e')) (Nat.not_lt.mpr hge)
    have ebf : Heap.ExtBut P s.heap (h'.push (kla_obj name qual params body scope clos ((mg "__name__").getD .none) c' ctv)) := fun b o nb eb' => Heap.get?_push_of_some _ (eb b o nb eb')
    refine k _ h'.objs.size c' ctv ebf ?_ (Nat.le_of_lt (Nat.lt_of_le_of_lt hge hlt)) (by first | (with_reducible (first | exact im1 | exact im2 | exact im3 | exact sb0 | exact sb1 im1 | exact sb1 im2 | exact sb1 im3)) | exact nmc (adne (by decide)) nm0 | exact nmc (adne (by decide)) (nmc (adnn (by decide)) nm0) | simp) (Heap.get?_push_size _ rfl) (CodeRec.keptTo hrec fun o ho => Heap.get?_push_of_some _ ho) hH (Nat.ne_of_lt hlt) hcP
    refine ⟨_, Heap.get?_push_of_some _ htab, by simpa using TriplesOk_snoc _ _ _ _ t, fun q hq => ?_⟩
    simp only [Array.toList_append]
    rw [among_snoc _ t]
    rcases r q hq with h1 | ⟨c2, h1, h2, h3, h4, h5⟩
    · rw [h1]
      by_cases hq2 : ((pos.line : Int) == q.1.line && (pos.col : Int) == q.1.col) = true
      · rw [if_pos hq2]
        simp at hq2
        refine .inr ⟨c', rfl, ?_, hH, hcP, hR _ hge⟩
        rw [hsame q hq (by lia) (by lia)]
        exact CodeRec.keptTo hrec fun o ho => Heap.get?_push_of_some _ ho
      · rw [if_neg hq2]; exact .inl rfl
    · rw [h1]
      exact .inr ⟨c2, rfl, CodeRec.keptTo h2 fun o ho => ebf _ _ h4 ho, h3, h4, h5⟩
  · refine kla_makeFunctionHit hcl hg0 hg hcode C e t hc' hb (fun ctv h' tk hk hsz => ⟨⟨rfl, rfl⟩, ?_⟩)
    have ex : Ext s.heap (h'.push { cls := .type "function", data := .func (kla_fn name qual params body scope clos ((mg "__name__").getD .none) (.ref c') ctv) }) := fun b o e' => Heap.get?_push_of_some _ (hk b o e')
    refine k _ h'.objs.size c' ctv (fun b o _ e' => ex b o e') (TabR.ext ⟨ps, e, t, r⟩ ex) hsz (by first | (with_reducible (first | exact im1 | exact im2 | exact im3 | exact sb0 | exact sb1 im1 | exact sb1 im2 | exact sb1 im3)) | exact nmc (adne (by decide)) nm0 | exact nmc (adne (by decide)) (nmc (adnn (by decide)) nm0) | simp) (Heap.get?_push_size _ rfl) (CodeRec.keptTo rec' fun o ho => ex _ _ ho) hH ?_ hcP
    obtain ⟨o', vs, e4, e5⟩ := CodeRec.fields rec'
    exact Nat.ne_of_lt (Nat.lt_of_lt_of_le (Heap.lt_size e4) hsz)
theorem w_lambda {Q : Value → Heap → Prop} (hdef : defaultsOf params env = ([], [])) (x : Wp M A (makeFunction "<lambda>" (env.qual ++ "<lambda>") params (.expr body) scope env [] [] [] pos pos.line) Q h) : Wp M A (eval (.Lambda params body scope pos) env) Q h :=
  fun s hs => kla_eval hdef (x s hs)
end
section
variable {prog : Program} {w : World} {A : Around} {h H : Heap} {mg mb : Str → Option Value} {env : Env}
theorem c_callE {fa : Addr} {o : Obj} {fd : FuncData} {body : Expr} {pos : List Value} {binds : List (Str × Value)} {Q : Value → Heap → Prop}
    (hroom : A.depth < recursionLimit) (ho : h.get? fa = some o) (hd : o.data = .func fd) (hlim : h.NoLimit) (hcd : h.CodeRec fd.code fd.qualname) (hbody : fd.body = .expr body)
    (hb : bindArgs fd ⟨pos, []⟩ = pure binds) (hcell : ∀ x ∈ fd.scope.names, x.2 ≠ .cell) (hloc : ∀ x ∈ binds, fd.scope.names.lookup x.1 = some .local)
    (x : ∀ L h₁, L = h.objs.size → Fr h L h₁ (fun y => binds.reverse.lookup y) → Wp (model prog w) (A.deeper (callEnv fd L fa)) (eval body (callEnv fd L fa)) Q h₁)
    (hco : fd.scope.isCoroutine = false) (hgen : fd.scope.isGenerator = false) (hk : fd.scope.kind = .function) :
    Wc (model prog w) A (.call (.ref fa) ⟨pos, []⟩) Q h := by
  intro s hs
  subst hs
  refine kla_callFunE hroom ho hd hco hgen hbody hcd ?_
  rw [hb]
  refine wpAny_pure (wpAny_newFunctionEnv hcell hloc (fun h₁ hns hsb => ⟨hlim.fresh _ hsb, ?_⟩) hk)
  have hk₁ : ∀ b o, s.heap.get? b = some o → h₁.get? b = some o := fun b o e => hsb.extBut b o (Nat.ne_of_lt (Heap.lt_size e)) (Heap.get?_push_of_some _ e)
  refine kla_codeExpr (Wp.run (x s.heap.objs.size h₁ rfl ⟨hns, hk₁, Nat.le_refl _⟩) (fun v s' o g q => ⟨⟨o, g⟩, q⟩))
end
end Mine
end
section
open PySem PySem.W PyProof.Rows PySem.Calls
set_option Elab.async false
set_option maxRecDepth 100000
set_option linter.unusedVariables false
set_option linter.unusedSimpArgs false
namespace Mine
abbrev aWo : Addr := 104
abbrev nSigns : Str := Str.ofString "signs"
abbrev nK : Str := Str.ofString "k"
def signs7 : List Nat := [97, 98, 10, 32, 34, 92, 35]
def sgn (x : Int) (k : Nat) : Nat := signs7.getD (((x.fdiv 3).fdiv (7 ^ k)).fmod 7).toNat 0
def word7 (x : Int) : List Nat := (List.range (x.fmod 3).toNat).map (sgn x)
theorem mod7 (x : Int) (k : Nat) : ∃ j : Nat, ((x.fdiv 3).fdiv (7 ^ k)).fmod 7 = j ∧ signs7[j]? = some (sgn x k) := by
  have h1 := Int.fmod_nonneg_of_pos ((x.fdiv 3).fdiv (7 ^ k)) (b := 7) (by decide)
  have h2 := Int.fmod_lt_of_pos ((x.fdiv 3).fdiv (7 ^ k)) (b := 7) (by decide)
  refine ⟨(((x.fdiv 3).fdiv (7 ^ k)).fmod 7).toNat, by lia, ?_⟩
  unfold sgn
  have h3 : (((x.fdiv 3).fdiv (7 ^ k)).fmod 7).toNat < signs7.length := by simp [signs7]; lia
  simp [List.getD_eq_getElem?_getD, h3]
theorem mod3 (x : Int) : ∃ j : Nat, x.fmod 3 = j ∧ j ≤ 2 := by
  have h1 := Int.fmod_nonneg_of_pos x (b := 3) (by decide)
  have h2 := Int.fmod_lt_of_pos x (b := 3) (by decide)
  exact ⟨(x.fmod 3).toNat, by lia, by lia⟩
theorem word7_len (x : Int) : (word7 x).length ≤ 2 := by
  obtain ⟨j, e, h⟩ := mod3 x
  simp [word7, e, h]
section
variable {prog : Program} {w : World} {A : Around} {h H : Heap} {mg mb : Str → Option Value} {env : Env}
theorem w_powInt {a n : Int} {t u : Tok} {Q : Value → Heap → Prop} (hn : 0 ≤ n) (hsz : (Builtin.Int.intBits a : Int) * n ≤ 2 ^ 27) (k : ∀ t, Q (.int (a ^ n.toNat) t) h) : Wp (model prog w) A (binaryOp .Pow (.int a t) (.int n u)) Q h := fun s hs => by
  subst hs; exact pow_int hn hsz ⟨⟨rfl, rfl⟩, k _⟩
set_option maxHeartbeats 4000000 in
theorem wo_call {n : Nat} {x : Int} {t : Tok} {Q : Value → Heap → Prop} (G : Gd w mg mb H h) (ok : OkA (n + 1) A) (k : ∀ h' t, Ext h h' → Q (.str (S (word7 x)) t) h') :
    Wc (model prog w) A (.call (.ref aWo) ⟨[.int x t], []⟩) Q h := by
  refine c_callC (fd := fnAt w aWo) (body := bodyAt w aWo) (binds := [(nX, .int x t)]) (by have := ok.depth; lia) (G.now.K _ _ (by kernel_rfl : (KH w).lookup aWo = some (objAt w aWo))) (by kernel_rfl) G.now.lim
    (codeRec_of G.now.K (by kernel_rfl)) (by kernel_rfl) (by kernel_rfl) (by kernel_rfl) (fun L y hy => ?_) (fun L h₁ hL F cell => ?_)
  · simp only [List.mem_singleton] at hy; subst hy; exact .inr ⟨by kernel_rfl, by rfl⟩
  have ok' : OkA n (A.deeper (callEnvC (fnAt w aWo) L aWo)) := ok.deeper _
  have c1 : h₁.IsCell (L + 1) (some (.int x t)) := cell nX _ rfl
  have c2 : h₁.IsCell (L + 2) none := cell nSigns _ rfl
  have F : Fr h L h₁ (fun _ => none) := F
  clear cell
  have hlt2 : L + 2 < h₁.objs.size := let ⟨o, a, b⟩ := c2; Heap.lt_size a
  refine w_cons ?_
  refine w_asg ?_
  refine w_cS signs7 (by kernel_rfl) fun ts => ?_
  refine w_storeC (c := L + 2) rfl c2 (fun h2 c3 sb2 => ?_)
  have k2 : Kept [L + 2] h₁ h2 := Kept.of_same sb2 im1
  have hn2 : h.get? (L + 2) = none := get_none (Nat.le_trans F.above (Nat.le_add_right _ _))
  have F2 := frChg F sb2 (adne (by decide)) hn2
  have c12 : h2.IsCell (L + 1) (some (.int x t)) := let ⟨o, a, b⟩ := c1; ⟨o, k2 _ _ (nmc (adnn (by decide)) nm0) a, b⟩
  have G2 := G.ext F2.keep
  obtain ⟨m3, em3, hm3⟩ := mod3 x
  refine w_cons ?_
  refine w_ret ?_
  refine w_joinCall (by kernel_rfl) (by kernel_rfl) ?_
  refine w_lcI (cl := [(nX, L + 1), (nSigns, L + 2)]) (Nat.zero_le _) rfl rfl rfl rfl ?_
  refine w_callN ?_
  refine w_gB (v := .type "range") G2.now (by kernel_rfl) (by kernel_rfl) (by decide) ?_
  refine w_args ?_
  refine w_arg ?_
  refine w_binOp ?_
  refine w_nmC (c := L + 1) rfl c12 ?_
  refine w_cInt fun _ => ?_
  refine w_modInt (by decide) fun _ => ?_
  rw [em3]
  refine w_arg0 ?_
  refine w_kw0 ⟨Kp.type _, ?_⟩
  refine w_range fun h3 r t1 t2 t3 hr e3 z3 ir => ?_
  refine ⟨m3, _, [], iterRange0 rfl ok'.3 ir (by lia), by rw [sizeLine_eq]; lia, fun b hb => (nomatch hb), [], (fun b0 i ys h' => Strs ys ((List.range i).map fun k => [sgn x k])), fun b hb => (nomatch hb), ⟨fun b0 i ys h1' h2' hJ off => hJ, fun b0 => trivial, fun b0 C i v ys h' mm hiN hC hbC hv hJ kk hy ns => t_hide fun Qb hQb => ?_⟩, fun b0 ys D2 h4 hD hb2' l2 hy hJ k4 => ?_⟩
  · obtain ⟨tv, rfl⟩ := hv
    have hCh : h2.get? C = none := get_none (Nat.le_trans (by lia) hC)
    refine w_asgName ?_
    refine w_store (env := compEnvC _ [(nX, L + 1), (nSigns, L + 2)] C (callEnvC (fnAt w aWo) L aWo)) (m := mm) ns (fun h2' n2 sb2' => ?_) rfl rfl
    have kC : Kept [C] h' h2' := Kept.of_same sb2' im1
    have e02 : Ext h2 h2' := fun b o e => kC b o (nmc (by intro q; subst q; rw [hCh] at e; cases e) nm0) (kk b o nm0 (e3 b o e))
    obtain ⟨j7, ej7, hj7⟩ := mod7 x i
    show Wp _ _ _ _ _
    refine w_sub ?_
    refine w_nmC (c := L + 2) rfl (c3.keeps e02) ?_
    refine w_binOp ?_
    refine w_binOp ?_
    refine w_binOp ?_
    refine w_nmC (c := L + 1) rfl (c12.keeps e02) ?_
    refine w_cInt fun _ => ?_
    refine w_divInt (by decide) fun _ => ?_
    refine w_binOp ?_
    refine w_cInt fun _ => ?_
    refine w_nm n2 (if_pos rfl) ?_
    refine w_powInt (Int.natCast_nonneg _) ?_ fun _ => ?_
    · have : i ≤ 1 := by lia
      have hb : Builtin.Int.intBits 7 = 3 := by decide +kernel
      rw [hb]; lia
    have e7 : (7 : Int) ^ ((i : Int)).toNat = 7 ^ i := by rw [Int.toNat_natCast]
    rw [e7]
    have hi7 : i = 0 ∨ i = 1 := by lia
    refine w_divInt (by rcases hi7 with rfl | rfl <;> decide) (fun _ => ?_) (by rcases hi7 with rfl | rfl <;> decide)
    refine w_cInt fun _ => ?_
    refine w_modInt (by decide) fun _ => ?_
    rw [ej7]
    refine w_itemStr (i := j7) (c := sgn x i) hj7 (by rw [sizeLine_eq]; decide) (fun t5 => ?_)
    refine hQb _ _ ⟨kC, ⟨_, n2⟩, ?_⟩
    show Strs _ ((List.range (i + 1)).map fun k => [sgn x k])
    rw [List.range_succ, List.map_append]
    exact hJ.append ⟨⟨t5, rfl⟩, trivial⟩
  · refine ⟨D2, ys, _, 1, rfl, l2.isList, hJ, fun y hy => ?_, by simp; lia, fun t6 => ?_⟩
    · obtain ⟨i, _, rfl⟩ := List.mem_map.mp hy; exact Nat.le_refl _
    have e4 : Ext h2 h4 := fun b o e => k4 b o nm0 (e3 b o e)
    have : ((List.range m3).map fun k => [sgn x k]).flatten = word7 x := by
      unfold word7; rw [em3, Int.toNat_natCast]
      generalize List.range m3 = l
      induction l with
      | nil => rfl
      | cons a l ih => simp only [List.map_cons, List.flatten_cons, ih]; rfl
    rw [this]
    refine k _ _ fun b o e => e4 b o (F2.keep b o e)
end
end Mine
end
section
set_option linter.unusedVariables false
set_option linter.unusedSimpArgs false
namespace Mine
/-! ## plain: strict linear orders as tests -/
structure Lin {α : Type} (lt : α → α → Bool) : Prop where
  irr : ∀ a, lt a a = false
  tr : ∀ a b c, lt a b = true → lt b c = true → lt a c = true
  tri : ∀ a b, lt a b = false → lt b a = false → a = b
theorem Lin.asym {α : Type} {lt : α → α → Bool} (T : Lin lt) {a b : α} (h : lt a b = true) : lt b a = false := by
  cases h2 : lt b a with
  | false => rfl
  | true => have := T.tr _ _ _ h h2; rw [T.irr] at this; cases this
/-- not above -/
theorem Lin.letr {α : Type} {lt : α → α → Bool} (T : Lin lt) {a b c : α} (h1 : lt b a = false) (h2 : lt c b = false) : lt c a = false := by
  cases h : lt c a with
  | false => rfl
  | true =>
    exfalso
    cases h3 : lt a b with
    | true => have := T.tr _ _ _ h h3; rw [h2] at this; cases this
    | false => have := T.tri _ _ h3 h1; subst this; rw [h2] at h; cases h
theorem Lin.ltle {α : Type} {lt : α → α → Bool} (T : Lin lt) {a b c : α} (h1 : lt a b = true) (h2 : lt c b = false) : lt a c = true := by
  cases h : lt a c with
  | true => rfl
  | false => have := T.letr h2 h; rw [h1] at this; cases this
theorem Lin.lelt {α : Type} {lt : α → α → Bool} (T : Lin lt) {a b c : α} (h1 : lt b a = false) (h2 : lt b c = true) : lt a c = true := by
  cases h : lt a c with
  | true => rfl
  | false => have := T.letr h h1; rw [h2] at this; cases this
/-- lists, place by place -/
def lx {α : Type} [DecidableEq α] (lt : α → α → Bool) : List α → List α → Bool
  | [], [] => false
  | [], _ :: _ => true
  | _ :: _, [] => false
  | a :: as, b :: bs => if a = b then lx lt as bs else lt a b
section
variable {α : Type} [DecidableEq α] {lt : α → α → Bool}
theorem lx_lin (T : Lin lt) : Lin (lx lt) where
  irr := fun a => by
    induction a with
    | nil => rfl
    | cons x a ih => simp [lx, ih]
  tr := fun a => by
    induction a with
    | nil => intro b c h1 h2; cases b <;> cases c <;> simp_all [lx]
    | cons x a ih =>
      intro b c h1 h2
      cases b with
      | nil => simp [lx] at h1
      | cons y b =>
        cases c with
        | nil => simp [lx] at h2
        | cons z c =>
          simp only [lx] at h1 h2 ⊢
          by_cases e : x = y
          · subst e
            rw [if_pos rfl] at h1
            by_cases e2 : x = z
            · rw [if_pos e2] at h2 ⊢; exact ih _ _ h1 h2
            · rw [if_neg e2] at h2 ⊢; exact h2
          · rw [if_neg e] at h1
            by_cases e2 : y = z
            · subst e2; rw [if_neg e]; exact h1
            · rw [if_neg e2] at h2
              have h3 := T.tr _ _ _ h1 h2
              by_cases e3 : x = z
              · subst e3; rw [T.irr] at h3; cases h3
              · rw [if_neg e3]; exact h3
  tri := fun a => by
    induction a with
    | nil => intro b h1 h2; cases b <;> simp_all [lx]
    | cons x a ih =>
      intro b h1 h2
      cases b with
      | nil => simp [lx] at h2
      | cons y b =>
        simp only [lx] at h1 h2
        by_cases e : x = y
        · rw [if_pos e] at h1; rw [if_pos e.symm] at h2; rw [e, ih _ h1 h2]
        · rw [if_neg e] at h1; rw [if_neg (fun q => e q.symm)] at h2; exact absurd (T.tri _ _ h1 h2) e
theorem lx_snoc (T : Lin lt) : ∀ (a b : List α) (c : α), a.length = b.length → lx lt (a ++ [c]) (b ++ [c]) = lx lt a b
  | [], [], c, _ => by simp [lx]
  | x :: a, y :: b, c, h => by
    simp only [List.cons_append, lx]
    rw [lx_snoc T a b c (by simpa using h)]
  | [], _ :: _, _, h => by simp at h
  | _ :: _, [], _, h => by simp at h
end
/-! ## where a test changes in a row -/
theorem cut_iff {α : Type} (q : α → Bool) : ∀ (l : List α), l.Pairwise (fun a b => q b = true → q a = true) → ∀ (i : Nat) (h : i < l.length), (i < l.countP q ↔ q l[i] = true)
  | [], _, i, h => by simp at h
  | a :: l, hp, i, h => by
    rw [List.pairwise_cons] at hp
    rw [List.countP_cons]
    cases ha : q a with
    | true =>
      simp only [if_true]
      cases i with
      | zero => simp [ha]
      | succ i => simpa using cut_iff q l hp.2 i (by simpa using h)
    | false =>
      have h0 : l.countP q = 0 := by
        rw [List.countP_eq_zero]; intro b hb e; have := hp.1 b hb e; rw [ha] at this; cases this
      simp only [h0]
      cases i with
      | zero => simp [ha]
      | succ i =>
        have hi : i < l.length := by simpa using h
        simp only [List.getElem_cons_succ]
        constructor
        · intro h'; simp at h'
        · intro e; have := hp.1 _ (List.getElem_mem hi) e; rw [ha] at this; cases this
/-! ## rows that grow by insertion -/
def insAt {α : Type} (l : List α) (r : Nat) (x : α) : List α := l.take r ++ x :: l.drop r
theorem insAt_perm {α : Type} (l : List α) (r : Nat) (x : α) : (insAt l r x).Perm (x :: l) := by
  unfold insAt
  have := List.perm_middle (a := x) (l₁ := l.take r) (l₂ := l.drop r)
  rwa [List.take_append_drop] at this
theorem insAt_len {α : Type} (l : List α) (r : Nat) (x : α) (h : r ≤ l.length) : (insAt l r x).length = l.length + 1 := by simpa using (insAt_perm l r x).length_eq
/-- things 0, 1, .., each laid at the place that the test q k tells -/
def growN (q : Nat → Nat → Bool) : Nat → List Nat
  | 0 => []
  | k + 1 => insAt (growN q k) ((growN q k).countP (q k)) k
theorem growN_perm (q : Nat → Nat → Bool) : ∀ k, (growN q k).Perm (List.range k)
  | 0 => .refl _
  | k + 1 => by
    rw [List.range_succ]
    exact (insAt_perm _ _ _).trans (((growN_perm q k).cons k).trans (List.perm_append_comm (l₁ := [k])))
theorem growN_lt (q : Nat → Nat → Bool) (k : Nat) : ∀ i ∈ growN q k, i < k := fun i hi => List.mem_range.mp ((growN_perm q k).mem_iff.mp hi)
/-- it stays in order -/
theorem growN_sorted (q : Nat → Nat → Bool) (R : Nat → Nat → Prop) (hcut : ∀ k i j, i < k → j < k → R i j → q k j = true → q k i = true) (h1 : ∀ k i, i < k → q k i = true → R i k) (h2 : ∀ k i, i < k → q k i = false → R k i) :
    ∀ k, (growN q k).Pairwise R
  | 0 => .nil
  | k + 1 => by
    have ih := growN_sorted q R hcut h1 h2 k
    have lt := growN_lt q k
    have cut := cut_iff (q k) (growN q k) (ih.imp_of_mem fun ha hb h => hcut k _ _ (lt _ ha) (lt _ hb) h)
    show (insAt (growN q k) ((growN q k).countP (q k)) k).Pairwise R
    generalize growN q k = l at *
    generalize l.countP (q k) = r at *
    unfold insAt
    rw [List.pairwise_append, List.pairwise_cons]
    have hd := (List.take_append_drop r l).symm ▸ ih
    rw [List.pairwise_append] at hd
    have tk : ∀ a ∈ l.take r, R a k := fun a ha => by
      obtain ⟨i, hi, rfl⟩ := List.getElem_of_mem ha
      rw [List.getElem_take]
      have hi' : i < l.length := by simp at hi; lia
      exact h1 k _ (lt _ (List.getElem_mem _)) ((cut i hi').mp (by simp at hi; lia))
    have dr : ∀ b ∈ l.drop r, R k b := fun b hb => by
      obtain ⟨i, hi, rfl⟩ := List.getElem_of_mem hb
      rw [List.getElem_drop]
      have hi' : r + i < l.length := by simp at hi; lia
      refine h2 k _ (lt _ (List.getElem_mem _)) ?_
      cases e : q k l[r + i] with
      | false => rfl
      | true => have := (cut (r + i) hi').mpr e; lia
    refine ⟨hd.1, ⟨dr, hd.2.1⟩, fun a ha b hb => ?_⟩
    rcases List.mem_cons.mp hb with rfl | hb
    · exact tk a ha
    · exact hd.2.2 a ha b hb
/-- the place and what lies on its sides -/
theorem growN_cut (q : Nat → Nat → Bool) (R : Nat → Nat → Prop) (hcut : ∀ k i j, i < k → j < k → R i j → q k j = true → q k i = true) (h1 : ∀ k i, i < k → q k i = true → R i k) (h2 : ∀ k i, i < k → q k i = false → R k i) (k i : Nat) (h : i < (growN q k).length) :
    (i < (growN q k).countP (q k) ↔ q k (growN q k)[i] = true) :=
  cut_iff (q k) (growN q k) ((growN_sorted q R hcut h1 h2 k).imp_of_mem fun ha hb h => hcut k _ _ (growN_lt q k _ ha) (growN_lt q k _ hb) h) i h
/-! ## strictly increasing maps of an initial stretch into itself -/
theorem incr_id (N : Nat) (f : Nat → Nat) (h1 : ∀ i, i < N → f i < N) (h2 : ∀ i j, i < j → j < N → f i < f j) : ∀ i, i < N → f i = i := by
  have lo : ∀ i, i < N → i ≤ f i := by
    intro i
    induction i with
    | zero => intro _; lia
    | succ i ih => intro h; have := ih (by lia); have := h2 i (i + 1) (by lia) h; lia
  have hi : ∀ d i, i + d = N - 1 → i < N → f i + d ≤ N - 1 := by
    intro d
    induction d with
    | zero => intro i h h'; have := h1 i h'; lia
    | succ d ih => intro i h h'; have := ih (i + 1) (by lia) (by lia); have := h2 i (i + 1) (by lia) (by lia); lia
  intro i h
  have := lo i h
  have := hi (N - 1 - i) i (by lia) h
  lia
end Mine
end
section
set_option linter.unusedVariables false
set_option linter.unusedSimpArgs false
namespace Mine
theorem snocInd {α : Type} {P : List α → Prop} (nil : P []) (snoc : ∀ l a, P l → P (l ++ [a])) (l : List α) : P l := by
  rw [← List.reverse_reverse l]
  induction l.reverse with
  | nil => exact nil
  | cons a r ih => rw [List.reverse_cons]; exact snoc _ _ ih
/-! ## plain: inversions, falls, Foata's way between them -/
section
variable {α : Type} (lt : α → α → Bool)
def inv : List α → Nat
  | [] => 0
  | a :: l => l.countP (fun b => lt b a) + inv l
/-- one more sign of the line that is written anew: (what is out, what is held) -/
def fstep (x : α) (s : Bool) (c : List α × List α) (one : α) : List α × List α := if (lt x one == s) = true then (c.1 ++ (one :: c.2), []) else (c.1, c.2 ++ [one])
def fgo (x : α) (s : Bool) (l : List α) : List α × List α := l.foldl (fstep lt x s) ([], [])
/-- the line with one more word -/
def fline (x : α) (l : List α) : List α := (fgo lt x ((l.getLast?.map (lt x)).getD true) l).1 ++ [x]
def foata (l : List α) : List α := l.foldl (fun c x => fline lt x c) []
/-- places of falls -/
def falls : List α → Nat → Nat
  | l, 0 => 0
  | l, n + 1 => falls l n + (match l[n]?, l[n + 1]? with
    | some a, some b => if lt b a then n + 1 else 0
    | _, _ => 0)
variable {lt}
theorem inv_snoc (l : List α) (x : α) : inv lt (l ++ [x]) = inv lt l + l.countP (fun y => lt x y) := by
  induction l with
  | nil => simp [inv]
  | cons a l ih => simp [inv, List.countP_append, List.countP_cons, ih]; lia
theorem inv_up (c : α) (B D : List α) (h : ∀ b ∈ B, lt b c = true ∧ lt c b = false) : inv lt (c :: (B ++ D)) = inv lt (B ++ c :: D) + B.length := by
  induction B with
  | nil => simp
  | cons b B ih =>
    have hb := h b (List.mem_cons_self ..)
    have ih' := ih fun y hy => h y (List.mem_cons_of_mem _ hy)
    simp only [List.cons_append, inv, List.countP_cons, List.countP_append, hb.1, hb.2, if_true, List.length_cons] at ih' ⊢
    simp only [Bool.false_eq_true, if_false] at *
    lia
theorem inv_moveUp (c : α) (A B D : List α) (h : ∀ b ∈ B, lt b c = true ∧ lt c b = false) : inv lt (A ++ c :: (B ++ D)) = inv lt (A ++ (B ++ c :: D)) + B.length := by
  induction A with
  | nil => exact inv_up c B D h
  | cons a A ih =>
    simp only [List.cons_append, inv, List.countP_append, List.countP_cons] at ih ⊢
    lia
theorem inv_down (c : α) (B D : List α) (h : ∀ b ∈ B, lt b c = false ∧ lt c b = true) : inv lt (c :: (B ++ D)) + B.length = inv lt (B ++ c :: D) := by
  induction B with
  | nil => simp
  | cons b B ih =>
    have hb := h b (List.mem_cons_self ..)
    have ih' := ih fun y hy => h y (List.mem_cons_of_mem _ hy)
    simp only [List.cons_append, inv, List.countP_cons, List.countP_append, hb.1, hb.2, if_true, List.length_cons] at ih' ⊢
    simp only [Bool.false_eq_true, if_false] at *
    lia
theorem inv_moveDown (c : α) (A B D : List α) (h : ∀ b ∈ B, lt b c = false ∧ lt c b = true) : inv lt (A ++ c :: (B ++ D)) + B.length = inv lt (A ++ (B ++ c :: D)) := by
  induction A with
  | nil => exact inv_down c B D h
  | cons a A ih =>
    simp only [List.cons_append, inv, List.countP_append, List.countP_cons] at ih ⊢
    lia
theorem fgo_snoc (x : α) (s : Bool) (l : List α) (one : α) : fgo lt x s (l ++ [one]) = fstep lt x s (fgo lt x s l) one := by simp [fgo]
theorem fgo_held (x : α) (s : Bool) : ∀ (l : List α), ∀ b ∈ (fgo lt x s l).2, lt x b = !s := by
  intro l
  induction l using snocInd with
  | nil => simp [fgo]
  | snoc l one ih =>
    rw [fgo_snoc]
    unfold fstep
    by_cases e : (lt x one == s) = true
    · rw [if_pos e]; simp
    · rw [if_neg e]
      intro b hb
      rcases List.mem_append.mp hb with hb | hb
      · exact ih b hb
      · rw [List.mem_singleton.mp hb]
        revert e; cases lt x one <;> cases s <;> simp
theorem fgo_perm (x : α) (s : Bool) : ∀ (l : List α), ((fgo lt x s l).1 ++ (fgo lt x s l).2).Perm l := by
  intro l
  induction l using snocInd with
  | nil => simp [fgo]
  | snoc l one ih =>
    rw [fgo_snoc]
    unfold fstep
    by_cases e : (lt x one == s) = true
    · rw [if_pos e]
      simp only [List.append_nil]
      have : ((fgo lt x s l).1 ++ one :: (fgo lt x s l).2).Perm (((fgo lt x s l).1 ++ (fgo lt x s l).2) ++ [one]) := by
        rw [List.append_assoc]; exact (List.perm_append_left_iff _).mpr (List.perm_append_singleton _ _).symm
      exact this.trans (ih.append_right _)
    · rw [if_neg e]
      simp only
      rw [← List.append_assoc]
      exact ih.append_right _
theorem fgo_empty (x : α) (l : List α) (z : α) (s : Bool) (h : lt x z = s) : (fgo lt x s (l ++ [z])).2 = [] := by
  rw [fgo_snoc]; unfold fstep; rw [if_pos (by simp [h])]
theorem fgo_head (x : α) (s : Bool) : ∀ (l : List α), ∀ z ∈ (fgo lt x s l).1.head?, lt x z = s := by
  intro l
  induction l using snocInd with
  | nil => simp [fgo]
  | snoc l one ih =>
    rw [fgo_snoc]
    unfold fstep
    by_cases e : (lt x one == s) = true
    · rw [if_pos e]
      simp only
      cases hq : (fgo lt x s l).1 with
      | nil => intro z hz; simp at hz; subst hz; simpa using e
      | cons a r => intro z hz; rw [hq] at ih; simp at hz ih; subst hz; exact ih
    · rw [if_neg e]; exact ih
/-- inversions of what is out, what is held and the rest -/
theorem fgo_inv (T : Lin lt) (x : α) (s : Bool) : ∀ (l D : List α), (if s = true then inv lt ((fgo lt x s l).1 ++ ((fgo lt x s l).2 ++ D)) = inv lt (l ++ D) + (l.countP (fun y => lt x y == !s) - (fgo lt x s l).2.length)
      else inv lt ((fgo lt x s l).1 ++ ((fgo lt x s l).2 ++ D)) + (l.countP (fun y => lt x y == !s) - (fgo lt x s l).2.length) = inv lt (l ++ D)) ∧ (fgo lt x s l).2.length ≤ l.countP (fun y => lt x y == !s) := by
  intro l
  induction l using snocInd with
  | nil => intro D; simp [fgo]
  | snoc l one ih =>
    intro D
    obtain ⟨i1, i2⟩ := ih (one :: D)
    have hh := fgo_held (lt := lt) x s l
    have e0 : l ++ [one] ++ D = l ++ one :: D := by simp
    rw [fgo_snoc, e0]
    unfold fstep
    by_cases e : (lt x one == s) = true
    · rw [if_pos e]
      have eo : lt x one = s := by simpa using e
      have e1 : ((fgo lt x s l).1 ++ one :: (fgo lt x s l).2) ++ ([] ++ D) = (fgo lt x s l).1 ++ one :: ((fgo lt x s l).2 ++ D) := by simp
      have ec : (l ++ [one]).countP (fun y => lt x y == !s) = l.countP (fun y => lt x y == !s) := by
        rw [List.countP_append]; simp [eo]
      simp only [e1, ec, List.length_nil, Nat.sub_zero, Nat.zero_le, and_true]
      cases s with
      | true =>
        simp only [if_true] at i1 ⊢
        rw [inv_moveUp (lt := lt) one _ _ D (fun b hb => ?_), i1]
        · lia
        · have h1 : lt x b = false := by simpa using hh b hb
          exact ⟨T.lelt (a := b) (b := x) h1 eo, T.asym (T.lelt (a := b) (b := x) h1 eo)⟩
      | false =>
        simp only [Bool.false_eq_true, if_false] at i1 ⊢
        have := inv_moveDown (lt := lt) one (fgo lt x false l).1 (fgo lt x false l).2 D (fun b hb => by
          have h1 : lt x b = true := by simpa using hh b hb
          have h2 : lt one b = true := T.lelt (a := one) (b := x) eo h1
          exact ⟨T.asym h2, h2⟩)
        lia
    · rw [if_neg e]
      have eo : lt x one = !s := by revert e; cases lt x one <;> cases s <;> simp
      have e1 : (fgo lt x s l).1 ++ (((fgo lt x s l).2 ++ [one]) ++ D) = (fgo lt x s l).1 ++ ((fgo lt x s l).2 ++ one :: D) := by simp
      have ec : (l ++ [one]).countP (fun y => lt x y == !s) = l.countP (fun y => lt x y == !s) + 1 := by
        rw [List.countP_append]; simp [eo]
      simp only [e1, ec, List.length_append, List.length_singleton]
      cases s with
      | true => simp only [if_true] at i1 ⊢; lia
      | false => simp only [Bool.false_eq_true, if_false] at i1 ⊢; lia
theorem fline_inv (T : Lin lt) (x z : α) (l : List α) : inv lt (fline lt x (l ++ [z])) = inv lt (l ++ [z]) + (if lt x z = true then (l ++ [z]).length else 0) := by
  have h0 : (fgo lt x (lt x z) (l ++ [z])).2 = [] := fgo_empty x l z _ rfl
  obtain ⟨h1, _⟩ := fgo_inv T x (lt x z) (l ++ [z]) []
  have hp := fgo_perm (lt := lt) x (lt x z) (l ++ [z])
  rw [h0, List.append_nil] at hp
  have es : ((l ++ [z]).getLast?.map (lt x)).getD true = lt x z := by simp
  unfold fline
  rw [es, inv_snoc, hp.countP_eq]
  rw [h0] at h1
  simp only [List.append_nil, List.length_nil, Nat.sub_zero] at h1
  cases e : lt x z with
  | true =>
    rw [e] at h1
    simp only [if_true] at h1 ⊢
    rw [h1]
    have := List.length_eq_countP_add_countP (fun y => lt x y) (l := l ++ [z])
    have e2 : (l ++ [z]).countP (fun y => lt x y == !true) = (l ++ [z]).countP (fun y => decide ¬ lt x y = true) := by
      congr 1; funext y; cases lt x y <;> rfl
    lia
  | false =>
    rw [e] at h1
    simp only [Bool.false_eq_true, if_false] at h1 ⊢
    have e2 : (l ++ [z]).countP (fun y => lt x y == !false) = (l ++ [z]).countP (fun y => lt x y) := by
      congr 1; funext y; cases lt x y <;> rfl
    lia
theorem fline_perm (x : α) (l : List α) : (fline lt x l).Perm (x :: l) := by
  unfold fline
  cases hq : l.getLast? with
  | none =>
    have : l = [] := by simpa using hq
    subst this; simp [fgo]
  | some z =>
    obtain ⟨l', rfl⟩ : ∃ l', l = l' ++ [z] := by
      have := List.getLast?_eq_some_iff.mp hq; exact this
    have h0 : (fgo lt x (lt x z) (l' ++ [z])).2 = [] := fgo_empty x l' z _ rfl
    have hp := fgo_perm (lt := lt) x (lt x z) (l' ++ [z])
    rw [h0, List.append_nil] at hp
    simp only [Option.map_some, Option.getD_some]
    exact (List.perm_append_singleton _ _).trans (hp.cons _)
/-- the way back -/
def ustep (x : α) (s : Bool) (c : List α × List α) (one : α) : List α × List α := if (lt x one == s) = true then (c.1 ++ c.2, [one]) else (c.1 ++ [one], c.2)
def ugo (lt : α → α → Bool) (x : α) (s : Bool) (l : List α) : List α × List α := l.foldl (ustep (lt := lt) x s) ([], [])
theorem ugo_snoc (x : α) (s : Bool) (l : List α) (one : α) : ugo lt x s (l ++ [one]) = ustep (lt := lt) x s (ugo lt x s l) one := by simp [ugo]
theorem ugo_held (x : α) (s : Bool) (c : List α × List α) : ∀ (B : List α), (∀ b ∈ B, lt x b = !s) → B.foldl (ustep (lt := lt) x s) c = (c.1 ++ B, c.2) := by
  intro B
  induction B generalizing c with
  | nil => intro _; simp
  | cons b B ih =>
    intro h
    have hb := h b (List.mem_cons_self ..)
    rw [List.foldl_cons, ih _ fun y hy => h y (List.mem_cons_of_mem _ hy)]
    unfold ustep
    rw [if_neg (by rw [hb]; cases s <;> simp)]
    simp
theorem ugo_fgo (x : α) (s : Bool) : ∀ l : List α, (ugo lt x s (fgo lt x s l).1).1 ++ (ugo lt x s (fgo lt x s l).1).2 ++ (fgo lt x s l).2 = l := by
  intro l
  induction l using snocInd with
  | nil => simp [fgo, ugo]
  | snoc l one ih =>
    rw [fgo_snoc]
    unfold fstep
    by_cases e : (lt x one == s) = true
    · rw [if_pos e]
      simp only
      have hh := fgo_held (lt := lt) x s l
      have e1 : ugo lt x s ((fgo lt x s l).1 ++ one :: (fgo lt x s l).2) = ((ugo lt x s (fgo lt x s l).1).1 ++ (ugo lt x s (fgo lt x s l).1).2 ++ (fgo lt x s l).2, [one]) := by
        show List.foldl _ _ _ = _
        rw [List.foldl_append, List.foldl_cons, ugo_held x s _ _ hh]
        show ((ustep x s (ugo lt x s (fgo lt x s l).1) one).1 ++ _, (ustep x s (ugo lt x s (fgo lt x s l).1) one).2) = _
        unfold ustep
        rw [if_pos e]
      rw [e1]
      simp only [List.append_nil]
      rw [ih]
    · rw [if_neg e]
      simp only
      rw [← List.append_assoc, ih]
/-- the line without its last word, as it was ahead of it -/
def uline (lt : α → α → Bool) (x : α) (l : List α) : List α := (ugo lt x ((l.head?.map (lt x)).getD true) l).1 ++ (ugo lt x ((l.head?.map (lt x)).getD true) l).2
theorem uline_fline (x : α) (l : List α) : ∃ o, fline lt x l = o ++ [x] ∧ uline lt x o = l := by
  refine ⟨_, rfl, ?_⟩
  cases hq : l.getLast? with
  | none =>
    have : l = [] := by simpa using hq
    subst this; simp [fgo, uline, ugo]
  | some z =>
    obtain ⟨l', rfl⟩ : ∃ l', l = l' ++ [z] := List.getLast?_eq_some_iff.mp hq
    simp only [Option.map_some, Option.getD_some]
    have h0 : (fgo lt x (lt x z) (l' ++ [z])).2 = [] := fgo_empty x l' z _ rfl
    have hp := fgo_perm (lt := lt) x (lt x z) (l' ++ [z])
    have hu := ugo_fgo (lt := lt) x (lt x z) (l' ++ [z])
    have hd := fgo_head (lt := lt) x (lt x z) (l' ++ [z])
    rw [h0, List.append_nil] at hp hu
    cases hc : (fgo lt x (lt x z) (l' ++ [z])).1 with
    | nil => rw [hc] at hp; have := hp.length_eq; simp at this
    | cons a r =>
      rw [hc] at hd hu
      have : lt x a = lt x z := hd a (by simp)
      unfold uline
      simp only [List.head?_cons, Option.map_some, Option.getD_some, this]
      exact hu
/-- the lines: one more word each -/
theorem foata_succ (l : List α) {n : Nat} {x : α} (h : l[n]? = some x) : foata lt (l.take (n + 1)) = fline lt x (foata lt (l.take n)) := by
  rw [List.take_add_one, h]; simp [foata]
theorem foata_perm (l : List α) : (foata lt l).Perm l := by
  induction l using snocInd with
  | nil => simp [foata]
  | snoc l one ih =>
    have : foata lt (l ++ [one]) = fline lt one (foata lt l) := by simp [foata]
    rw [this]
    exact (fline_perm _ _).trans ((ih.cons one).trans (List.perm_append_singleton _ _).symm)
theorem foata_last (l : List α) {n : Nat} {x : α} (h : l[n]? = some x) : ∃ o, foata lt (l.take (n + 1)) = o ++ [x] ∧ uline lt x o = foata lt (l.take n) := by
  rw [foata_succ l h]
  exact uline_fline _ _
theorem foata_falls (T : Lin lt) (l : List α) : ∀ n, n < l.length → inv lt (foata lt (l.take (n + 1))) = falls lt l n := by
  intro n
  induction n with
  | zero =>
    intro h
    have e : l[0]? = some l[0] := by simp [h]
    rw [foata_succ l e]
    simp [foata, fline, fgo, inv, falls]
  | succ n ih =>
    intro h
    have e1 : l[n + 1]? = some l[n + 1] := by simp [h]
    have e0 : l[n]? = some l[n] := by simp [Nat.lt_of_succ_lt h]
    obtain ⟨o, ho, _⟩ := foata_last (lt := lt) l e0
    have ih := ih (Nat.lt_of_succ_lt h)
    rw [foata_succ l e1, ho, fline_inv T, ← ho, ih]
    have hl : (foata lt (l.take (n + 1))).length = n + 1 := by
      rw [(foata_perm _).length_eq, List.length_take]; lia
    rw [hl]
    show _ = falls lt l n + _
    rw [e0, e1]
end
end Mine
end
section
set_option linter.unusedVariables false
set_option linter.unusedSimpArgs false
namespace Mine
/-! ## plain: rows in order -/
abbrev W := List Nat
def wlt (a b : W) : Bool := decide (a < b)
theorem wlt_lin : Lin wlt where
  irr := fun a => by simp [wlt]
  tr := fun a b c h1 h2 => by simp [wlt] at *; exact List.lt_trans h1 h2
  tri := fun a b h1 h2 => by simp [wlt] at *; exact List.le_antisymm h2 h1
section
variable {α : Type} {lt : α → α → Bool}
def Asc (lt : α → α → Bool) (l : List α) : Prop := l.Pairwise fun a b => lt b a = false
def nL (lt : α → α → Bool) (l : List α) (x : α) : Nat := l.countP fun y => lt y x
def nR (lt : α → α → Bool) (l : List α) (x : α) : Nat := l.countP fun y => !(lt x y)
theorem cutAt {p : α → Bool} : ∀ {l : List α}, (l.Pairwise fun a b => p b = true → p a = true) → ∀ (i : Nat) (h : i < l.length), i < l.countP p ↔ p l[i] = true
  | [], _, i, h => by simp at h
  | a :: l, hp, i, h => by
    rw [List.pairwise_cons] at hp
    rw [List.countP_cons]
    cases q : p a with
    | true =>
      cases i with
      | zero => simp [q]
      | succ i =>
        have := cutAt hp.2 i (by simpa using h)
        simp only [if_true, List.getElem_cons_succ]
        rw [← this]; exact Nat.add_lt_add_iff_right
    | false =>
      have hz : l.countP p = 0 := List.countP_eq_zero.mpr fun b hb => by
        intro hb2; have := hp.1 b hb hb2; rw [q] at this; cases this
      rw [hz]
      simp only [Bool.false_eq_true, if_false, Nat.add_zero, Nat.not_lt_zero, false_iff]
      cases i with
      | zero => simp [q]
      | succ i =>
        simp only [List.getElem_cons_succ]
        intro hb; have := hp.1 _ (List.getElem_mem (by simpa using h)) hb; rw [q] at this; cases this
theorem nL_iff (T : Lin lt) {l : List α} (s : Asc lt l) (x : α) (i : Nat) (h : i < l.length) : i < nL lt l x ↔ lt l[i] x = true :=
  cutAt (p := fun y => lt y x) (s.imp fun {a b} hab hb => T.lelt hab hb) i h
theorem nR_iff (T : Lin lt) {l : List α} (s : Asc lt l) (x : α) (i : Nat) (h : i < l.length) : i < nR lt l x ↔ lt x l[i] = false := by
  have := cutAt (p := fun y => !(lt x y)) (l := l) (s.imp fun {a b} hab hb => by
    simp only [Bool.not_eq_true'] at hb ⊢
    exact T.letr (a := a) (b := b) (c := x) hab hb) i h
  unfold nR
  simpa using this
theorem nL_le (l : List α) (x : α) : nL lt l x ≤ l.length := List.countP_le_length
theorem nR_le (l : List α) (x : α) : nR lt l x ≤ l.length := List.countP_le_length
/-- a thing of the row lies above x just if all that do not lie above x lie below it -/
theorem side_iff (T : Lin lt) {l : List α} (s : Asc lt l) (x : α) {one : α} (h : one ∈ l) : nR lt l x ≤ nL lt l one ↔ lt x one = true := by
  obtain ⟨j, hj, rfl⟩ := List.getElem_of_mem h
  constructor
  · intro hle
    cases q : lt x l[j] with
    | true => rfl
    | false =>
      have h1 := (nR_iff T s x j hj).mpr q
      have h2 := (nL_iff T s l[j] j hj).mp (Nat.lt_of_lt_of_le h1 hle)
      rw [T.irr] at h2; cases h2
  · intro hx
    rcases Nat.lt_or_ge (nL lt l l[j]) (nR lt l x) with q | q
    · exfalso
      have hi : nL lt l l[j] < l.length := Nat.lt_of_lt_of_le q (nR_le _ _)
      have h1 := (nR_iff T s x _ hi).mp q
      have h2 := (nL_iff T s l[j] _ hi).mpr (T.lelt h1 hx)
      exact Nat.lt_irrefl _ h2
    · exact q
def insR (lt : α → α → Bool) (x : α) (l : List α) : List α := l.take (nR lt l x) ++ x :: l.drop (nR lt l x)
theorem insR_perm (x : α) (l : List α) : (insR lt x l).Perm (x :: l) := by
  unfold insR
  have := List.perm_middle (a := x) (l₁ := l.take (nR lt l x)) (l₂ := l.drop (nR lt l x))
  rwa [List.take_append_drop] at this
theorem insR_asc (T : Lin lt) (x : α) {l : List α} (s : Asc lt l) : Asc lt (insR lt x l) := by
  unfold insR Asc
  rw [List.pairwise_append, List.pairwise_cons]
  refine ⟨s.sublist (List.take_sublist _ _), ⟨fun b hb => ?_, s.sublist (List.drop_sublist _ _)⟩, fun a ha b hb => ?_⟩
  · obtain ⟨k, hk, rfl⟩ := List.getElem_of_mem hb
    rw [List.getElem_drop]
    rw [List.length_drop] at hk
    cases q : lt l[nR lt l x + k] x with
    | false => rfl
    | true =>
      have : lt x l[nR lt l x + k] = false := T.asym q
      have := (nR_iff T s x _ (by omega)).mpr this
      omega
  · obtain ⟨k, hk, rfl⟩ := List.getElem_of_mem ha
    rw [List.getElem_take]
    rw [List.length_take] at hk
    have h1 := (nR_iff T s x k (by omega)).mp (by omega)
    rcases List.mem_cons.mp hb with rfl | hb
    · exact h1
    · obtain ⟨j, hj, rfl⟩ := List.getElem_of_mem hb
      rw [List.getElem_drop]
      rw [List.length_drop] at hj
      exact (List.pairwise_iff_getElem.mp s) k (nR lt l x + j) (by omega) (by omega) (by omega)
def popL (lt : α → α → Bool) (x : α) (l : List α) : List α := l.eraseIdx (nL lt l x)
theorem popL_get (T : Lin lt) {x : α} {l : List α} (s : Asc lt l) (h : x ∈ l) : l[nL lt l x]? = some x := by
  obtain ⟨j, hj, rfl⟩ := List.getElem_of_mem h
  have hle : nL lt l l[j] ≤ j := by
    rcases Nat.lt_or_ge j (nL lt l l[j]) with q | q
    · have := (nL_iff T s l[j] j hj).mp q; rw [T.irr] at this; cases this
    · exact q
  have hi : nL lt l l[j] < l.length := Nat.lt_of_le_of_lt hle hj
  rw [List.getElem?_eq_getElem hi]
  have h1 : lt l[nL lt l l[j]] l[j] = false := by
    cases q : lt l[nL lt l l[j]] l[j] with
    | false => rfl
    | true => exact absurd ((nL_iff T s l[j] _ hi).mpr q) (Nat.lt_irrefl _)
  rcases Nat.lt_or_ge (nL lt l l[j]) j with q | q
  · have h2 := (List.pairwise_iff_getElem.mp s) _ j hi hj q
    rw [T.tri _ _ h1 h2]
  · congr 1; congr 1; omega
theorem popL_perm (T : Lin lt) {x : α} {l : List α} (s : Asc lt l) (h : x ∈ l) : (x :: popL lt x l).Perm l := by
  have hg := popL_get T s h
  obtain ⟨hi, he⟩ := List.getElem?_eq_some_iff.mp hg
  unfold popL
  have h1 : l = l.take (nL lt l x) ++ l[nL lt l x] :: l.drop (nL lt l x + 1) := by
    rw [List.getElem_cons_drop hi, List.take_append_drop]
  rw [he] at h1
  have h2 : l.eraseIdx (nL lt l x) = l.take (nL lt l x) ++ l.drop (nL lt l x + 1) := List.eraseIdx_eq_take_drop_succ ..
  rw [h2]
  have := (List.perm_middle (a := x) (l₁ := l.take (nL lt l x)) (l₂ := l.drop (nL lt l x + 1))).symm
  exact this.trans (List.Perm.of_eq h1.symm)
theorem popL_asc {x : α} {l : List α} (s : Asc lt l) : Asc lt (popL lt x l) := s.sublist (List.eraseIdx_sublist ..)
/-- rows in order with the same things are one -/
theorem asc_uniq (T : Lin lt) : ∀ {a b : List α}, a.Perm b → Asc lt a → Asc lt b → a = b
  | [], b, p, _, _ => (List.perm_nil.mp p.symm).symm
  | x :: a, [], p, _, _ => absurd (List.perm_nil.mp p) (by simp)
  | x :: a, y :: b, p, sa, sb => by
    have sa' := List.pairwise_cons.mp sa
    have sb' := List.pairwise_cons.mp sb
    have e : x = y := by
      have hx : x ∈ y :: b := p.mem_iff.mp (List.mem_cons_self ..)
      have hy : y ∈ x :: a := p.mem_iff.mpr (List.mem_cons_self ..)
      rcases List.mem_cons.mp hx with q | q
      · exact q
      · rcases List.mem_cons.mp hy with r | r
        · exact r.symm
        · exact T.tri _ _ (sa'.1 y r |> fun z => by
            have h1 := sb'.1 x q; exact h1) (sa'.1 y r)
    subst e
    rw [asc_uniq T ((List.perm_cons x).mp p) sa'.2 sb'.2]
end
/-- between x and all longer words lies x with a tab behind it -/
theorem lt_tab : ∀ (y x : W), (∀ c ∈ y, 9 < c) → wlt y (x ++ [9]) = !(wlt x y)
  | [], [], _ => by decide
  | [], b :: x, _ => by simp [wlt]
  | a :: y, [], h => by
    have : 9 < a := h a (List.mem_cons_self ..)
    simp [wlt, List.cons_lt_cons_iff]; omega
  | a :: y, b :: x, h => by
    have ih := lt_tab y x fun c hc => h c (List.mem_cons_of_mem _ hc)
    simp only [wlt, List.cons_append, List.cons_lt_cons_iff] at ih ⊢
    by_cases e : a = b
    · subst e; simpa using ih
    · by_cases q : a < b
      · have : ¬ b < a := Nat.lt_asymm q
        simp [q, this, e, Ne.symm e]
      · have : b < a := by omega
        simp [q, this, e, Ne.symm e]
end Mine
end
section
open PySem PySem.W PyProof.Rows PySem.Calls
set_option Elab.async false
set_option maxRecDepth 100000
set_option linter.unusedVariables false
set_option linter.unusedSimpArgs false
namespace Mine
/-! ## what lies below b0, the things of T aside, stays -/
def KeptB (b0 : Addr) (T : List Addr) (h h' : Heap) : Prop := ∀ b o, b ∉ T → b < b0 → h.get? b = some o → h'.get? b = some o
theorem KeptB.of_kept {b0 : Addr} {T S : List Addr} {h h' : Heap} (k : Kept S h h') (hS : ∀ b ∈ S, b ∈ T ∨ b0 ≤ b) : KeptB b0 T h h' :=
  fun b o n lt e => k b o (fun m => (hS b m).elim n fun q => Nat.not_le.mpr lt q) e
theorem sb0' {α : Type} {P : α → Prop} : ∀ a ∈ ([] : List α), P a := fun _ h => nomatch h
theorem KeptB.trans {b0 : Addr} {T : List Addr} {a b c : Heap} (x : KeptB b0 T a b) (y : KeptB b0 T b c) : KeptB b0 T a c := fun i o n l e => y i o n l (x i o n l e)
theorem KeptB.live {n0 b0 : Addr} {h' h'' : Heap} {T : List Addr} (x : ∃ I o, b0 = I + 1 ∧ n0 ≤ I ∧ h'.get? I = some o) (k : KeptB b0 T h' h'') (hT : ∀ a ∈ T, a < n0) : b0 ≤ h''.objs.size := by
  obtain ⟨I, o, rfl, hI, e⟩ := x
  exact Heap.lt_size (k I o (fun m => absurd (hT I m) (Nat.not_lt.mpr hI)) (Nat.lt_succ_self I) e)
theorem live_b0 {n0 b0 : Addr} {h' : Heap} (x : ∃ I o, b0 = I + 1 ∧ n0 ≤ I ∧ h'.get? I = some o) : n0 < b0 := by
  obtain ⟨I, o, rfl, hI, e⟩ := x
  exact Nat.lt_succ_of_le hI
theorem LexC.keptX {w : World} {H h h' : Heap} {a : LexA} {text : List Nat} {S : List Addr} (C : LexC w H h a text) (k : Kept S h h') (hS : ∀ i ∈ a.all, i ∈ S → i ∈ a.mut) : LexC w H h' a text := by
  obtain ⟨n1, n2, n3, n4, n5, n6, n7⟩ := nd_ne C.nd
  have m : ∀ i, i ∈ a.all → i ∉ a.mut → i ∉ S := fun i hi hm hs => hm (hS i hi hs)
  refine ⟨k _ _ (m _ a.m_x n1) C.ix, k _ _ (m _ a.m_st n2) C.ist, ?_, ?_, CodeRec.kept C.cd k (m _ a.m_c n5), ?_, ?_, C.nd, C.fr, C.len⟩
  · obtain ⟨kvs, ⟨es, n, e, r⟩, g⟩ := C.sd
    exact ⟨kvs, ⟨es, n, k _ _ (m _ a.m_sd n3) e, r⟩, g⟩
  · obtain ⟨doc, pm, ctv, e⟩ := C.fn
    exact ⟨doc, pm, ctv, k _ _ (m _ a.m_f n4) e⟩
  · obtain ⟨t, o, ho, hd⟩ := C.ct
    exact ⟨t, o, k _ _ (m _ a.m_ct n6) ho, hd⟩
  · obtain ⟨o, ho, hd⟩ := C.cp
    exact ⟨o, k _ _ (m _ a.m_cp n7) ho, hd⟩
theorem Strs.drop {ys : List Value} {ts : List W} (x : Strs ys ts) (k : Nat) : Strs (ys.drop k) (ts.drop k) := by
  induction ys generalizing ts k with
  | nil => cases ts with | nil => simp; trivial | cons t ts => exact x.elim
  | cons y ys ih => cases ts with
    | nil => exact x.elim
    | cons t ts => cases k with | zero => exact x | succ k => exact ih x.2 k
theorem Strs.take {ys : List Value} {ts : List W} (x : Strs ys ts) (k : Nat) : Strs (ys.take k) (ts.take k) := by
  induction ys generalizing ts k with
  | nil => cases ts with | nil => simp; trivial | cons t ts => exact x.elim
  | cons y ys ih => cases ts with
    | nil => exact x.elim
    | cons t ts => cases k with | zero => exact trivial | succ k => exact ⟨x.1, ih x.2 k⟩
theorem Strs.eraseIdx {ys : List Value} {ts : List W} (x : Strs ys ts) (k : Nat) : Strs (ys.eraseIdx k) (ts.eraseIdx k) := by
  rw [List.eraseIdx_eq_take_drop_succ, List.eraseIdx_eq_take_drop_succ]; exact (x.take k).append (x.drop (k + 1))
section
variable {prog : Program} {w : World} {A : Around} {h : Heap} {env : Env}
/-- a loop: what its body makes it may change at later turns -/
theorem w_forB {target : Expr} {K : (Value → Heap → Prop) → Prop} {n : Nat} {P : Nat → Value → Heap → Prop} {old : List Addr} {body orelse : List Stmt} {Q : Flow → Heap → Prop}
    (it : Iter prog w A target K n P old h) (T : List Addr) (hT : ∀ b ∈ T, b < h.objs.size ∧ b ∉ old) (hold : ∀ b ∈ old, b < h.objs.size) (J : Addr → Nat → Heap → Prop)
    (hJ : ∀ b0 i h1 h2, J b0 i h1 → Off h.objs.size b0 h1 h2 → J b0 i h2) (j0 : ∀ b0, J b0 0 h)
    (turn : ∀ b0 i v h', i < n → (∃ I o, b0 = I + 1 ∧ h.objs.size ≤ I ∧ h'.get? I = some o) → P i v h' → J b0 i h' → Kept T h h' → Wp (model prog w) A (assign target env v) (fun _ h2 => Wp (model prog w) A (execs body env) (fun f h3 => f = .next ∧ KeptB b0 T h' h3 ∧ J b0 (i + 1) h3) h2) h')
    (done : ∀ b0 h', h.objs.size < b0 → J b0 n h' → Kept T h h' → Wp (model prog w) A (execs orelse env) Q h') :
    K (fun v h2 => Wf (model prog w) A target v body orelse env Q h2) := by
  refine it _ (fun I fp wr St h2 W st e hI0 hwr hfp => ?_)
  refine w_forLoop (fun k h' => ∃ i, k = n - i ∧ i ≤ n ∧ St i h' ∧ J (I + 1) i h' ∧ Kept T h h') n ⟨0, rfl, Nat.zero_le _, st, hJ _ _ _ _ (j0 _) (Off.of_ext e), Kept.of_ext e⟩ ?_
  rintro k h1 ⟨i, hk, hi, st1, j1, k1⟩
  have hoff : ∀ b ∈ wr, h.objs.size ≤ b ∧ b < I + 1 := fun b hb => ⟨hwr b hb, Nat.lt_succ_of_le (W.top b hb)⟩
  rcases Nat.lt_or_ge i n with lt | ge
  · refine (W.item i h1 (fun v h' => P i v h' ∧ St (i + 1) h' ∧ Kept wr h1 h') lt st1 (fun v h' p st' kk => ⟨p, st', kk⟩)).mono (fun r h1' y => ?_)
    obtain ⟨v, rfl, y⟩ := y
    refine y.mono (fun _ h3 z => ?_)
    obtain ⟨p, st3, kk⟩ := z
    have off := Off.of_kept kk hoff
    refine (turn (I + 1) i v h3 lt (let ⟨o, e⟩ := W.live _ _ st3; ⟨I, o, rfl, hI0, e⟩) p (hJ _ _ _ _ j1 off) (k1.of_off off rfl)).mono (fun _ h4 z => z.mono fun f h5 y => ?_)
    obtain ⟨rfl, k5, j5⟩ := y
    refine ⟨n - (i + 1), by lia, i + 1, rfl, lt, W.frame _ _ _ st3 (fun b hb o eo => ?_), j5, fun b o nb eb => k5 b o nb (Nat.lt_of_lt_of_le (Heap.lt_size eb) (Nat.le_succ_of_le hI0)) (k1.of_off off rfl b o nb eb)⟩
    rcases hfp b hb with q | q
    · exact k5 b o (fun hbT => (hT b hbT).2 q) (Nat.lt_of_lt_of_le (hold b q) (Nat.le_succ_of_le hI0)) eo
    · exact k5 b o (fun hbT => Nat.not_lt.mpr q.1 (hT b hbT).1) (Nat.lt_succ_of_le q.2) eo
  · have : i = n := Nat.le_antisymm hi ge
    subst this
    refine (W.done h1 (fun h' => Kept wr h1 h') st1 (fun h' kk => kk)).mono (fun r h' y => ?_)
    obtain ⟨rfl, kk⟩ := y
    have off := Off.of_kept kk hoff
    exact done (I + 1) h' (Nat.lt_succ_of_le hI0) (hJ _ _ _ _ j1 off) (k1.of_off off rfl)
theorem w_eqBool {a b : Bool} {Q : Value → Heap → Prop} (k : Q (.bool (a == b)) h) : Wp (model prog w) A (compareOp .Eq (.bool a) (.bool b)) Q h := fun s hs => by subst hs; exact eq_bool ⟨⟨rfl, rfl⟩, k⟩
theorem cmp_str1 {n : Nat} {x y : W} {t u : Tok} : CmpLt n prog w h (.str (S x) t) (.str (S y) u) (wlt x y) := fun A h' Q ok e k => w_ltStr (k h' (Ext.refl _))
end
section
variable {prog : Program} {w : World} {A : Around} {h H : Heap} {mg mb : Str → Option Value}
theorem getD_of {l : List W} {i : Nat} (h : i < l.length) : l.getD i [] = l[i] := by simp [List.getD_eq_getElem?_getD, h]
/-- searches in a row of words -/
theorem bl_strs {R : Addr} {rys : List Value} {rs : List W} {x : W} {tx t : Tok} {hiV : Value} {hi n : Nat} {pos : List Value} {kw : List (Str × Value)} {Q : Value → Heap → Prop} (G : G0 w mg mb h) (ok : OkA (n + 1) A) (lR : Ls h R rys) (sR : Strs rys rs) (asc : Asc wlt rs) (hz : rs.length ≤ 1000)
    (hb : ∀ S', peek (KH w) S' (bindArgs (fnAt w aBL) ⟨pos, kw⟩) = some [(nA, .ref R), (nX, .str (S x) tx), (nLo, .int 0 t), (nHi, hiV), (nKey, .none)]) (hhi : HiIs hiV hi rys.length) (h3 : hi ≤ rs.length)
    (k : ∀ h' t, Ext h h' → Q (.int (min (nL wlt rs x) hi : Nat) t) h') : Wp (model prog w) A (call (.ref aBL) pos kw) Q h := by
  have hl := sR.length
  refine bl_call (n := n) (ks := rys) (lo := 0) (hi := hi) (r := min (nL wlt rs x) hi) (less := fun i => wlt (rs.getD i []) x) G ok lR.isList (by lia) hb hhi (Nat.zero_le _) (Nat.min_le_right _ _) (by lia) (.inl ⟨rfl, rfl⟩) (fun i _ hi2 => ?_) (fun i hi1 hi2 => ?_) (fun i v e => ?_) k
  · have hil : i < rs.length := by lia
    show wlt (rs.getD i []) x = true
    rw [getD_of hil]; exact (nL_iff wlt_lin asc x i hil).mp (by lia)
  · have hil : i < rs.length := by lia
    show wlt (rs.getD i []) x = false
    rw [getD_of hil]
    cases q : wlt rs[i] x with
    | false => rfl
    | true => have := (nL_iff wlt_lin asc x i hil).mpr q; lia
  · obtain ⟨y, u, e1, rfl⟩ := sR.get' e
    have : rs.getD i [] = y := by simp [List.getD_eq_getElem?_getD, e1]
    show CmpLt _ _ _ _ _ _ (wlt (rs.getD i []) x)
    rw [this]; exact cmp_str1
theorem br_cut {rs : List W} (asc : Asc wlt rs) (x : W) {hi : Nat} (h3 : hi ≤ rs.length) : (∀ i, 0 ≤ i → i < min (nR wlt rs x) hi → wlt x (rs.getD i []) = false) ∧ ∀ i, min (nR wlt rs x) hi ≤ i → i < hi → wlt x (rs.getD i []) = true := by
  refine ⟨fun i _ hi2 => ?_, fun i hi1 hi2 => ?_⟩
  · have hil : i < rs.length := by lia
    rw [getD_of hil]; exact (nR_iff wlt_lin asc x i hil).mp (by lia)
  · have hil : i < rs.length := by lia
    rw [getD_of hil]
    cases q : wlt x rs[i] with
    | true => rfl
    | false => have := (nR_iff wlt_lin asc x i hil).mpr q; lia
theorem br_strs {R : Addr} {rys : List Value} {rs : List W} {x : W} {tx t : Tok} {hiV : Value} {hi n : Nat} {pos : List Value} {kw : List (Str × Value)} {Q : Value → Heap → Prop} (G : G0 w mg mb h) (ok : OkA (n + 1) A) (lR : Ls h R rys) (sR : Strs rys rs) (asc : Asc wlt rs) (hz : rs.length ≤ 1000)
    (hb : ∀ S', peek (KH w) S' (bindArgs (fnAt w aBR) ⟨pos, kw⟩) = some [(nA, .ref R), (nX, .str (S x) tx), (nLo, .int 0 t), (nHi, hiV), (nKey, .none)]) (hhi : HiIs hiV hi rys.length) (h3 : hi ≤ rs.length)
    (k : ∀ h' t, Ext h h' → Q (.int (min (nR wlt rs x) hi : Nat) t) h') : Wp (model prog w) A (call (.ref aBR) pos kw) Q h := by
  have hl := sR.length
  obtain ⟨c1, c2⟩ := br_cut asc x h3
  refine br_call (n := n) (ks := rys) (lo := 0) (hi := hi) (r := min (nR wlt rs x) hi) (less := fun i => wlt x (rs.getD i [])) G ok lR.isList (by lia) hb hhi (Nat.zero_le _) (Nat.min_le_right _ _) (by lia) (.inl ⟨rfl, rfl⟩) c1 c2 (fun i v e => ?_) k
  obtain ⟨y, u, e1, rfl⟩ := sR.get' e
  have : rs.getD i [] = y := by simp [List.getD_eq_getElem?_getD, e1]
  show CmpLt _ _ _ _ _ _ (wlt x (rs.getD i []))
  rw [this]; exact cmp_str1
theorem ir_strs {R : Addr} {rys : List Value} {rs : List W} {x : W} {tx t : Tok} {n : Nat} {pos : List Value} {kw : List (Str × Value)} {Q : Value → Heap → Prop} (G : G0 w mg mb h) (ok : OkA (n + 2) A) (lR : Ls h R rys) (sR : Strs rys rs) (asc : Asc wlt rs) (hz : rs.length ≤ 1000)
    (hb : ∀ S', peek (KH w) S' (bindArgs (fnAt w aIR) ⟨pos, kw⟩) = some [(nA, .ref R), (nX, .str (S x) tx), (nLo, .int 0 t), (nHi, .none), (nKey, .none)])
    (k : ∀ h' rys', Ls h' R rys' → Strs rys' (insR wlt x rs) → Heap.ExtBut R h h' → Q .none h') : Wp (model prog w) A (call (.ref aIR) pos kw) Q h := by
  have hl := sR.length
  obtain ⟨c1, c2⟩ := br_cut asc x (Nat.le_refl _)
  have hm : min (nR wlt rs x) rs.length = nR wlt rs x := Nat.min_eq_left (nR_le _ _)
  rw [hm] at c1 c2
  refine ir_call (n := n) (ks := rys) (kx := .str (S x) tx) (lo := 0) (hi := rs.length) (r := nR wlt rs x) (less := fun i => wlt x (rs.getD i [])) G ok lR (by rw [sizeLine_eq]; lia) hb (.inl ⟨rfl, hl.symm⟩) (Nat.zero_le _) (nR_le _ _) (by lia) (.inl ⟨rfl, rfl⟩) (.inl ⟨rfl, rfl⟩) c1 c2 (fun i v e => ?_) (fun h' l' k' => k h' _ l' ?_ k')
  · obtain ⟨y, u, e1, rfl⟩ := sR.get' e
    have : rs.getD i [] = y := by simp [List.getD_eq_getElem?_getD, e1]
    show CmpLt _ _ _ _ _ _ (wlt x (rs.getD i []))
    rw [this]; exact cmp_str1
  · exact (sR.take _).append ⟨⟨_, rfl⟩, sR.drop _⟩
end
end Mine
end
section
open PySem PySem.W PyProof.Rows PySem.Calls
set_option Elab.async false
set_option maxRecDepth 100000
set_option linter.unusedVariables false
set_option linter.unusedSimpArgs false
namespace Mine
abbrev aGr : Addr := 130
abbrev nRow : Str := Str.ofString "row"
abbrev nLast : Str := Str.ofString "last"
abbrev nLimit : Str := Str.ofString "limit"
abbrev nSide : Str := Str.ofString "side"
abbrev nHeld : Str := Str.ofString "held"
abbrev nOne : Str := Str.ofString "one"
abbrev nEach : Str := Str.ofString "each"
abbrev nUs : Str := Str.ofString "_"
section
variable {prog : Program} {w : World} {A : Around} {h H : Heap} {mg mb : Str → Option Value} {env : Env}
/-- an expression as a statement -/
theorem w_exprV {e : Expr} {pos : Pos} {Q : Flow → Heap → Prop} (x : Wp (model prog w) A (eval e env) (fun v h' => Q .next h') h)
    (hi : interactive env = false := by rfl) (hs : swapsWith e none pos.line env = pure false := by rfl) : Wp (model prog w) A (exec (.Expr e pos) env) Q h := by
  rw [exec_Expr env e pos hi hs]
  refine w_bind (w_standAt (w_bind (x.mono fun v h' y s hs => ?_)))
  subst hs
  exact wpAny_dropValue ⟨⟨rfl, rfl⟩, y⟩
/-- lexer.get_token(), a word being laid back -/
theorem w_popTok {n : Nat} {a : LexA} {text : List Nat} {p : Nat} {v : Value} {toks : List Value} {o : Expr} {apos pos : Pos} {Q : Value → Heap → Prop} (G : Gd w mg mb H h) (C : LexC w H h a text) (X : LexM h a text p (v :: toks)) (ok : OkA (n + 1) A) (hz : toks.length ≤ 1000000)
    (ho : ∀ Q' : Value → Heap → Prop, Q' (.ref a.x) h → Wp (model prog w) A (eval o env) Q' h)
    (k : ∀ h', LexM h' a text p toks → Kept [a.pb] h h' → Q v h')
    (hbase : attributeBase o nGT env (eval o env) = eval o env := by rfl) (hline : (apos.endLine == pos.line) = true := by rfl) :
    Wp (model prog w) A (eval (.Call (.Attribute o nGT apos) [] [] pos) env) Q h := by
  obtain ⟨t1, t2, d⟩ := X.d
  refine w_mcall (ho _ ?_) hbase rfl hline
  refine w_method G.now.K C.ix d (pgC w _) (fiGT w) (fnGT w) rfl ?_
  exact w_args0 (kpFn aGT G.now (by kernel_rfl) (by kernel_rfl)) (w_call (gt_pop G ok C X hz k))
/-- lexer.push_token(e) -/
theorem w_pushTok {n : Nat} {a : LexA} {text : List Nat} {p : Nat} {toks : List Value} {o e : Expr} {apos pos : Pos} {Q : Value → Heap → Prop} (he : starEach [e] env = [(false, eval e env)]) (G : Gd w mg mb H h) (C : LexC w H h a text) (X : LexM h a text p toks) (ok : OkA (n + 1) A)
    (ho : ∀ Q' : Value → Heap → Prop, Q' (.ref a.x) h → Wp (model prog w) A (eval o env) Q' h)
    (x : Wp (model prog w) A (eval e env) (fun v h₁ => ∃ p' toks', Gd w mg mb H h₁ ∧ LexC w H h₁ a text ∧ LexM h₁ a text p' toks' ∧ toks'.length ≤ 1000000 ∧ ∀ h', LexM h' a text p' (toks' ++ [v]) → Kept [a.pb] h₁ h' → Q .none h') h)
    (hbase : attributeBase o nPT env (eval o env) = eval o env := by rfl) (hline : (apos.endLine == pos.line) = true := by rfl) :
    Wp (model prog w) A (eval (.Call (.Attribute o nPT apos) [e] [] pos) env) Q h := by
  obtain ⟨t1, t2, d⟩ := X.d
  refine w_mcall (ho _ ?_) hbase (by rw [he]; rfl) hline
  refine w_method G.now.K C.ix d (pgC w _) (fiPT w) (fnPT w) rfl ?_
  refine w_args (w_arg (x.mono fun v h1 y => ?_) he) rfl he
  obtain ⟨p', toks', G1, C1, X1, hz, k⟩ := y
  exact w_arg0 (w_kw0 ⟨kpFn aPT G1.now (by kernel_rfl) (by kernel_rfl), w_call (pt_call G1 ok C1 X1 hz k)⟩)
/-- for each in l: lexer.push_token(each) -/
theorem w_pushAll {n : Nat} {base : Heap} {L l : Addr} {m : Str → Option Value} {a : LexA} {text : List Nat} {p : Nat} {toks items : List Value} {o : Expr} {ep ep2 apos pos pos2 : Pos} {y : Str} {Q : Flow → Heap → Prop} (F : Fr base L h m)
    (ctx : ∀ h' m', Fr base L h' m' → Gd w mg mb H h' ∧ LexC w H h' a text) (X : LexM h a text p toks) (ok : OkA (n + 1) A) (hl : Ls h l items) (hz : toks.length + items.length ≤ 1000000) (hzl : items.length ≤ 1000000)
    (hpb : base.get? a.pb = none) (hne : a.pb ≠ L ∧ a.d ≠ L ∧ a.pl ≠ L ∧ l ≠ L ∧ l ≠ a.pb)
    (ho : ∀ h' m' (Q' : Value → Heap → Prop), Fr base L h' m' → (∀ z, z ≠ y → m' z = m z) → Q' (.ref a.x) h' → Wp (model prog w) A (eval o env) Q' h')
    (k : ∀ h' m', Fr base L h' m' → (∀ z, z ≠ y → m' z = m z) → LexM h' a text p (toks ++ items) → Kept [L, a.pb] h h' → Q .next h')
    (hL : env.locals = L) (hly : env.kindOf y = some .local) (hlk : env.scope.kind = .function) (hyd : (y == ("__debug__" : Str)) = false) (hp : (env.scope.kind == .class || (env.scope.kind == .module && env.locals != env.globals)) = false)
    (hbase : attributeBase o nPT env (eval o env) = eval o env) (hline : (apos.endLine == pos.line) = true) (hi : interactive env = false) (hs : swapsWith (.Call (.Attribute o nPT apos) [.Name y ep2] [] pos) none pos2.line env = pure false) (hst : starEach [.Name y ep2] env = [(false, eval (.Name y ep2) env)]) :
    Wp (model prog w) A (pyIter (.ref l)) (fun v h2 => Wf (model prog w) A (.Name y ep) v [.Expr (.Call (.Attribute o nPT apos) [.Name y ep2] [] pos) pos2] [] env Q h2) h := by
  obtain ⟨ld, lb, ll⟩ := X.lt
  have hLt : L < h.objs.size := F.ns.lt
  refine w_forI (iterList (.inl rfl) ok.3 hl.isList) [L, a.pb] (fun b hb => ?_)
    (fun b0 i h' => ∃ m', Fr base L h' m' ∧ (∀ z, z ≠ y → m' z = m z) ∧ LexM h' a text p (toks ++ items.take i))
    (fun b0 i h1 h2 ⟨m', F', e, X'⟩ off => ⟨m', frOff F' off hLt, e, X'.off off ld lb ll⟩) (fun b0 => ⟨m, F, fun _ _ => rfl, by simpa using X⟩) (fun b0 i v h5 hi' hlv hv hJ k5 => ?_) (fun b0 h5 hJ k5 => ?_)
  · simp only [List.mem_cons, List.not_mem_nil, or_false] at hb
    rcases hb with rfl | rfl
    · exact ⟨hLt, nmc hne.2.2.2.1.symm nm0⟩
    · exact ⟨lb, nmc hne.2.2.2.2.symm nm0⟩
  · obtain ⟨m5, F5, e5, X5⟩ := hJ
    refine w_asgName ?_
    refine w_stS F5 (fun h6 F6 sb6 => ?_) hL hly hp
    have X6 := X5.same sb6 hne.2.1 hne.1 hne.2.2.1
    have o6 : ∀ z, z ≠ y → (if z = y then some v else m5 z) = m z := fun z hz => by rw [if_neg hz]; exact e5 z hz
    obtain ⟨G6, C6⟩ := ctx _ _ F6
    refine w_cons ?_
    refine w_expr ?_ hi hs
    refine w_pushTok hst G6 C6 X6 ok (fun Q' q => ho _ _ Q' F6 o6 q) ?_ hbase hline
    refine w_nm (hL ▸ F6.ns) (if_pos rfl) ?_ hlk hly hyd
    refine ⟨p, _, G6, C6, X6, ?_, fun h7 X7 k7 => ⟨fun a e => (by cases e), w_nil ?_⟩⟩
    · rw [List.length_append, List.length_take]; lia
    have F7 := frKept F6 k7 (List.forall_mem_singleton.mpr hpb) (nmc hne.1.symm nm0)
    refine ⟨(Kept.of_same sb6 im1).trans (k7.mono (sb1 im2)), _, F7, o6, ?_⟩
    rw [List.take_add_one, hv, ← List.append_assoc]
    exact X7
  · obtain ⟨m5, F5, e5, X5⟩ := hJ
    rw [List.take_length] at X5
    exact w_nil (k h5 m5 F5 e5 X5 k5)
end
end Mine
end
section
open PySem PySem.W PyProof.Rows PySem.Calls
set_option Elab.async false
set_option maxRecDepth 100000
set_option linter.unusedVariables false
set_option linter.unusedSimpArgs false
namespace Mine
section
variable {prog : Program} {w : World} {A : Around} {h H : Heap} {mg mb : Str → Option Value}
theorem side_eq {rs : List W} (asc : Asc wlt rs) (x : W) {one : W} (ho : one ∈ rs) : (((min (nL wlt rs one) (nR wlt rs x) : Nat) : Int) == ((nR wlt rs x : Nat) : Int)) = wlt x one := by
  have := side_iff wlt_lin asc x ho
  rw [Bool.eq_iff_iff, beq_iff_eq, ← this]; lia
theorem fgo_take {lt : W → W → Bool} (x : W) (s : Bool) (ws : List W) {i : Nat} {one : W} (h : ws[i]? = some one) : fgo lt x s (ws.take (i + 1)) = fstep lt x s (fgo lt x s (ws.take i)) one := by
  rw [List.take_add_one, h]; exact fgo_snoc _ _ _ _
theorem fgo_len {lt : W → W → Bool} (x : W) (s : Bool) (ws : List W) (i : Nat) : (fgo lt x s (ws.take i)).1.length ≤ ws.length ∧ (fgo lt x s (ws.take i)).2.length ≤ ws.length := by
  have h := (fgo_perm (lt := lt) x s (ws.take i)).length_eq
  rw [List.length_append, List.length_take] at h
  have : min i ws.length ≤ ws.length := Nat.min_le_right _ _
  omega
theorem drop_cons {α : Type} {l : List α} {i : Nat} {v : α} (h : l[i]? = some v) : l.drop i = v :: l.drop (i + 1) := by
  obtain ⟨hi, rfl⟩ := List.getElem?_eq_some_iff.mp h
  exact List.drop_eq_getElem_cons hi
set_option maxHeartbeats 4000000 in
theorem gr_call {a : LexA} {text : List Nat} {p n : Nat} {toks rys : List Value} {ws rs : List W} {x l : W} {tx tl : Tok} {R : Addr} {Q : Value → Heap → Prop} (G : Gd w mg mb H h) (ok : OkA (n + 4) A) (C : LexC w H h a text) (X : LexM h a text p toks) (sT : Strs toks ws)
    (lR : Ls h R rys) (sR : Strs rys rs) (asc : Asc wlt rs) (pm : rs.Perm ws) (hlast : ∀ z ∈ ws.getLast?, z = l) (hRa : R ∉ a.all) (hRH : H.get? R = none) (hz : ws.length ≤ 20)
    (k : ∀ h' toks' rys', LexM h' a text p toks' → Strs toks' (fline wlt x ws) → Ls h' R rys' → Strs rys' (insR wlt x rs) → Kept [a.pb, R] h h' → Q .none h') :
    Wc (model prog w) A (.call (.ref aGr) ⟨[.ref a.x, .ref R, .str (S x) tx, .str (S l) tl], []⟩) Q h := by
  refine c_callK (n := n + 3) (binds := [(nLexer, .ref a.x), (nRow, .ref R), (nWord, .str (S x) tx), (nLast, .str (S l) tl)]) G.now ok (by kernel_rfl) (by kernel_rfl) (by kernel_rfl) (by kernel_rfl) (fun _ => by kernel_rfl) (by kernel_rfl) (by kernel_rfl) (fun L h₁ F ok' => ?_)
  have hlen := sT.length
  have hrl := sR.length
  have pml := pm.length_eq
  obtain ⟨ld, lb, ll⟩ := X.lt
  have hRl : R < h.objs.size := lR.lt
  have hle : h.objs.size ≤ L := F.above
  have hRx : ∀ {i : Addr}, i ∈ a.all → R ≠ i := fun hi q => hRa (q ▸ hi)
  have hSH : ∀ i ∈ [a.pb, R], H.get? i = none := List.forall_mem_cons.mpr ⟨C.fr _ a.m_pb, List.forall_mem_singleton.mpr hRH⟩
  have hmut : ∀ i ∈ a.all, i ∈ [a.pb, R] → i ∈ a.mut := fun i hi hs => by
    cases hs with
    | head => exact im2
    | tail _ hs => cases hs with
      | head => exact absurd hi hRa
      | tail _ q => cases q
  have ctx : ∀ h' m', Fr (hideAll h [a.pb, R]) L h' m' → Gd w mg mb H h' ∧ LexC w H h' a text := fun h' m' F' => ⟨(G.hid hSH).ext F'.keep, C.keptX (Kept.of_fr F') hmut⟩
  have F1 := frHid F [a.pb, R]
  have bpb : (hideAll h [a.pb, R]).get? a.pb = none := hideAll_none _ im1
  have bR : (hideAll h [a.pb, R]).get? R = none := hideAll_none _ im2
  have bnew : ∀ {i : Addr}, h.objs.size ≤ i → (hideAll h [a.pb, R]).get? i = none := fun hi => get_none (by rw [hideAll_size]; exact hi)
  have hbL : a.pb ≠ L := Nat.ne_of_lt (Nat.lt_of_lt_of_le lb hle)
  have hdL : a.d ≠ L := Nat.ne_of_lt (Nat.lt_of_lt_of_le ld hle)
  have hlL : a.pl ≠ L := Nat.ne_of_lt (Nat.lt_of_lt_of_le ll hle)
  have hRL : R ≠ L := Nat.ne_of_lt (Nat.lt_of_lt_of_le hRl hle)
  generalize hsd : (ws.getLast?.map (wlt x)).getD true = sd
  have lR1 := lR.ext F.keep
  have X1 := X.ext F.keep
  -- limit, side
  refine w_cons ?_
  refine w_asg ?_
  refine w_callN ?_
  refine w_gK (ctx _ _ F1).1.now (v := .ref aBR) (by kernel_rfl) ?_
  refine w_args ?_
  refine w_arg ?_
  refine w_nm F1.ns rfl ?_
  refine w_arg ?_
  refine w_nm F1.ns rfl ?_
  refine w_arg0 ?_
  refine w_kw0 ⟨kpFn aBR (ctx _ _ F1).1.now (by kernel_rfl) (by kernel_rfl), ?_⟩
  refine br_strs (n := n + 2) (hi := rs.length) (ctx _ _ F1).1.now ok' lR1 sR asc (by lia) (br_b2 w _ _) (.inl ⟨rfl, hrl.symm⟩) (Nat.le_refl _) (fun h2 t2 e2 => ?_)
  rw [Nat.min_eq_left (nR_le _ _)]
  refine w_stS (F1.kept e2) fun h3 F3 sb3 => ?_
  have lR3 := (lR1.ext e2).same sb3 hRL
  have X3 := (X1.ext e2).same sb3 hdL hbL hlL
  refine w_cons ?_
  refine w_asg ?_
  refine w_cmp ?_
  refine w_callN ?_
  refine w_gK (ctx _ _ F3).1.now (v := .ref aBL) (by kernel_rfl) ?_
  refine w_args ?_
  refine w_arg ?_
  refine w_nm F3.ns rfl ?_
  refine w_arg ?_
  refine w_nm F3.ns rfl ?_
  refine w_arg ?_
  refine w_cInt fun _ => ?_
  refine w_arg ?_
  refine w_nm F3.ns rfl ?_
  refine w_arg0 ?_
  refine w_kw0 ⟨kpFn aBL (ctx _ _ F3).1.now (by kernel_rfl) (by kernel_rfl), ?_⟩
  refine bl_strs (n := n + 2) (hi := nR wlt rs x) (ctx _ _ F3).1.now ok' lR3 sR asc (by lia) (bl_b4 w _ _ _ _) (.inr ⟨_, rfl⟩) (nR_le _ _) (fun h4 t4 e4 => ?_)
  have F4 := F3.kept e4
  refine w_nm F4.ns rfl ?_
  refine w_eqInt ?_
  have hs1 : (((min (nL wlt rs l) (nR wlt rs x) : Nat) : Int) == ((nR wlt rs x : Nat) : Int)) = sd := by
    cases hq : ws.getLast? with
    | none =>
      have hw : ws = [] := by simpa using hq
      have hr : rs = [] := by rw [hw] at pm; exact List.perm_nil.mp pm
      rw [← hsd, hw, hr]; rfl
    | some z =>
      have hzl := hlast z (by rw [hq]; rfl)
      subst hzl
      rw [← hsd, hq]
      exact side_eq asc x (pm.mem_iff.mpr (List.mem_of_getLast? hq))
  rw [hs1]
  refine w_stS F4 fun h5 F5 sb5 => ?_
  have lR5 := (lR3.ext e4).same sb5 hRL
  have X5 := (X3.ext e4).same sb5 hdL hbL hlL
  -- held = []
  refine w_cons ?_
  refine w_asg ?_
  refine w_list ?_
  refine w_arg0 ⟨Nat.zero_le _, fun h6 hl ehl e6 l6 z6 => ?_⟩
  have hLl : L < hl := by rw [ehl]; exact F5.ns.lt
  refine w_stS (F5.kept e6) fun h7 F7 sb7 => ?_
  have hlL' : hl ≠ L := Nat.ne_of_gt hLl
  have l7 := l6.same sb7 hlL'
  have lR7 := (lR5.ext e6).same sb7 hRL
  have X7 := (X5.ext e6).same sb7 hdL hbL hlL
  refine w_cons ?_
  refine w_for ?_
  refine w_callN ?_
  refine w_gB (v := .type "range") (ctx _ _ F7).1.now (by kernel_rfl) (by kernel_rfl) (by decide) ?_
  refine w_args ?_
  refine w_arg ?_
  refine w_callN ?_
  refine w_gB (v := .builtin "len") (ctx _ _ F7).1.now (by kernel_rfl) (by kernel_rfl) (by decide) ?_
  refine w_args ?_
  refine w_arg ?_
  refine w_nm F7.ns rfl ?_
  refine w_arg0 ?_
  refine w_kw0 ⟨Kp.builtin _, ?_⟩
  refine w_lenList lR7.isList (by simp; lia) fun tn => ?_
  rw [show (rys.toArray.size : Int) = ((ws.length : Nat) : Int) by simp; lia]
  refine w_arg0 ?_
  refine w_kw0 ⟨Kp.type _, ?_⟩
  refine w_range fun h8 r t1 t2' t3 hr e8 z8 ir => ?_
  have F8 := F7.kept e8
  have l8 := l7.ext e8
  have lR8 := lR7.ext e8
  have X8 := X7.ext e8
  obtain ⟨ld8, lb8, ll8⟩ := X8.lt
  have L8 : L < h8.objs.size := F8.ns.lt
  have hbl : a.pb ≠ hl := Nat.ne_of_lt (Nat.lt_of_lt_of_le lb (Nat.le_trans hle (Nat.le_of_lt hLl)))
  have hdl : a.d ≠ hl := Nat.ne_of_lt (Nat.lt_of_lt_of_le ld (Nat.le_trans hle (Nat.le_of_lt hLl)))
  have hpll : a.pl ≠ hl := Nat.ne_of_lt (Nat.lt_of_lt_of_le ll (Nat.le_trans hle (Nat.le_of_lt hLl)))
  have hRhl : R ≠ hl := Nat.ne_of_lt (Nat.lt_of_lt_of_le hRl (Nat.le_trans hle (Nat.le_of_lt hLl)))
  generalize hm8 : (fun y => if y = nHeld then some (Value.ref hl) else if y = nSide then some (Value.bool sd) else if y = nLimit then some (Value.int (nR wlt rs x : Nat) t2) else ([(nLexer, Value.ref a.x), (nRow, .ref R), (nWord, .str (S x) tx), (nLast, .str (S l) tl)] : List (Str × Value)).reverse.lookup y) = m8 at F8
  have m8x : m8 nLexer = some (.ref a.x) := by rw [← hm8]; rfl
  have m8r : m8 nRow = some (.ref R) := by rw [← hm8]; rfl
  have m8w : m8 nWord = some (.str (S x) tx) := by rw [← hm8]; rfl
  have m8l : m8 nLimit = some (.int (nR wlt rs x : Nat) t2) := by rw [← hm8]; rfl
  have m8s : m8 nSide = some (.bool sd) := by rw [← hm8]; rfl
  have m8h : m8 nHeld = some (.ref hl) := by rw [← hm8]; rfl
  refine w_forB (iterRange0 rfl ok'.3 ir (by lia)) [L, a.pb, hl] (fun b hb => ?_) (fun b hb => (nomatch hb))
    (fun b0 i h' => ∃ m' HL hys oys, Fr (hideAll h [a.pb, R]) L h' m' ∧ (∀ z, z ∉ [nHeld, nOne, nEach, nUs] → m' z = m8 z) ∧ m' nHeld = some (.ref HL) ∧ (HL = hl ∨ b0 ≤ HL) ∧ Ls h' HL hys ∧ LexM h' a text p (toks.drop i ++ oys) ∧
      Strs oys (fgo wlt x sd (ws.take i)).1 ∧ Strs hys (fgo wlt x sd (ws.take i)).2)
    (fun b0 i h1 h2 ⟨m', HL, hys, oys, F', e1, e2, b, l, X', s1, s2⟩ off => ⟨m', HL, hys, oys, frOff F' off L8, e1, e2, b, l.off off (b.imp (fun q => by rw [q]; exact l8.lt) id), X'.off off ld8 lb8 ll8, s1, s2⟩)
    (fun b0 => ⟨m8, hl, [], [], F8, fun _ _ => rfl, m8h, .inl rfl, l8, by simpa using X8, trivial, trivial⟩) (fun b0 i v h9 hi hlv hP hJ k9 => ?_) (fun b0 h9 hb0 hJ k9 => ?_)
  · simp only [List.mem_cons, List.not_mem_nil, or_false] at hb
    rcases hb with rfl | rfl | rfl
    · exact ⟨L8, nm0⟩
    · exact ⟨lb8, nm0⟩
    · exact ⟨l8.lt, nm0⟩
  · obtain ⟨tv, rfl⟩ := hP
    have hb1 := live_b0 hlv
    have hTl : ∀ b ∈ [L, a.pb, hl], b < h8.objs.size := List.forall_mem_cons.mpr ⟨L8, List.forall_mem_cons.mpr ⟨lb8, List.forall_mem_singleton.mpr l8.lt⟩⟩
    obtain ⟨m9, HL, hys, oys, F9, e9, m9h, hHL, l9, X9, s1, s2⟩ := hJ
    have lR9 := lsKept lR8 k9 (nmc hRL (nmc (hRx a.m_pb) (nmc hRhl nm0)))
    have hHLL : HL ≠ L := hHL.elim (fun q => q ▸ hlL') fun q => Nat.ne_of_gt (Nat.lt_of_lt_of_le (Nat.lt_trans L8 hb1) q)
    have hHLb : ∀ {c : Addr}, c < h.objs.size → HL ≠ c := fun hc => Nat.ne_of_gt (Nat.lt_of_lt_of_le hc (hHL.elim (fun q => q ▸ Nat.le_trans hle (Nat.le_of_lt hLl)) fun q => Nat.le_trans (Nat.le_trans hle (Nat.le_of_lt L8)) (Nat.le_trans (Nat.le_of_lt hb1) q)))
    have hHLn : h.objs.size ≤ HL := hHL.elim (fun q => q ▸ Nat.le_trans hle (Nat.le_of_lt hLl)) fun q => Nat.le_trans (Nat.le_trans hle (Nat.le_of_lt L8)) (Nat.le_trans (Nat.le_of_lt hb1) q)
    obtain ⟨one, ho⟩ : ∃ one, ws[i]? = some one := ⟨_, List.getElem?_eq_getElem hi⟩
    obtain ⟨tk, htk⟩ := sT.get ho
    rw [drop_cons htk] at X9
    refine w_asgName ?_
    refine w_stS F9 fun h10 F10 sb10 => ?_
    have X10 : LexM h10 a text p (.str (S one) tk :: (toks.drop (i + 1) ++ oys)) := X9.same sb10 hdL hbL hlL
    have l10 := l9.same sb10 hHLL
    have lR10 := lR9.same sb10 hRL
    have o10 : ∀ z, z ∉ [nHeld, nOne, nEach, nUs] → (if z = nUs then some (Value.int (i : Nat) tv) else m9 z) = m8 z := fun z hz => by
      rw [if_neg (fun q => hz (by rw [q]; simp))]; exact e9 z hz
    have oyl : oys.length ≤ 20 := by rw [s1.length]; exact Nat.le_trans (fgo_len x sd ws i).1 hz
    have hyl : hys.length ≤ 20 := by rw [s2.length]; exact Nat.le_trans (fgo_len x sd ws i).2 hz
    refine w_cons ?_
    refine w_asg ?_
    obtain ⟨G10, C10⟩ := ctx _ _ F10
    refine w_popTok (n := n + 2) G10 C10 X10 ok' (by rw [List.length_append, List.length_drop]; exact Nat.le_trans (Nat.add_le_add (Nat.le_trans (Nat.sub_le _ _) (hlen ▸ hz)) oyl) (by decide)) (fun Q' q => w_nm F10.ns ((o10 nLexer (by decide)).trans m8x) q) (fun h11 X11 k11 => ?_)
    have F11 := frKept F10 k11 (List.forall_mem_singleton.mpr bpb) (nmc hbL.symm nm0)
    have l11 := lsKept l10 k11 (nmc (hHLb lb) nm0)
    have lR11 := lsKept lR10 k11 (nmc (hRx a.m_pb) nm0)
    refine w_stS F11 fun h12 F12 sb12 => ?_
    have X12 := X11.same sb12 hdL hbL hlL
    have l12 := l11.same sb12 hHLL
    have lR12 := lR11.same sb12 hRL
    generalize hm12 : (fun y => if y = nOne then some (Value.str (S one) tk) else if y = nUs then some (Value.int (i : Nat) tv) else m9 y) = m12 at F12
    have o12 : ∀ z, z ∉ [nHeld, nOne, nEach, nUs] → m12 z = m8 z := fun z hz => by
      rw [← hm12]; show (if z = nOne then _ else if z = nUs then _ else m9 z) = _
      rw [if_neg (fun q => hz (by rw [q]; simp))]; exact o10 z hz
    have m12o : m12 nOne = some (.str (S one) tk) := by rw [← hm12]; rfl
    have m12h : m12 nHeld = some (.ref HL) := by rw [← hm12]; exact m9h
    have kB12 : KeptB b0 [L, a.pb, hl] h9 h12 := ((KeptB.of_kept (Kept.of_same (S := [L]) sb10 im1) (fun b hb => .inl (by rw [List.mem_singleton.mp hb]; exact im1))).trans (KeptB.of_kept k11 (fun b hb => .inl (by rw [List.mem_singleton.mp hb]; exact im2)))).trans
      (KeptB.of_kept (Kept.of_same (S := [L]) sb12 im1) (fun b hb => .inl (by rw [List.mem_singleton.mp hb]; exact im1)))
    have hz12 := kB12.live hlv hTl
    refine w_cons ?_
    refine w_if_ ?_
    refine w_tCmp ?_
    refine w_cmp ?_
    refine w_callN ?_
    refine w_gK (ctx _ _ F12).1.now (v := .ref aBL) (by kernel_rfl) ?_
    refine w_args ?_
    refine w_arg ?_
    refine w_nm F12.ns ((o12 nRow (by decide)).trans m8r) ?_
    refine w_arg ?_
    refine w_nm F12.ns m12o ?_
    refine w_arg ?_
    refine w_cInt fun _ => ?_
    refine w_arg ?_
    refine w_nm F12.ns ((o12 nLimit (by decide)).trans m8l) ?_
    refine w_arg0 ?_
    refine w_kw0 ⟨kpFn aBL (ctx _ _ F12).1.now (by kernel_rfl) (by kernel_rfl), ?_⟩
    refine bl_strs (n := n + 2) (hi := nR wlt rs x) (ctx _ _ F12).1.now ok' lR12 sR asc (by lia) (bl_b4 w _ _ _ _) (.inr ⟨_, rfl⟩) (nR_le _ _) (fun h13 t13 e13 => ?_)
    have F13 := F12.kept e13
    refine w_nm F13.ns ((o12 nLimit (by decide)).trans m8l) ?_
    refine w_eqInt ?_
    rw [side_eq asc x (pm.mem_iff.mpr (List.mem_of_getElem? ho))]
    refine w_nm F13.ns ((o12 nSide (by decide)).trans m8s) ?_
    refine w_eqBool ?_
    have l13 := l12.ext e13
    have X13 := X12.ext e13
    have kB13 := kB12.trans (KeptB.of_kept (Kept.of_ext (S := []) e13) sb0')
    have efg := fgo_take (lt := wlt) x sd ws ho
    refine w_tBool ⟨fun e => ?_, fun e => ?_⟩
    · have efg1 : fgo wlt x sd (ws.take (i + 1)) = ((fgo wlt x sd (ws.take i)).1 ++ (one :: (fgo wlt x sd (ws.take i)).2), []) := by
        rw [efg]; unfold fstep; rw [if_pos e]
      refine w_cons ?_
      refine w_for ?_
      refine w_binOp ?_
      refine w_list ?_
      refine w_arg ?_
      refine w_nm F13.ns m12o ?_
      refine w_arg0 ⟨by simp [sizeLine_eq], fun h14 ol eol e14 l14 z14 => ?_⟩
      have F14 := F13.kept e14
      refine w_nm F14.ns m12h ?_
      refine w_addList l14 (l13.ext e14) (by rw [sizeLine_eq]; simp; lia) (fun h15 e15 l15 z15 => ?_)
      have F15 := F14.kept e15
      have X15 := (X13.ext e14).ext e15
      have hE : h.objs.size ≤ h14.objs.size := Nat.le_trans hle (Nat.le_of_lt F14.ns.lt)
      refine w_pushAll (n := n + 2) F15 ctx X15 ok' l15 ?_ ?_ bpb ⟨hbL, hdL, hlL, Nat.ne_of_gt F14.ns.lt, Nat.ne_of_gt (Nat.lt_of_lt_of_le lb hE)⟩
        (fun h' m' Q' F' e' q => w_nm F'.ns ((e' nLexer (by decide)).trans ((o12 nLexer (by decide)).trans m8x)) q) (fun h16 m16 F16 e16 X16 k16 => ?_) rfl rfl rfl (by decide) rfl rfl rfl rfl rfl rfl
      · simp; lia
      · simp; lia
      refine w_cons ?_
      refine w_asg ?_
      refine w_list ?_
      refine w_arg0 ⟨Nat.zero_le _, fun h17 hl2 ehl2 e17 l17 z17 => ?_⟩
      have kB16 := (kB13.trans (KeptB.of_kept (Kept.of_ext (S := []) (e14.trans e15)) sb0')).trans (KeptB.of_kept k16 (fun b hb => .inl (by
          cases hb with
          | head => exact im1
          | tail _ hb => cases hb with
            | head => exact im2
            | tail _ q => cases q)))
      have hz16 := kB16.live hlv hTl
      refine w_stS (F16.kept e17) fun h18 F18 sb18 => w_nil (w_nil ⟨rfl, ?_, _, hl2, [], oys ++ ([.str (S one) tk] ++ hys), F18, fun z hz => ?_, rfl, .inr ?_, l17.same sb18 ?_, ?_, ?_, ?_⟩)
      · exact kB16.trans ((KeptB.of_kept (Kept.of_ext (S := []) e17) sb0').trans (KeptB.of_kept (Kept.of_same (S := [L]) sb18 im1) (fun b hb => .inl (by rw [List.mem_singleton.mp hb]; exact im1))))
      · show (if z = nHeld then _ else m16 z) = _
        rw [if_neg (fun q => hz (by rw [q]; simp)), e16 z (fun q => hz (by rw [q]; simp))]
        exact o12 z hz
      · rw [ehl2]; exact hz16
      · rw [ehl2]; exact Nat.ne_of_gt F16.ns.lt
      · have := ((X16.ext e17).same sb18 hdL hbL hlL)
        rw [List.append_assoc] at this
        exact this
      · rw [efg1]; exact s1.append ⟨⟨_, rfl⟩, s2⟩
      · rw [efg1]; trivial
    · have efg0 : fgo wlt x sd (ws.take (i + 1)) = ((fgo wlt x sd (ws.take i)).1, (fgo wlt x sd (ws.take i)).2 ++ [one]) := by
        rw [efg]; unfold fstep; rw [if_neg (by rw [e]; decide)]
      refine w_cons ?_
      refine w_expr ?_
      refine w_meth PySem.F.plainAttrs_list PySem.F.slot_list_append PySem.F.type_list_append ?_
      refine w_nm F13.ns m12h ⟨l13.ty, ?_, ?_⟩
      · intro b e; injection e with e; subst e; obtain ⟨nn, e⟩ := l13; exact ⟨_, e, rfl⟩
      refine w_args ?_
      refine w_arg ?_
      refine w_nm F13.ns m12o ?_
      refine w_arg0 ?_
      refine w_kw0 ⟨Kp.builtin _, ?_⟩
      refine w_append l13 (by rw [sizeLine_eq]; exact Nat.le_trans hyl (by decide)) (fun h14 l14 sb14 => ⟨fun a e => (by cases e), w_nil (w_nil ⟨rfl, ?_, _, HL, _, oys, frChg F13 sb14 hHLL (bnew hHLn), o12, m12h, hHL, l14, ?_, ?_, ?_⟩)⟩)
      · exact kB13.trans (KeptB.of_kept (Kept.of_same (S := [HL]) sb14 im1) (fun b hb => by rw [List.mem_singleton.mp hb]; exact hHL.imp (fun q => by rw [q]; exact im3) id))
      · exact X13.same sb14 (hHLb ld).symm (hHLb lb).symm (hHLb ll).symm
      · rw [efg0]; exact s1
      · rw [efg0]; exact s2.append ⟨⟨_, rfl⟩, trivial⟩
  · obtain ⟨m9, HL, hys, oys, F9, e9, m9h, hHL, l9, X9, s1, s2⟩ := hJ
    have lR9 := lsKept lR8 k9 (nmc hRL (nmc (hRx a.m_pb) (nmc hRhl nm0)))
    rw [List.take_length] at s1
    have e0 : toks.drop ws.length = [] := by rw [← hlen]; exact List.drop_length
    rw [e0, List.nil_append] at X9
    obtain ⟨G9, C9⟩ := ctx _ _ F9
    have oyl : oys.length ≤ 20 := by
      have := (fgo_len (lt := wlt) x sd ws ws.length).1
      rw [List.take_length] at this
      rw [s1.length]; exact Nat.le_trans this hz
    refine w_nil ?_
    refine w_cons ?_
    refine w_expr ?_
    refine w_pushTok (n := n + 2) rfl G9 C9 X9 ok' (fun Q' q => w_nm F9.ns ((e9 nLexer (by decide)).trans m8x) q) ?_
    refine w_nm F9.ns ((e9 nWord (by decide)).trans m8w) ?_
    refine ⟨p, _, G9, C9, X9, Nat.le_trans oyl (by decide), fun h10 X10 k10 => ⟨fun a e => (by cases e), ?_⟩⟩
    have F10 := frKept F9 k10 (List.forall_mem_singleton.mpr bpb) (nmc hbL.symm nm0)
    have lR10 := lsKept lR9 k10 (nmc (hRx a.m_pb) nm0)
    refine w_cons ?_
    refine w_expr ?_
    refine w_callN ?_
    refine w_gK (ctx _ _ F10).1.now (v := .ref aIR) (by kernel_rfl) ?_
    refine w_args ?_
    refine w_arg ?_
    refine w_nm F10.ns ((e9 nRow (by decide)).trans m8r) ?_
    refine w_arg ?_
    refine w_nm F10.ns ((e9 nWord (by decide)).trans m8w) ?_
    refine w_arg0 ?_
    refine w_kw0 ⟨kpFn aIR (ctx _ _ F10).1.now (by kernel_rfl) (by kernel_rfl), ?_⟩
    refine ir_strs (n := n + 1) (ctx _ _ F10).1.now ok' lR10 sR asc (by lia) (ir_b2 w _ _) (fun h11 rys' l11 s11 k11 => ⟨fun a e => (by cases e), w_nil ?_⟩)
    have k11' : Kept [R] h10 h11 := fun b o nb eb => k11 b o (fun q => nb (by rw [q]; exact im1)) eb
    have F11 := frKept F10 k11' (List.forall_mem_singleton.mpr bR) (nmc hRL.symm nm0)
    refine k h11 _ rys' (X10.kept k11' (nmc (hRx a.m_d).symm nm0) (nmc (hRx a.m_pb).symm nm0) (nmc (hRx a.m_pl).symm nm0)) ?_ l11 s11 (Kept.of_fr F11)
    unfold fline
    rw [hsd]
    exact s1.append ⟨⟨_, rfl⟩, trivial⟩
end
end Mine
end
section
open PySem PySem.W PyProof.Rows PySem.Calls
set_option Elab.async false
set_option maxRecDepth 100000
set_option linter.unusedVariables false
set_option linter.unusedSimpArgs false
namespace Mine
abbrev aLi : Addr := 137
abbrev nSides : Str := Str.ofString "sides"
section
theorem turnQ_app {α : Type} : ∀ (l m : List α), turnQ l.length (l ++ m) = m ++ l
  | [], m => by simp [turnQ]
  | v :: l, m => by
    show turnQ l.length ((l ++ m) ++ [v]) = _
    rw [List.append_assoc, turnQ_app l (m ++ [v]), List.append_assoc]; rfl
theorem Strs.snoc : ∀ {ts : List W} {ys : List Value} {t : W}, Strs ys (ts ++ [t]) → ∃ ys0 k, ys = ys0 ++ [.str (S t) k] ∧ Strs ys0 ts
  | [], [], _, h => h.elim
  | [], [y], _, h => let ⟨⟨k, e⟩, _⟩ := h; ⟨[], k, by rw [e]; rfl, trivial⟩
  | [], _ :: _ :: _, _, h => h.2.elim
  | _ :: _, [], _, h => h.elim
  | t :: ts, y :: ys, u, h => by
    obtain ⟨ys0, k, e, s⟩ := Strs.snoc (ts := ts) h.2
    exact ⟨y :: ys0, k, by rw [e]; rfl, h.1, s⟩
theorem ugo_take {lt : W → W → Bool} (x : W) (s : Bool) (ws : List W) {i : Nat} {one : W} (h : ws[i]? = some one) : ugo lt x s (ws.take (i + 1)) = ustep (lt := lt) x s (ugo lt x s (ws.take i)) one := by
  rw [List.take_add_one, h]; exact ugo_snoc _ _ _ _
theorem ugo_lenE {lt : W → W → Bool} (x : W) (s : Bool) (l : List W) : (ugo lt x s l).1.length + (ugo lt x s l).2.length = l.length := by
  induction l using snocInd with
  | nil => rfl
  | snoc l one ih =>
    rw [ugo_snoc]
    unfold ustep
    split
    · simp; omega
    · simp; omega
theorem ugo_len {lt : W → W → Bool} (x : W) (s : Bool) (ws : List W) (i : Nat) : (ugo lt x s (ws.take i)).1.length ≤ ws.length ∧ (ugo lt x s (ws.take i)).2.length ≤ ws.length := by
  have h := ugo_lenE (lt := lt) x s (ws.take i)
  rw [List.length_take] at h
  have : min i ws.length ≤ ws.length := Nat.min_le_right _ _
  omega
theorem nL_tab (x : W) (rs : List W) (h : ∀ y ∈ rs, ∀ c ∈ y, 9 < c) : nL wlt rs (x ++ [9]) = nR wlt rs x := by
  unfold nL nR
  exact List.countP_congr fun y hy => by rw [lt_tab y x (h y hy)]
theorem side_eq2 {rs : List W} (asc : Asc wlt rs) (x : W) {one : W} (ho : one ∈ rs) : (((min (nR wlt rs x) (nL wlt rs one) : Nat) : Int) == ((nR wlt rs x : Nat) : Int)) = wlt x one := by
  rw [Nat.min_comm]; exact side_eq asc x ho
theorem sides_last (f : W → Bool) (o : List W) {i : Nat} {one : W} (h : o[i]? = some one) : ((o.take (i + 1)).map fun y => Value.bool (f y))[i]? = some (Value.bool (f one)) := by
  obtain ⟨hi, e⟩ := List.getElem?_eq_some_iff.mp h
  have : (o.take (i + 1))[i]? = some one := by rw [List.getElem?_take, if_pos (Nat.lt_succ_self i)]; exact h
  rw [List.getElem?_map, this]; rfl
theorem sides_first (f : W → Bool) (o : List W) {i : Nat} (hi : i < o.length) : ((o.take (i + 1)).map fun y => Value.bool (f y))[0]? = some (Value.bool ((o.head?.map f).getD true)) := by
  cases o with
  | nil => simp at hi
  | cons a o => rfl
variable {prog : Program} {w : World} {A : Around} {h H : Heap} {mg mb : Str → Option Value}
set_option maxHeartbeats 4000000 in
theorem li_call {a : LexA} {text : List Nat} {p n : Nat} {toks rys : List Value} {o rs : List W} {x : W} {R : Addr} {Q : Value → Heap → Prop} (G : Gd w mg mb H h) (ok : OkA (n + 4) A) (C : LexC w H h a text) (X : LexM h a text p toks) (sT : Strs toks (o ++ [x]))
    (lR : Ls h R rys) (sR : Strs rys rs) (asc : Asc wlt rs) (pm : rs.Perm (o ++ [x])) (h9 : ∀ y ∈ o ++ [x], ∀ c ∈ y, 9 < c) (hx2 : x.length ≤ 1000) (hRa : R ∉ a.all) (hRH : H.get? R = none) (hz : o.length ≤ 19)
    (k : ∀ h' t toks' rys', LexM h' a text p toks' → Strs toks' (uline wlt x o) → Ls h' R rys' → Strs rys' (popL wlt x rs) → Kept [a.pb, R] h h' → Q (.str (S x) t) h') :
    Wc (model prog w) A (.call (.ref aLi) ⟨[.ref a.x, .ref R], []⟩) Q h := by
  refine c_callK (n := n + 3) (binds := [(nLexer, .ref a.x), (nRow, .ref R)]) G.now ok (by kernel_rfl) (by kernel_rfl) (by kernel_rfl) (by kernel_rfl) (fun _ => by kernel_rfl) (by kernel_rfl) (by kernel_rfl) (fun L h₁ F ok' => ?_)
  have hlen := sT.length
  have hrl := sR.length
  have pml := pm.length_eq
  obtain ⟨ld, lb, ll⟩ := X.lt
  have hRl : R < h.objs.size := lR.lt
  have hle : h.objs.size ≤ L := F.above
  have hRx : ∀ {i : Addr}, i ∈ a.all → R ≠ i := fun hi q => hRa (q ▸ hi)
  have hSH : ∀ i ∈ [a.pb, R], H.get? i = none := List.forall_mem_cons.mpr ⟨C.fr _ a.m_pb, List.forall_mem_singleton.mpr hRH⟩
  have hmut : ∀ i ∈ a.all, i ∈ [a.pb, R] → i ∈ a.mut := fun i hi hs => by
    cases hs with
    | head => exact im2
    | tail _ hs => cases hs with
      | head => exact absurd hi hRa
      | tail _ q => cases q
  have ctx : ∀ h' m', Fr (hideAll h [a.pb, R]) L h' m' → Gd w mg mb H h' ∧ LexC w H h' a text := fun h' m' F' => ⟨(G.hid hSH).ext F'.keep, C.keptX (Kept.of_fr F') hmut⟩
  have F1 := frHid F [a.pb, R]
  have bpb : (hideAll h [a.pb, R]).get? a.pb = none := hideAll_none _ im1
  have bR : (hideAll h [a.pb, R]).get? R = none := hideAll_none _ im2
  have bnew : ∀ {i : Addr}, h.objs.size ≤ i → (hideAll h [a.pb, R]).get? i = none := fun hi => get_none (by rw [hideAll_size]; exact hi)
  have hbL : a.pb ≠ L := Nat.ne_of_lt (Nat.lt_of_lt_of_le lb hle)
  have hdL : a.d ≠ L := Nat.ne_of_lt (Nat.lt_of_lt_of_le ld hle)
  have hlL : a.pl ≠ L := Nat.ne_of_lt (Nat.lt_of_lt_of_le ll hle)
  have hRL : R ≠ L := Nat.ne_of_lt (Nat.lt_of_lt_of_le hRl hle)
  have lR1 := lR.ext F.keep
  have X1 := X.ext F.keep
  have hol : (o ++ [x]).length = o.length + 1 := by simp
  have hxr : x ∈ rs := pm.mem_iff.mpr (List.mem_append_right _ im1)
  have hpp := popL_perm wlt_lin asc hxr
  have hpo : (popL wlt x rs).Perm o := (List.perm_cons x).mp (hpp.trans (pm.trans (List.perm_append_singleton _ _)))
  have hpl : (popL wlt x rs).length = o.length := hpo.length_eq
  have asc' := popL_asc (x := x) asc
  have hp9 : ∀ y ∈ popL wlt x rs, ∀ c ∈ y, 9 < c := fun y hy => h9 y (List.mem_append_left _ (hpo.mem_iff.mp hy))
  have htne : toks ≠ [] := fun q => by rw [q, hol] at hlen; cases hlen
  -- the line turns
  refine w_cons ?_
  refine w_exprV ?_
  refine w_callN ?_
  refine w_gK (ctx _ _ F1).1.now (v := .ref aTu) (by kernel_rfl) ?_
  refine w_args ?_
  refine w_arg ?_
  refine w_nm F1.ns rfl ?_
  refine w_arg ?_
  refine w_binOp ?_
  refine w_callN ?_
  refine w_gB (v := .builtin "len") (ctx _ _ F1).1.now (by kernel_rfl) (by kernel_rfl) (by decide) ?_
  refine w_args ?_
  refine w_arg ?_
  refine w_nm F1.ns rfl ?_
  refine w_arg0 ?_
  refine w_kw0 ⟨Kp.builtin _, ?_⟩
  refine w_lenList lR1.isList (by simp; lia) fun tn => ?_
  refine w_cInt fun _ => ?_
  refine w_subInt fun _ => ?_
  rw [show (rys.toArray.size : Int) - 1 = ((o.length : Nat) : Int) by simp; lia]
  refine w_arg0 ?_
  refine w_kw0 ⟨kpFn aTu (ctx _ _ F1).1.now (by kernel_rfl) (by kernel_rfl), ?_⟩
  refine w_call (tu_call (n := n + 1) (ctx _ _ F1).1 ok' (ctx _ _ F1).2 X1 htne (by lia) (by lia) (fun h2 D X2 k2 lD hD => ?_))
  have F2 := frKept F1 k2 (List.forall_mem_singleton.mpr bpb) (nmc hbL.symm nm0)
  have lR2 := lsKept lR1 k2 (nmc (hRx a.m_pb) nm0)
  obtain ⟨toks0, tx, htk, sT0⟩ := sT.snoc
  have hl0 : toks0.length = o.length := sT0.length
  rw [htk, ← hl0, turnQ_app] at X2
  have X2 : LexM h2 a text p (.str (S x) tx :: toks0) := X2
  -- the last word is taken
  refine w_cons ?_
  refine w_asg ?_
  obtain ⟨G2, C2⟩ := ctx _ _ F2
  refine w_popTok (n := n + 2) G2 C2 X2 ok' (by rw [hl0]; exact Nat.le_trans hz (by decide)) (fun Q' q => w_nm F2.ns rfl q) (fun h3 X3 k3 => ?_)
  have F3 := frKept F2 k3 (List.forall_mem_singleton.mpr bpb) (nmc hbL.symm nm0)
  have lR3 := lsKept lR2 k3 (nmc (hRx a.m_pb) nm0)
  refine w_stS F3 fun h4 F4 sb4 => ?_
  have X4 := X3.same sb4 hdL hbL hlL
  have lR4 := lR3.same sb4 hRL
  -- out of the row, too
  refine w_cons ?_
  refine w_exprV ?_
  refine w_meth PySem.F.plainAttrs_list PySem.F.slot_list_pop PySem.F.type_list_pop ?_
  refine w_nm F4.ns rfl ⟨lR4.ty, ?_, ?_⟩
  · intro b e; injection e with e; subst e; obtain ⟨nn, e⟩ := lR4; exact ⟨_, e, rfl⟩
  refine w_args ?_
  refine w_arg ?_
  refine w_callN ?_
  refine w_gK (ctx _ _ F4).1.now (v := .ref aBL) (by kernel_rfl) ?_
  refine w_args ?_
  refine w_arg ?_
  refine w_nm F4.ns rfl ?_
  refine w_arg ?_
  refine w_nm F4.ns rfl ?_
  refine w_arg0 ?_
  refine w_kw0 ⟨kpFn aBL (ctx _ _ F4).1.now (by kernel_rfl) (by kernel_rfl), ?_⟩
  refine bl_strs (n := n + 2) (hi := rs.length) (ctx _ _ F4).1.now ok' lR4 sR asc (by lia) (bl_b2 w _ _) (.inl ⟨rfl, hrl.symm⟩) (Nat.le_refl _) (fun h5 t5 e5 => ?_)
  rw [Nat.min_eq_left (nL_le _ _)]
  have F5 := F4.kept e5
  have lR5 := lR4.ext e5
  have X5 := X4.ext e5
  refine w_arg0 ?_
  refine w_kw0 ⟨Kp.builtin _, ?_⟩
  obtain ⟨tp, hpv⟩ := sR.get (popL_get wlt_lin asc hxr)
  refine w_popAt (i := nL wlt rs x) lR5 hpv (by rw [hrl, sizeLine_eq]; lia) (fun h6 lR6 sb6 => ?_)
  have F6 := frChg F5 sb6 hRL bR
  have X6 := X5.same sb6 (hRx a.m_d).symm (hRx a.m_pb).symm (hRx a.m_pl).symm
  have sR6 : Strs (rys.eraseIdx (nL wlt rs x)) (popL wlt x rs) := sR.eraseIdx _
  generalize rys.eraseIdx (nL wlt rs x) = rys6 at lR6 sR6
  have hr6 := sR6.length
  -- limit
  refine w_cons ?_
  refine w_asg ?_
  refine w_callN ?_
  refine w_gK (ctx _ _ F6).1.now (v := .ref aBL) (by kernel_rfl) ?_
  refine w_args ?_
  refine w_arg ?_
  refine w_nm F6.ns rfl ?_
  refine w_arg ?_
  refine w_binOp ?_
  refine w_nm F6.ns rfl ?_
  refine w_cS [9] (by kernel_rfl) fun _ => ?_
  refine w_addStr (fun t7 => ?_) (by rw [sizeLine_eq]; simp; lia)
  refine w_arg0 ?_
  refine w_kw0 ⟨kpFn aBL (ctx _ _ F6).1.now (by kernel_rfl) (by kernel_rfl), ?_⟩
  refine bl_strs (n := n + 2) (hi := (popL wlt x rs).length) (ctx _ _ F6).1.now ok' lR6 sR6 asc' (by lia) (bl_b2 w _ _) (.inl ⟨rfl, hr6.symm⟩) (Nat.le_refl _) (fun h7 t7' e7 => ?_)
  rw [Nat.min_eq_left (nL_le _ _), nL_tab x _ hp9]
  refine w_stS (F6.kept e7) fun h8 F8 sb8 => ?_
  have lR8 := (lR6.ext e7).same sb8 hRL
  have X8 := (X6.ext e7).same sb8 hdL hbL hlL
  -- sides, held
  refine w_cons ?_
  refine w_asg ?_
  refine w_list ?_
  refine w_arg0 ⟨Nat.zero_le _, fun h10 sl esl e10 l10 z10 => ?_⟩
  have hLs : L < sl := by rw [esl]; exact F8.ns.lt
  have hsL : sl ≠ L := Nat.ne_of_gt hLs
  refine w_stS (F8.kept e10) fun h11 F11 sb11 => ?_
  have ls11 := l10.same sb11 hsL
  have lR11 := (lR8.ext e10).same sb11 hRL
  have X11 := (X8.ext e10).same sb11 hdL hbL hlL
  refine w_cons ?_
  refine w_asg ?_
  refine w_list ?_
  refine w_arg0 ⟨Nat.zero_le _, fun h12 hl ehl e12 l12 z12 => ?_⟩
  have hLl : L < hl := by rw [ehl]; exact F11.ns.lt
  have hlL' : hl ≠ L := Nat.ne_of_gt hLl
  have hslh : sl ≠ hl := Nat.ne_of_lt (by rw [ehl]; exact ls11.lt)
  refine w_stS (F11.kept e12) fun h13 F13 sb13 => ?_
  have l13 := l12.same sb13 hlL'
  have ls13 := (ls11.ext e12).same sb13 hsL
  have lR13 := (lR11.ext e12).same sb13 hRL
  have X13 := (X11.ext e12).same sb13 hdL hbL hlL
  -- once round
  refine w_cons ?_
  refine w_for ?_
  refine w_callN ?_
  refine w_gB (v := .type "range") (ctx _ _ F13).1.now (by kernel_rfl) (by kernel_rfl) (by decide) ?_
  refine w_args ?_
  refine w_arg ?_
  refine w_callN ?_
  refine w_gB (v := .builtin "len") (ctx _ _ F13).1.now (by kernel_rfl) (by kernel_rfl) (by decide) ?_
  refine w_args ?_
  refine w_arg ?_
  refine w_nm F13.ns rfl ?_
  refine w_arg0 ?_
  refine w_kw0 ⟨Kp.builtin _, ?_⟩
  refine w_lenList lR13.isList (by simp; lia) fun tn' => ?_
  rw [show (rys6.toArray.size : Int) = ((o.length : Nat) : Int) by simp; lia]
  refine w_arg0 ?_
  refine w_kw0 ⟨Kp.type _, ?_⟩
  refine w_range fun h14 r t1 t2' t3 hr e14 z14 ir => ?_
  have F14 := F13.kept e14
  have l14 := l13.ext e14
  have ls14 := ls13.ext e14
  have lR14 := lR13.ext e14
  have X14 := X13.ext e14
  obtain ⟨ld14, lb14, ll14⟩ := X14.lt
  have L14 : L < h14.objs.size := F14.ns.lt
  have above : ∀ {c d : Addr}, c < h.objs.size → L < d → c ≠ d := fun hc hd => Nat.ne_of_lt (Nat.lt_of_lt_of_le hc (Nat.le_trans hle (Nat.le_of_lt hd)))
  generalize hs0 : (o.head?.map (wlt x)).getD true = s0
  generalize hm14 : (fun y => if y = nHeld then some (Value.ref hl) else if y = nSides then some (Value.ref sl) else if y = nLimit then some (Value.int (nR wlt (popL wlt x rs) x : Nat) t7') else if y = nWord then some (Value.str (S x) tx) else ([(nLexer, Value.ref a.x), (nRow, .ref R)] : List (Str × Value)).reverse.lookup y) = m14 at F14
  have m14x : m14 nLexer = some (.ref a.x) := by rw [← hm14]; rfl
  have m14r : m14 nRow = some (.ref R) := by rw [← hm14]; rfl
  have m14w : m14 nWord = some (.str (S x) tx) := by rw [← hm14]; rfl
  have m14l : m14 nLimit = some (.int (nR wlt (popL wlt x rs) x : Nat) t7') := by rw [← hm14]; rfl
  have m14s : m14 nSides = some (.ref sl) := by rw [← hm14]; rfl
  have m14h : m14 nHeld = some (.ref hl) := by rw [← hm14]; rfl
  refine w_forB (iterRange0 rfl ok'.3 ir (by lia)) [L, a.pb, sl] (fun b hb => ?_) (fun b hb => (nomatch hb))
    (fun b0 i h' => ∃ m' HL hys oys, Fr (hideAll h [a.pb, R]) L h' m' ∧ (∀ z, z ∉ [nHeld, nOne, nEach, nUs] → m' z = m14 z) ∧ m' nHeld = some (.ref HL) ∧ (HL = hl ∨ b0 ≤ HL) ∧ Ls h' HL hys ∧ LexM h' a text p (toks0.drop i ++ oys) ∧
      Strs oys (ugo wlt x s0 (o.take i)).1 ∧ Strs hys (ugo wlt x s0 (o.take i)).2 ∧ Ls h' sl ((o.take i).map fun y => Value.bool (wlt x y)))
    (fun b0 i h1 h2 ⟨m', HL, hys, oys, F', e1, e2, b, l, X', s1, s2, s3⟩ off => ⟨m', HL, hys, oys, frOff F' off L14, e1, e2, b, l.off off (b.imp (fun q => by rw [q]; exact l14.lt) id), X'.off off ld14 lb14 ll14, s1, s2, s3.off off (.inl ls14.lt)⟩)
    (fun b0 => ⟨m14, hl, [], [], F14, fun _ _ => rfl, m14h, .inl rfl, l14, by simpa using X14, trivial, trivial, ls14⟩) (fun b0 i v h15 hi hlv hP hJ k15 => ?_) (fun b0 h15 hb0 hJ k15 => ?_)
  · simp only [List.mem_cons, List.not_mem_nil, or_false] at hb
    rcases hb with rfl | rfl | rfl
    · exact ⟨L14, nm0⟩
    · exact ⟨lb14, nm0⟩
    · exact ⟨ls14.lt, nm0⟩
  · obtain ⟨tv, rfl⟩ := hP
    have hb1 := live_b0 hlv
    have hTl : ∀ b ∈ [L, a.pb, sl], b < h14.objs.size := List.forall_mem_cons.mpr ⟨L14, List.forall_mem_cons.mpr ⟨lb14, List.forall_mem_singleton.mpr ls14.lt⟩⟩
    obtain ⟨m15, HL, hys, oys, F15, e15, m15h, hHL, l15, X15, s1, s2, ls15⟩ := hJ
    have lR15 := lsKept lR14 k15 (nmc hRL (nmc (hRx a.m_pb) (nmc (above hRl hLs) nm0)))
    have hLHL : L < HL := hHL.elim (fun q => q ▸ hLl) fun q => Nat.lt_of_lt_of_le (Nat.lt_trans L14 hb1) q
    have hHLL : HL ≠ L := Nat.ne_of_gt hLHL
    have hHLb : ∀ {c : Addr}, c < h.objs.size → HL ≠ c := fun hc => (above hc hLHL).symm
    have hsHL : sl ≠ HL := hHL.elim (fun q => q ▸ hslh) fun q => Nat.ne_of_lt (Nat.lt_of_lt_of_le (Nat.lt_trans ls14.lt hb1) q)
    obtain ⟨one, ho⟩ : ∃ one, o[i]? = some one := ⟨_, List.getElem?_eq_getElem hi⟩
    obtain ⟨tk, htk2⟩ := sT0.get ho
    rw [drop_cons htk2] at X15
    refine w_asgName ?_
    refine w_stS F15 fun h16 F16 sb16 => ?_
    have X16 : LexM h16 a text p (.str (S one) tk :: (toks0.drop (i + 1) ++ oys)) := X15.same sb16 hdL hbL hlL
    have l16 := l15.same sb16 hHLL
    have ls16 := ls15.same sb16 hsL
    have lR16 := lR15.same sb16 hRL
    have o16 : ∀ z, z ∉ [nHeld, nOne, nEach, nUs] → (if z = nUs then some (Value.int (i : Nat) tv) else m15 z) = m14 z := fun z hz => by
      rw [if_neg (fun q => hz (by rw [q]; simp))]; exact e15 z hz
    have oyl : oys.length ≤ 20 := by rw [s1.length]; exact Nat.le_trans (ugo_len x s0 o i).1 (Nat.le_trans hz (by decide))
    have hyl : hys.length ≤ 20 := by rw [s2.length]; exact Nat.le_trans (ugo_len x s0 o i).2 (Nat.le_trans hz (by decide))
    have hdz : (toks0.drop (i + 1) ++ oys).length ≤ 40 := by rw [List.length_append, List.length_drop]; exact Nat.le_trans (Nat.add_le_add (Nat.le_trans (Nat.sub_le _ _) (hl0 ▸ hz)) oyl) (by decide)
    refine w_cons ?_
    refine w_asg ?_
    obtain ⟨G16, C16⟩ := ctx _ _ F16
    refine w_popTok (n := n + 2) G16 C16 X16 ok' (Nat.le_trans hdz (by decide)) (fun Q' q => w_nm F16.ns ((o16 nLexer (by decide)).trans m14x) q) (fun h17 X17 k17 => ?_)
    have F17 := frKept F16 k17 (List.forall_mem_singleton.mpr bpb) (nmc hbL.symm nm0)
    have l17 := lsKept l16 k17 (nmc (hHLb lb) nm0)
    have ls17 := lsKept ls16 k17 (nmc (above lb hLs).symm nm0)
    have lR17 := lsKept lR16 k17 (nmc (hRx a.m_pb) nm0)
    refine w_stS F17 fun h18 F18 sb18 => ?_
    have X18 := X17.same sb18 hdL hbL hlL
    have l18 := l17.same sb18 hHLL
    have ls18 := ls17.same sb18 hsL
    have lR18 := lR17.same sb18 hRL
    generalize hm18 : (fun y => if y = nOne then some (Value.str (S one) tk) else if y = nUs then some (Value.int (i : Nat) tv) else m15 y) = m18 at F18
    have o18 : ∀ z, z ∉ [nHeld, nOne, nEach, nUs] → m18 z = m14 z := fun z hz => by
      rw [← hm18]; show (if z = nOne then _ else if z = nUs then _ else m15 z) = _
      rw [if_neg (fun q => hz (by rw [q]; simp))]; exact o16 z hz
    have m18o : m18 nOne = some (.str (S one) tk) := by rw [← hm18]; rfl
    have m18h : m18 nHeld = some (.ref HL) := by rw [← hm18]; exact m15h
    have kB18 : KeptB b0 [L, a.pb, sl] h15 h18 := ((KeptB.of_kept (Kept.of_same (S := [L]) sb16 im1) (fun b hb => .inl (by rw [List.mem_singleton.mp hb]; exact im1))).trans (KeptB.of_kept k17 (fun b hb => .inl (by rw [List.mem_singleton.mp hb]; exact im2)))).trans
      (KeptB.of_kept (Kept.of_same (S := [L]) sb18 im1) (fun b hb => .inl (by rw [List.mem_singleton.mp hb]; exact im1)))
    have hop : one ∈ popL wlt x rs := hpo.mem_iff.mpr (List.mem_of_getElem? ho)
    refine w_cons ?_
    refine w_expr ?_
    refine w_meth PySem.F.plainAttrs_list PySem.F.slot_list_append PySem.F.type_list_append ?_
    refine w_nm F18.ns ((o18 nSides (by decide)).trans m14s) ⟨ls18.ty, ?_, ?_⟩
    · intro b e; injection e with e; subst e; obtain ⟨nn, e⟩ := ls18; exact ⟨_, e, rfl⟩
    refine w_args ?_
    refine w_arg ?_
    refine w_cmp ?_
    refine w_callN ?_
    refine w_gK (ctx _ _ F18).1.now (v := .ref aBR) (by kernel_rfl) ?_
    refine w_args ?_
    refine w_arg ?_
    refine w_nm F18.ns ((o18 nRow (by decide)).trans m14r) ?_
    refine w_arg ?_
    refine w_nm F18.ns ((o18 nWord (by decide)).trans m14w) ?_
    refine w_arg ?_
    refine w_cInt fun _ => ?_
    refine w_arg ?_
    refine w_callN ?_
    refine w_gK (ctx _ _ F18).1.now (v := .ref aBL) (by kernel_rfl) ?_
    refine w_args ?_
    refine w_arg ?_
    refine w_nm F18.ns ((o18 nRow (by decide)).trans m14r) ?_
    refine w_arg ?_
    refine w_nm F18.ns m18o ?_
    refine w_arg0 ?_
    refine w_kw0 ⟨kpFn aBL (ctx _ _ F18).1.now (by kernel_rfl) (by kernel_rfl), ?_⟩
    refine bl_strs (n := n + 2) (hi := (popL wlt x rs).length) (ctx _ _ F18).1.now ok' lR18 sR6 asc' (by lia) (bl_b2 w _ _) (.inl ⟨rfl, hr6.symm⟩) (Nat.le_refl _) (fun h19 t19 e19 => ?_)
    rw [Nat.min_eq_left (nL_le _ _)]
    have F19 := F18.kept e19
    refine w_arg0 ?_
    refine w_kw0 ⟨kpFn aBR (ctx _ _ F19).1.now (by kernel_rfl) (by kernel_rfl), ?_⟩
    refine br_strs (n := n + 2) (hi := nL wlt (popL wlt x rs) one) (ctx _ _ F19).1.now ok' (lR18.ext e19) sR6 asc' (by lia) (br_b4 w _ _ _ _) (.inr ⟨_, rfl⟩) (nL_le _ _) (fun h20 t20 e20 => ?_)
    have F20 := F19.kept e20
    refine w_nm F20.ns ((o18 nLimit (by decide)).trans m14l) ?_
    refine w_eqInt ?_
    rw [side_eq2 asc' x hop]
    refine w_arg0 ?_
    refine w_kw0 ⟨Kp.builtin _, ?_⟩
    have e1820 := e19.trans e20
    refine w_append (ls18.ext e1820) (by rw [List.length_map, List.length_take, sizeLine_eq]; exact Nat.le_trans (Nat.min_le_right _ _) (Nat.le_trans hz (by decide))) (fun h21 ls21' sb21 => ⟨fun a e => (by cases e), ?_⟩)
    have hslb : (hideAll h [a.pb, R]).get? sl = none := bnew (Nat.le_trans hle (Nat.le_of_lt hLs))
    have F21 := frChg F20 sb21 hsL hslb
    have X21 := (X18.ext e1820).same sb21 (above ld hLs) (above lb hLs) (above ll hLs)
    have l21 := (l18.ext e1820).same sb21 hsHL.symm
    have ls21 : Ls h21 sl ((o.take (i + 1)).map fun y => Value.bool (wlt x y)) := by
      rw [List.take_add_one, ho, List.map_append]; exact ls21'
    have kB21 := (kB18.trans (KeptB.of_kept (Kept.of_ext (S := []) e1820) sb0')).trans (KeptB.of_kept (Kept.of_same (S := [sl]) sb21 im1) (fun b hb => .inl (by rw [List.mem_singleton.mp hb]; exact im3)))
    have hslen : ((o.take (i + 1)).map fun y => Value.bool (wlt x y)).length = i + 1 := by rw [List.length_map, List.length_take]; exact Nat.min_eq_left hi
    refine w_cons ?_
    refine w_if_ ?_
    refine w_tCmp ?_
    refine w_sub ?_
    refine w_nm F21.ns ((o18 nSides (by decide)).trans m14s) ?_
    refine w_neg ?_
    refine w_cInt fun _ => ⟨_, _, rfl, fun _ => ?_⟩
    refine w_itemI (j := i) ls21.isList (.inr (by rw [hslen]; lia)) (by lia) (sides_last _ _ ho) (by rw [hslen, sizeLine_eq]; exact Nat.le_trans (Nat.le_trans hi hz) (by decide)) ?_
    refine w_sub ?_
    refine w_nm F21.ns ((o18 nSides (by decide)).trans m14s) ?_
    refine w_cInt fun _ => ?_
    refine w_itemL (j := 0) ls21.isList (sides_first _ _ hi) (by rw [hslen, sizeLine_eq]; exact Nat.le_trans (Nat.le_trans hi hz) (by decide)) ?_
    rw [hs0]
    refine w_eqBool ?_
    have eug := ugo_take (lt := wlt) x s0 o ho
    refine w_tBool ⟨fun e => ?_, fun e => ?_⟩
    · have eug1 : ugo wlt x s0 (o.take (i + 1)) = ((ugo wlt x s0 (o.take i)).1 ++ (ugo wlt x s0 (o.take i)).2, [one]) := by
        rw [eug]; unfold ustep; rw [if_pos e]
      refine w_cons ?_
      refine w_for ?_
      refine w_nm F21.ns m18h ?_
      refine w_pushAll (n := n + 2) F21 ctx X21 ok' l21 (Nat.le_trans (Nat.add_le_add hdz hyl) (by decide)) (Nat.le_trans hyl (by decide)) bpb ⟨hbL, hdL, hlL, hHLL, hHLb lb⟩
        (fun h' m' Q' F' e' q => w_nm F'.ns ((e' nLexer (by decide)).trans ((o18 nLexer (by decide)).trans m14x)) q) (fun h22 m22 F22 e22 X22 k22 => ?_) rfl rfl rfl (by decide) rfl rfl rfl rfl rfl rfl
      refine w_cons ?_
      refine w_asg ?_
      refine w_list ?_
      refine w_arg ?_
      refine w_nm F22.ns ((e22 nOne (by decide)).trans m18o) ?_
      refine w_arg0 ⟨by simp [sizeLine_eq], fun h23 hl2 ehl2 e23 l23 z23 => ?_⟩
      have kB22 := kB21.trans (KeptB.of_kept k22 (fun b hb => .inl (by
          cases hb with
          | head => exact im1
          | tail _ hb => cases hb with
            | head => exact im2
            | tail _ q => cases q)))
      have hz22 := kB22.live hlv hTl
      have ls22 := lsKept ls21 k22 (nmc hsL (nmc (above lb hLs).symm nm0))
      refine w_stS (F22.kept e23) fun h24 F24 sb24 => w_nil (w_nil ⟨rfl, ?_, _, hl2, [.str (S one) tk], oys ++ hys, F24, fun z hz => ?_, rfl, .inr ?_, l23.same sb24 ?_, ?_, ?_, ?_, (ls22.ext e23).same sb24 hsL⟩)
      · exact kB22.trans ((KeptB.of_kept (Kept.of_ext (S := []) e23) sb0').trans (KeptB.of_kept (Kept.of_same (S := [L]) sb24 im1) (fun b hb => .inl (by rw [List.mem_singleton.mp hb]; exact im1))))
      · show (if z = nHeld then _ else m22 z) = _
        rw [if_neg (fun q => hz (by rw [q]; simp)), e22 z (fun q => hz (by rw [q]; simp))]
        exact o18 z hz
      · rw [ehl2]; exact hz22
      · rw [ehl2]; exact Nat.ne_of_gt F22.ns.lt
      · have := ((X22.ext e23).same sb24 hdL hbL hlL)
        rw [List.append_assoc] at this
        exact this
      · rw [eug1]; exact s1.append s2
      · rw [eug1]; exact ⟨⟨_, rfl⟩, trivial⟩
    · have eug0 : ugo wlt x s0 (o.take (i + 1)) = ((ugo wlt x s0 (o.take i)).1 ++ [one], (ugo wlt x s0 (o.take i)).2) := by
        rw [eug]; unfold ustep; rw [if_neg (by rw [e]; decide)]
      obtain ⟨G21, C21⟩ := ctx _ _ F21
      refine w_cons ?_
      refine w_expr ?_
      refine w_pushTok (n := n + 2) rfl G21 C21 X21 ok' (fun Q' q => w_nm F21.ns ((o18 nLexer (by decide)).trans m14x) q) ?_
      refine w_nm F21.ns m18o ?_
      refine ⟨p, _, G21, C21, X21, Nat.le_trans hdz (by decide), fun h22 X22 k22 => ⟨fun a e => (by cases e), ?_⟩⟩
      have F22 := frKept F21 k22 (List.forall_mem_singleton.mpr bpb) (nmc hbL.symm nm0)
      refine w_nil (w_nil ⟨rfl, ?_, _, HL, hys, oys ++ [.str (S one) tk], F22, o18, m18h, hHL, lsKept l21 k22 (nmc (hHLb lb) nm0), ?_, ?_, ?_, lsKept ls21 k22 (nmc (above lb hLs).symm nm0)⟩)
      · exact kB21.trans (KeptB.of_kept k22 (fun b hb => .inl (by rw [List.mem_singleton.mp hb]; exact im2)))
      · rw [List.append_assoc] at X22; exact X22
      · rw [eug0]; exact s1.append ⟨⟨_, rfl⟩, trivial⟩
      · rw [eug0]; exact s2
  · obtain ⟨m15, HL, hys, oys, F15, e15, m15h, hHL, l15, X15, s1, s2, ls15⟩ := hJ
    have lR15 := lsKept lR14 k15 (nmc hRL (nmc (hRx a.m_pb) (nmc (above hRl hLs) nm0)))
    rw [List.take_length] at s1 s2
    have e0 : toks0.drop o.length = [] := by rw [← hl0]; exact List.drop_length
    rw [e0, List.nil_append] at X15
    have hug := ugo_lenE (lt := wlt) x s0 o
    have oyl : oys.length ≤ 20 := by rw [s1.length]; lia
    have hyl : hys.length ≤ 20 := by rw [s2.length]; lia
    have hLHL : L < HL := hHL.elim (fun q => q ▸ hLl) fun q => Nat.lt_of_lt_of_le (Nat.lt_trans L14 hb0) q
    refine w_nil ?_
    refine w_cons ?_
    refine w_for ?_
    refine w_nm F15.ns m15h ?_
    refine w_pushAll (n := n + 2) F15 ctx X15 ok' l15 (Nat.le_trans (Nat.add_le_add oyl hyl) (by decide)) (Nat.le_trans hyl (by decide)) bpb ⟨hbL, hdL, hlL, Nat.ne_of_gt hLHL, (above lb hLHL).symm⟩
      (fun h' m' Q' F' e' q => w_nm F'.ns ((e' nLexer (by decide)).trans ((e15 nLexer (by decide)).trans m14x)) q) (fun h16 m16 F16 e16 X16 k16 => ?_) rfl rfl rfl (by decide) rfl rfl rfl rfl rfl rfl
    refine w_cons ?_
    refine w_ret ?_
    refine w_nm F16.ns ((e16 nWord (by decide)).trans ((e15 nWord (by decide)).trans m14w)) ?_
    refine k h16 _ _ rys6 X16 ?_ (lsKept lR15 k16 (nmc hRL (nmc (hRx a.m_pb) nm0))) sR6 (Kept.of_fr F16)
    unfold uline
    rw [hs0]
    exact s1.append s2
end
end Mine
end
section
open PySem PySem.W PyProof.Rows PySem.Calls
set_option Elab.async false
set_option maxRecDepth 100000
set_option linter.unusedVariables false
set_option linter.unusedSimpArgs false
namespace Mine
section
variable {prog : Program} {w : World} {A : Around} {h : Heap} {env : Env}
/-- one thing is in order -/
theorem sort_one {E : Value → Shared → Prop} {s : Shared} {a : Addr} {v : Value} {n : Nat} {P : PySem.Fin → Shared → Prop} (ho : s.heap.get? a = some (seqObj "list" [v].toArray n)) (k : P (.done (.ret .none)) { s with heap := sortedHeap s.heap a [v] #[v] }) :
    wpAny (model prog w) A (Builtin.«list.sort» ⟨[.ref a], []⟩) P E s := by
  have ha : a < s.heap.objs.size := Heap.lt_size ho
  obtain ⟨e1, ho1⟩ : ∃ e1, (s.heap.update a (Obj.mapSeq fun _ => #[])).get? a = some (seqObj "list" #[] e1) := ⟨_, get?_update_seq ho (fun _ => #[])⟩
  have ho6 : (((s.heap.update a (Obj.mapSeq fun _ => #[])).push (seqObj "tuple" [v].toArray 0)).push (seqObj "list" #[] 0)).get? a = some (seqObj "list" #[] e1) :=
    (Heap.get?_push_ne _ _ _ (by rw [size_push', Heap.size_update]; exact Nat.ne_of_lt (Nat.lt_succ_of_lt ha))).trans ((Heap.get?_push_ne _ _ _ (by rw [Heap.size_update]; exact Nat.ne_of_lt ha)).trans ho1)
  rw [list_sort_plain]
  refine wpAny_bind (listItems_at ho rfl (wpAny_bind (listUpdate_at ho rfl (wpAny_bind (seqEpoch_at ho1 rfl (wpAny_bind (wpAny_newTuple (wpAny_bind (wpAny_newList (wpAny_holding ?_))))))))))
  show wpAny (model prog w) A _ P E { s with heap := ((s.heap.update a (Obj.mapSeq fun _ => #[])).push (seqObj "tuple" [v].toArray 0)).push (seqObj "list" #[] 0) }
  dsimp only
  have h1 : [v].toArray.size < 2 := Nat.lt_succ_self 1
  rw [if_pos h1, if_pos h1]
  refine wpAny_bind (wpAny_pure ?_)
  rw [StateT.run_pure]
  refine wpAny_bind (wpAny_pure ?_)
  dsimp only
  have hz : Array.map (fun x : Keyed => x.2) (arrOf (SortSt.mk' general' ([v].toArray.zip [v].toArray) #[] 7 none)) = #[v] := by
    show Array.map (fun x : Keyed => x.2) ([v].toArray.zip [v].toArray) = #[v]
    simp
  refine wpAny_bind (seqEpoch_at ho6 rfl ?_)
  rw [hz]
  refine wpAny_bind (listUpdate_at ho6 rfl ?_ (hsz2 := by show 1 ≤ sizeLine + 1; rw [sizeLine_eq]; omega))
  simp only [bne_self_eq_false, Bool.false_eq_true, if_false]
  exact wpAny_pure k
theorem w_sortedOne {l : Addr} {v : Value} {Q : Value → Heap → Prop} (hl : h.IsList l [v].toArray) (k : ∀ h' D, Ext h h' → D = h.objs.size + 1 → Ls h' D [v] → Q (.ref D) h') : Wp (model prog w) A (call (.builtin "sorted") [.ref l]) Q h := by
  intro s hs
  subst hs
  refine Calls.call_function_entry kind_sorted plain_sorted entry_sorted (args_sorted1 _) ?_
  unfold Builtin.«sorted»
  refine wpAny_bind (m := checkCount "sorted" 1 1 _) (wpAny_pure ?_)
  refine wpAny_bind (collect_list hl ?_)
  refine wpAny_bind (wpAny_newList ?_)
  have hsz : ((s.heap.push (seqObj "list" #[] 0)).update s.heap.objs.size (Obj.mapSeq (· ++ [v].toArray))).objs.size = s.heap.objs.size + 1 := by
    rw [Heap.size_update, size_push']
  have hoL : (((s.heap.push (seqObj "list" #[] 0)).update s.heap.objs.size (Obj.mapSeq (· ++ [v].toArray))).push (seqObj "list" [v].toArray 0)).get? (s.heap.objs.size + 1) = some (seqObj "list" [v].toArray 0) := by
    rw [← hsz]; exact Heap.get?_push_size _ rfl
  show wpAny _ _ _ _ _ { s with heap := ((s.heap.push (seqObj "list" #[] 0)).update s.heap.objs.size (Obj.mapSeq (· ++ [v].toArray))).push (seqObj "list" [v].toArray 0) }
  rw [hsz]
  refine wpAny_bind (wpAny_holding (wpAny_call_entry slot_list_sort ⟨_, hoL, rfl⟩ entry_list_sort (sort_one hoL ⟨_, rfl, ?_⟩) (args_list_sort _)))
  obtain ⟨e, he⟩ := sortedAll_at s.heap [v] #[v]
  exact wpAny_pure ⟨_, rfl, ⟨rfl, rfl⟩, k _ _ (fun b o q => sortedAll_old q) rfl ⟨e, he⟩⟩
theorem strsAre_of : ∀ {vs : List Value} {ws : List W}, Strs vs ws → StrsAre vs (ws.map S)
  | [], [], _ => .nil
  | v :: vs, x :: ws, s => by
    obtain ⟨⟨t, rfl⟩, r⟩ := s
    exact .cons _ _ (strsAre_of r)
theorem words_of : ∀ {vs : List Value} {ss : List Str}, StrsAre vs ss → Strs vs (ss.map fun y => y.cps.toList)
  | _, _, .nil => trivial
  | _, _, .cons y t r => ⟨⟨t, by simp [S]⟩, words_of r⟩
theorem asc_of : ∀ (ss : List Str) (x : Str), risingS x ss = true → (∀ y ∈ ss, wlt y.cps.toList x.cps.toList = false) ∧ Asc wlt (ss.map fun y => y.cps.toList)
  | [], x, _ => ⟨fun _ h => (nomatch h), .nil⟩
  | z :: ss, x, h => by
    simp only [risingS, Bool.and_eq_true, Bool.not_eq_true'] at h
    obtain ⟨h1, h2⟩ := h
    obtain ⟨i1, i2⟩ := asc_of ss z h2
    have h1 : wlt z.cps.toList x.cps.toList = false := by rw [ltCps_eq] at h1; exact h1
    refine ⟨fun y hy => ?_, .cons (fun b hb => ?_) i2⟩
    · rcases List.mem_cons.mp hy with rfl | hy
      · exact h1
      · exact wlt_lin.letr h1 (i1 y hy)
    · obtain ⟨y, hy, rfl⟩ := List.mem_map.mp hb; exact i1 y hy
/-- sorted(words) -/
theorem w_sortedS {l : Addr} {vs : List Value} {ws : List W} {Q : Value → Heap → Prop} (hl : h.IsList l vs.toArray) (sv : Strs vs ws) (h64 : ws.length < 64)
    (k : ∀ h' D vs' ws', Ext h h' → D = h.objs.size + 1 → Ls h' D vs' → Strs vs' ws' → ws'.Perm ws → Asc wlt ws' → Q (.ref D) h') : Wp (model prog w) A (call (.builtin "sorted") [.ref l]) Q h := by
  intro s hs
  subst hs
  refine sorted_strs hl (strsAre_of sv) (by rw [sv.length]; exact h64) (fun out ss' a1 a2 a3 => ⟨⟨rfl, rfl⟩, ?_⟩)
  obtain ⟨e, he⟩ := sortedAll_at s.heap vs out
  refine k _ _ out.toList _ (fun b o q => sortedAll_old q) rfl ⟨e, by simpa using he⟩ (words_of a1) ?_ ?_
  · have := a2.map fun y : Str => y.cps.toList
    rw [List.map_map] at this
    have e2 : ((fun y : Str => y.cps.toList) ∘ S) = id := by funext y; simp [S]
    rw [e2, List.map_id] at this
    exact this
  · cases ss' with
    | nil => exact .nil
    | cons x r =>
      obtain ⟨i1, i2⟩ := asc_of r x a3
      exact .cons (fun b hb => by obtain ⟨y, hy, rfl⟩ := List.mem_map.mp hb; exact i1 y hy) i2
end
end Mine
end
section
set_option linter.unusedVariables false
set_option linter.unusedSimpArgs false
set_option linter.unusedSectionVars false
namespace Mine
/-! ## plain: an insertion sort's ways -/
section
variable {c : Nat → Nat → Bool}
theorem prec_asym (W : Weak c) {i j : Nat} (h1 : prec c i j) (h2 : prec c j i) : i = j := by
  rcases h1.2 with a | a
  · rw [h2.1] at a; cases a
  · rcases h2.2 with b | b
    · rw [h1.1] at b; cases b
    · omega
theorem prec_uniq (W : Weak c) {a b : List Nat} (p : a.Perm b) (ha : a.Pairwise (prec c)) (hb : b.Pairwise (prec c)) : a = b :=
  List.Perm.eq_of_pairwise (le := prec c) (fun _ _ _ _ h1 h2 => prec_asym W h1 h2) ha hb p
/-- i goes behind all that do not lie above it -/
def putR (c : Nat → Nat → Bool) (i : Nat) (p : List Nat) : List Nat := p.take (p.countP fun j => !(c i j)) ++ i :: p.drop (p.countP fun j => !(c i j))
def putL (c : Nat → Nat → Bool) (i : Nat) (p : List Nat) : List Nat := p.take (p.countP fun j => c j i) ++ i :: p.drop (p.countP fun j => c j i)
theorem putR_perm (i : Nat) (p : List Nat) : (putR c i p).Perm (i :: p) := by
  have := List.perm_middle (a := i) (l₁ := p.take (p.countP fun j => !(c i j))) (l₂ := p.drop (p.countP fun j => !(c i j)))
  rwa [List.take_append_drop] at this
theorem putL_perm (i : Nat) (p : List Nat) : (putL c i p).Perm (i :: p) := by
  have := List.perm_middle (a := i) (l₁ := p.take (p.countP fun j => c j i)) (l₂ := p.drop (p.countP fun j => c j i))
  rwa [List.take_append_drop] at this
theorem putR_cut (W : Weak c) (i : Nat) {p : List Nat} (s : p.Pairwise (prec c)) (k : Nat) (h : k < p.length) : k < (p.countP fun j => !(c i j)) ↔ c i p[k] = false := by
  have := cutAt (p := fun j => !(c i j)) (l := p) (s.imp fun {a b} hab hb => by
    simp only [Bool.not_eq_true'] at hb ⊢
    cases q : c i a with
    | false => rfl
    | true => rw [W.tl q hab.1] at hb; cases hb) k h
  simpa using this
theorem putL_cut (W : Weak c) (i : Nat) {p : List Nat} (s : p.Pairwise (prec c)) (k : Nat) (h : k < p.length) : k < (p.countP fun j => c j i) ↔ c p[k] i = true :=
  cutAt (p := fun j => c j i) (l := p) (s.imp fun {a b} hab hb => W.tr hab.1 hb) k h
theorem put_sorted {i r : Nat} {p : List Nat} (s : p.Pairwise (prec c)) (h1 : ∀ (k : Nat) (h : k < p.length), k < r → prec c p[k] i) (h2 : ∀ (k : Nat) (h : k < p.length), r ≤ k → prec c i p[k]) : (p.take r ++ i :: p.drop r).Pairwise (prec c) := by
  rw [List.pairwise_append, List.pairwise_cons]
  refine ⟨s.sublist (List.take_sublist _ _), ⟨fun b hb => ?_, s.sublist (List.drop_sublist _ _)⟩, fun a ha b hb => ?_⟩
  · obtain ⟨k, hk, rfl⟩ := List.getElem_of_mem hb
    rw [List.getElem_drop]
    exact h2 _ _ (Nat.le_add_right _ _)
  · obtain ⟨k, hk, rfl⟩ := List.getElem_of_mem ha
    rw [List.getElem_take]
    rw [List.length_take] at hk
    rcases List.mem_cons.mp hb with rfl | hb
    · exact h1 k (by omega) (by omega)
    · obtain ⟨j, hj, rfl⟩ := List.getElem_of_mem hb
      rw [List.getElem_drop]
      rw [List.length_drop] at hj
      exact (List.pairwise_iff_getElem.mp s) k (r + j) (by omega) (by omega) (by omega)
theorem putR_sorted (W : Weak c) (i : Nat) {p : List Nat} (s : p.Pairwise (prec c)) (hp : ∀ j ∈ p, j < i) : (putR c i p).Pairwise (prec c) :=
  put_sorted s (fun k h hk => ⟨(putR_cut W i s k h).mp hk, .inr (hp _ (List.getElem_mem _))⟩) (fun k h hk => by
    have : c i p[k] = true := by
      cases q : c i p[k] with
      | true => rfl
      | false => have := (putR_cut W i s k h).mpr q; omega
    exact ⟨W.asym _ _ this, .inl this⟩)
theorem putL_sorted (W : Weak c) (i : Nat) {p : List Nat} (s : p.Pairwise (prec c)) (hp : ∀ j ∈ p, i < j) : (putL c i p).Pairwise (prec c) :=
  put_sorted s (fun k h hk => by have := (putL_cut W i s k h).mp hk; exact ⟨W.asym _ _ this, .inl this⟩) (fun k h hk => by
    have : c p[k] i = false := by
      cases q : c p[k] i with
      | false => rfl
      | true => have := (putL_cut W i s k h).mpr q; omega
    exact ⟨this, .inr (hp _ (List.getElem_mem _))⟩)
/-- from the front -/
def insF (c : Nat → Nat → Bool) : Nat → List Nat
  | 0 => []
  | i + 1 => putR c i (insF c i)
theorem insF_perm : ∀ i, (insF c i).Perm (List.range i)
  | 0 => .nil
  | i + 1 => by
    rw [List.range_succ]
    exact (putR_perm i _).trans (((insF_perm i).cons i).trans (List.perm_append_singleton _ _).symm)
theorem insF_lt (i : Nat) : ∀ j ∈ insF c i, j < i := fun j hj => List.mem_range.mp ((insF_perm i).mem_iff.mp hj)
theorem insF_len (i : Nat) : (insF c i).length = i := by rw [(insF_perm i).length_eq, List.length_range]
theorem insF_sorted (W : Weak c) : ∀ i, (insF c i).Pairwise (prec c)
  | 0 => .nil
  | i + 1 => putR_sorted W i (insF_sorted W i) (insF_lt i)
/-- from the back: the last i of n -/
def insB (c : Nat → Nat → Bool) (n : Nat) : Nat → List Nat
  | 0 => []
  | i + 1 => putL c (n - 1 - i) (insB c n i)
theorem insB_perm (n : Nat) : ∀ i, i ≤ n → (insB c n i).Perm (List.range' (n - i) i)
  | 0, _ => .nil
  | i + 1, h => by
    have e : List.range' (n - (i + 1)) (i + 1) = (n - 1 - i) :: List.range' (n - i) i := by
      rw [List.range'_succ]; congr 1
      · omega
      · congr 1; omega
    rw [e]
    exact (putL_perm _ _).trans ((insB_perm n i (by omega)).cons _)
theorem insB_gt (n i : Nat) (h : i ≤ n) : ∀ j ∈ insB c n i, n - i ≤ j ∧ j < n := fun j hj => by
  have := (insB_perm n i h).mem_iff.mp hj
  rw [List.mem_range'_1] at this; omega
theorem insB_len (n i : Nat) (h : i ≤ n) : (insB c n i).length = i := by rw [(insB_perm n i h).length_eq, List.length_range']
theorem insB_sorted (W : Weak c) (n : Nat) : ∀ i, i ≤ n → (insB c n i).Pairwise (prec c)
  | 0, _ => .nil
  | i + 1, h => putL_sorted W _ (insB_sorted W n i (by omega)) (fun j hj => by have := insB_gt n i (by omega) j hj; omega)
theorem nodup_len : ∀ (N : Nat) (l : List Nat), l.Nodup → (∀ x ∈ l, x < N) → l.length ≤ N
  | 0, l, _, h => by cases l with | nil => simp | cons a l => have := h a (by simp); omega
  | N + 1, l, hn, h => by
    have := nodup_len N (l.erase N) (hn.erase N) (fun x hx => by
      have h1 := h x (List.mem_of_mem_erase hx)
      have h2 : x ≠ N := by intro q; subst q; exact hn.not_mem_erase hx
      omega)
    by_cases hm : N ∈ l
    · rw [List.length_erase_of_mem hm] at this; omega
    · rw [List.erase_of_not_mem hm] at this; omega
theorem perm_range (N : Nat) (l : List Nat) (hn : l.Nodup) (h : ∀ x ∈ l, x < N) (hl : l.length = N) : l.Perm (List.range N) := by
  rw [List.perm_ext_iff_of_nodup hn List.nodup_range]
  intro a
  rw [List.mem_range]
  refine ⟨h a, fun ha => ?_⟩
  by_cases q : a ∈ l
  · exact q
  · have := nodup_len N (a :: l) (List.nodup_cons.mpr ⟨q, hn⟩) (fun x hx => by rcases List.mem_cons.mp hx with rfl | hx; exact ha; exact h x hx)
    simp at this; omega
theorem ins_eq (W : Weak c) {n : Nat} {p : List Nat} (s : Sorted c n p) : insF c n = p ∧ insB c n n = p := by
  have hp : p.Perm (List.range n) := perm_range n p (s.srt.imp fun {a b} h q => by
    subst q
    have := prec_asym W h h
    rcases h.2 with r | r
    · rw [h.1] at r; cases r
    · exact Nat.lt_irrefl _ r) s.lt s.len
  refine ⟨prec_uniq W ((insF_perm n).trans hp.symm) (insF_sorted W n) s.srt, prec_uniq W (((insB_perm n n (Nat.le_refl _)).trans ?_).trans hp.symm) (insB_sorted W n n (Nat.le_refl _)) s.srt⟩
  rw [Nat.sub_self, ← List.range_eq_range']
end
/-! ## the ways are the inversions -/
theorem countP_range (ws : List W) (p : W → Bool) : ∀ i, i ≤ ws.length → (List.range i).countP (fun j => p (ws.getD j [])) = (ws.take i).countP p
  | 0, _ => by simp
  | i + 1, h => by
    rw [List.range_succ, List.countP_append, countP_range ws p i (by omega), List.take_add_one, List.countP_append]
    congr 1
    have : ws[i]? = some ws[i] := by simp [Nat.lt_of_succ_le h]
    simp [List.getD_eq_getElem?_getD, this]
theorem countP_range' (ws : List W) (p : W → Bool) : ∀ i, i ≤ ws.length → (List.range' (ws.length - i) i).countP (fun j => p (ws.getD j [])) = (ws.drop (ws.length - i)).countP p
  | 0, _ => by simp
  | i + 1, h => by
    have hd : ws.drop (ws.length - (i + 1)) = ws[ws.length - (i + 1)] :: ws.drop (ws.length - i) := by
      rw [List.drop_eq_getElem_cons (by omega)]; congr 2; omega
    have e : List.range' (ws.length - (i + 1)) (i + 1) = (ws.length - (i + 1)) :: List.range' (ws.length - i) i := by
      rw [List.range'_succ]; congr 2; omega
    rw [e, hd, List.countP_cons, List.countP_cons, countP_range' ws p i (by omega)]
    have : ws[ws.length - (i + 1)]? = some ws[ws.length - (i + 1)] := List.getElem?_eq_getElem (by omega)
    simp [List.getD_eq_getElem?_getD, this]
def cW (ws : List W) (i j : Nat) : Bool := wlt (ws.getD i []) (ws.getD j [])
theorem cW_weak (ws : List W) : Weak (cW ws) := ⟨fun i j h => wlt_lin.asym h, fun i j k h1 h2 => wlt_lin.letr h1 h2⟩
theorem waysF (ws : List W) {i : Nat} (h : i < ws.length) : inv wlt (ws.take (i + 1)) = inv wlt (ws.take i) + (i - (insF (cW ws) i).countP fun j => !(cW ws i j)) := by
  have e : ws[i]? = some ws[i] := by simp [h]
  rw [List.take_add_one, e]
  show inv wlt (ws.take i ++ [ws[i]]) = _
  rw [inv_snoc]
  congr 1
  have h1 := List.length_eq_countP_add_countP (fun j => !(cW ws i j)) (l := insF (cW ws) i)
  rw [insF_len] at h1
  have h2 : (insF (cW ws) i).countP (fun j => decide ¬ (!(cW ws i j)) = true) = (List.range i).countP (fun j => wlt ws[i] (ws.getD j [])) := by
    rw [(insF_perm i).countP_eq]
    refine List.countP_congr fun j _ => ?_
    have : ws.getD i [] = ws[i] := by simp [List.getD_eq_getElem?_getD, h]
    show decide _ = true ↔ _
    unfold cW; rw [this]; cases wlt ws[i] (ws.getD j []) <;> simp
  rw [countP_range ws (fun y => wlt ws[i] y) i (Nat.le_of_lt h)] at h2
  omega
theorem waysB (ws : List W) {i : Nat} (h : i < ws.length) : inv wlt (ws.drop (ws.length - (i + 1))) = inv wlt (ws.drop (ws.length - i)) + (insB (cW ws) ws.length i).countP fun j => cW ws j (ws.length - 1 - i) := by
  have hd : ws.drop (ws.length - (i + 1)) = ws[ws.length - (i + 1)] :: ws.drop (ws.length - i) := by
    rw [List.drop_eq_getElem_cons (by omega)]; congr 2; omega
  rw [hd]
  show _ + inv wlt _ = _
  rw [Nat.add_comm]
  congr 1
  rw [(insB_perm ws.length i (Nat.le_of_lt h)).countP_eq, ← countP_range' ws (fun b => wlt b ws[ws.length - (i + 1)]) i (Nat.le_of_lt h)]
  refine List.countP_congr fun j _ => ?_
  have h3 : ws.length - 1 - i = ws.length - (i + 1) := by omega
  have : ws.getD (ws.length - (i + 1)) [] = ws[ws.length - (i + 1)] := by simp [List.getD_eq_getElem?_getD, show ws.length - (i + 1) < ws.length by omega]
  unfold cW; rw [h3, this]
end Mine
end
section
open PySem PySem.W PyProof.Rows PySem.Calls
set_option Elab.async false
set_option maxRecDepth 100000
set_option linter.unusedVariables false
set_option linter.unusedSimpArgs false
namespace Mine
section
variable {prog : Program} {w : World} {A : Around} {h : Heap} {env : Env}
theorem ltL_one (a b : W) : ltL [.s a] [.s b] = wlt a b := by
  by_cases e : a = b
  · subst e; simp [ltL, wlt]
  · simp [ltL, e, At.lt, wlt]
/-- sorted(l): things of one word each -/
theorem w_sortedT {base : Heap} {L l : Addr} {m : Str → Option Value} {vs : List Value} {ws : List W} {Q : Value → Heap → Prop} (F : Fr base L h m) (hl : h.IsList l vs.toArray)
    (hv : ∀ (i : Nat) (x : W), ws[i]? = some x → ∃ a, vs[i]? = some (Value.ref a) ∧ a ≠ L ∧ LA h a [.s x]) (hlen : vs.length = ws.length) (h1 : 1 ≤ ws.length) (h64 : ws.length < 64) (hu : A.units + 64 < cLine)
    (k : ∀ D p h', Sorted (cW ws) ws.length p → h.get? D = none → base.get? D = none → D ≠ L → Fr base L h' m → Kept [L] h h' → Ls h' D (p.map fun i => vs.getD i Value.none) → Q (.ref D) h') :
    Wp (model prog w) A (call (.builtin "sorted") [.ref l]) Q h := by
  rcases Nat.lt_or_ge 1 ws.length with h2 | h2
  · intro s hs
    subst hs
    have hgT : ∀ (h' : Heap), Kept [L] s.heap h' → ∀ i (x : i < ws.length), ∃ a, vs[i]? = some (Value.ref a) ∧ LA h' a [.s ws[i]] := fun h' kk i x => by
      obtain ⟨a, e1, e2, e3⟩ := hv i ws[i] (List.getElem?_eq_getElem x)
      exact ⟨a, e1, e3.kept kk (nmc e2 nm0)⟩
    refine kas_sorted (T := .type "list") (news := allNews base s.heap L) F (allNews_ok _ _ _) hl (by lia) (by lia) (fun h' F' N' v hv' => ?_) (by decide) (fun D e1 h' F' N' hD => ?_)
    · obtain ⟨i, hi, rfl⟩ := List.getElem_of_mem hv'
      obtain ⟨a, e2, vs', l2, _⟩ := hgT h' (kept_of_news F F' fun p hp => (N' p hp).1) i (by lia)
      have : vs[i] = .ref a := by simpa [hi] using e2
      rw [this]
      exact lookList l2
    · have hDL : D ≠ L := (N' (D, seqObj "list" #[] e1) (List.mem_cons_self ..)).2.1
      have hDb : base.get? D = none := (N' (D, seqObj "list" #[] e1) (List.mem_cons_self ..)).2.2
      have hDn : s.heap.get? D = none := by
        cases e : s.heap.get? D with
        | none => rfl
        | some o => exact absurd (hD _ (mem_allNews.mpr ⟨hDL, hDb, e⟩)) (Nat.lt_irrefl _)
      have hneD : ∀ p ∈ allNews base s.heap L, p.1 ≠ D := fun p hp => Nat.ne_of_lt (hD p hp)
      have k1 : Kept [L] s.heap h' := kept_of_news F F' fun p hp => (N' p (List.mem_cons_of_mem _ hp)).1
      rw [hlen]
      refine KOk.wp (c := cW ws) (n := ws.length) (P := fun p => Arr ws.length ws.length p ∧ Srt (cW ws) ws.length p) (fun s' => s' = { s with heap := h' }) (fun i j C s' hi hj hI hC => ?_) (fun p s' hp hI => ?_) (sort_ok (cW_weak ws) h2) rfl
      · subst hI
        obtain ⟨a, ea, la⟩ := hgT h' k1 i hi
        obtain ⟨b, eb, lb⟩ := hgT h' k1 j hj
        unfold kas_ask
        rw [show vs.getD i Value.none = .ref a by simp [List.getD_eq_getElem?_getD, ea], show vs.getD j Value.none = .ref b by simp [List.getD_eq_getElem?_getD, eb], keyLt'_oneType]
        refine oneLt_list (s := { s with heap := h' }) la lb rfl (show A.units + 1 + 1 < cLine by lia) ?_
        have e3 : cW ws i j = ltL [.s ws[i]] [.s ws[j]] := by
          rw [ltL_one]; unfold cW; rw [getD_of hi, getD_of hj]
        rw [← e3]; exact hC _ rfl
      · subst hI
        refine KasFin.intro F' N' (.head hneD) (fun h4 c4 F4 N4 => ⟨⟨rfl, rfl⟩, ?_⟩)
        exact k D p.toList h4 (sorted_of hp.1 hp.2) hDn hDb hDL F4 (kept_of_news F F4 fun p hp => (N4 p (List.mem_cons_of_mem _ hp)).1) ⟨c4, (N4 (D, _) (List.mem_cons_self ..)).1⟩
  · obtain ⟨v, rfl⟩ : ∃ v, vs = [v] := by
      match vs, hlen with
      | [v], _ => exact ⟨v, rfl⟩
      | [], hlen => simp at hlen; lia
      | _ :: _ :: _, hlen => simp at hlen; lia
    have hw1 : ws.length = 1 := Nat.le_antisymm h2 h1
    refine w_sortedOne hl (fun h' D e hD l' => ?_)
    have hz : h.objs.size ≤ D := by rw [hD]; exact Nat.le_succ _
    refine k D [0] h' ⟨hw1.symm, fun i hi => by rw [List.mem_singleton.mp hi, hw1]; exact Nat.one_pos, List.pairwise_singleton _ _⟩ (get_none hz) (get_none (Nat.le_trans F.above (Nat.le_trans (Nat.le_of_lt F.ns.lt) hz))) (Nat.ne_of_gt (Nat.lt_of_lt_of_le F.ns.lt hz)) (F.kept e) (Kept.of_ext e) l'
theorem foldl_rep (xs : List Value) : ∀ (n : Nat) (acc : Array Value), (List.foldl (fun x1 x2 => x1 ++ x2) acc (List.replicate n xs.toArray)).toList = acc.toList ++ (List.replicate n xs).flatten
  | 0, acc => by simp
  | n + 1, acc => by
    rw [List.replicate_succ, List.foldl_cons, foldl_rep xs n, List.replicate_succ, List.flatten_cons]
    simp
/-- a list some times -/
theorem w_mulList {l : Addr} {xs : List Value} {x : Int} {n : Nat} {u : Tok} {Q : Value → Heap → Prop} (hl : Ls h l xs) (hx : x = n) (hne : xs ≠ []) (hz : xs.length * n ≤ 16777216) (hn : n ≤ 16777216)
    (k : ∀ h', Ext h h' → h'.objs.size = h.objs.size + 1 → Ls h' h.objs.size (List.replicate n xs).flatten → Q (.ref h.objs.size) h') :
    Wp (model prog w) A (binaryOp .Mult (.ref l) (.int x u)) Q h := fun s hs => by
  subst hs
  have hxn : x.toNat = n := by rw [hx]; exact Int.toNat_natCast n
  have hxp : 0 ≤ x ∧ x ≤ 16777216 := by omega
  clear hx
  subst hxn
  obtain ⟨hx0, hx1⟩ := hxp
  have hz' : xs.toArray.size * x.toNat ≤ 16777216 := by rw [List.size_toArray]; exact hz
  obtain ⟨nn, e⟩ := hl
  refine wpAny_binaryOp_repeat_ref (T := "list") (U := "int") (by decide) ⟨_, e, rfl⟩ (fun s' => typeIs_int s' _ u) noFill_list_mul F.fills_int_mul F.slot_int_rmul repeat_list F.slot_int_index.lookup
    (call_meets F.slot_int_rmul (typeIs_int s _ u) F.entry_int_rmul (F.args_int_rmul_2 _ _) (int___rmul___int_list _ u l xs.toArray nn)
      ⟨e, rfl, ⟨_, e, rfl⟩, call_meets F.slot_list_mul ⟨_, e, rfl⟩ F.entry_list_mul (F.args_list_mul_2 _ _)
        (AutoListH.list___mul___list_int_3 l xs.toArray nn _ u (by simp [Builtin.List.listFitsIndex]; omega) (by omega) (by simp [Builtin.List.listTooLong, sizeLine]; omega))
        ⟨e, ⟨rfl, rfl⟩, k _ (Ext.push _ _) (by simp) ?_⟩⟩)
  have hemp : xs.toArray.isEmpty = false := by cases xs with | nil => exact absurd rfl hne | cons a b => rfl
  rw [hemp]
  have := Ls.new s.heap (List.replicate x.toNat xs).flatten
  have e2 : List.foldl (fun x1 x2 => x1 ++ x2) #[] (List.replicate x.toNat xs.toArray) = ((List.replicate x.toNat xs).flatten).toArray := by
    apply Array.toList_inj.mp
    rw [foldl_rep]; simp
  simpa [lst, e2] using this
/-- names from a tuple that an expression gives -/
theorem w_asgTup {elts : List Expr} {tp pos : Pos} {kk : Nat} {value : Expr} {Q : Flow → Heap → Prop}
    (x : Wp (model prog w) A (eval value env) (fun v h₁ => Wp (model prog w) A (assign (.Tuple elts kk tp) env v) (fun _ => Q .next) h₁) h)
    (hs : swapsWithSole [.Tuple elts kk tp] value pos.line env = pure false := by rfl) (hw : swappedStores [.Tuple elts kk tp] value env = pure none := by rfl) :
    Wp (model prog w) A (exec (.Assign [.Tuple elts kk tp] value pos) env) Q h := by
  intro s hs'
  refine Assign_Tuple (wpAny_mono (x s hs') (fun v s₁ y => ?_) fun _ _ z => z) hs hw
  exact wpAny_mono (y.2 s₁ rfl) (fun _ s₂ z => ⟨⟨z.1.1.trans y.1.1, z.1.2.trans y.1.2⟩, z.2⟩) fun _ _ z => z
/-- two cells are bound to a pair -/
theorem w_asgTup2C {a b : Str} {pa pb tp : Pos} {kk : Nat} {T ca cb : Addr} {x y : Value} {va vb : Option Value} {Q : Unit → Heap → Prop} (hh : A.handled = none) (ht : h.get? T = some (tpl [x, y])) (hca : env.cells.lookup a = some ca) (hcb : env.cells.lookup b = some cb)
    (ia : h.IsCell ca va) (ib : h.IsCell cb vb) (hne : ca ≠ cb) (k : ∀ h', h'.IsCell ca (some x) → h'.IsCell cb (some y) → Kept [ca, cb] h h' → Q () h')
    (hk : env.scope.kind = .function := by rfl) (ha : env.kindOf a = some .cell := by rfl) (hb : env.kindOf b = some .cell := by rfl) :
    Wp (model prog w) A (assign (.Tuple [.Name a pa, .Name b pb] kk tp) env (.ref T)) Q h := fun s hs => by
  subst hs
  refine wpAny_assign_Tuple hh (items := #[x, y]) ⟨_, ht, rfl, 0, rfl⟩ rfl rfl (fun h' he => ?_)
  have e1 : Ext s.heap h' := fun b o e => he b o (Nat.ne_of_lt (Heap.lt_size e)) e
  show wpAny _ _ (assignInOrder [assign (.Name a pa) env, assign (.Name b pb) env] [x, y]) _ _ _
  refine assignInOrder_cons ?_
  refine Wp.run (w_asgName (w_storeC (Q := fun _ h2 => h2.IsCell ca (some x) ∧ Heap.SameBut ca h' h2) hca (ia.keeps e1) (fun h2 i2 sb2 => ⟨i2, sb2⟩) hk ha) : Wp (model prog w) A _ _ h') (fun _ s2 o2 g2 z => ?_)
  obtain ⟨i2, sb2⟩ := z
  have ib2 : s2.heap.IsCell cb vb := let ⟨o, q, r⟩ := ib.keeps e1; ⟨o, (sb2.2 _ hne.symm).trans q, r⟩
  refine assignInOrder_cons ?_
  refine Wp.run (w_asgName (w_storeC (Q := fun _ h3 => h3.IsCell cb (some y) ∧ Heap.SameBut cb s2.heap h3) hcb ib2 (fun h3 i3 sb3 => ⟨i3, sb3⟩) hk hb) : Wp (model prog w) A _ _ s2.heap) (fun _ s3 o3 g3 z => ?_)
  obtain ⟨i3, sb3⟩ := z
  refine assignInOrder_nil ⟨⟨o3.trans o2, g3.trans g2⟩, k s3.heap ?_ i3 ?_⟩
  · exact let ⟨o, q, r⟩ := i2; ⟨o, (sb3.2 _ hne).trans q, r⟩
  · exact (Kept.of_ext e1).trans ((Kept.of_same sb2 im1).trans (Kept.of_same sb3 im2))
/-- a, b, c = x, y, z -/
theorem w_asgSwap3 {base : Heap} {L : Addr} {m : Str → Option Value} {a b c : Str} {pa pb pc tp pos : Pos} {kk : Nat} {value : Expr} {Q : Flow → Heap → Prop} (hh : A.handled = none)
    (x : Wp (model prog w) A (eval value env) (fun v h₁ => ∃ T x y z, v = .ref T ∧ h₁.get? T = some (tpl [x, y, z]) ∧ Fr base L h₁ m ∧ ∀ h', Fr base L h' (fun u => if u = a then some x else if u = b then some y else if u = c then some z else m u) → Kept [L] h₁ h' → Q .next h') h)
    (hL : env.locals = L) (ha : env.kindOf a = some .local) (hb : env.kindOf b = some .local) (hc : env.kindOf c = some .local) (hp : (env.scope.kind == .class || (env.scope.kind == .module && env.locals != env.globals)) = false)
    (hs : swapsWithSole [.Tuple [.Name a pa, .Name b pb, .Name c pc] kk tp] value pos.line env = pure false := by rfl)
    (hw : swappedStores [.Tuple [.Name a pa, .Name b pb, .Name c pc] kk tp] value env = pure (some [a, b, c]) := by rfl) :
    Wp (model prog w) A (exec (.Assign [.Tuple [.Name a pa, .Name b pb, .Name c pc] kk tp] value pos) env) Q h := by
  intro s hs'
  refine Assign_Tuple_swapped (names := [a, b, c]) (wpAny_mono (x s hs') (fun v s₁ y => ?_) fun _ _ z => z) hs hw
  obtain ⟨og, T, x, y, z, rfl, hT, X, k⟩ := y
  show wpAny _ _ (unpackItems (.ref T) (#[x, y, z] : Array Value).size none) _ _ _
  refine wpAny_unpackItems_tuple hh ⟨_, hT, rfl, 0, rfl⟩ (fun h' he => ?_)
  have e1 : Ext s₁.heap h' := fun b o e => he b o (Nat.ne_of_lt (Heap.lt_size e)) e
  have X' := X.kept e1
  show wpAny _ _ (assignInOrder [fun v => bindName env c v, fun v => bindName env b v, fun v => bindName env a v] [z, y, x]) _ _ _
  refine assignInOrder_cons ?_
  refine wpAny_bindName (Wp.run (w_stS (Q := fun _ h2 => Fr base L h2 (fun u => if u = c then some z else m u) ∧ Heap.SameBut L h' h2) X' (fun h2 X2 sb2 => ⟨X2, sb2⟩) hL hc hp) (fun _ s2 o2 g2 u => ?_))
  obtain ⟨X2, sb2⟩ := u
  refine assignInOrder_cons ?_
  refine wpAny_bindName (Wp.run (w_stS (Q := fun _ h3 => Fr base L h3 (fun u => if u = b then some y else if u = c then some z else m u) ∧ Heap.SameBut L s2.heap h3) X2 (fun h3 X3 sb3 => ⟨X3, sb3⟩) hL hb hp) (fun _ s3 o3 g3 u => ?_))
  obtain ⟨X3, sb3⟩ := u
  refine assignInOrder_cons ?_
  refine wpAny_bindName (Wp.run (w_stS (Q := fun _ h4 => Fr base L h4 (fun u => if u = a then some x else if u = b then some y else if u = c then some z else m u) ∧ Heap.SameBut L s3.heap h4) X3 (fun h4 X4 sb4 => ⟨X4, sb4⟩) hL ha hp) (fun _ s4 o4 g4 u => ?_))
  obtain ⟨X4, sb4⟩ := u
  refine assignInOrder_nil ?_
  refine ⟨⟨o4.trans (o3.trans (o2.trans og.1)), g4.trans (g3.trans (g2.trans og.2))⟩, k s4.heap X4 ?_⟩
  exact (Kept.of_ext e1).trans ((Kept.of_same sb2 im1).trans ((Kept.of_same sb3 im1).trans (Kept.of_same sb4 im1)))
end
end Mine
end
section
open PySem PySem.W PyProof.Rows PySem.Calls
set_option Elab.async false
set_option maxRecDepth 100000
set_option linter.unusedVariables false
set_option linter.unusedSimpArgs false
namespace Mine
abbrev aMo : Addr := 142
abbrev tabM : Addr := 139
abbrev codeM : Addr := 141
abbrev nLn : Str := Str.ofString "line"
abbrev nThings : Str := Str.ofString "things"
abbrev nDue : Str := Str.ofString "due"
abbrev nFront : Str := Str.ofString "front"
abbrev nBack : Str := Str.ofString "back"
abbrev nWays : Str := Str.ofString "ways"
abbrev nWaysB : Str := Str.ofString "ways_back"
abbrev nGave : Str := Str.ofString "gave"
abbrev nLow : Str := Str.ofString "low"
abbrev nMoved : Str := Str.ofString "moved"
abbrev nAt : Str := Str.ofString "at"
abbrev nThing : Str := Str.ofString "thing"
noncomputable abbrev moE (w : World) (L : Addr) : Env := callEnvC (fnAt w aMo) L aMo
noncomputable abbrev moB (w : World) : List Stmt := bodyAt w aMo
noncomputable def lamOfM (s : Stmt) : Option (Arguments × Expr × Scope × Pos) := match s with
  | .Assign _ (.Subscript (.List [_, .Lambda p b sc pos] _) _ _) _ => some (p, b, sc, pos)
  | _ => none
noncomputable def lamM (w : World) : Arguments × Expr × Scope × Pos := (lamOfM (((moB w)[3]?).getD (.Pass ⟨0, 0, 0, 0⟩))).getD (⟨[], [], none, [], [], none, []⟩, .Constant .none 0 ⟨0, 0, 0, 0⟩, default, ⟨0, 0, 0, 0⟩)
def lamQ : Str := (Str.ofString "_law_moved" ++ Str.ofString ".<locals>.") ++ Str.ofString "<lambda>"
noncomputable def placesM (w : World) : List (Pos × Str) := [((lamM w).2.2.2, lamQ)]
/-- the sort's key -/
def KM (w : World) (h : Heap) (kv : Value) (f c' : Addr) (odd : Bool) : Prop := if odd = true then kv = .ref f ∧ (∃ pm ctv, h.get? f = some (kla_obj "<lambda>" lamQ (lamM w).1 (lamM w).2.1 (lamM w).2.2.1 [] pm c' ctv)) ∧ h.CodeRec (.ref c') lamQ else kv = .none
theorem KM.kept {w : World} {h h' : Heap} {kv : Value} {f c' : Addr} {odd : Bool} {S : List Addr} (x : KM w h kv f c' odd) (k : Kept S h h') (hf : odd = true → f ∉ S ∧ c' ∉ S) : KM w h' kv f c' odd := by
  unfold KM at x ⊢
  cases odd with
  | false => exact x
  | true =>
    obtain ⟨a, ⟨pm, ctv, e⟩, r⟩ := x
    obtain ⟨h1, h2⟩ := hf rfl
    exact ⟨a, ⟨pm, ctv, k _ _ h1 e⟩, CodeRec.kept r k h2⟩
section
variable {prog : Program} {w : World} {A : Around} {h base H : Heap} {mg mb : Str → Option Value} {L : Addr} {env : Env}
theorem lam_keyM {n : Nat} {f c' : Addr} {params : Arguments} {body : Expr} {scope : Scope} {pm ctv : Value} (hlim : h.NoLimit) (hf : h.get? f = some (kla_obj "<lambda>" lamQ params body scope [] pm c' ctv)) (hrec : h.CodeRec (.ref c') lamQ)
    (hbind : ∀ v, bindArgs (kla_fn "<lambda>" lamQ params body scope [] pm (.ref c') ctv) ⟨[v], []⟩ = pure [(nThing, v)]) (hcell : (scope.names.all fun x => x.2 != .cell) = true) (hloc : scope.names.lookup nThing = some .local)
    (hco : scope.isCoroutine = false) (hgen : scope.isGenerator = false) (hk : scope.kind = .function)
    {p1 p2 p3 : Pos} {k4 : Nat} (hbody : body = .Subscript (.Name nThing p1) (.Constant (.int 0) k4 p2) p3) {a : Addr} {x : Value} (hl : h.IsList a [x].toArray) : KeyIs (n + 1) prog w h (.ref f) (.ref a) x := by
  intro A h' Q ok e k
  subst hbody
  refine w_call ?_
  refine c_callE (by have := ok.depth; lia) (e _ _ hf) rfl (hlim.keeps e) (CodeRec.keptTo hrec fun o ho => e _ _ ho) rfl (hbind _) (fun x hx => by simpa using List.all_eq_true.mp hcell x hx) (fun y hy => by simp only [List.mem_singleton] at hy; subst hy; exact hloc) (fun L h₁ hL F => ?_) hco hgen hk
  refine w_sub ?_
  refine w_nm F.ns rfl ?_ hk hloc
  refine w_cInt fun _ => ?_
  refine w_itemL (j := 0) (IsList.ext (IsList.ext hl e) F.keep) rfl (by simp [sizeLine_eq]) ?_
  exact k _ F.keep
theorem KM.key {n : Nat} {kv : Value} {f c' a : Addr} {x : Value} (K : KM w h kv f c' true) (hlim : h.NoLimit) (hl : h.IsList a [x].toArray) : KeyIs (n + 1) prog w h kv (.ref a) x := by
  unfold KM at K
  rw [if_pos rfl] at K
  obtain ⟨rfl, ⟨pm, ctv, e⟩, r⟩ := K
  exact lam_keyM hlim e r (fun _ => by kernel_rfl) rfl rfl rfl rfl rfl rfl hl
theorem w_range2 {a b : Int} {t u : Tok} {Q : Value → Heap → Prop} (k : ∀ h' r t1 t2 t3, r = h.objs.size → Ext h h' → h'.objs.size = h.objs.size + 1 → IsRange h' r a b 1 t1 t2 t3 → Q (.ref r) h') :
    Wp (model prog w) A (call (.type "range") [.int a t, .int b u]) Q h := fun s hs => by
  subst hs
  exact call_range_2 ⟨⟨rfl, rfl⟩, k _ _ _ _ _ rfl (Ext.push _ _) (by simp) (IsRange.new ..)⟩
/-- the things: a list for each word -/
structure Things (h : Heap) (tys : List Value) (ws : List W) (lo hi : Addr) : Prop where
  len : tys.length = ws.length
  at_ : ∀ (j : Nat) (x : W), ws[j]? = some x → ∃ T t, tys[j]? = some (Value.ref T) ∧ Ls h T [.str (S x) t] ∧ lo < T ∧ T < hi
theorem Things.kept {h h' : Heap} {tys : List Value} {ws : List W} {lo hi : Addr} {S : List Addr} (X : Things h tys ws lo hi) (k : Kept S h h') (hS : ∀ s ∈ S, s ≤ lo ∨ hi ≤ s) : Things h' tys ws lo hi :=
  ⟨X.len, fun j x e => by
    obtain ⟨T, t, e1, l, b1, b2⟩ := X.at_ j x e
    refine ⟨T, t, e1, lsKept l k fun m => ?_, b1, b2⟩
    rcases hS T m with q | q
    · exact absurd b1 (Nat.not_lt.mpr q)
    · exact absurd b2 (Nat.not_lt.mpr q)⟩
theorem Things.rehi {h : Heap} {tys : List Value} {ws : List W} {lo hi : Addr} (X : Things h tys ws lo hi) : Things h tys ws lo h.objs.size :=
  ⟨X.len, fun j x e => let ⟨T, t, e1, l, b1, b2⟩ := X.at_ j x e; ⟨T, t, e1, l, b1, l.lt⟩⟩
set_option maxHeartbeats 4000000 in
theorem mo1 {n : Nat} {line : Addr} {lys : List Value} {ws : List W} {m : Str → Option Value} {Q : Flow → Heap → Prop} (GB : Gd w mg mb H base) (ok : OkA (n + 4) A) (F : Fr base L h m) (hcb : ∀ i, L ≤ i → base.get? i = none)
    (c1 : h.IsCell (L + 1) none) (c3 : L + 3 < h.objs.size) (hu : A.units + 64 < cLine) (hln : m nLn = some (.ref line)) (lL : Ls h line lys) (sL : Strs lys ws) (hz : ws.length ≤ 20) (hn1 : 1 ≤ ws.length) (hlL : line < L) (hPL : tabM < L)
    (k : ∀ h' m' TL DU tys p B, Fr base L h' m' → Kept [L, L + 1] h h' → h'.IsCell (L + 1) (some (.ref DU)) → Ls h' TL tys → Ls h' DU (tys ++ (p.map fun i => tys.getD i Value.none) ++ tys) → Things h' tys ws (L + 3) B → Sorted (cW ws) ws.length p → B ≤ h'.objs.size → L + 3 < TL → L + 3 < DU → TL ≠ DU →
      (∃ t, m' nSize = some (.int (ws.length : Nat) t)) → m' nThings = some (.ref TL) → Wp (model prog w) A (execs ((moB w).drop 3) (moE w L)) Q h') :
    Wp (model prog w) A (execs (moB w) (moE w L)) Q h := by
  have hlen := sL.length
  have X : Fs base h [L, L + 1] L h m := Fs.mk0 F _
  have ctx : ∀ {h' m'}, Fr base L h' m' → Gd w mg mb H h' := fun F' => GB.ext F'.keep
  refine w_cons ?_
  refine w_asg ?_
  refine w_callN ?_
  refine w_gB (v := .builtin "len") (ctx F).now (by kernel_rfl) (by kernel_rfl) (by decide) ?_
  refine w_args ?_
  refine w_arg ?_
  refine w_nm F.ns hln ?_
  refine w_arg0 ?_
  refine w_kw0 ⟨Kp.builtin _, ?_⟩
  refine w_lenList lL.isList (by simp; lia) fun tn => ?_
  rw [show (lys.toArray.size : Int) = ((ws.length : Nat) : Int) by simp; lia]
  refine w_stF X (fun h1 X1 sb1 => ?_) im1
  have lL1 := lL.same sb1 (Nat.ne_of_lt hlL)
  have c11 : h1.IsCell (L + 1) none := let ⟨o, a, b⟩ := c1; ⟨o, (sb1.2 _ (adne (by decide))).trans a, b⟩
  refine w_cons ?_
  refine w_asgLc X1 (cl := []) (Nat.zero_le _) rfl rfl rfl rfl rfl rfl im1 rfl rfl ?_
  refine w_nm X1.ns hln ?_
  refine ⟨lys.length, _, [line], iterList (.inl rfl) ok.3 lL1.isList, by rw [sizeLine_eq]; lia, fun b hb => by rw [List.mem_singleton.mp hb]; exact lL1.lt, Ext.refl _,
    (fun b0 i ys h' => ys.length = i ∧ ∀ (j : Nat) (x : W), j < i → ws[j]? = some x → ∃ T t, ys[j]? = some (Value.ref T) ∧ Ls h' T [.str (S x) t] ∧ b0 ≤ T), ⟨fun b0 i ys h1' h2' ⟨e, j⟩ off => ⟨e, fun jj x a b => ?_⟩, fun b0 => ⟨rfl, fun j x a _ => absurd a (Nat.not_lt_zero _)⟩, fun b0 C i v ys h' mm hiN hC hbC hv hJ kk hy ns => ?_⟩, fun b0 ys D C h'' h2 hD hDC hCb hLn l2 hy hJ kk ex X2 => ?_⟩
  · obtain ⟨T, t, e1, l, b2⟩ := j jj x a b
    exact ⟨T, t, e1, l.off off (.inr b2), b2⟩
  · obtain ⟨hJ1, hJ2⟩ := hJ
    obtain ⟨x, t, hx, rfl⟩ := sL.get' hv
    refine w_asgName ?_
    refine w_store (env := compEnvC _ [] C (moE w L)) (m := mm) ns (fun h2' n2 sb2' => ?_) rfl rfl
    show Wp _ _ _ _ _
    refine w_list ?_
    refine w_arg ?_
    refine w_nm n2 (if_pos rfl) ?_
    refine w_arg0 ⟨by simp [sizeLine_eq], fun h3' T eT e3 l3 z3 => ⟨(Kept.of_same sb2' im1).trans (Kept.of_ext e3), ⟨_, n2.keeps e3⟩, ?_, fun j y hj hy' => ?_⟩⟩
    · simp [hJ1]
    · have hCh : C < h2'.objs.size := n2.lt
      by_cases q : j < i
      · obtain ⟨T', t', e1, l, b⟩ := hJ2 j y q hy'
        refine ⟨T', t', by rw [List.getElem?_append_left (by lia)]; exact e1, (l.same sb2' ?_).ext e3, b⟩
        rw [hbC] at b; exact Nat.ne_of_gt b
      · have : j = i := by lia
        subst this
        rw [hx] at hy'; cases hy'
        refine ⟨T, t, by rw [List.getElem?_append_right (by lia), hJ1]; simp, l3, ?_⟩
        rw [hbC, eT]; exact hCh
  obtain ⟨j1, j2⟩ := hJ
  have hs1 : h1.objs.size = h.objs.size := sb1.1
  have hDL : D ≠ L := Nat.ne_of_gt (Nat.lt_of_lt_of_le hLn hD)
  have Th2 : Things h2 ys ws (L + 3) h2.objs.size := ⟨by rw [j1, hlen], fun j x e => by
    have hjl : j < lys.length := by rw [hlen]; exact (List.getElem?_eq_some_iff.mp e).1
    obtain ⟨T, t, e1, l, b⟩ := j2 j x hjl e
    have hCT : C < T := Nat.lt_of_lt_of_le hCb b
    have hDT : D < T := Nat.lt_trans hDC hCT
    have l' : Ls h2 T [.str (S x) t] := lsKept l kk (nmc (Nat.ne_of_gt (Nat.lt_trans (Nat.lt_of_lt_of_le hLn hD) hDT)) (nmc (Nat.ne_of_gt hCT) nm0))
    exact ⟨T, t, e1, l', Nat.lt_trans (Nat.lt_of_lt_of_le (hs1 ▸ c3) hD) hDT, l'.lt⟩⟩
  have hL1 : L + 1 < h1.objs.size := let ⟨o, a, _⟩ := c11; Heap.lt_size a
  have c12 : h2.IsCell (L + 1) none := let ⟨o, a, b⟩ := c11; ⟨o, kk _ _ (nmc (adne (by decide)) (nmc (Nat.ne_of_lt (Nat.lt_trans (Nat.lt_of_lt_of_le hL1 hD) hDC)) nm0)) (ex _ _ a), b⟩
  have hyl : ys.length = ws.length := Th2.len
  refine w_cons ?_
  refine w_asg ?_
  refine w_binOp ?_
  refine w_binOp ?_
  refine w_nm X2.ns rfl ?_
  refine w_callN ?_
  refine w_gB (v := .builtin "sorted") (ctx X2.F).now (by kernel_rfl) (by kernel_rfl) (by decide) ?_
  refine w_args ?_
  refine w_arg ?_
  refine w_nm X2.ns rfl ?_
  refine w_arg0 ?_
  refine w_kw0 ⟨Kp.builtin _, ?_⟩
  refine w_sortedT X2.F l2.isList (fun i x e => ?_) hyl hn1 (by lia) hu (fun D3 p h3 sp hD0 hDb hDL3 F3 k3 lD3 => ?_)
  · obtain ⟨T, t, e1, l, b1, b2⟩ := Th2.at_ i x e
    exact ⟨T, e1, Nat.ne_of_gt (Nat.lt_of_le_of_lt (Nat.le_add_right _ _) b1), ⟨_, l, ⟨⟨t, rfl⟩, trivial⟩⟩⟩
  have hp : p.length = ws.length := sp.len
  have X3 : Fs base h [L, L + 1] L h3 _ := ⟨F3, X2.K.trans (k3.mono (Mine.sb1 im1))⟩
  have l3 : Ls h3 D ys := lsKept l2 k3 (nmc hDL nm0)
  have c13 : h3.IsCell (L + 1) none := let ⟨o, a, b⟩ := c12; ⟨o, k3 _ _ (nmc (adne (by decide)) nm0) a, b⟩
  refine w_addList l3 lD3 (by rw [sizeLine_eq, List.length_map, hp, hyl]; lia) (fun h4 e4 l4 z4 => ?_)
  have X4 := X3.ext e4
  refine w_nm X4.ns rfl ?_
  refine w_addList l4 (l3.ext e4) (by rw [sizeLine_eq, List.length_append, List.length_map, hp, hyl]; lia) (fun h5 e5 l5 z5 => ?_)
  have X5 := X4.ext e5
  have c15 : h5.IsCell (L + 1) none := (c13.keeps e4).keeps e5
  have hc : base.get? (L + 1) = none := hcb _ (Nat.le_add_right _ _)
  refine w_storeC (c := L + 1) rfl c15 (fun h6 c6 sb6 => ?_)
  have X6 := X5.kept (T := [L + 1]) (Kept.of_same sb6 im1) (List.forall_mem_singleton.mpr hc) (nmc (adne (by decide)).symm nm0) (fun a ha => .inl (by rw [List.mem_singleton.mp ha]; exact im2))
  have hD4 : L + 3 < h4.objs.size := Nat.lt_trans (hs1 ▸ c3) (Nat.lt_of_le_of_lt hD (l3.ext e4).lt)
  have hDne : D ≠ L + 1 := Nat.ne_of_gt (Nat.lt_of_lt_of_le hL1 hD)
  have Th4 : Things h4 ys ws (L + 3) h4.objs.size := ((Th2.kept k3 (fun s hs => .inl (by rw [List.mem_singleton.mp hs]; exact Nat.le_add_right _ _))).kept (Kept.of_ext (S := []) e4) sb0').rehi
  have k46 : Kept [L + 1] h4 h6 := (Kept.of_ext e5).trans (Kept.of_same sb6 im1)
  have hz6 : h6.objs.size = h4.objs.size + 1 := (sb6.1).trans z5
  refine k h6 _ D h4.objs.size ys p h4.objs.size X6.F X6.K c6 (lsKept (l3.ext e4) k46 (nmc hDne nm0)) (l5.same sb6 ?_) (Th4.kept k46 (fun s hs => .inl (by rw [List.mem_singleton.mp hs]; exact Nat.add_le_add_left (by decide) L))) sp (by rw [hz6]; exact Nat.le_succ _) ?_ hD4 ?_ ⟨tn, rfl⟩ rfl
  · exact Nat.ne_of_gt (Nat.lt_trans (Nat.add_lt_add_left (by decide) L) hD4)
  · exact Nat.lt_of_lt_of_le (hs1 ▸ c3) hD
  · exact Nat.ne_of_lt (l3.ext e4).lt
end
end Mine
end
section
open PySem PySem.W PyProof.Rows PySem.Calls
set_option Elab.async false
set_option maxRecDepth 100000
set_option linter.unusedVariables false
set_option linter.unusedSimpArgs false
namespace Mine
section
variable {prog : Program} {w : World} {A : Around} {h base H : Heap} {mg mb : Str → Option Value} {L : Addr} {env : Env}
theorem code_ne_ns {c : Addr} {q : Str} {m : Str → Option Value} (r : h.CodeRec (.ref c) q) (ns : h.Ns L m) : c ≠ L := by
  rintro rfl
  obtain ⟨o, vs, e1, e2⟩ := CodeRec.fields r
  obtain ⟨o', es, epo, e', hd', _⟩ := ns
  rw [e1] at e'; cases e'; rw [e2] at hd'; cases hd'
theorem code_ne_ls {c l : Addr} {q : Str} {xs : List Value} (r : h.CodeRec (.ref c) q) (hl : Ls h l xs) : c ≠ l := by
  rintro rfl
  obtain ⟨o, vs, e1, e2⟩ := CodeRec.fields r
  obtain ⟨n, e⟩ := hl
  rw [e1] at e; cases e; cases e2
theorem code_ne_cell {c l : Addr} {q : Str} {v : Option Value} (r : h.CodeRec (.ref c) q) (hl : h.IsCell l v) : c ≠ l := by
  rintro rfl
  obtain ⟨o, vs, e1, e2⟩ := CodeRec.fields r
  obtain ⟨o', e, hd⟩ := hl
  rw [e1] at e; cases e; rw [e2] at hd; cases hd
theorem mod2 (n : Nat) : ((n : Int)).fmod 2 = ((n % 2 : Nat) : Int) := by
  rw [Int.fmod_eq_emod_of_nonneg _ (by decide)]; lia
theorem rep3 (xs : List Value) : (List.replicate 3 xs).flatten = xs ++ xs ++ xs := by simp [List.replicate]
def oddN (n : Nat) : Bool := n % 2 == 1
set_option maxHeartbeats 4000000 in
theorem mo2 {n : Nat} {TL : Addr} {tys : List Value} {ws : List W} {B : Addr} {ts : Tok} {m : Str → Option Value} {RR : Addr → Prop} {Q : Flow → Heap → Prop} (GB : Gd w mg mb H base) (ok : OkA (n + 4) A) (F : Fr base L h m) (hcb : ∀ i, L ≤ i → base.get? i = none)
    (T : TabR RR H h tabM (placesM w)) (hRR : ∀ c, h.objs.size ≤ c → RR c) (C : CodeHd H codeM tabM) (hb : H.BuiltinsAt mg tabM) (hPb : base.get? tabM = none) (hPH : H.get? tabM = none) (hPL : tabM < L)
    (c2 : h.IsCell (L + 2) none) (c3 : h.IsCell (L + 3) none) (ms : m nSize = some (.int (ws.length : Nat) ts)) (mt : m nThings = some (.ref TL)) (lT : Ls h TL tys) (hty : tys.length = ws.length) (hz : ws.length ≤ 20) (hn1 : 1 ≤ ws.length) (hB : B ≤ h.objs.size) (hTL : L < TL) (hTB : TL ≠ L + 2 ∧ TL ≠ L + 3)
    (k : ∀ h' m' FR BK GV kv f c', Fr base L h' m' → Kept [L, L + 2, L + 3, tabM] h h' → TabR RR H h' tabM (placesM w) → KM w h' kv f c' (oddN ws.length) → (oddN ws.length = true → f ∉ [L, FR, BK, GV] ∧ c' ∉ [L, FR, BK, GV]) → h'.IsCell (L + 2) (some (.ref FR)) → h'.IsCell (L + 3) (some (.ref BK)) → Ls h' FR (tys ++ tys ++ tys) → Ls h' BK (tys ++ tys ++ tys) → Ls h' GV [] →
      h.objs.size ≤ FR → FR < BK → BK < GV → (∃ t, m' nSize = some (.int (ws.length : Nat) t)) → m' nKey = some kv → (∃ t, m' nWays = some (.int 0 t)) → (∃ t, m' nWaysB = some (.int 0 t)) → m' nGave = some (.ref GV) → Wp (model prog w) A (execs ((moB w).drop 6) (moE w L)) Q h') :
    Wp (model prog w) A (execs ((moB w).drop 3) (moE w L)) Q h := by
  have ctx : ∀ {h' m'}, Fr base L h' m' → Gd w mg mb H h' := fun F' => GB.ext F'.keep
  have hLT : L ≠ tabM := Nat.ne_of_gt hPL
  have hLh : L < h.objs.size := F.ns.lt
  refine w_cons ?_
  refine w_asg ?_
  refine w_sub ?_
  refine w_list ?_
  refine w_arg ?_
  refine w_cNone ?_
  refine w_arg ?_
  refine w_lambda (by rfl) ?_
  refine w_makeLam (c := codeM) (P := tabM) (qual := lamQ) (mg := mg) (places := placesM w) (clos := []) T hRR (ctx F).E (List.mem_singleton.mpr rfl) (fun q hq _ _ => by rw [List.mem_singleton.mp hq]) (by rfl) rfl (ctx F).now.g rfl (C.keeps (ctx F).E) (BuiltinsAt.ext hb (ctx F).E) (fun h1 f c' ctv eb T1 hf1 hf2 hfn hrec hHc hcf hcP => ?_)
  have k1 : Kept [tabM] h h1 := fun b o nb e => eb b o (fun q => nb (by rw [q]; exact im1)) e
  have F1 := frKept F k1 (List.forall_mem_singleton.mpr hPb) (nmc hLT nm0)
  refine w_arg0 ⟨by simp [sizeLine_eq], fun h2 kl ekl e2 l2 z2 => ?_⟩
  have F2 := F1.kept e2
  refine w_binOp ?_
  refine w_nm F2.ns ms ?_
  refine w_cInt fun _ => ?_
  refine w_modInt (by decide) fun _ => ?_
  rw [mod2]
  have hm2 : ws.length % 2 < 2 := Nat.mod_lt _ (by decide)
  have hfL : f ≠ L := Nat.ne_of_gt (Nat.lt_of_lt_of_le hLh hf1)
  have T2 := T1.ext e2
  have hrec2 : h2.CodeRec (.ref c') lamQ := CodeRec.keptTo hrec fun o ho => e2 _ _ ho
  have hcL : c' ≠ L := code_ne_ns hrec2 F2.ns
  obtain ⟨kv, hkv, hkm⟩ : ∃ kv, [Value.none, .ref f][ws.length % 2]? = some kv ∧ ∀ h', h'.get? f = h2.get? f → h'.get? c' = h2.get? c' → KM w h' kv f c' (oddN ws.length) := by
    rcases Nat.mod_two_eq_zero_or_one ws.length with q | q
    · refine ⟨.none, by rw [q]; rfl, fun h' _ _ => ?_⟩
      unfold KM oddN; rw [q]; exact rfl
    · refine ⟨.ref f, by rw [q]; rfl, fun h' ef ec => ?_⟩
      unfold KM oddN; rw [q]
      exact ⟨rfl, ⟨_, _, ef.trans (e2 _ _ hfn)⟩, CodeRec.keptTo hrec2 fun o ho => ec.trans ho⟩
  refine w_itemL (j := ws.length % 2) l2.isList hkv (by simp [sizeLine_eq]) ?_
  refine w_stS F2 fun h3 F3 sb3 => ?_
  have T3 := T2.same F2.ns sb3 hLT.symm
  have k13 : Kept [L] h1 h3 := (Kept.of_ext e2).trans (Kept.of_same sb3 im1)
  have cK : ∀ {i v}, i ≠ L → i ≠ tabM → h.IsCell i v → h3.IsCell i v := fun a b ⟨o, q, r⟩ => ⟨o, k13 _ _ (nmc a nm0) (k1 _ _ (nmc b nm0) q), r⟩
  have hP2 : tabM < L + 2 := Nat.lt_of_lt_of_le hPL (Nat.le_add_right _ _)
  have hP3 : tabM < L + 3 := Nat.lt_of_lt_of_le hPL (Nat.le_add_right _ _)
  have c23 := cK (adne (by decide)) (Nat.ne_of_gt hP2) c2
  have c33 := cK (adne (by decide)) (Nat.ne_of_gt hP3) c3
  have lT3 : Ls h3 TL tys := lsKept (lsKept lT k1 (nmc (Nat.ne_of_gt (Nat.lt_trans hPL hTL)) nm0)) k13 (nmc (Nat.ne_of_gt hTL) nm0)
  have hz03 : h.objs.size ≤ h3.objs.size := by
    have hz3 : h3.objs.size = h2.objs.size := sb3.1
    have := z2
    lia
  -- front, back
  refine w_cons ?_
  refine w_asgTup ?_
  refine w_tuple ?_
  refine w_arg ?_
  refine w_binOp ?_
  refine w_nm F3.ns mt ?_
  refine w_cInt fun _ => ?_
  have htn : tys ≠ [] := fun q => by rw [q] at hty; exact absurd hn1 (by rw [← hty]; decide)
  refine w_mulList (n := 3) lT3 rfl htn (by rw [hty]; lia) (by decide) (fun h4 e4 z4 l4 => ?_)
  rw [rep3] at l4
  have F4 := F3.kept e4
  refine w_arg ?_
  refine w_binOp ?_
  refine w_nm F4.ns mt ?_
  refine w_cInt fun _ => ?_
  refine w_mulList (n := 3) (lT3.ext e4) rfl htn (by rw [hty]; lia) (by decide) (fun h5 e5 z5 l5 => ?_)
  rw [rep3] at l5
  have F5 := F4.kept e5
  refine w_arg0 ⟨by simp [sizeLine_eq], fun h6 tp etp e6 g6 z6 => ?_⟩
  have F6 := F5.kept e6
  have e36 : Ext h3 h6 := e4.trans (e5.trans e6)
  refine w_asgTup2C (ca := L + 2) (cb := L + 3) ok.3 g6 rfl rfl (c23.keeps e36) (c33.keeps e36) (adnn (by decide)) (fun h7 i2 i3 k7 => ?_)
  have F7 := frKept F6 k7 (List.forall_mem_cons.mpr ⟨hcb _ (Nat.le_add_right _ _), List.forall_mem_singleton.mpr (hcb _ (Nat.le_add_right _ _))⟩) (nmc (adne (by decide)).symm (nmc (adne (by decide)).symm nm0))
  have hz37 : h3.objs.size + 2 ≤ h6.objs.size := by lia
  have hL3 : L + 3 < h3.objs.size := let ⟨o, q, _⟩ := c33; Heap.lt_size q
  have bigne : ∀ {b : Addr}, h3.objs.size ≤ b → b ∉ [L + 2, L + 3] := fun hb => nmc (Nat.ne_of_gt (Nat.lt_of_lt_of_le (Nat.lt_trans (Nat.lt_succ_self _) hL3) hb)) (nmc (Nat.ne_of_gt (Nat.lt_of_lt_of_le hL3 hb)) nm0)
  have lF7 : Ls h7 h3.objs.size (tys ++ tys ++ tys) := lsKept ((l4.ext e5).ext e6) k7 (bigne (Nat.le_refl _))
  have lB7 : Ls h7 h4.objs.size (tys ++ tys ++ tys) := lsKept (l5.ext e6) k7 (bigne (by rw [z4]; exact Nat.le_succ _))
  have T7 : TabR RR H h7 tabM (placesM w) := (T3.ext e36).kept k7 (nmc (Nat.ne_of_lt hP2) (nmc (Nat.ne_of_lt hP3) nm0)) (by
    intro i hi o vs ho hv
    cases hi with
    | head => obtain ⟨o', a, b⟩ := c23.keeps e36; rw [ho] at a; cases a; rw [hv] at b; cases b
    | tail _ hi => cases hi with
      | head => obtain ⟨o', a, b⟩ := c33.keeps e36; rw [ho] at a; cases a; rw [hv] at b; cases b
      | tail _ q => cases q)
  -- ways
  refine w_cons ?_
  refine w_asgSwap3 (base := base) (L := L) (m := fun y => if y = nKey then some kv else m y) ok.3 ?_ rfl rfl rfl rfl rfl
  refine w_tuple ?_
  refine w_arg ?_
  refine w_cInt fun t8 => ?_
  refine w_arg ?_
  refine w_cInt fun t9 => ?_
  refine w_arg ?_
  refine w_list ?_
  refine w_arg0 ⟨Nat.zero_le _, fun h8 GV eGV e8 l8 z8 => ?_⟩
  refine w_arg0 ⟨by simp [sizeLine_eq], fun h9 tp9 etp9 e9 g9 z9 => ⟨tp9, _, _, _, rfl, g9, (F7.kept e8).kept e9, fun h10 F10 k10 => ?_⟩⟩
  have e79 : Ext h7 h9 := e8.trans e9
  have hz7 : h6.objs.size ≤ h7.objs.size := by
    rcases Nat.lt_or_ge h7.objs.size h6.objs.size with q | q
    · exfalso
      have hlast : tp < h7.objs.size := Heap.lt_size (k7 _ _ (bigne (by rw [etp]; lia)) g6)
      rw [etp] at hlast; lia
    · exact q
  have hGV : h6.objs.size ≤ GV := by rw [eGV]; exact hz7
  have Lne : ∀ {b : Addr}, h3.objs.size ≤ b → b ∉ [L] := fun hb => nmc (Nat.ne_of_gt (Nat.lt_of_lt_of_le (Nat.lt_of_le_of_lt (Nat.le_add_right L 3) hL3) hb)) nm0
  have lF10 : Ls h10 h3.objs.size (tys ++ tys ++ tys) := lsKept (lF7.ext e79) k10 (Lne (Nat.le_refl _))
  have lB10 : Ls h10 h4.objs.size (tys ++ tys ++ tys) := lsKept (lB7.ext e79) k10 (Lne (by rw [z4]; exact Nat.le_succ _))
  have l10 : Ls h10 GV [] := lsKept (l8.ext e9) k10 (Lne (by lia))
  have cK10 : ∀ {i v}, i ≠ L → h7.IsCell i v → h10.IsCell i v := fun a ⟨o, q, r⟩ => ⟨o, k10 _ _ (nmc a nm0) (e79 _ _ q), r⟩
  have T10 := (T7.ext e79).keptL ((F7.kept e8).kept e9).ns k10 hLT.symm
  have hf3 : f < h3.objs.size := by
    have hz3 : h3.objs.size = h2.objs.size := sb3.1
    have := z2
    lia
  have hc3 : h3.get? c' = h2.get? c' := sb3.2 _ hcL
  have hf23 : h3.get? f = h2.get? f := sb3.2 _ hfL
  have hcode3 : h3.CodeRec (.ref c') lamQ := CodeRec.keptTo hrec2 fun o ho => hc3.trans ho
  have hc3lt : c' < h3.objs.size := by obtain ⟨o, vs, e, _⟩ := CodeRec.fields hcode3; exact Heap.lt_size e
  have hcc : c' ∉ [L + 2, L + 3] := nmc (code_ne_cell hcode3 c23) (nmc (code_ne_cell hcode3 c33) nm0)
  have hfc : f ∉ [L + 2, L + 3] := by
    have hf1' : f ≠ L + 2 := fun q => by
      have hL2h : L + 2 < h.objs.size := let ⟨o, q, _⟩ := c2; Heap.lt_size q
      rw [q] at hf1; exact absurd hL2h (Nat.not_lt.mpr hf1)
    have hf2' : f ≠ L + 3 := fun q => by
      have hL3h : L + 3 < h.objs.size := let ⟨o, q, _⟩ := c3; Heap.lt_size q
      rw [q] at hf1; exact absurd hL3h (Nat.not_lt.mpr hf1)
    exact nmc hf1' (nmc hf2' nm0)
  have stay : ∀ {b : Addr} {o : Obj}, b ≠ L → b ∉ [L + 2, L + 3] → h3.get? b = some o → h10.get? b = some o := fun a b e => k10 _ _ (nmc a nm0) (e79 _ _ (k7 _ _ b (e36 _ _ e)))
  have hfg : h10.get? f = h2.get? f := by
    have := stay hfL hfc (hf23.trans (e2 _ _ hfn))
    rw [this, e2 _ _ hfn]
  have hcg : h10.get? c' = h2.get? c' := by
    obtain ⟨o, vs, e, _⟩ := CodeRec.fields hcode3
    rw [stay hcL hcc e, ← hc3, e]
  have hnew : ∀ {b : Addr}, b ≠ L → b < h3.objs.size → b ∉ [L, h3.objs.size, h4.objs.size, GV] := fun a b => nmc a (nmc (Nat.ne_of_lt b) (nmc (Nat.ne_of_lt (by lia)) (nmc (Nat.ne_of_lt (by lia)) nm0)))
  refine k h10 _ h3.objs.size h4.objs.size GV kv f c' F10 ?_ T10 (hkm h10 hfg hcg) (fun _ => ⟨hnew hfL hf3, hnew hcL hc3lt⟩) (cK10 (adne (by decide)) i2) (cK10 (adne (by decide)) i3) lF10 lB10 l10 hz03 (by lia) (by lia) ⟨ts, ms⟩ rfl ⟨t8, rfl⟩ ⟨t9, rfl⟩ rfl
  have q1 : Kept [L, L + 2, L + 3, tabM] h h1 := k1.mono (Mine.sb1 (List.mem_cons_of_mem _ im3))
  have q2 : Kept [L, L + 2, L + 3, tabM] h1 h3 := k13.mono (Mine.sb1 im1)
  have q3 : Kept [L, L + 2, L + 3, tabM] h6 h7 := k7.mono (Mine.sb2 im2 im3)
  have q4 : Kept [L, L + 2, L + 3, tabM] h9 h10 := k10.mono (Mine.sb1 im1)
  exact (((q1.trans q2).trans (Kept.of_ext e36)).trans q3).trans ((Kept.of_ext e79).trans q4)
end
end Mine
end
section
open PySem PySem.W PyProof.Rows PySem.Calls
set_option Elab.async false
set_option maxRecDepth 100000
set_option linter.unusedVariables false
set_option linter.unusedSimpArgs false
namespace Mine
theorem ins_at {α : Type} (A B R : List α) (e : α) {c : Nat} (h : c ≤ B.length) : ((A ++ B) ++ R).take (A.length + c) ++ e :: ((A ++ B) ++ R).drop (A.length + c) = (A ++ (B.take c ++ e :: B.drop c)) ++ R := by
  rw [List.append_assoc, List.take_length_add_append, List.drop_length_add_append, List.take_append_of_le_length h, List.drop_append_of_le_length h]
  simp
theorem pop_at {α : Type} (A R : List α) (e : α) : (A ++ e :: R)[A.length]? = some e ∧ (A ++ e :: R).eraseIdx A.length = A ++ R := by
  constructor
  · rw [List.getElem?_append_right (Nat.le_refl _), Nat.sub_self]; rfl
  · rw [List.eraseIdx_append_of_length_le (Nat.le_refl _), Nat.sub_self]; rfl
theorem mid_get {A B R : List Nat} {k : Nat} (h1 : A.length ≤ k) (h2 : k < A.length + B.length) : ((A ++ B) ++ R).getD k 0 = B[k - A.length]'(by omega) := by
  have h3 : k - A.length < B.length := by omega
  rw [List.getD_eq_getElem?_getD, List.append_assoc, List.getElem?_append_right h1, List.getElem?_append_left h3, List.getElem?_eq_getElem h3]; rfl
/-- the things and their words -/
structure ThK (h : Heap) (tys tky : List Value) (ws : List W) (lo hi : Addr) : Prop where
  len : tys.length = ws.length
  at_ : ∀ (j : Nat), j < ws.length → ∃ T t, tys.getD j Value.none = Value.ref T ∧ tky.getD j Value.none = Value.str (S (ws.getD j [])) t ∧ Ls h T [.str (S (ws.getD j [])) t] ∧ lo < T ∧ T < hi
theorem Things.thK {h : Heap} {tys : List Value} {ws : List W} {lo hi : Addr} (X : Things h tys ws lo hi) : ∃ tky, ThK h tys tky ws lo hi := by
  have ex : ∀ j : Nat, ∃ v : Value, j < ws.length → ∃ T t, tys.getD j Value.none = Value.ref T ∧ v = Value.str (S (ws.getD j [])) t ∧ Ls h T [.str (S (ws.getD j [])) t] ∧ lo < T ∧ T < hi := fun j => by
    by_cases q : j < ws.length
    · obtain ⟨T, t, e1, l, b1, b2⟩ := X.at_ j ws[j] (List.getElem?_eq_getElem q)
      have e2 : ws.getD j [] = ws[j] := getD_of q
      refine ⟨.str (S ws[j]) t, fun _ => ⟨T, t, by rw [List.getD_eq_getElem?_getD, e1]; rfl, by rw [e2], by rw [e2]; exact l, b1, b2⟩⟩
    · exact ⟨.none, fun q' => absurd q' q⟩
  refine ⟨(List.range ws.length).map fun j => Classical.choose (ex j), X.len, fun j hj => ?_⟩
  obtain ⟨T, t, h1, h2, h3⟩ := Classical.choose_spec (ex j) hj
  refine ⟨T, t, h1, ?_, h3⟩
  rw [← h2, List.getD_eq_getElem?_getD]
  simp [hj]
theorem ThK.kept {h h' : Heap} {tys tky : List Value} {ws : List W} {lo hi : Addr} {S' : List Addr} (X : ThK h tys tky ws lo hi) (k : Kept S' h h') (hS : ∀ s ∈ S', s ≤ lo ∨ hi ≤ s) : ThK h' tys tky ws lo hi :=
  ⟨X.len, fun j hj => by
    obtain ⟨T, t, e1, e2, l, b1, b2⟩ := X.at_ j hj
    refine ⟨T, t, e1, e2, lsKept l k fun m => ?_, b1, b2⟩
    rcases hS T m with q | q
    · exact absurd b1 (Nat.not_lt.mpr q)
    · exact absurd b2 (Nat.not_lt.mpr q)⟩
/-- what the search compares -/
def kxOf (tys tky : List Value) (odd : Bool) (j : Nat) : Value := if odd = true then tky.getD j Value.none else tys.getD j Value.none
abbrev vt (tys : List Value) (j : Nat) : Value := tys.getD j Value.none
theorem tys_map {tys : List Value} {n : Nat} (h : tys.length = n) : (List.range n).map (vt tys) = tys := by
  apply List.ext_getElem?
  intro i
  by_cases q : i < n
  · have q' : i < tys.length := by omega
    simp [q, vt, List.getD_eq_getElem?_getD, q']
  · rw [List.getElem?_eq_none (by simp; omega), List.getElem?_eq_none (by omega)]
section
variable {prog : Program} {w : World} {A : Around} {h base H : Heap} {mg mb : Str → Option Value} {L : Addr} {env : Env}
theorem cmp_things {n : Nat} {tys tky : List Value} {ws : List W} {lo hi : Addr} (X : ThK h tys tky ws lo hi) (odd : Bool) {i j : Nat} (hi' : i < ws.length) (hj : j < ws.length) : CmpLt n prog w h (kxOf tys tky odd i) (kxOf tys tky odd j) (cW ws i j) := by
  obtain ⟨T, t, e1, e2, l, _⟩ := X.at_ i hi'
  obtain ⟨U, u, f1, f2, l', _⟩ := X.at_ j hj
  unfold kxOf
  cases odd with
  | true => rw [if_pos rfl, if_pos rfl, e2, f2]; exact cmp_str1
  | false =>
    rw [if_neg (by decide), if_neg (by decide), e1, f1]
    intro A h' Q ok e k
    refine w_ltList (as := [.s (ws.getD i [])]) (bs := [.s (ws.getD j [])]) ⟨_, l.ext e, ⟨⟨t, rfl⟩, trivial⟩⟩ ⟨_, l'.ext e, ⟨⟨u, rfl⟩, trivial⟩⟩ rfl (by have := ok.units; rw [show cLine = 9900 from rfl] at *; lia) ?_
    rw [ltL_one]
    exact k h' (Ext.refl _)
theorem key_things {n : Nat} {tys tky : List Value} {ws : List W} {lo hi : Addr} {kv : Value} {f c' : Addr} {odd : Bool} (X : ThK h tys tky ws lo hi) (K : KM w h kv f c' odd) (hlim : h.NoLimit) (q : List Nat) (hq : ∀ j ∈ q, j < ws.length) : KeyOk (n + 1) prog w h kv (q.map (vt tys)) (q.map (kxOf tys tky odd)) := by
  cases odd with
  | false =>
    refine .inl ⟨K, ?_⟩
    exact List.map_congr_left fun j _ => rfl
  | true =>
    have K' := K
    unfold KM at K'
    rw [if_pos rfl] at K'
    obtain ⟨rfl, ⟨pm, ctv, e⟩, r⟩ := K'
    refine .inr ⟨⟨f, rfl⟩, Kp.func e rfl, by rw [List.length_map, List.length_map], fun i v kv' e1 e2 => ?_⟩
    rw [List.getElem?_map, Option.map_eq_some_iff] at e1 e2
    obtain ⟨j, ej, rfl⟩ := e1
    obtain ⟨j', ej', rfl⟩ := e2
    rw [ej] at ej'; cases ej'
    obtain ⟨T, t, e1, e2, l, _⟩ := X.at_ j (hq j (List.mem_of_getElem? ej))
    show KeyIs _ _ _ _ _ (tys.getD j Value.none) (tky.getD j Value.none)
    rw [e1, e2]
    exact K.key hlim l.isList
theorem key1_things {n : Nat} {tys tky : List Value} {ws : List W} {lo hi : Addr} {kv : Value} {f c' : Addr} {odd : Bool} (X : ThK h tys tky ws lo hi) (K : KM w h kv f c' odd) (hlim : h.NoLimit) {j : Nat} (hj : j < ws.length) : Key1 (n + 1) prog w h kv (vt tys j) (kxOf tys tky odd j) := by
  cases odd with
  | false => exact .inl ⟨K, rfl⟩
  | true =>
    have K' := K
    unfold KM at K'
    rw [if_pos rfl] at K'
    obtain ⟨rfl, ⟨pm, ctv, e⟩, r⟩ := K'
    refine .inr ⟨⟨f, rfl⟩, Kp.func e rfl, ?_⟩
    obtain ⟨T, t, e1, e2, l, _⟩ := X.at_ j hj
    show KeyIs _ _ _ _ _ (tys.getD j Value.none) (tky.getD j Value.none)
    rw [e1, e2]
    exact K.key hlim l.isList
theorem cutR {ws : List W} {P B R : List Nat} (sB : B.Pairwise (prec (cW ws))) (e : Nat) : (∀ i, P.length ≤ i → i < P.length + (B.countP fun j => !(cW ws e j)) → cW ws e (((P ++ B) ++ R).getD i 0) = false) ∧ ∀ i, P.length + (B.countP fun j => !(cW ws e j)) ≤ i → i < P.length + B.length → cW ws e (((P ++ B) ++ R).getD i 0) = true := by
  have hc : (B.countP fun j => !(cW ws e j)) ≤ B.length := List.countP_le_length
  refine ⟨fun i h1 h2 => ?_, fun i h1 h2 => ?_⟩
  · rw [mid_get h1 (by lia)]
    exact (putR_cut (cW_weak ws) e sB (i - P.length) (by lia)).mp (by lia)
  · rw [mid_get (by lia) h2]
    cases q : cW ws e B[i - P.length] with
    | true => rfl
    | false => have := (putR_cut (cW_weak ws) e sB (i - P.length) (by lia)).mpr q; lia
theorem cutL {ws : List W} {P B R : List Nat} (sB : B.Pairwise (prec (cW ws))) (e : Nat) : (∀ i, P.length ≤ i → i < P.length + (B.countP fun j => cW ws j e) → cW ws (((P ++ B) ++ R).getD i 0) e = true) ∧ ∀ i, P.length + (B.countP fun j => cW ws j e) ≤ i → i < P.length + B.length → cW ws (((P ++ B) ++ R).getD i 0) e = false := by
  have hc : (B.countP fun j => cW ws j e) ≤ B.length := List.countP_le_length
  refine ⟨fun i h1 h2 => ?_, fun i h1 h2 => ?_⟩
  · rw [mid_get h1 (by lia)]
    exact (putL_cut (cW_weak ws) e sB (i - P.length) (by lia)).mp (by lia)
  · rw [mid_get (by lia) h2]
    cases q : cW ws B[i - P.length] e with
    | false => rfl
    | true => have := (putL_cut (cW_weak ws) e sB (i - P.length) (by lia)).mpr q; lia
theorem map_getD {q : List Nat} {g : Nat → Value} {i : Nat} {v : Value} (h : (q.map g)[i]? = some v) : v = g (q.getD i 0) ∧ q.getD i 0 ∈ q := by
  rw [List.getElem?_map, Option.map_eq_some_iff] at h
  obtain ⟨a, ea, rfl⟩ := h
  have : q.getD i 0 = a := by rw [List.getD_eq_getElem?_getD, ea]; rfl
  rw [this]; exact ⟨rfl, List.mem_of_getElem? ea⟩
/-- searches among the things -/
theorem br_things {n e : Nat} {l : Addr} {tys tky : List Value} {ws : List W} {lo hi : Addr} {kv x : Value} {f c' : Addr} {odd : Bool} {P B R : List Nat} {u t : Tok} {lov hiv : Int} {pos : List Value} {kw : List (Str × Value)} {Q : Value → Heap → Prop} (G : G0 w mg mb h) (ok : OkA (n + 2) A)
    (X : ThK h tys tky ws lo hi) (K : KM w h kv f c' odd) (hl : Ls h l (((P ++ B) ++ R).map (vt tys))) (hq : ∀ j ∈ (P ++ B) ++ R, j < ws.length) (he : e < ws.length) (sB : B.Pairwise (prec (cW ws))) (hz : ((P ++ B) ++ R).length ≤ 1000) (hx : x = kxOf tys tky odd e) (hlo : lov = (P.length : Nat)) (hhi : hiv = (P.length + B.length : Nat))
    (hb : ∀ S', peek (KH w) S' (bindArgs (fnAt w aBR) ⟨pos, kw⟩) = some [(nA, .ref l), (nX, x), (nLo, .int lov u), (nHi, .int hiv t), (nKey, kv)])
    (k : ∀ h' t, Ext h h' → Q (.int (P.length + (B.countP fun j => !(cW ws e j)) : Nat) t) h') : Wp (model prog w) A (call (.ref aBR) pos kw) Q h := by
  subst hlo
  subst hhi
  have hc : (B.countP fun j => !(cW ws e j)) ≤ B.length := List.countP_le_length
  have hlen : ((P ++ B) ++ R).length = P.length + B.length + R.length := by rw [List.length_append, List.length_append]
  obtain ⟨c1, c2⟩ := cutR (R := R) (P := P) sB e
  refine br_call (n := n + 1) (ks := ((P ++ B) ++ R).map (kxOf tys tky odd)) (lo := P.length) (hi := P.length + B.length) (less := fun i => cW ws e (((P ++ B) ++ R).getD i 0)) G ok hl.isList (by rw [List.length_map]; lia) hb (.inr ⟨_, rfl⟩) (Nat.le_add_right _ _) (by lia) (by rw [List.length_map]; lia) (key_things X K G.lim _ hq) c1 c2 (fun i v ei => ?_) k
  obtain ⟨rfl, hm⟩ := map_getD ei
  rw [hx]
  exact cmp_things X odd he (hq _ hm)
theorem bl_things {n e : Nat} {l : Addr} {tys tky : List Value} {ws : List W} {lo hi : Addr} {kv x : Value} {f c' : Addr} {odd : Bool} {P B R : List Nat} {u t : Tok} {lov hiv : Int} {pos : List Value} {kw : List (Str × Value)} {Q : Value → Heap → Prop} (G : G0 w mg mb h) (ok : OkA (n + 2) A)
    (X : ThK h tys tky ws lo hi) (K : KM w h kv f c' odd) (hl : Ls h l (((P ++ B) ++ R).map (vt tys))) (hq : ∀ j ∈ (P ++ B) ++ R, j < ws.length) (he : e < ws.length) (sB : B.Pairwise (prec (cW ws))) (hz : ((P ++ B) ++ R).length ≤ 1000) (hx : x = kxOf tys tky odd e) (hlo : lov = (P.length : Nat)) (hhi : hiv = (P.length + B.length : Nat))
    (hb : ∀ S', peek (KH w) S' (bindArgs (fnAt w aBL) ⟨pos, kw⟩) = some [(nA, .ref l), (nX, x), (nLo, .int lov u), (nHi, .int hiv t), (nKey, kv)])
    (k : ∀ h' t, Ext h h' → Q (.int (P.length + (B.countP fun j => cW ws j e) : Nat) t) h') : Wp (model prog w) A (call (.ref aBL) pos kw) Q h := by
  subst hlo
  subst hhi
  have hc : (B.countP fun j => cW ws j e) ≤ B.length := List.countP_le_length
  have hlen : ((P ++ B) ++ R).length = P.length + B.length + R.length := by rw [List.length_append, List.length_append]
  obtain ⟨c1, c2⟩ := cutL (R := R) (P := P) sB e
  refine bl_call (n := n + 1) (ks := ((P ++ B) ++ R).map (kxOf tys tky odd)) (lo := P.length) (hi := P.length + B.length) (less := fun i => cW ws (((P ++ B) ++ R).getD i 0) e) G ok hl.isList (by rw [List.length_map]; lia) hb (.inr ⟨_, rfl⟩) (Nat.le_add_right _ _) (by lia) (by rw [List.length_map]; lia) (key_things X K G.lim _ hq) c1 c2 (fun i v ei => ?_) k
  obtain ⟨rfl, hm⟩ := map_getD ei
  rw [hx]
  exact cmp_things X odd (hq _ hm) he
theorem ir_things {n e : Nat} {l : Addr} {tys tky : List Value} {ws : List W} {lo hi : Addr} {kv : Value} {f c' : Addr} {odd : Bool} {P B R : List Nat} {u t : Tok} {lov hiv : Int} {pos : List Value} {kw : List (Str × Value)} {Q : Value → Heap → Prop} (G : G0 w mg mb h) (ok : OkA (n + 3) A)
    (X : ThK h tys tky ws lo hi) (K : KM w h kv f c' odd) (hl : Ls h l (((P ++ B) ++ R).map (vt tys))) (hq : ∀ j ∈ (P ++ B) ++ R, j < ws.length) (he : e < ws.length) (sB : B.Pairwise (prec (cW ws))) (hz : ((P ++ B) ++ R).length ≤ 1000) (hlo : lov = (P.length : Nat)) (hhi : hiv = (P.length + B.length : Nat))
    (hb : ∀ S', peek (KH w) S' (bindArgs (fnAt w aIR) ⟨pos, kw⟩) = some [(nA, .ref l), (nX, vt tys e), (nLo, .int lov u), (nHi, .int hiv t), (nKey, kv)])
    (k : ∀ h', Ls h' l (((P ++ putR (cW ws) e B) ++ R).map (vt tys)) → Kept [l] h h' → Q .none h') : Wp (model prog w) A (call (.ref aIR) pos kw) Q h := by
  subst hlo
  subst hhi
  have hc : (B.countP fun j => !(cW ws e j)) ≤ B.length := List.countP_le_length
  have hlen : ((P ++ B) ++ R).length = P.length + B.length + R.length := by rw [List.length_append, List.length_append]
  obtain ⟨c1, c2⟩ := cutR (R := R) (P := P) sB e
  refine ir_call (n := n + 1) (ks := ((P ++ B) ++ R).map (kxOf tys tky odd)) (kx := kxOf tys tky odd e) (lo := P.length) (hi := P.length + B.length) (r := P.length + (B.countP fun j => !(cW ws e j))) (less := fun i => cW ws e (((P ++ B) ++ R).getD i 0)) G ok hl (by rw [List.length_map, sizeLine_eq]; lia) hb (.inr ⟨_, rfl⟩) (Nat.le_add_right _ _) (by lia) (by rw [List.length_map]; lia) (key_things X K G.lim _ hq) (key1_things X K G.lim he) c1 c2 (fun i v ei => ?_) (fun h' l' k' => k h' ?_ (fun b o nb eb => k' b o (fun q => nb (by rw [q]; exact im1)) eb))
  · obtain ⟨rfl, hm⟩ := map_getD ei
    exact cmp_things X odd he (hq _ hm)
  · have := congrArg (List.map (vt tys)) (ins_at P B R e hc)
    rw [List.map_append, List.map_cons, List.map_take, List.map_drop] at this
    rw [this] at l'
    exact l'
theorem il_things {n e : Nat} {l : Addr} {tys tky : List Value} {ws : List W} {lo hi : Addr} {kv : Value} {f c' : Addr} {odd : Bool} {P B R : List Nat} {u t : Tok} {lov hiv : Int} {pos : List Value} {kw : List (Str × Value)} {Q : Value → Heap → Prop} (G : G0 w mg mb h) (ok : OkA (n + 3) A)
    (X : ThK h tys tky ws lo hi) (K : KM w h kv f c' odd) (hl : Ls h l (((P ++ B) ++ R).map (vt tys))) (hq : ∀ j ∈ (P ++ B) ++ R, j < ws.length) (he : e < ws.length) (sB : B.Pairwise (prec (cW ws))) (hz : ((P ++ B) ++ R).length ≤ 1000) (hlo : lov = (P.length : Nat)) (hhi : hiv = (P.length + B.length : Nat))
    (hb : ∀ S', peek (KH w) S' (bindArgs (fnAt w aIL) ⟨pos, kw⟩) = some [(nA, .ref l), (nX, vt tys e), (nLo, .int lov u), (nHi, .int hiv t), (nKey, kv)])
    (k : ∀ h', Ls h' l (((P ++ putL (cW ws) e B) ++ R).map (vt tys)) → Kept [l] h h' → Q .none h') : Wp (model prog w) A (call (.ref aIL) pos kw) Q h := by
  subst hlo
  subst hhi
  have hc : (B.countP fun j => cW ws j e) ≤ B.length := List.countP_le_length
  have hlen : ((P ++ B) ++ R).length = P.length + B.length + R.length := by rw [List.length_append, List.length_append]
  obtain ⟨c1, c2⟩ := cutL (R := R) (P := P) sB e
  refine il_call (n := n + 1) (ks := ((P ++ B) ++ R).map (kxOf tys tky odd)) (kx := kxOf tys tky odd e) (lo := P.length) (hi := P.length + B.length) (r := P.length + (B.countP fun j => cW ws j e)) (less := fun i => cW ws (((P ++ B) ++ R).getD i 0) e) G ok hl (by rw [List.length_map, sizeLine_eq]; lia) hb (.inr ⟨_, rfl⟩) (Nat.le_add_right _ _) (by lia) (by rw [List.length_map]; lia) (key_things X K G.lim _ hq) (key1_things X K G.lim he) c1 c2 (fun i v ei => ?_) (fun h' l' k' => k h' ?_ (fun b o nb eb => k' b o (fun q => nb (by rw [q]; exact im1)) eb))
  · obtain ⟨rfl, hm⟩ := map_getD ei
    exact cmp_things X odd (hq _ hm) he
  · have := congrArg (List.map (vt tys)) (ins_at P B R e hc)
    rw [List.map_append, List.map_cons, List.map_take, List.map_drop] at this
    rw [this] at l'
    exact l'
end
end Mine
end
section
open PySem PySem.W PyProof.Rows PySem.Calls
set_option Elab.async false
set_option maxRecDepth 100000
set_option linter.unusedVariables false
set_option linter.unusedSimpArgs false
namespace Mine
theorem range_drop {n i : Nat} (h : i < n) : (List.range n).drop i = i :: (List.range n).drop (i + 1) := by
  rw [List.drop_eq_getElem_cons (by simpa using h)]; simp
theorem range_take {n i : Nat} (h : i < n) : (List.range n).take (n - i) = (List.range n).take (n - 1 - i) ++ [n - 1 - i] := by
  have e : n - i = (n - 1 - i) + 1 := by omega
  rw [e, List.take_add_one, List.getElem?_range (by omega)]; rfl
def frontI (ws : List W) (i : Nat) : List Nat := (List.range ws.length ++ insF (cW ws) i) ++ ((List.range ws.length).drop i ++ List.range ws.length)
def backI (ws : List W) (i : Nat) : List Nat := (List.range ws.length ++ (List.range ws.length).take (ws.length - i)) ++ (insB (cW ws) ws.length i ++ List.range ws.length)
theorem map_erase (g : Nat → Value) (q : List Nat) (k : Nat) : (q.map g).eraseIdx k = (q.eraseIdx k).map g := by
  rw [List.eraseIdx_eq_take_drop_succ, List.eraseIdx_eq_take_drop_succ, List.map_append, List.map_take, List.map_drop]
theorem front_pop (ws : List W) {i : Nat} (h : i < ws.length) (g : Nat → Value) : ((frontI ws i).map g)[ws.length + i]? = some (g i) ∧ ((frontI ws i).map g).eraseIdx (ws.length + i) = ((List.range ws.length ++ insF (cW ws) i) ++ ((List.range ws.length).drop (i + 1) ++ List.range ws.length)).map g := by
  have hl : (List.range ws.length ++ insF (cW ws) i).length = ws.length + i := by rw [List.length_append, List.length_range, insF_len]
  have := pop_at (List.range ws.length ++ insF (cW ws) i) ((List.range ws.length).drop (i + 1) ++ List.range ws.length) i
  rw [hl] at this
  unfold frontI
  rw [range_drop h, List.cons_append, List.getElem?_map, this.1, map_erase, this.2]
  exact ⟨rfl, rfl⟩
theorem back_pop (ws : List W) {i : Nat} (h : i < ws.length) (g : Nat → Value) : ((backI ws i).map g)[ws.length + (ws.length - 1 - i)]? = some (g (ws.length - 1 - i)) ∧
    ((backI ws i).map g).eraseIdx (ws.length + (ws.length - 1 - i)) = (((List.range ws.length ++ (List.range ws.length).take (ws.length - 1 - i)) ++ insB (cW ws) ws.length i) ++ List.range ws.length).map g := by
  have hl : (List.range ws.length ++ (List.range ws.length).take (ws.length - 1 - i)).length = ws.length + (ws.length - 1 - i) := by
    rw [List.length_append, List.length_take, List.length_range]; omega
  have := pop_at (List.range ws.length ++ (List.range ws.length).take (ws.length - 1 - i)) (insB (cW ws) ws.length i ++ List.range ws.length) (ws.length - 1 - i)
  rw [hl] at this
  have e : backI ws i = (List.range ws.length ++ (List.range ws.length).take (ws.length - 1 - i)) ++ (ws.length - 1 - i) :: (insB (cW ws) ws.length i ++ List.range ws.length) := by
    unfold backI; rw [range_take h]; simp
  rw [e, List.getElem?_map, this.1, map_erase, this.2]
  refine ⟨rfl, ?_⟩
  simp only [List.append_assoc]
theorem mem_idx {ws : List W} {q : List Nat} {i : Nat} (h : i ≤ ws.length) (hq : ∀ j ∈ q, j ∈ List.range ws.length ∨ j ∈ insF (cW ws) i ∨ j ∈ insB (cW ws) ws.length i) : ∀ j ∈ q, j < ws.length := fun j hj => by
  rcases hq j hj with a | a | a
  · exact List.mem_range.mp a
  · exact Nat.lt_of_lt_of_le (insF_lt i j a) h
  · exact (insB_gt _ i h j a).2
section
variable {prog : Program} {w : World} {A : Around} {h base H : Heap} {mg mb : Str → Option Value} {L : Addr} {env : Env}
/-- [one, one[0]][size % 2] -/
theorem w_pick {e : Nat} {m : Str → Option Value} {tys tky : List Value} {ws : List W} {lo hi : Addr} {ts : Tok} {p1 p2 p3 p4 p5 p6 p7 p8 p9 : Pos} {k0 k1 : Nat} {Q : Value → Heap → Prop} (F : Fr base L h m) (mo : m nOne = some (vt tys e)) (ms : m nSize = some (.int (ws.length : Nat) ts)) (X : ThK h tys tky ws lo hi) (he : e < ws.length)
    (k : ∀ h', Ext h h' → Q (kxOf tys tky (oddN ws.length) e) h') :
    Wp (model prog w) A (eval (.Subscript (.List [.Name nOne p1, .Subscript (.Name nOne p2) (.Constant (.int 0) k0 p3) p4] p5) (.BinOp (.Name nSize p6) .Mod (.Constant (.int 2) k1 p7) p8) p9) (moE w L)) Q h := by
  obtain ⟨T, t, e1, e2, l, _⟩ := X.at_ e he
  have mo' : m nOne = some (.ref T) := by rw [mo]; exact congrArg some e1
  refine w_sub ?_
  refine w_list ?_
  refine w_arg ?_
  refine w_nm F.ns mo' ?_
  refine w_arg ?_
  refine w_sub ?_
  refine w_nm F.ns mo' ?_
  refine w_cInt fun _ => ?_
  refine w_itemL (j := 0) l.isList rfl (by simp [sizeLine_eq]) ?_
  refine w_arg0 ⟨by simp [sizeLine_eq], fun h2 kl ekl e3 l2 z2 => ?_⟩
  refine w_binOp ?_
  refine w_nm (F.kept e3).ns ms ?_
  refine w_cInt fun _ => ?_
  refine w_modInt (by decide) fun _ => ?_
  rw [mod2]
  refine w_itemL (j := ws.length % 2) l2.isList ?_ (by simp [sizeLine_eq]) (k h2 e3)
  unfold kxOf oddN
  rcases Nat.mod_two_eq_zero_or_one ws.length with q | q
  · rw [q, if_neg (by decide), e1]; rfl
  · rw [q, if_pos (by decide), e2]; rfl
theorem small_place {n i : Nat} : ((n : Int) + (i : Int)) = ((n + i : Nat) : Int) := (Int.natCast_add n i).symm
set_option maxHeartbeats 4000000 in
theorem mo3 {n : Nat} {FR BK GV : Addr} {tys tky : List Value} {ws : List W} {lo B f c' : Addr} {kv : Value} {ts t1 t2 : Tok} {m : Str → Option Value} {Q : Flow → Heap → Prop} (GB : Gd w mg mb H base) (ok : OkA (n + 4) A) (F : Fr base L h m) (hcb : ∀ i, L ≤ i → base.get? i = none)
    (X : ThK h tys tky ws lo B) (K : KM w h kv f c' (oddN ws.length)) (hfc : oddN ws.length = true → f ∉ [L, FR, BK, GV] ∧ c' ∉ [L, FR, BK, GV]) (c2 : h.IsCell (L + 2) (some (.ref FR))) (c3 : h.IsCell (L + 3) (some (.ref BK)))
    (lF : Ls h FR (tys ++ tys ++ tys)) (lB : Ls h BK (tys ++ tys ++ tys)) (lG : Ls h GV []) (hBF : B ≤ FR) (hL3 : L + 3 < FR) (hFB : FR < BK) (hBG : BK < GV) (hlo : L ≤ lo) (hz : ws.length ≤ 20) (hn1 : 1 ≤ ws.length)
    (ms : m nSize = some (.int (ws.length : Nat) ts)) (mk : m nKey = some kv) (mw : m nWays = some (.int 0 t1)) (mb' : m nWaysB = some (.int 0 t2)) (mg' : m nGave = some (.ref GV))
    (k : ∀ h' m', Fr base L h' m' → Kept [L, FR, BK, GV] h h' → Ls h' FR ((frontI ws ws.length).map (vt tys)) → Ls h' BK ((backI ws ws.length).map (vt tys)) → Ls h' GV (List.replicate (2 * ws.length) Value.none) → (∃ t, m' nWays = some (.int (inv wlt ws : Nat) t)) → (∃ t, m' nWaysB = some (.int (inv wlt ws : Nat) t)) →
      (∀ z, z ∉ [nPlace, nWays, nOne, nLow, nWaysB] → m' z = m z) → Wp (model prog w) A (execs ((moB w).drop 7) (moE w L)) Q h') :
    Wp (model prog w) A (execs ((moB w).drop 6) (moE w L)) Q h := by
  have ctx : ∀ {h' m'}, Fr base L h' m' → Gd w mg mb H h' := fun F' => GB.ext F'.keep
  have hty := X.len
  have tym := tys_map hty
  have hLF : L < FR := Nat.lt_of_le_of_lt (Nat.le_add_right _ _) hL3
  have hLB : L < BK := Nat.lt_trans hLF hFB
  have hLG : L < GV := Nat.lt_trans hLB hBG
  have c2F : L + 2 ≠ FR := Nat.ne_of_lt (Nat.lt_trans (Nat.lt_succ_self _) hL3)
  have c3F : L + 3 ≠ FR := Nat.ne_of_lt hL3
  have c2n : L + 2 ∉ [L, FR, BK, GV] := nmc (adne (by decide)) (nmc c2F (nmc (Nat.ne_of_lt (Nat.lt_trans (Nat.lt_trans (Nat.lt_succ_self _) hL3) hFB)) (nmc (Nat.ne_of_lt (Nat.lt_trans (Nat.lt_trans (Nat.lt_trans (Nat.lt_succ_self _) hL3) hFB) hBG)) nm0)))
  have c3n : L + 3 ∉ [L, FR, BK, GV] := nmc (adne (by decide)) (nmc c3F (nmc (Nat.ne_of_lt (Nat.lt_trans hL3 hFB)) (nmc (Nat.ne_of_lt (Nat.lt_trans (Nat.lt_trans hL3 hFB) hBG)) nm0)))
  have thS : ∀ s ∈ [L, FR, BK, GV], s ≤ lo ∨ B ≤ s := List.forall_mem_cons.mpr ⟨.inl hlo, List.forall_mem_cons.mpr ⟨.inr hBF, List.forall_mem_cons.mpr ⟨.inr (Nat.le_trans hBF (Nat.le_of_lt hFB)), List.forall_mem_singleton.mpr (.inr (Nat.le_trans hBF (Nat.le_of_lt (Nat.lt_trans hFB hBG))))⟩⟩⟩
  refine w_cons ?_
  refine w_for ?_
  refine w_callN ?_
  refine w_gB (v := .type "range") (ctx F).now (by kernel_rfl) (by kernel_rfl) (by decide) ?_
  refine w_args ?_
  refine w_arg ?_
  refine w_nm F.ns ms ?_
  refine w_arg ?_
  refine w_binOp ?_
  refine w_cInt fun _ => ?_
  refine w_nm F.ns ms ?_
  refine w_mulInt (by decide +kernel) fun _ => ?_
  refine w_arg0 ?_
  refine w_kw0 ⟨Kp.type _, ?_⟩
  refine w_range2 fun h1 r r1 r2 r3 hr e1 z1 ir => ?_
  rw [show (2 : Int) * ((ws.length : Nat) : Int) = ((ws.length : Nat) : Int) + (ws.length : Nat) by lia] at ir
  have F1 := F.kept e1
  have lF1 := lF.ext e1
  have lB1 := lB.ext e1
  have lG1 := lG.ext e1
  have X1 := X.kept (Kept.of_ext (S := []) e1) sb0'
  have K1 := K.kept (Kept.of_ext (S := []) e1) (fun _ => ⟨nm0, nm0⟩)
  have c21 := c2.keeps e1
  have c31 := c3.keeps e1
  refine w_forI (iterRange (n := ws.length) rfl ok.3 ir (small_one (by lia) (by lia) (by lia) (by lia))) [L, FR, BK, GV] (List.forall_mem_cons.mpr ⟨⟨F1.ns.lt, nm0⟩, List.forall_mem_cons.mpr ⟨⟨lF1.lt, nm0⟩, List.forall_mem_cons.mpr ⟨⟨lB1.lt, nm0⟩, List.forall_mem_singleton.mpr ⟨lG1.lt, nm0⟩⟩⟩⟩)
    (fun b0 i h' => ∃ m', Fr base L h' m' ∧ (∀ z, z ∉ [nPlace, nWays, nOne, nLow, nWaysB] → m' z = m z) ∧ (∃ t, m' nWays = some (.int (inv wlt (ws.take i) : Nat) t)) ∧ (∃ t, m' nWaysB = some (.int (inv wlt (ws.drop (ws.length - i)) : Nat) t)) ∧ Ls h' FR ((frontI ws i).map (vt tys)) ∧ Ls h' BK ((backI ws i).map (vt tys)) ∧ Ls h' GV (List.replicate (2 * i) Value.none))
    (fun b0 i ha hb' ⟨m', F', e, w1, w2, l1, l2, l3⟩ off => ⟨m', frOff F' off F1.ns.lt, e, w1, w2, l1.off off (.inl lF1.lt), l2.off off (.inl lB1.lt), l3.off off (.inl lG1.lt)⟩)
    (fun b0 => ⟨m, F1, fun _ _ => rfl, ⟨t1, mw⟩, ⟨t2, by rw [Nat.sub_zero, List.drop_length]; exact mb'⟩, ?_, ?_, lG1⟩) (fun b0 i v h2 hi hlv hP hJ k2 => w_hide fun Qb hQb => ?_) (fun b0 h2 hJ k2 => ?_)
  · have : (frontI ws 0).map (vt tys) = tys ++ tys ++ tys := by
      unfold frontI; simp only [insF, List.append_nil, List.drop_zero, List.map_append, tym, List.append_assoc]
    rw [this]; exact lF1
  · have : (backI ws 0).map (vt tys) = tys ++ tys ++ tys := by
      have e0 : (List.range ws.length).take (ws.length - 0) = List.range ws.length := by rw [Nat.sub_zero]; exact List.take_of_length_le (by simp)
      unfold backI; rw [e0]; simp only [insB, List.nil_append, List.map_append, tym, List.append_assoc]
    rw [this]; exact lB1
  · obtain ⟨tv, hv⟩ := hP
    rw [small_place] at hv
    subst hv
    obtain ⟨m2, F2, e2, ⟨tw, m2w⟩, ⟨tb, m2b⟩, lF2, lB2, lG2⟩ := hJ
    have X2 := X1.kept k2 thS
    have K2 := K1.kept k2 hfc
    have c22 : h2.IsCell (L + 2) (some (.ref FR)) := let ⟨o, a, b⟩ := c21; ⟨o, k2 _ _ c2n a, b⟩
    have c32 : h2.IsCell (L + 3) (some (.ref BK)) := let ⟨o, a, b⟩ := c31; ⟨o, k2 _ _ c3n a, b⟩
    have Y2 : Fs base h2 [L, FR, BK, GV] L h2 m2 := Fs.mk0 F2 _
    have cellF : ∀ {h' m'}, Fs base h2 [L, FR, BK, GV] L h' m' → h'.IsCell (L + 2) (some (.ref FR)) := fun Y => let ⟨o, a, b⟩ := c22; ⟨o, Y.K _ _ c2n a, b⟩
    have cellB : ∀ {h' m'}, Fs base h2 [L, FR, BK, GV] L h' m' → h'.IsCell (L + 3) (some (.ref BK)) := fun Y => let ⟨o, a, b⟩ := c32; ⟨o, Y.K _ _ c3n a, b⟩
    have thX : ∀ {h' m'}, Fs base h2 [L, FR, BK, GV] L h' m' → ThK h' tys tky ws lo B := fun Y => X2.kept Y.K thS
    have kmK : ∀ {h' m'}, Fs base h2 [L, FR, BK, GV] L h' m' → KM w h' kv f c' (oddN ws.length) := fun Y => K2.kept Y.K hfc
    have toF : ∀ {h' h'' : Heap} {m'}, Fs base h2 [L, FR, BK, GV] L h' m' → Kept [FR] h' h'' → Fs base h2 [L, FR, BK, GV] L h'' m' := fun Y kk => Y.kept kk (List.forall_mem_singleton.mpr (hcb _ (Nat.le_of_lt hLF))) (nmc (Nat.ne_of_lt hLF) nm0) (List.forall_mem_singleton.mpr (.inl im2))
    have toB : ∀ {h' h'' : Heap} {m'}, Fs base h2 [L, FR, BK, GV] L h' m' → Kept [BK] h' h'' → Fs base h2 [L, FR, BK, GV] L h'' m' := fun Y kk => Y.kept kk (List.forall_mem_singleton.mpr (hcb _ (Nat.le_of_lt hLB))) (nmc (Nat.ne_of_lt hLB) nm0) (List.forall_mem_singleton.mpr (.inl im3))
    have toG : ∀ {h' h'' : Heap} {m'}, Fs base h2 [L, FR, BK, GV] L h' m' → Kept [GV] h' h'' → Fs base h2 [L, FR, BK, GV] L h'' m' := fun Y kk => Y.kept kk (List.forall_mem_singleton.mpr (hcb _ (Nat.le_of_lt hLG))) (nmc (Nat.ne_of_lt hLG) nm0) (List.forall_mem_singleton.mpr (.inl (List.mem_cons_of_mem _ im3)))
    have hFL := Nat.ne_of_gt hLF
    have hBL := Nat.ne_of_gt hLB
    have hGL := Nat.ne_of_gt hLG
    have hBF' := Nat.ne_of_gt hFB
    have hGF := Nat.ne_of_gt (Nat.lt_trans hFB hBG)
    have hGB := Nat.ne_of_gt hBG
    have hli := insF_len (c := cW ws) i
    have hlb := insB_len (c := cW ws) ws.length i (Nat.le_of_lt hi)
    obtain ⟨fp1, fp2⟩ := front_pop ws hi (vt tys)
    obtain ⟨bp1, bp2⟩ := back_pop ws hi (vt tys)
    have hfl : ((frontI ws i).map (vt tys)).length ≤ 60 := by
      unfold frontI; rw [List.length_map, List.length_append, List.length_append, List.length_append, List.length_drop, List.length_range, hli]; lia
    have hbl : ((backI ws i).map (vt tys)).length ≤ 60 := by
      unfold backI; rw [List.length_map, List.length_append, List.length_append, List.length_append, List.length_take, List.length_range, hlb]; lia
    have hP2 : (List.range ws.length ++ (List.range ws.length).take (ws.length - 1 - i)).length = ws.length + (ws.length - 1 - i) := by
      rw [List.length_append, List.length_take, List.length_range]; lia
    have hq1 : ∀ j ∈ (List.range ws.length ++ insF (cW ws) i) ++ ((List.range ws.length).drop (i + 1) ++ List.range ws.length), j < ws.length := mem_idx (Nat.le_of_lt hi) fun j hj => by
      rcases List.mem_append.mp hj with hj | hj
      · rcases List.mem_append.mp hj with hj | hj
        · exact .inl hj
        · exact .inr (.inl hj)
      · rcases List.mem_append.mp hj with hj | hj
        · exact .inl (List.mem_of_mem_drop hj)
        · exact .inl hj
    have hq2 : ∀ j ∈ ((List.range ws.length ++ (List.range ws.length).take (ws.length - 1 - i)) ++ insB (cW ws) ws.length i) ++ List.range ws.length, j < ws.length := mem_idx (Nat.le_of_lt hi) fun j hj => by
      rcases List.mem_append.mp hj with hj | hj
      · rcases List.mem_append.mp hj with hj | hj
        · rcases List.mem_append.mp hj with hj | hj
          · exact .inl hj
          · exact .inl (List.mem_of_mem_take hj)
        · exact .inr (.inr hj)
      · exact .inl hj
    have hz1 : ((List.range ws.length ++ insF (cW ws) i) ++ ((List.range ws.length).drop (i + 1) ++ List.range ws.length)).length ≤ 1000 := by
      rw [List.length_append, List.length_append, List.length_append, List.length_drop, List.length_range, hli]; lia
    have hz2 : (((List.range ws.length ++ (List.range ws.length).take (ws.length - 1 - i)) ++ insB (cW ws) ws.length i) ++ List.range ws.length).length ≤ 1000 := by
      rw [List.length_append, List.length_append, hP2, List.length_range, hlb]; lia
    have hlo1 : ((ws.length : Nat) : Int) = ((List.range ws.length).length : Nat) := by rw [List.length_range]
    have hhi1 : ((ws.length + i : Nat) : Int) = ((List.range ws.length).length + (insF (cW ws) i).length : Nat) := by rw [List.length_range, hli]
    have hlo2 : ((ws.length + (ws.length - 1 - i) : Nat) : Int) = ((List.range ws.length ++ (List.range ws.length).take (ws.length - 1 - i)).length : Nat) := by rw [hP2]
    have hhi2 : (2 : Int) * ((ws.length : Nat) : Int) - 1 = ((List.range ws.length ++ (List.range ws.length).take (ws.length - 1 - i)).length + (insB (cW ws) ws.length i).length : Nat) := by rw [hP2, hlb]; lia
    have hei : ws.length - 1 - i < ws.length := by lia
    refine w_asgName ?_
    refine w_stF Y2 (fun h3 Y3 sb3 => ?_) im1
    have lF3 := lF2.same sb3 hFL
    have lB3 := lB2.same sb3 hBL
    have lG3 := lG2.same sb3 hGL
    -- one = front.pop(place)
    refine w_cons ?_
    refine w_asg ?_
    refine w_meth PySem.F.plainAttrs_list PySem.F.slot_list_pop PySem.F.type_list_pop ?_
    refine w_nmC (c := L + 2) rfl (cellF Y3) ⟨lF3.ty, ?_, ?_⟩
    · intro b e; injection e with e; subst e; obtain ⟨nn, e⟩ := lF3; exact ⟨_, e, rfl⟩
    refine w_args ?_
    refine w_arg ?_
    refine w_nm Y3.ns (if_pos rfl) ?_
    refine w_arg0 ?_
    refine w_kw0 ⟨Kp.builtin _, ?_⟩
    refine w_popAt (i := ws.length + i) lF3 fp1 (Nat.le_trans hfl (by rw [sizeLine_eq]; decide)) (fun h4 lF4 sb4 => ?_)
    rw [fp2] at lF4
    have Y4 := toF Y3 (Kept.of_same sb4 im1)
    have lB4 := lB3.same sb4 hBF'
    have lG4 := lG3.same sb4 hGF
    refine w_stF Y4 (fun h5 Y5 sb5 => ?_) im1
    have lF5 := lF4.same sb5 hFL
    have lB5 := lB4.same sb5 hBL
    have lG5 := lG4.same sb5 hGL
    generalize hm5 : (fun y => if y = nOne then some (vt tys i) else if y = nPlace then some (Value.int ((ws.length + i : Nat) : Int) tv) else m2 y) = m5 at Y5
    have m5o : m5 nOne = some (vt tys i) := by rw [← hm5]; rfl
    have m5p : m5 nPlace = some (.int ((ws.length + i : Nat) : Int) tv) := by rw [← hm5]; rfl
    have m5w : m5 nWays = some (.int (inv wlt (ws.take i) : Nat) tw) := by rw [← hm5]; exact m2w
    have m5b : m5 nWaysB = some (.int (inv wlt (ws.drop (ws.length - i)) : Nat) tb) := by rw [← hm5]; exact m2b
    have m5x : ∀ z, z ∉ [nPlace, nWays, nOne, nLow, nWaysB] → m5 z = m z := fun z hz' => by
      rw [← hm5]; show (if z = nOne then _ else if z = nPlace then _ else m2 z) = _
      rw [if_neg (fun q => hz' (by rw [q]; simp)), if_neg (fun q => hz' (by rw [q]; simp))]; exact e2 z hz'
    have m5s : m5 nSize = some (.int (ws.length : Nat) ts) := (m5x nSize (by decide)).trans ms
    have m5k : m5 nKey = some kv := (m5x nKey (by decide)).trans mk
    have m5g : m5 nGave = some (.ref GV) := (m5x nGave (by decide)).trans mg'
    -- ways
    refine w_cons ?_
    refine w_asg ?_
    refine w_binOp ?_
    refine w_binOp ?_
    refine w_nm Y5.ns m5w ?_
    refine w_nm Y5.ns m5p ?_
    refine w_addInt fun tw2 => ?_
    refine w_callN ?_
    refine w_gK (ctx Y5.F).now (v := .ref aBR) (by kernel_rfl) ?_
    refine w_args ?_
    refine w_arg ?_
    refine w_nmC (c := L + 2) rfl (cellF Y5) ?_
    refine w_arg ?_
    refine w_pick Y5.F m5o m5s (thX Y5) hi (fun h6 e6 => ?_)
    have Y6 := Y5.ext e6
    refine w_arg ?_
    refine w_nm Y6.ns m5s ?_
    refine w_arg ?_
    refine w_nm Y6.ns m5p ?_
    refine w_arg0 ?_
    refine w_kw ?_
    refine w_nm Y6.ns m5k ?_
    refine w_kw0 ⟨kpFn aBR (ctx Y6.F).now (by kernel_rfl) (by kernel_rfl), ?_⟩
    refine br_things (n := n + 2) (e := i) (P := List.range ws.length) (B := insF (cW ws) i) (R := (List.range ws.length).drop (i + 1) ++ List.range ws.length) (ctx Y6.F).now ok (thX Y6) (kmK Y6) (lF5.ext e6) hq1 hi (insF_sorted (cW_weak ws) i) hz1 rfl hlo1 hhi1 (br_b4k w _ _ _ _ _) (fun h7 t7 e7 => ?_)
    refine w_subInt fun tw3 => ?_
    have hwF := waysF ws hi
    have hcF : ((insF (cW ws) i).countP fun j => !(cW ws i j)) ≤ i := by have := List.countP_le_length (p := fun j => !(cW ws i j)) (l := insF (cW ws) i); rw [hli] at this; exact this
    rw [show ((inv wlt (ws.take i) : Nat) : Int) + ((ws.length + i : Nat) : Int) - (((List.range ws.length).length + ((insF (cW ws) i).countP fun j => !(cW ws i j)) : Nat) : Int) = ((inv wlt (ws.take (i + 1)) : Nat) : Int) by rw [hwF, List.length_range]; lia]
    have e57 := e6.trans e7
    refine w_stF (Y6.ext e7) (fun h8 Y8 sb8 => ?_) im1
    have lF8 := (lF5.ext e57).same sb8 hFL
    have lB8 := (lB5.ext e57).same sb8 hBL
    have lG8 := (lG5.ext e57).same sb8 hGL
    generalize hm8 : (fun y => if y = nWays then some (Value.int ((inv wlt (ws.take (i + 1)) : Nat) : Int) tw3) else m5 y) = m8 at Y8
    have m8w : m8 nWays = some (.int ((inv wlt (ws.take (i + 1)) : Nat) : Int) tw3) := by rw [← hm8]; rfl
    have m8o : m8 nOne = some (vt tys i) := by rw [← hm8]; exact m5o
    have m8p : m8 nPlace = some (.int ((ws.length + i : Nat) : Int) tv) := by rw [← hm8]; exact m5p
    have m8b : m8 nWaysB = some (.int (inv wlt (ws.drop (ws.length - i)) : Nat) tb) := by rw [← hm8]; exact m5b
    have m8x : ∀ z, z ∉ [nPlace, nWays, nOne, nLow, nWaysB] → m8 z = m z := fun z hz' => by
      rw [← hm8]; show (if z = nWays then _ else m5 z) = _
      rw [if_neg (fun q => hz' (by rw [q]; simp))]; exact m5x z hz'
    have m8s : m8 nSize = some (.int (ws.length : Nat) ts) := (m8x nSize (by decide)).trans ms
    have m8k : m8 nKey = some kv := (m8x nKey (by decide)).trans mk
    have m8g : m8 nGave = some (.ref GV) := (m8x nGave (by decide)).trans mg'
    -- laid in from the front
    refine w_cons ?_
    refine w_expr ?_
    refine w_meth PySem.F.plainAttrs_list PySem.F.slot_list_append PySem.F.type_list_append ?_
    refine w_nm Y8.ns m8g ⟨lG8.ty, ?_, ?_⟩
    · intro b e; injection e with e; subst e; obtain ⟨nn, e⟩ := lG8; exact ⟨_, e, rfl⟩
    refine w_args ?_
    refine w_arg ?_
    refine w_callN ?_
    refine w_gK (ctx Y8.F).now (v := .ref aIR) (by kernel_rfl) ?_
    refine w_args ?_
    refine w_arg ?_
    refine w_nmC (c := L + 2) rfl (cellF Y8) ?_
    refine w_arg ?_
    refine w_nm Y8.ns m8o ?_
    refine w_arg ?_
    refine w_nm Y8.ns m8s ?_
    refine w_arg ?_
    refine w_nm Y8.ns m8p ?_
    refine w_arg0 ?_
    refine w_kw ?_
    refine w_nm Y8.ns m8k ?_
    refine w_kw0 ⟨kpFn aIR (ctx Y8.F).now (by kernel_rfl) (by kernel_rfl), ?_⟩
    refine ir_things (n := n + 1) (e := i) (P := List.range ws.length) (B := insF (cW ws) i) (R := (List.range ws.length).drop (i + 1) ++ List.range ws.length) (ctx Y8.F).now ok (thX Y8) (kmK Y8) lF8 hq1 hi (insF_sorted (cW_weak ws) i) hz1 hlo1 hhi1 (ir_b4k w _ _ _ _ _) (fun h9 lF9 k9 => ?_)
    have Y9 := toF Y8 k9
    have lB9 := lsKept lB8 k9 (nmc hBF' nm0)
    have lG9 := lsKept lG8 k9 (nmc hGF nm0)
    refine w_arg0 ?_
    refine w_kw0 ⟨Kp.builtin _, ?_⟩
    refine w_append lG9 (by rw [List.length_replicate, sizeLine_eq]; lia) (fun h10 lG10 sb10 => ⟨fun a e => (by cases e), ?_⟩)
    have Y10 := toG Y9 (Kept.of_same sb10 im1)
    have lF10 := lF9.same sb10 hGF.symm
    have lB10 := lB9.same sb10 hGB.symm
    -- low
    refine w_cons ?_
    refine w_asg ?_
    refine w_binOp ?_
    refine w_binOp ?_
    refine w_binOp ?_
    refine w_cInt fun _ => ?_
    refine w_nm Y10.ns m8s ?_
    refine w_mulInt (by decide +kernel) fun _ => ?_
    refine w_cInt fun _ => ?_
    refine w_subInt fun _ => ?_
    refine w_nm Y10.ns m8p ?_
    refine w_subInt fun tl => ?_
    rw [show (3 : Int) * ((ws.length : Nat) : Int) - 1 - ((ws.length + i : Nat) : Int) = ((ws.length + (ws.length - 1 - i) : Nat) : Int) by lia]
    refine w_stF Y10 (fun h11 Y11 sb11 => ?_) im1
    have lF11 := lF10.same sb11 hFL
    have lB11 := lB10.same sb11 hBL
    have lG11 := lG10.same sb11 hGL
    -- one = back.pop(low)
    refine w_cons ?_
    refine w_asg ?_
    refine w_meth PySem.F.plainAttrs_list PySem.F.slot_list_pop PySem.F.type_list_pop ?_
    refine w_nmC (c := L + 3) rfl (cellB Y11) ⟨lB11.ty, ?_, ?_⟩
    · intro b e; injection e with e; subst e; obtain ⟨nn, e⟩ := lB11; exact ⟨_, e, rfl⟩
    refine w_args ?_
    refine w_arg ?_
    refine w_nm Y11.ns (if_pos rfl) ?_
    refine w_arg0 ?_
    refine w_kw0 ⟨Kp.builtin _, ?_⟩
    refine w_popAt (i := ws.length + (ws.length - 1 - i)) lB11 bp1 (Nat.le_trans hbl (by rw [sizeLine_eq]; decide)) (fun h12 lB12 sb12 => ?_)
    rw [bp2] at lB12
    have Y12 := toB Y11 (Kept.of_same sb12 im1)
    have lF12 := lF11.same sb12 hBF'.symm
    have lG12 := lG11.same sb12 hGB
    refine w_stF Y12 (fun h13 Y13 sb13 => ?_) im1
    have lF13 := lF12.same sb13 hFL
    have lB13 := lB12.same sb13 hBL
    have lG13 := lG12.same sb13 hGL
    generalize hm13 : (fun y => if y = nOne then some (vt tys (ws.length - 1 - i)) else if y = nLow then some (Value.int ((ws.length + (ws.length - 1 - i) : Nat) : Int) tl) else m8 y) = m13 at Y13
    have m13o : m13 nOne = some (vt tys (ws.length - 1 - i)) := by rw [← hm13]; rfl
    have m13l : m13 nLow = some (.int ((ws.length + (ws.length - 1 - i) : Nat) : Int) tl) := by rw [← hm13]; rfl
    have m13w : m13 nWays = some (.int ((inv wlt (ws.take (i + 1)) : Nat) : Int) tw3) := by rw [← hm13]; exact m8w
    have m13b : m13 nWaysB = some (.int (inv wlt (ws.drop (ws.length - i)) : Nat) tb) := by rw [← hm13]; exact m8b
    have m13x : ∀ z, z ∉ [nPlace, nWays, nOne, nLow, nWaysB] → m13 z = m z := fun z hz' => by
      rw [← hm13]; show (if z = nOne then _ else if z = nLow then _ else m8 z) = _
      rw [if_neg (fun q => hz' (by rw [q]; simp)), if_neg (fun q => hz' (by rw [q]; simp))]; exact m8x z hz'
    have m13s : m13 nSize = some (.int (ws.length : Nat) ts) := (m13x nSize (by decide)).trans ms
    have m13k : m13 nKey = some kv := (m13x nKey (by decide)).trans mk
    have m13g : m13 nGave = some (.ref GV) := (m13x nGave (by decide)).trans mg'
    -- ways_back
    refine w_cons ?_
    refine w_asg ?_
    refine w_binOp ?_
    refine w_binOp ?_
    refine w_nm Y13.ns m13b ?_
    refine w_callN ?_
    refine w_gK (ctx Y13.F).now (v := .ref aBL) (by kernel_rfl) ?_
    refine w_args ?_
    refine w_arg ?_
    refine w_nmC (c := L + 3) rfl (cellB Y13) ?_
    refine w_arg ?_
    refine w_pick Y13.F m13o m13s (thX Y13) hei (fun h14 e14 => ?_)
    have Y14 := Y13.ext e14
    refine w_arg ?_
    refine w_nm Y14.ns m13l ?_
    refine w_arg ?_
    refine w_binOp ?_
    refine w_binOp ?_
    refine w_cInt fun _ => ?_
    refine w_nm Y14.ns m13s ?_
    refine w_mulInt (by decide +kernel) fun _ => ?_
    refine w_cInt fun _ => ?_
    refine w_subInt fun _ => ?_
    refine w_arg0 ?_
    refine w_kw ?_
    refine w_nm Y14.ns m13k ?_
    refine w_kw0 ⟨kpFn aBL (ctx Y14.F).now (by kernel_rfl) (by kernel_rfl), ?_⟩
    refine bl_things (n := n + 2) (e := ws.length - 1 - i) (P := List.range ws.length ++ (List.range ws.length).take (ws.length - 1 - i)) (B := insB (cW ws) ws.length i) (R := List.range ws.length) (ctx Y14.F).now ok (thX Y14) (kmK Y14) (lB13.ext e14) hq2 hei (insB_sorted (cW_weak ws) ws.length i (Nat.le_of_lt hi)) hz2 rfl hlo2 hhi2 (bl_b4k w _ _ _ _ _) (fun h15 t15 e15 => ?_)
    refine w_addInt fun _ => ?_
    have e1315 := e14.trans e15
    have Y15 := Y14.ext e15
    refine w_nm Y15.ns m13l ?_
    refine w_subInt fun tb2 => ?_
    have hwB := waysB ws hi
    rw [show ((inv wlt (ws.drop (ws.length - i)) : Nat) : Int) + (((List.range ws.length ++ (List.range ws.length).take (ws.length - 1 - i)).length + ((insB (cW ws) ws.length i).countP fun j => cW ws j (ws.length - 1 - i)) : Nat) : Int) - ((ws.length + (ws.length - 1 - i) : Nat) : Int) = ((inv wlt (ws.drop (ws.length - (i + 1))) : Nat) : Int) by rw [hwB, hP2]; lia]
    refine w_stF Y15 (fun h16 Y16 sb16 => ?_) im1
    have lF16 := (lF13.ext e1315).same sb16 hFL
    have lB16 := (lB13.ext e1315).same sb16 hBL
    have lG16 := (lG13.ext e1315).same sb16 hGL
    generalize hm16 : (fun y => if y = nWaysB then some (Value.int ((inv wlt (ws.drop (ws.length - (i + 1))) : Nat) : Int) tb2) else m13 y) = m16 at Y16
    have m16b : m16 nWaysB = some (.int ((inv wlt (ws.drop (ws.length - (i + 1))) : Nat) : Int) tb2) := by rw [← hm16]; rfl
    have m16o : m16 nOne = some (vt tys (ws.length - 1 - i)) := by rw [← hm16]; exact m13o
    have m16l : m16 nLow = some (.int ((ws.length + (ws.length - 1 - i) : Nat) : Int) tl) := by rw [← hm16]; exact m13l
    have m16w : m16 nWays = some (.int ((inv wlt (ws.take (i + 1)) : Nat) : Int) tw3) := by rw [← hm16]; exact m13w
    have m16x : ∀ z, z ∉ [nPlace, nWays, nOne, nLow, nWaysB] → m16 z = m z := fun z hz' => by
      rw [← hm16]; show (if z = nWaysB then _ else m13 z) = _
      rw [if_neg (fun q => hz' (by rw [q]; simp))]; exact m13x z hz'
    have m16s : m16 nSize = some (.int (ws.length : Nat) ts) := (m16x nSize (by decide)).trans ms
    have m16k : m16 nKey = some kv := (m16x nKey (by decide)).trans mk
    have m16g : m16 nGave = some (.ref GV) := (m16x nGave (by decide)).trans mg'
    -- laid in from the back
    refine w_cons ?_
    refine w_expr ?_
    refine w_meth PySem.F.plainAttrs_list PySem.F.slot_list_append PySem.F.type_list_append ?_
    refine w_nm Y16.ns m16g ⟨lG16.ty, ?_, ?_⟩
    · intro b e; injection e with e; subst e; obtain ⟨nn, e⟩ := lG16; exact ⟨_, e, rfl⟩
    refine w_args ?_
    refine w_arg ?_
    refine w_callN ?_
    refine w_gK (ctx Y16.F).now (v := .ref aIL) (by kernel_rfl) ?_
    refine w_args ?_
    refine w_arg ?_
    refine w_nmC (c := L + 3) rfl (cellB Y16) ?_
    refine w_arg ?_
    refine w_nm Y16.ns m16o ?_
    refine w_arg ?_
    refine w_nm Y16.ns m16l ?_
    refine w_arg ?_
    refine w_binOp ?_
    refine w_binOp ?_
    refine w_cInt fun _ => ?_
    refine w_nm Y16.ns m16s ?_
    refine w_mulInt (by decide +kernel) fun _ => ?_
    refine w_cInt fun _ => ?_
    refine w_subInt fun _ => ?_
    refine w_arg0 ?_
    refine w_kw ?_
    refine w_nm Y16.ns m16k ?_
    refine w_kw0 ⟨kpFn aIL (ctx Y16.F).now (by kernel_rfl) (by kernel_rfl), ?_⟩
    refine il_things (n := n + 1) (e := ws.length - 1 - i) (P := List.range ws.length ++ (List.range ws.length).take (ws.length - 1 - i)) (B := insB (cW ws) ws.length i) (R := List.range ws.length) (ctx Y16.F).now ok (thX Y16) (kmK Y16) lB16 hq2 hei (insB_sorted (cW_weak ws) ws.length i (Nat.le_of_lt hi)) hz2 hlo2 hhi2 (il_b4k w _ _ _ _ _) (fun h17 lB17 k17 => ?_)
    have Y17 := toB Y16 k17
    have lF17 := lsKept lF16 k17 (nmc hBF'.symm nm0)
    have lG17 := lsKept lG16 k17 (nmc hGB nm0)
    refine w_arg0 ?_
    refine w_kw0 ⟨Kp.builtin _, ?_⟩
    refine w_append lG17 (by rw [List.length_append, List.length_replicate, sizeLine_eq]; simp; lia) (fun h18 lG18 sb18 => ⟨fun a e => (by cases e), w_nil (hQb _ _ ?_)⟩)
    have Y18 := toG Y17 (Kept.of_same sb18 im1)
    refine ⟨Y18.K, m16, Y18.F, m16x, ⟨tw3, m16w⟩, ⟨tb2, m16b⟩, lF17.same sb18 hGF.symm, ?_, ?_⟩
    · have : backI ws (i + 1) = ((List.range ws.length ++ (List.range ws.length).take (ws.length - 1 - i)) ++ putL (cW ws) (ws.length - 1 - i) (insB (cW ws) ws.length i)) ++ List.range ws.length := by
        unfold backI
        rw [show ws.length - (i + 1) = ws.length - 1 - i by lia]
        simp only [insB, List.append_assoc]
      rw [this]
      exact lB17.same sb18 hGB.symm
    · rw [show 2 * (i + 1) = 2 * i + 1 + 1 by lia, List.replicate_succ', List.replicate_succ']
      exact lG18
  · obtain ⟨m2, F2, e2, w1, w2, lF2, lB2, lG2⟩ := hJ
    refine w_nil (k h2 m2 F2 ((Kept.of_ext e1).trans k2) lF2 lB2 lG2 ?_ ?_ e2)
    · rw [List.take_length] at w1; exact w1
    · rw [Nat.sub_self, List.drop_zero] at w2; exact w2
end
end Mine
end
section
open PySem PySem.W PyProof.Rows PySem.Calls
set_option Elab.async false
set_option maxRecDepth 100000
set_option linter.unusedVariables false
set_option linter.unusedSimpArgs false
namespace Mine
theorem frontI_end (ws : List W) : frontI ws ws.length = (List.range ws.length ++ insF (cW ws) ws.length) ++ List.range ws.length := by
  unfold frontI
  rw [show (List.range ws.length).drop ws.length = [] from List.drop_eq_nil_of_le (by simp), List.nil_append]
theorem backI_end (ws : List W) : backI ws ws.length = (List.range ws.length ++ insB (cW ws) ws.length ws.length) ++ List.range ws.length := by
  unfold backI
  rw [Nat.sub_self, List.take_zero, List.append_nil, List.append_assoc]
section
variable {prog : Program} {w : World} {A : Around} {h base H : Heap} {mg mb : Str → Option Value} {L : Addr} {env : Env}
theorem TestElt.mk1 {M : Model} {c elt : Expr} {Q : Option Value → Heap → Prop} (z : Wp M A (isTrue c env (eval c env)) (fun ok h2 => if ok = true then Wp M A (eval elt env) (fun y => Q (some y)) h2 else Q none h2) h) : TestElt M A [c] elt env Q h := z
set_option maxHeartbeats 4000000 in
theorem mo4 {n : Nat} {DU FR BK GV : Addr} {tys tky : List Value} {ws : List W} {p : List Nat} {lo B : Addr} {ts t1 t2 : Tok} {m : Str → Option Value} {gl : List Value} {iw : Nat} {Q : Flow → Heap → Prop} (GB : Gd w mg mb H base) (ok : OkA (n + 4) A) (F : Fr base L h m) (hcb : ∀ i, L ≤ i → base.get? i = none)
    (X : ThK h tys tky ws lo B) (hlo : L ≤ lo) (c1 : h.IsCell (L + 1) (some (.ref DU))) (c2 : h.IsCell (L + 2) (some (.ref FR))) (c3 : h.IsCell (L + 3) (some (.ref BK))) (hp : p.length = ws.length) (hpl : ∀ j ∈ p, j < ws.length)
    (lD : Ls h DU (((List.range ws.length ++ p) ++ List.range ws.length).map (vt tys))) (lF : Ls h FR (((List.range ws.length ++ p) ++ List.range ws.length).map (vt tys))) (lB : Ls h BK (((List.range ws.length ++ p) ++ List.range ws.length).map (vt tys))) (lG : Ls h GV gl)
    (hz : ws.length ≤ 20) (hg : L < GV) (hD : L < DU) (hF : L < FR) (hB : L < BK)
    (ms : m nSize = some (.int (ws.length : Nat) ts)) (mw : m nWays = some (.int (iw : Nat) t1)) (mb' : m nWaysB = some (.int (iw : Nat) t2)) (mg' : m nGave = some (.ref GV))
    (k : ∀ h' m' tp t3 MV, Fr base L h' m' → Kept [L] h h' → h'.get? tp = some (tpl [.int (iw : Nat) t1, .int (iw : Nat) t2, .ref GV, .int (6 * ws.length : Nat) t3, .ref MV]) → Ls h' GV gl → Ls h' MV [] → h.objs.size ≤ tp → h.objs.size ≤ MV → Q (.ret (.ref tp)) h') :
    Wp (model prog w) A (execs ((moB w).drop 7) (moE w L)) Q h := by
  have ctx : ∀ {h' m'}, Fr base L h' m' → Gd w mg mb H h' := fun F' => GB.ext F'.keep
  have Y : Fs base h [L] L h m := Fs.mk0 F _
  have hdl : (((List.range ws.length ++ p) ++ List.range ws.length).map (vt tys)).length = 3 * ws.length := by
    rw [List.length_map, List.length_append, List.length_append, List.length_range, hp]; lia
  have hget : ∀ i, i < 3 * ws.length → ∃ T, (((List.range ws.length ++ p) ++ List.range ws.length).map (vt tys))[i]? = some (Value.ref T) ∧ ∃ t x, Ls h T [.str (S x) t] := fun i hi => by
    have hi' : i < ((List.range ws.length ++ p) ++ List.range ws.length).length := by rw [List.length_map] at hdl; rw [hdl]; exact hi
    have hm : ((List.range ws.length ++ p) ++ List.range ws.length)[i] < ws.length := by
      have := List.getElem_mem hi'
      rcases List.mem_append.mp this with q | q
      · rcases List.mem_append.mp q with q | q
        · exact List.mem_range.mp q
        · exact hpl _ q
      · exact List.mem_range.mp q
    obtain ⟨T, t, e1, e2, l, _⟩ := X.at_ _ hm
    refine ⟨T, ?_, t, _, l⟩
    rw [List.getElem?_map, List.getElem?_eq_getElem hi']
    exact congrArg some e1
  refine w_cons ?_
  refine w_asgLc Y (cl := [(nFront, L + 2), (nDue, L + 1), (nBack, L + 3)]) (Nat.le_refl _) rfl rfl rfl rfl rfl rfl im1 rfl rfl ?_
  refine w_callN ?_
  refine w_gB (v := .type "range") (ctx F).now (by kernel_rfl) (by kernel_rfl) (by decide) ?_
  refine w_args ?_
  refine w_arg ?_
  refine w_binOp ?_
  refine w_cInt fun _ => ?_
  refine w_nm F.ns ms ?_
  refine w_mulInt (by decide +kernel) fun _ => ?_
  rw [show (3 : Int) * ((ws.length : Nat) : Int) = ((3 * ws.length : Nat) : Int) by lia]
  refine w_arg0 ?_
  refine w_kw0 ⟨Kp.type _, ?_⟩
  refine w_range fun h1 r r1 r2 r3 hr e1 z1 ir => ?_
  refine ⟨3 * ws.length, _, [], iterRange0 rfl ok.3 ir (by lia), by rw [sizeLine_eq]; lia, fun b hb => (nomatch hb), e1,
    (fun b0 i ys h' => ys = []), ⟨fun b0 i ys h1' h2' hJ off => hJ, fun b0 => rfl, fun b0 C i v ys h' mm hi' hC hbb hv hJ kk hy ns => t_hide fun Qd hQd => ?_⟩, fun b0 ys D C h'' h2 hD' hDC hCb hLn l2 hy hJ kk ex Y2 => ?_⟩
  · obtain ⟨tv, rfl⟩ := hv
    subst hJ
    refine w_asgName ?_
    refine w_store (env := compEnvC _ [(nFront, L + 2), (nDue, L + 1), (nBack, L + 3)] C (moE w L)) (m := mm) ns (fun h2' n2 sb2' => ?_) rfl rfl
    have kC : Kept [C] h' h2' := Kept.of_same sb2' im1
    have hCh : h.get? C = none := get_none (Nat.le_trans (by rw [z1]; exact Nat.le_succ _) hC)
    have e02 : Ext h h2' := fun b o e => kC b o (nmc (by intro q; subst q; rw [hCh] at e; cases e) nm0) (kk b o nm0 (e1 b o e))
    obtain ⟨T, hT, t, x, lT⟩ := hget i hi'
    obtain ⟨nn, oT⟩ := lT.ext e02
    have hsz : (((List.range ws.length ++ p) ++ List.range ws.length).map (vt tys)).length ≤ sizeLine := by rw [hdl, sizeLine_eq]; lia
    refine TestElt.mk1 ?_
    refine w_tOr ?_
    refine w_tCmp ?_
    refine w_sub ?_
    refine w_nmC (c := L + 2) rfl (c2.keeps e02) ?_
    refine w_nm n2 (if_pos rfl) ?_
    refine w_itemL (lF.ext e02).isList hT hsz ?_
    refine w_sub ?_
    refine w_nmC (c := L + 1) rfl (c1.keeps e02) ?_
    refine w_nm n2 (if_pos rfl) ?_
    refine w_itemL (lD.ext e02).isList hT hsz ?_
    refine w_isNotRef oT oT (show Value.type "list" ≠ Value.type "tuple" by decide) ?_
    rw [decide_eq_true rfl]
    refine w_tBool ⟨fun e => (by cases e), fun _ => ?_⟩
    refine w_tOr ?_
    refine w_tCmp ?_
    refine w_sub ?_
    refine w_nmC (c := L + 3) rfl (c3.keeps e02) ?_
    refine w_nm n2 (if_pos rfl) ?_
    refine w_itemL (lB.ext e02).isList hT hsz ?_
    refine w_sub ?_
    refine w_nmC (c := L + 1) rfl (c1.keeps e02) ?_
    refine w_nm n2 (if_pos rfl) ?_
    refine w_itemL (lD.ext e02).isList hT hsz ?_
    refine w_isNotRef oT oT (show Value.type "list" ≠ Value.type "tuple" by decide) ?_
    rw [decide_eq_true rfl]
    refine w_tBool ⟨fun e => (by cases e), fun _ => w_tOr0 ?_⟩
    rw [if_neg (by decide)]
    exact hQd _ _ ⟨kC, ⟨_, n2⟩, rfl⟩
  subst hJ
  have kLC : Kept [L] h h2 := Y2.K
  have lne : ∀ {b : Addr}, L < b → b ∉ [L] := fun hb => nmc (Nat.ne_of_gt hb) nm0
  have lF2 := lsKept lF kLC (lne hF)
  have lB2 := lsKept lB kLC (lne hB)
  have lG2 := lsKept lG kLC (lne hg)
  have cK : ∀ {i v}, i ≠ L → h.IsCell i v → h2.IsCell i v := fun a ⟨o, q, r⟩ => ⟨o, kLC _ _ (nmc a nm0) q, r⟩
  have c22 := cK (adne (by decide)) c2
  have c32 := cK (adne (by decide)) c3
  have hz1 : h.objs.size ≤ D := Nat.le_trans (by rw [z1]; exact Nat.le_succ _) hD'
  refine w_cons ?_
  refine w_ret ?_
  refine w_tuple ?_
  refine w_arg ?_
  refine w_nm Y2.ns mw ?_
  refine w_arg ?_
  refine w_nm Y2.ns mb' ?_
  refine w_arg ?_
  refine w_nm Y2.ns mg' ?_
  refine w_arg ?_
  refine w_binOp ?_
  refine w_callN ?_
  refine w_gB (v := .builtin "len") (ctx Y2.F).now (by kernel_rfl) (by kernel_rfl) (by decide) ?_
  refine w_args ?_
  refine w_arg ?_
  refine w_nmC (c := L + 2) rfl c22 ?_
  refine w_arg0 ?_
  refine w_kw0 ⟨Kp.builtin _, ?_⟩
  refine w_lenList lF2.isList (by rw [List.size_toArray, hdl]; lia) fun _ => ?_
  refine w_callN ?_
  refine w_gB (v := .builtin "len") (ctx Y2.F).now (by kernel_rfl) (by kernel_rfl) (by decide) ?_
  refine w_args ?_
  refine w_arg ?_
  refine w_nmC (c := L + 3) rfl c32 ?_
  refine w_arg0 ?_
  refine w_kw0 ⟨Kp.builtin _, ?_⟩
  refine w_lenList lB2.isList (by rw [List.size_toArray, hdl]; lia) fun _ => ?_
  refine w_addInt fun t6 => ?_
  rw [List.size_toArray, hdl, show ((3 * ws.length : Nat) : Int) + ((3 * ws.length : Nat) : Int) = ((6 * ws.length : Nat) : Int) by lia]
  refine w_arg ?_
  refine w_nm Y2.ns rfl ?_
  refine w_arg0 ⟨by simp [sizeLine_eq], fun h3 tp etp e3 g3 z3 => ?_⟩
  exact k h3 _ tp t6 D (Y2.F.kept e3) (kLC.trans (Kept.of_ext e3)) g3 (lG2.ext e3) (l2.ext e3) (by rw [etp]; exact Nat.le_trans hz1 (Nat.le_of_lt l2.lt)) hz1
set_option maxHeartbeats 4000000 in
theorem mo_call {n : Nat} {line : Addr} {lys : List Value} {ws : List W} {RR : Addr → Prop} {Q : Value → Heap → Prop} (G : Gd w mg mb H h) (ok : OkA (n + 5) A) (T : TabR RR H h tabM (placesM w)) (hRR : ∀ c, h.objs.size ≤ c → RR c) (C : CodeHd H codeM tabM) (hb : H.BuiltinsAt mg tabM) (hPH : H.get? tabM = none)
    (lL : Ls h line lys) (sL : Strs lys ws) (hz : ws.length ≤ 20) (hn1 : 1 ≤ ws.length) (hu : A.units + 100 < cLine)
    (k : ∀ h' tp t1 t2 t3 GV MV, Kept [tabM] h h' → TabR RR H h' tabM (placesM w) → h'.get? tp = some (tpl [.int (inv wlt ws : Nat) t1, .int (inv wlt ws : Nat) t2, .ref GV, .int (6 * ws.length : Nat) t3, .ref MV]) → Ls h' GV (List.replicate (2 * ws.length) Value.none) → Ls h' MV [] → Q (.ref tp) h') :
    Wc (model prog w) A (.call (.ref aMo) ⟨[.ref line], []⟩) Q h := by
  have hTlt : tabM < h.objs.size := by obtain ⟨ps, e, _⟩ := T; exact Heap.lt_size e
  refine c_callC (fd := fnAt w aMo) (body := bodyAt w aMo) (binds := [(nLn, .ref line)]) (by have := ok.depth; lia) (G.now.K _ _ (by kernel_rfl : (KH w).lookup aMo = some (objAt w aMo))) (by kernel_rfl) G.now.lim
    (codeRec_of G.now.K (by kernel_rfl)) (by kernel_rfl) (by kernel_rfl) (by kernel_rfl) (fun L x hx => ?_) (fun L h₁ hL F cell => ?_)
  · simp only [List.mem_singleton] at hx; subst hx; exact .inl (by kernel_rfl)
  have ok' : OkA (n + 4) (A.deeper (callEnvC (fnAt w aMo) L aMo)) := ok.deeper _
  have c1 : h₁.IsCell (L + 1) none := cell nDue _ rfl
  have c2 : h₁.IsCell (L + 2) none := cell nFront _ rfl
  have c3 : h₁.IsCell (L + 3) none := cell nBack _ rfl
  clear cell
  have hPL : tabM < L := by rw [hL]; exact hTlt
  have hSH : ∀ i ∈ [tabM], H.get? i = none := List.forall_mem_singleton.mpr hPH
  have GB : Gd w mg mb H (hideAll h [tabM]) := G.hid hSH
  have F1 := frHid F [tabM]
  have hcb : ∀ i, L ≤ i → (hideAll h [tabM]).get? i = none := fun i hi => get_none (by rw [hideAll_size, ← hL]; exact hi)
  have hPb : (hideAll h [tabM]).get? tabM = none := hideAll_none _ im1
  have hL3 : L + 3 < h₁.objs.size := let ⟨o, q, _⟩ := c3; Heap.lt_size q
  have hlL : line < L := by rw [hL]; exact lL.lt
  have hu' : (A.deeper (callEnvC (fnAt w aMo) L aMo)).units + 64 < cLine := by show A.units + 3 + 64 < _; lia
  refine mo1 (n := n) GB ok' F1 hcb c1 hL3 hu' rfl (lL.ext F.keep) sL hz hn1 hlL hPL (fun h2 m2 TL DU tys p B F2 k2 cD lT lD Th sp hB hTL hDU hTD ⟨ts, m2s⟩ m2t => ?_)
  have ext12 : ∀ {b o}, b ∉ [L, L + 1] → h₁.get? b = some o → h2.get? b = some o := fun a e => k2 _ _ a e
  have c22 : h2.IsCell (L + 2) none := let ⟨o, a, b⟩ := c2; ⟨o, ext12 (nmc (adne (by decide)) (nmc (adnn (by decide)) nm0)) a, b⟩
  have c32 : h2.IsCell (L + 3) none := let ⟨o, a, b⟩ := c3; ⟨o, ext12 (nmc (adne (by decide)) (nmc (adnn (by decide)) nm0)) a, b⟩
  have hty := Th.len
  have T2 : TabR RR H h2 tabM (placesM w) := (T.ext F.keep).kept k2 (nmc (Nat.ne_of_lt hPL) (nmc (Nat.ne_of_lt (Nat.lt_succ_of_lt hPL)) nm0)) (by
    intro i hi o vs ho hv
    cases hi with
    | head => obtain ⟨o', es, epo, e', hd', _⟩ := F.ns; rw [ho] at e'; cases e'; rw [hv] at hd'; cases hd'
    | tail _ hi => cases hi with
      | head => obtain ⟨o', a, b⟩ := c1; rw [ho] at a; cases a; rw [hv] at b; cases b
      | tail _ q => cases q)
  have hh2 : ∀ c, h2.objs.size ≤ c → RR c := fun c hc => hRR c (Nat.le_trans F.above (Nat.le_trans (Nat.le_of_lt F2.ns.lt) hc))
  have hTL0 : L < TL := Nat.lt_of_le_of_lt (Nat.le_add_right _ _) hTL
  refine mo2 (n := n) (B := B) (TL := TL) GB ok' F2 hcb T2 hh2 C hb hPb hPH hPL c22 c32 m2s m2t lT hty hz hn1 hB hTL0 ⟨Nat.ne_of_gt (Nat.lt_trans (Nat.lt_succ_self _) hTL), Nat.ne_of_gt hTL⟩ (fun h3 m3 FR BK GV kv f c' F3 k3 T3 K3 hfc cF cB lF lB lG hFR hFB hBG ⟨ts', m3s⟩ m3k ⟨t1, m3w⟩ ⟨t2, m3b⟩ m3g => ?_)
  obtain ⟨tky, X2⟩ := Th.thK
  have hDUlt := lD.lt
  have hBF : B ≤ FR := Nat.le_trans hB hFR
  have hDF : DU < FR := Nat.lt_of_lt_of_le hDUlt hFR
  have hL3F : L + 3 < FR := Nat.lt_trans hDU hDF
  have hPL3 : tabM < L + 3 := Nat.lt_of_lt_of_le hPL (Nat.le_add_right _ _)
  have X3 := X2.kept k3 (List.forall_mem_cons.mpr ⟨.inl (Nat.le_add_right _ _), List.forall_mem_cons.mpr ⟨.inl (Nat.le_succ _), List.forall_mem_cons.mpr ⟨.inl (Nat.le_refl _), List.forall_mem_singleton.mpr (.inl (Nat.le_of_lt hPL3))⟩⟩⟩)
  have cD3 : h3.IsCell (L + 1) (some (.ref DU)) := let ⟨o, a, b⟩ := cD; ⟨o, k3 _ _ (nmc (adne (by decide)) (nmc (adnn (by decide)) (nmc (adnn (by decide)) (nmc (Nat.ne_of_gt (Nat.lt_succ_of_lt hPL)) nm0)))) a, b⟩
  have hLD : L < DU := Nat.lt_of_le_of_lt (Nat.le_add_right _ _) hDU
  have lD3 := lsKept lD k3 (nmc (Nat.ne_of_gt hLD) (nmc (Nat.ne_of_gt (Nat.lt_trans (Nat.lt_succ_self _) hDU)) (nmc (Nat.ne_of_gt hDU) (nmc (Nat.ne_of_gt (Nat.lt_trans hPL hLD)) nm0))))
  refine mo3 (n := n) (f := f) (c' := c') GB ok' F3 hcb X3 K3 hfc cF cB lF lB lG hBF hL3F hFB hBG (Nat.le_add_right _ _) hz hn1 m3s m3k m3w m3b m3g (fun h4 m4 F4 k4 lF4 lB4 lG4 ⟨u1, w4⟩ ⟨u2, b4⟩ e4 => ?_)
  have hLF : L < FR := Nat.lt_of_le_of_lt (Nat.le_add_right _ _) hL3F
  have hLB : L < BK := Nat.lt_trans hLF hFB
  have hLG : L < GV := Nat.lt_trans hLB hBG
  have ne4 : ∀ {b : Addr}, b ≠ L → b < FR → b ∉ [L, FR, BK, GV] := fun a b => nmc a (nmc (Nat.ne_of_lt b) (nmc (Nat.ne_of_lt (Nat.lt_trans b hFB)) (nmc (Nat.ne_of_lt (Nat.lt_trans b (Nat.lt_trans hFB hBG))) nm0)))
  have X4 := X3.kept k4 (List.forall_mem_cons.mpr ⟨.inl (Nat.le_add_right _ _), List.forall_mem_cons.mpr ⟨.inr hBF, List.forall_mem_cons.mpr ⟨.inr (Nat.le_trans hBF (Nat.le_of_lt hFB)), List.forall_mem_singleton.mpr (.inr (Nat.le_trans hBF (Nat.le_of_lt (Nat.lt_trans hFB hBG))))⟩⟩⟩)
  have cK4 : ∀ {i v}, i ≠ L → i < FR → h3.IsCell i v → h4.IsCell i v := fun a b ⟨o, q, r⟩ => ⟨o, k4 _ _ (ne4 a b) q, r⟩
  have lD4 := lsKept lD3 k4 (ne4 (Nat.ne_of_gt hLD) hDF)
  obtain ⟨i1, i2⟩ := ins_eq (cW_weak ws) sp
  rw [frontI_end, i1] at lF4
  rw [backI_end, i2] at lB4
  have eD : tys ++ (p.map fun i => tys.getD i Value.none) ++ tys = ((List.range ws.length ++ p) ++ List.range ws.length).map (vt tys) := by
    rw [List.map_append, List.map_append, tys_map hty]
  rw [eD] at lD4
  refine mo4 (n := n) GB ok' F4 hcb X4 (Nat.le_add_right _ _) (cK4 (adne (by decide)) (Nat.lt_trans (Nat.lt_trans (Nat.lt_succ_self _) (Nat.lt_succ_self _)) hL3F) cD3) (cK4 (adne (by decide)) (Nat.lt_trans (Nat.lt_succ_self _) hL3F) cF) (cK4 (adne (by decide)) hL3F cB) sp.len sp.lt lD4 lF4 lB4 lG4 hz hLG hLD hLF hLB
    ((e4 nSize (by decide)).trans m3s) w4 b4 ((e4 nGave (by decide)).trans m3g) (fun h5 m5 tp t3 MV F5 k5 g5 lG5 lM5 htp hMV => ?_)
  refine k h5 tp u1 u2 t3 GV MV (Kept.of_fr F5) ?_ g5 lG5 lM5
  refine (TabR.kept T3 k4 (ne4 (Nat.ne_of_lt hPL) (Nat.lt_trans hPL hLF)) ?_).keptL F4.ns k5 (Nat.ne_of_lt hPL)
  intro i hi o vs ho hv
  have nl : ∀ {l : Addr} {xs : List Value}, Ls h3 l xs → h3.get? l = some o → False := fun ⟨nn, e⟩ e' => by rw [e] at e'; cases e'; cases hv
  cases hi with
  | head => obtain ⟨o', es, epo, e', hd', _⟩ := F3.ns; rw [ho] at e'; cases e'; rw [hv] at hd'; cases hd'
  | tail _ hi => cases hi with
    | head => exact nl lF ho
    | tail _ hi => cases hi with
      | head => exact nl lB ho
      | tail _ hi => cases hi with
        | head => exact nl lG ho
        | tail _ q => cases q
end
end Mine
end
section
open PySem PySem.W PyProof.Rows PySem.Calls
set_option Elab.async false
set_option maxRecDepth 100000
set_option linter.unusedVariables false
set_option linter.unusedSimpArgs false
namespace Mine
abbrev aLaw : Addr := 147
noncomputable abbrev lawE (w : World) (L : Addr) : Env := callEnvC (fnAt w aLaw) L aLaw
noncomputable abbrev lawB (w : World) : List Stmt := bodyAt w aLaw
abbrev nScript : Str := Str.ofString "script"
abbrev nNumbers : Str := Str.ofString "numbers"
abbrev nOther : Str := Str.ofString "other"
abbrev nFalls : Str := Str.ofString "falls"
def numsOf (sc : List Int) : List Int := [4, 1, 92, 4, 116] ++ sc.take 5
def wordsOf (sc : List Int) : List (List Nat) := (numsOf sc).map word7
def dressOf (sc : List Int) : List Int := (List.range (numsOf sc).length).map fun i => ((numsOf sc).getD i 0).fdiv 147 + (i : Int)
theorem nums_len (sc : List Int) : 5 ≤ (numsOf sc).length ∧ (numsOf sc).length ≤ 10 := by unfold numsOf; simp; lia
theorem ints_of_rel {items ys : List Value} {ns : List Int} {f : Int → Int} (hi : IntsAre items ns) (h : Rel2 (fun i v y => ∃ n t u, v = Value.int n t ∧ y = Value.int (f n) u) items ys) : IntsAre ys (ns.map f) := by
  obtain ⟨hl, h⟩ := h
  have : ∀ (items ys : List Value) (ns : List Int), IntsAre items ns → ys.length = items.length → (∀ (i : Nat) (v y : Value), items[i]? = some v → ys[i]? = some y → ∃ n t u, v = Value.int n t ∧ y = Value.int (f n) u) → IntsAre ys (ns.map f) := by
    intro items
    induction items with
    | nil => intro ys ns hi hl _; cases hi; cases ys with | nil => exact .nil | cons a b => simp at hl
    | cons v items ih =>
      intro ys ns hi hl h
      cases hi with
      | cons n t hi =>
        cases ys with
        | nil => simp at hl
        | cons y ys =>
          obtain ⟨n', t', u, e1, e2⟩ := h 0 _ _ rfl rfl
          injection e1 with e1 _
          subst e1; subst e2
          exact .cons _ _ (ih ys _ hi (by simpa using hl) (fun i v y a b => h (i + 1) v y (by simpa using a) (by simpa using b)))
  exact this items ys ns hi hl h
theorem strs_of_rel {items ys : List Value} {ns : List Int} {f : Int → List Nat} (hi : IntsAre items ns) (h : Rel2 (fun i v y => ∃ n t u, v = Value.int n t ∧ y = Value.str (S (f n)) u) items ys) : Strs ys (ns.map f) := by
  obtain ⟨hl, h⟩ := h
  have : ∀ (items ys : List Value) (ns : List Int), IntsAre items ns → ys.length = items.length → (∀ (i : Nat) (v y : Value), items[i]? = some v → ys[i]? = some y → ∃ n t u, v = Value.int n t ∧ y = Value.str (S (f n)) u) → Strs ys (ns.map f) := by
    intro items
    induction items with
    | nil => intro ys ns hi hl _; cases hi; cases ys with | nil => exact trivial | cons a b => simp at hl
    | cons v items ih =>
      intro ys ns hi hl h
      cases hi with
      | cons n t hi =>
        cases ys with
        | nil => simp at hl
        | cons y ys =>
          obtain ⟨n', t', u, e1, e2⟩ := h 0 _ _ rfl rfl
          injection e1 with e1 _
          subst e1; subst e2
          exact ⟨⟨_, rfl⟩, ih ys _ hi (by simpa using hl) (fun i v y a b => h (i + 1) v y (by simpa using a) (by simpa using b))⟩
  exact this items ys ns hi hl h
theorem IntsAre.append {a b : List Value} {x y : List Int} (h : IntsAre a x) (h' : IntsAre b y) : IntsAre (a ++ b) (x ++ y) := by
  induction h with
  | nil => exact h'
  | cons n t _ ih => exact .cons n t ih
theorem IntsAre.take {a : List Value} {x : List Int} (h : IntsAre a x) (k : Nat) : IntsAre (a.take k) (x.take k) := by
  induction h generalizing k with
  | nil => simpa using IntsAre.nil
  | cons n t _ ih => cases k with | zero => exact .nil | succ k => exact .cons n t (ih k)

section
variable {prog : Program} {w : World} {A : Around} {h base H : Heap} {mg mb : Str → Option Value} {L : Addr}
set_option maxHeartbeats 4000000 in
theorem na1 {n : Nat} {sl : Addr} {svs : List Value} {sc : List Int} {Q : Flow → Heap → Prop} {m : Str → Option Value} (GB : Gd w mg mb H base) (ok : OkA (n + 4) A) (F : Fr base L h m) (hm : m nScript = some (.ref sl)) (hsl : base.IsList sl svs.toArray) (hsv : IntsAre svs sc) (hz : sc.length ≤ 63)
    (c1 : h.IsCell (L + 1) none) (hcb : base.get? (L + 1) = none)
    (k : ∀ h' m' wl wys tt, Fr base L h' m' → Kept [L, L + 1] h h' → Ls h' wl wys → Strs wys (wordsOf sc) → m' nWords = some (.ref wl) → m' nText = some (.str (S (lawText (wordsOf sc) (dressOf sc))) tt) → h.objs.size ≤ wl → Wp (model prog w) A (execs ((lawB w).drop 3) (lawE w L)) Q h') :
    Wp (model prog w) A (execs (lawB w) (lawE w L)) Q h := by
  have ctx : ∀ {h' m'}, Fr base L h' m' → Gd w mg mb H h' := fun F' => GB.ext F'.keep
  have X : Fs base h [L, L + 1] L h m := Fs.mk0 F _
  have hc1 : L + 1 < h.objs.size := by obtain ⟨o, e, _⟩ := c1; exact Heap.lt_size e
  refine w_cons ?_
  refine w_asg ?_
  refine w_binOp ?_
  refine w_list ?_
  refine w_arg (w_cInt fun u1 => ?_)
  refine w_arg (w_cInt fun u2 => ?_)
  refine w_arg (w_cInt fun u3 => ?_)
  refine w_arg (w_cInt fun u4 => ?_)
  refine w_arg (w_cInt fun u5 => ?_)
  refine w_arg0 ⟨by simp [sizeLine_eq], fun h3 al hal e3 l3 z3 => ?_⟩
  have X3 := X.ext e3
  have hsl3 : h3.IsList sl svs.toArray := IsList.ext hsl X3.F.keep
  have hlen := IntsAre.length hsv
  refine w_lcPure (cl := []) ok.3 rfl rfl rfl rfl rfl ?_
  refine w_sub ?_
  refine w_nm X3.ns hm ?_
  refine w_slice ?_
  refine w_part0 ?_
  refine w_part ?_
  refine w_cInt fun _ => ?_
  refine w_part0 ?_
  refine w_sliceL hsl3 (lo := none) (hi := some 5) (st := none) .none (.int _ _) .none (by decide) (fun rl4 h4 hrl4 e4 l4 z4 => ?_) (by rw [sizeLine_eq]; lia) _ rfl
  rw [show ((5 : Int)) = ((5 : Nat) : Int) from rfl, slice_to] at l4
  refine ⟨rl4, _, (fun i v y => ∃ n t u, v = Value.int n t ∧ y = Value.int (id n) u), rfl, l4.isList, by simp [sizeLine_eq]; lia, fun C h' m' i v Q' hv ex ns hC kq => ?_, fun ys5 D5 h5 hD5 l5 r5 e5 => ?_⟩
  · obtain ⟨n0, t0, e1, rfl⟩ := ints_get (hsv.take 5) hv
    exact w_nm ns (if_pos rfl) (kq _ _ ⟨n0, t0, t0, rfl, rfl⟩ (Ext.refl _))
  have i5 := ints_of_rel (hsv.take 5) r5
  rw [List.map_id] at i5
  have X5 := (X3.ext e4).ext e5
  have l35 := (l3.ext e4).ext e5
  refine w_addList l35 l5 (by rw [sizeLine_eq]; have := i5.length; simp at this ⊢; lia) (fun h6 e6 l6 z6 => ?_)
  have inum : IntsAre ([Value.int 4 u1, Value.int 1 u2, Value.int 92 u3, Value.int 4 u4, Value.int 116 u5] ++ ys5) (numsOf sc) := IntsAre.append (.cons _ _ (.cons _ _ (.cons _ _ (.cons _ _ (.cons _ _ .nil))))) i5
  generalize hnv : [Value.int 4 u1, Value.int 1 u2, Value.int 92 u3, Value.int 4 u4, Value.int 116 u5] ++ ys5 = nvs at l6 inum
  obtain ⟨hn5, hn10⟩ := nums_len sc
  have hnvl : nvs.length = (numsOf sc).length := inum.length
  have X6 := X5.ext e6
  have hnl0 : h.objs.size ≤ h5.objs.size := by
    have h1 : L + 1 < h5.objs.size := let ⟨o, e, _⟩ := ((c1.keeps e3).keeps e4).keeps e5; Heap.lt_size e
    have := l35.lt
    rw [hal] at this
    lia
  have hnL : h5.objs.size ≠ L + 1 := Nat.ne_of_gt (Nat.lt_of_lt_of_le hc1 hnl0)
  have c16 : h6.IsCell (L + 1) none := (((c1.keeps e3).keeps e4).keeps e5).keeps e6
  refine w_storeC (c := L + 1) rfl c16 (fun h7 c7 sb7 => ?_)
  have X7 := X6.kept (T := [L + 1]) (Kept.of_same sb7 im1) (List.forall_mem_singleton.mpr hcb) (nmc (adne (by decide)).symm nm0) (List.forall_mem_singleton.mpr (.inl im2))
  have l7 := l6.same sb7 hnL
  generalize hnl : h5.objs.size = nl at *
  refine w_cons ?_
  refine w_asgLc X7 (cl := []) (Nat.zero_le _) rfl rfl rfl rfl rfl rfl im1 rfl rfl ?_
  refine w_nmC (c := L + 1) rfl c7 ?_
  refine ⟨nvs.length, _, [nl], iterList (.inl rfl) ok.3 l7.isList, by rw [sizeLine_eq]; lia, fun b hb => by rw [List.mem_singleton.mp hb]; exact l7.lt, Ext.refl _, _, compT_pure (fun i v y => ∃ n t u, v = Value.int n t ∧ y = Value.str (S (word7 n)) u) rfl rfl rfl (fun C h' mm i v Q' hv ex ns hC kq => ?_), fun b0 ys D C h'' h8 hD hDC hCb hLn l8 hy j kk ex X8 => ?_⟩
  · obtain ⟨n0, t0, e1, rfl⟩ := ints_get inum hv
    refine w_callN ?_
    refine w_gK ((ctx X7.F).ext ex).now (v := .ref aWo) (by kernel_rfl) ?_
    refine w_args ?_
    refine w_arg ?_
    refine w_nm ns (if_pos rfl) ?_
    refine w_arg0 ?_
    refine w_kw0 ⟨kpFn aWo ((ctx X7.F).ext ex).now (by kernel_rfl) (by kernel_rfl), ?_⟩
    exact w_call (wo_call (n := n + 3) ((ctx X7.F).ext ex) ok (fun h'' t e => kq _ _ ⟨n0, t0, t, rfl, rfl⟩ e))
  rw [List.take_length] at j
  have sw : Strs ys (wordsOf sc) := strs_of_rel inum j
  have hz7 : h.objs.size ≤ h7.objs.size := by have := l7.lt; lia
  have hDL : D ≠ L := Nat.ne_of_gt (Nat.lt_of_lt_of_le hLn hD)
  have c8 : h8.IsCell (L + 1) (some (.ref nl)) := by
    have h7c : L + 1 < h7.objs.size := let ⟨o, e, _⟩ := c7; Heap.lt_size e
    obtain ⟨o, a, b⟩ := c7.keeps ex
    exact ⟨o, kk _ _ (nmc (adne (by decide)) (nmc (Nat.ne_of_lt (Nat.lt_trans (Nat.lt_of_lt_of_le h7c hD) hDC)) nm0)) a, b⟩
  have hnlL : nl ≠ L := by lia
  have lnum8 : Ls h8 nl nvs := lsKept (l7.ext ex) kk (nmc hnlL (nmc (Nat.ne_of_lt (Nat.lt_trans (Nat.lt_of_lt_of_le l7.lt hD) hDC)) nm0))
  refine w_cons ?_
  refine w_asg ?_
  refine w_callN ?_
  refine w_gK (ctx X8.F).now (v := .ref aTx) (by kernel_rfl) ?_
  refine w_args ?_
  refine w_arg ?_
  refine w_nm X8.ns rfl ?_
  refine w_arg ?_
  refine w_lcI (cl := [(nNumbers, L + 1)]) (Nat.zero_le _) rfl rfl rfl rfl ?_
  refine w_callN ?_
  refine w_gB (v := .type "range") (ctx X8.F).now (by kernel_rfl) (by kernel_rfl) (by decide) ?_
  refine w_args ?_
  refine w_arg ?_
  refine w_callN ?_
  refine w_gB (v := .builtin "len") (ctx X8.F).now (by kernel_rfl) (by kernel_rfl) (by decide) ?_
  refine w_args ?_
  refine w_arg ?_
  refine w_nmC (c := L + 1) rfl c8 ?_
  refine w_arg0 ?_
  refine w_kw0 ⟨Kp.builtin _, ?_⟩
  refine w_lenList lnum8.isList (by rw [List.size_toArray]; lia) fun _ => ?_
  rw [List.size_toArray, hnvl]
  refine w_arg0 ?_
  refine w_kw0 ⟨Kp.type _, ?_⟩
  refine w_range fun h9 r t1 t2 t3 hr e9 z9 ir => ?_
  refine ⟨(numsOf sc).length, _, [], iterRange0 rfl ok.3 ir (by lia), by rw [sizeLine_eq]; lia, fun b hb => (nomatch hb), [], (fun b0 i ys h' => IntsAre ys ((List.range i).map fun i => ((numsOf sc).getD i 0).fdiv 147 + (i : Int))), fun b hb => (nomatch hb), ⟨fun b0 i ys h1' h2' hJ off => hJ, fun b0 => .nil, fun b0 C i v ys h' mm hiN hC hbC hv hJ kk' hy ns => t_hide fun Qb hQb => ?_⟩, fun b0 ys D2 h10 hD2 hb2' l10 hy hJ k10 => ?_⟩
  · obtain ⟨tv, rfl⟩ := hv
    have hCh : h8.get? C = none := get_none (Nat.le_trans (by lia) hC)
    refine w_asgName ?_
    refine w_store (env := compEnvC _ [(nNumbers, L + 1)] C (lawE w L)) (m := mm) ns (fun h2' n2 sb2' => ?_) rfl rfl
    have kC : Kept [C] h' h2' := Kept.of_same sb2' im1
    have e02 : Ext h8 h2' := fun b o e => kC b o (nmc (by intro q; subst q; rw [hCh] at e; cases e) nm0) (kk' b o nm0 (e9 b o e))
    obtain ⟨nv, tn, hnv', _⟩ : ∃ nv tn, nvs[i]? = some (Value.int nv tn) ∧ (numsOf sc)[i]? = some nv := by
      have hi2 : i < nvs.length := by lia
      obtain ⟨n0, t0, a1, a2⟩ := ints_get inum (List.getElem?_eq_getElem hi2)
      exact ⟨n0, t0, by rw [List.getElem?_eq_getElem hi2, a2], a1⟩
    rename_i hg
    show Wp _ _ _ _ _
    refine w_binOp ?_
    refine w_binOp ?_
    refine w_sub ?_
    refine w_nmC (c := L + 1) rfl (c8.keeps e02) ?_
    refine w_nm n2 (if_pos rfl) ?_
    refine w_itemL (lnum8.ext e02).isList hnv' (by rw [sizeLine_eq]; lia) ?_
    refine w_cInt fun _ => ?_
    refine w_divInt (by decide) fun _ => ?_
    refine w_nm n2 (if_pos rfl) ?_
    refine w_addInt fun t5 => ?_
    refine hQb _ _ ⟨kC, ⟨_, n2⟩, ?_⟩
    show IntsAre _ ((List.range (i + 1)).map fun i => ((numsOf sc).getD i 0).fdiv 147 + (i : Int))
    rw [List.range_succ, List.map_append]
    have : (numsOf sc).getD i 0 = nv := by rw [List.getD_eq_getElem?_getD, hg]; rfl
    refine IntsAre.append hJ ?_
    simp only [List.map_cons, List.map_nil, this]
    exact .cons _ _ .nil
  have e810 : Ext h8 h10 := fun b o e => k10 b o nm0 (e9 b o e)
  have X10 := X8.ext e810
  refine w_arg0 ?_
  refine w_kw0 ⟨kpFn aTx (ctx X10.F).now (by kernel_rfl) (by kernel_rfl), ?_⟩
  have hwl : (wordsOf sc).length = (numsOf sc).length := List.length_map ..
  refine w_call (tx_call (n := n + 2) (ctx X10.F) ok (l8.ext e810) l10 sw hJ (by rw [List.length_map, List.length_range, hwl]) (by lia) (fun x hx => ?_) (fun h11 t11 e11 => ?_))
  · obtain ⟨z, _, rfl⟩ := List.mem_map.mp hx
    exact Nat.le_trans (word7_len z) (by decide)
  have X11 := X10.ext e11
  refine w_stF X11 (fun h12 X12 sb12 => ?_) im1
  exact k h12 _ D _ t11 X12.F X12.K (((l8.ext e810).ext e11).same sb12 hDL) sw rfl rfl (Nat.le_trans hz7 hD)
end
end Mine
end
section
open PySem PySem.W PyProof.Rows PySem.Calls
set_option Elab.async false
set_option maxRecDepth 100000
set_option linter.unusedVariables false
set_option linter.unusedSimpArgs false
namespace Mine
abbrev nCls : Str := Str.ofString "_netrclex"
abbrev nStream : Str := Str.ofString "_law_stream"
noncomputable def placesS (w : World) : List (Pos × Str) := [(rdPos w, rdQual)]
theorem ne_of_data {h : Heap} {a b : Addr} {oa ob : Obj} (ha : h.get? a = some oa) (hb : h.get? b = some ob) (hd : oa.data ≠ ob.data) : a ≠ b := fun q => by subst q; rw [ha] at hb; cases hb; exact hd rfl
section
variable {prog : Program} {w : World} {A : Around} {h base H : Heap} {mg mb : Str → Option Value} {L : Addr}
set_option maxHeartbeats 4000000 in
theorem w_newLexer {n : Nat} {e : Expr} {p1 p2 p3 p4 : Pos} {text : List Nat} {Q : Value → Heap → Prop} (he : starEach [e] (lawE w L) = [(false, eval e (lawE w L))]) (ok : OkA (n + 3) A) (hz : text.length ≤ 1048576)
    (C : CodeHd H 98 tabS) (hb : H.BuiltinsAt mg tabS) (hP : H.get? tabS = none)
    (GA : ∀ h', Kept [tabS] h h' → Gd w mg mb H h') (T : TabP H h tabS (placesS w))
    (x : Wp (model prog w) A (eval e (lawE w L)) (fun v h₁ => ∃ t, v = .str (S text) t ∧ Ext h h₁ ∧ ∀ h' a, LexC w H h' a text → LexM h' a text 0 [] → (∀ i ∈ a.all, i = a.c ∨ h₁.objs.size ≤ i) → Kept [tabS] h₁ h' → TabP H h' tabS (placesS w) → Q (.ref a.x) h') h) :
    Wp (model prog w) A (eval (.Call (.Name nCls p1) [.Call (.Name nStream p2) [e] [] p3] [] p4) (lawE w L)) Q h := by
  refine w_callN ?_
  refine w_gK (GA h (Kept.refl _ _)).now (v := .ref aCls) (by kernel_rfl) ?_
  refine w_args ?_
  refine w_arg ?_
  refine w_callN ?_
  refine w_gK (GA h (Kept.refl _ _)).now (v := .ref aStream) (by kernel_rfl) ?_
  refine w_args (w_arg (x.mono fun v h1 y => ?_) he) rfl he
  obtain ⟨t, rfl, e1, k⟩ := y
  have G1 : Gd w mg mb H h1 := GA h1 (Kept.of_ext e1)
  refine w_arg0 (w_kw0 ⟨kpFn aStream G1.now (by kernel_rfl) (by kernel_rfl), ?_⟩)
  refine w_call (str_call (n := n) G1 ok (T.ext e1) C hb hP (fun h2 st sd f c ct cp pl SC hge nd hHc k2 T2 => ?_))
  have G2 : Gd w mg mb H h2 := GA h2 ((Kept.of_ext e1).trans k2)
  refine w_arg0 (w_kw0 ⟨kpCls G2.now, ?_⟩)
  refine mk_call (n := n + 1) G2 ok (fun h3 x d pb t1 t2 hx hd hpb I D Lp e3 => ?_)
  have SC3 : StrC w h3 st sd f c ct cp pl text := by
    obtain ⟨a1, ⟨kvs, a2, a3⟩, ⟨doc, pm, ctv, a4⟩, a5, ⟨t6, a6⟩, a7, ⟨t8, a8⟩⟩ := SC
    exact ⟨a1.ext e3, ⟨kvs, a2.ext e3, a3⟩, ⟨doc, pm, ctv, e3 _ _ a4⟩, CodeRec.keptTo a5 (fun o ho => e3 _ _ ho), ⟨t6, a6.keeps e3⟩, a7.keeps e3, ⟨t8, IsList.ext a8 e3⟩⟩
  have SC3' := SC3
  obtain ⟨a1, ⟨kvs, a2, a3⟩, ⟨doc, pm, ctv, a4⟩, a5, ⟨t6, a6⟩, a7, ⟨t8, a8⟩⟩ := SC3
  obtain ⟨oc, vsc, ec, dc⟩ := CodeRec.fields a5
  have lt2 : ∀ i ∈ [st, sd, f, ct, cp, pl], i < h2.objs.size := by
    obtain ⟨b1, ⟨kvs', b2, b3⟩, ⟨doc', pm', ctv', b4⟩, b5, ⟨t6', b6⟩, b7, ⟨t8', b8⟩⟩ := SC
    intro i hi
    simp only [List.mem_cons, List.not_mem_nil, or_false] at hi
    rcases hi with rfl | rfl | rfl | rfl | rfl | rfl
    · exact Heap.lt_size b1
    · exact b2.lt
    · exact Heap.lt_size b4
    · obtain ⟨o, e, _⟩ := b6; exact Heap.lt_size e
    · obtain ⟨o, e, _⟩ := b7; exact Heap.lt_size e
    · obtain ⟨o, e, _⟩ := b8; exact Heap.lt_size e
  have hc2 : c < h2.objs.size := by
    obtain ⟨o, vs, e, _⟩ := CodeRec.fields SC.cd; exact Heap.lt_size e
  have s12 : h1.objs.size ≤ h2.objs.size := Nat.le_of_lt (Nat.lt_of_le_of_lt (hge st (by first | (with_reducible (first | exact im1 | exact im2 | exact im3 | exact sb0 | exact sb1 im1 | exact sb1 im2 | exact sb1 im3)) | exact nmc (adne (by decide)) nm0 | exact nmc (adne (by decide)) (nmc (adnn (by decide)) nm0) | simp)) (lt2 st (by first | (with_reducible (first | exact im1 | exact im2 | exact im3 | exact sb0 | exact sb1 im1 | exact sb1 im2 | exact sb1 im3)) | exact nmc (adne (by decide)) nm0 | exact nmc (adne (by decide)) (nmc (adnn (by decide)) nm0) | simp)))
  have cne : ∀ i ∈ [x, d, pb, st, sd, f, ct, cp, pl], i ≠ c := by
    obtain ⟨es, n', ed, _⟩ := D
    obtain ⟨n'', ep⟩ := Lp
    obtain ⟨es2, n2, ed2, _⟩ := a2
    obtain ⟨o6, e6, d6⟩ := a6
    obtain ⟨o7, e7, d7⟩ := a7
    obtain ⟨o8, e8, d8, n8, d8'⟩ := a8
    intro i hi
    simp only [List.mem_cons, List.not_mem_nil, or_false] at hi
    rcases hi with rfl | rfl | rfl | rfl | rfl | rfl | rfl | rfl | rfl
    · exact ne_of_data I ec (by rw [dc]; intro q; cases q)
    · exact ne_of_data ed ec (by rw [dc]; intro q; cases q)
    · exact ne_of_data ep ec (by rw [dc]; intro q; cases q)
    · exact ne_of_data a1 ec (by rw [dc]; intro q; cases q)
    · exact ne_of_data ed2 ec (by rw [dc]; intro q; cases q)
    · exact ne_of_data a4 ec (by rw [dc]; intro q; cases q)
    · exact ne_of_data e6 ec (by rw [dc, d6]; intro q; cases q)
    · exact ne_of_data e7 ec (by rw [dc, d7]; intro q; cases q)
    · exact ne_of_data e8 ec (by rw [dc, d8']; intro q; cases q)
  have fresh : ∀ i, h1.objs.size ≤ i → H.get? i = none := fun i hi => gd_none G1 hi
  have sd1 : h1.objs.size ≤ d := hd ▸ s12
  have sx1 : h1.objs.size ≤ x := by rw [hx]; exact Nat.le_succ_of_le s12
  have sp1 : h1.objs.size ≤ pb := Nat.le_trans s12 (Nat.le_trans (Nat.le_add_right _ 2) hpb)
  have fr : ∀ i ∈ (⟨x, d, pb, st, sd, f, c, ct, cp, pl⟩ : LexA).all, i = c ∨ h1.objs.size ≤ i := by
    intro i hi
    simp only [LexA.all, List.mem_cons, List.not_mem_nil, or_false] at hi
    rcases hi with rfl | rfl | rfl | rfl | rfl | rfl | rfl | rfl | rfl | rfl
    · exact .inr sx1
    · exact .inr sd1
    · exact .inr sp1
    · exact .inr (hge _ (by first | (with_reducible (first | exact im1 | exact im2 | exact im3 | exact sb0 | exact sb1 im1 | exact sb1 im2 | exact sb1 im3)) | exact nmc (adne (by decide)) nm0 | exact nmc (adne (by decide)) (nmc (adnn (by decide)) nm0) | simp))
    · exact .inr (hge _ (by first | (with_reducible (first | exact im1 | exact im2 | exact im3 | exact sb0 | exact sb1 im1 | exact sb1 im2 | exact sb1 im3)) | exact nmc (adne (by decide)) nm0 | exact nmc (adne (by decide)) (nmc (adnn (by decide)) nm0) | simp))
    · exact .inr (hge _ (by first | (with_reducible (first | exact im1 | exact im2 | exact im3 | exact sb0 | exact sb1 im1 | exact sb1 im2 | exact sb1 im3)) | exact nmc (adne (by decide)) nm0 | exact nmc (adne (by decide)) (nmc (adnn (by decide)) nm0) | simp))
    · exact .inl rfl
    · exact .inr (hge _ (by first | (with_reducible (first | exact im1 | exact im2 | exact im3 | exact sb0 | exact sb1 im1 | exact sb1 im2 | exact sb1 im3)) | exact nmc (adne (by decide)) nm0 | exact nmc (adne (by decide)) (nmc (adnn (by decide)) nm0) | simp))
    · exact .inr (hge _ (by first | (with_reducible (first | exact im1 | exact im2 | exact im3 | exact sb0 | exact sb1 im1 | exact sb1 im2 | exact sb1 im3)) | exact nmc (adne (by decide)) nm0 | exact nmc (adne (by decide)) (nmc (adnn (by decide)) nm0) | simp))
    · exact .inr (hge _ (by first | (with_reducible (first | exact im1 | exact im2 | exact im3 | exact sb0 | exact sb1 im1 | exact sb1 im2 | exact sb1 im3)) | exact nmc (adne (by decide)) nm0 | exact nmc (adne (by decide)) (nmc (adnn (by decide)) nm0) | simp))
  have all2 : ∀ i ∈ [st, sd, f, c, ct, cp, pl], i < h2.objs.size := by
    intro i hi
    by_cases q : i = c
    · rw [q]; exact hc2
    · refine lt2 i ?_
      simp only [List.mem_cons, List.not_mem_nil, or_false] at hi ⊢
      rcases hi with h | h | h | h | h | h | h
      · exact .inl h
      · exact .inr (.inl h)
      · exact .inr (.inr (.inl h))
      · exact absurd h q
      · exact .inr (.inr (.inr (.inl h)))
      · exact .inr (.inr (.inr (.inr (.inl h))))
      · exact .inr (.inr (.inr (.inr (.inr h))))
  have nd7 : [st, sd, f, c, ct, cp, pl].Nodup := by
    have p : [st, sd, f, c, ct, cp, pl].Perm (c :: [st, sd, f, ct, cp, pl]) := (List.perm_middle (l₁ := [st, sd, f]) (l₂ := [ct, cp, pl]))
    rw [p.nodup_iff, List.nodup_cons]
    refine ⟨fun m => cne c ?_ rfl, nd⟩
    simp only [List.mem_cons, List.not_mem_nil, or_false] at m ⊢
    rcases m with h | h | h | h | h | h
    · exact .inr (.inr (.inr (.inl h)))
    · exact .inr (.inr (.inr (.inr (.inl h))))
    · exact .inr (.inr (.inr (.inr (.inr (.inl h)))))
    · exact .inr (.inr (.inr (.inr (.inr (.inr (.inl h))))))
    · exact .inr (.inr (.inr (.inr (.inr (.inr (.inr (.inl h)))))))
    · exact .inr (.inr (.inr (.inr (.inr (.inr (.inr (.inr h)))))))
  have big : ∀ i, h2.objs.size ≤ i → i ∉ [st, sd, f, c, ct, cp, pl] := fun i hi m => Nat.not_lt.mpr hi (all2 i m)
  refine k h3 ⟨x, d, pb, st, sd, f, c, ct, cp, pl⟩ ⟨I, a1, ⟨kvs, a2, a3⟩, ⟨doc, pm, ctv, a4⟩, a5, ⟨t6, a6⟩, a7, ?_, ?_, hz⟩ ⟨⟨t1, t2, ?_⟩, Lp, ⟨t8, a8⟩, Nat.zero_le _⟩ fr (k2.trans (Kept.of_ext e3)) (T2.ext e3)
  · show (x :: d :: pb :: [st, sd, f, c, ct, cp, pl]).Nodup
    rw [List.nodup_cons, List.nodup_cons, List.nodup_cons]
    have xd : x ≠ d := by rw [hx, hd]; exact Nat.succ_ne_self _
    have pd : pb ≠ d := by rw [hd]; exact Nat.ne_of_gt (Nat.lt_of_lt_of_le (Nat.lt_add_of_pos_right (by decide)) hpb)
    have px : pb ≠ x := by rw [hx]; exact Nat.ne_of_gt (Nat.lt_of_lt_of_le (Nat.lt_succ_self _) hpb)
    refine ⟨fun m => ?_, fun m => ?_, big pb (Nat.le_trans (Nat.le_add_right _ 2) hpb), nd7⟩
    · rcases List.mem_cons.mp m with q | m
      · exact xd q
      rcases List.mem_cons.mp m with q | m
      · exact px q.symm
      · exact big x (by rw [hx]; exact Nat.le_succ _) m
    · rcases List.mem_cons.mp m with q | m
      · exact pd q.symm
      · exact big d (Nat.le_of_eq hd.symm) m
  · intro i hi
    rcases fr i hi with rfl | q
    · exact hHc
    · exact fresh i q
  · exact D
end
def remT (text : List Nat) : Nat → List Nat
  | 0 => text
  | k + 1 => (lexT (remT text k)).2
def tokT (text : List Nat) (k : Nat) : List Nat := (lexT (remT text k)).1
theorem kin_strs : ∀ (a b : List (List Nat)), Kin (a.map At.s) (b.map At.s) = true
  | [], [] => rfl
  | [], _ :: _ => rfl
  | _ :: _, [] => rfl
  | a :: as, b :: bs => by simp [Kin, At.kin, kin_strs as bs]
theorem Strs.LA {h : Heap} {a : Addr} {vs : List Value} {ts : List (List Nat)} (l : Ls h a vs) (x : Strs vs ts) : Mine.LA h a (ts.map .s) := ⟨vs, l, x.atL⟩
theorem map_s_inj {a b : List (List Nat)} : (a.map At.s = b.map At.s) ↔ a = b := by
  constructor
  · intro h
    have : ∀ (a b : List (List Nat)), a.map At.s = b.map At.s → a = b := by
      intro a
      induction a with
      | nil => intro b h; cases b with | nil => rfl | cons x y => simp at h
      | cons x a ih => intro b h; cases b with
        | nil => simp at h
        | cons y b => simp at h; rw [h.1, ih b (by simpa using h.2)]
    exact this a b h
  · rintro rfl; rfl
def okW (x : List Nat) : Bool := x.all (· < 0x110000)
theorem okW_at (x : List Nat) (h : okW x = true) : (At.s x).ok = true := by
  show PyData.strOk (S x) = true
  unfold PyData.strOk
  simpa [S, okW] using h
theorem LexC.keptBut {w : World} {H h h' : Heap} {a : LexA} {text : List Nat} {S : List Addr} (C : LexC w H h a text) (k : Kept S h h') (hS : ∀ i ∈ a.all, i ∉ S) : LexC w H h' a text := by
  have m : ∀ i, i ∈ a.all → i ∉ S := hS
  unfold LexA.all at m
  simp only [List.mem_cons, List.not_mem_nil, or_false, forall_eq_or_imp, forall_eq] at m
  obtain ⟨m1, m2, m3, m4, m5, m6, m7, m8, m9, m10⟩ := m
  refine ⟨k _ _ m1 C.ix, k _ _ m4 C.ist, ?_, ?_, CodeRec.kept C.cd k m7, ?_, ?_, C.nd, C.fr, C.len⟩
  · obtain ⟨kvs, ⟨es, n, e, r⟩, g⟩ := C.sd
    exact ⟨kvs, ⟨es, n, k _ _ m5 e, r⟩, g⟩
  · obtain ⟨doc, pm, ctv, e⟩ := C.fn
    exact ⟨doc, pm, ctv, k _ _ m6 e⟩
  · obtain ⟨t, o, ho, hd⟩ := C.ct
    exact ⟨t, o, k _ _ m8 ho, hd⟩
  · obtain ⟨o, ho, hd⟩ := C.cp
    exact ⟨o, k _ _ m9 ho, hd⟩
theorem LexM.keptBut {h h' : Heap} {a : LexA} {text : List Nat} {p : Nat} {toks : List Value} {S : List Addr} (X : LexM h a text p toks) (k : Kept S h h') (hS : ∀ i ∈ a.all, i ∉ S) : LexM h' a text p toks :=
  X.kept k (hS _ (by first | exact LexA.m_x _ | exact LexA.m_d _ | exact LexA.m_pb _ | exact LexA.m_st _ | exact LexA.m_sd _ | exact LexA.m_f _ | exact LexA.m_c _ | exact LexA.m_ct _ | exact LexA.m_cp _ | exact LexA.m_pl _)) (hS _ (by first | exact LexA.m_x _ | exact LexA.m_d _ | exact LexA.m_pb _ | exact LexA.m_st _ | exact LexA.m_sd _ | exact LexA.m_f _ | exact LexA.m_c _ | exact LexA.m_ct _ | exact LexA.m_cp _ | exact LexA.m_pl _)) (hS _ (by first | exact LexA.m_x _ | exact LexA.m_d _ | exact LexA.m_pb _ | exact LexA.m_st _ | exact LexA.m_sd _ | exact LexA.m_f _ | exact LexA.m_c _ | exact LexA.m_ct _ | exact LexA.m_cp _ | exact LexA.m_pl _))
theorem IsCell.kept {S : List Addr} {h h' : Heap} {c : Addr} {v : Option Value} (x : h.IsCell c v) (k : Kept S h h') (hn : c ∉ S) : h'.IsCell c v := let ⟨o, e, r⟩ := x; ⟨o, k _ _ hn e, r⟩
/-- the lexer's own things lie apart from the frame's -/
theorem lex_apart {w : World} {H h1 : Heap} {a : LexA} {text : List Nat} {n0 : Addr} {S : List Addr} (C : LexC w H h1 a text) (hfr : ∀ i ∈ a.all, i = a.c ∨ n0 ≤ i) (hS : ∀ s ∈ S, s < n0 ∧ ∃ o, h1.get? s = some o ∧ ∀ vs, o.data ≠ .fields vs) : ∀ i ∈ a.all, i ∉ S := by
  intro i hi m
  obtain ⟨h2, o, e, hd⟩ := hS i m
  rcases hfr i hi with q | q
  · obtain ⟨oc, vs, ec, dc⟩ := CodeRec.fields C.cd
    rw [q, ec] at e; cases e
    exact hd vs dc
  · exact absurd h2 (Nat.not_lt.mpr q)
theorem lex_lt {w : World} {H h : Heap} {a : LexA} {text : List Nat} {p : Nat} {toks : List Value} (C : LexC w H h a text) (X : LexM h a text p toks) : ∀ i ∈ a.all, i < h.objs.size := by
  obtain ⟨ld, lb, ll⟩ := X.lt
  obtain ⟨b1, b0, ⟨kvs', b2, b3⟩, ⟨doc', pm', ctv', b4⟩, b5, ⟨t6', b6⟩, b7, _, _, _⟩ := C
  intro i hi
  simp only [LexA.all, List.mem_cons, List.not_mem_nil, or_false] at hi
  rcases hi with rfl | rfl | rfl | rfl | rfl | rfl | rfl | rfl | rfl | rfl
  · exact Heap.lt_size b1
  · exact ld
  · exact lb
  · exact Heap.lt_size b0
  · exact b2.lt
  · exact Heap.lt_size b4
  · obtain ⟨o, vs, e, _⟩ := CodeRec.fields b5; exact Heap.lt_size e
  · obtain ⟨o, e, _⟩ := b6; exact Heap.lt_size e
  · obtain ⟨o, e, _⟩ := b7; exact Heap.lt_size e
  · exact ll
theorem ns_data {h : Heap} {L : Addr} {m : Str → Option Value} (n : h.Ns L m) : ∃ o, h.get? L = some o ∧ ∀ vs, o.data ≠ .fields vs := by
  obtain ⟨o, es, ep, e, hd, _⟩ := n
  exact ⟨o, e, fun vs q => by rw [hd] at q; cases q⟩
theorem cell_data {h : Heap} {c : Addr} {v : Option Value} (n : h.IsCell c v) : ∃ o, h.get? c = some o ∧ ∀ vs, o.data ≠ .fields vs := by
  obtain ⟨o, e, hd⟩ := n
  exact ⟨o, e, fun vs q => by rw [hd] at q; cases q⟩
theorem codeNeTab {H h : Heap} {P c : Addr} {q : Str} {places : List (Pos × Str)} (T : TabP H h P places) (x : h.CodeRec (.ref c) q) : c ≠ P := by
  obtain ⟨ps, e, t, _⟩ := T
  obtain ⟨c', o, vs, tk, e1, e2, e3, e4⟩ := x
  injection e1 with e1
  subst e1
  intro hq
  subst hq
  rw [e] at e2
  cases e2
  injection e3 with e3
  subst e3
  have e5 : ps.toList[1]? = some (Value.str q tk) := by simpa using e4
  generalize ps.toList = l at t e5
  match l, t, e5 with
  | .int a t1 :: .int b t2 :: x :: rest, _, e5 => simp at e5
theorem lexNeTab {w : World} {H h1 : Heap} {a : LexA} {text : List Nat} {n0 P : Addr} {places : List (Pos × Str)} (C : LexC w H h1 a text) (hfr : ∀ i ∈ a.all, i = a.c ∨ n0 ≤ i) (T : TabP H h1 P places) (hP : P < n0) : ∀ i ∈ a.all, i ≠ P := by
  intro i hi q
  rcases hfr i hi with h | h
  · exact codeNeTab T C.cd (h ▸ q)
  · subst q; exact absurd hP (Nat.not_lt.mpr h)
section
variable {prog : Program} {w : World} {A : Around} {h base H : Heap} {mg mb : Str → Option Value} {L : Addr}
/-- lexer.get_token() with nothing pushed back -/
theorem w_getTok {n : Nat} {env : Env} {a : LexA} {text : List Nat} {p : Nat} {o : Expr} {apos pos : Pos} {Q : Value → Heap → Prop} (G : Gd w mg mb H h) (ok : OkA (n + 4) A) (C : LexC w H h a text) (X : LexM h a text p [])
    (ho : ∀ Q' : Value → Heap → Prop, Q' (.ref a.x) h → Wp (model prog w) A (eval o env) Q' h)
    (k : ∀ h' t p', LexM h' a text p' [] → text.drop p' = (lexT (text.drop p)).2 → Kept [a.d, a.pl] h h' → Q (.str (S (lexT (text.drop p)).1) t) h')
    (hbase : attributeBase o nGT env (eval o env) = eval o env := by rfl) (hline : (apos.endLine == pos.line) = true := by rfl) :
    Wp (model prog w) A (eval (.Call (.Attribute o nGT apos) [] [] pos) env) Q h := by
  obtain ⟨t1, t2, d⟩ := X.d
  refine w_mcall (ho _ ?_) hbase (by rfl) hline
  refine w_method G.now.K C.ix d (pgC w _) (fiGT w) (fnGT w) rfl ?_
  exact w_args0 (kpFn aGT G.now (by kernel_rfl) (by kernel_rfl)) (w_call (gt_call G ok C X k))
set_option maxHeartbeats 4000000 in
theorem na2 {n : Nat} {wl : Addr} {wys : List Value} {words : List (List Nat)} {text : List Nat} {tt : Tok} {Q : Flow → Heap → Prop} {m : Str → Option Value} (GB : Gd w mg mb H base) (ok : OkA (n + 5) A) (F : Fr base L h m)
    (C0 : CodeHd H 98 tabS) (hb : H.BuiltinsAt mg tabS) (hP : H.get? tabS = none) (T : TabP H h tabS (placesS w)) (hPb : base.get? tabS = none) (hPL : tabS ≠ L + 2 ∧ tabS ≠ L)
    (hwl : Ls h wl wys) (sw : Strs wys words) (mw : m nWords = some (.ref wl)) (mt : m nText = some (.str (S text) tt)) (hz : text.length ≤ 1048576) (hn : words.length ≤ 1000) (hn1 : 0 < words.length) (hokw : ∀ x ∈ words, okW x = true)
    (htok : ∀ i, i < words.length → words[i]? = some (tokT text i)) (hend : tokT text words.length = []) (hrem : remT text (words.length + 1) = []) (hfirst : ∀ p, p ≤ text.length → text.drop p = remT text 1 → (text.take p).count 10 = 0)
    (c2 : h.IsCell (L + 2) none) (hcb : base.get? (L + 2) = none) (hwlne : wl ≠ L ∧ wl ≠ L + 2 ∧ wl ≠ tabS)
    (k : ∀ h' m' a, Fr base L h' m' → Kept [L, L + 2, tabS] h h' → h'.IsCell (L + 2) (some (.ref a.x)) → LexC w H h' a text → LexM h' a text text.length [] → (∀ i ∈ a.all, i = a.c ∨ h.objs.size ≤ i) → TabP H h' tabS (placesS w) →
      (∀ x, x ≠ nLexer → x ≠ Str.ofString "_" → m' x = m x) → Wp (model prog w) A (execs ((lawB w).drop 6) (lawE w L)) Q h') :
    Wp (model prog w) A (execs ((lawB w).drop 3) (lawE w L)) Q h := by
  have ctx : ∀ {h' m'}, Fr base L h' m' → Gd w mg mb H h' := fun F' => GB.ext F'.keep
  have hPLt : tabS < h.objs.size := by obtain ⟨ps, e, _⟩ := T; exact Heap.lt_size e
  have hc2l : L + 2 < h.objs.size := by obtain ⟨o, e, _⟩ := c2; exact Heap.lt_size e
  have hSH : ∀ i ∈ [tabS], H.get? i = none := by simpa using hP
  refine w_cons ?_
  refine w_asg ?_
  refine w_newLexer (n := n + 2) rfl ok hz C0 hb hP (fun h' kk => (ctx F).kept kk hSH) T ?_
  refine w_nm F.ns mt ⟨tt, rfl, Ext.refl _, fun h1 a C1 X1 hfr k1 T1 => ?_⟩
  have X : Fs base h [L, L + 2, tabS] L h m := Fs.mk0 F _
  have Y1 := X.kept (T := [tabS]) k1 (by simpa using hPb) (by simpa using hPL.2.symm) (by first | (with_reducible (first | exact im1 | exact im2 | exact im3 | exact sb0 | exact sb1 im1 | exact sb1 im2 | exact sb1 im3)) | exact nmc (adne (by decide)) nm0 | exact nmc (adne (by decide)) (nmc (adnn (by decide)) nm0) | simp)
  have c21 : h1.IsCell (L + 2) none := by obtain ⟨o, e, r⟩ := c2; exact ⟨o, k1 _ _ (by simpa using hPL.1.symm) e, r⟩
  refine w_storeC (c := L + 2) rfl c21 (fun h2 c22 sb2 => ?_)
  have Y2 := Y1.kept (T := [L + 2]) (Kept.of_same sb2 (by first | (with_reducible (first | exact im1 | exact im2 | exact im3 | exact sb0 | exact sb1 im1 | exact sb1 im2 | exact sb1 im3)) | exact nmc (adne (by decide)) nm0 | exact nmc (adne (by decide)) (nmc (adnn (by decide)) nm0) | simp)) (by simpa using hcb) (by first | (with_reducible (first | exact im1 | exact im2 | exact im3 | exact sb0 | exact sb1 im1 | exact sb1 im2 | exact sb1 im3)) | exact nmc (adne (by decide)) nm0 | exact nmc (adne (by decide)) (nmc (adnn (by decide)) nm0) | simp) (by first | (with_reducible (first | exact im1 | exact im2 | exact im3 | exact sb0 | exact sb1 im1 | exact sb1 im2 | exact sb1 im3)) | exact nmc (adne (by decide)) nm0 | exact nmc (adne (by decide)) (nmc (adnn (by decide)) nm0) | simp)
  have hLl : L < h.objs.size := F.ns.lt
  have hap : ∀ i ∈ a.all, i ∉ [L, L + 2] := lex_apart C1 hfr (by
    intro s hs
    simp only [List.mem_cons, List.not_mem_nil, or_false] at hs
    rcases hs with rfl | rfl
    · exact ⟨hLl, ns_data Y1.ns⟩
    · exact ⟨hc2l, cell_data c21⟩)
  have hb0 : ∀ i, i ∈ a.all → i ∈ [a.d, a.pb, a.pl] → h.get? i = none ∧ base.get? i = none := fun i hi hi2 => by
    have : h.objs.size ≤ i := by
      rcases hfr i hi with q | q
      · exfalso
        simp only [List.mem_cons, List.not_mem_nil, or_false] at hi2
        rcases hi2 with rfl | rfl | rfl
        · exact (nd_at C1.nd (i := 1) (j := 6) rfl rfl (by decide)) q
        · exact (nd_at C1.nd (i := 2) (j := 6) rfl rfl (by decide)) q
        · exact (nd_at C1.nd (i := 6) (j := 9) rfl rfl (by decide)) q.symm
      · exact q
    exact ⟨get_none this, get_none (Nat.le_trans F.above (Nat.le_trans (Nat.le_of_lt hLl) this))⟩
  have bd := hb0 a.d a.m_d (by first | (with_reducible (first | exact im1 | exact im2 | exact im3 | exact sb0 | exact sb1 im1 | exact sb1 im2 | exact sb1 im3)) | exact nmc (adne (by decide)) nm0 | exact nmc (adne (by decide)) (nmc (adnn (by decide)) nm0) | simp)
  have bp := hb0 a.pb a.m_pb (by first | (with_reducible (first | exact im1 | exact im2 | exact im3 | exact sb0 | exact sb1 im1 | exact sb1 im2 | exact sb1 im3)) | exact nmc (adne (by decide)) nm0 | exact nmc (adne (by decide)) (nmc (adnn (by decide)) nm0) | simp)
  have bl := hb0 a.pl a.m_pl (by first | (with_reducible (first | exact im1 | exact im2 | exact im3 | exact sb0 | exact sb1 im1 | exact sb1 im2 | exact sb1 im3)) | exact nmc (adne (by decide)) nm0 | exact nmc (adne (by decide)) (nmc (adnn (by decide)) nm0) | simp)
  have hd' := hap a.d a.m_d
  have hp' := hap a.pb a.m_pb
  have hl' := hap a.pl a.m_pl
  simp only [List.mem_cons, List.not_mem_nil, or_false, not_or] at hd' hp' hl'
  have mvD : ∀ {h' h'' : Heap} {m'}, Fs base h [L, L + 2, tabS] L h' m' → Kept [a.d, a.pl] h' h'' → Fs base h [L, L + 2, tabS] L h'' m' := fun Y kk => Y.kept kk (by simp only [List.mem_cons, List.not_mem_nil, or_false, forall_eq_or_imp, forall_eq]; exact ⟨bd.2, bl.2⟩) (by simp only [List.mem_cons, List.not_mem_nil, or_false, not_or]; exact ⟨fun q => hd'.1 q.symm, fun q => hl'.1 q.symm⟩) (by simp only [List.mem_cons, List.not_mem_nil, or_false, forall_eq_or_imp, forall_eq]; exact ⟨.inr bd.1, .inr bl.1⟩)
  have mvP : ∀ {h' h'' : Heap} {m'}, Fs base h [L, L + 2, tabS] L h' m' → Kept [a.pb] h' h'' → Fs base h [L, L + 2, tabS] L h'' m' := fun Y kk => Y.kept kk (List.forall_mem_singleton.mpr bp.2) (by simp only [List.mem_singleton]; exact fun q => hp'.1 q.symm) (List.forall_mem_singleton.mpr (.inr bp.1))
  have cD : ∀ {h' h'' : Heap} {v}, h'.IsCell (L + 2) v → Kept [a.d, a.pl] h' h'' → h''.IsCell (L + 2) v := fun c kk => IsCell.kept c kk (by simp only [List.mem_cons, List.not_mem_nil, or_false, not_or]; exact ⟨fun q => hd'.2 q.symm, fun q => hl'.2 q.symm⟩)
  have cP : ∀ {h' h'' : Heap} {v}, h'.IsCell (L + 2) v → Kept [a.pb] h' h'' → h''.IsCell (L + 2) v := fun c kk => IsCell.kept c kk (by simp only [List.mem_singleton]; exact fun q => hp'.2 q.symm)
  have C2 := C1.keptBut (S := [L + 2]) (Kept.of_same sb2 (by first | (with_reducible (first | exact im1 | exact im2 | exact im3 | exact sb0 | exact sb1 im1 | exact sb1 im2 | exact sb1 im3)) | exact nmc (adne (by decide)) nm0 | exact nmc (adne (by decide)) (nmc (adnn (by decide)) nm0) | simp)) (fun i hi => by have := hap i hi; simp only [List.mem_cons, List.not_mem_nil, or_false, not_or] at this; simpa using this.2)
  have X2 := X1.keptBut (S := [L + 2]) (Kept.of_same sb2 (by first | (with_reducible (first | exact im1 | exact im2 | exact im3 | exact sb0 | exact sb1 im1 | exact sb1 im2 | exact sb1 im3)) | exact nmc (adne (by decide)) nm0 | exact nmc (adne (by decide)) (nmc (adnn (by decide)) nm0) | simp)) (fun i hi => by have := hap i hi; simp only [List.mem_cons, List.not_mem_nil, or_false, not_or] at this; simpa using this.2)
  have lexN : ∀ {h' : Heap}, h'.IsCell (L + 2) (some (.ref a.x)) → ∀ {p : Pos} (Q' : Value → Heap → Prop), Q' (.ref a.x) h' → Wp (model prog w) A (eval (.Name nLexer p) (lawE w L)) Q' h' := by
    intro h' c p Q' q
    exact w_nmC (c := L + 2) rfl c q
  refine w_cons ?_
  refine w_if_ ?_
  refine w_tOr ?_
  refine w_tCmp ?_
  refine w_pushTok (n := n + 4) rfl (ctx Y2.F) C2 X2 ok (lexN c22) ?_
  refine w_getTok (n := n + 1) (ctx Y2.F) ok C2 X2 (lexN c22) (fun h3 t3 p3 X3 hp3 k3 => ?_)
  have Y3 := mvD Y2 k3
  have C3 := C2.kept (k3.mono (by first | exact LexA.s_nil _ | exact LexA.s_pb _ | exact LexA.s_dl _ | exact LexA.s_pl _ | simp [LexA.mut]))
  refine ⟨p3, [], ctx Y3.F, C3, X3, by simp, fun h4 X4 k4 => ?_⟩
  have Y4 := mvP Y3 k4
  have C4 := C3.kept (k4.mono (by first | exact LexA.s_nil _ | exact LexA.s_pb _ | exact LexA.s_dl _ | exact LexA.s_pl _ | simp [LexA.mut]))
  have c4 := cP (cD c22 k3) k4
  refine w_cNone ?_
  refine w_isNotNone rfl ?_
  refine w_tBool ⟨fun e => (by cases e), fun _ => ?_⟩
  refine w_tOr ?_
  refine w_tCmp ?_
  obtain ⟨t41, t42, d4⟩ := X4.d
  refine w_attr ?_
  refine w_nmC (c := L + 2) rfl c4 ?_
  refine w_getOwn (ctx Y4.F).now.K C4.ix d4 (pgC w _) (hdC w) (fiLine w) rfl rfl ?_
  refine w_cInt fun _ => ?_
  refine w_neInt ?_
  rw [hfirst p3 X4.le hp3]
  rw [show (((1 + 0 : Nat) : Int) == 1) = true by decide]
  refine w_tBool ⟨fun e => (by cases e), fun _ => w_tOr0 ⟨fun e => (by cases e), fun _ => w_nil ?_⟩⟩
  refine w_cons ?_
  refine w_if_ ?_
  refine w_tOr ?_
  refine w_tCmp ?_
  have w4 : Ls h4 wl wys := lsKept hwl Y4.K (by simp only [List.mem_cons, List.not_mem_nil, or_false, not_or]; exact hwlne)
  have hlw := sw.length
  have lt4 := lex_lt C4 X4
  have hc4 : L + 2 < h4.objs.size := by obtain ⟨o, e, _⟩ := c4; exact Heap.lt_size e
  have hwlall : ∀ i ∈ [a.d, a.pb, a.pl], i ≠ wl := by
    have hw0 := hwl
    intro i hi q
    have : h.get? i = none := by
      simp only [List.mem_cons, List.not_mem_nil, or_false] at hi
      rcases hi with rfl | rfl | rfl
      · exact bd.1
      · exact bp.1
      · exact bl.1
    obtain ⟨nn, e⟩ := hw0
    rw [q, e] at this; cases this
  have hHm : ∀ i ∈ [a.d, a.pb, a.pl], H.get? i = none := fun i hi => C4.fr i (by simp only [List.mem_cons, List.not_mem_nil, or_false] at hi; simp only [LexA.all, List.mem_cons, List.not_mem_nil, or_false]; rcases hi with h | h | h <;> simp [h])
  refine w_lcI (cl := [(nLexer, L + 2)]) (by first | (with_reducible (first | exact im1 | exact im2 | exact im3 | exact sb0 | exact sb1 im1 | exact sb1 im2 | exact sb1 im3)) | exact nmc (adne (by decide)) nm0 | exact nmc (adne (by decide)) (nmc (adnn (by decide)) nm0) | simp) rfl rfl rfl rfl ?_
  refine w_nm Y4.ns mw ?_
  refine ⟨wys.length, _, [wl], iterList (.inl rfl) ok.3 w4.isList, by rw [sizeLine_eq]; lia, by simpa using w4.lt, [a.d, a.pb, a.pl],
    (fun b0 i ys h' => ∃ p toks, LexM h' a text p toks ∧ Strs ys (words.take i) ∧ text.drop p = remT text (max i 1) ∧ toks = (if i = 0 then [Value.str (S (tokT text 0)) t3] else [])), fun b hb => ⟨lt4 b ?_, by simpa using hwlall b hb⟩, ⟨fun b0 i ys h1 h2 ⟨p, toks, X, s, e1, e2⟩ off => ⟨p, toks, X.off off (lt4 _ (by first | exact LexA.m_x _ | exact LexA.m_d _ | exact LexA.m_pb _ | exact LexA.m_st _ | exact LexA.m_sd _ | exact LexA.m_f _ | exact LexA.m_c _ | exact LexA.m_ct _ | exact LexA.m_cp _ | exact LexA.m_pl _)) (lt4 _ (by first | exact LexA.m_x _ | exact LexA.m_d _ | exact LexA.m_pb _ | exact LexA.m_st _ | exact LexA.m_sd _ | exact LexA.m_f _ | exact LexA.m_c _ | exact LexA.m_ct _ | exact LexA.m_cp _ | exact LexA.m_pl _)) (lt4 _ (by first | exact LexA.m_x _ | exact LexA.m_d _ | exact LexA.m_pb _ | exact LexA.m_st _ | exact LexA.m_sd _ | exact LexA.m_f _ | exact LexA.m_c _ | exact LexA.m_ct _ | exact LexA.m_cp _ | exact LexA.m_pl _)), s, e1, e2⟩, fun b0 => ⟨p3, _, X4, trivial, hp3, rfl⟩, fun b0 C i v ys h' mm hi hC hbb hv hJ kk hy ns => ?_⟩, fun b0 ys D h5 hD hb5 l5 hy hJ k5 => ?_⟩
  · simp only [List.mem_cons, List.not_mem_nil, or_false] at hb
    simp only [LexA.all, List.mem_cons, List.not_mem_nil, or_false]
    rcases hb with h | h | h <;> simp [h]
  · obtain ⟨p, toks, Xp, sp, e1, e2⟩ := hJ
    have hCH : H.get? C = none := gd_none (ctx Y4.F) hC
    have G' := (ctx Y4.F).kept kk hHm
    have C' := C4.kept kk
    refine w_asgName ?_
    refine w_store (env := compEnvC _ [(nLexer, L + 2)] C (lawE w L)) (m := mm) ns (fun h2' n2 sb2' => ?_) rfl rfl
    have kC : Kept [C] h' h2' := Kept.of_same sb2' (List.mem_singleton.mpr rfl)
    have hnC : ∀ i ∈ a.all, i ∉ [C] := fun i hi => by have := lt4 i hi; simp only [List.mem_singleton] at ⊢; lia
    have G2' := G'.kept kC (List.forall_mem_singleton.mpr hCH)
    have C2' := C'.keptBut kC hnC
    have X2' := Xp.keptBut kC hnC
    have c2' : h2'.IsCell (L + 2) (some (.ref a.x)) := IsCell.kept (IsCell.kept c4 kk (by simp only [List.mem_cons, List.not_mem_nil, or_false, not_or]; exact ⟨fun q => hd'.2 q.symm, fun q => hp'.2 q.symm, fun q => hl'.2 q.symm⟩)) kC (by simp only [List.mem_singleton] at ⊢; lia)
    have hiw : i < words.length := by lia
    have htk : words.take (i + 1) = words.take i ++ [tokT text i] := by rw [List.take_add_one, htok i hiw]; rfl
    show Wp _ _ _ _ _
    by_cases hi0 : i = 0
    · subst hi0
      rw [if_pos rfl] at e2
      subst e2
      refine w_popTok (n := n + 4) G2' C2' X2' ok (by first | (with_reducible (first | exact im1 | exact im2 | exact im3 | exact sb0 | exact sb1 im1 | exact sb1 im2 | exact sb1 im3)) | exact nmc (adne (by decide)) nm0 | exact nmc (adne (by decide)) (nmc (adnn (by decide)) nm0) | simp) (fun Q' q => w_nmC (c := L + 2) rfl c2' q) (fun h3' X3' k3' => ⟨?_, ?_, ?_⟩)
      · exact (kC.mono (by first | (with_reducible (first | exact im1 | exact im2 | exact im3 | exact sb0 | exact sb1 im1 | exact sb1 im2 | exact sb1 im3)) | exact nmc (adne (by decide)) nm0 | exact nmc (adne (by decide)) (nmc (adnn (by decide)) nm0) | simp)).trans (k3'.mono (by first | (with_reducible (first | exact im1 | exact im2 | exact im3 | exact sb0 | exact sb1 im1 | exact sb1 im2 | exact sb1 im3)) | exact nmc (adne (by decide)) nm0 | exact nmc (adne (by decide)) (nmc (adnn (by decide)) nm0) | simp))
      · exact ⟨_, n2.at' fun o e => k3' _ _ (by
          have := hnC a.pb a.m_pb; simp only [List.mem_singleton] at *; exact fun q => this q.symm) e⟩
      · exact ⟨p, [], X3', by rw [htk]; exact sp.append ⟨⟨_, rfl⟩, trivial⟩, by simpa using e1, by simp⟩
    · rw [if_neg hi0] at e2
      subst e2
      have em : max i 1 = i := by lia
      rw [em] at e1
      refine w_getTok (n := n + 1) G2' ok C2' X2' (fun Q' q => w_nmC (c := L + 2) rfl c2' q) (fun h3' t3' p3' X3' hp3' k3' => ⟨?_, ?_, ?_⟩)
      · exact (kC.mono (by first | (with_reducible (first | exact im1 | exact im2 | exact im3 | exact sb0 | exact sb1 im1 | exact sb1 im2 | exact sb1 im3)) | exact nmc (adne (by decide)) nm0 | exact nmc (adne (by decide)) (nmc (adnn (by decide)) nm0) | simp)).trans (k3'.mono (by simp only [List.mem_cons, List.not_mem_nil, or_false]; rintro b (h | h) <;> simp [h]))
      · exact ⟨_, n2.at' fun o e => k3' _ _ (by
          have h1 := hnC a.d a.m_d; have h2 := hnC a.pl a.m_pl; simp only [List.mem_cons, List.mem_singleton, List.not_mem_nil, or_false, not_or] at *; exact ⟨fun q => h1 q.symm, fun q => h2 q.symm⟩) e⟩
      · refine ⟨p3', [], X3', by rw [htk]; exact sp.append ⟨⟨_, by rw [e1]; rfl⟩, trivial⟩, ?_, by simp⟩
        rw [hp3', e1, show max (i + 1) 1 = i + 1 by lia]; rfl
  obtain ⟨p5, toks5, X5, s5, e51, e52⟩ := hJ
  have hwn : wys.length ≠ 0 := by lia
  rw [if_neg hwn] at e52
  subst e52
  rw [hlw, List.take_length] at s5
  have em : max wys.length 1 = words.length := by lia
  rw [em] at e51
  have Y5 := (Y4.kept k5 (by simp only [List.mem_cons, List.not_mem_nil, or_false, forall_eq_or_imp, forall_eq]; exact ⟨bd.2, bp.2, bl.2⟩) (by simp only [List.mem_cons, List.not_mem_nil, or_false, not_or]; exact ⟨fun q => hd'.1 q.symm, fun q => hp'.1 q.symm, fun q => hl'.1 q.symm⟩) (by simp only [List.mem_cons, List.not_mem_nil, or_false, forall_eq_or_imp, forall_eq]; exact ⟨.inr bd.1, .inr bp.1, .inr bl.1⟩))
  have w5 : Ls h5 wl wys := lsKept w4 k5 (fun q => hwlall wl q rfl)
  refine w_nm Y5.ns mw ?_
  refine w_neList (Strs.LA l5 s5) (Strs.LA w5 sw) (kin_strs _ _) ?_ ?_ (by have := ok.units; rw [show cLine = 9900 from rfl] at *; lia) ?_
  · intro x hx; obtain ⟨y, hy, rfl⟩ := List.mem_map.mp hx; exact okW_at y (hokw y hy)
  · intro x hx; obtain ⟨y, hy, rfl⟩ := List.mem_map.mp hx; exact okW_at y (hokw y hy)
  rw [decide_eq_true rfl]
  refine w_tBool ⟨fun e => (by cases e), fun _ => ?_⟩
  have C5 := C4.kept k5
  have c5 : h5.IsCell (L + 2) (some (.ref a.x)) := IsCell.kept c4 k5 (by simp only [List.mem_cons, List.not_mem_nil, or_false, not_or]; exact ⟨fun q => hd'.2 q.symm, fun q => hp'.2 q.symm, fun q => hl'.2 q.symm⟩)
  have T5 : TabP H h5 tabS (placesS w) := by
    have apT : ∀ i ∈ a.all, i ≠ tabS := lexNeTab C1 hfr T1 hPLt
    have T2 := T1.kept (Kept.of_same (S := [L + 2]) sb2 (by first | (with_reducible (first | exact im1 | exact im2 | exact im3 | exact sb0 | exact sb1 im1 | exact sb1 im2 | exact sb1 im3)) | exact nmc (adne (by decide)) nm0 | exact nmc (adne (by decide)) (nmc (adnn (by decide)) nm0) | simp)) (by simpa using hPL.1) (by
      intro i hi o vs ho hv
      simp only [List.mem_singleton] at hi
      subst hi
      obtain ⟨o', e', hd⟩ := c21
      rw [ho] at e'; cases e'; rw [hv] at hd; cases hd)
    have nf : ∀ {h' : Heap} {p toks}, LexM h' a text p toks → ∀ i ∈ [a.d, a.pb, a.pl], ∀ o vs, h'.get? i = some o → o.data ≠ .fields vs := by
      intro h' p toks X i hi o vs ho hv
      obtain ⟨⟨t1, t2, ⟨es, n', ed, _⟩⟩, ⟨n'', ep⟩, ⟨t8, o8, e8, d8, n8, d8'⟩, _⟩ := X
      simp only [List.mem_cons, List.not_mem_nil, or_false] at hi
      rcases hi with rfl | rfl | rfl
      · rw [ed] at ho; cases ho; cases hv
      · rw [ep] at ho; cases ho; cases hv
      · rw [e8] at ho; cases ho; rw [d8'] at hv; cases hv
    have hT3 : tabS ∉ [a.d, a.pb, a.pl] := by
      simp only [List.mem_cons, List.not_mem_nil, or_false, not_or]
      exact ⟨fun q => apT a.d a.m_d q.symm, fun q => apT a.pb a.m_pb q.symm, fun q => apT a.pl a.m_pl q.symm⟩
    have T3 := T2.kept (k3.mono (T := [a.d, a.pb, a.pl]) (by simp only [List.mem_cons, List.not_mem_nil, or_false]; rintro b (h | h) <;> simp [h])) hT3 (nf X2)
    have T4 := T3.kept (k4.mono (T := [a.d, a.pb, a.pl]) (by first | (with_reducible (first | exact im1 | exact im2 | exact im3 | exact sb0 | exact sb1 im1 | exact sb1 im2 | exact sb1 im3)) | exact nmc (adne (by decide)) nm0 | exact nmc (adne (by decide)) (nmc (adnn (by decide)) nm0) | simp)) hT3 (nf X3)
    exact T4.kept k5 hT3 (nf X4)
  refine w_tOr ?_
  refine w_tCmp ?_
  refine w_getTok (n := n + 1) (ctx Y5.F) ok C5 X5 (lexN c5) (fun h6 t6 p6 X6 hp6 k6 => ?_)
  have Y6 := mvD Y5 k6
  have C6 := C5.kept (k6.mono (by first | exact LexA.s_nil _ | exact LexA.s_pb _ | exact LexA.s_dl _ | exact LexA.s_pl _ | simp [LexA.mut]))
  have c6 := cD c5 k6
  rw [e51]
  have et : (lexT (remT text words.length)).1 = [] := hend
  rw [et]
  refine w_cS [] (by kernel_rfl) fun _ => ?_
  refine w_neStr ?_
  rw [decide_eq_true rfl]
  refine w_tBool ⟨fun e => (by cases e), fun _ => ?_⟩
  refine w_tOr ?_
  refine w_tCmp ?_
  obtain ⟨t61, t62, d6⟩ := X6.d
  have hpl : p6 = text.length := by
    have h1 : text.drop p6 = [] := by rw [hp6, e51]; exact hrem
    have h2 := X6.le
    have h3 := congrArg List.length h1
    simp at h3; lia
  refine w_attr ?_
  refine w_nmC (c := L + 2) rfl c6 ?_
  refine w_getOwn (ctx Y6.F).now.K C6.ix d6 (pgC w _) (hdC w) (fiLine w) rfl rfl ?_
  refine w_binOp ?_
  refine w_cInt fun _ => ?_
  refine w_meth PySem.F.plainAttrs_str PySem.F.slot_str_count PySem.F.type_str_count ?_
  refine w_nm Y6.ns mt ⟨fun s hs => typeIs_str _ _ _, fun a e => (by cases e), ?_⟩
  refine w_args ?_
  refine w_arg ?_
  refine w_cS [10] (by kernel_rfl) fun _ => ?_
  refine w_arg0 ?_
  refine w_kw0 ⟨Kp.builtin _, ?_⟩
  refine w_strCount fun _ => ?_
  refine w_addInt fun _ => ?_
  refine w_neInt ?_
  rw [hpl, List.take_length]
  rw [show (((1 + text.count 10 : Nat) : Int) == 1 + ((text.count 10 : Nat) : Int)) = true by simp]
  refine w_tBool ⟨fun e => (by cases e), fun _ => w_tOr0 ⟨fun e => (by cases e), fun _ => w_nil ?_⟩⟩
  refine k h6 m a Y6.F Y6.K c6 C6 (hpl ▸ X6) hfr ?_ (fun _ _ _ => rfl)
  have nf : ∀ {h' : Heap} {p toks}, LexM h' a text p toks → ∀ i ∈ [a.d, a.pl], ∀ o vs, h'.get? i = some o → o.data ≠ .fields vs := by
    intro h' p toks X i hi o vs ho hv
    obtain ⟨⟨t1, t2, ⟨es, n', ed, _⟩⟩, ⟨n'', ep⟩, ⟨t8, o8, e8, d8, n8, d8'⟩, _⟩ := X
    simp only [List.mem_cons, List.not_mem_nil, or_false] at hi
    rcases hi with rfl | rfl
    · rw [ed] at ho; cases ho; cases hv
    · rw [e8] at ho; cases ho; rw [d8'] at hv; cases hv
  refine T5.kept k6 ?_ (nf X5)
  have apT : ∀ i ∈ a.all, i ≠ tabS := lexNeTab C1 hfr T1 hPLt
  simp only [List.mem_cons, List.not_mem_nil, or_false, not_or]
  exact ⟨fun q => apT a.d a.m_d q.symm, fun q => apT a.pl a.m_pl q.symm⟩
end
end Mine
end
section
open PySem PySem.W PyProof.Rows PySem.Calls
set_option Elab.async false
set_option maxRecDepth 100000
set_option linter.unusedVariables false
set_option linter.unusedSimpArgs false
namespace Mine
/-! ## what a written word reads as -/
def Chk (c : Nat) (ch : List Nat) : Prop := ch = [92, c] ∨ (ch = [c] ∧ isWhite c = false ∧ c ≠ 92)
def Chks : List Nat → List (List Nat) → Prop
  | [], [] => True
  | c :: w, ch :: cs => Chk c ch ∧ Chks w cs
  | _, _ => False
theorem lexG_stop {stop : Nat → Bool} {c : Nat} {tok r : List Nat} (h : stop c = true) : lexG stop tok (c :: r) = (tok, r) := by rw [lexG.eq_def]; simp [h]
theorem lexG_esc {stop : Nat → Bool} {d : Nat} {tok r : List Nat} (h : stop 92 = false) : lexG stop tok (92 :: d :: r) = lexG stop (tok ++ [d]) r := by rw [lexG.eq_def]; simp [h]
theorem lexG_plain {stop : Nat → Bool} {c : Nat} {tok r : List Nat} (h : stop c = false) (h2 : c ≠ 92) : lexG stop tok (c :: r) = lexG stop (tok ++ [c]) r := by rw [lexG.eq_def]; simp [h, h2]
theorem lexT_w {c : Nat} {r : List Nat} (h : isWhite c = true) : lexT (c :: r) = lexT r := by rw [lexT.eq_def]; simp [h]
theorem lexT_q {r : List Nat} : lexT (34 :: r) = lexG isQuote [] r := by rw [lexT.eq_def]; simp [isWhite]
theorem lexT_e {d : Nat} {r : List Nat} : lexT (92 :: d :: r) = lexG isWhite [d] r := by rw [lexT.eq_def]; simp [isWhite]
theorem lexT_p {c : Nat} {r : List Nat} (h : isWhite c = false) (h1 : c ≠ 34) (h2 : c ≠ 92) : lexT (c :: r) = lexG isWhite [c] r := by rw [lexT.eq_def]; simp [h, h1, h2]
theorem lexG_chks : ∀ (w : List Nat) (cs : List (List Nat)) (tok rest : List Nat), Chks w cs → lexG isWhite tok (cs.flatten ++ rest) = lexG isWhite (tok ++ w) rest
  | [], [], tok, rest, _ => by simp
  | [], _ :: _, _, _, h => h.elim
  | _ :: _, [], _, _, h => h.elim
  | c :: w, ch :: cs, tok, rest, h => by
    obtain ⟨h1, h2⟩ := h
    have ih := lexG_chks w cs (tok ++ [c]) rest h2
    rw [List.append_assoc] at ih
    rcases h1 with rfl | ⟨rfl, a, b⟩
    · simp only [List.flatten_cons, List.cons_append, List.nil_append]
      rw [lexG_esc (by decide)]
      exact ih
    · simp only [List.flatten_cons, List.cons_append, List.nil_append]
      rw [lexG_plain a b]
      exact ih
theorem lexG_quote : ∀ (w : List Nat) (tok rest : List Nat), lexG isQuote tok ((w.map escQ).flatten ++ 34 :: rest) = (tok ++ w, rest)
  | [], tok, rest => by
    show lexG isQuote tok (34 :: rest) = _
    rw [lexG_stop (by decide), List.append_nil]
  | c :: w, tok, rest => by
    have ih := lexG_quote w (tok ++ [c]) rest
    rw [List.append_assoc] at ih
    by_cases q : c ∈ [34, 92]
    · simp only [List.map_cons, List.flatten_cons, escQ, if_pos q, List.cons_append, List.nil_append]
      rw [lexG_esc (by decide)]
      exact ih
    · have h1 : ¬ isQuote c = true := by simp [isQuote] at q ⊢; exact q.1
      have h2 : ¬ c = 92 := by simp at q; exact q.2
      simp only [List.map_cons, List.flatten_cons, escQ, if_neg q, List.cons_append, List.nil_append]
      rw [lexG_plain (by simpa using h1) h2]
      exact ih
theorem lexG_quote_end : ∀ (w : List Nat) (tok : List Nat), lexG isQuote tok ((w.map escQ).flatten) = (tok ++ w, [])
  | [], tok => by simp [lexG]
  | c :: w, tok => by
    have ih := lexG_quote_end w (tok ++ [c])
    rw [List.append_assoc] at ih
    by_cases q : c ∈ [34, 92]
    · simp only [List.map_cons, List.flatten_cons, escQ, if_pos q, List.cons_append, List.nil_append]
      rw [lexG_esc (by decide)]
      exact ih
    · have h1 : ¬ isQuote c = true := by simp [isQuote] at q ⊢; exact q.1
      have h2 : ¬ c = 92 := by simp at q; exact q.2
      simp only [List.map_cons, List.flatten_cons, escQ, if_neg q, List.cons_append, List.nil_append]
      rw [lexG_plain (by simpa using h1) h2]
      exact ih
theorem lexT_white : ∀ (ws rest : List Nat), (∀ c ∈ ws, isWhite c = true) → lexT (ws ++ rest) = lexT rest
  | [], _, _ => rfl
  | c :: ws, rest, h => by
    show lexT (c :: (ws ++ rest)) = _
    rw [lexT_w (h c (by simp))]
    exact lexT_white ws rest (fun c hc => h c (by simp [hc]))
theorem lexT_quote (w rest : List Nat) : lexT ([34] ++ (w.map escQ).flatten ++ [34] ++ rest) = (w, rest) := by
  have := lexG_quote w [] rest
  simp only [List.cons_append, List.nil_append, List.append_assoc]
  rw [lexT_q]
  simpa using this
theorem lexT_quote_end (w : List Nat) : lexT ([34] ++ (w.map escQ).flatten) = (w, []) := by
  have := lexG_quote_end w []
  simp only [List.cons_append, List.nil_append]
  rw [lexT_q]
  simpa using this
theorem lexT_chks (c : Nat) (w : List Nat) (ch : List Nat) (cs : List (List Nat)) (rest : List Nat) (h : Chks (c :: w) (ch :: cs)) (h0 : ch = [c] → c ≠ 34) : lexT ((ch :: cs).flatten ++ rest) = lexG isWhite (c :: w) rest := by
  obtain ⟨h1, h2⟩ := h
  have ih := lexG_chks w cs [c] rest h2
  rcases h1 with rfl | ⟨rfl, a, b⟩
  · simp only [List.flatten_cons, List.cons_append, List.nil_append]
    rw [lexT_e]
    exact ih
  · simp only [List.flatten_cons, List.cons_append, List.nil_append]
    rw [lexT_p a (h0 rfl) b]
    exact ih
/-- a word that the writing can carry -/
def okC (x : List Nat) : Bool := x.all fun c => !decide (c ∈ [9, 13])
def quoted (word : List Nat) (way : Nat) : Bool := decide (word = [] ∨ way = 0)
theorem wrt_quoted {word : List Nat} {way : Nat} (h : quoted word way = true) : wrt word way = [34] ++ (word.map escQ).flatten ++ [34] := by
  unfold wrt; rw [if_pos (of_decide_eq_true h)]
theorem chks_A : ∀ w : List Nat, Chks w (w.map escA)
  | [] => trivial
  | c :: w => ⟨.inl rfl, chks_A w⟩
theorem chks_B : ∀ w : List Nat, okC w = true → Chks w (w.map escB)
  | [], _ => trivial
  | c :: w, h => by
    simp only [okC, List.all_cons, Bool.and_eq_true] at h
    refine ⟨?_, chks_B w h.2⟩
    have h1 := h.1
    unfold escB
    by_cases q : c ∈ [32, 10, 92]
    · rw [if_pos q]; exact .inl rfl
    · rw [if_neg q]
      simp at h1 q
      exact .inr ⟨rfl, by simp [isWhite, h1, q], q.2.2⟩
theorem wrt_bare {word : List Nat} {way : Nat} (h : quoted word way = false) (ok : okC word = true) (rest : List Nat) : lexT (wrt word way ++ rest) = lexG isWhite word rest ∧ (wrt word way).head? ≠ some 34 := by
  have h' := of_decide_eq_false h
  unfold wrt
  rw [if_neg h']
  cases word with
  | nil => exact absurd (.inl rfl) h'
  | cons c w =>
    by_cases q : way = 1
    · rw [if_pos q]
      refine ⟨lexT_chks c w _ _ rest (chks_A (c :: w)) (by simp [escA]), by simp [escA]⟩
    · rw [if_neg q]
      have hB := chks_B (c :: w) ok
      unfold bareOf
      by_cases q2 : c = 34
      · subst q2
        simp only [List.head?_cons, if_true, List.map_cons, List.set_cons_zero]
        exact ⟨lexT_chks 34 w [92, 34] (w.map escB) rest ⟨.inl rfl, hB.2⟩ (by simp), by simp⟩
      · rw [if_neg (by simpa using q2)]
        refine ⟨lexT_chks c w (escB c) (w.map escB) rest hB (fun _ => q2), ?_⟩
        unfold escB
        simp only [List.map_cons, List.flatten_cons]
        split
        · simp
        · simpa using q2
/-- does the writing of this word leave it bare -/
theorem head_quoted {word : List Nat} {way : Nat} (ok : okC word = true) : (!decide ((wrt word way).head? = some 34)) = !quoted word way := by
  cases h : quoted word way with
  | true => rw [wrt_quoted h]; simp
  | false => have := (wrt_bare h ok []).2; simp [this]
/-! ## the text of the law -/
def wOf (p : List Nat × Int) : List Nat := wrt p.1 (p.2.fmod 3).toNat
def bOf (p : List Nat × Int) : Bool := !decide ((wOf p).head? = some 34)
def tlx : Bool → List (List Nat × Int) → List Nat
  | b, [] => if b = true then [92] else []
  | b, p :: r => txWhite b p.2 ++ ((if r = [] ∧ bOf p = false then (wOf p).dropLast else wOf p) ++ tlx (bOf p) r)
theorem tlx_of : ∀ (r : List (List Nat × Int)) (t : List Nat) (b : Bool), r ≠ [] → (if (r.foldl txStep (t, b)).2 = true then (r.foldl txStep (t, b)).1 ++ [92] else (r.foldl txStep (t, b)).1.dropLast) = t ++ tlx b r
  | [], _, _, h => absurd rfl h
  | [p], t, b, _ => by
    simp only [List.foldl_cons, List.foldl_nil, txStep, tlx]
    show (if bOf p = true then t ++ txWhite b p.2 ++ wOf p ++ [92] else (t ++ txWhite b p.2 ++ wOf p).dropLast) = _
    cases hb : bOf p with
    | true => simp
    | false =>
      have : wOf p ≠ [] := wrt_ne _ _
      simp only [Bool.false_eq_true, if_false, and_self, if_true, List.append_nil]
      rw [List.dropLast_append_of_ne_nil this, List.append_assoc]
  | p :: q :: r, t, b, _ => by
    have ih := tlx_of (q :: r) (t ++ txWhite b p.2 ++ wOf p) (bOf p) (by simp)
    rw [List.foldl_cons]
    have es : txStep (t, b) p = (t ++ txWhite b p.2 ++ wOf p, bOf p) := rfl
    rw [es, ih]
    conv => rhs; rw [tlx]
    rw [if_neg (by simp)]
    simp [List.append_assoc]
theorem txWhite_white (b : Bool) (d : Int) : (∀ c ∈ txWhite b d, isWhite c = true) ∧ (b = true → txWhite b d ≠ []) := by
  have hw : ∀ c ∈ whites d, isWhite c = true := by
    unfold whites
    have h1 := Int.fmod_nonneg_of_pos d (b := 4) (by decide)
    have h2 := Int.fmod_lt_of_pos d (b := 4) (by decide)
    obtain ⟨k, hk⟩ : ∃ k : Nat, d.fmod 4 = k := ⟨_, (Int.toNat_of_nonneg h1).symm⟩
    rw [hk]; rw [hk] at h2
    have : k = 0 ∨ k = 1 ∨ k = 2 ∨ k = 3 := by lia
    rcases this with rfl | rfl | rfl | rfl <;> decide
  unfold txWhite
  by_cases q : b = true ∧ whites d = []
  · rw [if_pos q]; exact ⟨by decide, by simp⟩
  · rw [if_neg q]; exact ⟨hw, fun hb e => q ⟨hb, e⟩⟩
/-- what is left ahead of the words r -/
def Nx (R : List Nat) (r : List (List Nat × Int)) : Prop := (r = [] ∧ R = []) ∨ ∃ p r', r = p :: r' ∧ ∃ ws, (∀ c ∈ ws, isWhite c = true) ∧ R = ws ++ ((if r' = [] ∧ bOf p = false then (wOf p).dropLast else wOf p) ++ tlx (bOf p) r')
theorem nx_tlx (r : List (List Nat × Int)) : Nx (tlx false r) r := by
  cases r with
  | nil => exact .inl ⟨rfl, rfl⟩
  | cons p r => exact .inr ⟨p, r, rfl, _, (txWhite_white false p.2).1, rfl⟩
theorem nx_step {R : List Nat} {p : List Nat × Int} {r : List (List Nat × Int)} (h : Nx R (p :: r)) (ok : okC p.1 = true) : (lexT R).1 = p.1 ∧ Nx (lexT R).2 r := by
  rcases h with ⟨h, _⟩ | ⟨p', r', e, ws, hw, rfl⟩
  · cases h
  cases e
  rw [lexT_white _ _ hw]
  have hbq : bOf p = !quoted p.1 (p.2.fmod 3).toNat := head_quoted ok
  cases hq : quoted p.1 (p.2.fmod 3).toNat with
  | true =>
    rw [hq] at hbq
    have hb : bOf p = false := hbq
    have hwq : wOf p = [34] ++ (p.1.map escQ).flatten ++ [34] := wrt_quoted hq
    rw [hb]
    by_cases hr : r = []
    · subst hr
      rw [if_pos ⟨rfl, rfl⟩, hwq, List.dropLast_concat]
      have : tlx false [] = [] := rfl
      rw [this, List.append_nil, lexT_quote_end]
      exact ⟨rfl, .inl ⟨rfl, rfl⟩⟩
    · rw [if_neg (fun q => hr q.1), hwq, lexT_quote]
      exact ⟨rfl, nx_tlx r⟩
  | false =>
    rw [hq] at hbq
    have hb : bOf p = true := hbq
    rw [hb, if_neg (by simp)]
    have h1 := (wrt_bare hq ok (tlx true r)).1
    show (lexT (wrt p.1 (p.2.fmod 3).toNat ++ tlx true r)).1 = _ ∧ Nx (lexT (wrt p.1 (p.2.fmod 3).toNat ++ tlx true r)).2 r
    rw [h1]
    cases r with
    | nil =>
      show (lexG isWhite p.1 [92]).1 = _ ∧ Nx (lexG isWhite p.1 [92]).2 []
      simp [lexG, isWhite, Nx]
    | cons q r =>
      obtain ⟨t1, t2⟩ := txWhite_white true q.2
      cases ht : txWhite true q.2 with
      | nil => exact absurd ht (t2 rfl)
      | cons c ws' =>
        rw [ht] at t1
        rw [tlx, ht, List.cons_append, lexG_stop (t1 c (by simp))]
        exact ⟨rfl, .inr ⟨q, r, rfl, ws', fun c hc => t1 c (by simp [hc]), rfl⟩⟩
theorem nx_rem {text : List Nat} {r : List (List Nat × Int)} (h : Nx text r) (ok : ∀ p ∈ r, okC p.1 = true) : ∀ k, k ≤ r.length → Nx (remT text k) (r.drop k)
  | 0, _ => by simpa [remT] using h
  | k + 1, hk => by
    have ih := nx_rem h ok k (by lia)
    rw [List.drop_eq_getElem_cons (by lia)] at ih
    exact (nx_step ih (ok _ (List.getElem_mem _))).2
theorem nx_read {text : List Nat} {r : List (List Nat × Int)} (h : Nx text r) (ok : ∀ p ∈ r, okC p.1 = true) :
    (∀ i (hi : i < r.length), tokT text i = r[i].1) ∧ tokT text r.length = [] ∧ remT text (r.length + 1) = [] := by
  have hend : remT text r.length = [] := by
    have := nx_rem h ok r.length (Nat.le_refl _)
    rw [List.drop_length] at this
    rcases this with ⟨_, e⟩ | ⟨p, r', e, _⟩
    · exact e
    · cases e
  refine ⟨fun i hi => ?_, ?_, ?_⟩
  · have ih := nx_rem h ok i (by lia)
    rw [List.drop_eq_getElem_cons hi] at ih
    exact (nx_step ih (ok _ (List.getElem_mem _))).1
  · unfold tokT; rw [hend]; rfl
  · show (lexT (remT text r.length)).2 = []; rw [hend]; rfl
/-- the law's text is read as it was drawn -/
theorem lawText_read (words : List (List Nat)) (dr : List Int) (hl : dr.length = words.length) (h0 : words ≠ []) (ok : ∀ x ∈ words, okC x = true) :
    (∀ i, i < words.length → words[i]? = some (tokT (lawText words dr) i)) ∧ tokT (lawText words dr) words.length = [] ∧ remT (lawText words dr) (words.length + 1) = [] := by
  have hz : (words.zip dr).length = words.length := by simp [hl]
  have hne : words.zip dr ≠ [] := by
    intro q
    have := congrArg List.length q
    rw [hz] at this
    exact h0 (List.length_eq_zero_iff.mp (by simpa using this))
  have e : lawText words dr = tlx false (words.zip dr) := by
    have := tlx_of (words.zip dr) [] false hne
    rw [List.nil_append] at this
    unfold lawText txAll
    exact this
  have hnx : Nx (lawText words dr) (words.zip dr) := by rw [e]; exact nx_tlx _
  have hok : ∀ p ∈ words.zip dr, okC p.1 = true := fun p hp => ok _ (List.of_mem_zip hp).1
  obtain ⟨r1, r2, r3⟩ := nx_read hnx hok
  rw [hz] at r2 r3
  refine ⟨fun i hi => ?_, r2, r3⟩
  rw [r1 i (by rw [hz]; exact hi)]
  simp [hi]
end Mine
end
section
open PySem PySem.W PyProof.Rows PySem.Calls
set_option Elab.async false
set_option maxRecDepth 100000
set_option linter.unusedVariables false
set_option linter.unusedSimpArgs false
namespace Mine
theorem turnL_app {α : Type} : ∀ (l m : List α), turnL l.length (l ++ m) = l
  | [], m => by simp [turnL]
  | v :: l, m => by
    show v :: turnL l.length ((l ++ m) ++ [v]) = _
    rw [List.append_assoc, turnL_app l (m ++ [v])]
theorem turn_full {α : Type} (l : List α) : turnL l.length l = l ∧ turnQ l.length l = l := by
  have h1 := turnL_app l []
  have h2 := turnQ_app l []
  rw [List.append_nil] at h1 h2
  exact ⟨h1, h2⟩
theorem TabP.keptC {S : List Addr} {H h h' : Heap} {P : Addr} {places : List (Pos × Str)} (T : TabP H h P places) (k : Kept S h h') (hP : P ∉ S) (hS : ∀ i ∈ S, ∀ q, ¬ h.CodeRec (.ref i) q) : TabP H h' P places := by
  obtain ⟨ps, e, t, r⟩ := T
  exact ⟨ps, k _ _ hP e, t, fun q hq => (r q hq).imp id fun ⟨c', e1, e2, e3⟩ => ⟨c', e1, CodeRec.keptTo e2 (fun o ho => k _ _ (fun m => hS _ m _ e2) ho), e3⟩⟩
theorem TabR.keptC {R : Addr → Prop} {S : List Addr} {H h h' : Heap} {P : Addr} {places : List (Pos × Str)} (T : TabR R H h P places) (k : Kept S h h') (hP : P ∉ S) (hS : ∀ i ∈ S, ∀ q, ¬ h.CodeRec (.ref i) q) : TabR R H h' P places := by
  obtain ⟨ps, e, t, r⟩ := T
  exact ⟨ps, k _ _ hP e, t, fun q hq => (r q hq).imp id fun ⟨c', e1, e2, e3⟩ => ⟨c', e1, CodeRec.keptTo e2 (fun o ho => k _ _ (fun m => hS _ m _ e2) ho), e3⟩⟩
theorem all_nil {p : Addr → Prop} : ∀ i ∈ ([] : List Addr), p i := fun i hi => (nomatch hi)
theorem all_cons {p : Addr → Prop} {a : Addr} {l : List Addr} (h : p a) (t : ∀ i ∈ l, p i) : ∀ i ∈ a :: l, p i := List.forall_mem_cons.mpr ⟨h, t⟩
theorem nc_ns {h : Heap} {L : Addr} {m : Str → Option Value} (n : h.Ns L m) : ∀ q, ¬ h.CodeRec (.ref L) q := fun q x => code_ne_ns x n rfl
theorem nc_ls {h : Heap} {l : Addr} {xs : List Value} (n : Ls h l xs) : ∀ q, ¬ h.CodeRec (.ref l) q := fun q x => code_ne_ls x n rfl
theorem nc_cell {h : Heap} {l : Addr} {v : Option Value} (n : h.IsCell l v) : ∀ q, ¬ h.CodeRec (.ref l) q := fun q x => code_ne_cell x n rfl
theorem nc_tab {H h : Heap} {P : Addr} {places : List (Pos × Str)} (T : TabP H h P places) : ∀ q, ¬ h.CodeRec (.ref P) q := fun q x => codeNeTab T x rfl
theorem LexM.pbLs {h : Heap} {a : LexA} {text : List Nat} {p : Nat} {toks : List Value} (X : LexM h a text p toks) : Ls h a.pb toks := X.pb
theorem reads_none {h : Heap} : ∀ n, ReadsAll h (List.replicate n Value.none) (List.replicate n PyData.none) []
  | 0 => .nil
  | n + 1 => ReadsAll.cons (h := h) (as := []) (bs := []) .none (reads_none n)
theorem lay_none : ∀ n, PyData.canLayAll0 (List.replicate n PyData.none) = true ∧ PyData.depthAll (List.replicate n PyData.none) = 0
  | 0 => ⟨rfl, rfl⟩
  | n + 1 => by
    have h2 := lay_none n
    exact ⟨by simp [List.replicate_succ, PyData.canLayAll0, PyData.canLay0, h2.1], by simp [List.replicate_succ, PyData.depthAll, PyData.depth, h2.2]⟩
/-- what _law_moved answers, as data -/
def movedD (a b : Int) (n : Nat) (c : Int) : PyData := .tuple [.int a, .int b, .list (List.replicate n .none), .int c, .list []]
theorem moved_shaped (a b : Int) (n : Nat) (c : Int) : SeqAt.shaped (movedD a b n c) = true := by
  have := lay_none n
  simp [movedD, SeqAt.shaped, PyData.canLay0, PyData.canLayAll0, PyData.depth, PyData.depthAll, this.1, this.2]
theorem moved_reads {h : Heap} {tp GV MV : Addr} {a b c : Int} {n : Nat} {t1 t2 t3 : Tok} (ht : h.get? tp = some (tpl [.int a t1, .int b t2, .ref GV, .int c t3, .ref MV])) (lG : Ls h GV (List.replicate n Value.none)) (lM : Ls h MV []) :
    Reads h (.ref tp) (movedD a b n c) [GV, MV] := by
  obtain ⟨_, eG⟩ := lG
  obtain ⟨_, eM⟩ := lM
  have r1 : Reads h (.ref GV) (.list (List.replicate n .none)) [GV] := .list eG rfl rfl (by simpa using reads_none n)
  have r2 : Reads h (.ref MV) (.list []) [MV] := .list eM rfl rfl .nil
  have := ReadsAll.cons (h := h) (.int a t1) (ReadsAll.cons (.int b t2) (ReadsAll.cons r1 (ReadsAll.cons (.int c t3) (ReadsAll.cons r2 .nil))))
  exact .tuple ht rfl rfl this
section
variable {prog : Program} {w : World} {A : Around} {h : Heap} {env : Env}
theorem w_gtInt {a b : Int} {t u : Tok} {Q : Value → Heap → Prop} (k : Q (.bool (decide (b < a))) h) : Wp (model prog w) A (compareOp .Gt (.int a t) (.int b u)) Q h := fun s hs => by subst hs; exact PyProof.Rows.gt_int ⟨⟨rfl, rfl⟩, k⟩
theorem w_neMoved {tp GV MV tp' GV' MV' : Addr} {a b c : Int} {n : Nat} {t1 t2 t3 t4 t5 t6 : Tok} {Q : Value → Heap → Prop} (ht : h.get? tp = some (tpl [.int a t1, .int b t2, .ref GV, .int c t3, .ref MV])) (lG : Ls h GV (List.replicate n Value.none)) (lM : Ls h MV [])
    (ht' : h.get? tp' = some (tpl [.int a t4, .int b t5, .ref GV', .int c t6, .ref MV'])) (lG' : Ls h GV' (List.replicate n Value.none)) (lM' : Ls h MV' []) (hu : A.units + 64 < cLine) (k : Q (.bool false) h) :
    Wp (model prog w) A (compareOp .NotEq (.ref tp) (.ref tp')) Q h := fun s hs => by
  subst hs
  refine ne_dataH (moved_reads ht lG lM) (moved_reads ht' lG' lM') (moved_shaped _ _ _ _) (moved_shaped _ _ _ _) hu ⟨⟨rfl, rfl⟩, ?_⟩
  rw [show PyData.eqv (movedD a b n c) (movedD a b n c) = true from SeqAt.eqv_refl _ (SeqAt.canLay_of_shaped (moved_shaped _ _ _ _))]
  exact k
/-- `a and b`, as a value -/
theorem w_and2 {x y : Expr} {pos : Pos} {Q : Value → Heap → Prop} (k : Wp (model prog w) A (eval x env) (fun v h' => v = .bool true ∧ Wp (model prog w) A (eval y env) Q h') h) :
    Wp (model prog w) A (eval (.BoolOp .And [x, y] pos) env) Q h := by
  rw [arm_eval_BoolOp]
  refine w_bind (k.mono fun v h' z => ?_)
  obtain ⟨rfl, z⟩ := z
  refine w_bind (w_standAt (w_bind (w_holding (w_tBool ?_))))
  exact z
end
end Mine
end
section
open PySem PySem.W PyProof.Rows PySem.Calls
set_option Elab.async false
set_option maxRecDepth 100000
set_option linter.unusedVariables false
set_option linter.unusedSimpArgs false
namespace Mine
abbrev nLineW : Str := Str.ofString "line"
/-- the falls before the word at this place -/
def flB (l : List W) : Nat → Nat
  | 0 => 0
  | i + 1 => falls wlt l i
theorem fl_up {l : List W} {i : Nat} {x y : W} (hy : l[i]? = some y) (hx : l[i + 1]? = some x) : falls wlt l (i + 1) = falls wlt l i + (if x < y then i + 1 else 0) := by
  rw [falls, hy, hx]
  simp [wlt]
section
variable {prog : Program} {w : World} {A : Around} {h base H : Heap} {mg mb : Str → Option Value} {L : Addr}
set_option maxHeartbeats 8000000 in
theorem nc1 {n : Nat} {wl : Addr} {wys : List Value} {words : List W} {text : List Nat} {a : LexA} {Q : Flow → Heap → Prop} {m : Str → Option Value} (GB : Gd w mg mb H base) (ok : OkA (n + 6) A) (F : Fr base L h m)
    (C : LexC w H h a text) (X : LexM h a text text.length []) (TM : TabR (fun c => c < h.objs.size) H h tabM (placesM w)) (CM : CodeHd H codeM tabM) (bM : H.BuiltinsAt mg tabM) (HM : H.get? tabM = none) (BM : base.get? tabM = none) (hML : tabM < L)
    (c2 : h.IsCell (L + 2) (some (.ref a.x))) (lw : Ls h wl wys) (sw : Strs wys words) (mw : m nWords = some (.ref wl)) (hn1 : 1 ≤ words.length) (hn : words.length ≤ 20) (hokw : ∀ x ∈ words, okW x = true)
    (hap : ∀ i ∈ a.all, i ≠ L ∧ i ≠ wl ∧ i ≠ tabM ∧ i ≠ L + 2) (hpb : base.get? a.pb = none) (hw : wl ≠ L) (hwM : wl ≠ tabM)
    (k : ∀ h' m' R toks rys rs, Fr base L h' m' → Kept [L, a.pb, tabM] h h' → LexM h' a text text.length toks → Strs toks (foata wlt words) → Ls h' R rys → Strs rys rs → Asc wlt rs → rs.Perm words → h.objs.size ≤ R → m' nRow = some (.ref R) →
      (∀ z, z ∉ [nRow, nFalls, nPlace, nWord, nLineW] → m' z = m z) → (∃ ps, h'.get? tabM = some (tabObj ps)) → Wp (model prog w) A (execs ((lawB w).drop 9) (lawE w L)) Q h') :
    Wp (model prog w) A (execs ((lawB w).drop 6) (lawE w L)) Q h := by
  have ctx : ∀ {h' m'}, Fr base L h' m' → Gd w mg mb H h' := fun F' => GB.ext F'.keep
  have hwl := sw.length
  have L0 : L < h.objs.size := F.ns.lt
  have hub : A.units + 100 < cLine := by have := ok.units; lia
  obtain ⟨ld, lb, ll⟩ := X.lt
  have hbL := (hap _ a.m_pb).1
  have hdL := (hap _ a.m_d).1
  have hlL := (hap _ a.m_pl).1
  have Y0 : Fs base h [L, a.pb, tabM] L h m := Fs.mk0 F _
  refine w_cons ?_
  refine w_asg ?_
  refine w_list ?_
  refine w_arg0 ⟨Nat.zero_le _, fun h1 R hR e1 l1 z1 => ?_⟩
  have hLR : L < R := by rw [hR]; exact L0
  have hRn : h.objs.size ≤ R := Nat.le_of_eq hR.symm
  have hRL : R ≠ L := Nat.ne_of_gt hLR
  have hRa : R ∉ a.all := fun q => Nat.not_lt.mpr hRn (lex_lt C X R q)
  have hRH : H.get? R = none := gd_none (ctx F) hRn
  have hRb : base.get? R = none := get_none (Nat.le_trans F.above (Nat.le_trans (Nat.le_of_lt L0) hRn))
  refine w_stF (Y0.ext e1) (fun h2 Y2 sb2 => ?_) im1
  have l2 := l1.same sb2 hRL
  have X2 := (X.ext e1).same sb2 hdL hbL hlL
  have c22 : h2.IsCell (L + 2) (some (.ref a.x)) := IsCell.kept (c2.keeps e1) (Kept.of_same (S := [L]) sb2 im1) (nmc (adne (by decide)) nm0)
  refine w_cons ?_
  refine w_asg ?_
  refine w_cInt fun t0 => ?_
  refine w_stF Y2 (fun h3 Y3 sb3 => ?_) im1
  have l3 := l2.same sb3 hRL
  have X3 := X2.same sb3 hdL hbL hlL
  have c23 : h3.IsCell (L + 2) (some (.ref a.x)) := IsCell.kept c22 (Kept.of_same (S := [L]) sb3 im1) (nmc (adne (by decide)) nm0)
  have k03 : Kept [L] h h3 := (Kept.of_ext e1).trans ((Kept.of_same (S := [L]) sb2 im1).trans (Kept.of_same (S := [L]) sb3 im1))
  have lw3 := lsKept lw k03 (nmc hw nm0)
  have C3 := C.keptBut k03 (fun i hi => nmc (hap i hi).1 nm0)
  generalize hm3 : (fun y => if y = nFalls then some (Value.int 0 t0) else if y = nRow then some (Value.ref R) else m y) = m3 at Y3
  have m3r : m3 nRow = some (.ref R) := by rw [← hm3]; rfl
  have m3f : m3 nFalls = some (.int 0 t0) := by rw [← hm3]; rfl
  have m3w : m3 nWords = some (.ref wl) := by rw [← hm3]; exact mw
  have o3 : ∀ z, z ∉ [nRow, nFalls, nPlace, nWord, nLineW] → m3 z = m z := fun z hz => by
    rw [← hm3]; show (if z = nFalls then _ else if z = nRow then _ else m z) = _
    rw [if_neg (fun q => hz (by rw [q]; exact im2)), if_neg (fun q => hz (by rw [q]; exact im1))]
  refine w_cons ?_
  refine w_for ?_
  refine w_callN ?_
  refine w_gB (v := .type "range") (ctx Y3.F).now (by kernel_rfl) (by kernel_rfl) (by decide) ?_
  refine w_args ?_
  refine w_arg ?_
  refine w_callN ?_
  refine w_gB (v := .builtin "len") (ctx Y3.F).now (by kernel_rfl) (by kernel_rfl) (by decide) ?_
  refine w_args ?_
  refine w_arg ?_
  refine w_nm Y3.ns m3w ?_
  refine w_arg0 ?_
  refine w_kw0 ⟨Kp.builtin _, ?_⟩
  refine w_lenList lw3.isList (by rw [List.size_toArray]; lia) fun tn => ?_
  rw [List.size_toArray, hwl]
  refine w_arg0 ?_
  refine w_kw0 ⟨Kp.type _, ?_⟩
  refine w_range fun h4 r t1 t2 t3 hr e4 z4 ir => ?_
  have Y4 := Y3.ext e4
  have l4 := l3.ext e4
  have X4 := X3.ext e4
  have c24 := c23.keeps e4
  have lw4 := lw3.ext e4
  have C4 := C3.kept (Kept.of_ext e4)
  have L4 : L < h4.objs.size := Y4.ns.lt
  obtain ⟨ld4, lb4, ll4⟩ := X4.lt
  have k04 : Kept [L] h h4 := k03.trans (Kept.of_ext e4)
  have TM4 := TM.keptC k04 (nmc (Nat.ne_of_lt hML) nm0) (all_cons (nc_ns F.ns) all_nil)
  have hTlt : tabM < h4.objs.size := Nat.lt_trans hML L4
  have hTL : ∀ b ∈ [L, a.pb, R, tabM], b < h4.objs.size := all_cons L4 (all_cons lb4 (all_cons l4.lt (all_cons hTlt all_nil)))
  have h04 : h.objs.size ≤ h4.objs.size := Nat.le_trans hRn (Nat.le_of_lt l4.lt)
  refine w_forB (iterRange0 rfl ok.3 ir (by lia)) [L, a.pb, R, tabM] (fun b hb => ⟨hTL b hb, nm0⟩) (fun b hb => (nomatch hb))
    (fun b0 i h' => ∃ m' toks rys rs t, Fr base L h' m' ∧ (∀ z, z ∉ [nFalls, nPlace, nWord, nLineW] → m' z = m3 z) ∧ m' nFalls = some (.int (flB words i : Nat) t) ∧ LexM h' a text text.length toks ∧ Strs toks (foata wlt (words.take i)) ∧
      Ls h' R rys ∧ Strs rys rs ∧ Asc wlt rs ∧ rs.Perm (words.take i) ∧ TabR (fun c => c < h4.objs.size ∨ b0 ≤ c) H h' tabM (placesM w))
    (fun b0 i h1 h2 ⟨m', toks, rys, rs, t, F', o', f', X', sT, lR, sR, asc, pm, T'⟩ off => ⟨m', toks, rys, rs, t, frOff F' off L4, o', f', X'.off off ld4 lb4 ll4, sT, lR.off off (.inl l4.lt), sR, asc, pm, T'.off off hTlt (fun c hc => hc)⟩)
    (fun b0 => ⟨m3, [], [], [], t0, Y4.F, fun _ _ => rfl, m3f, X4, trivial, l4, trivial, List.Pairwise.nil, List.Perm.nil, TM4.imp (fun c _ hc => .inl (Nat.lt_of_lt_of_le hc h04))⟩)
    (fun b0 i v h5 hi hlv hP hJ k5 => w_hide fun Qd hQd => ?_) (fun b0 h5 hb0 hJ k5 => ?_)
  · obtain ⟨tv, rfl⟩ := hP
    obtain ⟨m5, toks, rys, rs, t5, F5, o5, f5, X5, sT, lR5, sR, asc, pm, T5⟩ := hJ
    have hb1 := live_b0 hlv
    have S5 : h4.objs.size ≤ h5.objs.size := let ⟨I, o, _, hI, e⟩ := hlv; Nat.le_trans hI (Nat.le_of_lt (Heap.lt_size e))
    have B5 : b0 ≤ h5.objs.size := let ⟨I, o, q, hI, e⟩ := hlv; q ▸ Heap.lt_size e
    have lw5 := lsKept lw4 k5 (nmc hw (nmc (hap _ a.m_pb).2.1.symm (nmc (fun q => by have := lw.lt; rw [q] at this; exact Nat.not_lt.mpr hRn this) (nmc hwM nm0))))
    have hRM : R ≠ tabM := fun q => Nat.not_lt.mpr (Nat.le_of_lt hLR) (q ▸ hML)
    have c25 : h5.IsCell (L + 2) (some (.ref a.x)) := IsCell.kept c24 k5 (nmc (adne (by decide)) (nmc (hap _ a.m_pb).2.2.2.symm (nmc (fun q => by have : L + 2 < h.objs.size := let ⟨o, e, _⟩ := c2; Heap.lt_size e; rw [q] at this; exact Nat.not_lt.mpr hRn this) (nmc (fun q => by have := hML; rw [← q] at this; exact Nat.not_lt.mpr (Nat.le_add_right L 2) this) nm0))))
    have hmutT : ∀ i ∈ a.all, i ∈ [L, a.pb, R, tabM] → i ∈ a.mut := fun i hia hit => by
      cases hit with
      | head => exact absurd rfl (hap _ hia).1
      | tail _ hit => cases hit with
        | head => exact im2
        | tail _ hit => cases hit with
          | head => exact absurd hia hRa
          | tail _ hit => cases hit with
            | head => exact absurd rfl (hap _ hia).2.2.1
            | tail _ q => cases q
    have C5 := C4.keptX k5 hmutT
    have m5w : m5 nWords = some (.ref wl) := (o5 _ (by decide)).trans m3w
    have m5r : m5 nRow = some (.ref R) := (o5 _ (by decide)).trans m3r
    have Z5 : Fs base h5 [L, a.pb, R] L h5 m5 := Fs.mk0 F5 _
    obtain ⟨x, hx⟩ : ∃ x, words[i]? = some x := ⟨_, List.getElem?_eq_getElem hi⟩
    obtain ⟨tx, htx⟩ := sw.get hx
    have hwl20 : wys.length ≤ 20 := by rw [hwl]; exact hn
    have hwsz : wys.length ≤ sizeLine := by rw [sizeLine_eq]; lia
    -- place, word
    refine w_asgName ?_
    refine w_stF Z5 (fun h6 Z6 sb6 => ?_) im1
    refine w_cons ?_
    refine w_asg ?_
    refine w_sub ?_
    refine w_nm Z6.ns m5w ?_
    refine w_nm Z6.ns rfl ?_
    have lw6 := lw5.same sb6 hw
    refine w_itemL lw6.isList htx hwsz ?_
    refine w_stF Z6 (fun h7 Z7 sb7 => ?_) im1
    have k57 : Kept [L] h5 h7 := (Kept.of_same (S := [L]) sb6 im1).trans (Kept.of_same (S := [L]) sb7 im1)
    generalize hm7 : (fun y => if y = nWord then some (Value.str (S x) tx) else if y = nPlace then some (Value.int (i : Nat) tv) else m5 y) = m7 at Z7
    have m7p : m7 nPlace = some (.int (i : Nat) tv) := by rw [← hm7]; rfl
    have m7x : m7 nWord = some (.str (S x) tx) := by rw [← hm7]; rfl
    have m7w : m7 nWords = some (.ref wl) := by rw [← hm7]; exact m5w
    have m7r : m7 nRow = some (.ref R) := by rw [← hm7]; exact m5r
    have m7f : m7 nFalls = some (.int (flB words i : Nat) t5) := by rw [← hm7]; exact f5
    have o7 : ∀ z, z ∉ [nFalls, nPlace, nWord, nLineW] → m7 z = m3 z := fun z hz => by
      rw [← hm7]; show (if z = nWord then _ else if z = nPlace then _ else m5 z) = _
      rw [if_neg (fun q => hz (by rw [q]; exact im3)), if_neg (fun q => hz (by rw [q]; exact im2))]
      exact o5 z hz
    clear hm7
    have lw7 := lsKept lw5 k57 (nmc hw nm0)
    obtain ⟨y, ty, hyi, hyv, hlast⟩ : ∃ y ty, wys[(if i = 0 then wys.length - 1 else i - 1)]? = some (.str (S y) ty) ∧ (∀ j, i = j + 1 → words[j]? = some y) ∧ (∀ z ∈ (foata wlt (words.take i)).getLast?, z = y) := by
      by_cases q : i = 0
      · subst q
        have hl : words.length - 1 < words.length := by lia
        obtain ⟨ty, hty⟩ := sw.get (List.getElem?_eq_getElem hl)
        refine ⟨_, ty, by rw [if_pos rfl, hwl]; exact hty, fun j hj => (by cases hj), fun z hz => ?_⟩
        rw [List.take_zero] at hz; cases hz
      · obtain ⟨j, rfl⟩ : ∃ j, i = j + 1 := ⟨i - 1, by lia⟩
        have hj : j < words.length := by lia
        have hjj := List.getElem?_eq_getElem hj
        obtain ⟨ty, hty⟩ := sw.get hjj
        refine ⟨_, ty, by rw [if_neg q]; exact hty, fun j' hj' => (by cases hj'; exact hjj), fun z hz => ?_⟩
        obtain ⟨o, e1, _⟩ := foata_last (lt := wlt) words hjj
        rw [e1, List.getLast?_concat] at hz
        cases hz; rfl
    -- falls
    refine w_cons ?_
    refine Wp.mono (Q := fun f h' => f = .next ∧ ∃ m' t, Fs base h5 [L, a.pb, R] L h' m' ∧ Kept [L] h7 h' ∧ m' nFalls = some (.int (falls wlt words i : Nat) t) ∧ ∀ z, z ≠ nFalls → m' z = m7 z) ?_ fun f h8 yy => ?_
    · refine w_if_ ?_
      refine w_tAnd ?_
      refine w_tCmp ?_
      refine w_nm Z7.ns m7p ?_
      refine w_cInt fun _ => ?_
      refine w_gtInt ?_
      by_cases q : i = 0
      · subst q
        refine w_tBool ⟨fun e => (nomatch e), fun _ => ⟨fun e => (nomatch e), fun _ => w_nil ⟨rfl, m7, t5, Z7, Kept.refl _ _, m7f, fun _ _ => rfl⟩⟩⟩
      · obtain ⟨j, rfl⟩ : ∃ j, i = j + 1 := ⟨i - 1, by lia⟩
        have hy := hyv j rfl
        rw [if_neg q] at hyi
        have hy' : wys[j]? = some (.str (S y) ty) := hyi
        refine w_tBool ⟨fun _ => ?_, fun e => absurd e (by simp)⟩
        refine w_tAnd ?_
        refine w_tCmp ?_
        refine w_nm Z7.ns m7x ?_
        refine w_sub ?_
        refine w_nm Z7.ns m7w ?_
        refine w_binOp ?_
        refine w_nm Z7.ns m7p ?_
        refine w_cInt fun _ => ?_
        refine w_subInt fun _ => ?_
        refine w_itemI (j := j) lw7.isList (.inl (by lia)) (fun e => absurd e (by lia)) hy' hwsz ?_
        refine w_ltStr ?_
        have hfl := fl_up hy hx
        by_cases hxy : x < y
        · rw [decide_eq_true hxy]
          rw [if_pos hxy] at hfl
          refine w_tBool ⟨fun _ => w_tAnd0 ⟨fun _ => ?_, fun e => (nomatch e)⟩, fun e => (nomatch e)⟩
          refine w_cons ?_
          refine w_asg ?_
          refine w_binOp ?_
          refine w_nm Z7.ns m7f ?_
          refine w_nm Z7.ns m7p ?_
          refine w_addInt fun t8 => ?_
          refine w_stF Z7 (fun h8 Z8 sb8 => ?_) im1
          refine w_nil ⟨rfl, _, t8, Z8, Kept.of_same (S := [L]) sb8 im1, ?_, fun z hz => if_neg hz⟩
          rw [if_pos rfl, hfl]
          rfl
        · rw [decide_eq_false hxy]
          rw [if_neg hxy] at hfl
          refine w_tBool ⟨fun e => (nomatch e), fun _ => ⟨fun e => (nomatch e), fun _ => w_nil ⟨rfl, m7, t5, Z7, Kept.refl _ _, ?_, fun _ _ => rfl⟩⟩⟩
          rw [m7f, hfl]; rfl
    obtain ⟨rfl, m8, t8, Z8, k78, m8f, o8⟩ := yy
    have k58 : Kept [L] h5 h8 := k57.trans k78
    have lw8 := lsKept lw5 k58 (nmc hw nm0)
    have lR8 := lsKept lR5 k58 (nmc hRL nm0)
    have X8 := X5.keptBut k58 (fun i hi => nmc (hap i hi).1 nm0)
    have C8 := C5.keptBut k58 (fun i hi => nmc (hap i hi).1 nm0)
    have c28 : h8.IsCell (L + 2) (some (.ref a.x)) := IsCell.kept c25 k58 (nmc (adne (by decide)) nm0)
    have m8p := (o8 nPlace (by decide)).trans m7p
    have m8x := (o8 nWord (by decide)).trans m7x
    have m8w := (o8 nWords (by decide)).trans m7w
    have m8r := (o8 nRow (by decide)).trans m7r
    have hpm := foata_perm (lt := wlt) (words.take i)
    have hfl := hpm.length_eq
    have htl : (words.take i).length = i := by rw [List.length_take]; lia
    -- _law_grown
    refine w_cons ?_
    refine w_exprV ?_
    refine w_callN ?_
    refine w_gK (ctx Z8.F).now (v := .ref aGr) (by kernel_rfl) ?_
    refine w_args ?_
    refine w_arg ?_
    refine w_nmC (c := L + 2) rfl c28 ?_
    refine w_arg ?_
    refine w_nm Z8.ns m8r ?_
    refine w_arg ?_
    refine w_nm Z8.ns m8x ?_
    refine w_arg ?_
    refine w_sub ?_
    refine w_nm Z8.ns m8w ?_
    refine w_binOp ?_
    refine w_nm Z8.ns m8p ?_
    refine w_cInt fun _ => ?_
    refine w_subInt fun _ => ?_
    refine w_itemI (j := if i = 0 then wys.length - 1 else i - 1) lw8.isList (by split <;> lia) (by split <;> lia) hyi hwsz ?_
    refine w_arg0 ?_
    refine w_kw0 ⟨kpFn aGr (ctx Z8.F).now (by kernel_rfl) (by kernel_rfl), ?_⟩
    refine w_call (gr_call (n := n + 2) (ctx Z8.F) ok C8 X8 sT lR8 sR asc (pm.trans hpm.symm) hlast hRa hRH (by lia) (fun h9 toks9 rys9 X9 sT9 lR9 sR9 k9 => ?_))
    have Z9 := Z8.kept k9 (all_cons hpb (all_cons hRb all_nil)) (nmc hbL.symm (nmc hRL.symm nm0)) (all_cons (.inl im2) (all_cons (.inl im3) all_nil))
    have lw9 := lsKept lw8 k9 (nmc (hap _ a.m_pb).2.1.symm (nmc (fun q => by have := lw.lt; rw [q] at this; exact Nat.not_lt.mpr hRn this) nm0))
    have c29 : h9.IsCell (L + 2) (some (.ref a.x)) := IsCell.kept c28 k9 (nmc (hap _ a.m_pb).2.2.2.symm (nmc (fun q => by have : L + 2 < h.objs.size := let ⟨o, e, _⟩ := c2; Heap.lt_size e; rw [q] at this; exact Nat.not_lt.mpr hRn this) nm0))
    have C9 := C8.keptX k9 (fun i hia hit => by
      cases hit with
      | head => exact im2
      | tail _ hit => cases hit with
        | head => exact absurd hia hRa
        | tail _ q => cases q)
    rw [← foata_succ (lt := wlt) words hx] at sT9
    obtain ⟨fo, hfo, _⟩ := foata_last (lt := wlt) words hx
    have hpm9 := foata_perm (lt := wlt) (words.take (i + 1))
    have htl9 : (words.take (i + 1)).length = i + 1 := by rw [List.length_take]; lia
    have hfl9 : toks9.length = i + 1 := by rw [sT9.length, hpm9.length_eq, htl9]
    have asc9 := insR_asc wlt_lin x asc
    have pm9 : (insR wlt x rs).Perm (words.take (i + 1)) := by
      refine (insR_perm ..).trans ?_
      rw [List.take_add_one, hx]
      exact (List.Perm.cons x pm).trans (List.perm_append_comm (l₁ := [x]))
    generalize insR wlt x rs = rs9 at asc9 pm9 sR9
    refine w_cons ?_
    refine w_asg ?_
    refine w_callN ?_
    refine w_gK (ctx Z9.F).now (v := .ref aTu) (by kernel_rfl) ?_
    refine w_args ?_
    refine w_arg ?_
    refine w_nmC (c := L + 2) rfl c29 ?_
    refine w_arg ?_
    refine w_binOp ?_
    refine w_nm Z9.ns m8p ?_
    refine w_cInt fun _ => ?_
    refine w_addInt fun tp => ?_
    rw [show ((i : Nat) : Int) + 1 = ((i + 1 : Nat) : Int) from rfl]
    refine w_arg0 ?_
    refine w_kw0 ⟨kpFn aTu (ctx Z9.F).now (by kernel_rfl) (by kernel_rfl), ?_⟩
    have ht9 := turn_full toks9
    rw [hfl9] at ht9
    refine w_call (tu_call (n := n + 4) (ctx Z9.F) ok C9 X9 (fun q => by rw [q] at hfl9; cases hfl9) (by lia) (by lia) (fun h10 D X10 k10 lD10 hD => ?_))
    rw [ht9.1] at lD10
    rw [ht9.2] at X10
    have Z10 := Z9.kept k10 (all_cons hpb all_nil) (nmc hbL.symm nm0) (all_cons (.inl im2) all_nil)
    have L9 : L < h9.objs.size := Z9.ns.lt
    have hDL : D ≠ L := Nat.ne_of_gt (Nat.lt_of_lt_of_le L9 hD)
    refine w_stF Z10 (fun h11 Z11 sb11 => ?_) im1
    have X11 := X10.same sb11 hdL hbL hlL
    have lD11 := lD10.same sb11 hDL
    have lw11 := (lsKept lw9 k10 (nmc (hap _ a.m_pb).2.1.symm nm0)).same sb11 hw
    have lR11 := (lsKept lR9 k10 (nmc (fun q => hRa (q ▸ a.m_pb)) nm0)).same sb11 hRL
    generalize hm11 : (fun y => if y = nLineW then some (Value.ref D) else m8 y) = m11 at Z11
    have m11l : m11 nLineW = some (.ref D) := by rw [← hm11]; rfl
    have m11p : m11 nPlace = some (.int (i : Nat) tv) := by rw [← hm11]; exact m8p
    have m11x : m11 nWord = some (.str (S x) tx) := by rw [← hm11]; exact m8x
    have m11w : m11 nWords = some (.ref wl) := by rw [← hm11]; exact m8w
    have m11r : m11 nRow = some (.ref R) := by rw [← hm11]; exact m8r
    have m11f : m11 nFalls = some (.int (falls wlt words i : Nat) t8) := by rw [← hm11]; exact m8f
    have o11 : ∀ z, z ∉ [nFalls, nPlace, nWord, nLineW] → m11 z = m3 z := fun z hz => by
      rw [← hm11]; show (if z = nLineW then _ else m8 z) = _
      rw [if_neg (fun q => hz (by rw [q]; exact .tail _ im3)), o8 _ (fun q => hz (by rw [q]; exact im1))]
      exact o7 z hz
    clear hm11
    have hlx : toks9[i]? = some (.str (S x) tx) ∨ ∃ t, toks9[i]? = some (.str (S x) t) := by
      rw [hfo] at sT9
      obtain ⟨ys0, t', e, s0⟩ := sT9.snoc
      have : ys0.length = i := by have := congrArg List.length e; rw [hfl9] at this; simp at this; lia
      right
      exact ⟨t', by rw [e, ← this]; simp⟩
    obtain ⟨tz, hz9⟩ : ∃ t, toks9[i]? = some (.str (S x) t) := hlx.elim (fun q => ⟨_, q⟩) id
    have hsz9 : toks9.length ≤ sizeLine := by rw [sizeLine_eq]; lia
    -- the checks
    refine w_cons ?_
    refine w_if_ ?_
    refine w_tOr ?_
    refine w_tCmp ?_
    refine w_sub ?_
    refine w_nm Z11.ns m11l ?_
    refine w_neg ?_
    refine w_cInt fun _ => ⟨_, _, rfl, fun _ => ?_⟩
    refine w_itemI (j := i) lD11.isList (.inr (by lia)) (fun _ => by decide) hz9 hsz9 ?_
    refine w_nm Z11.ns m11x ?_
    refine w_neStr ?_
    rw [show (!decide (x = x)) = false by simp]
    refine w_tBool ⟨fun e => (nomatch e), fun _ => ?_⟩
    refine w_tOr ?_
    refine w_tCmp ?_
    refine w_nm Z11.ns m11r ?_
    refine w_callN ?_
    refine w_gB (v := .builtin "sorted") (ctx Z11.F).now (by kernel_rfl) (by kernel_rfl) (by decide) ?_
    refine w_args ?_
    refine w_arg ?_
    refine w_sub ?_
    refine w_nm Z11.ns m11w ?_
    refine w_slice ?_
    refine w_part0 ?_
    refine w_part ?_
    refine w_binOp ?_
    refine w_nm Z11.ns m11p ?_
    refine w_cInt fun _ => ?_
    refine w_addInt fun _ => ?_
    rw [show ((i : Nat) : Int) + 1 = ((i + 1 : Nat) : Int) from rfl]
    refine w_part0 ?_
    refine w_sliceL lw11.isList (lo := none) (hi := some ((i + 1 : Nat) : Int)) (st := none) .none (.int _ _) .none (by decide) (fun rl h12 hrl e12 l12 z12 => ?_) hwsz _ rfl
    rw [slice_to] at l12
    refine w_arg0 ?_
    refine w_kw0 ⟨Kp.builtin _, ?_⟩
    refine w_sortedS l12.isList (sw.take (i + 1)) (by lia) (fun h13 SD vs13 ws13 e13 hSD l13 s13 pm13 asc13 => ?_)
    have Z13 := (Z11.ext e12).ext e13
    have lR13 := (lR11.ext e12).ext e13
    have hrs : rs9 = ws13 := asc_uniq wlt_lin (pm9.trans pm13.symm) asc9 asc13
    subst hrs
    have hokT : ∀ z ∈ rs9, okW z = true := fun z hz => hokw z (List.mem_of_mem_take (pm9.mem_iff.mp hz))
    have hokA : ∀ z ∈ rs9.map At.s, z.ok = true := fun z hz => by
      obtain ⟨u, hu, rfl⟩ := List.mem_map.mp hz
      exact okW_at u (hokT u hu)
    refine w_neList (sR9.LA lR13) (s13.LA l13) (kin_strs _ _) hokA hokA (by lia) ?_
    rw [show (!decide (rs9.map At.s = rs9.map At.s)) = false by simp]
    refine w_tBool ⟨fun e => (nomatch e), fun _ => w_tOr0 ⟨fun e => (nomatch e), fun _ => w_nil ?_⟩⟩
    have X13 := (X11.ext e12).ext e13
    have lD13 := (lD11.ext e12).ext e13
    have TM13 := T5.keptC Z13.K (nmc (Nat.ne_of_lt hML) (nmc (hap _ a.m_pb).2.2.1.symm (nmc hRM.symm nm0))) (all_cons (nc_ns F5.ns) (all_cons (nc_ls X5.pbLs) (all_cons (nc_ls lR5) all_nil)))
    have S13 : b0 ≤ h13.objs.size := KeptB.live hlv (KeptB.of_kept Z13.K (fun b hb => .inl hb)) (fun b hb => hTL b (by
      cases hb with
      | head => exact im1
      | tail _ hb => cases hb with
        | head => exact im2
        | tail _ hb => cases hb with
          | head => exact im3
          | tail _ q => cases q))
    -- _law_moved
    refine w_cons ?_
    refine w_if_ ?_
    refine w_tCmp ?_
    refine w_callN ?_
    refine w_gK (ctx Z13.F).now (v := .ref aMo) (by kernel_rfl) ?_
    refine w_args ?_
    refine w_arg ?_
    refine w_nm Z13.ns m11l ?_
    refine w_arg0 ?_
    refine w_kw0 ⟨kpFn aMo (ctx Z13.F).now (by kernel_rfl) (by kernel_rfl), ?_⟩
    have hlen9 : (foata wlt (words.take (i + 1))).length = i + 1 := by rw [hpm9.length_eq, htl9]
    refine w_call (mo_call (n := n + 1) (ctx Z13.F) ok TM13 (fun c hc => .inr (Nat.le_trans S13 hc)) CM bM HM lD13 sT9 (by lia) (by lia) hub (fun h14 tp14 u1 u2 u3 GV MV k14 T14 ht14 lG14 lM14 => ?_))
    rw [foata_falls wlt_lin words i hi, hlen9] at ht14
    rw [hlen9] at lG14
    have F14 := frKept Z13.F k14 (all_cons BM all_nil) (nmc (Nat.ne_of_gt hML) nm0)
    refine w_tuple ?_
    refine w_arg ?_
    refine w_nm F14.ns m11f ?_
    refine w_arg ?_
    refine w_nm F14.ns m11f ?_
    refine w_arg ?_
    refine w_binOp ?_
    refine w_list ?_
    refine w_arg (w_cNone ?_)
    refine w_arg0 ⟨by decide +kernel, fun h15 NL hNL e15 l15 z15 => ?_⟩
    have F15 := F14.kept e15
    refine w_binOp ?_
    refine w_binOp ?_
    refine w_cInt fun _ => ?_
    refine w_nm F15.ns m11p ?_
    refine w_mulInt (by decide +kernel) fun _ => ?_
    refine w_cInt fun _ => ?_
    refine w_addInt fun _ => ?_
    refine w_mulList l15 (n := 2 * (i + 1)) (by lia) (by simp) (by simp; lia) (by lia) (fun h16 e16 z16 l16 => ?_)
    have F16 := F15.kept e16
    refine w_arg ?_
    refine w_binOp ?_
    refine w_binOp ?_
    refine w_cInt fun _ => ?_
    refine w_nm F16.ns m11p ?_
    refine w_mulInt (by decide +kernel) fun _ => ?_
    refine w_cInt fun _ => ?_
    refine w_addInt fun _ => ?_
    rw [show (6 : Int) * ((i : Nat) : Int) + 6 = ((6 * (i + 1) : Nat) : Int) by lia]
    refine w_arg ?_
    refine w_list ?_
    refine w_arg0 ⟨Nat.zero_le _, fun h17 ML hML17 e17 l17 z17 => ?_⟩
    refine w_arg0 ⟨by simp [sizeLine_eq], fun h18 tp18 htp e18 ht18 z18 => ?_⟩
    have e1418 : Ext h14 h18 := ((e15.trans e16).trans e17).trans e18
    have hrep : (List.replicate (2 * (i + 1)) [Value.none]).flatten = List.replicate (2 * (i + 1)) Value.none := by simp
    rw [hrep] at l16
    refine w_neMoved (e1418 _ _ ht14) (lG14.ext e1418) (lM14.ext e1418) ht18 ((l16.ext e17).ext e18) (l17.ext e18) (by lia) ?_
    refine w_tBool ⟨fun e => (nomatch e), fun _ => w_nil ?_⟩
    refine w_nil ?_
    have kT : Kept [L, a.pb, R, tabM] h5 h18 := (Z13.K.mono (all_cons im1 (all_cons im2 (all_cons im3 all_nil)))).trans ((k14.mono (all_cons (.tail _ im3) all_nil)).trans (Kept.of_ext e1418))
    refine hQd _ _ ⟨rfl, KeptB.of_kept kT (fun b hb => .inl hb), ?_⟩
    exact ⟨m11, toks9, rys9, rs9, t8, F14.kept e1418, o11, m11f, (X13.keptBut k14 (fun i hi => nmc (hap i hi).2.2.1 nm0)).ext e1418, sT9, (lsKept lR13 k14 (nmc hRM nm0)).ext e1418, sR9, asc9, pm9, T14.ext e1418⟩
  · obtain ⟨m5, toks, rys, rs, t5, F5, o5, f5, X5, sT, lR5, sR, asc, pm, T5⟩ := hJ
    rw [List.take_length] at sT pm
    refine w_nil ?_
    have K5 : Kept [L, a.pb, tabM] h h5 := fun b o nb e => k5 b o (fun m => by
      cases m with
      | head => exact nb im1
      | tail _ m => cases m with
        | head => exact nb im2
        | tail _ m => cases m with
          | head => exact Nat.not_lt.mpr hRn (Heap.lt_size e)
          | tail _ m => cases m with
            | head => exact nb im3
            | tail _ q => cases q) (k04 b o (fun m => nb (by rw [List.mem_singleton.mp m]; exact im1)) e)
    refine k h5 m5 R toks rys rs F5 K5 X5 sT lR5 sR asc pm hRn ((o5 _ (by decide)).trans m3r) (fun z hz => ?_) (let ⟨ps, e, _⟩ := T5; ⟨ps, e⟩)
    rw [o5 z (fun q => hz (.tail _ q))]
    exact o3 z hz
end
end Mine
end
section
open PySem PySem.W PyProof.Rows PySem.Calls
set_option Elab.async false
set_option maxRecDepth 100000
set_option linter.unusedVariables false
set_option linter.unusedSimpArgs false
namespace Mine
section
variable {prog : Program} {w : World} {A : Around} {h base H : Heap} {mg mb : Str → Option Value} {L : Addr}
theorem nm_c {h : Heap} {c : Addr} {v : Option Value} {i : Addr} (hc : h.IsCell c v) (hi : h.objs.size ≤ i) : i ≠ c := fun q => by
  obtain ⟨o, e, _⟩ := hc
  exact Nat.not_lt.mpr hi (q ▸ Heap.lt_size e)
set_option maxHeartbeats 8000000 in
theorem nd1 {n : Nat} {wl R : Addr} {wys toks rys : List Value} {rs words : List W} {text : List Nat} {a : LexA} {Q : Flow → Heap → Prop} {m : Str → Option Value} (GB : Gd w mg mb H base) (ok : OkA (n + 5) A) (F : Fr base L h m)
    (C0 : CodeHd H 98 tabS) (hb : H.BuiltinsAt mg tabS) (hP : H.get? tabS = none) (T : TabP H h tabS (placesS w)) (hPb : base.get? tabS = none) (hPL : tabS < L)
    (C : LexC w H h a text) (X : LexM h a text text.length toks) (sT : Strs toks (foata wlt words)) (lR : Ls h R rys) (sR : Strs rys rs) (asc : Asc wlt rs) (pm : rs.Perm words)
    (c2 : h.IsCell (L + 2) (some (.ref a.x))) (c3 : h.IsCell (L + 3) none) (hcb : base.get? (L + 3) = none)
    (lw : Ls h wl wys) (sw : Strs wys words) (mw : m nWords = some (.ref wl)) (mr : m nRow = some (.ref R)) (hn1 : 1 ≤ words.length) (hn : words.length ≤ 20) (h9 : ∀ x ∈ words, ∀ c ∈ x, 9 < c) (hxl : ∀ x ∈ words, x.length ≤ 1000)
    (hap : ∀ i ∈ a.all, i ≠ L ∧ i ≠ wl ∧ i ≠ tabS ∧ i ≠ L + 2 ∧ i ≠ L + 3) (hRa : R ∉ a.all) (hRn : R ≠ L ∧ R ≠ wl ∧ R ≠ tabS ∧ R ≠ L + 2 ∧ R ≠ L + 3) (hwn : wl ≠ L ∧ wl ≠ tabS ∧ wl ≠ L + 3) (hpb : base.get? a.pb = none) (hRb : base.get? R = none) (hRH : H.get? R = none)
    (k : ∀ h' m' b otoks, Fr base L h' m' → Kept [L, L + 3, tabS, a.pb, R] h h' → LexC w H h' a text → LexM h' a text text.length [] → LexC w H h' b [] → LexM h' b [] 0 otoks → Strs otoks words.reverse →
      h'.IsCell (L + 2) (some (.ref a.x)) → h'.IsCell (L + 3) (some (.ref b.x)) → Ls h' wl wys → TabP H h' tabS (placesS w) → (∀ z, z ≠ Str.ofString "_" → m' z = m z) → (∀ i ∈ b.all, i ∉ [L, L + 2, L + 3, wl, a.pb]) → (∀ i ∈ [b.d, b.pb, b.pl], i ∉ a.all ∧ h.objs.size ≤ i) → Wp (model prog w) A (execs ((lawB w).drop 11) (lawE w L)) Q h') :
    Wp (model prog w) A (execs ((lawB w).drop 9) (lawE w L)) Q h := by
  have ctx : ∀ {h' m'}, Fr base L h' m' → Gd w mg mb H h' := fun F' => GB.ext F'.keep
  have hPlt : tabS < h.objs.size := Nat.lt_trans hPL F.ns.lt
  have hSH : ∀ i ∈ [tabS], H.get? i = none := all_cons hP all_nil
  have L0 : L < h.objs.size := F.ns.lt
  have hwl := sw.length
  have hub : A.units + 100 < cLine := by have := ok.units; lia
  have z2 : L + 2 < h.objs.size := let ⟨o, e, _⟩ := c2; Heap.lt_size e
  have z3 : L + 3 < h.objs.size := let ⟨o, e, _⟩ := c3; Heap.lt_size e
  have hP2 : tabS ≠ L + 2 := Nat.ne_of_lt (Nat.lt_of_lt_of_le hPL (Nat.le_add_right L 2))
  have hP3 : tabS ≠ L + 3 := Nat.ne_of_lt (Nat.lt_of_lt_of_le hPL (Nat.le_add_right L 3))
  have hbL := (hap _ a.m_pb).1
  have hdL := (hap _ a.m_d).1
  have hlL := (hap _ a.m_pl).1
  refine w_cons ?_
  refine w_asg ?_
  refine w_newLexer (n := n + 2) (text := []) rfl ok (Nat.zero_le _) C0 hb hP (fun h' kk => (ctx F).kept kk hSH) T ?_
  refine w_cS [] (by kernel_rfl) fun t0 => ⟨t0, rfl, Ext.refl _, fun h1 b Cb1 Xb1 hfr k1 T1 => ?_⟩
  have hap1 : ∀ i ∈ a.all, i ∉ [tabS] := fun i hi => nmc (hap i hi).2.2.1 nm0
  have C1 := C.keptBut k1 hap1
  have X1 := X.keptBut k1 hap1
  have lw1 := lsKept lw k1 (nmc hwn.2.1 nm0)
  have lR1 := lsKept lR k1 (nmc hRn.2.2.1 nm0)
  have c21 := IsCell.kept c2 k1 (nmc hP2.symm nm0)
  have c31 := IsCell.kept c3 k1 (nmc hP3.symm nm0)
  have Y0 : Fs base h [L, L + 3, tabS, a.pb, R] L h m := Fs.mk0 F _
  have Y1 := Y0.kept k1 (all_cons hPb all_nil) (nmc (Nat.ne_of_gt hPL) nm0) (all_cons (.inl im3) all_nil)
  have hbp : ∀ i ∈ b.all, i ∉ [L, L + 2, L + 3, wl, a.pb, R] := lex_apart Cb1 hfr (all_cons ⟨L0, ns_data Y1.ns⟩ (all_cons ⟨z2, cell_data c21⟩ (all_cons ⟨z3, cell_data c31⟩ (all_cons ⟨lw.lt, ?_⟩ (all_cons ⟨X.lt.2.1, ?_⟩ (all_cons ⟨lR.lt, ?_⟩ all_nil))))))
  rotate_left
  · obtain ⟨nn, e⟩ := lw1; exact ⟨_, e, fun vs q => by cases q⟩
  · obtain ⟨nn, e⟩ := X1.pbLs; exact ⟨_, e, fun vs q => by cases q⟩
  · obtain ⟨nn, e⟩ := lR1; exact ⟨_, e, fun vs q => by cases q⟩
  have hmutb : ∀ i ∈ [b.d, b.pb, b.pl], i ∉ a.all ∧ h.objs.size ≤ i := by
    have hge : ∀ i ∈ b.all, i ≠ b.c → h.objs.size ≤ i := fun i hi q => (hfr i hi).resolve_left q
    have fin : ∀ i, h.objs.size ≤ i → i ∉ a.all ∧ h.objs.size ≤ i := fun i hi => ⟨fun q => Nat.not_lt.mpr hi (lex_lt C X i q), hi⟩
    exact all_cons (fin _ (hge _ b.m_d (nd_at Cb1.nd (i := 1) (j := 6) rfl rfl (by decide)))) (all_cons (fin _ (hge _ b.m_pb (nd_at Cb1.nd (i := 2) (j := 6) rfl rfl (by decide)))) (all_cons (fin _ (hge _ b.m_pl (nd_at Cb1.nd (i := 6) (j := 9) rfl rfl (by decide)).symm)) all_nil))
  have hbpb := hmutb b.pb im2
  refine w_storeC (c := L + 3) rfl c31 (fun h2 c32 sb2 => ?_)
  have k12 : Kept [L + 3] h1 h2 := Kept.of_same sb2 im1
  have Y2 := Y1.kept k12 (all_cons hcb all_nil) (nmc (adne (by decide)).symm nm0) (all_cons (.inl im2) all_nil)
  have hap3 : ∀ i ∈ a.all, i ∉ [L + 3] := fun i hi => nmc (hap i hi).2.2.2.2 nm0
  have C2 := C1.keptBut k12 hap3
  have X2 := X1.keptBut k12 hap3
  have lw2 := lsKept lw1 k12 (nmc hwn.2.2 nm0)
  have lR2 := lsKept lR1 k12 (nmc hRn.2.2.2.2 nm0)
  have c22 := IsCell.kept c21 k12 (nmc (adnn (by decide)) nm0)
  have hb3 : ∀ i ∈ b.all, i ∉ [L + 3] := fun i hi => nmc (fun q => hbp i hi (q ▸ im3)) nm0
  have Cb2 := Cb1.keptBut k12 hb3
  have Xb2 := Xb1.keptBut k12 hb3
  have T2 := T1.keptC k12 (nmc hP3 nm0) (all_cons (nc_cell c31) all_nil)
  refine w_cons ?_
  refine w_for ?_
  refine w_nm Y2.ns mw ?_
  obtain ⟨lda, lba, lla⟩ := X2.lt
  obtain ⟨ldb, lbb, llb⟩ := Xb2.lt
  have L2 : L < h2.objs.size := Y2.ns.lt
  have hbL' : ∀ i ∈ b.all, i ≠ L := fun i hi q => hbp i hi (q ▸ im1)
  have hbwl : ∀ i ∈ b.all, i ≠ wl := fun i hi q => hbp i hi (q ▸ .tail _ im3)
  have hbpba : ∀ i ∈ b.all, i ≠ a.pb := fun i hi q => hbp i hi (q ▸ .tail _ (.tail _ im3))
  have hbR : ∀ i ∈ b.all, i ≠ R := fun i hi q => hbp i hi (q ▸ .tail _ (.tail _ (.tail _ im3)))
  have hbc2 : ∀ i ∈ b.all, i ≠ L + 2 := fun i hi q => hbp i hi (q ▸ im2)
  have hbc3 : ∀ i ∈ b.all, i ≠ L + 3 := fun i hi q => hbp i hi (q ▸ im3)
  have hbpbb : base.get? b.pb = none := get_none (Nat.le_trans F.above (Nat.le_trans (Nat.le_of_lt L0) hbpb.2))
  have hTl : ∀ x ∈ [L, a.pb, R, b.pb], x < h2.objs.size := all_cons L2 (all_cons lba (all_cons lR2.lt (all_cons lbb all_nil)))
  have hTw : wl ∉ [L, a.pb, R, b.pb] := nmc hwn.1 (nmc (hap _ a.m_pb).2.1.symm (nmc hRn.2.1.symm (nmc (hbwl _ b.m_pb).symm nm0)))
  have hTc2 : L + 2 ∉ [L, a.pb, R, b.pb] := nmc (adne (by decide)) (nmc (hap _ a.m_pb).2.2.2.1.symm (nmc hRn.2.2.2.1.symm (nmc (hbc2 _ b.m_pb).symm nm0)))
  have hTc3 : L + 3 ∉ [L, a.pb, R, b.pb] := nmc (adne (by decide)) (nmc (hap _ a.m_pb).2.2.2.2.symm (nmc hRn.2.2.2.2.symm (nmc (hbc3 _ b.m_pb).symm nm0)))
  have mem4 : ∀ {P : Addr → Prop}, P L → P a.pb → P R → P b.pb → ∀ i ∈ [L, a.pb, R, b.pb], P i := fun p1 p2 p3 p4 => all_cons p1 (all_cons p2 (all_cons p3 (all_cons p4 all_nil)))
  have hTa : ∀ i ∈ a.all, i ∈ [L, a.pb, R, b.pb] → i ∈ a.mut := fun i hia hit => mem4 (P := fun i => i ∈ a.all → i ∈ a.mut) (fun q => absurd rfl (hap _ q).1) (fun _ => im2) (fun q => absurd q hRa) (fun q => absurd q hbpb.1) i hit hia
  have hTb : ∀ i ∈ b.all, i ∈ [L, a.pb, R, b.pb] → i ∈ b.mut := fun i hia hit => mem4 (P := fun i => i ∈ b.all → i ∈ b.mut) (fun q => absurd rfl (hbL' _ q)) (fun q => absurd rfl (hbpba _ q)) (fun q => absurd rfl (hbR _ q)) (fun _ => im2) i hit hia
  have hsz : words.length ≤ sizeLine := by rw [sizeLine_eq]; lia
  refine w_forB (iterList (.inl rfl) ok.3 lw2.isList) [L, a.pb, R, b.pb] (fun x hx => ⟨hTl x hx, nmc (fun q => hTw (q ▸ hx)) nm0⟩) (all_cons lw2.lt all_nil)
    (fun b0 i h' => ∃ m' toks rys rs otoks, Fr base L h' m' ∧ (∀ z, z ≠ Str.ofString "_" → m' z = m z) ∧ LexM h' a text text.length toks ∧ Strs toks (foata wlt (words.take (words.length - i))) ∧
      Ls h' R rys ∧ Strs rys rs ∧ Asc wlt rs ∧ rs.Perm (words.take (words.length - i)) ∧ LexM h' b [] 0 otoks ∧ Strs otoks (words.reverse.take i))
    (fun b0 i h1 h2 ⟨m', toks, rys, rs, otoks, F', o', X', sT, lR, sR, asc, pm, Xb, so⟩ off => ⟨m', toks, rys, rs, otoks, frOff F' off L2, o', X'.off off lda lba lla, sT, lR.off off (.inl lR2.lt), sR, asc, pm, Xb.off off ldb lbb llb, so⟩)
    (fun b0 => ⟨m, toks, rys, rs, [], Y2.F, fun _ _ => rfl, X2, by rw [Nat.sub_zero, List.take_length]; exact sT, lR2, sR, asc, by rw [Nat.sub_zero, List.take_length]; exact pm, Xb2, trivial⟩)
    (fun b0 i v h3 hi hlv hv hJ k3 => w_hide fun Qd hQd => ?_) (fun b0 h3 hb0 hJ k3 => ?_)
  · obtain ⟨m3, toks3, rys3, rs3, otoks, F3, o3, X3, sT3, lR3, sR3, asc3, pm3, Xb3, so3⟩ := hJ
    rw [hwl] at hi
    obtain ⟨j, hj⟩ : ∃ j, words.length - i = j + 1 := ⟨words.length - i - 1, by lia⟩
    have hj' : words.length - (i + 1) = j := by lia
    have hjl : j < words.length := by lia
    rw [hj] at sT3 pm3
    have hx := List.getElem?_eq_getElem hjl
    generalize words[j] = x at hx
    have hxm : x ∈ words := List.mem_of_getElem? hx
    obtain ⟨o, ho1, ho2⟩ := foata_last (lt := wlt) words hx
    have hpm := foata_perm (lt := wlt) (words.take (j + 1))
    have hlen := hpm.length_eq
    rw [List.length_take] at hlen
    rw [ho1] at sT3 hpm hlen
    have hol : o.length ≤ 19 := by rw [List.length_append] at hlen; simp at hlen; lia
    have Z3 : Fs base h3 [L, a.pb, R, b.pb] L h3 m3 := Fs.mk0 F3 _
    refine w_asgName ?_
    refine w_stF Z3 (fun h4 Z4 sb4 => ?_) im1
    have k34 : Kept [L] h3 h4 := Kept.of_same sb4 im1
    have na : ∀ i ∈ a.all, i ∉ [L] := fun i hi => nmc (hap i hi).1 nm0
    have nb : ∀ i ∈ b.all, i ∉ [L] := fun i hi => nmc (hbL' i hi) nm0
    have C4 := (C2.keptX k3 hTa).keptBut k34 na
    have Cb4 := (Cb2.keptX k3 hTb).keptBut k34 nb
    have X4 := X3.keptBut k34 na
    have Xb4 := Xb3.keptBut k34 nb
    have lR4 := lsKept lR3 k34 (nmc hRn.1 nm0)
    have c24 := IsCell.kept (IsCell.kept c22 k3 hTc2) k34 (nmc (adne (by decide)) nm0)
    have c34 := IsCell.kept (IsCell.kept c32 k3 hTc3) k34 (nmc (adne (by decide)) nm0)
    have m4r : (if nRow = Str.ofString "_" then some v else m3 nRow) = some (Value.ref R) := (if_neg (by decide)).trans ((o3 _ (by decide)).trans mr)
    refine w_cons ?_
    refine w_exprV ?_
    refine w_pushTok (n := n + 4) (a := b) rfl (ctx Z4.F) Cb4 Xb4 ok (fun Q' q => w_nmC (c := L + 3) rfl c34 q) ?_
    refine w_callN ?_
    refine w_gK (ctx Z4.F).now (v := .ref aLi) (by kernel_rfl) ?_
    refine w_args ?_
    refine w_arg ?_
    refine w_nmC (c := L + 2) rfl c24 ?_
    refine w_arg ?_
    refine w_nm Z4.ns m4r ?_
    refine w_arg0 ?_
    refine w_kw0 ⟨kpFn aLi (ctx Z4.F).now (by kernel_rfl) (by kernel_rfl), ?_⟩
    refine w_call (li_call (n := n + 1) (ctx Z4.F) ok C4 X4 sT3 lR4 sR3 asc3 (pm3.trans hpm.symm) (fun y hy => h9 y (List.mem_of_mem_take (hpm.mem_iff.mp hy))) (hxl x hxm) hRa hRH hol (fun h5 t5 toks5 rys5 X5 sT5 lR5 sR5 k5 => ?_))
    have Z5 := Z4.kept k5 (all_cons hpb (all_cons hRb all_nil)) (nmc hbL.symm (nmc hRn.1.symm nm0)) (all_cons (.inl im2) (all_cons (.inl im3) all_nil))
    have nb5 : ∀ i ∈ b.all, i ∉ [a.pb, R] := fun i hi => nmc (hbpba i hi) (nmc (hbR i hi) nm0)
    have Cb5 := Cb4.keptBut k5 nb5
    have Xb5 := Xb4.keptBut k5 nb5
    have hol2 := so3.length
    rw [List.length_take, List.length_reverse] at hol2
    refine ⟨0, otoks, ctx Z5.F, Cb5, Xb5, by lia, fun h6 Xb6 k6 => ?_⟩
    have Z6 := Z5.kept k6 (all_cons hbpbb all_nil) (nmc (hbL' _ b.m_pb).symm nm0) (all_cons (.inl (.tail _ im3)) all_nil)
    refine w_nil ?_
    refine hQd _ _ ⟨rfl, KeptB.of_kept Z6.K (fun b hb => .inl hb), ?_⟩
    have hxr : x ∈ rs3 := (pm3.trans hpm.symm).mem_iff.mpr (by simp)
    rw [ho2] at sT5
    refine ⟨_, toks5, rys5, _, _, Z6.F, fun z hz => (if_neg hz).trans (o3 z hz), X5.keptBut k6 (fun i hi => nmc (fun q => hbpb.1 (q ▸ hi)) nm0), by rw [hj']; exact sT5, lsKept lR5 k6 (nmc (hbR _ b.m_pb).symm nm0), sR5, popL_asc asc3, ?_, Xb6, ?_⟩
    · rw [hj']
      refine (List.perm_cons x).mp ((popL_perm wlt_lin asc3 hxr).trans (pm3.trans ?_))
      rw [List.take_add_one, hx]
      exact List.perm_append_comm (l₂ := [x])
    · have : words.reverse[i]? = some x := by
        rw [List.getElem?_reverse (by lia), show words.length - 1 - i = j by lia, hx]
      rw [List.take_add_one, this]
      exact so3.append ⟨⟨_, rfl⟩, trivial⟩
  · obtain ⟨m3, toks3, rys3, rs3, otoks, F3, o3, X3, sT3, lR3, sR3, asc3, pm3, Xb3, so3⟩ := hJ
    rw [hwl, Nat.sub_self, List.take_zero] at sT3
    rw [hwl] at so3
    rw [List.take_of_length_le (by rw [List.length_reverse]; exact Nat.le_refl _)] at so3
    have ht : toks3 = [] := by
      have := sT3.length
      exact List.length_eq_zero_iff.mp this
    subst ht
    refine w_nil ?_
    have C3 := C2.keptX k3 hTa
    have Cb3 := Cb2.keptX k3 hTb
    refine k h3 m3 b otoks F3 ?_ C3 X3 Cb3 Xb3 so3 (IsCell.kept c22 k3 hTc2) (IsCell.kept c32 k3 hTc3) (lsKept lw2 k3 hTw) ?_ o3 ?_ hmutb
    · intro i oo ni e
      refine k3 i oo (fun q => ?_) (Y2.K i oo ni e)
      exact mem4 (P := fun j => j ∉ [L, L + 3, tabS, a.pb, R] → j < h.objs.size → False) (fun q _ => q im1) (fun q _ => q (.tail _ im3)) (fun q _ => q (.tail _ (.tail _ im3))) (fun _ q => Nat.not_lt.mpr hbpb.2 q) i q ni (Heap.lt_size e)
    · refine T2.keptC k3 (nmc (Nat.ne_of_lt hPL) (nmc (hap _ a.m_pb).2.2.1.symm (nmc hRn.2.2.1.symm (nmc (fun q => Nat.not_lt.mpr hbpb.2 (q ▸ hPlt)) nm0)))) (mem4 (nc_ns Y2.ns) (nc_ls X2.pbLs) (nc_ls lR2) (nc_ls Xb2.pbLs))
    · intro i hi
      exact nmc (hbL' i hi) (nmc (hbc2 i hi) (nmc (hbc3 i hi) (nmc (hbwl i hi) (nmc (hbpba i hi) nm0))))
end
end Mine
end
section
open PySem PySem.W PyProof.Rows PySem.Calls
set_option Elab.async false
set_option maxRecDepth 100000
set_option linter.unusedVariables false
set_option linter.unusedSimpArgs false
namespace Mine
section
variable {prog : Program} {w : World} {A : Around} {h base H : Heap} {mg mb : Str → Option Value} {L : Addr}
theorem Strs.reverse : ∀ {ys : List Value} {ts : List W}, Strs ys ts → Strs ys.reverse ts.reverse
  | [], [], _ => trivial
  | [], _ :: _, h => h.elim
  | _ :: _, [], h => h.elim
  | y :: ys, t :: ts, h => by
    rw [List.reverse_cons, List.reverse_cons]
    exact (Strs.reverse h.2).append ⟨h.1, trivial⟩
set_option maxHeartbeats 8000000 in
theorem ne1 {n : Nat} {wl : Addr} {wys otoks : List Value} {words : List W} {text : List Nat} {tt : Tok} {a b : LexA} {Q : Flow → Heap → Prop} {m : Str → Option Value} (GB : Gd w mg mb H base) (ok : OkA (n + 5) A) (F : Fr base L h m)
    (C : LexC w H h a text) (X : LexM h a text text.length []) (Cb : LexC w H h b []) (Xb : LexM h b [] 0 otoks) (so : Strs otoks words.reverse)
    (c2 : h.IsCell (L + 2) (some (.ref a.x))) (c3 : h.IsCell (L + 3) (some (.ref b.x))) (lw : Ls h wl wys) (sw : Strs wys words) (mw : m nWords = some (.ref wl)) (mt : m nText = some (.str (S text) tt)) (hn1 : 1 ≤ words.length) (hn : words.length ≤ 20) (hokw : ∀ x ∈ words, okW x = true)
    (hap : ∀ i ∈ a.all, i ≠ L ∧ i ≠ wl ∧ i ≠ L + 2 ∧ i ≠ L + 3) (hbp : ∀ i ∈ b.all, i ∉ [L, L + 2, L + 3, wl, a.pb]) (hba : b.pb ∉ a.all) (hbH : base.get? b.pb = none) (had : base.get? a.d = none) (hal : base.get? a.pl = none)
    (k : ∀ h', Ext base h' → Kept [b.pb, a.d, a.pl] h h' → Q (.ret (.bool true)) h') :
    Wp (model prog w) A (execs ((lawB w).drop 11) (lawE w L)) Q h := by
  have ctx : ∀ {h' m'}, Fr base L h' m' → Gd w mg mb H h' := fun F' => GB.ext F'.keep
  have hwl := sw.length
  have hol := so.length
  rw [List.length_reverse] at hol
  obtain ⟨ldb, lbb, llb⟩ := Xb.lt
  have lta := lex_lt C X
  have ltb := lex_lt Cb Xb
  have hbL := (fun q => hbp _ b.m_pb (q ▸ im1) : b.pb ≠ L)
  have hb3 : b.pb ≠ L + 3 := fun q => hbp _ b.m_pb (q ▸ im3)
  have hb2 : b.pb ≠ L + 2 := fun q => hbp _ b.m_pb (q ▸ im2)
  have hbw : b.pb ≠ wl := fun q => hbp _ b.m_pb (q ▸ .tail _ im3)
  have hub : A.units + 64 < cLine := by have := ok.units; lia
  have hc3l : L + 3 < h.objs.size := let ⟨o, e, _⟩ := c3; Heap.lt_size e
  have hbHH : H.get? b.pb = none := Cb.fr _ b.m_pb
  refine w_cons ?_
  refine w_if_ ?_
  refine w_tOr ?_
  refine w_tCmp ?_
  refine w_lcI (cl := [(nOther, L + 3)]) (Nat.zero_le _) rfl rfl rfl rfl ?_
  refine w_nm F.ns mw ?_
  refine ⟨wys.length, _, [wl], iterList (.inl rfl) ok.3 lw.isList, by rw [sizeLine_eq]; lia, all_cons lw.lt all_nil, [b.pb],
    (fun b0 i ys h' => LexM h' b [] 0 (otoks.drop i) ∧ ys = otoks.take i), all_cons ⟨lbb, nmc hbw nm0⟩ all_nil, ⟨fun b0 i ys h1 h2 hJ off => ⟨hJ.1.off off ldb lbb llb, hJ.2⟩, fun b0 => ⟨Xb, rfl⟩, fun b0 C' i v ys h' mm hi hC hbb hv hJ kk hy ns => t_hide fun Qd hQd => ?_⟩, fun b0 ys D h5 hD hb5 l5 hy hJ k5 => ?_⟩
  · obtain ⟨Xp, rfl⟩ := hJ
    have hCH : H.get? C' = none := gd_none (ctx F) hC
    have G' := (ctx F).kept kk (all_cons hbHH all_nil)
    have Cb' := Cb.kept (kk.mono (b.s_pb))
    refine w_asgName ?_
    refine w_store (env := compEnvC _ [(nOther, L + 3)] C' (lawE w L)) (m := mm) ns (fun h2' n2 sb2' => ?_) rfl rfl
    have kC : Kept [C'] h' h2' := Kept.of_same sb2' im1
    have hnC : ∀ i ∈ b.all, i ∉ [C'] := fun i hi => nmc (fun q => Nat.not_lt.mpr hC (q ▸ ltb i hi)) nm0
    have G2' := G'.kept kC (all_cons hCH all_nil)
    have Cb2 := Cb'.keptBut kC hnC
    have Xb2 := Xp.keptBut kC hnC
    have c3' : h2'.IsCell (L + 3) (some (.ref b.x)) := IsCell.kept (IsCell.kept c3 kk (nmc (fun q => hb3 q.symm) nm0)) kC (nmc (fun q => Nat.not_lt.mpr hC (q ▸ hc3l)) nm0)
    have hio : i < otoks.length := by lia
    rw [List.drop_eq_getElem_cons hio] at Xb2
    show Wp _ _ _ _ _
    refine w_popTok (n := n + 4) G2' Cb2 Xb2 ok (by rw [List.length_drop]; lia) (fun Q' q => w_nmC (c := L + 3) rfl c3' q) (fun h3' X3' k3' => hQd _ _ ⟨?_, ?_, ?_⟩)
    · exact (kC.mono (sb1 im1)).trans (k3'.mono (sb1 im2))
    · exact ⟨_, n2.at' fun o e => k3' _ _ (nmc (fun q => hnC _ b.m_pb (q ▸ im1)) nm0) e⟩
    · exact ⟨X3', by rw [List.take_succ_eq_append_getElem hio]⟩
  obtain ⟨Xb5, rfl⟩ := hJ
  rw [hwl, ← hol, List.take_length] at l5
  have F5 := frKept F k5 (all_cons hbH all_nil) (nmc (fun q => hbL q.symm) nm0)
  have na5 : ∀ i ∈ a.all, i ∉ [b.pb] := fun i hi => nmc (fun q => hba (q ▸ hi)) nm0
  have C5 := C.keptBut k5 na5
  have X5 := X.keptBut k5 na5
  have lw5 := lsKept lw k5 (nmc (fun q => hbw q.symm) nm0)
  have c25 := IsCell.kept c2 k5 (nmc (fun q => hb2 q.symm) nm0)
  refine w_sub ?_
  refine w_nm F5.ns mw ?_
  refine w_slice ?_
  refine w_part0 ?_
  refine w_part0 ?_
  refine w_part ?_
  refine w_neg ?_
  refine w_cInt fun _ => ⟨_, _, rfl, fun _ => ?_⟩
  refine w_sliceL lw5.isList (lo := none) (hi := none) (st := some (-1)) .none .none (.int _ _) (by decide) (fun rl h6 hrl e6 l6 z6 => ?_) (by rw [sizeLine_eq]; lia) _ rfl
  rw [slice_rev] at l6
  have F6 := F5.kept e6
  have C6 := C5.kept (Kept.of_ext e6)
  have X6 := X5.ext e6
  have c26 := c25.keeps e6
  have sr : Strs wys.reverse words.reverse := sw.reverse
  have hokA : ∀ z ∈ words.reverse.map At.s, z.ok = true := fun z hz => by
    obtain ⟨u, hu, rfl⟩ := List.mem_map.mp hz
    exact okW_at u (hokw u (List.mem_reverse.mp hu))
  refine w_neList (so.LA (l5.ext e6)) (sr.LA l6) (kin_strs _ _) hokA hokA hub ?_
  rw [show (!decide (words.reverse.map At.s = words.reverse.map At.s)) = false by simp]
  refine w_tBool ⟨fun e => (nomatch e), fun _ => ?_⟩
  refine w_tOr ?_
  refine w_tCmp ?_
  obtain ⟨t61, t62, d6⟩ := X6.d
  refine w_attr ?_
  refine w_nmC (c := L + 2) rfl c26 ?_
  refine w_getOwn (ctx F6).now.K C6.ix d6 (pgC w _) (hdC w) (fiPb w) rfl rfl ?_
  refine w_list ?_
  refine w_arg0 ⟨Nat.zero_le _, fun h7 NL hNL e7 l7 z7 => ?_⟩
  have F7 := F6.kept e7
  have C7 := C6.kept (Kept.of_ext e7)
  have X7 := X6.ext e7
  have c27 := c26.keeps e7
  refine w_neList (as := []) (bs := []) ⟨[], X7.pbLs, trivial⟩ ⟨[], l7, trivial⟩ rfl (fun _ q => (nomatch q)) (fun _ q => (nomatch q)) hub ?_
  rw [show (!decide (([] : List At) = [])) = false by simp]
  refine w_tBool ⟨fun e => (nomatch e), fun _ => w_tOr0 ⟨fun e => (nomatch e), fun _ => w_nil ?_⟩⟩
  refine w_cons ?_
  refine w_ret ?_
  refine w_and2 ?_
  refine w_cmp ?_
  refine w_getTok (n := n + 1) (ctx F7) ok C7 X7 (fun Q' q => w_nmC (c := L + 2) rfl c27 q) (fun h8 t8 p8 X8 hp8 k8 => ?_)
  have F8 := frKept F7 k8 (all_cons had (all_cons hal all_nil)) (nmc (fun q => (hap _ a.m_d).1 q.symm) (nmc (fun q => (hap _ a.m_pl).1 q.symm) nm0))
  have c28 := IsCell.kept c27 k8 (nmc (fun q => (hap _ a.m_d).2.2.1 q.symm) (nmc (fun q => (hap _ a.m_pl).2.2.1 q.symm) nm0))
  have C8 := C7.kept (k8.mono a.s_dl)
  have e0 : text.drop text.length = [] := by simp
  have e1 : (lexT (text.drop text.length)).1 = [] := by rw [e0]; rfl
  have e2 : (lexT (text.drop text.length)).2 = [] := by rw [e0]; rfl
  rw [e2] at hp8
  have hpl : p8 = text.length := by
    have h2 := X8.le
    have h3 := congrArg List.length hp8
    simp at h3; lia
  rw [e1]
  refine w_cS [] (by kernel_rfl) fun _ => ?_
  refine w_eqStr ?_
  rw [decide_eq_true rfl]
  refine ⟨rfl, ?_⟩
  refine w_cmp ?_
  obtain ⟨t81, t82, d8⟩ := X8.d
  refine w_attr ?_
  refine w_nmC (c := L + 2) rfl c28 ?_
  refine w_getOwn (ctx F8).now.K C8.ix d8 (pgC w _) (hdC w) (fiLine w) rfl rfl ?_
  refine w_binOp ?_
  refine w_cInt fun _ => ?_
  refine w_meth PySem.F.plainAttrs_str PySem.F.slot_str_count PySem.F.type_str_count ?_
  refine w_nm F8.ns mt ⟨fun s hs => typeIs_str _ _ _, fun a e => (by cases e), ?_⟩
  refine w_args ?_
  refine w_arg ?_
  refine w_cS [10] (by kernel_rfl) fun _ => ?_
  refine w_arg0 ?_
  refine w_kw0 ⟨Kp.builtin _, ?_⟩
  refine w_strCount fun _ => ?_
  refine w_addInt fun _ => ?_
  refine w_eqInt ?_
  rw [hpl, List.take_length]
  rw [show (((1 + text.count 10 : Nat) : Int) == 1 + ((text.count 10 : Nat) : Int)) = true by simp]
  refine k h8 F8.keep ?_
  exact (k5.mono (all_cons im1 all_nil)).trans ((Kept.of_ext (e6.trans e7)).trans (k8.mono (all_cons im2 (all_cons im3 all_nil))))
end
end Mine
end
section
open PySem PySem.W PyProof.Rows PySem.Calls
set_option Elab.async false
set_option maxRecDepth 100000
set_option linter.unusedVariables false
set_option linter.unusedSimpArgs false
namespace Mine
theorem sgn_mem (x : Int) (k : Nat) : sgn x k ∈ signs7 := by
  obtain ⟨j, _, h⟩ := mod7 x k
  exact List.mem_of_getElem? h
theorem sgn_ok : ∀ c ∈ signs7, 9 < c ∧ c < 0x110000 ∧ c ≠ 13 := by decide
theorem words_sgn (sc : List Int) : ∀ x ∈ wordsOf sc, ∀ c ∈ x, c ∈ signs7 := fun x hx c hc => by
  obtain ⟨z, _, rfl⟩ := List.mem_map.mp hx
  obtain ⟨k, _, rfl⟩ := List.mem_map.mp hc
  exact sgn_mem z k
theorem words_okC (sc : List Int) : ∀ x ∈ wordsOf sc, okC x = true := fun x hx => by
  unfold okC
  rw [List.all_eq_true]
  intro c hc
  have := sgn_ok c (words_sgn sc x hx c hc)
  simp only [List.mem_cons, List.not_mem_nil, or_false, Bool.not_eq_true', decide_eq_false_iff_not, not_or]
  exact ⟨Nat.ne_of_gt this.1, this.2.2⟩
theorem words_okW (sc : List Int) : ∀ x ∈ wordsOf sc, okW x = true := fun x hx => by
  unfold okW
  rw [List.all_eq_true]
  intro c hc
  have := sgn_ok c (words_sgn sc x hx c hc)
  exact decide_eq_true this.2.1
theorem words_nine (sc : List Int) : ∀ x ∈ wordsOf sc, ∀ c ∈ x, 9 < c := fun x hx c hc => (sgn_ok c (words_sgn sc x hx c hc)).1
theorem words_len2 (sc : List Int) : ∀ x ∈ wordsOf sc, x.length ≤ 2 := fun x hx => by
  obtain ⟨z, _, rfl⟩ := List.mem_map.mp hx
  exact word7_len z
theorem words_len (sc : List Int) : 5 ≤ (wordsOf sc).length ∧ (wordsOf sc).length ≤ 10 := by
  have := nums_len sc
  rw [wordsOf, List.length_map]; exact this
theorem dress_len (sc : List Int) : (dressOf sc).length = (wordsOf sc).length := by
  rw [dressOf, wordsOf, List.length_map, List.length_map, List.length_range]
theorem text_len (sc : List Int) : (lawText (wordsOf sc) (dressOf sc)).length ≤ 1048576 := by
  have h2 := words_len sc
  have h3 := txFold_len (B := 5) ((wordsOf sc).zip (dressOf sc)) ([], false) (fun p hp => Nat.le_trans (words_len2 sc _ (List.of_mem_zip hp).1) (by decide))
  have h4 : ((wordsOf sc).zip (dressOf sc)).length ≤ 10 := by rw [List.length_zip]; lia
  have h5 : ((txAll (wordsOf sc) (dressOf sc)).1).length ≤ 200 := by
    unfold txAll
    have : ((wordsOf sc).zip (dressOf sc)).length * (2 * 5 + 4) ≤ 10 * 14 := Nat.mul_le_mul_right 14 h4
    have h6 : (([], false) : List Nat × Bool).1.length = 0 := rfl
    lia
  unfold lawText
  split
  · simp; lia
  · simp; lia
/-- the text begins with the first word in quotes, and no line ends there -/
theorem text_first (sc : List Int) : ∃ R, lawText (wordsOf sc) (dressOf sc) = [34, 98, 34] ++ R := by
  obtain ⟨r, hr⟩ : ∃ r, (wordsOf sc).zip (dressOf sc) = ([98], 0) :: r := by
    obtain ⟨n5, _⟩ := nums_len sc
    have h1 : (wordsOf sc)[0]? = some [98] := rfl
    have h2 : (dressOf sc)[0]? = some 0 := by
      rw [dressOf, List.getElem?_map, List.getElem?_range (by lia)]; rfl
    cases hw : (wordsOf sc) with
    | nil => rw [hw] at h1; cases h1
    | cons a as =>
      cases hd : dressOf sc with
      | nil => rw [hd] at h2; cases h2
      | cons b bs =>
        rw [hw] at h1; rw [hd] at h2
        cases h1; cases h2
        exact ⟨_, rfl⟩
  have hl : ((wordsOf sc).zip (dressOf sc)).length = (wordsOf sc).length := by rw [List.length_zip, dress_len, Nat.min_self]
  have hw := words_len sc
  have e := tlx_of ((wordsOf sc).zip (dressOf sc)) [] false (by rw [hr]; exact List.cons_ne_nil _ _)
  rw [List.nil_append] at e
  have e' : lawText (wordsOf sc) (dressOf sc) = tlx false ((wordsOf sc).zip (dressOf sc)) := by unfold lawText txAll; exact e
  have hrn : r ≠ [] := by
    intro q
    rw [hr, q] at hl
    have : (1 : Nat) = (wordsOf sc).length := hl
    lia
  rw [e', hr, tlx, if_neg (fun q => hrn q.1)]
  exact ⟨_, rfl⟩
theorem hfirst_ok (sc : List Int) : ∀ p, p ≤ (lawText (wordsOf sc) (dressOf sc)).length → (lawText (wordsOf sc) (dressOf sc)).drop p = remT (lawText (wordsOf sc) (dressOf sc)) 1 → ((lawText (wordsOf sc) (dressOf sc)).take p).count 10 = 0 := by
  obtain ⟨R, hR⟩ := text_first sc
  generalize lawText (wordsOf sc) (dressOf sc) = T at hR
  intro p hp hd
  have e1 : remT T 1 = R := by
    show (lexT T).2 = R
    have := lexT_quote [98] R
    rw [hR]
    exact congrArg Prod.snd this
  rw [e1] at hd
  have h1 := congrArg List.length hd
  rw [List.length_drop] at h1
  have h2 := congrArg List.length hR
  rw [List.length_append] at h2
  have h3 : p = 3 := by have : [34, 98, 34].length = 3 := rfl; lia
  rw [h3, hR]
  rfl
end Mine
end
section
open PySem PySem.W PyProof.Rows PySem.Calls
set_option Elab.async false
set_option maxRecDepth 100000
set_option linter.unusedVariables false
set_option linter.unusedSimpArgs false
namespace Mine
section
variable {prog : Program} {w : World} {A : Around} {h base H : Heap} {mg mb : Str → Option Value} {L : Addr}
set_option maxHeartbeats 8000000 in
theorem law_body {sl : Addr} {svs : List Value} {sc : List Int} {Q : Flow → Heap → Prop} {m : Str → Option Value} (GB : Gd w mg mb H base) (ok : OkA 9 A) (F : Fr base L h m) (hm : m nScript = some (.ref sl)) (hsl : base.IsList sl svs.toArray) (hsv : IntsAre svs sc) (hz : sc.length ≤ 63)
    (CS : CodeHd H 98 tabS) (bS : H.BuiltinsAt mg tabS) (HS : H.get? tabS = none) (BS : base.get? tabS = none) (TS : h.get? tabS = some (tabObj #[])) (hSL : tabS < L)
    (CM : CodeHd H codeM tabM) (bM : H.BuiltinsAt mg tabM) (HM : H.get? tabM = none) (BM : base.get? tabM = none) (TM : h.get? tabM = some (tabObj #[])) (hML : tabM < L)
    (hc : ∀ i : Nat, 0 < i → i < 4 → h.IsCell (L + i) none) (hcb : ∀ i, L < i → base.get? i = none)
    (k : ∀ h', Ext base h' → (∃ ps, h'.get? tabS = some (tabObj ps)) → (∃ ps, h'.get? tabM = some (tabObj ps)) → Q (.ret (.bool true)) h') :
    Wp (model prog w) A (execs (lawB w) (lawE w L)) Q h := by
  obtain ⟨wn1, wn2⟩ := words_len sc
  have wok := words_okW sc
  obtain ⟨rd1, rd2, rd3⟩ := lawText_read (wordsOf sc) (dressOf sc) (dress_len sc) (fun q => by rw [q] at wn1; cases wn1) (words_okC sc)
  have tl := text_len sc
  have hf := hfirst_ok sc
  have hSM : tabS ≠ tabM := by decide
  have z3 : L + 3 < h.objs.size := by obtain ⟨o, e, _⟩ := hc 3 (by decide) (by decide); exact Heap.lt_size e
  have nS : ∀ {i : Nat}, tabS ≠ L + i := fun {i} => Nat.ne_of_lt (Nat.lt_of_lt_of_le hSL (Nat.le_add_right L i))
  have nM : ∀ {i : Nat}, tabM ≠ L + i := fun {i} => Nat.ne_of_lt (Nat.lt_of_lt_of_le hML (Nat.le_add_right L i))
  refine na1 (n := 5) GB ok F hm hsl hsv hz (hc 1 (by decide) (by decide)) (hcb _ (Nat.lt_succ_self _)) (fun h1 m1 wl wys tt F1 K1 lw1 sw mw1 mt1 gwl => ?_)
  have gw : L + 3 < wl := Nat.lt_of_lt_of_le z3 gwl
  have gwn : ∀ {i : Nat}, i ≤ 3 → wl ≠ L + i := fun {i} hi => Nat.ne_of_gt (Nat.lt_of_le_of_lt (Nat.add_le_add_left hi L) gw)
  have gwL : wl ≠ L := gwn (i := 0) (by decide)
  have gwS : wl ≠ tabS := Nat.ne_of_gt (Nat.lt_trans hSL (Nat.lt_of_le_of_lt (Nat.le_add_right L 3) gw))
  have gwM : wl ≠ tabM := Nat.ne_of_gt (Nat.lt_trans hML (Nat.lt_of_le_of_lt (Nat.le_add_right L 3) gw))
  have cs1 : ∀ i : Nat, 1 < i → i < 4 → h1.IsCell (L + i) none := fun i a b => IsCell.kept (hc i (Nat.lt_trans Nat.zero_lt_one a) b) K1 (nmc (adne (Nat.ne_of_gt (Nat.lt_trans Nat.zero_lt_one a))) (nmc (adnn (Nat.ne_of_gt a)) nm0))
  have TS1 := K1 _ _ (nmc (nS (i := 0)) (nmc nS nm0)) TS
  have TM1 := K1 _ _ (nmc (nM (i := 0)) (nmc nM nm0)) TM
  have z31 : L + 3 < h1.objs.size := by obtain ⟨o, e, _⟩ := cs1 3 (by decide) (by decide); exact Heap.lt_size e
  generalize lawText (wordsOf sc) (dressOf sc) = text at *
  have TS1P : TabP H h1 tabS (placesS w) := ⟨#[], TS1, True.intro, fun q hq => .inl rfl⟩
  refine na2 (n := 4) GB ok F1 CS bS HS TS1P BS ⟨nS, nS (i := 0)⟩ lw1 sw mw1 mt1 tl (by lia) (by lia) wok rd1 rd2 rd3 hf (cs1 2 (by decide) (by decide)) (hcb _ (Nat.lt_add_of_pos_right (by decide))) ⟨gwL, gwn (by decide), gwS⟩ (fun h2 m2 a F2 K2 c22 C2 M2 hfr2 T2 mo2 => ?_)
  have c32 : h2.IsCell (L + 3) none := IsCell.kept (cs1 3 (by decide) (by decide)) K2 (nmc (adne (by decide)) (nmc (adnn (by decide)) (nmc nS.symm nm0)))
  have lw2 := lsKept lw1 K2 (nmc gwL (nmc (gwn (by decide)) (nmc gwS nm0)))
  have TM2 := K2 _ _ (nmc (nM (i := 0)) (nmc nM (nmc hSM.symm nm0))) TM1
  have TM2P : TabP H h2 tabM (placesM w) := ⟨#[], TM2, True.intro, fun q hq => .inl rfl⟩
  have lt1 : L < h1.objs.size := F1.ns.lt
  have z21 : L + 2 < h1.objs.size := Nat.lt_of_le_of_lt (Nat.add_le_add_left (by decide) L) z31
  have apl : ∀ i ∈ a.all, i ∉ [L, wl, L + 2, L + 3] := lex_apart C2 hfr2 (all_cons ⟨lt1, ns_data F2.ns⟩ (all_cons ⟨lw1.lt, by obtain ⟨nn, e⟩ := lw2; exact ⟨_, e, fun vs q => by cases q⟩⟩ (all_cons ⟨z21, cell_data c22⟩ (all_cons ⟨z31, cell_data c32⟩ all_nil))))
  have apS : ∀ i ∈ a.all, i ≠ tabS := lexNeTab C2 hfr2 T2 (Nat.lt_trans hSL lt1)
  have apM : ∀ i ∈ a.all, i ≠ tabM := lexNeTab C2 hfr2 TM2P (Nat.lt_trans hML lt1)
  have aL : ∀ i ∈ a.all, i ≠ L := fun i hi q => apl i hi (q ▸ im1)
  have aw : ∀ i ∈ a.all, i ≠ wl := fun i hi q => apl i hi (q ▸ im2)
  have a2 : ∀ i ∈ a.all, i ≠ L + 2 := fun i hi q => apl i hi (q ▸ im3)
  have a3 : ∀ i ∈ a.all, i ≠ L + 3 := fun i hi q => apl i hi (q ▸ .tail _ im3)
  have hge : ∀ i ∈ a.all, i ≠ a.c → h1.objs.size ≤ i := fun i hi q => (hfr2 i hi).resolve_left q
  have bn : ∀ i, h1.objs.size ≤ i → base.get? i = none := fun i hi => hcb _ (Nat.lt_of_lt_of_le lt1 hi)
  have npb := hge _ a.m_pb (nd_at C2.nd (i := 2) (j := 6) rfl rfl (by decide))
  have nd' := hge _ a.m_d (nd_at C2.nd (i := 1) (j := 6) rfl rfl (by decide))
  have npl := hge _ a.m_pl (nd_at C2.nd (i := 6) (j := 9) rfl rfl (by decide)).symm
  have mw2 : m2 nWords = some (.ref wl) := (mo2 _ (by decide) (by decide)).trans mw1
  have mt2 : m2 nText = some (.str (S text) tt) := (mo2 _ (by decide) (by decide)).trans mt1
  have hn20 : (wordsOf sc).length ≤ 20 := by lia
  have hn1 : 1 ≤ (wordsOf sc).length := by lia
  refine nc1 (n := 3) GB ok F2 C2 M2 TM2P.tabR CM bM HM BM hML c22 lw2 sw mw2 hn1 hn20 wok (fun i hi => ⟨aL i hi, aw i hi, apM i hi, a2 i hi⟩) (bn _ npb) gwL gwM (fun h3 m3 R toks rys rs F3 K3 M3 sT lR sR asc pm gR mr3 mo3 gTM => ?_)
  have mw3 : m3 nWords = some (.ref wl) := (mo3 _ (by decide)).trans mw2
  have mt3 : m3 nText = some (.str (S text) tt) := (mo3 _ (by decide)).trans mt2
  have mutT : ∀ i ∈ a.all, i ∈ [L, a.pb, tabM] → i ∈ a.mut := fun i hia hit => by
    cases hit with
    | head => exact absurd rfl (aL _ hia)
    | tail _ hit => cases hit with
      | head => exact im2
      | tail _ hit => cases hit with
        | head => exact absurd rfl (apM _ hia)
        | tail _ q => cases q
  have C3 := C2.keptX K3 mutT
  have lw3 := lsKept lw2 K3 (nmc gwL (nmc (aw _ a.m_pb).symm (nmc gwM nm0)))
  have c23 := IsCell.kept c22 K3 (nmc (adne (by decide)) (nmc (a2 _ a.m_pb).symm (nmc nM.symm nm0)))
  have c33 := IsCell.kept c32 K3 (nmc (adne (by decide)) (nmc (a3 _ a.m_pb).symm (nmc nM.symm nm0)))
  have T3 : TabP H h3 tabS (placesS w) := T2.keptC K3 (nmc (nS (i := 0)) (nmc (apS _ a.m_pb).symm (nmc hSM nm0))) (all_cons (nc_ns F2.ns) (all_cons (nc_ls M2.pbLs) (all_cons (nc_tab TM2P) all_nil)))
  have ltR : ∀ i, i < h2.objs.size → R ≠ i := fun i hi q => Nat.not_lt.mpr gR (q ▸ hi)
  have lc2 : ∀ {i v}, h2.IsCell i v → i < h2.objs.size := fun c => let ⟨o, e, _⟩ := c; Heap.lt_size e
  have hRa : R ∉ a.all := fun q => ltR _ (lex_lt C2 M2 R q) rfl
  have hRL : L < R := Nat.lt_of_lt_of_le F2.ns.lt gR
  have tS2 : tabS < h2.objs.size := Nat.lt_trans hSL F2.ns.lt
  refine nd1 (n := 4) GB ok F3 CS bS HS T3 BS hSL C3 M3 sT lR sR asc pm c23 c33 (hcb _ (Nat.lt_add_of_pos_right (by decide))) lw3 sw mw3 mr3 hn1 hn20 (words_nine sc) (fun x hx => Nat.le_trans (words_len2 sc x hx) (by decide)) (fun i hi => ⟨aL i hi, aw i hi, apS i hi, a2 i hi, a3 i hi⟩) hRa ⟨ltR _ F2.ns.lt, ltR _ lw2.lt, ltR _ tS2, ltR _ (lc2 c22), ltR _ (lc2 c32)⟩ ⟨gwL, gwS, gwn (by decide)⟩ (bn _ npb) (hcb _ hRL) (gd_none (GB.ext F2.keep) gR)
    (fun h4 m4 b otoks F4 K4 C4 M4 Cb Mb so c24 c34 lw4 T4 mo4 hbp hmb => ?_)
  refine ne1 (n := 4) GB ok F4 C4 M4 Cb Mb so c24 c34 lw4 sw ((mo4 _ (by decide)).trans mw3) ((mo4 _ (by decide)).trans mt3) hn1 hn20 wok (fun i hi => ⟨aL i hi, aw i hi, a2 i hi, a3 i hi⟩) hbp (hmb _ im2).1 (hcb _ ?_) (bn _ nd') (bn _ npl) (fun h5 ex K5 => k h5 ex ?_ ?_)
  · exact Nat.lt_of_lt_of_le F3.ns.lt (hmb _ im2).2
  · obtain ⟨ps, e, _⟩ := T4
    have hb : tabS ≠ b.pb := fun q => Nat.not_lt.mpr (hmb _ im2).2 (by rw [← q]; exact Nat.lt_trans hSL F3.ns.lt)
    exact ⟨ps, K5 _ _ (nmc hb (nmc (apS _ a.m_d).symm (nmc (apS _ a.m_pl).symm nm0))) e⟩
  · obtain ⟨ps, e⟩ := gTM
    have hML3 : tabM < h2.objs.size := Nat.lt_trans hML F2.ns.lt
    have hb : tabM ≠ b.pb := fun q => Nat.not_lt.mpr (hmb _ im2).2 (by rw [← q]; exact Nat.lt_trans hML F3.ns.lt)
    exact ⟨ps, K5 _ _ (nmc hb (nmc (apM _ a.m_d).symm (nmc (apM _ a.m_pl).symm nm0))) (K4 _ _ (nmc (nM (i := 0)) (nmc nM (nmc hSM.symm (nmc (apM _ a.m_pb).symm (nmc (ltR _ hML3).symm nm0))))) e)⟩
end
end Mine
end
section
open PySem PySem.W PyProof.Rows PySem.Calls
set_option Elab.async false
set_option maxRecDepth 100000
set_option linter.unusedVariables false
set_option linter.unusedSimpArgs false
namespace Mine
abbrev tabs2 : List (Addr × Addr) := [(141, 139), (98, 94)]
section
variable {prog : Program} {w : World} {A : Around} {h : Heap} {mg mb : Str → Option Value}
theorem ba_ghost {P : Addr} (hT : TabsAt tabs2 h) (g : h.Ns mainGlobals mg) (hP : (ghostOf h tabs2).get? P = none)
    (bm : ∃ bm ob, mg "__builtins__" = some (.ref bm) ∧ bm ≠ builtinsNs ∧ h.get? bm = some ob ∧ ob.cls = .type "module" ∧ ob.dict = some builtinsNs ∧ ob.data = .plain) : (ghostOf h tabs2).BuiltinsAt mg P := by
  obtain ⟨b, ob, a1, a2, a3, a4, a5, a6⟩ := bm
  have e : (ghostOf h tabs2).get? b = some ob := ghost_get hT a3 (fun q => by rw [q] at a4; cases a4)
  refine ⟨b, ob, a1, a2, ?_, ?_, e, a4, a5, a6⟩
  · rintro rfl
    obtain ⟨o, es, ep, e1, hd, _⟩ := g
    rw [a3] at e1; cases e1
    rw [a6] at hd; cases hd
  · rintro rfl; rw [hP] at e; cases e
set_option maxHeartbeats 4000000 in
theorem law_main {l : Addr} {vs : List Value} {ns : List Int} (K : (KH w).In h) (g : h.Ns mainGlobals mg) (b : h.Ns builtinsNs mb) (lim : h.NoLimit) (bb : ∀ x : Str, x ≠ "__name__" → mb x = bootBuiltins x)
    (bm : ∃ bm ob, mg "__builtins__" = some (.ref bm) ∧ bm ≠ builtinsNs ∧ h.get? bm = some ob ∧ ob.cls = .type "module" ∧ ob.dict = some builtinsNs ∧ ob.data = .plain)
    (hT : TabsAt tabs2 h) (hl : h.IsList l vs.toArray) (hI : IntsAre vs ns) (hz : ns.length ≤ 63) :
    Wc (model prog w) callerA (.call (.ref aLaw) ⟨[.ref l], []⟩) (fun v h' => v = .bool true ∧ Ext (ghostOf h tabs2) h' ∧ GrownAll tabs2 h') h := by
  refine c_callC (fd := fnAt w aLaw) (body := bodyAt w aLaw) (binds := [(nScript, .ref l)]) (by decide) (K _ _ (by kernel_rfl : (KH w).lookup aLaw = some (objAt w aLaw))) (by kernel_rfl) lim
    (codeRec_of K (by kernel_rfl)) (by kernel_rfl) (by kernel_rfl) (by kernel_rfl) (fun L x hx => ?_) (fun L h₁ hL F cell => ?_)
  · simp only [List.mem_singleton] at hx; subst hx; exact .inl (by kernel_rfl)
  have ok : OkA 9 (callerA.deeper (callEnvC (fnAt w aLaw) L aLaw)) := OkA.deeper (n := 9) ⟨by decide, by decide, rfl⟩ _
  have hK : noTabs (KH w) = true := by kernel_rfl
  have hmem : ∀ q ∈ tabs2, h.get? q.2 = some (tabObj #[]) := fun q hq => (hT q hq).2
  have hcM := hmem (141, 139) im1
  have hcS := hmem (98, 94) im2
  have gh : ∀ P ∈ [139, 94], (ghostOf h tabs2).get? P = none := fun P hP => hideAll_none _ hP
  have gsz : (ghostOf h tabs2).objs.size = h.objs.size := hideAll_size _ _
  have lg : (ghostOf h tabs2).NoLimit := let ⟨mc, a, r⟩ := lim; ⟨mc, ghost_ns hT a, r⟩
  have GB : Gd w mg mb (ghostOf h tabs2) (ghostOf h tabs2) := ⟨⟨ghost_K hT K hK, lg, ghost_ns hT g, ghost_ns hT b, bb⟩, Ext.refl _⟩
  have hca := ghost_code hT
  have lt : ∀ P, h.get? P = some (tabObj #[]) → P < L := fun P e => by rw [hL]; exact Heap.lt_size e
  refine law_body (svs := vs) (sc := ns) GB ok (ghost_fr hT F) rfl (ghost_list hT hl) hI hz hca.2.1 (ba_ghost hT g (gh 94 im2) bm) (gh 94 im2) (gh 94 im2) (F.keep _ _ hcS) (lt _ hcS)
    hca.1 (ba_ghost hT g (gh 139 im1) bm) (gh 139 im1) (gh 139 im1) (F.keep _ _ hcM) (lt _ hcM) (fun i h1 h2 => ?_) (fun i hi => get_none (by rw [gsz]; rw [hL] at hi; exact Nat.le_of_lt hi)) (fun h' ex t1 t2 => ⟨rfl, ex, t2, t1, True.intro⟩)
  match i, h1, h2 with
  | 1, _, _ => exact cell nNumbers _ rfl
  | 2, _, _ => exact cell nLexer _ rfl
  | 3, _, _ => exact cell nOther _ rfl
  | i + 4, _, h2 => omega
end
end Mine
end
section
open PySem PySem.W PyProof.Rows
set_option Elab.async false
namespace Mine
set_option maxRecDepth 100000
set_option maxHeartbeats 8000000
theorem t0 : PySem.Challenge.rw_pk0071_02.row.Holds := hd (by
  k_fill
  intro w s₀ s₁ mg mb G Y fa o pm cd doc dV kV ho hd hcd hD hmg hg args vals as hpre hlay hrd hwl hlo
  have KX := km_in_of Y
  km_tabs Y
  have X := (Ground.X G).1
  have V := (Ground.X G).2
  refine Ground.open G ?_
  intro T B D TE TW
  try (refine guard_noD D (by decide +kernel) ?_; clear D)
  have hfa : fa = aLaw := by
    have h1 := mg_of KX T.g (n := Str.ofString "law") (v := .ref aLaw) (by kernel_rfl)
    have h2 : mg (Str.ofString "law") = some (.ref fa) := hmg
    rw [h1] at h2
    injection h2 with h2
    injection h2 with h2
    exact h2.symm
  km_lay T hmg ho hd cd
  clear hmg
  wrow_args hpre hlay hrd hwl hlo
  rename s₁.heap.IsList _ _ => hlist
  rename IntsAre _ _ => hints
  rename ¬ (_ < _) => hlen
  clear ho hd hcd hD
  subst hfa
  refine enter_call ?_
  refine kn_post hT9 (fun _ _ => rfl) ?_
  refine codeAny_mono (law_main KX T.g T.b T.nolimit T.builtins T.bmain hT9 hlist hints (by omega) s₁ rfl) (fun r s' y => ?_)
  rcases r with e | (_ | _ | _ | v)
  · exact y.elim
  · exact y.elim
  · exact y.elim
  · exact y.elim
  · obtain ⟨⟨y1, y2⟩, rfl, y3, y4⟩ := y
    refine ⟨⟨.inl ⟨_, .bool true, [], rfl, fun _ => rfl, ReadsW.bool _, ?_, fun _ => ⟨List.nodup_nil, by simp⟩⟩, y3, y1, y2.trans hg⟩, y4⟩
    wrow_post)
theorem t : PySem.Challenge.rw_pk0071_02.Holds := holds_law said fun _ => t0
end Mine
end
open PySem PySem.W PyProof.Rows
set_option maxRecDepth 100000 in
set_option maxHeartbeats 8000000 in
theorem PySem.Challenge.cw_pk0071_02_holds : PySem.Challenge.rw_pk0071_02.Holds := by
  exact Mine.t
