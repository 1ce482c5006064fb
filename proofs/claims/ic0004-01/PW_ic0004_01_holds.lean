import PyProof.Rows.All
import Wide.All
import OpenK.AllK
import Wide.FinOn
import PySem.Challenge.RW_ic0004_01
set_option Elab.async false
set_option autoImplicit false

/-! MkA -/
namespace Mink
open PySem PySem.W PyProof.Rows PySem.Calls PySem.F

/-- what a run is of -/
structure Cx where
  prog : Program
  w : World
  s₀ : Shared

noncomputable abbrev Cx.at (c : Cx) (h : Heap) (k : Nat) : Shared := { c.s₀ with heap := h, toks := k }
noncomputable def Cx.good (c : Cx) {α : Type} (P : α → Heap → Prop) : α → Shared → Prop := fun v s' => ∃ h' k', s' = c.at h' k' ∧ P v h'
/-- the tree comes to its end, without a raise, in a heap and a value of which P holds -/
noncomputable def Ru (c : Cx) (A : Around) {α : Type} (t : Sem α) (h : Heap) (P : α → Heap → Prop) : Prop :=
  ∀ (k : Nat) (E : Value → Shared → Prop), wpAny (model c.prog c.w) A t (c.good P) E (c.at h k)

section
variable {c : Cx} {A : Around} {α β : Type} {h : Heap}
theorem good_at {P : α → Heap → Prop} {v : α} {h' : Heap} {k' : Nat} (p : P v h') : c.good P v (c.at h' k') := ⟨h', k', rfl, p⟩
theorem Ru.mono {t : Sem α} {P P' : α → Heap → Prop} (r : Ru c A t h P) (m : ∀ v h', P v h' → P' v h') : Ru c A t h P' :=
  fun k E => wpAny_mono (r k E) (fun _ _ ⟨h', k', e, p⟩ => ⟨h', k', e, m _ _ p⟩) fun _ _ x => x
theorem Ru.pur {a : α} {P : α → Heap → Prop} (p : P a h) : Ru c A (Pure.pure a : Sem α) h P := fun _ _ => wpAny_pure (good_at p)
theorem Ru.bnd {m : Sem α} {f : α → Sem β} {P : β → Heap → Prop} (r : Ru c A m h fun a h' => Ru c A (f a) h' P) : Ru c A (m >>= f) h P :=
  fun k E => wpAny_bind (wpAny_mono (r k E) (fun _ _ ⟨_, k', e, p⟩ => e ▸ p k' E) fun _ _ x => x)
/-- what is asked of the end, put away under a name -/
theorem Ru.hide {t : Sem α} {P : α → Heap → Prop} (r : ∀ Q : α → Heap → Prop, (∀ v h', P v h' → Q v h') → Ru c A t h Q) : Ru c A t h P := r P fun _ _ x => x
/-- into a tree of the library's -/
theorem Ru.into {t : Sem α} {P : α → Heap → Prop} {Q : α → Shared → Prop} {E : Value → Shared → Prop} {k : Nat} (r : Ru c A t h P) (m : ∀ v h' k', P v h' → Q v (c.at h' k')) :
    wpAny (model c.prog c.w) A t Q E (c.at h k) := wpAny_mono (r k E) (fun _ _ ⟨h', k', e, p⟩ => e ▸ m _ _ k' p) fun _ _ x => x
theorem Ru.of {t : Sem α} {P : α → Heap → Prop} (r : ∀ k E, wpAny (model c.prog c.w) A t (c.good P) E (c.at h k)) : Ru c A t h P := r
end

/-! what a heap keeps -/
/-- all stays but what stands at X; tuples stay -/
noncomputable def Gr (X : List Addr) (h h' : Heap) : Prop := ∀ b o, h.get? b = some o → (b ∉ X ∨ (o.cls = .type "tuple" ∧ ∃ xs n, o.data = .seq xs n)) → h'.get? b = some o
theorem Gr.refl (X : List Addr) (h : Heap) : Gr X h h := fun _ _ e _ => e
theorem Gr.trans {X : List Addr} {h h' h'' : Heap} (a : Gr X h h') (b : Gr X h' h'') : Gr X h h'' := fun x o e i => b x o (a x o e i) i
theorem Gr.mono {X Y : List Addr} {h h' : Heap} (a : Gr X h h') (s : ∀ x ∈ X, x ∈ Y) : Gr Y h h' := fun b o e i => a b o e (i.imp (fun n m => n (s b m)) id)
theorem Gr.nil {X : List Addr} {h h' : Heap} (a : Gr [] h h') : Gr X h h' := a.mono (fun _ m => nomatch m)
theorem Gr.of_keeps {X : List Addr} {h h' : Heap} (k : ∀ b o, h.get? b = some o → h'.get? b = some o) : Gr X h h' := fun b o e _ => k b o e
theorem Gr.keeps {h h' : Heap} (a : Gr [] h h') : ∀ b o, h.get? b = some o → h'.get? b = some o := fun b o e => a b o e (.inl (fun m => nomatch m))
theorem Gr.push {X : List Addr} (h : Heap) (o : Obj) : Gr X h (h.push o) := .of_keeps fun _ _ e => Heap.get?_push_of_some _ e
theorem Gr.ext {a : Addr} {h h' : Heap} (s : Heap.ExtBut a h h') {o : Obj} (ho : h.get? a = some o) (hc : ¬ (o.cls = .type "tuple" ∧ ∃ xs n, o.data = .seq xs n)) : Gr [a] h h' := fun b o' e i => by
  by_cases hb : b = a
  · subst hb
    rw [ho] at e; cases e
    exact absurd i (by simp only [List.mem_singleton, not_true_eq_false, false_or]; exact hc)
  · exact s b o' hb e
theorem Gr.extNs {a : Addr} {h h' : Heap} {m : Str → Option Value} (s : Heap.ExtBut a h h') (n : h.Ns a m) : Gr [a] h h' := by
  obtain ⟨o, es, ep, h1, h2, _⟩ := n
  exact Gr.ext s h1 fun ⟨_, xs, k, e⟩ => by rw [h2] at e; cases e
theorem Gr.extLs {a : Addr} {h h' : Heap} {xs : Array Value} (s : Heap.ExtBut a h h') (n : h.IsList a xs) : Gr [a] h h' := by
  obtain ⟨o, h1, h2, _⟩ := n
  exact Gr.ext s h1 fun ⟨e, _⟩ => by rw [h2] at e; simp at e
theorem Gr.extIt {a l : Addr} {i : Nat} {h h' : Heap} (s : Heap.ExtBut a h h') (n : h.IsListIter a l i) : Gr [a] h h' := by
  obtain ⟨o, h1, h2, _⟩ := n
  exact Gr.ext s h1 fun ⟨e, _⟩ => by rw [h2] at e; simp at e
theorem Gr.extCell {a : Addr} {v : Option Value} {h h' : Heap} (s : Heap.ExtBut a h h') (n : h.IsCell a v) : Gr [a] h h' := by
  obtain ⟨o, h1, h2⟩ := n
  exact Gr.ext s h1 fun ⟨_, xs, k, e⟩ => by rw [h2] at e; cases e
/-- what is at X is new since g: g stays -/
theorem Gr.past {X : List Addr} {g h h' : Heap} (a : Gr [] g h) (b : Gr X h h') (n : ∀ x ∈ X, g.get? x = none) : Gr [] g h' := fun y o e _ =>
  b y o (a y o e (.inl fun m => nomatch m)) (.inl fun m => by rw [n y m] at e; cases e)
theorem Gr.ls {X : List Addr} {h h' : Heap} {a : Addr} {xs : Array Value} {n : Nat} (k : Gr X h h') (l : IsL h a xs n) (x : a ∉ X) : IsL h' a xs n := k a _ l (.inl x)
theorem Gr.lst {X : List Addr} {h h' : Heap} {a : Addr} {xs : Array Value} (k : Gr X h h') (l : h.IsList a xs) (x : a ∉ X) : h'.IsList a xs := let ⟨o, ho, r⟩ := l; ⟨o, k a o ho (.inl x), r⟩
theorem Gr.ns {X : List Addr} {h h' : Heap} {a : Addr} {m : Str → Option Value} (k : Gr X h h') (l : h.Ns a m) (x : a ∉ X) : h'.Ns a m := let ⟨o, es, ep, ho, r⟩ := l; ⟨o, es, ep, k a o ho (.inl x), r⟩
theorem Gr.tup {X : List Addr} {h h' : Heap} {a : Addr} {xs : Array Value} (k : Gr X h h') (l : IsTup h a xs) : IsTup h' a xs := let ⟨o, ho, hc, r⟩ := l; ⟨o, k a o ho (.inr ⟨hc, let ⟨n, hd⟩ := r; ⟨_, n, hd⟩⟩), hc, r⟩
theorem Gr.it {X : List Addr} {h h' : Heap} {a l : Addr} {i : Nat} (k : Gr X h h') (t : h.IsListIter a l i) (x : a ∉ X) : h'.IsListIter a l i := let ⟨o, ho, r⟩ := t; ⟨o, k a o ho (.inl x), r⟩
theorem Gr.cell {X : List Addr} {h h' : Heap} {a : Addr} {v : Option Value} (k : Gr X h h') (t : h.IsCell a v) (x : a ∉ X) : h'.IsCell a v := let ⟨o, ho, r⟩ := t; ⟨o, k a o ho (.inl x), r⟩
theorem Gr.obj {X : List Addr} {h h' : Heap} {a : Addr} {o : Obj} (k : Gr X h h') (t : h.get? a = some o) (x : a ∉ X) : h'.get? a = some o := k a o t (.inl x)

/-! two that differ -/
theorem Ns.not_tup {h : Heap} {a : Addr} {m : Str → Option Value} (n : h.Ns a m) : ∀ o, h.get? a = some o → ∀ xs e, o.data ≠ .seq xs e := by
  intro o ho xs e hd
  obtain ⟨o', es, ep, h1, h2, _⟩ := n
  rw [ho] at h1; cases h1; rw [hd] at h2; cases h2
theorem ne_of_fresh {h : Heap} {a b : Addr} {o : Obj} (ha : h.get? a = some o) (hb : h.get? b = none) : a ≠ b := fun e => by rw [e, hb] at ha; cases ha
theorem fresh_size (h : Heap) : h.get? h.objs.size = none := Heap.get?_none_of_le (Nat.le_refl _)
theorem ne_ns_ls {h : Heap} {a b : Addr} {m : Str → Option Value} {xs : Array Value} (n : h.Ns a m) (l : h.IsList b xs) : a ≠ b := fun e => by
  subst e
  obtain ⟨o, ho, _, k, hd⟩ := l
  exact Ns.not_tup n o ho _ _ hd
theorem ne_ns_tup {h : Heap} {a b : Addr} {m : Str → Option Value} {xs : Array Value} (n : h.Ns a m) (l : IsTup h b xs) : a ≠ b := fun e => by
  subst e
  obtain ⟨o, ho, _, k, hd⟩ := l
  exact Ns.not_tup n o ho _ _ hd
theorem ne_ns_it {h : Heap} {a b l : Addr} {i : Nat} {m : Str → Option Value} (n : h.Ns a m) (t : h.IsListIter b l i) : a ≠ b := fun e => by
  subst e
  obtain ⟨o, ho, _, hd⟩ := t
  obtain ⟨o', es, ep, h1, h2, _⟩ := n
  rw [ho] at h1; cases h1; rw [hd] at h2; cases h2
theorem ne_ls_it {h : Heap} {a b l : Addr} {i : Nat} {xs : Array Value} (n : h.IsList a xs) (t : h.IsListIter b l i) : a ≠ b := fun e => by
  subst e
  obtain ⟨o, ho, hc, _⟩ := t
  obtain ⟨o', h1, h2, _⟩ := n
  rw [ho] at h1; cases h1; rw [hc] at h2; simp at h2
theorem ne_ns_cell {h : Heap} {a b : Addr} {m : Str → Option Value} {v : Option Value} (n : h.Ns a m) (t : h.IsCell b v) : a ≠ b := fun e => by
  subst e
  obtain ⟨o, ho, hd⟩ := t
  obtain ⟨o', es, ep, h1, h2, _⟩ := n
  rw [ho] at h1; cases h1; rw [hd] at h2; cases h2
theorem ne_ls_cell {h : Heap} {a b : Addr} {xs : Array Value} {v : Option Value} (n : h.IsList a xs) (t : h.IsCell b v) : a ≠ b := fun e => by
  subst e
  obtain ⟨o, ho, hd⟩ := t
  obtain ⟨o', h1, _, k, h2⟩ := n
  rw [ho] at h1; cases h1; rw [hd] at h2; cases h2
theorem ne_it_cell {h : Heap} {a b l : Addr} {i : Nat} {v : Option Value} (n : h.IsListIter a l i) (t : h.IsCell b v) : a ≠ b := fun e => by
  subst e
  obtain ⟨o, ho, hd⟩ := t
  obtain ⟨o', h1, _, h2⟩ := n
  rw [ho] at h1; cases h1; rw [hd] at h2; cases h2

theorem not1' {h : Heap} {a : Addr} (e : h.get? a = none) : ∀ x ∈ [a], h.get? x = none := fun x m => by rw [List.mem_singleton] at m; subst m; exact e
theorem not1'' {a : Addr} {l : List Addr} (e : a ∉ l) : ∀ x ∈ [a], x ∉ l := fun x m => by rw [List.mem_singleton] at m; subst m; exact e
end Mink

/-! MkB -/
namespace Mink
open PySem PySem.W PyProof.Rows PySem.Calls

section
variable {c : Cx} {A : Around} {h : Heap} {env : Env} {P : Value → Heap → Prop}

theorem Ru.name {x : Str} {pos : Pos} {v : Value} {m : Str → Option Value} (n : h.Ns env.locals m) (hv : m x = some v) (p : P v h)
    (hk : env.scope.kind = .function := by rfl) (hl : env.kindOf x = some .local := by rfl) (hd : (x == ("__debug__" : Str)) = false := by decide) : Ru c A (eval (.Name x pos) env) h P :=
  fun _ _ => wpAny_Name (wpAny_loadName_local hk hl n hv (good_at p)) hd
theorem Ru.celln {x : Str} {pos : Pos} {v : Value} {a : Addr} (n : h.IsCell a (some v)) (hc : env.cells.lookup x = some a) (p : P v h)
    (hk : env.scope.kind = .function := by rfl) (hl : env.kindOf x = some .cell := by rfl) (hd : (x == ("__debug__" : Str)) = false := by decide) : Ru c A (eval (.Name x pos) env) h P :=
  fun _ _ => wpAny_Name (wpAny_loadName_cell hk hl hc n (good_at p)) hd
theorem Ru.glob {x : Str} {pos : Pos} {v : Value} {mg : Str → Option Value} (n : h.Ns env.globals mg) (hv : mg x = some v) (p : P v h)
    (hk : env.scope.kind = .function := by rfl) (hl : env.kindOf x = some .globalImplicit := by rfl) (hd : (x == ("__debug__" : Str)) = false := by decide) : Ru c A (eval (.Name x pos) env) h P :=
  fun _ _ => Name_function_global hk hl (loadGlobal_global n hv (good_at p)) hd
theorem Ru.blt {x : Str} {pos : Pos} {v : Value} {mg mb : Str → Option Value} (n : h.Ns env.globals mg) (hm : mg x = none) (nb : h.Ns env.builtins mb) (hv : mb x = some v) (p : P v h)
    (hk : env.scope.kind = .function := by rfl) (hl : env.kindOf x = some .globalImplicit := by rfl) (hd : (x == ("__debug__" : Str)) = false := by decide) : Ru c A (eval (.Name x pos) env) h P :=
  fun _ _ => Name_function_global hk hl (loadGlobal_builtin n hm nb hv (good_at p)) hd
theorem Ru.intC {i : Int} {k : Nat} {pos : Pos} (p : ∀ t, P (.int i t) h) : Ru c A (eval (.Constant (.int i) k pos) env) h P := fun _ _ => wpAny_Constant_int (good_at (p _))
theorem Ru.noneC {k : Nat} {pos : Pos} (p : P .none h) : Ru c A (eval (.Constant .none k pos) env) h P := fun _ _ => Constant_none (good_at p)
theorem Ru.boolC {k : Nat} {pos : Pos} {b : Bool} (p : P (.bool b) h) : Ru c A (eval (.Constant (.bool b) k pos) env) h P := fun _ _ => Constant_bool (good_at p)
theorem Ru.bin {l r : Expr} {op : Operator} {pos : Pos} (r₁ : Ru c A (eval l env) h fun a h₁ => Ru c A (eval r env) h₁ fun b h₂ => Ru c A (binaryOp op a b) h₂ P) : Ru c A (eval (.BinOp l op r pos) env) h P :=
  fun _ _ => wpAny_BinOp (r₁.into fun _ _ _ q => q.into fun _ _ _ q => q _ _)
theorem Ru.cmp {l r : Expr} {op : CmpOp} {pos : Pos} (r₁ : Ru c A (eval l env) h fun a h₁ => Ru c A (eval r env) h₁ fun b h₂ => Ru c A (compareOp op a b) h₂ P)
    (hm : behindInMarks op r = false := by with_unfolding_all rfl) : Ru c A (eval (.Compare l [op] [r] pos) env) h P :=
  fun _ _ => wpAny_Compare1 (r₁.into fun _ _ _ q => q.into fun _ _ _ q => q _ _) hm
theorem Ru.test {l r : Expr} {op : CmpOp} {pos : Pos} {whole : Sem Value} {P : Bool → Heap → Prop}
    (r₁ : Ru c A (eval l env) h fun a h₁ => Ru c A (eval r env) h₁ fun b h₂ => Ru c A (compareOp op a b) h₂ fun v h₃ => ∃ t, v = .bool t ∧ P t h₃)
    (hm : behindInMarks op r = false := by with_unfolding_all rfl) : Ru c A (isTrue (.Compare l [op] [r] pos) env whole) h P :=
  fun _ _ => wpAny_isTrue_Compare1 (r₁.into fun _ _ _ q => q.into fun _ _ _ q => q.into fun _ _ _ ⟨_, e, q⟩ => by subst e; exact wpAny_truthy_bool (good_at q)) hm
theorem Ru.testIn {l r : Expr} {op : CmpOp} {pos : Pos} {whole : Sem Value} {P : Bool → Heap → Prop}
    (r₁ : Ru c A (eval (.Compare l [op] [r] pos) env) h fun v h₃ => ∃ t, v = .bool t ∧ P t h₃)
    (hw : whole = eval (.Compare l [op] [r] pos) env := by rfl)
    (he : isTrue (.Compare l [op] [r] pos) env whole = (do let v ← whole; standAt (Expr.Compare l [op] [r] pos).pos; holding [v] (truthy v)) := by rfl) : Ru c A (isTrue (.Compare l [op] [r] pos) env whole) h P := by
  subst hw
  exact fun _ _ => isTrue_plain (r₁.into fun _ _ _ ⟨_, e, q⟩ => by subst e; exact wpAny_truthy_bool (good_at q)) he
theorem Ru.sub {value slice : Expr} {pos : Pos} (r₁ : Ru c A (eval value env) h fun o h₁ => Ru c A (eval slice env) h₁ fun i h₂ => Ru c A (subscriptTail value slice o i) h₂ P) : Ru c A (eval (.Subscript value slice pos) env) h P :=
  fun _ _ => Subscript_ (r₁.into fun _ _ _ q => q.into fun _ _ _ q => q _ _)
theorem Ru.tupE {elts : List Expr} {k : Nat} {pos : Pos} (r : Ru c A (spliced (backTo pos (starEach elts env))) h fun vs h₁ => Ru c A (newTuple vs) h₁ P) : Ru c A (eval (.Tuple elts k pos) env) h P :=
  fun _ _ => Tuple_ (r.into fun _ _ _ q => q _ _)
theorem Ru.lstE {elts : List Expr} {pos : Pos} (r : Ru c A (spliced (backTo pos (starEach elts env))) h fun vs h₁ => Ru c A (newList vs) h₁ P) : Ru c A (eval (.List elts pos) env) h P :=
  fun _ _ => List_ (r.into fun _ _ _ q => q _ _)
theorem Ru.spn {P : List Value → Heap → Prop} {pos : Pos} (p : P [] h) : Ru c A (spliced (backTo pos (starEach [] env))) h P := fun _ _ => spliced_nil (good_at p)
theorem Ru.spc {P : List Value → Heap → Prop} {pos : Pos} {e : Expr} {rest : List Expr} (r : Ru c A (eval e env) h fun v h₁ => Ru c A (spliced (backTo pos (starEach rest env))) h₁ fun vs h₂ => P (v :: vs) h₂)
    (he : starEach (e :: rest) env = (false, eval e env) :: starEach rest env := by rfl) : Ru c A (spliced (backTo pos (starEach (e :: rest) env))) h P :=
  fun _ _ => args_cons (r.into fun _ _ _ q => q.into fun _ _ k p => good_at (k' := k) p) he
theorem Ru.ifE {test body orelse : Expr} {pos : Pos} (r : Ru c A (isTrue test env (eval test env)) h fun b h₁ => if b then Ru c A (eval body env) h₁ P else Ru c A (eval orelse env) h₁ P) :
    Ru c A (eval (.IfExp test body orelse pos) env) h P :=
  fun k E => IfExp_ (r.into fun b h' k' q => by cases b <;> exact q k' E)

/-! statements -/
section
variable {P : Flow → Heap → Prop}
theorem Ru.nil (p : P .next h) : Ru c A (execs [] env) h P := fun _ _ => wpAny_execs_nil (good_at p)
theorem Ru.cons {st : Stmt} {rest : List Stmt} (r : Ru c A (exec st env) h fun f h₁ => match f with | .next => Ru c A (execs rest env) h₁ P | f => P f h₁) : Ru c A (execs (st :: rest) env) h P :=
  fun k E => wpAny_execs_cons (r.into fun f h' k' q => by cases f <;> first | exact q k' E | exact good_at (k' := k') q)
theorem Ru.ifS {test : Expr} {body orelse : List Stmt} {pos : Pos} (r : Ru c A (isTrue test env (eval test env)) h fun b h₁ => if b then Ru c A (execs body env) h₁ P else Ru c A (execs orelse env) h₁ P) :
    Ru c A (exec (.If test body orelse pos) env) h P :=
  fun k E => wpAny_If (r.into fun b h' k' q => by cases b <;> exact q k' E)
theorem Ru.ret {e : Expr} {pos : Pos} (r : Ru c A (eval e env) h fun v h₁ => P (.ret v) h₁) : Ru c A (exec (.Return (some e) pos) env) h P :=
  fun _ _ => wpAny_Return_some (r.into fun _ _ k p => good_at (k' := k) p)
theorem Ru.asg {x : Str} {pos' pos : Pos} {value : Expr} (r : Ru c A (eval value env) h fun v h₁ => Ru c A (storeName env x v) h₁ fun _ h₂ => P .next h₂)
    (hs : swapsWith value (some (.Name x pos')) pos.line env = pure false := by rfl) : Ru c A (exec (.Assign [.Name x pos'] value pos) env) h P :=
  fun _ _ => wpAny_Assign_Name (r.into fun _ _ _ q => q.into fun _ _ k p => good_at (k' := k) p) hs
theorem Ru.exprS {e : Expr} {pos : Pos} (r : Ru c A (eval e env) h fun v h₁ => v = .none ∧ P .next h₁) (hi : interactive env = false := by rfl) (hs : swapsWith e none pos.line env = pure false := by rfl) :
    Ru c A (exec (.Expr e pos) env) h P := fun _ _ => wpAny_Expr (r.into fun _ _ k ⟨e, p⟩ => by subst e; exact good_at (k' := k) p) hi hs
theorem Ru.store {x : Str} {v : Value} {m : Str → Option Value} {P : Unit → Heap → Prop} (n : h.Ns env.locals m)
    (p : ∀ h', h'.Ns env.locals (fun y => if y = x then some v else m y) → Gr [env.locals] h h' → P () h') (hl : env.kindOf x = some .local := by rfl)
    (hp : (env.scope.kind == .class || (env.scope.kind == .module && env.locals != env.globals)) = false := by rfl) : Ru c A (storeName env x v) h P :=
  fun _ _ => wpAny_storeName_local hl n (fun h' hn hs => good_at (p h' hn (Gr.extNs hs.extBut n))) hp
theorem Ru.storeC {x : Str} {v : Value} {a : Addr} {v₀ : Option Value} {P : Unit → Heap → Prop} (n : h.IsCell a v₀) (hc : env.cells.lookup x = some a)
    (p : ∀ h', h'.IsCell a (some v) → Gr [a] h h' → P () h') (hk : env.scope.kind = .function := by rfl) (hl : env.kindOf x = some .cell := by rfl) : Ru c A (storeName env x v) h P :=
  fun k _ => wpAny_storeName_cell hk hl hc n (fun h' hn hs => good_at (k' := k) (p h' hn (Gr.extCell hs.extBut n)))
end

/-! what is at a place -/
theorem Ru.tupAt {value slice : Expr} {a : Addr} {xs : Array Value} {k : Int} {u : Tok} {j : Nat} {v : Value} (t : IsTup h a xs) (lo : -(2 ^ 63) ≤ k) (hi : k < 2 ^ 63) (hj : seqIndex? k xs.size = some j) (hx : xs[j]? = some v) (p : P v h)
    (hs : subscripted slice false (.ref a) (.int k u) = operate [.ref a, .int k u] (getItem (.ref a) (.int k u)) := by with_unfolding_all rfl) : Ru c A (subscriptTail value slice (.ref a) (.int k u)) h P :=
  fun _ _ => tail_any (IsTup.typeIs t) F.slot_tuple_getitem.lookup (getItem_tuple t lo hi hj hx (good_at p)) hs
theorem Ru.lstAt {value slice : Expr} {a : Addr} {xs : Array Value} {k : Int} {u : Tok} {v : Value} (t : h.IsList a xs) (lo : 0 ≤ k) (hi : k < 2 ^ 63) (hx : xs[k.toNat]? = some v) (p : P v h)
    (hs : subscripted slice false (.ref a) (.int k u) = operate [.ref a, .int k u] (getItem (.ref a) (.int k u)) := by with_unfolding_all rfl) : Ru c A (subscriptTail value slice (.ref a) (.int k u)) h P :=
  fun _ _ => tail_any (Heap.IsList.typeIs t) F.slot_list_getitem.lookup (wpAny_getItem_list t lo hi hx (good_at p)) hs
theorem Ru.lstNeg {value slice : Expr} {a : Addr} {xs : Array Value} {k : Int} {u : Tok} {v : Value} (t : h.IsList a xs) (lo : k < 0) (l1 : -(xs.size : Int) ≤ k) (l2 : -(2 ^ 63) ≤ k) (hx : xs[(k + xs.size).toNat]? = some v) (p : P v h)
    (hs : subscripted slice false (.ref a) (.int k u) = operate [.ref a, .int k u] (getItem (.ref a) (.int k u)) := by with_unfolding_all rfl) : Ru c A (subscriptTail value slice (.ref a) (.int k u)) h P :=
  fun _ _ => tail_any (Heap.IsList.typeIs t) F.slot_list_getitem.lookup (wpAny_getItem_list_neg t lo l1 l2 hx (good_at p)) hs

/-! ints -/
section
variable {a b : Int} {t u : Tok}
theorem Ru.add (p : ∀ t, P (.int (a + b) t) h) : Ru c A (binaryOp .Add (.int a t) (.int b u)) h P := fun _ _ => add_int (good_at (p _))
theorem Ru.sb (p : ∀ t, P (.int (a - b) t) h) : Ru c A (binaryOp .Sub (.int a t) (.int b u)) h P := fun _ _ => sub_int (good_at (p _))
theorem Ru.mul (p : ∀ t, P (.int (a * b) t) h) (ok : IntMulOk a b) : Ru c A (binaryOp .Mult (.int a t) (.int b u)) h P := fun _ _ => mul_int (good_at (p _)) ok
theorem Ru.fdiv (hb : b ≠ 0) (p : ∀ t, P (.int (a.fdiv b) t) h) (ok : Builtin.divisionGoesByPylong a b = false) : Ru c A (binaryOp .FloorDiv (.int a t) (.int b u)) h P := fun _ _ => floordiv_int hb (good_at (p _)) (.inl ok)
theorem Ru.fmod (hb : b ≠ 0) (p : ∀ t, P (.int (a.fmod b) t) h) : Ru c A (binaryOp .Mod (.int a t) (.int b u)) h P := fun _ _ => mod_int' hb (good_at (p _))
theorem Ru.lt (p : P (.bool (decide (a < b))) h) : Ru c A (compareOp .Lt (.int a t) (.int b u)) h P := fun _ _ => wpAny_lt_int (good_at p)
theorem Ru.le (p : P (.bool (decide (a ≤ b))) h) : Ru c A (compareOp .LtE (.int a t) (.int b u)) h P := fun _ _ => le_int (good_at p)
theorem Ru.gt (p : P (.bool (decide (b < a))) h) : Ru c A (compareOp .Gt (.int a t) (.int b u)) h P := fun _ _ => gt_int (good_at p)
theorem Ru.ne (p : P (.bool (a != b)) h) : Ru c A (compareOp .NotEq (.int a t) (.int b u)) h P := fun _ _ => ne_int (good_at p)
end
theorem Ru.isNone (p : P (.bool true) h) : Ru c A (compareOp .Is .none .none) h P := fun _ _ => wpAny_is_self rfl (good_at p)
theorem Ru.refIsNone {a : Addr} (p : P (.bool false) h) : Ru c A (compareOp .Is (.ref a) .none) h P := fun _ _ => is_ref_none (good_at p)
/-! new ones -/
theorem Ru.newT {vs : List Value} (hz : vs.length ≤ sizeLine) (p : ∀ h', IsTup h' h.objs.size vs.toArray → Gr [] h h' → P (.ref h.objs.size) h') : Ru c A (newTuple vs) h P :=
  fun k _ => wpAny_newObj_type (good_at (c := c) (k' := k) (p (h.push { cls := .type "tuple", dict := none, data := .seq vs.toArray }) ⟨_, Heap.get?_push_size _ rfl, rfl, _, rfl⟩ (Gr.push _ _))) (by show vs.toArray.size ≤ sizeLine; rw [List.size_toArray]; exact hz)
theorem Ru.newL {vs : List Value} (hz : vs.length ≤ sizeLine) (p : ∀ h', IsL h' h.objs.size vs.toArray 0 → Gr [] h h' → P (.ref h.objs.size) h') : Ru c A (newList vs) h P :=
  fun k _ => wpAny_newObj_type (good_at (c := c) (k' := k) (p (h.push { cls := .type "list", dict := none, data := .seq vs.toArray }) (Heap.get?_push_size _ rfl) (Gr.push _ _))) (by show vs.toArray.size ≤ sizeLine; rw [List.size_toArray]; exact hz)
end
end Mink

/-! MkC -/
namespace Mink
open PySem PySem.W PyProof.Rows PySem.Calls

theorem IsL.obj {h : Heap} {l : Addr} {xs : Array Value} {n : Nat} (x : IsL h l xs n) : ∃ o, h.get? l = some o ∧ o.cls = .type "list" := ⟨_, x, rfl⟩
theorem Gr.lsu {h : Heap} {l : Addr} {xs : Array Value} {n : Nat} (x : IsL h l xs n) (f : Obj → Obj) : Gr [l] h (h.update l f) := Gr.extLs (Heap.SameBut.update ..).extBut x.isList

section
variable {c : Cx} {A : Around} {h : Heap} {env : Env} {P : Value → Heap → Prop}

/-! calls -/
theorem Ru.callN {x : Str} {p pos : Pos} {args : List Expr} (r : Ru c A (eval (.Name x p) env) h fun f h₁ => Ru c A (callWith pos f [] (backTo pos (starEach args env)) []) h₁ P) :
    Ru c A (eval (.Call (.Name x p) args [] pos) env) h P := fun _ _ => Call_Name rfl (r.into fun _ _ _ q => q _ _)
theorem Ru.withB {pos : Pos} {id : String} {first : List Value} {e : Expr} {rest : List Expr} (r : Ru c A (spliced (backTo pos (starEach (e :: rest) env))) h fun vs h₁ => Ru c A (call (.builtin id) (first ++ vs)) h₁ P)
    (he : starEach (e :: rest) env = (false, eval e env) :: starEach rest env := by rfl) (hp : (backTo pos (starEach rest env)).any (·.1) = false := by rfl) : Ru c A (callWith pos (.builtin id) first (backTo pos (starEach (e :: rest) env)) []) h P := by
  intro k E
  have r' := r k E
  rw [he] at r' ⊢
  refine callWith_builtin (by show (false || (backTo pos (starEach rest env)).any (·.1)) = false; rw [hp]; rfl) (evalArgs_plain (wpAny_mono r' (fun vs s' ⟨h', k', e, q⟩ => ?_) fun _ _ x => x))
  subst e
  exact q k' E
theorem Ru.withB0 {pos : Pos} {id : String} {first : List Value} (r : Ru c A (call (.builtin id) (first ++ [])) h P) : Ru c A (callWith pos (.builtin id) first (backTo pos (starEach [] env)) []) h P :=
  fun k E => callWith_builtin (args := []) rfl (PyProof.Rows.evalArgs_none (r k E))
theorem Ru.withF {pos : Pos} {a : Addr} {o : Obj} {fd : FuncData} {e : Expr} {rest : List Expr} (ho : o.data = .func fd)
    (r : Ru c A (spliced (backTo pos (starEach (e :: rest) env))) h fun vs h₁ => h₁.get? a = some o ∧ Ru c A (call (.ref a) vs) h₁ P)
    (he : starEach (e :: rest) env = (false, eval e env) :: starEach rest env := by rfl) (hp : (backTo pos (starEach rest env)).any (·.1) = false := by rfl) : Ru c A (callWith pos (.ref a) [] (backTo pos (starEach (e :: rest) env)) []) h P := by
  intro k E
  have r' := r k E
  rw [he] at r' ⊢
  refine callWith_of (P := fun h => h.get? a = some o) (by show ((false || (backTo pos (starEach rest env)).any (·.1)) || false) = false; rw [hp]; rfl) (fun h ha => ⟨.frame, .inl rfl, (Looks.ld (part := none) ha).andThen (by rw [ho]; exact .now)⟩)
    (evalArgs_plain (wpAny_mono r' (fun vs s' ⟨h', k', e, q⟩ => ?_) fun _ _ x => x))
  subst e
  exact ⟨q.1, q.2 k' E⟩
theorem Ru.meth {o : Expr} {name : Str} {apos pos : Pos} {args : List Expr} {T id : String}
    (pa : PlainAttrs T) (slot : Slot T name id) (hty : typeOf (.builtin id) = pure (.type "method_descriptor"))
    (r : Ru c A (eval o env) h fun ov h₁ => ∃ a ob, ov = .ref a ∧ h₁.get? a = some ob ∧ ob.cls = .type T ∧ ob.dict = none ∧ Ru c A (callWith pos (.builtin id) [ov] (backTo pos (starEach args env)) []) h₁ P)
    (hbase : attributeBase o name env (eval o env) = eval o env := by rfl)
    (hfew : ((backTo pos (starEach args env)).all (fun x => !x.1) && (backToKw pos (keywordEach [] env)).all (fun x => x.1.isSome)
      && decide (args.length + ([] : List Keyword).length + (if ([] : List Keyword).isEmpty then 0 else 1) < 30)) = true := by rfl)
    (hline : (apos.endLine == pos.line) = true := by rfl) : Ru c A (eval (.Call (.Attribute o name apos) args [] pos) env) h P :=
  fun k E => wpAny_Call_method hbase hfew hline pa slot hty (r.into fun ov h' k' ⟨a, ob, e, ho, hc, hd, q⟩ => by
    subst e
    exact ⟨⟨ob, ho, hc⟩, fun b e => by cases e; exact ⟨ob, ho, hd⟩, q k' E⟩)

/-- a def of the text, none of its names a cell -/
theorem Ru.callD {f : Addr} {o : Obj} {fd : FuncData} {body : List Stmt} {vs : List Value} {binds : List (Str × Value)} (hroom : A.depth < recursionLimit) (ho : h.get? f = some o) (hd : o.data = .func fd) (hl : h.NoLimit)
    (hcd : h.CodeRec fd.code fd.qualname) (hb : fd.body = .stmts body) (hbind : ∀ k, BindsTo (c.at h k) fd ⟨vs, []⟩ binds) (hcell : ∀ x ∈ fd.scope.names, x.2 ≠ .cell) (hloc : ∀ x ∈ binds, fd.scope.names.lookup x.1 = some .local)
    (r : ∀ h₁, h₁.Ns h.objs.size (fun x => binds.reverse.lookup x) → Gr [] h h₁ → Ru c (A.deeper (callEnv fd h.objs.size f)) (execs body (callEnv fd h.objs.size f)) h₁ fun fl h' => P (match fl with | .ret v => v | _ => .none) h')
    (hco : fd.scope.isCoroutine = false := by rfl) (hgen : fd.scope.isGenerator = false := by rfl) (hk : fd.scope.kind = .function := by rfl) : Ru c A (call (.ref f) vs) h P :=
  fun k E => wpAny_call (codeAny_call_def hroom ho hd hl hcd hb (hbind k) hcell hloc (fun h₁ hn hk₁ => (r h₁ hn (.of_keeps hk₁)).into fun _ _ k' p => good_at (k' := k') p) hco hgen hk)
/-- a def of the text with cells -/
theorem Ru.callC {f : Addr} {o : Obj} {fd : FuncData} {body : List Stmt} {vs : List Value} {binds : List (Str × Value)} (hroom : A.depth < recursionLimit) (ho : h.get? f = some o) (hd : o.data = .func fd) (hl : h.NoLimit)
    (hcd : h.CodeRec fd.code fd.qualname) (hb : fd.body = .stmts body) (hbind : bindArgs fd ⟨vs, []⟩ = pure binds) (hcl : fd.closure = [])
    (hkind : ∀ x ∈ binds, fd.scope.names.lookup x.1 = some .local ∨ (fd.scope.names.lookup x.1 = some .cell ∧ ((cellsFrom (h.objs.size + 1) fd.scope.names []).lookup x.1).isSome = true))
    (r : ∀ h₁, h₁.Ns h.objs.size (bindL (callEnvC fd h.objs.size f).kindOf binds fun _ => none) → Gr [] h h₁ →
      (∀ n a, (cellsFrom (h.objs.size + 1) fd.scope.names []).lookup n = some a → h₁.IsCell a (bindC (callEnvC fd h.objs.size f).kindOf binds (fun _ => none) n) ∧ h.objs.size < a) →
      Ru c (A.deeper (callEnvC fd h.objs.size f)) (execs body (callEnvC fd h.objs.size f)) h₁ fun fl h' => P (match fl with | .ret v => v | _ => .none) h')
    (hco : fd.scope.isCoroutine = false := by rfl) (hgen : fd.scope.isGenerator = false := by rfl) (hk : fd.scope.kind = .function := by rfl) : Ru c A (call (.ref f) vs) h P :=
  fun k E => wpAny_call (codeAny_call_cells hroom ho hd hl hcd hb hbind hcl hkind (fun s₁ X => by
    obtain ⟨h₁, tk, e, _⟩ := X.done
    subst e
    exact (r h₁ X.toInCall.ns (.of_keeps X.toInCall.keep) fun n a ha => ⟨X.cell n a ha, X.above n a (mem_of_lookup ha)⟩).into fun _ _ k' p => good_at (k' := k') p) hco hgen hk)

/-! lists -/
theorem Ru.appL {l : Addr} {xs : Array Value} {n : Nat} {x : Value} (t : IsL h l xs n) (hz : xs.size ≤ sizeLine) (p : ∀ h' n', IsL h' l (xs.push x) n' → Gr [l] h h' → P .none h') : Ru c A (call (.builtin "list.append") [.ref l, x]) h P :=
  fun k _ => call_meets F.slot_list_append ⟨_, t, rfl⟩ F.entry_list_append (F.args_list_append_2 _ _) (list_append l xs n x hz) ⟨t, good_at (c := c) (k' := k) (p _ _ (t.update (·.push x)) (Gr.lsu t _))⟩
theorem Ru.popL {l : Addr} {xs : Array Value} {n : Nat} {y : Value} {pos : Pos} (t : IsL h l xs n) (hz : xs.size ≤ sizeLine) (hy : xs[xs.size - 1]? = some y) (p : ∀ h' n', IsL h' l (xs.eraseIdxIfInBounds (xs.size - 1)) n' → Gr [l] h h' → P y h') :
    Ru c A (callWith pos (.builtin "list.pop") [.ref l] (backTo pos (starEach [] env)) []) h P :=
  fun k _ => PySem.P.pop_list t hy (good_at (c := c) (k' := k) (p _ _ (t.update fun xs' => xs'.eraseIdxIfInBounds (xs.size - 1)) (Gr.lsu t _))) hz
theorem Ru.insL {l : Addr} {xs : Array Value} {n : Nat} {i : Int} {u : Tok} {x : Value} (t : IsL h l xs n) (hz : xs.size ≤ sizeLine) (h0 : 0 ≤ i) (hi : i.toNat ≤ xs.size) (p : ∀ h' n', IsL h' l ((xs.extract 0 i.toNat).push x ++ xs.extract i.toNat) n' → Gr [l] h h' → P .none h') :
    Ru c A (call (.builtin "list.insert") [.ref l, .int i u, x]) h P := by
  intro k E
  have hf : Builtin.List.listFitsIndex i = true := by
    have hs : sizeLine = 16777216 := rfl
    unfold Builtin.List.listFitsIndex
    simp only [Bool.and_eq_true, decide_eq_true_eq]
    omega
  obtain ⟨G, hG⟩ : ∃ G : Array Value → Array Value, G = fun xs' => (have k := if i < 0 then (i + (xs'.size : Int)).toNat else min i.toNat xs'.size; (xs'.extract 0 k).push x ++ xs'.extract k) := ⟨_, rfl⟩
  have e : G xs = (xs.extract 0 i.toNat).push x ++ xs.extract i.toNat := by
    subst hG
    show ((xs.extract 0 (if i < 0 then (i + (xs.size : Int)).toNat else min i.toNat xs.size)).push x ++ xs.extract (if i < 0 then (i + (xs.size : Int)).toNat else min i.toNat xs.size)) = _
    rw [if_neg (by omega), Nat.min_eq_left hi]
  have q := t.update G
  rw [e] at q
  have m := AutoSeq1.list_insert_list_int_val_1 l xs n i u x (by simp [hf]) hz
  rw [← hG] at m
  exact call_meets F.slot_list_insert ⟨_, t, rfl⟩ F.entry_list_insert (F.args_list_insert_3 _ _ _) m ⟨t, good_at (c := c) (k' := k) (p _ _ q (Gr.lsu t _))⟩
theorem Ru.lenL {l : Addr} {xs : Array Value} (t : h.IsList l xs) (hz : xs.size ≤ sizeLine) (p : ∀ u, P (.int xs.size u) h) : Ru c A (call (.builtin "len") [.ref l]) h P :=
  fun _ _ => call_len_list t (by have hs : sizeLine = 16777216 := rfl; omega) (good_at (p _))
theorem Ru.addL {a b : Addr} {xs ys : Array Value} {n m : Nat} (s : IsL h a xs n) (t : IsL h b ys m) (hz : xs.size + ys.size ≤ sizeLine) (p : ∀ h', IsL h' h.objs.size (xs ++ ys) 0 → Gr [] h h' → P (.ref h.objs.size) h') :
    Ru c A (binaryOp .Add (.ref a) (.ref b)) h P :=
  fun k _ => PySem.P.add_list s t (good_at (c := c) (k' := k) (p _ (Heap.get?_push_size _ rfl) (Gr.push _ _))) hz
/-! cuts -/
theorem Ru.partN (p : P .none h) : Ru c A (valueOrNone (evalOpt none env)) h P := fun _ _ => wpAny_pure (good_at p)
theorem Ru.partE {e : Expr} (r : Ru c A (eval e env) h P) : Ru c A (valueOrNone (evalOpt (some e) env)) h P := r
theorem Ru.slc {lo hi st : Option Expr} {pos : Pos} (r : Ru c A (valueOrNone (evalOpt lo env)) h fun l h₁ => Ru c A (valueOrNone (evalOpt hi env)) h₁ fun u h₂ => Ru c A (valueOrNone (evalOpt st env)) h₂ fun k h₃ =>
      ∀ h₄ a, h₄.IsSliceOf a l u k → Gr [] h₃ h₄ → h₃.get? a = none → P (.ref a) h₄) : Ru c A (eval (.Slice lo hi st pos) env) h P := by
  intro k E
  rw [arm_eval_Slice]
  refine wpAny_bind (r.into fun l h₁ k₁ q => wpAny_bind (wpAny_holding (q.into fun u h₂ k₂ q => wpAny_bind (wpAny_holding (q.into fun s h₃ k₃ q => ?_)))))
  exact wpAny_newObj_type (good_at (c := c) (k' := k₃) (q _ _ (Heap.IsSliceOf.new ..) (Gr.push _ _) (fresh_size _))) (by show (3 : Nat) ≤ sizeLine + 2; decide)
theorem Ru.lstCut {value slice : Expr} {l sl : Addr} {xs : Array Value} {vl vu vk : Value} {lo hi st : Option Int} (t : h.IsList l xs) (hz : xs.size ≤ sizeLine) (s : h.IsSliceOf sl vl vu vk) (pl : IsPart vl lo) (pu : IsPart vu hi) (pk : IsPart vk st) (h0 : st ≠ some 0)
    (p : ∀ h' a, IsL h' a (slicePick xs lo hi st) 0 → Gr [] h h' → h.get? a = none → P (.ref a) h')
    {ops : List Value} (hs : subscripted slice false (.ref l) (.ref sl) = operate ops (getItem (.ref l) (.ref sl)) := by with_unfolding_all rfl) : Ru c A (subscriptTail value slice (.ref l) (.ref sl)) h P :=
  fun k _ => tail_any (Heap.IsList.typeIs t) F.slot_list_getitem.lookup (wpAny_getItem_list_slice t s pl pu pk h0 (good_at (c := c) (k' := k) (p _ _ (Heap.get?_push_size _ rfl) (Gr.push _ _) (fresh_size _))) hz) hs

/-! targets -/
theorem Ru.aNil {xs : List Value} {P : Unit → Heap → Prop} (p : P () h) : Ru c A (assignInOrder [] xs) h P := fun _ _ => assignInOrder_nil (good_at p)
theorem Ru.aCons {t : Value → Sem Unit} {ts : List (Value → Sem Unit)} {x : Value} {xs : List Value} {P : Unit → Heap → Prop} (r : Ru c A (t x) h fun _ h₁ => Ru c A (assignInOrder ts xs) h₁ P) : Ru c A (assignInOrder (t :: ts) (x :: xs)) h P :=
  fun _ _ => assignInOrder_cons (r.into fun _ _ _ q => q _ _)
theorem Ru.aName {x : Str} {pos : Pos} {v : Value} {P : Unit → Heap → Prop} (r : Ru c A (storeName env x v) h P) : Ru c A (assign (.Name x pos) env v) h P := fun _ _ => wpAny_assign_Name (r _ _)
theorem Ru.aTup {elts : List Expr} {x1 : Nat} {pos : Pos} {t : Addr} {xs : List Value} {P : Unit → Heap → Prop} (hh : A.handled = none) (ht : IsTup h t xs.toArray)
    (r : ∀ h', Gr [] h h' → Ru c A (assignInOrder ((assignEach elts env).map (·.2)) xs) h' P)
    (hn : (assignEach elts env).length = xs.length := by rfl) (hstar : (assignEach elts env).findIdx? (·.1) = none := by rfl) : Ru c A (assign (.Tuple elts x1 pos) env (.ref t)) h P :=
  fun k E => assign_Tuple_tuple hh ht (by rw [hn]; simp) hstar fun h' he => by
    have g : Gr [] h h' := .of_keeps fun b o e => he b o (Nat.ne_of_lt (Heap.lt_size e)) e
    simpa using r h' g k E

/-! what is gone through -/
/-- an iterator of n steps: V says of each its value; of the heap st -/
structure Src (c : Cx) (A : Around) (I : Addr) (n : Nat) (V : Nat → Value → Prop) (st : Nat → Heap → Prop) : Prop where
  next : ∀ i h P, i < n → st i h → (∀ v h', V i v → st (i + 1) h' → Gr [I] h h' → P (some v) h') → Ru c A (pyNext (.ref I)) h P
  stop : ∀ h P, st n h → (∀ h', Gr [I] h h' → P none h') → Ru c A (pyNext (.ref I)) h P
  own : ∀ i h target v P, st i h → P () h → Ru c A (letOwnedTupleGo target (.ref I) v) h P
  self : ∀ i h P, st i h → P (.ref I) h → Ru c A (pyIter (.ref I)) h P

theorem own_ok {I : Addr} {o : Obj} {T : String} {vs : Array Value} {target : Expr} {v : Value} {P : Unit → Heap → Prop} (ho : h.get? I = some o) (hc : o.cls = .type T) (hd : o.data = .fields vs)
    (hT : (["enumerate", "zip", "dict_itemiterator", "dict_reverseitemiterator", "odict_iterator", "itertools.zip_longest", "itertools.pairwise"] : List String).contains T = false) (p : P () h) : Ru c A (letOwnedTupleGo target (.ref I) v) h P := by
  intro k E
  cases target <;> first | exact wpAny_pure (good_at p) | skip
  all_goals (
    cases v <;> first | exact wpAny_pure (good_at p) | skip
    show wpAny _ _ (load I >>= _) _ _ _
    refine wpAny_bind (wpAny_load ho ?_)
    obtain ⟨oc, od, odt, osl⟩ := o
    simp only at hc hd
    subst hc hd
    dsimp only
    rw [hT, Bool.false_and, if_neg (by simp)]
    exact wpAny_pure (good_at p))

theorem Src.list {I l : Addr} {xs : Array Value} (hh : A.handled = none) (hne : l ≠ I) : Src c A I xs.size (fun i v => xs[i]? = some v) (fun i h => h.IsListIter I l i ∧ h.IsList l xs) where
  next := fun i h P hi st p k E => by
    refine wpAny_pyNext_list_item st.1 st.2 (x := xs[i]) (by simp [hi]) fun h' hit hs => ?_
    exact good_at (c := c) (k' := k) (p _ h' (by simp [hi]) ⟨hit, st.2.extBut hs.extBut hne⟩ (Gr.extIt hs.extBut st.1))
  stop := fun h P st p k E => wpAny_pyNext_list_end hh st.1 st.2 (by simp) fun h' he => good_at (c := c) (k' := k) (p h' (Gr.extIt he st.1))
  own := fun i h target v P st p => by
    obtain ⟨o, ho, hc, hd⟩ := st.1
    exact own_ok ho hc hd (by decide) p
  self := fun _ _ _ st p _ _ => wpAny_pyIter_listiter st.1 (good_at p)
theorem Ru.iterL {l : Addr} {xs : Array Value} (t : h.IsList l xs) (p : ∀ I h', h.get? I = none → h'.IsListIter I l 0 → Gr [] h h' → P (.ref I) h') : Ru c A (pyIter (.ref l)) h P :=
  fun k _ => wpAny_pyIter_list t (good_at (c := c) (k' := k) (p _ _ (fresh_size _) ⟨_, Heap.get?_push_size _ rfl, rfl, rfl⟩ (Gr.push _ _)))
end

/-! the two loops of statements -/
section
variable {c : Cx} {A : Around} {h : Heap} {env : Env} {P : Flow → Heap → Prop}
theorem Ru.whileS {test : Expr} {body : List Stmt} {pos : Pos} (J : Nat → Heap → Prop)
    (turn : ∀ n h, J n h → Ru c A (isTrue test env (eval test env)) h fun b h₁ => if b then Ru c A (execs body env) h₁ fun f h₂ => match f with | .next | .cont => ∃ m, m < n ∧ J m h₂ | .brk => P .next h₂ | .ret v => P (.ret v) h₂ else P .next h₁)
    {n : Nat} (j : J n h) : Ru c A (exec (.While test body [] pos) env) h P := by
  intro k E
  refine wpAny_While (codeAny_whileLoop (fun n s => ∃ h k, s = c.at h k ∧ J n h) (fun n s ⟨h, k, e, j⟩ => ?_) n ⟨h, k, rfl, j⟩)
  subst e
  refine (turn n h j).into fun b h₁ k₁ q => ?_
  cases b with
  | true =>
    refine q.into fun f h₂ k₂ q => ?_
    cases f with
    | next => obtain ⟨m, hm, jm⟩ := q; exact ⟨m, hm, h₂, k₂, rfl, jm⟩
    | cont => obtain ⟨m, hm, jm⟩ := q; exact ⟨m, hm, h₂, k₂, rfl, jm⟩
    | brk => exact good_at (k' := k₂) q
    | ret v => exact good_at (k' := k₂) q
  | false => exact wpAny_execs_nil (good_at (k' := k₁) q)

theorem Ru.forS {target iter : Expr} {body : List Stmt} {pos : Pos}
    (r : Ru c A (eval iter env) h fun x h₁ => Ru c A (pyIter x) h₁ fun it h₂ => ∃ I n V st, it = .ref I ∧ Src c A I n V st ∧ ∃ J : Nat → Heap → Prop, J 0 h₂ ∧ (∀ i h, J i h → st i h) ∧
      (∀ i h h' v, i < n → J i h → V i v → st (i + 1) h' → Gr [I] h h' → Ru c A (assign target env v) h' fun _ h₃ => Ru c A (execs body env) h₃ fun f h₄ => match f with | .next | .cont => J (i + 1) h₄ | .brk => P .next h₄ | .ret v => P (.ret v) h₄) ∧
      (∀ h h', J n h → Gr [I] h h' → P .next h'))
    (hs : ∀ x, foldedSetIterable iter env x = Pure.pure x := by intro _; rfl) : Ru c A (exec (.For target iter body [] pos) env) h P := by
  intro k E
  refine wpAny_For (r.into fun x h₁ k₁ q => q.into fun it h₂ k₂ hh => ?_) hs
  obtain ⟨I, n, V, st, e, S, J, j0, js, turn, fin⟩ := hh
  subst e
  refine codeAny_loop' rfl (fun m s => ∃ h k i, s = c.at h k ∧ J i h ∧ i ≤ n ∧ m = n - i) (fun m s ⟨h, k, i, e, j, hi, hm⟩ => ?_) n ⟨h₂, k₂, 0, rfl, j0, Nat.zero_le _, rfl⟩
  subst e
  show wpAny _ _ ((forTurn target (.ref I) body [] env).onRaise (fun x => do noteFrame x env; theTreesLotGoes x)) _ _ _
  refine wpAny_noted ?_
  simp only [forTurn]
  refine wpAny_bind (wpAny_standAt (wpAny_bind (wpAny_onRaise ?_)))
  by_cases hlt : i < n
  · refine (S.next i h (fun r h' => ∃ v, r = some v ∧ V i v ∧ st (i + 1) h' ∧ Gr [I] h h') hlt (js i h j) fun v h' hv hst g => ⟨v, rfl, hv, hst, g⟩).into fun r h' k' ⟨v, e, hv, hst, g⟩ => ?_
    subst e
    dsimp only
    refine wpAny_bind ((S.own (i + 1) h' target v (fun _ h'' => h'' = h') hst rfl).into fun _ h'' k'' e => ?_)
    subst e
    refine wpAny_bind ((turn i h h'' v hlt j hv hst g).into fun _ h₃ k₃ q => wpAny_bind (q.into fun f h₄ k₄ q => ?_))
    cases f with
    | next => exact wpAny_pure (.inl ⟨rfl, n - (i + 1), by omega, h₄, k₄, i + 1, rfl, q, hlt, rfl⟩)
    | cont => exact wpAny_pure (.inl ⟨rfl, n - (i + 1), by omega, h₄, k₄, i + 1, rfl, q, hlt, rfl⟩)
    | brk => exact wpAny_pure (good_at (k' := k₄) q)
    | ret v => exact wpAny_pure (good_at (k' := k₄) q)
  · have hi' : i = n := by omega
    subst hi'
    refine (S.stop h (fun r h' => r = none ∧ Gr [I] h h') (js i h j) fun h' g => ⟨rfl, g⟩).into fun r h' k' ⟨e, g⟩ => ?_
    subst e
    exact wpAny_pure (.inr ⟨rfl, codeAny_block (wpAny_execs_nil (good_at (k' := k') (fin h h' j g)))⟩)
end
end Mink

/-! MkD -/
namespace Mink
open PySem PySem.W PyProof.Rows PySem.Calls

noncomputable def RuK (c : Cx) (A : Around) (code : Code) (h : Heap) (P : Flow → Heap → Prop) : Prop :=
  ∀ (k : Nat) (R : Result → Shared → Prop), (∀ f h' k', P f h' → R (.ok f) (c.at h' k')) → codeAny (model c.prog c.w) A code R (c.at h k)

/-- the tests of a comprehension's for -/
noncomputable def tests (ifs : List Expr) (env : Env) : Sem Bool := forIn ifs true fun c r => if r = true then do let ok ← isTrue c env (eval c env); pure (ForInStep.yield ok) else pure (ForInStep.yield r)
theorem compTurn_in (elt t₁ i₁ t₂ i₂ : Expr) (scope : Scope) (pos : Pos) (it acc : Value) (env : Env) :
    compTurn (.ListComp elt [⟨t₁, i₁, [], 0⟩, ⟨t₂, i₂, [], 0⟩] scope pos) 0 it acc env = (do
      standAt i₁.pos
      match ← pyNext it with
      | none => pure (.done .next)
      | some v =>
        letOwnedTupleGo t₁ it v
        assign t₁ env v
        let x ← eval i₂ env
        standAt i₂.pos
        let x ← foldedSetIterable i₂ env x
        let _ ← runOwn (.compStart (.ListComp elt [⟨t₁, i₁, [], 0⟩, ⟨t₂, i₂, [], 0⟩] scope pos) 1 (← holding [x] (pyIter x)) acc env) env
        again (.compLoop (.ListComp elt [⟨t₁, i₁, [], 0⟩, ⟨t₂, i₂, [], 0⟩] scope pos) 0 it acc env)) := by rfl
theorem compTurn_last (elt t₁ i₁ t₂ i₂ : Expr) (scope : Scope) (pos : Pos) (it acc : Value) (env : Env) :
    compTurn (.ListComp elt [⟨t₁, i₁, [], 0⟩, ⟨t₂, i₂, [], 0⟩] scope pos) 1 it acc env = (do
      standAt i₂.pos
      match ← pyNext it with
      | none => pure (.done .next)
      | some v =>
        letOwnedTupleGo t₂ it v
        assign t₂ env v
        (do let _ ← call (.builtin "list.append") [acc, ← eval elt env])
        again (.compLoop (.ListComp elt [⟨t₁, i₁, [], 0⟩, ⟨t₂, i₂, [], 0⟩] scope pos) 1 it acc env)) := by rfl

section
variable {c : Cx} {A : Around} {h : Heap} {env : Env}

/-- a comprehension of one for, with tests -/
theorem RuK.one {elt target iter : Expr} {ifs : List Expr} {scope : Scope} {pos : Pos} {I : Addr} {acc : Value} {n : Nat} {V : Nat → Value → Prop} {st : Nat → Heap → Prop} {P : Flow → Heap → Prop}
    (S : Src c A I n V st) (J : Nat → Heap → Prop) (j0 : J 0 h) (js : ∀ i h, J i h → st i h)
    (turn : ∀ i h h' v, i < n → J i h → V i v → st (i + 1) h' → Gr [I] h h' → Ru c A (assign target env v) h' fun _ h₃ => Ru c A (tests ifs env) h₃ fun ok h₄ =>
      if ok = true then Ru c A (eval elt env) h₄ fun x h₅ => Ru c A (call (.builtin "list.append") [acc, x]) h₅ fun _ h₆ => J (i + 1) h₆ else J (i + 1) h₄)
    (fin : ∀ h h', J n h → Gr [I] h h' → P .next h') : RuK c A (.compLoop (.ListComp elt [⟨target, iter, ifs, 0⟩] scope pos) 0 (.ref I) acc env) h P := by
  intro k R hR
  refine codeAny_loop rfl (fun m s => ∃ h k i, s = c.at h k ∧ J i h ∧ i ≤ n ∧ m = n - i) (fun m s ⟨h, k, i, e, j, hi, hm⟩ => ?_) n ⟨h, k, 0, rfl, j0, Nat.zero_le _, rfl⟩
  subst e
  show wpAny _ A ((compTurn (.ListComp elt [⟨target, iter, ifs, 0⟩] scope pos) 0 (.ref I) acc env).onRaise (fun x => do noteFrame x env; theTreesLotGoes x)) _ _ _
  refine wpAny_noted ?_
  rw [compTurn_list]
  refine wpAny_bind (wpAny_standAt (wpAny_bind ?_))
  by_cases hlt : i < n
  · refine (S.next i h (fun r h' => ∃ v, r = some v ∧ V i v ∧ st (i + 1) h' ∧ Gr [I] h h') hlt (js i h j) fun v h' hv hst g => ⟨v, rfl, hv, hst, g⟩).into fun r h' k' ⟨v, e, hv, hst, g⟩ => ?_
    subst e
    dsimp only
    refine wpAny_bind ((S.own (i + 1) h' target v (fun _ h'' => h'' = h') hst rfl).into fun _ h'' k'' e => ?_)
    subst e
    refine wpAny_bind ((turn i h h'' v hlt j hv hst g).into fun _ h₃ k₃ q => ?_)
    refine wpAny_bind (wpAny_mono (q k₃ _) (fun ok s₄ ⟨h₄, k₄, e, q⟩ => ?_) fun _ _ x => x)
    subst e
    cases ok with
    | false => exact wpAny_pure ⟨rfl, n - (i + 1), by omega, h₄, k₄, i + 1, rfl, q, hlt, rfl⟩
    | true =>
      exact wpAny_bind (wpAny_bind (Ru.into q fun x h₅ k₅ q => wpAny_bind (q.into fun _ h₆ k₆ q => wpAny_pure (wpAny_pure ⟨rfl, n - (i + 1), by omega, h₆, k₆, i + 1, rfl, q, hlt, rfl⟩))))
  · have hi' : i = n := by omega
    subst hi'
    refine (S.stop h (fun r h' => r = none ∧ Gr [I] h h') (js i h j) fun h' g => ⟨rfl, g⟩).into fun r h' k' ⟨e, g⟩ => ?_
    subst e
    exact wpAny_pure (hR _ _ _ (fin h h' j g))

/-- the inner for of two -/
theorem RuK.last {elt t₁ i₁ t₂ i₂ : Expr} {scope : Scope} {pos : Pos} {I : Addr} {acc : Value} {n : Nat} {V : Nat → Value → Prop} {st : Nat → Heap → Prop} {P : Flow → Heap → Prop}
    (S : Src c A I n V st) (J : Nat → Heap → Prop) (j0 : J 0 h) (js : ∀ i h, J i h → st i h)
    (turn : ∀ i h h' v, i < n → J i h → V i v → st (i + 1) h' → Gr [I] h h' → Ru c A (assign t₂ env v) h' fun _ h₃ =>
      Ru c A (eval elt env) h₃ fun x h₅ => Ru c A (call (.builtin "list.append") [acc, x]) h₅ fun _ h₆ => J (i + 1) h₆)
    (fin : ∀ h h', J n h → Gr [I] h h' → P .next h') : RuK c A (.compLoop (.ListComp elt [⟨t₁, i₁, [], 0⟩, ⟨t₂, i₂, [], 0⟩] scope pos) 1 (.ref I) acc env) h P := by
  intro k R hR
  refine codeAny_loop rfl (fun m s => ∃ h k i, s = c.at h k ∧ J i h ∧ i ≤ n ∧ m = n - i) (fun m s ⟨h, k, i, e, j, hi, hm⟩ => ?_) n ⟨h, k, 0, rfl, j0, Nat.zero_le _, rfl⟩
  subst e
  show wpAny _ A ((compTurn (.ListComp elt [⟨t₁, i₁, [], 0⟩, ⟨t₂, i₂, [], 0⟩] scope pos) 1 (.ref I) acc env).onRaise (fun x => do noteFrame x env; theTreesLotGoes x)) _ _ _
  refine wpAny_noted ?_
  rw [compTurn_last]
  refine wpAny_bind (wpAny_standAt (wpAny_bind ?_))
  by_cases hlt : i < n
  · refine (S.next i h (fun r h' => ∃ v, r = some v ∧ V i v ∧ st (i + 1) h' ∧ Gr [I] h h') hlt (js i h j) fun v h' hv hst g => ⟨v, rfl, hv, hst, g⟩).into fun r h' k' ⟨v, e, hv, hst, g⟩ => ?_
    subst e
    dsimp only
    refine wpAny_bind ((S.own (i + 1) h' t₂ v (fun _ h'' => h'' = h') hst rfl).into fun _ h'' k'' e => ?_)
    subst e
    refine wpAny_bind ((turn i h h'' v hlt j hv hst g).into fun _ h₃ k₃ q => ?_)
    exact wpAny_bind (wpAny_bind (Ru.into q fun x h₅ k₅ q => wpAny_bind (q.into fun _ h₆ k₆ q => wpAny_pure (wpAny_pure ⟨rfl, n - (i + 1), by omega, h₆, k₆, i + 1, rfl, q, hlt, rfl⟩))))
  · have hi' : i = n := by omega
    subst hi'
    refine (S.stop h (fun r h' => r = none ∧ Gr [I] h h') (js i h j) fun h' g => ⟨rfl, g⟩).into fun r h' k' ⟨e, g⟩ => ?_
    subst e
    exact wpAny_pure (hR _ _ _ (fin h h' j g))

theorem Ru.tests0 {P : Bool → Heap → Prop} (p : P true h) : Ru c A (tests [] env) h P := fun _ _ => wpAny_tests_nil (good_at p)
theorem Ru.tests1 {e : Expr} {P : Bool → Heap → Prop} (r : Ru c A (isTrue e env (eval e env)) h P) : Ru c A (tests [e] env) h P := fun k E => wpAny_tests_one (r k E)
theorem RuK.start {e : Expr} {d : Nat} {I : Addr} {acc : Value} {env : Env} {P : Flow → Heap → Prop} (hg : ((clausesOf e)[d]?).elim false (·.is_async != 0) = false) (hf : (Code.compStart e d (.ref I) acc env).isFrame = false)
    (hw : (Code.compStart e d (.ref I) acc env).weight = 0) (hu : (Code.compStart e d (.ref I) acc env).cUnits = 0) (hq : (Code.compLoop e d (.ref I) acc env).quiet = true)
    (self : ∀ P : Value → Heap → Prop, P (.ref I) h → Ru c A (pyIter (.ref I)) h P) (r : RuK c A (.compLoop e d (.ref I) acc env) h P) : RuK c A (.compStart e d (.ref I) acc env) h P := by
  intro k R hR
  have r' := r k R hR
  refine codeAny_of_tree ?_
  rw [Around.under_of_weight hw hu]
  show wpAny _ _ (if (Code.compStart e d (.ref I) acc env).isFrame then (compStart e d (.ref I) acc env).onRaise (leaving env) else (compStart e d (.ref I) acc env).onRaise (fun x => do noteFrame x env; standAt theWindowsPlace)) _ _ _
  rw [hf, if_neg (by simp)]
  refine wpAny_notedAt ?_
  unfold compStart
  rw [hg, if_neg (by simp)]
  refine wpAny_bind (wpAny_askSetting (wpAny_ite ?_))
  have go : ∀ k', codeAny (model c.prog c.w) A (.compLoop e d (.ref I) acc env) R (c.at h k') := fun k' => r k' R hR
  split
  · exact wpAny_bind (wpAny_pure (wpAny_pure ⟨hq, r'⟩))
  · refine wpAny_bind (wpAny_rule ?_)
    have fin : ∀ k₀, wpAny (model c.prog c.w) A (pyIter (.ref I) >>= fun it => again (.compLoop e d it acc env)) (fun fin s' => match fin with | .done f => R (.ok f) s' | .again c' => c'.quiet = true ∧ codeAny (model c.prog c.w) A c' R s') (notedBy (model c.prog c.w) A env fun e s' => R (.error e) s') (c.at h k₀) := fun k₀ =>
      wpAny_bind ((self (fun v h' => v = .ref I ∧ h' = h) ⟨rfl, rfl⟩).into fun v h' k' ⟨e1, e2⟩ => by subst e1 e2; exact wpAny_pure ⟨hq, go k'⟩)
    cases hx : (clausesOf e)[d]? with
    | none => exact fin k
    | some g => exact wpAny_bind (wpAny_standAt (fin k))

/-- the outer for of two -/
theorem RuK.outer {elt t₁ i₁ t₂ i₂ : Expr} {scope : Scope} {pos : Pos} {I : Addr} {acc : Value} {n : Nat} {V : Nat → Value → Prop} {st : Nat → Heap → Prop} {P : Flow → Heap → Prop}
    (S : Src c A I n V st) (J : Nat → Heap → Prop) (j0 : J 0 h) (js : ∀ i h, J i h → st i h)
    (turn : ∀ i h h' v, i < n → J i h → V i v → st (i + 1) h' → Gr [I] h h' → Ru c A (assign t₁ env v) h' fun _ h₃ =>
      Ru c A (eval i₂ env) h₃ fun x h₄ => Ru c A (pyIter x) h₄ fun it h₅ => RuK c A (.compStart (.ListComp elt [⟨t₁, i₁, [], 0⟩, ⟨t₂, i₂, [], 0⟩] scope pos) 1 it acc env) h₅ fun _ h₆ => J (i + 1) h₆)
    (fin : ∀ h h', J n h → Gr [I] h h' → P .next h') (hs : ∀ x, foldedSetIterable i₂ env x = Pure.pure x := by intro _; rfl) : RuK c A (.compLoop (.ListComp elt [⟨t₁, i₁, [], 0⟩, ⟨t₂, i₂, [], 0⟩] scope pos) 0 (.ref I) acc env) h P := by
  intro k R hR
  refine codeAny_loop rfl (fun m s => ∃ h k i, s = c.at h k ∧ J i h ∧ i ≤ n ∧ m = n - i) (fun m s ⟨h, k, i, e, j, hi, hm⟩ => ?_) n ⟨h, k, 0, rfl, j0, Nat.zero_le _, rfl⟩
  subst e
  show wpAny _ A ((compTurn (.ListComp elt [⟨t₁, i₁, [], 0⟩, ⟨t₂, i₂, [], 0⟩] scope pos) 0 (.ref I) acc env).onRaise (fun x => do noteFrame x env; theTreesLotGoes x)) _ _ _
  refine wpAny_noted ?_
  rw [compTurn_in]
  refine wpAny_bind (wpAny_standAt (wpAny_bind ?_))
  by_cases hlt : i < n
  · refine (S.next i h (fun r h' => ∃ v, r = some v ∧ V i v ∧ st (i + 1) h' ∧ Gr [I] h h') hlt (js i h j) fun v h' hv hst g => ⟨v, rfl, hv, hst, g⟩).into fun r h' k' ⟨v, e, hv, hst, g⟩ => ?_
    subst e
    dsimp only
    refine wpAny_bind ((S.own (i + 1) h' t₁ v (fun _ h'' => h'' = h') hst rfl).into fun _ h'' k'' e => ?_)
    subst e
    refine wpAny_bind ((turn i h h'' v hlt j hv hst g).into fun _ h₃ k₃ q => ?_)
    refine wpAny_bind (q.into fun x h₄ k₄ q => wpAny_bind (wpAny_standAt ?_))
    rw [hs x]
    refine wpAny_bind (wpAny_pure (wpAny_bind (wpAny_holding (q.into fun it h₅ k₅ q => ?_))))
    refine wpAny_bind (wpAny_runOwn (q k₅ _ fun f h₆ k₆ q => ?_))
    exact wpAny_pure ⟨rfl, n - (i + 1), by omega, h₆, k₆, i + 1, rfl, q, hlt, rfl⟩
  · have hi' : i = n := by omega
    subst hi'
    refine (S.stop h (fun r h' => r = none ∧ Gr [I] h h') (js i h j) fun h' g => ⟨rfl, g⟩).into fun r h' k' ⟨e, g⟩ => ?_
    subst e
    exact wpAny_pure (hR _ _ _ (fin h h' j g))

/-- the whole -/
theorem Ru.comp {elt target iter : Expr} {ifs : List Expr} {rest : List Comprehension} {scope : Scope} {pos : Pos} {cl : List (Str × Addr)} {P : Value → Heap → Prop} (hclos : closureFor scope env = Pure.pure cl)
    (r : Ru c A (eval iter env) h fun x h₁ => Ru c A (pyIter x) h₁ fun it h₂ => ∃ I, it = .ref I ∧ ∀ D C h₃, h₂.get? D = none → h₂.get? C = none → D ≠ C → Gr [] h₂ h₃ → IsL h₃ D #[] 0 → h₃.Ns C (fun _ => none) →
      (∀ P : Value → Heap → Prop, P (.ref I) h₃ → Ru c A (pyIter (.ref I)) h₃ P) ∧
      RuK c A (.compLoop (.ListComp elt (⟨target, iter, ifs, 0⟩ :: rest) scope pos) 0 (.ref I) (.ref D) (compEnvC scope cl C env)) h₃ fun _ h₄ => ∃ m, h₄.Ns C m ∧ ∀ h₅, Gr [C] h₄ h₅ → P (.ref D) h₅)
    (hcell : ∀ y ∈ scope.names, y.2 ≠ .cell := by decide) (hkind : scope.kind = .function := by rfl) (hnames : ∀ y ∈ scope.names, y.2 = .local → scope.names.lookup y.1 = some .local := by decide)
    (hs : ∀ x, foldedSetIterable iter env x = Pure.pure x := by intro _; rfl) : Ru c A (eval (.ListComp elt (⟨target, iter, ifs, 0⟩ :: rest) scope pos) env) h P := by
  intro k E
  rw [eval_ListComp]
  refine wpAny_comprehension_free (use := none) rfl hs hclos hkind hnames (r.into fun x h₁ k₁ q => q.into fun it h₂ k₂ hh => ?_)
  obtain ⟨I, e, q⟩ := hh
  subst e
  refine wpAny_newObj_type (wpAny_newFunctionEnv hcell (by intro y hy; simp at hy) (fun h₄ hn hsb => ?_) hkind)
  dsimp only at hn hsb ⊢
  have g : Gr [] h₂ h₄ := .of_keeps fun b o e => hsb.extBut b o (Nat.ne_of_lt (Nat.lt_of_lt_of_le (Heap.lt_size e) (by show _ ≤ (h₂.push _).objs.size; rw [Heap.size_push]; exact Nat.le_succ _))) (Heap.get?_push_of_some _ (Heap.get?_push_of_some _ e))
  have hDC : h₂.objs.size ≠ (h₂.push { cls := .type "list", dict := none, data := .seq ([] : List Value).toArray }).objs.size := by rw [Heap.size_push]; exact Nat.ne_of_lt (Nat.lt_succ_self _)
  have hD : IsL h₄ h₂.objs.size #[] 0 := hsb.extBut _ _ hDC (Heap.get?_push_of_some _ (Heap.get?_push_size _ rfl))
  obtain ⟨self, loop⟩ := q h₂.objs.size _ h₄ (fresh_size _) (Heap.get?_none_of_le (by rw [Heap.size_push]; exact Nat.le_succ _)) hDC g hD hn
  have st := RuK.start (c := c) (A := A) (e := .ListComp elt (⟨target, iter, ifs, 0⟩ :: rest) scope pos) (d := 0) (acc := .ref h₂.objs.size) (env := compEnvC scope cl (h₂.push { cls := .type "list", dict := none, data := .seq ([] : List Value).toArray }).objs.size env) rfl rfl rfl rfl rfl self loop
  refine st _ _ fun f h₅ k₅ hh => ?_
  obtain ⟨m, hm, q⟩ := hh
  exact ⟨m, hm, fun h₆ hs₆ => good_at (k' := k₅) (q h₆ (Gr.extNs hs₆.extBut hm))⟩
end
end Mink

/-! MkE -/
namespace Mink
open PySem PySem.W PyProof.Rows PySem.Calls

inductive All2 {α β : Type} (R : α → β → Prop) : List α → List β → Prop
  | nil : All2 R [] []
  | cons {a : α} {b : β} {as : List α} {bs : List β} : R a b → All2 R as bs → All2 R (a :: as) (b :: bs)
namespace All2
variable {α β : Type} {R S : α → β → Prop}
theorem length : ∀ {as : List α} {bs : List β}, All2 R as bs → as.length = bs.length
  | _, _, .nil => rfl
  | _, _, .cons _ t => by simp [t.length]
theorem mono (m : ∀ a b, R a b → S a b) : ∀ {as : List α} {bs : List β}, All2 R as bs → All2 S as bs
  | _, _, .nil => .nil
  | _, _, .cons h t => .cons (m _ _ h) (t.mono m)
theorem get : ∀ {as : List α} {bs : List β}, All2 R as bs → ∀ {i : Nat} {b : β}, bs[i]? = some b → ∃ a, as[i]? = some a ∧ R a b
  | _, _, .nil, i, b, e => by simp at e
  | _, _, .cons h t, 0, b, e => by simp at e; subst e; exact ⟨_, rfl, h⟩
  | _, _, .cons h t, i + 1, b, e => by simpa using t.get (i := i) (by simpa using e)
theorem getL : ∀ {as : List α} {bs : List β}, All2 R as bs → ∀ {i : Nat} {a : α}, as[i]? = some a → ∃ b, bs[i]? = some b ∧ R a b
  | _, _, .nil, i, b, e => by simp at e
  | _, _, .cons h t, 0, b, e => by simp at e; subst e; exact ⟨_, rfl, h⟩
  | _, _, .cons h t, i + 1, b, e => by simpa using t.getL (i := i) (by simpa using e)
theorem append : ∀ {as : List α} {bs : List β} {cs : List α} {ds : List β}, All2 R as bs → All2 R cs ds → All2 R (as ++ cs) (bs ++ ds)
  | _, _, _, _, .nil, k => k
  | _, _, _, _, .cons h t, k => .cons h (t.append k)
theorem one {a : α} {b : β} (h : R a b) : All2 R [a] [b] := .cons h .nil
theorem places : ∀ {as : List α} {bs : List β}, All2 R as bs → ∀ js : List Nat, All2 R (js.filterMap (as[·]?)) (js.filterMap (bs[·]?))
  | _, _, _, [] => .nil
  | as, bs, h, j :: js => by
    have ih := h.places js
    cases hb : bs[j]? with
    | some b =>
      obtain ⟨a, ha, r⟩ := h.get hb
      simp only [List.filterMap_cons, hb, ha]
      exact .cons r ih
    | none =>
      have ha : as[j]? = none := by
        rw [List.getElem?_eq_none_iff] at hb ⊢
        rw [h.length]; exact hb
      simp only [List.filterMap_cons, hb, ha]
      exact ih
theorem take : ∀ {as : List α} {bs : List β}, All2 R as bs → ∀ n, All2 R (as.take n) (bs.take n)
  | _, _, _, 0 => by simpa using .nil
  | _, _, .nil, n + 1 => by simpa using .nil
  | _, _, .cons h t, n + 1 => .cons h (t.take n)
theorem drop : ∀ {as : List α} {bs : List β}, All2 R as bs → ∀ n, All2 R (as.drop n) (bs.drop n)
  | _, _, h, 0 => h
  | _, _, .nil, n + 1 => .nil
  | _, _, .cons _ t, n + 1 => t.drop n
theorem reverse : ∀ {as : List α} {bs : List β}, All2 R as bs → All2 R as.reverse bs.reverse
  | _, _, .nil => .nil
  | _, _, .cons h t => by simpa using t.reverse.append (one h)
theorem mem {as : List α} {bs : List β} (h : All2 R as bs) {b : β} (m : b ∈ bs) : ∃ a ∈ as, R a b := by
  obtain ⟨i, e⟩ := List.getElem?_of_mem m
  obtain ⟨a, ha, r⟩ := h.get e
  exact ⟨a, List.mem_of_getElem? ha, r⟩
end All2

noncomputable abbrev Pt := Int × Int
noncomputable def IsPt (h : Heap) (v : Value) (p : Pt) : Prop := ∃ a t u, v = .ref a ∧ IsTup h a #[.int p.1 t, .int p.2 u]
noncomputable abbrev PtsAre (h : Heap) : List Value → List Pt → Prop := All2 (IsPt h)
theorem Gr.pt {X : List Addr} {h h' : Heap} (g : Gr X h h') {v : Value} {p : Pt} (x : IsPt h v p) : IsPt h' v p := let ⟨a, t, u, e, q⟩ := x; ⟨a, t, u, e, g.tup q⟩
theorem Gr.pts {X : List Addr} {h h' : Heap} (g : Gr X h h') {vs : List Value} {ps : List Pt} (x : PtsAre h vs ps) : PtsAre h' vs ps := x.mono fun _ _ q => g.pt q
/-- a list of points at a -/
noncomputable def PtL (h : Heap) (a : Addr) (ps : List Pt) : Prop := ∃ vs n, IsL h a (List.toArray vs) n ∧ PtsAre h vs ps
theorem PtL.gr {X : List Addr} {h h' : Heap} {a : Addr} {ps : List Pt} (x : PtL h a ps) (g : Gr X h h') (n : a ∉ X) : PtL h' a ps := let ⟨vs, k, l, p⟩ := x; ⟨vs, k, g.ls l n, g.pts p⟩
theorem PtL.gr0 {h h' : Heap} {a : Addr} {ps : List Pt} (x : PtL h a ps) (g : Gr [] h h') : PtL h' a ps := x.gr g (fun m => nomatch m)

/-! as data -/
noncomputable def pd (p : Pt) : PyData := .tuple [.int p.1, .int p.2]
theorem IsPt.reads {h : Heap} {v : Value} {p : Pt} (x : IsPt h v p) : Reads h v (pd p) [] := by
  obtain ⟨a, t, u, rfl, o, ho, hc, n, hd⟩ := x
  exact Reads.tuple (as := []) ho hc hd (ReadsAll.cons (as := []) (bs := []) (.int _ _) (ReadsAll.cons (as := []) (bs := []) (.int _ _) .nil))
theorem PtsAre.reads {h : Heap} {vs : List Value} {ps : List Pt} (x : PtsAre h vs ps) : ReadsAll h vs (ps.map pd) [] := by
  induction x with
  | nil => exact .nil
  | cons q _ ih => exact ReadsAll.cons (as := []) (bs := []) q.reads ih
theorem PtL.reads {h : Heap} {a : Addr} {ps : List Pt} (x : PtL h a ps) : Reads h (.ref a) (.list (ps.map pd)) [a] := by
  obtain ⟨vs, n, l, p⟩ := x
  exact Reads.list l rfl rfl (by simpa using p.reads)
theorem pd_eqv (p q : Pt) : PyData.eqv (pd p) (pd q) = decide (p = q) := by
  obtain ⟨a, b⟩ := p
  obtain ⟨x, y⟩ := q
  simp only [pd, PyData.eqv, PyData.eqvAll, Bool.and_true, Prod.mk.injEq]
  by_cases h1 : a = x <;> by_cases h2 : b = y <;> simp [h1, h2]
theorem pds_eqv : ∀ ps qs : List Pt, PyData.eqvAll (ps.map pd) (qs.map pd) = decide (ps = qs)
  | [], [] => by simp [PyData.eqvAll]
  | [], _ :: _ => by simp [PyData.eqvAll]
  | _ :: _, [] => by simp [PyData.eqvAll]
  | p :: ps, q :: qs => by
    simp only [List.map_cons, PyData.eqvAll, pd_eqv, pds_eqv ps qs]
    by_cases h1 : p = q <;> by_cases h2 : ps = qs <;> simp [h1, h2]
theorem pd_shaped (p : Pt) : SeqAt.shaped (pd p) = true := by simp [pd, SeqAt.shaped, PyData.canLay0, PyData.canLayAll0, PyData.depth, PyData.depthAll]
theorem pds_can : ∀ ps : List Pt, PyData.canLayAll0 (ps.map pd) = true
  | [] => rfl
  | p :: ps => by simp [PyData.canLayAll0, pd, PyData.canLay0, pds_can ps]
theorem pds_depth : ∀ ps : List Pt, PyData.depthAll (ps.map pd) ≤ 1
  | [] => by simp [PyData.depthAll]
  | p :: ps => by
    have := pds_depth ps
    simp only [List.map_cons, PyData.depthAll, pd, PyData.depth]
    omega
theorem pds_shaped (ps : List Pt) : SeqAt.shaped (.list (ps.map pd)) = true := by
  have := pds_depth ps
  have h2 : PyData.depthAll (ps.map pd) + 1 ≤ 64 := by omega
  simp only [SeqAt.shaped, PyData.canLay0, PyData.depth, pds_can, Bool.true_and]
  first | exact decide_eq_true h2 | simpa using h2 | (simp; omega)

theorem tup_lt_eq (a b : Addr) : Builtin.«tuple.__lt__» ⟨[.ref a, .ref b], []⟩ = (do
    if !(← isInstance (.ref b) (.type "tuple")) then return ← ret .notImplemented
    let xs ← Builtin.Tuple.tupleItemsOf (.ref a)
    let ys ← Builtin.Tuple.tupleItemsOf (.ref b)
    for (x, y) in xs.toList.zip ys.toList do
      if !(← eqBool x y) then
        rule "tuple.compare.by-the-first-pair-that-differs"; return ← ret (← richCompare .Lt x y)
    ret (Builtin.Tuple.tupleCompareSizes .Lt xs.size ys.size)) := rfl
section
variable {c : Cx} {A : Around} {h : Heap} {env : Env} {P : Value → Heap → Prop}
theorem Ru.neD {a b : Value} {da db : PyData} {as bs : List Addr} (ra : Reads h a da as) (rb : Reads h b db bs) (sa : SeqAt.shaped da = true) (sb : SeqAt.shaped db = true) (hu : A.units + 64 < cLine) (p : P (.bool !da.eqv db) h) :
    Ru c A (compareOp .NotEq a b) h P := fun _ _ => ne_dataH ra rb sa sb hu (good_at p)
theorem Ru.eqD {a b : Value} {da db : PyData} {as bs : List Addr} (ra : Reads h a da as) (rb : Reads h b db bs) (sa : SeqAt.shaped da = true) (sb : SeqAt.shaped db = true) (hu : A.units + 64 < cLine) (p : P (.bool (da.eqv db)) h) :
    Ru c A (compareOp .Eq a b) h P := fun _ _ => eq_dataH ra rb sa sb hu (good_at p)
theorem Ru.nePts {a b : Addr} {ps qs : List Pt} (x : PtL h a ps) (y : PtL h b qs) (hu : A.units + 64 < cLine) (p : P (.bool (decide (ps ≠ qs))) h) : Ru c A (compareOp .NotEq (.ref a) (.ref b)) h P := by
  refine Ru.neD x.reads y.reads (pds_shaped _) (pds_shaped _) hu ?_
  rw [show PyData.eqv (.list (ps.map pd)) (.list (qs.map pd)) = PyData.eqvAll (ps.map pd) (qs.map pd) from rfl, pds_eqv]
  simpa using p
theorem Ru.eqPts {a b : Addr} {ps qs : List Pt} (x : PtL h a ps) (y : PtL h b qs) (hu : A.units + 64 < cLine) (p : P (.bool (decide (ps = qs))) h) : Ru c A (compareOp .Eq (.ref a) (.ref b)) h P := by
  refine Ru.eqD x.reads y.reads (pds_shaped _) (pds_shaped _) hu ?_
  rw [show PyData.eqv (.list (ps.map pd)) (.list (qs.map pd)) = PyData.eqvAll (ps.map pd) (qs.map pd) from rfl, pds_eqv]
  exact p
theorem Ru.nePt {a b : Value} {p q : Pt} (x : IsPt h a p) (y : IsPt h b q) (hu : A.units + 64 < cLine) (z : P (.bool (decide (p ≠ q))) h) : Ru c A (compareOp .NotEq a b) h P := by
  refine Ru.neD x.reads y.reads (pd_shaped _) (pd_shaped _) hu ?_
  rw [pd_eqv]
  simpa using z

/-! ints under built-ins -/
theorem Ru.abs {a : Int} {t : Tok} (p : ∀ u, P (.int (if a < 0 then -a else a) u) h) : Ru c A (call (.builtin "abs") [.int a t]) h P := fun _ _ => call_abs_int fun u tk => good_at (c := c) (k' := tk) (p u)
theorem Ru.max2 {a b : Int} {t u : Tok} (hh : A.handled = none) (p : ∀ h' u, Gr [] h h' → P (.int (max a b) u) h') : Ru c A (call (.builtin "max") [.int a t, .int b u]) h P :=
  fun _ _ => max_two_ints hh fun h' tk k => by
    have q := p h'
    by_cases hb : b > a
    · rw [if_pos hb]
      exact good_at (c := c) (k' := tk) (by have := q u (.of_keeps k); rwa [show max a b = b by omega] at this)
    · rw [if_neg hb]
      exact good_at (c := c) (k' := tk) (by have := q t (.of_keeps k); rwa [show max a b = a by omega] at this)
theorem Ru.sumL {l : Addr} {vs : List Value} {ns : List Int} (hh : A.handled = none) (t : h.IsList l vs.toArray) (hi : IntsAre vs ns) (p : ∀ h' u, Gr [] h h' → P (.int ns.sum u) h') : Ru c A (call (.builtin "sum") [.ref l]) h P := by
  intro k E
  obtain ⟨xs, hx⟩ := hi.allInts.items
  have hn : numsOf vs.toArray.toList = ns := by rw [show vs.toArray.toList = vs from rfl, hi.numsOf]
  rw [hx] at t hn
  rw [nums_intItems] at hn
  refine sum_intListG hh t fun h' tk t' hk => ?_
  have := p h' t' (.of_keeps hk)
  rw [← hn] at this
  rw [preSum_eq, List.take_of_length_le (by simp)]
  exact good_at (c := c) (k' := tk) this
theorem Ru.minL {l : Addr} {vs : List Value} {ns : List Int} (hh : A.handled = none) (t : h.IsList l vs.toArray) (hi : IntsAre vs ns) (hne : 0 < ns.length)
    (p : ∀ h' m u, Gr [] h h' → m ∈ ns → (∀ a ∈ ns, m ≤ a) → P (.int m u) h') : Ru c A (call (.builtin "min") [.ref l]) h P := by
  intro k E
  obtain ⟨xs, e⟩ := hi.allInts.items
  have hns : ns = xs.toList.map (·.1) := by
    rw [← hi.numsOf, ← nums_intItems, ← e]
  have hsz : 0 < xs.size := by
    have h3 := hne; rw [hns, List.length_map, Array.length_toList] at h3; exact h3
  rw [e] at t
  refine min_intList hh t hsz fun v h' tk hv hk => ?_
  obtain ⟨t', rfl⟩ := intItems_at hv
  obtain ⟨h1, h2⟩ := argBest_lt (numAt xs) (xs.size - 1)
  refine good_at (c := c) (k' := tk) (p h' _ t' (.of_keeps hk) ?_ fun a ha => ?_)
  · rw [hns, numAt_eq]; exact getD_mem (by rw [List.length_map, Array.length_toList]; omega)
  · rw [hns] at ha
    obtain ⟨j, hj, rfl⟩ := mem_getD ha
    rw [List.length_map, Array.length_toList] at hj
    rw [← numAt_eq]; exact h2 j (by omega)
theorem Gr.extRg {a : Addr} {x y z : Int} {h h' : Heap} (s : Heap.ExtBut a h h') (n : IsRangeIter h a x y z) : Gr [a] h h' := Gr.ext s n fun ⟨e, _⟩ => by simp at e
theorem Ru.range {n : Int} {t : Tok} (p : ∀ h' a t u v, IsRange h' a 0 n 1 t u v → Gr [] h h' → h.get? a = none → P (.ref a) h') : Ru c A (call (.type "range") [.int n t]) h P :=
  fun k E => call_range_1 (good_at (c := c) (k' := k + 1 + 1) (p _ _ _ _ _ (IsRange.new ..) (Gr.push _ _) (fresh_size _)))
theorem Ru.iterR {a : Addr} {n : Nat} {t u v : Tok} (r : IsRange h a 0 (n : Int) 1 t u v) (hn : n < 2 ^ 62) (p : ∀ I h', h.get? I = none → IsRangeIter h' I 0 (n : Int) 1 → Gr [] h h' → P (.ref I) h') : Ru c A (pyIter (.ref a)) h P := by
  intro k E
  refine wpAny_pyIter_range r (small_one (by omega) (by omega) (by omega) (by omega)) (good_at (c := c) (k' := k) (p _ _ (fresh_size _) ?_ (Gr.push _ _)))
  have e : Builtin.Range.rangeSize 0 (n : Int) 1 = (n : Int) := by rw [rangeSize_one]; split <;> omega
  rw [e]
  exact Heap.get?_push_size _ rfl
theorem Src.range {I : Addr} {n : Nat} (hh : A.handled = none) : Src c A I n (fun i v => ∃ t, v = Value.int (i : Int) t) (fun i h => IsRangeIter h I (i : Int) ((n : Int) - (i : Nat)) 1) where
  next := fun i h P hi st p k E => by
    refine wpAny_pyNext_range_item st (by omega) fun h' st' hs => good_at (c := c) (k' := k + 1) (p _ h' ⟨_, rfl⟩ ?_ (Gr.extRg hs.extBut st))
    have e1 : ((i + 1 : Nat) : Int) = (i : Int) + 1 := by omega
    have e2 : (n : Int) - ((i + 1 : Nat) : Int) = (n : Int) - (i : Int) - 1 := by omega
    rw [e1, ← e1, e2, e1]
    exact st'
  stop := fun h P st p k E => wpAny_pyNext_range_end hh st (by omega) fun h' he => good_at (c := c) (k' := k) (p h' (Gr.extRg he st))
  own := fun i h target v P st p => own_ok st rfl rfl (by decide) p
  self := fun i h P st p k E => (Walks.range (prog := c.prog) (w := c.w) hh I 0 1 n).self i _ _ _ (by simpa using st) (good_at p)

/-! points, which is less -/
noncomputable def ltP (p q : Pt) : Bool := decide (p.1 < q.1) || (p.1 == q.1 && decide (p.2 < q.2))
theorem rich_lt {x y : Int} {t u : Tok} {s : Shared} {E : Value → Shared → Prop} {Q : Value → Shared → Prop} (z : Q (.bool (decide (x < y))) s) : wpAny (model c.prog c.w) A (richCompare .Lt (.int x t) (.int y u)) Q E s := wpAny_lt_int z
theorem call_tup_lt {a b : Addr} {p q : Pt} {t u t' u' : Tok} {s : Shared} {E : Value → Shared → Prop} {Q : Value → Shared → Prop} (x : IsTup s.heap a #[.int p.1 t, .int p.2 u]) (y : IsTup s.heap b #[.int q.1 t', .int q.2 u']) (z : Q (.bool (ltP p q)) s) :
    wpAny (model c.prog c.w) A (call (.builtin "tuple.__lt__") [.ref a, .ref b]) Q E s := by
  refine wpAny_call_entry F.slot_tuple_lt x.typeIs F.entry_tuple_lt ?_ (F.args_tuple_lt_2 _ _)
  have hx := x
  have hy := y
  obtain ⟨o, ho, _, n, hd⟩ := hx
  obtain ⟨o', ho', _, n', hd'⟩ := hy
  rw [tup_lt_eq]
  refine wpAny_bind (wpAny_isInstance (T := "tuple") y.typeIs F.sub_tuple_tuple ?_)
  simp only [Bool.not_true, Bool.false_eq_true, if_false]
  unfold Builtin.Tuple.tupleItemsOf
  refine wpAny_bind (wpAny_bind (wpAny_seqItems ho hd (wpAny_pure (wpAny_bind (wpAny_bind (wpAny_seqItems ho' hd' (wpAny_pure ?_)))))))
  simp only [List.zip_cons_cons, List.zip_nil_right, List.forIn_cons, List.forIn_nil]
  refine wpAny_bind (wpAny_bind (wpAny_bind (wpAny_eqBool_int ?_)))
  by_cases h1 : p.1 = q.1
  · have e1 : (p.1 == q.1) = true := by simpa using h1
    rw [e1]
    simp only [Bool.not_true, Bool.false_eq_true, if_false]
    refine wpAny_pure (wpAny_bind (wpAny_bind (wpAny_eqBool_int ?_)))
    by_cases h2 : p.2 = q.2
    · have e2 : (p.2 == q.2) = true := by simpa using h2
      rw [e2]
      simp only [Bool.not_true, Bool.false_eq_true, if_false]
      refine wpAny_pure (wpAny_pure (wpAny_pure ⟨_, rfl, ?_⟩))
      have e : Builtin.Tuple.tupleCompareSizes CmpOp.Lt #[Value.int p.fst t, Value.int p.snd u].size #[Value.int q.fst t', Value.int q.snd u'].size = .bool (ltP p q) := by
        simp [Builtin.Tuple.tupleCompareSizes, ltP, h1, h2]
      rw [e]
      exact z
    · have e2 : (p.2 == q.2) = false := by simpa using h2
      rw [e2]
      simp only [Bool.not_false, if_true]
      refine wpAny_bind (wpAny_rule (wpAny_bind (rich_lt (wpAny_bind (wpAny_pure (wpAny_pure (wpAny_pure (wpAny_pure ⟨_, rfl, ?_⟩))))))))
      have e : decide (p.2 < q.2) = ltP p q := by simp [ltP, h1]
      rw [e]
      exact z
  · have e1 : (p.1 == q.1) = false := by simpa using h1
    rw [e1]
    simp only [Bool.not_false, if_true]
    refine wpAny_bind (wpAny_rule (wpAny_bind (rich_lt (wpAny_bind (wpAny_pure (wpAny_pure (wpAny_pure (wpAny_pure ⟨_, rfl, ?_⟩))))))))
    have e : decide (p.1 < q.1) = ltP p q := by simp [ltP, h1]
    rw [e]
    exact z
theorem Ru.ltPt {v w : Value} {p q : Pt} (x : IsPt h v p) (y : IsPt h w q) (hu : A.units < cLine) (z : P (.bool (ltP p q)) h) : Ru c A (compareOp .Lt v w) h P := by
  obtain ⟨a, t, u, rfl, x⟩ := x
  obtain ⟨b, t', u', rfl, y⟩ := y
  exact fun _ _ => cmp_ofLt (wpAny_richCompare_same_room (op := .Lt) (T := "tuple") x.typeIs y.typeIs F.slot_tuple_lt (call_tup_lt x y ⟨by simp, good_at z⟩) hu)
end
end Mink

/-! MkF -/
namespace Mink
open PySem PySem.W PyProof.Rows PySem.Calls

noncomputable def Le (p q : Pt) : Prop := p.1 < q.1 ∨ (p.1 = q.1 ∧ p.2 ≤ q.2)
noncomputable def Lt (p q : Pt) : Prop := p.1 < q.1 ∨ (p.1 = q.1 ∧ p.2 < q.2)
theorem ltP_iff (p q : Pt) : ltP p q = true ↔ Lt p q := by simp [ltP, Lt]
theorem ltP_false (p q : Pt) : ltP p q = false ↔ Le q p := by
  rw [← Bool.not_eq_true, ltP_iff]
  unfold Lt Le
  omega
theorem Le.refl (p : Pt) : Le p p := by unfold Le; omega
theorem Le.trans {p q r : Pt} (a : Le p q) (b : Le q r) : Le p r := by unfold Le at *; omega
theorem Le.antisymm {p q : Pt} (a : Le p q) (b : Le q p) : p = q := by
  obtain ⟨x, y⟩ := p
  obtain ⟨z, w⟩ := q
  unfold Le at *
  simp only at a b
  rw [Prod.mk.injEq]
  omega
theorem Lt.le {p q : Pt} (a : Lt p q) : Le p q := by unfold Le Lt at *; omega
theorem le_total (p q : Pt) : Le p q ∨ Le q p := by unfold Le; omega
theorem not_lt_le {p q : Pt} : ¬ Lt p q ↔ Le q p := by unfold Le Lt; omega

section
variable (K : Nat → Pt)
noncomputable abbrev KV (p : Array Nat) (i : Nat) : Pt := K (p.getD i 0)
noncomputable def Srt (p : Array Nat) (k : Nat) : Prop := ∀ i j, i ≤ j → j < k → Le (KV K p i) (KV K p j)
noncomputable def Dsc (p : Array Nat) (k : Nat) : Prop := ∀ i j, i ≤ j → j < k → Le (KV K p j) (KV K p i)
end
noncomputable def PP (N : Nat) (p : Array Nat) : Prop := p.Perm (List.toArray (List.range N))
theorem PP.size {N : Nat} {p : Array Nat} (h : PP N p) : p.size = N := by simpa using h.size_eq
theorem PP.lt {N : Nat} {p : Array Nat} (h : PP N p) {i : Nat} (hi : i < N) : p.getD i 0 < N := by
  have hs := h.size
  have hi' : i < p.size := by omega
  have e : p.getD i 0 = p[i] := by simp [Array.getD, hi']
  have m : p[i] ∈ p.toList := by simp
  have m' := (Array.perm_iff_toList_perm.mp h).mem_iff.mp m
  rw [e]
  simpa using m'

theorem getD_mirror {p : Array Nat} {i j : Nat} (hj : j ≤ p.size) (k : Nat) : (mirror p i j ((j - i) / 2)).getD k 0 = if i ≤ k ∧ k < j then p.getD (i + j - 1 - k) 0 else p.getD k 0 := by
  have e := getElem?_mirror_all (i := i) hj k
  simp only [Array.getD_eq_getD_getElem?, e]
  split <;> rfl
theorem getD_bubble {p : Array Nat} {src d : Nat} (hs : src < p.size) (hd : d ≤ src) (k : Nat) : (bubble p src d).getD k 0 = if k = src - d then p.getD src 0 else if src - d < k ∧ k ≤ src then p.getD (k - 1) 0 else p.getD k 0 := by
  have e := getElem?_bubble hs d hd k
  simp only [Array.getD_eq_getD_getElem?, e]
  split
  · rfl
  · split <;> rfl
theorem PP.rev {N : Nat} {p : Array Nat} (h : PP N p) (i j : Nat) : PP N (kas_rev p i j) := (mirror_perm p i j _).trans h
theorem PP.bub {N : Nat} {p : Array Nat} (h : PP N p) (i d : Nat) : PP N (bubble p i d) := (bubble_perm p i d).trans h

section
variable {K : Nat → Pt} {N : Nat} {cmp : Nat → Nat → (Bool → Shared → Prop) → Shared → Prop} {s : Shared}
/-- what the comparison answers, the state as it was -/
noncomputable def Asks (K : Nat → Pt) (N : Nat) (cmp : Nat → Nat → (Bool → Shared → Prop) → Shared → Prop) (s : Shared) : Prop := ∀ i j C, i < N → j < N → C (ltP (K i) (K j)) s → cmp i j C s

theorem w_asc (hc : Asks K N cmp s) {p : Array Nat} (hp : PP N p) {Q : Nat → Shared → Prop} : ∀ (f n : Nat), 1 ≤ n → n + f ≤ N → Srt K p n →
    (∀ m, n ≤ m → m ≤ n + f → Srt K p m → (m = n + f ∨ Lt (KV K p m) (KV K p (m - 1))) → Q m s) → (kas_asc p f n).kasWp cmp Q s
  | 0, n, _, _, hs, h => h n (Nat.le_refl _) (Nat.le_refl _) hs (.inl rfl)
  | f + 1, n, h1, hn, hs, h => by
    refine hc _ _ _ (hp.lt (by omega)) (hp.lt (by omega)) ?_
    cases hb : ltP (K (p.getD n 0)) (K (p.getD (n - 1) 0)) with
    | true =>
      simp only [if_true]
      exact h n (Nat.le_refl _) (by omega) hs (.inr ((ltP_iff _ _).mp hb))
    | false =>
      simp only [Bool.false_eq_true, if_false]
      have hle := (ltP_false _ _).mp hb
      refine w_asc hc hp f (n + 1) (by omega) (by omega) (fun i j hij hj => ?_) fun m hm1 hm2 hsm ho => h m (by omega) (by omega) hsm (ho.imp (fun e => by omega) id)
      by_cases hjn : j < n
      · exact hs i j hij hjn
      · have : j = n := by omega
        subst this
        by_cases hi : i = j
        · subst hi; exact Le.refl _
        · exact (hs i (j - 1) (by omega) (by omega)).trans hle

theorem w_desc (hc : Asks K N cmp s) {Q : Array Nat × Nat × Nat → Shared → Prop} : ∀ (f : Nat) (p : Array Nat) (n q : Nat), PP N p → 1 ≤ n → n + f ≤ N → Dsc K p n → q + 1 ≤ n → (∀ i, n - (q + 1) ≤ i → i < n → KV K p i = KV K p (n - 1)) →
    (∀ p' m q', PP N p' → n ≤ m → m ≤ n + f → Dsc K p' m → q' + 1 ≤ m → (∀ i, m - (q' + 1) ≤ i → i < m → KV K p' i = KV K p' (m - 1)) → Q (p', m, q') s) → (kas_desc f p n q).kasWp cmp Q s
  | 0, p, n, q, hp, _, _, hd, hq, he, h => h p n q hp (Nat.le_refl _) (Nat.le_refl _) hd hq he
  | f + 1, p, n, q, hp, h1, hn, hd, hq, he, h => by
    have hps := hp.size
    refine hc _ _ _ (hp.lt (by omega)) (hp.lt (by omega)) ?_
    cases hb : ltP (K (p.getD n 0)) (K (p.getD (n - 1) 0)) with
    | true =>
      simp only [if_true]
      have hlt := ((ltP_iff _ _).mp hb).le
      have step : ∀ p' : Array Nat, (∀ k, KV K p' k = KV K p k) → Dsc K p' (n + 1) := by
        intro p' hk i j hij hj
        rw [hk, hk]
        by_cases hjn : j < n
        · exact hd i j hij hjn
        · have : j = n := by omega
          subst this
          by_cases hi : i = j
          · subst hi; exact Le.refl _
          · exact hlt.trans (hd i (j - 1) (by omega) (by omega))
      by_cases hq0 : q > 0
      · rw [if_pos hq0]
        have hk : ∀ k, KV K (kas_rev p (n - (q + 1)) n) k = KV K p k := by
          intro k
          unfold KV kas_rev
          rw [getD_mirror (by omega)]
          split
          · rename_i hk
            have a := he (n - (q + 1) + n - 1 - k) (by omega) (by omega)
            have b := he k hk.1 hk.2
            exact a.trans b.symm
          · rfl
        exact w_desc hc f _ (n + 1) 0 (hp.rev _ _) (by omega) (by omega) (step _ hk) (by omega) (fun i a b => by rw [show i = n + 1 - 1 by omega]) fun p' m q' a b c => h p' m q' a (by omega) (by omega)
      · rw [if_neg hq0]
        exact w_desc hc f _ (n + 1) 0 hp (by omega) (by omega) (step _ fun _ => rfl) (by omega) (fun i a b => by rw [show i = n + 1 - 1 by omega]) fun p' m q' a b c => h p' m q' a (by omega) (by omega)
    | false =>
      simp only [Bool.false_eq_true, if_false]
      refine hc _ _ _ (hp.lt (by omega)) (hp.lt (by omega)) ?_
      cases hb2 : ltP (K (p.getD (n - 1) 0)) (K (p.getD n 0)) with
      | true =>
        simp only [if_true]
        exact h p n q hp (Nat.le_refl _) (by omega) hd hq he
      | false =>
        simp only [Bool.false_eq_true, if_false]
        have heq : KV K p n = KV K p (n - 1) := Le.antisymm ((ltP_false _ _).mp hb2) ((ltP_false _ _).mp hb)
        refine w_desc hc f p (n + 1) (q + 1) hp (by omega) (by omega) (fun i j hij hj => ?_) (by omega) (fun i a b => ?_) fun p' m q' a b c => h p' m q' a (by omega) (by omega)
        · by_cases hjn : j < n
          · exact hd i j hij hjn
          · have : j = n := by omega
            subst this
            by_cases hi : i = j
            · subst hi; exact Le.refl _
            · rw [heq]; exact hd i (j - 1) (by omega) (by omega)
        · rw [show n + 1 - 1 = n by omega]
          by_cases hi : i = n
          · subst hi; rfl
          · rw [heq]; exact he i (by omega) (by omega)

theorem w_tail3 (hc : Asks K N cmp s) {p : Array Nat} (hp : PP N p) {n : Nat} (h1 : 1 ≤ n) (hn : n ≤ N) (hd : Dsc K p n) {Q : Nat × Array Nat → Shared → Prop}
    (h : ∀ m p', PP N p' → 1 ≤ m → m ≤ N → Srt K p' m → Q (m, p') s) : (kas_tail3 n N p).kasWp cmp Q s := by
  unfold kas_tail3
  rw [KasT.kasWp_bind]
  have hps := hp.size
  refine w_asc hc (hp.rev 0 n) _ n h1 (by omega) (fun i j hij hj => ?_) fun m a b c _ => h m _ (hp.rev 0 n) (by omega) (by omega) c
  unfold KV kas_rev
  rw [getD_mirror (by omega), getD_mirror (by omega), if_pos (by omega), if_pos (by omega)]
  exact hd _ _ (by omega) (by omega)
theorem w_descPart (hc : Asks K N cmp s) {p : Array Nat} (hp : PP N p) {n : Nat} (hn : n + 1 ≤ N) (hd : Dsc K p (n + 1)) {Q : Nat × Array Nat → Shared → Prop}
    (h : ∀ m p', PP N p' → 1 ≤ m → m ≤ N → Srt K p' m → Q (m, p') s) : (kas_descPart n N p).kasWp cmp Q s := by
  unfold kas_descPart
  rw [KasT.kasWp_bind]
  refine w_desc hc _ p (n + 1) 0 hp (by omega) (by omega) hd (by omega) (fun i a b => by rw [show i = n + 1 - 1 by omega]) fun p' m q' hp' a b hd' hq he => ?_
  have hps := hp'.size
  dsimp only
  by_cases hq0 : q' > 0
  · rw [if_pos hq0]
    refine w_tail3 hc (hp'.rev _ _) (by omega) (by omega) (fun i j hij hj => ?_) h
    have hk : ∀ k, KV K (kas_rev p' (m - (q' + 1)) m) k = KV K p' k := by
      intro k
      unfold KV kas_rev
      rw [getD_mirror (by omega)]
      split
      · rename_i hk
        have a := he (m - (q' + 1) + m - 1 - k) (by omega) (by omega)
        have b := he k hk.1 hk.2
        exact a.trans b.symm
      · rfl
    rw [hk, hk]
    exact hd' i j hij hj
  · rw [if_neg hq0]
    exact w_tail3 hc hp' (by omega) (by omega) hd' h
theorem w_count (hc : Asks K N cmp s) {p : Array Nat} (hp : PP N p) (hN : 1 ≤ N) {Q : Nat × Array Nat → Shared → Prop}
    (h : ∀ m p', PP N p' → 1 ≤ m → m ≤ N → Srt K p' m → Q (m, p') s) : (kas_count N p).kasWp cmp Q s := by
  unfold kas_count
  rw [KasT.kasWp_bind]
  have hps := hp.size
  refine w_asc hc hp _ 1 (Nat.le_refl _) (by omega) (fun i j hij hj => by rw [show i = j by omega]; exact Le.refl _) fun n a b hs ho => ?_
  by_cases hnN : n = N
  · rw [if_pos (by simpa using hnN)]
    exact h n p hp (by omega) (by omega) hs
  · rw [if_neg (by simpa using hnN)]
    have hlt : Lt (KV K p n) (KV K p (n - 1)) := ho.resolve_left (by omega)
    by_cases hn1 : n > 1
    · rw [if_pos hn1]
      refine hc _ _ _ (hp.lt (by omega)) (hp.lt (by omega)) ?_
      cases hb : ltP (K (p.getD 0 0)) (K (p.getD (n - 1) 0)) with
      | true =>
        simp only [if_true]
        exact h n p hp (by omega) (by omega) hs
      | false =>
        simp only [Bool.false_eq_true, if_false]
        have hge := (ltP_false _ _).mp hb
        have hall : ∀ k, k < n → KV K p k = KV K p (n - 1) := fun k hk => Le.antisymm (hs k (n - 1) (by omega) (by omega)) (hge.trans (hs 0 k (by omega) hk))
        have hk : ∀ k, KV K (kas_rev p 0 n) k = KV K p k := by
          intro k
          unfold KV kas_rev
          rw [getD_mirror (by omega)]
          split
          · rename_i hk
            exact (hall _ (by omega)).trans (hall k hk.2).symm
          · rfl
        refine w_descPart hc (hp.rev _ _) (by omega) (fun i j hij hj => ?_) h
        rw [hk, hk]
        by_cases hjn : j < n
        · rw [hall i (by omega), hall j hjn]; exact Le.refl _
        · have : j = n := by omega
          subst this
          by_cases hi : i = j
          · subst hi; exact Le.refl _
          · rw [hall i (by omega)]; exact hlt.le
    · rw [if_neg hn1]
      have : n = 1 := by omega
      subst this
      refine w_descPart hc hp (by omega) (fun i j hij hj => ?_) h
      by_cases hi : i = j
      · subst hi; exact Le.refl _
      · rw [show i = 0 by omega, show j = 1 by omega]; exact hlt.le

theorem w_place (hc : Asks K N cmp s) {p : Array Nat} (hp : PP N p) {k : Nat} (hk : k < N) (hs : Srt K p k) {Q : Nat → Shared → Prop} : ∀ (f l r : Nat), l ≤ r → r ≤ k → r - l ≤ f → (∀ i, i < l → Le (KV K p i) (KV K p k)) → (∀ i, r ≤ i → i < k → Lt (KV K p k) (KV K p i)) →
    (∀ m, m ≤ k → (∀ i, i < m → Le (KV K p i) (KV K p k)) → (∀ i, m ≤ i → i < k → Lt (KV K p k) (KV K p i)) → Q m s) → (kas_place p k f l r).kasWp cmp Q s
  | 0, l, r, hlr, hr, hf, lo, hi, h => by
    have : l = r := by omega
    subst this
    exact h l hr lo hi
  | f + 1, l, r, hlr, hr, hf, lo, hi, h => by
    unfold kas_place
    by_cases hge : l ≥ r
    · rw [if_pos hge]
      have : l = r := by omega
      subst this
      exact h l hr lo hi
    · rw [if_neg hge]
      refine hc _ _ _ (hp.lt hk) (hp.lt (by omega)) ?_
      cases hb : ltP (K (p.getD k 0)) (K (p.getD ((l + r) / 2) 0)) with
      | true =>
        simp only [if_true]
        have hlt := (ltP_iff _ _).mp hb
        refine w_place hc hp hk hs f l ((l + r) / 2) (by omega) (by omega) (by omega) lo (fun i a b => ?_) h
        have q := hs ((l + r) / 2) i a b
        unfold Lt Le KV at *
        omega
      | false =>
        simp only [Bool.false_eq_true, if_false]
        have hle := (ltP_false _ _).mp hb
        refine w_place hc hp hk hs f ((l + r) / 2 + 1) r (by omega) hr (by omega) (fun i a => ?_) hi h
        exact (hs i ((l + r) / 2) (by omega) (by omega)).trans hle
theorem w_bin (hc : Asks K N cmp s) {Q : Array Nat → Shared → Prop} : ∀ (f : Nat) (p : Array Nat) (k : Nat), PP N p → k + f = N → Srt K p k → (∀ p', PP N p' → Srt K p' N → Q p' s) → (kas_bin f p k).kasWp cmp Q s
  | 0, p, k, hp, hk, hs, h => h p hp (by rwa [← hk, Nat.add_zero])
  | f + 1, p, k, hp, hk, hs, h => by
    unfold kas_bin
    rw [KasT.kasWp_bind]
    have hps := hp.size
    refine w_place hc hp (by omega) hs k 0 k (Nat.zero_le _) (Nat.le_refl _) (by omega) (fun i hi => by omega) (fun i a b => by omega) fun l hl lo hi => ?_
    refine w_bin hc f _ (k + 1) (hp.bub _ _) (by omega) (fun i j hij hj => ?_) h
    unfold KV
    rw [getD_bubble (by omega) (by omega), getD_bubble (by omega) (by omega), show k - (k - l) = l by omega]
    repeat' split
    all_goals first
      | (exfalso; omega)
      | exact Le.refl _
      | exact lo _ (by omega)
      | exact (hi _ (by omega) (by omega)).le
      | exact hs _ _ (by omega) (by omega)
theorem w_sort (hc : Asks K N cmp s) (hN : 1 ≤ N) {Q : Array Nat → Shared → Prop} (h : ∀ p', PP N p' → Srt K p' N → Q p' s) : (kas_sort N).kasWp cmp Q s := by
  unfold kas_sort
  rw [KasT.kasWp_bind]
  refine w_count hc (Array.Perm.refl _) hN fun m p' hp a b hs => ?_
  dsimp only
  by_cases hm : m < N
  · rw [if_pos hm, show max m 1 = m by omega]
    exact w_bin hc _ p' m hp (by omega) hs h
  · rw [if_neg hm]
    have : m = N := by omega
    subst this
    exact h p' hp hs
end
end Mink

/-! MkG -/
namespace Mink
open PySem PySem.W PyProof.Rows PySem.Calls

/-! all of a heap as a ledger over nothing -/
noncomputable def nul : Heap := {}
theorem nul_get (a : Addr) : nul.get? a = none := Heap.get?_none_of_le (Nat.zero_le _)
noncomputable def allBut (h : Heap) (L : Addr) : List (Addr × Obj) := (List.range h.objs.size).filterMap fun a => if a = L then none else (h.get? a).map fun o => (a, o)
theorem mem_allBut {h : Heap} {L : Addr} {p : Addr × Obj} : p ∈ allBut h L ↔ p.1 ≠ L ∧ h.get? p.1 = some p.2 := by
  obtain ⟨a, o⟩ := p
  unfold allBut
  rw [List.mem_filterMap]
  constructor
  · rintro ⟨b, _, e⟩
    by_cases hb : b = L
    · rw [if_pos hb] at e; cases e
    · rw [if_neg hb] at e
      cases hg : h.get? b with
      | none => rw [hg] at e; cases e
      | some o' => rw [hg] at e; cases e; exact ⟨hb, hg⟩
  · rintro ⟨hn, e⟩
    exact ⟨a, List.mem_range.mpr (Heap.lt_size e), by rw [if_neg hn, e]; rfl⟩
theorem fr_nul {h : Heap} {L : Addr} {m : Str → Option Value} (n : h.Ns L m) : Fr nul L h m := ⟨n, (fun b o e => by rw [nul_get] at e; cases e), Nat.zero_le _⟩
theorem news_all (h : Heap) (L : Addr) : News nul L h (allBut h L) := fun p hp => ⟨(mem_allBut.mp hp).2, (mem_allBut.mp hp).1, nul_get _⟩
theorem Gr.of_news {h h' : Heap} {L : Addr} {m : Str → Option Value} (n : h.Ns L m) (N : News nul L h' (allBut h L)) : Gr [L] h h' := fun b o e i => by
  have hb : b ≠ L := by
    rintro rfl
    rcases i with i | ⟨_, xs, k, hd⟩
    · exact i (List.mem_singleton.mpr rfl)
    · exact Ns.not_tup n o e xs k hd
  exact (N (b, o) (mem_allBut.mpr ⟨hb, e⟩)).1

section
variable {c : Cx} {A : Around} {h : Heap} {env : Env} {P : Value → Heap → Prop}
theorem list_sort_small {a : Addr} {vs : List Value} {n : Nat} {P : PySem.Fin → Shared → Prop} {E : Value → Shared → Prop} {s : Shared} (ho : s.heap.get? a = some (seqObj "list" vs.toArray n)) (h2 : vs.length < 2)
    (z : P (.done (.ret .none)) { s with heap := sortedHeap s.heap a vs vs.toArray }) : wpAny (model c.prog c.w) A (Builtin.«list.sort» ⟨[.ref a], []⟩) P E s := by
  rw [list_sort_plain]
  have hs : sizeLine = 16777216 := rfl
  have ha : a < s.heap.objs.size := Heap.lt_size ho
  refine wpAny_bind (listItems_at ho rfl ?_)
  refine wpAny_bind (listUpdate_at ho rfl ?_ (by rw [List.size_toArray]; omega) (Nat.zero_le _))
  obtain ⟨e1, ho1⟩ : ∃ e1, (s.heap.update a (Obj.mapSeq fun _ => #[])).get? a = some (seqObj "list" #[] e1) := ⟨_, get?_update_seq ho (fun _ => #[])⟩
  refine wpAny_bind (seqEpoch_at ho1 rfl ?_)
  refine wpAny_bind (wpAny_newTuple ?_ (by show vs.length ≤ _; omega))
  refine wpAny_bind (wpAny_newList ?_ (Nat.zero_le _))
  refine wpAny_holding ?_
  have ho6 : (((s.heap.update a (Obj.mapSeq fun _ => #[])).push (seqObj "tuple" vs.toArray 0)).push (seqObj "list" #[] 0)).get? a = some (seqObj "list" #[] e1) := by
    rw [Heap.get?_push_ne _ _ _ (by rw [size_push', Heap.size_update]; exact Nat.ne_of_lt (Nat.lt_succ_of_lt ha)), Heap.get?_push_ne _ _ _ (by rw [Heap.size_update]; exact Nat.ne_of_lt ha)]
    exact ho1
  show wpAny _ A _ P E { s with heap := ((s.heap.update a (Obj.mapSeq fun _ => #[])).push (seqObj "tuple" vs.toArray 0)).push (seqObj "list" #[] 0) }
  dsimp only
  have hn2 : vs.toArray.size < 2 := by rw [List.size_toArray]; exact h2
  rw [if_pos hn2, if_pos hn2]
  refine wpAny_bind (wpAny_pure ?_)
  rw [StateT.run_pure]
  refine wpAny_bind (wpAny_pure ?_)
  dsimp only
  have e : (arrOf (SortSt.mk' general' (vs.toArray.zip vs.toArray) #[] 7 none)).map (·.2) = vs.toArray := by
    show (vs.toArray.zip vs.toArray).map (·.2) = vs.toArray
    apply Array.toList_inj.mp
    rw [Array.toList_map, Array.toList_zip]
    exact List.map_snd_zip (Nat.le_refl _)
  rw [e]
  refine wpAny_bind (seqEpoch_at ho6 rfl ?_)
  refine wpAny_bind (listUpdate_at ho6 rfl ?_ (Nat.zero_le _) (by rw [List.size_toArray]; omega))
  show wpAny _ A _ P E { s with heap := sortedHeap s.heap a vs vs.toArray }
  simp only [bne_self_eq_false, Bool.false_eq_true, if_false]
  exact wpAny_pure z

theorem sorted_small {l : Addr} {vs : List Value} (hl : h.IsList l vs.toArray) (h2 : vs.length < 2) (p : ∀ h' a n, IsL h' a vs.toArray n → Gr [] h h' → h.get? a = none → P (.ref a) h') : Ru c A (call (.builtin "sorted") [.ref l]) h P := by
  intro k E
  have hs : sizeLine = 16777216 := rfl
  refine Calls.call_function_entry kind_sorted plain_sorted entry_sorted (args_sorted1 _) ?_
  unfold Builtin.«sorted»
  refine wpAny_bind (m := checkCount "sorted" 1 1 _) (wpAny_pure ?_)
  refine wpAny_bind (collect_list hl ?_ (by omega))
  refine wpAny_bind (wpAny_newList ?_ (by omega))
  have hsz : ((h.push (seqObj "list" #[] 0)).update h.objs.size (Obj.mapSeq (· ++ vs.toArray))).objs.size = h.objs.size + 1 := by
    rw [Heap.size_update, size_push']
  have hoL : (((h.push (seqObj "list" #[] 0)).update h.objs.size (Obj.mapSeq (· ++ vs.toArray))).push (seqObj "list" vs.toArray 0)).get? (h.objs.size + 1) = some (seqObj "list" vs.toArray 0) := by
    rw [← hsz]; exact Heap.get?_push_size _ rfl
  show wpAny _ _ _ _ _ (c.at (((h.push (seqObj "list" #[] 0)).update h.objs.size (Obj.mapSeq (· ++ vs.toArray))).push (seqObj "list" vs.toArray 0)) k)
  rw [hsz]
  refine wpAny_bind (wpAny_holding (wpAny_call_entry slot_list_sort ⟨_, hoL, rfl⟩ entry_list_sort (list_sort_small (c := c) hoL h2 ⟨_, rfl, ?_⟩) (args_list_sort _)))
  obtain ⟨e, he⟩ := sortedAll_at h vs vs.toArray
  exact wpAny_pure ⟨_, rfl, good_at (c := c) (k' := k) (p _ _ e he (.of_keeps fun _ _ => sortedAll_old) (Heap.get?_none_of_le (Nat.le_succ _)))⟩

theorem KatTups.of_pts {h : Heap} {vs : List Value} {ps : List Pt} (x : PtsAre h vs ps) : ∃ fs, KatTups h vs fs ∧ fs.length = vs.length ∧ ∀ v ∈ fs, ∃ i t, v = .int i t := by
  induction x with
  | nil => exact ⟨[], KatTups.nil, rfl, fun _ m => nomatch m⟩
  | cons q _ ih =>
    obtain ⟨fs, k, hl, hi⟩ := ih
    obtain ⟨a, t, u, rfl, o, ho, hc, n, hd⟩ := q
    exact ⟨_ :: fs, KatTups.cons ho hc hd rfl k, by simp [hl], fun v m => by rcases List.mem_cons.mp m with rfl | m; exact ⟨_, _, rfl⟩; exact hi v m⟩
noncomputable def SortedP : List Pt → Prop := List.Pairwise Le

/-- sorted, of points -/
theorem Ru.sorted {l L : Addr} {m : Str → Option Value} {ps : List Pt} (nn : h.Ns L m) (x : PtL h l ps) (h64 : ps.length < 64) (hu : A.units + 8 < cLine)
    (p : ∀ h' a qs, PtL h' a qs → qs.Perm ps → SortedP qs → Gr [L] h h' → h'.Ns L m → h.get? a = none → P (.ref a) h') : Ru c A (call (.builtin "sorted") [.ref l]) h P := by
  obtain ⟨vs, n, hl, hp⟩ := x
  have hlen := hp.length
  by_cases h2 : vs.length < 2
  · refine sorted_small hl.isList h2 fun h' a n' hl' g f => p h' a ps ⟨vs, n', hl', g.pts hp⟩ (List.Perm.refl _) ?_ g.nil (g.ns nn (fun m => nomatch m)) f
    match ps, hlen with
    | [], _ => exact List.Pairwise.nil
    | [_], _ => exact List.pairwise_singleton _ _
    | _ :: _ :: _, hlen => rw [hlen] at h2; simp at h2; omega
  · intro k E
    have N := news_all h L
    refine kat_sorted (vs := vs) (s := c.at h k) (fr_nul nn) N hl.isList (by omega) (by omega) fun D e1 h' F' N' hD => ?_
    have g : Gr [L] h h' := Gr.of_news nn fun q hq => N' q (.tail _ hq)
    have hp' := g.pts hp
    obtain ⟨fs, kt, hfl, hfi⟩ := KatTups.of_pts hp'
    refine kat_kind (s := c.at h' k) kt (by omega) (T := .type "int") (fun v hv => ?_) rfl ?_
    · obtain ⟨i, t, rfl⟩ := hfi v hv
      exact Looks.of_pure rfl
    have asks : Asks (fun i => ps.getD i (0, 0)) vs.length (kas_ask c.prog c.w A.in1.in1 (tuples' ((Value.type "int") != Value.type "tuple")) vs) (c.at h' k) := by
      intro i j C hi hj hC
      obtain ⟨pi, epi⟩ : ∃ q, ps[i]? = some q := ⟨_, List.getElem?_eq_getElem (by omega)⟩
      obtain ⟨pj, epj⟩ : ∃ q, ps[j]? = some q := ⟨_, List.getElem?_eq_getElem (by omega)⟩
      obtain ⟨vi, evi, ti⟩ := hp'.get epi
      obtain ⟨vj, evj, tj⟩ := hp'.get epj
      have ki : ps.getD i (0, 0) = pi := by simp [List.getD, epi]
      have kj : ps.getD j (0, 0) = pj := by simp [List.getD, epj]
      have wi : vs.getD i Value.none = vi := by simp [List.getD, evi]
      have wj : vs.getD j Value.none = vj := by simp [List.getD, evj]
      dsimp only at hC
      rw [ki, kj] at hC
      unfold kas_ask
      rw [wi, wj]
      obtain ⟨a, t, u, rfl, oa, hoa, _, na, hda⟩ := ti
      obtain ⟨b, t', u', rfl, ob, hob, _, nb, hdb⟩ := tj
      refine kat_lt (s := c.at h' k) hoa hda hob hdb ?_
      refine kat_cons (wpAny_eqBool_int ?_)
      by_cases h1 : pi.1 = pj.1
      · rw [show (pi.1 == pj.1) = true by simpa using h1]
        refine kat_yes (kat_cons (wpAny_eqBool_int ?_))
        by_cases h3 : pi.2 = pj.2
        · rw [show (pi.2 == pj.2) = true by simpa using h3]
          refine kat_yes (kat_nil ?_)
          have e : decide ((#[Value.int pi.1 t, Value.int pi.2 u] : Array Value).size < (#[Value.int pj.1 t', Value.int pj.2 u'] : Array Value).size) = ltP pi pj := by simp [ltP, h1, h3]
          rw [e]; exact hC
        · rw [show (pi.2 == pj.2) = false by simpa using h3]
          refine kat_no (kat_one _ _ (wpAny_lt_int ?_))
          have e : decide (pi.2 < pj.2) = ltP pi pj := by simp [ltP, h1]
          show C (decide (pi.2 < pj.2)) _
          rw [e]; exact hC
      · rw [show (pi.1 == pj.1) = false by simpa using h1]
        refine kat_no (oneLt_int ?_)
        have e : decide (pi.1 < pj.1) = ltP pi pj := by simp [ltP, h1]
        rw [e]; exact hC
    refine w_sort asks (by omega) fun p' hp2 hs2 => ?_
    refine KasFin.intro F' N' (.head fun q hq => Nat.ne_of_lt (hD q hq)) fun h'' c' F'' N'' => ?_
    have g' : Gr [L] h h'' := Gr.of_news nn fun q hq => N'' q (.tail _ hq)
    have hp'' := g'.pts hp
    have perm : p'.toList.Perm (List.range vs.length) := by simpa using Array.perm_iff_toList_perm.mp hp2
    have hlt : ∀ i ∈ p'.toList, i < vs.length := fun i hi => by simpa using perm.mem_iff.mp hi
    have pts : PtsAre h'' (p'.toList.map fun i => vs.getD i Value.none) (p'.toList.map fun i => ps.getD i (0, 0)) := by
      generalize p'.toList = l at hlt
      induction l with
      | nil => exact .nil
      | cons i l ih =>
        have hi := hlt i (.head _)
        obtain ⟨q, eq⟩ : ∃ q, ps[i]? = some q := ⟨_, List.getElem?_eq_getElem (by omega)⟩
        obtain ⟨v, ev, tv⟩ := hp''.get eq
        refine .cons ?_ (ih fun j hj => hlt j (.tail _ hj))
        show IsPt h'' (vs.getD i Value.none) (ps.getD i (0, 0))
        rw [show vs.getD i Value.none = v by simp [List.getD, ev], show ps.getD i (0, 0) = q by simp [List.getD, eq]]
        exact tv
    have permP : (p'.toList.map fun i => ps.getD i (0, 0)).Perm ps := by
      have h1 := perm.map fun i => ps.getD i (0, 0)
      have h2 : (List.range vs.length).map (fun i => ps.getD i (0, 0)) = ps := by
        apply List.ext_getElem?
        intro i
        rw [List.getElem?_map, hlen]
        by_cases hi : i < ps.length
        · rw [List.getElem?_range hi]; simp [List.getD, List.getElem?_eq_getElem hi]
        · rw [List.getElem?_eq_none (by simpa using hi), List.getElem?_eq_none (by omega)]; rfl
      rwa [h2] at h1
    refine good_at (c := c) (k' := k) (p h'' D _ ⟨_, _, (N'' _ (.head _)).1, pts⟩ permP ?_ g' F''.ns ?_)
    · unfold SortedP
      rw [List.pairwise_iff_getElem]
      intro i j hi hj hij
      rw [List.length_map] at hi hj
      have hsz : p'.toList.length = vs.length := by rw [perm.length_eq, List.length_range]
      have := hs2 i j (by omega) (by omega)
      simp only [List.getElem_map]
      unfold KV at this
      have ei : p'.getD i 0 = p'.toList[i] := by
        have : i < p'.size := by simpa using hi
        simp [Array.getD, this]
      have ej : p'.getD j 0 = p'.toList[j] := by
        have : j < p'.size := by simpa using hj
        simp [Array.getD, this]
      rw [ei, ej] at this
      exact this
    · cases hf : h.get? D with
      | none => rfl
      | some o =>
        exfalso
        by_cases hL : D = L
        · exact (N'' _ (.head _)).2.1 hL
        · exact absurd (hD (D, o) (mem_allBut.mpr ⟨hL, hf⟩)) (Nat.lt_irrefl _)
end
end Mink

/-! MkH -/
namespace Mink
open PySem PySem.W PyProof.Rows PySem.Calls

noncomputable def fnPart (i : Nat) : Option (Arguments × List Stmt × Scope) := match PySem.Challenge.pw_ic0004_01.main.body[i]? with
  | some (.FunctionDef _ a b _ _ _ sc _ _ _) => some (a, b, sc)
  | _ => none
noncomputable def paramsOf (i : Nat) : Arguments := match fnPart i with | some (a, _, _) => a | none => ⟨[], [], none, [], [], none, []⟩
noncomputable def bodyOf (i : Nat) : List Stmt := match fnPart i with | some (_, b, _) => b | none => []
noncomputable def scopeOf (i : Nat) : Scope := match fnPart i with | some (_, _, s) => s | none => PySem.Challenge.pw_ic0004_01.main.scope

/-- what stands at the top -/
structure TopH (hT : Heap) (mg mb : Str → Option Value) : Prop where
  g : hT.Ns mainGlobals mg
  b : hT.Ns builtinsNs mb
  lim : hT.NoLimit
/-- a def of the text's -/
structure FnH (hT : Heap) (mg : Str → Option Value) (i : Nat) (nm : Str) (f : Addr) : Prop where
  glob : mg nm = some (.ref f)
  obj : ∃ o doc pm an cdv ct, hT.get? f = some o ∧ o.data = .func (fnOf nm nm (paramsOf i) (bodyOf i) (scopeOf i) .none .none doc pm an cdv ct) ∧ hT.CodeRec cdv nm
/-- a def's environment: what it is called with besides does not matter -/
noncomputable def env8 (i : Nat) (nm : Str) (L f : Addr) (cd : Value) : Env := callEnv (fnOf nm nm (paramsOf i) (bodyOf i) (scopeOf i) .none .none .none .none none cd .none) L f
noncomputable def env8C (i : Nat) (nm : Str) (L f : Addr) (cd : Value) : Env := callEnvC (fnOf nm nm (paramsOf i) (bodyOf i) (scopeOf i) .none .none .none .none none cd .none) L f
/-- room for n calls more -/
structure Rm (n : Nat) (A : Around) : Prop where
  hh : A.handled = none
  d : A.depth + n < recursionLimit
  u : A.units + 100 * n + 100 < cLine
theorem Rm.deep {n : Nat} {A : Around} (r : Rm (n + 1) A) (env : Env) : Rm n (A.deeper env) := ⟨r.hh, by have := r.d; show A.depth + 1 + n < _; omega, by have := r.u; show A.units + 3 + 100 * n + 100 < _; omega⟩
theorem Rm.less {n m : Nat} {A : Around} (r : Rm n A) (h : m ≤ n) : Rm m A := ⟨r.hh, by have := r.d; omega, by have := r.u; omega⟩
theorem Rm.room {n : Nat} {A : Around} (r : Rm n A) : A.depth < recursionLimit := by have := r.d; omega
theorem Rm.un {n : Nat} {A : Around} (r : Rm n A) : A.units + 64 < cLine := by have := r.u; omega

noncomputable def Bd (p : Pt) : Prop := -1000000 ≤ p.1 ∧ p.1 ≤ 1000000 ∧ -1000000 ≤ p.2 ∧ p.2 ≤ 1000000
noncomputable def crs (p q r : Pt) : Int := (q.1 - p.1) * (r.2 - p.2) - (q.2 - p.2) * (r.1 - p.1)

section
variable {c : Cx} {A : Around} {h hT : Heap} {mg mb : Str → Option Value}
theorem mulOk {a b : Int} (l : -(2 ^ 62) ≤ a) (u : a ≤ 2 ^ 62) : IntMulOk a b := IntMulOk.of_left (intBits_le_64 (by omega) (by omega))

theorem Ru.pt0 {value slice : Expr} {v : Value} {p : Pt} {u : Tok} {P : Value → Heap → Prop} (x : IsPt h v p) (k : ∀ t, P (.int p.1 t) h)
    (hs : ∀ a, subscripted slice false (.ref a) (.int 0 u) = operate [.ref a, .int 0 u] (getItem (.ref a) (.int 0 u)) := by intro _; with_unfolding_all rfl) : Ru c A (subscriptTail value slice v (.int 0 u)) h P := by
  obtain ⟨a, t, t', rfl, x⟩ := x
  exact Ru.tupAt x (by decide) (by decide) (j := 0) rfl rfl (k t) (hs a)
theorem Ru.pt1 {value slice : Expr} {v : Value} {p : Pt} {u : Tok} {P : Value → Heap → Prop} (x : IsPt h v p) (k : ∀ t, P (.int p.2 t) h)
    (hs : ∀ a, subscripted slice false (.ref a) (.int 1 u) = operate [.ref a, .int 1 u] (getItem (.ref a) (.int 1 u)) := by intro _; with_unfolding_all rfl) : Ru c A (subscriptTail value slice v (.int 1 u)) h P := by
  obtain ⟨a, t, t', rfl, x⟩ := x
  exact Ru.tupAt x (by decide) (by decide) (j := 1) rfl rfl (k t') (hs a)


theorem spec_cross {f : Addr} (T : TopH hT mg mb) (F : FnH hT mg 7 "_law_cross" f) (rm : Rm 2 A) (U : Gr [] hT h) {v₁ v₂ v₃ : Value} {p q r : Pt} (x : IsPt h v₁ p) (y : IsPt h v₂ q) (z : IsPt h v₃ r) (bp : Bd p) (bq : Bd q) (br : Bd r)
    {P : Value → Heap → Prop} (k : ∀ h' t, Gr [] h h' → P (.int (crs p q r) t) h') : Ru c A (call (.ref f) [v₁, v₂, v₃]) h P := by
  obtain ⟨o, doc, pm, an, cdv, ct, ho, hd, hcd⟩ := F.obj
  refine Ru.callD (binds := [("one", v₁), ("other", v₂), ("spot", v₃)]) (body := bodyOf 7) rm.room (U.keeps _ _ ho) hd (T.lim.keeps U.keeps) (hcd.keeps U.keeps) rfl (fun _ => BindsTo.of_eq rfl) (show ∀ x ∈ (scopeOf 7).names, x.2 ≠ .cell by decide) (locs rfl) fun h₁ n₁ g₁ => ?_
  have x := g₁.pt x
  have y := g₁.pt y
  have z := g₁.pt z
  unfold Bd at bp bq br
  show Ru c (A.deeper (env8 7 "_law_cross" h.objs.size f cdv)) (execs (bodyOf 7) (env8 7 "_law_cross" h.objs.size f cdv)) _ _
  generalize A.deeper (env8 7 "_law_cross" h.objs.size f cdv) = A'
  generalize h.objs.size = L at n₁ ⊢
  show Ru c _ (execs (_ :: _) _) _ _
  repeat (first | ((with_reducible show Ru _ _ (isTrue (Expr.Compare _ _ _ _) _ _) _ _); refine Ru.test ?_) | ((with_reducible show Ru _ _ (eval (Expr.Name _ _) _) _ _); refine Ru.name (by assumption) rfl ?_) | ((with_reducible show Ru _ _ (eval (Expr.Constant (Const.int _) _ _) _) _ _); refine Ru.intC fun _ => ?_) | ((with_reducible show Ru _ _ (eval (Expr.Subscript _ _ _) _) _ _); refine Ru.sub ?_) | ((with_reducible show Ru _ _ (subscriptTail _ _ _ (Value.int 0 _)) _ _); refine Ru.pt0 (by assumption) fun _ => ?_) | ((with_reducible show Ru _ _ (subscriptTail _ _ _ (Value.int 1 _)) _ _); refine Ru.pt1 (by assumption) fun _ => ?_) | ((with_reducible show Ru _ _ (eval (Expr.BinOp _ _ _ _) _) _ _); refine Ru.bin ?_) | ((with_reducible show Ru _ _ (binaryOp Operator.Sub (Value.int _ _) (Value.int _ _)) _ _); refine Ru.sb fun _ => ?_) | ((with_reducible show Ru _ _ (binaryOp Operator.Add (Value.int _ _) (Value.int _ _)) _ _); refine Ru.add fun _ => ?_) | ((with_reducible show Ru _ _ (execs (_ :: _) _) _ _); refine Ru.cons ?_) | ((with_reducible show Ru _ _ (exec (Stmt.Return _ _) _) _ _); refine Ru.ret ?_))
  refine Ru.mul (fun _ => ?_) (mulOk (by omega) (by omega))
  repeat (first | ((with_reducible show Ru _ _ (isTrue (Expr.Compare _ _ _ _) _ _) _ _); refine Ru.test ?_) | ((with_reducible show Ru _ _ (eval (Expr.Name _ _) _) _ _); refine Ru.name (by assumption) rfl ?_) | ((with_reducible show Ru _ _ (eval (Expr.Constant (Const.int _) _ _) _) _ _); refine Ru.intC fun _ => ?_) | ((with_reducible show Ru _ _ (eval (Expr.Subscript _ _ _) _) _ _); refine Ru.sub ?_) | ((with_reducible show Ru _ _ (subscriptTail _ _ _ (Value.int 0 _)) _ _); refine Ru.pt0 (by assumption) fun _ => ?_) | ((with_reducible show Ru _ _ (subscriptTail _ _ _ (Value.int 1 _)) _ _); refine Ru.pt1 (by assumption) fun _ => ?_) | ((with_reducible show Ru _ _ (eval (Expr.BinOp _ _ _ _) _) _ _); refine Ru.bin ?_) | ((with_reducible show Ru _ _ (binaryOp Operator.Sub (Value.int _ _) (Value.int _ _)) _ _); refine Ru.sb fun _ => ?_) | ((with_reducible show Ru _ _ (binaryOp Operator.Add (Value.int _ _) (Value.int _ _)) _ _); refine Ru.add fun _ => ?_) | ((with_reducible show Ru _ _ (execs (_ :: _) _) _ _); refine Ru.cons ?_) | ((with_reducible show Ru _ _ (exec (Stmt.Return _ _) _) _ _); refine Ru.ret ?_))
  refine Ru.mul (fun _ => ?_) (mulOk (by omega) (by omega))
  repeat (first | ((with_reducible show Ru _ _ (isTrue (Expr.Compare _ _ _ _) _ _) _ _); refine Ru.test ?_) | ((with_reducible show Ru _ _ (eval (Expr.Name _ _) _) _ _); refine Ru.name (by assumption) rfl ?_) | ((with_reducible show Ru _ _ (eval (Expr.Constant (Const.int _) _ _) _) _ _); refine Ru.intC fun _ => ?_) | ((with_reducible show Ru _ _ (eval (Expr.Subscript _ _ _) _) _ _); refine Ru.sub ?_) | ((with_reducible show Ru _ _ (subscriptTail _ _ _ (Value.int 0 _)) _ _); refine Ru.pt0 (by assumption) fun _ => ?_) | ((with_reducible show Ru _ _ (subscriptTail _ _ _ (Value.int 1 _)) _ _); refine Ru.pt1 (by assumption) fun _ => ?_) | ((with_reducible show Ru _ _ (eval (Expr.BinOp _ _ _ _) _) _ _); refine Ru.bin ?_) | ((with_reducible show Ru _ _ (binaryOp Operator.Sub (Value.int _ _) (Value.int _ _)) _ _); refine Ru.sb fun _ => ?_) | ((with_reducible show Ru _ _ (binaryOp Operator.Add (Value.int _ _) (Value.int _ _)) _ _); refine Ru.add fun _ => ?_) | ((with_reducible show Ru _ _ (execs (_ :: _) _) _ _); refine Ru.cons ?_) | ((with_reducible show Ru _ _ (exec (Stmt.Return _ _) _) _ _); refine Ru.ret ?_))
  exact k h₁ _ g₁
end
end Mink

/-! MkI -/
namespace Mink
open PySem PySem.W PyProof.Rows PySem.Calls

/-- what bisect_left is bound to -/
structure BindB (hT : Heap) (fd : FuncData) : Prop where
  four : ∀ (c : Cx) (h : Heap) (a x : Value) (t : Tok), Gr [] hT h → ∃ binds, (∀ k, BindsTo (c.at h k) fd ⟨[a, x, .int 0 t, .none], []⟩ binds) ∧ (∀ y ∈ binds, (scopeOf 2).names.lookup y.1 = some .local) ∧
    binds.reverse.lookup ("a" : Str) = some a ∧ binds.reverse.lookup ("x" : Str) = some x ∧ binds.reverse.lookup ("lo" : Str) = some (.int 0 t) ∧ binds.reverse.lookup ("hi" : Str) = some .none ∧ binds.reverse.lookup ("key" : Str) = some .none
  two : ∀ (c : Cx) (h : Heap) (a x : Value), Gr [] hT h → ∃ binds t, (∀ k, BindsTo (c.at h k) fd ⟨[a, x], []⟩ binds) ∧ (∀ y ∈ binds, (scopeOf 2).names.lookup y.1 = some .local) ∧
    binds.reverse.lookup ("a" : Str) = some a ∧ binds.reverse.lookup ("x" : Str) = some x ∧ binds.reverse.lookup ("lo" : Str) = some (.int 0 t) ∧ binds.reverse.lookup ("hi" : Str) = some .none ∧ binds.reverse.lookup ("key" : Str) = some .none
structure FnB (hT : Heap) (mg : Str → Option Value) (f : Addr) : Prop where
  glob : mg "bisect_left" = some (.ref f)
  obj : ∃ o dV kV doc pm an cdv ct, hT.get? f = some o ∧ o.data = .func (fnOf "bisect_left" "bisect_left" (paramsOf 2) (bodyOf 2) (scopeOf 2) dV kV doc pm an cdv ct) ∧ hT.CodeRec cdv "bisect_left" ∧ BindB hT (fnOf "bisect_left" "bisect_left" (paramsOf 2) (bodyOf 2) (scopeOf 2) dV kV doc pm an cdv ct)
  len : mg "len" = none

/-- where q goes in ps -/
structure Spot (ps : List Pt) (q : Pt) (i : Nat) : Prop where
  le : i ≤ ps.length
  lo : ∀ j p, j < i → ps[j]? = some p → Lt p q
  hi : ∀ j p, i ≤ j → ps[j]? = some p → Le q p

theorem Le.lt_of {p q r : Pt} (a : Le p q) (b : Lt q r) : Lt p r := by unfold Le at a; unfold Lt at *; omega
theorem SortedP.le {ps : List Pt} (s : SortedP ps) {i j : Nat} {p q : Pt} (h : i < j) (hi : ps[i]? = some p) (hj : ps[j]? = some q) : Le p q := by
  have hj' : j < ps.length := by
    rcases Nat.lt_or_ge j ps.length with h | h
    · exact h
    · rw [List.getElem?_eq_none h] at hj; cases hj
  have := List.pairwise_iff_getElem.mp s i j (by omega) hj' h
  rw [List.getElem?_eq_getElem (by omega)] at hi
  rw [List.getElem?_eq_getElem hj'] at hj
  cases hi; cases hj; exact this
theorem Gr.gone {h h' : Heap} {a : Addr} (g : Gr [] h h') (n : h'.get? a = none) : h.get? a = none := by
  cases e : h.get? a with
  | none => rfl
  | some o => rw [g.keeps _ _ e] at n; cases n

/-- between the turns of bisect_left -/
structure BisInv (h : Heap) (L la : Addr) (v : Value) (q : Pt) (ps : List Pt) (z : Nat) (h' : Heap) (m : Str → Option Value) (lo hi : Nat) (t t' : Tok) : Prop where
  n : h'.Ns L m
  ma : m "a" = some (.ref la)
  mx : m "x" = some v
  ml : m "lo" = some (.int lo t)
  mh : m "hi" = some (.int hi t')
  g : Gr [L] h h'
  h1 : lo ≤ hi
  h2 : hi ≤ ps.length
  h3 : ∀ j p, j < lo → ps[j]? = some p → Lt p q
  h4 : ∀ j p, hi ≤ j → ps[j]? = some p → Le q p
  z : z = hi - lo

section
variable {c : Cx} {A : Around} {h hT : Heap} {mg mb : Str → Option Value}


/-- the body of bisect_left, its names bound -/
theorem body_bisect {L la : Addr} {v : Value} {ps : List Pt} {q : Pt} {t : Tok} {m : Str → Option Value} {f : Addr} {cdv : Value} (T : TopH hT mg mb) (hlen : mg "len" = none) (hmb : mb "len" = some (.builtin "len"))
    (rm : Rm 0 A) (U : Gr [] hT h) (fr : hT.get? L = none) (n : h.Ns L m) (x : PtL h la ps) (y : IsPt h v q) (hs : SortedP ps) (hz : ps.length ≤ 10000)
    (ma : m "a" = some (.ref la)) (mx : m "x" = some v) (ml : m "lo" = some (.int 0 t)) (mh : m "hi" = some .none) (mk : m "key" = some .none)
    {P : Flow → Heap → Prop} (k : ∀ h' i t, Gr [L] h h' → Spot ps q i → P (.ret (.int (i : Nat) t)) h') : Ru c A (execs (bodyOf 2) (env8 2 "bisect_left" L f cdv)) h P := by
  obtain ⟨vs, nn, hl, hp⟩ := x
  have hsz : (List.toArray vs).size = ps.length := by simp [hp.length]
  have hsl : sizeLine = 16777216 := rfl
  have nL : la ≠ L := (ne_ns_ls n hl.isList).symm
  show Ru c _ (execs (_ :: _) _) _ _
  repeat (first | ((with_reducible show Ru _ _ (eval (Expr.Name _ _) _) _ _); refine Ru.name (by assumption) (by first | assumption | rfl) ?_) | ((with_reducible show Ru _ _ (eval (Expr.Constant (Const.int _) _ _) _) _ _); refine Ru.intC fun _ => ?_) | ((with_reducible show Ru _ _ (eval (Expr.Constant Const.none _ _) _) _ _); refine Ru.noneC ?_) | ((with_reducible show Ru _ _ (eval (Expr.Subscript _ _ _) _) _ _); refine Ru.sub ?_) | ((with_reducible show Ru _ _ (eval (Expr.BinOp _ _ _ _) _) _ _); refine Ru.bin ?_) | ((with_reducible show Ru _ _ (isTrue (Expr.Compare _ _ _ _) _ _) _ _); refine Ru.test ?_) | ((with_reducible show Ru _ _ (binaryOp Operator.Sub (Value.int _ _) (Value.int _ _)) _ _); refine Ru.sb fun _ => ?_) | ((with_reducible show Ru _ _ (binaryOp Operator.Add (Value.int _ _) (Value.int _ _)) _ _); refine Ru.add fun _ => ?_) | ((with_reducible show Ru _ _ (compareOp CmpOp.Lt (Value.int _ _) (Value.int _ _)) _ _); refine Ru.lt ?_) | ((with_reducible show Ru _ _ (compareOp CmpOp.Is Value.none Value.none) _ _); refine Ru.isNone ?_) | ((with_reducible show Ru _ _ (execs (_ :: _) _) _ _); refine Ru.cons ?_) | ((with_reducible show Ru _ _ (execs [] _) _ _); refine Ru.nil ?_) | ((with_reducible show Ru _ _ (exec (Stmt.If _ _ _ _) _) _ _); refine Ru.ifS ?_) | ((with_reducible show Ru _ _ (exec (Stmt.Assign _ _ _) _) _ _); refine Ru.asg ?_) | ((with_reducible show Ru _ _ (exec (Stmt.Return _ _) _) _ _); refine Ru.ret ?_))
  refine ⟨_, rfl, ?_⟩
  rw [show decide ((0 : Int) < 0) = false from rfl, if_neg (by simp)]
  repeat (first | ((with_reducible show Ru _ _ (eval (Expr.Name _ _) _) _ _); refine Ru.name (by assumption) (by first | assumption | rfl) ?_) | ((with_reducible show Ru _ _ (eval (Expr.Constant (Const.int _) _ _) _) _ _); refine Ru.intC fun _ => ?_) | ((with_reducible show Ru _ _ (eval (Expr.Constant Const.none _ _) _) _ _); refine Ru.noneC ?_) | ((with_reducible show Ru _ _ (eval (Expr.Subscript _ _ _) _) _ _); refine Ru.sub ?_) | ((with_reducible show Ru _ _ (eval (Expr.BinOp _ _ _ _) _) _ _); refine Ru.bin ?_) | ((with_reducible show Ru _ _ (isTrue (Expr.Compare _ _ _ _) _ _) _ _); refine Ru.test ?_) | ((with_reducible show Ru _ _ (binaryOp Operator.Sub (Value.int _ _) (Value.int _ _)) _ _); refine Ru.sb fun _ => ?_) | ((with_reducible show Ru _ _ (binaryOp Operator.Add (Value.int _ _) (Value.int _ _)) _ _); refine Ru.add fun _ => ?_) | ((with_reducible show Ru _ _ (compareOp CmpOp.Lt (Value.int _ _) (Value.int _ _)) _ _); refine Ru.lt ?_) | ((with_reducible show Ru _ _ (compareOp CmpOp.Is Value.none Value.none) _ _); refine Ru.isNone ?_) | ((with_reducible show Ru _ _ (execs (_ :: _) _) _ _); refine Ru.cons ?_) | ((with_reducible show Ru _ _ (execs [] _) _ _); refine Ru.nil ?_) | ((with_reducible show Ru _ _ (exec (Stmt.If _ _ _ _) _) _ _); refine Ru.ifS ?_) | ((with_reducible show Ru _ _ (exec (Stmt.Assign _ _ _) _) _ _); refine Ru.asg ?_) | ((with_reducible show Ru _ _ (exec (Stmt.Return _ _) _) _ _); refine Ru.ret ?_))
  refine ⟨_, rfl, ?_⟩
  rw [if_pos rfl]
  repeat (first | ((with_reducible show Ru _ _ (eval (Expr.Name _ _) _) _ _); refine Ru.name (by assumption) (by first | assumption | rfl) ?_) | ((with_reducible show Ru _ _ (eval (Expr.Constant (Const.int _) _ _) _) _ _); refine Ru.intC fun _ => ?_) | ((with_reducible show Ru _ _ (eval (Expr.Constant Const.none _ _) _) _ _); refine Ru.noneC ?_) | ((with_reducible show Ru _ _ (eval (Expr.Subscript _ _ _) _) _ _); refine Ru.sub ?_) | ((with_reducible show Ru _ _ (eval (Expr.BinOp _ _ _ _) _) _ _); refine Ru.bin ?_) | ((with_reducible show Ru _ _ (isTrue (Expr.Compare _ _ _ _) _ _) _ _); refine Ru.test ?_) | ((with_reducible show Ru _ _ (binaryOp Operator.Sub (Value.int _ _) (Value.int _ _)) _ _); refine Ru.sb fun _ => ?_) | ((with_reducible show Ru _ _ (binaryOp Operator.Add (Value.int _ _) (Value.int _ _)) _ _); refine Ru.add fun _ => ?_) | ((with_reducible show Ru _ _ (compareOp CmpOp.Lt (Value.int _ _) (Value.int _ _)) _ _); refine Ru.lt ?_) | ((with_reducible show Ru _ _ (compareOp CmpOp.Is Value.none Value.none) _ _); refine Ru.isNone ?_) | ((with_reducible show Ru _ _ (execs (_ :: _) _) _ _); refine Ru.cons ?_) | ((with_reducible show Ru _ _ (execs [] _) _ _); refine Ru.nil ?_) | ((with_reducible show Ru _ _ (exec (Stmt.If _ _ _ _) _) _ _); refine Ru.ifS ?_) | ((with_reducible show Ru _ _ (exec (Stmt.Assign _ _ _) _) _ _); refine Ru.asg ?_) | ((with_reducible show Ru _ _ (exec (Stmt.Return _ _) _) _ _); refine Ru.ret ?_))
  refine Ru.callN (Ru.blt (T.g.keeps U.keeps) hlen (T.b.keeps U.keeps) hmb ?_)
  refine Ru.withB (Ru.spc (Ru.name n ma (Ru.spn ?_)))
  refine Ru.lenL hl.isList (by omega) fun u => ?_
  refine Ru.store n fun h₁ n₁ g₁ => ?_
  repeat (first | ((with_reducible show Ru _ _ (eval (Expr.Name _ _) _) _ _); refine Ru.name (by assumption) (by first | assumption | rfl) ?_) | ((with_reducible show Ru _ _ (eval (Expr.Constant (Const.int _) _ _) _) _ _); refine Ru.intC fun _ => ?_) | ((with_reducible show Ru _ _ (eval (Expr.Constant Const.none _ _) _) _ _); refine Ru.noneC ?_) | ((with_reducible show Ru _ _ (eval (Expr.Subscript _ _ _) _) _ _); refine Ru.sub ?_) | ((with_reducible show Ru _ _ (eval (Expr.BinOp _ _ _ _) _) _ _); refine Ru.bin ?_) | ((with_reducible show Ru _ _ (isTrue (Expr.Compare _ _ _ _) _ _) _ _); refine Ru.test ?_) | ((with_reducible show Ru _ _ (binaryOp Operator.Sub (Value.int _ _) (Value.int _ _)) _ _); refine Ru.sb fun _ => ?_) | ((with_reducible show Ru _ _ (binaryOp Operator.Add (Value.int _ _) (Value.int _ _)) _ _); refine Ru.add fun _ => ?_) | ((with_reducible show Ru _ _ (compareOp CmpOp.Lt (Value.int _ _) (Value.int _ _)) _ _); refine Ru.lt ?_) | ((with_reducible show Ru _ _ (compareOp CmpOp.Is Value.none Value.none) _ _); refine Ru.isNone ?_) | ((with_reducible show Ru _ _ (execs (_ :: _) _) _ _); refine Ru.cons ?_) | ((with_reducible show Ru _ _ (execs [] _) _ _); refine Ru.nil ?_) | ((with_reducible show Ru _ _ (exec (Stmt.If _ _ _ _) _) _ _); refine Ru.ifS ?_) | ((with_reducible show Ru _ _ (exec (Stmt.Assign _ _ _) _) _ _); refine Ru.asg ?_) | ((with_reducible show Ru _ _ (exec (Stmt.Return _ _) _) _ _); refine Ru.ret ?_))
  repeat (first | ((with_reducible show Ru _ _ (eval (Expr.Name _ _) _) _ _); refine Ru.name (by assumption) (by first | assumption | rfl) ?_) | ((with_reducible show Ru _ _ (eval (Expr.Constant (Const.int _) _ _) _) _ _); refine Ru.intC fun _ => ?_) | ((with_reducible show Ru _ _ (eval (Expr.Constant Const.none _ _) _) _ _); refine Ru.noneC ?_) | ((with_reducible show Ru _ _ (eval (Expr.Subscript _ _ _) _) _ _); refine Ru.sub ?_) | ((with_reducible show Ru _ _ (eval (Expr.BinOp _ _ _ _) _) _ _); refine Ru.bin ?_) | ((with_reducible show Ru _ _ (isTrue (Expr.Compare _ _ _ _) _ _) _ _); refine Ru.test ?_) | ((with_reducible show Ru _ _ (binaryOp Operator.Sub (Value.int _ _) (Value.int _ _)) _ _); refine Ru.sb fun _ => ?_) | ((with_reducible show Ru _ _ (binaryOp Operator.Add (Value.int _ _) (Value.int _ _)) _ _); refine Ru.add fun _ => ?_) | ((with_reducible show Ru _ _ (compareOp CmpOp.Lt (Value.int _ _) (Value.int _ _)) _ _); refine Ru.lt ?_) | ((with_reducible show Ru _ _ (compareOp CmpOp.Is Value.none Value.none) _ _); refine Ru.isNone ?_) | ((with_reducible show Ru _ _ (execs (_ :: _) _) _ _); refine Ru.cons ?_) | ((with_reducible show Ru _ _ (execs [] _) _ _); refine Ru.nil ?_) | ((with_reducible show Ru _ _ (exec (Stmt.If _ _ _ _) _) _ _); refine Ru.ifS ?_) | ((with_reducible show Ru _ _ (exec (Stmt.Assign _ _ _) _) _ _); refine Ru.asg ?_) | ((with_reducible show Ru _ _ (exec (Stmt.Return _ _) _) _ _); refine Ru.ret ?_))
  refine ⟨_, rfl, ?_⟩
  rw [if_pos rfl]
  repeat (first | ((with_reducible show Ru _ _ (eval (Expr.Name _ _) _) _ _); refine Ru.name (by assumption) (by first | assumption | rfl) ?_) | ((with_reducible show Ru _ _ (eval (Expr.Constant (Const.int _) _ _) _) _ _); refine Ru.intC fun _ => ?_) | ((with_reducible show Ru _ _ (eval (Expr.Constant Const.none _ _) _) _ _); refine Ru.noneC ?_) | ((with_reducible show Ru _ _ (eval (Expr.Subscript _ _ _) _) _ _); refine Ru.sub ?_) | ((with_reducible show Ru _ _ (eval (Expr.BinOp _ _ _ _) _) _ _); refine Ru.bin ?_) | ((with_reducible show Ru _ _ (isTrue (Expr.Compare _ _ _ _) _ _) _ _); refine Ru.test ?_) | ((with_reducible show Ru _ _ (binaryOp Operator.Sub (Value.int _ _) (Value.int _ _)) _ _); refine Ru.sb fun _ => ?_) | ((with_reducible show Ru _ _ (binaryOp Operator.Add (Value.int _ _) (Value.int _ _)) _ _); refine Ru.add fun _ => ?_) | ((with_reducible show Ru _ _ (compareOp CmpOp.Lt (Value.int _ _) (Value.int _ _)) _ _); refine Ru.lt ?_) | ((with_reducible show Ru _ _ (compareOp CmpOp.Is Value.none Value.none) _ _); refine Ru.isNone ?_) | ((with_reducible show Ru _ _ (execs (_ :: _) _) _ _); refine Ru.cons ?_) | ((with_reducible show Ru _ _ (execs [] _) _ _); refine Ru.nil ?_) | ((with_reducible show Ru _ _ (exec (Stmt.If _ _ _ _) _) _ _); refine Ru.ifS ?_) | ((with_reducible show Ru _ _ (exec (Stmt.Assign _ _ _) _) _ _); refine Ru.asg ?_) | ((with_reducible show Ru _ _ (exec (Stmt.Return _ _) _) _ _); refine Ru.ret ?_))
  have g₁ : Gr [L] h h₁ := g₁
  refine Ru.whileS (J := fun z h' => ∃ m lo hi t t', BisInv h L la v q ps z h' m lo hi t t') (n := ps.length) ?_ ?_
  rotate_left
  · refine ⟨_, 0, ps.length, t, u, n₁, ma, mx, ml, ?_, g₁, Nat.zero_le _, Nat.le_refl _, ?_, ?_, rfl⟩
    · show some (Value.int (List.toArray vs).size u) = _
      rw [hsz]
    · intro j p hj; omega
    · intro j p hj e; rw [List.getElem?_eq_none hj] at e; cases e
  rintro z h' ⟨m, lo, hi, t, t', ⟨n, ma, mx, ml, mh, g, h1, h2, h3, h4, hz'⟩⟩
  have l := g.ls hl (notIn_one nL)
  have pp := g.pts hp
  have y := g.pt y
  repeat (first | ((with_reducible show Ru _ _ (eval (Expr.Name _ _) _) _ _); refine Ru.name (by assumption) (by first | assumption | rfl) ?_) | ((with_reducible show Ru _ _ (eval (Expr.Constant (Const.int _) _ _) _) _ _); refine Ru.intC fun _ => ?_) | ((with_reducible show Ru _ _ (eval (Expr.Constant Const.none _ _) _) _ _); refine Ru.noneC ?_) | ((with_reducible show Ru _ _ (eval (Expr.Subscript _ _ _) _) _ _); refine Ru.sub ?_) | ((with_reducible show Ru _ _ (eval (Expr.BinOp _ _ _ _) _) _ _); refine Ru.bin ?_) | ((with_reducible show Ru _ _ (isTrue (Expr.Compare _ _ _ _) _ _) _ _); refine Ru.test ?_) | ((with_reducible show Ru _ _ (binaryOp Operator.Sub (Value.int _ _) (Value.int _ _)) _ _); refine Ru.sb fun _ => ?_) | ((with_reducible show Ru _ _ (binaryOp Operator.Add (Value.int _ _) (Value.int _ _)) _ _); refine Ru.add fun _ => ?_) | ((with_reducible show Ru _ _ (compareOp CmpOp.Lt (Value.int _ _) (Value.int _ _)) _ _); refine Ru.lt ?_) | ((with_reducible show Ru _ _ (compareOp CmpOp.Is Value.none Value.none) _ _); refine Ru.isNone ?_) | ((with_reducible show Ru _ _ (execs (_ :: _) _) _ _); refine Ru.cons ?_) | ((with_reducible show Ru _ _ (execs [] _) _ _); refine Ru.nil ?_) | ((with_reducible show Ru _ _ (exec (Stmt.If _ _ _ _) _) _ _); refine Ru.ifS ?_) | ((with_reducible show Ru _ _ (exec (Stmt.Assign _ _ _) _) _ _); refine Ru.asg ?_) | ((with_reducible show Ru _ _ (exec (Stmt.Return _ _) _) _ _); refine Ru.ret ?_))
  refine ⟨_, rfl, ?_⟩
  by_cases hlt : (lo : Int) < hi
  · rw [decide_eq_true hlt, if_pos rfl]
    repeat (first | ((with_reducible show Ru _ _ (eval (Expr.Name _ _) _) _ _); refine Ru.name (by assumption) (by first | assumption | rfl) ?_) | ((with_reducible show Ru _ _ (eval (Expr.Constant (Const.int _) _ _) _) _ _); refine Ru.intC fun _ => ?_) | ((with_reducible show Ru _ _ (eval (Expr.Constant Const.none _ _) _) _ _); refine Ru.noneC ?_) | ((with_reducible show Ru _ _ (eval (Expr.Subscript _ _ _) _) _ _); refine Ru.sub ?_) | ((with_reducible show Ru _ _ (eval (Expr.BinOp _ _ _ _) _) _ _); refine Ru.bin ?_) | ((with_reducible show Ru _ _ (isTrue (Expr.Compare _ _ _ _) _ _) _ _); refine Ru.test ?_) | ((with_reducible show Ru _ _ (binaryOp Operator.Sub (Value.int _ _) (Value.int _ _)) _ _); refine Ru.sb fun _ => ?_) | ((with_reducible show Ru _ _ (binaryOp Operator.Add (Value.int _ _) (Value.int _ _)) _ _); refine Ru.add fun _ => ?_) | ((with_reducible show Ru _ _ (compareOp CmpOp.Lt (Value.int _ _) (Value.int _ _)) _ _); refine Ru.lt ?_) | ((with_reducible show Ru _ _ (compareOp CmpOp.Is Value.none Value.none) _ _); refine Ru.isNone ?_) | ((with_reducible show Ru _ _ (execs (_ :: _) _) _ _); refine Ru.cons ?_) | ((with_reducible show Ru _ _ (execs [] _) _ _); refine Ru.nil ?_) | ((with_reducible show Ru _ _ (exec (Stmt.If _ _ _ _) _) _ _); refine Ru.ifS ?_) | ((with_reducible show Ru _ _ (exec (Stmt.Assign _ _ _) _) _ _); refine Ru.asg ?_) | ((with_reducible show Ru _ _ (exec (Stmt.Return _ _) _) _ _); refine Ru.ret ?_))
    refine Ru.fdiv (by decide) (fun tm => ?_) (PyProof.noPylong_of_log2 (by decide))
    have em : ((lo : Int) + (hi : Int)).fdiv 2 = ((lo + hi) / 2 : Nat) := by rw [Int.fdiv_eq_ediv_of_nonneg _ (by decide)]; omega
    rw [em]
    obtain ⟨mid, hmid⟩ : ∃ mid, mid = (lo + hi) / 2 := ⟨_, rfl⟩
    rw [← hmid]
    refine Ru.store n fun h₂ n₂ g₂ => ?_
    have l := g₂.ls l (notIn_one nL)
    have pp := g₂.pts pp
    have y := g₂.pt y
    have g := g.trans g₂
    repeat (first | ((with_reducible show Ru _ _ (eval (Expr.Name _ _) _) _ _); refine Ru.name (by assumption) (by first | assumption | rfl) ?_) | ((with_reducible show Ru _ _ (eval (Expr.Constant (Const.int _) _ _) _) _ _); refine Ru.intC fun _ => ?_) | ((with_reducible show Ru _ _ (eval (Expr.Constant Const.none _ _) _) _ _); refine Ru.noneC ?_) | ((with_reducible show Ru _ _ (eval (Expr.Subscript _ _ _) _) _ _); refine Ru.sub ?_) | ((with_reducible show Ru _ _ (eval (Expr.BinOp _ _ _ _) _) _ _); refine Ru.bin ?_) | ((with_reducible show Ru _ _ (isTrue (Expr.Compare _ _ _ _) _ _) _ _); refine Ru.test ?_) | ((with_reducible show Ru _ _ (binaryOp Operator.Sub (Value.int _ _) (Value.int _ _)) _ _); refine Ru.sb fun _ => ?_) | ((with_reducible show Ru _ _ (binaryOp Operator.Add (Value.int _ _) (Value.int _ _)) _ _); refine Ru.add fun _ => ?_) | ((with_reducible show Ru _ _ (compareOp CmpOp.Lt (Value.int _ _) (Value.int _ _)) _ _); refine Ru.lt ?_) | ((with_reducible show Ru _ _ (compareOp CmpOp.Is Value.none Value.none) _ _); refine Ru.isNone ?_) | ((with_reducible show Ru _ _ (execs (_ :: _) _) _ _); refine Ru.cons ?_) | ((with_reducible show Ru _ _ (execs [] _) _ _); refine Ru.nil ?_) | ((with_reducible show Ru _ _ (exec (Stmt.If _ _ _ _) _) _ _); refine Ru.ifS ?_) | ((with_reducible show Ru _ _ (exec (Stmt.Assign _ _ _) _) _ _); refine Ru.asg ?_) | ((with_reducible show Ru _ _ (exec (Stmt.Return _ _) _) _ _); refine Ru.ret ?_))
    obtain ⟨pm, epm⟩ : ∃ pm, ps[mid]? = some pm := ⟨_, List.getElem?_eq_getElem (by omega)⟩
    obtain ⟨vm, evm, tm⟩ := pp.get epm
    refine Ru.lstAt l.isList (by omega) (by omega) (v := vm) (by simpa using evm) ?_
    repeat (first | ((with_reducible show Ru _ _ (eval (Expr.Name _ _) _) _ _); refine Ru.name (by assumption) (by first | assumption | rfl) ?_) | ((with_reducible show Ru _ _ (eval (Expr.Constant (Const.int _) _ _) _) _ _); refine Ru.intC fun _ => ?_) | ((with_reducible show Ru _ _ (eval (Expr.Constant Const.none _ _) _) _ _); refine Ru.noneC ?_) | ((with_reducible show Ru _ _ (eval (Expr.Subscript _ _ _) _) _ _); refine Ru.sub ?_) | ((with_reducible show Ru _ _ (eval (Expr.BinOp _ _ _ _) _) _ _); refine Ru.bin ?_) | ((with_reducible show Ru _ _ (isTrue (Expr.Compare _ _ _ _) _ _) _ _); refine Ru.test ?_) | ((with_reducible show Ru _ _ (binaryOp Operator.Sub (Value.int _ _) (Value.int _ _)) _ _); refine Ru.sb fun _ => ?_) | ((with_reducible show Ru _ _ (binaryOp Operator.Add (Value.int _ _) (Value.int _ _)) _ _); refine Ru.add fun _ => ?_) | ((with_reducible show Ru _ _ (compareOp CmpOp.Lt (Value.int _ _) (Value.int _ _)) _ _); refine Ru.lt ?_) | ((with_reducible show Ru _ _ (compareOp CmpOp.Is Value.none Value.none) _ _); refine Ru.isNone ?_) | ((with_reducible show Ru _ _ (execs (_ :: _) _) _ _); refine Ru.cons ?_) | ((with_reducible show Ru _ _ (execs [] _) _ _); refine Ru.nil ?_) | ((with_reducible show Ru _ _ (exec (Stmt.If _ _ _ _) _) _ _); refine Ru.ifS ?_) | ((with_reducible show Ru _ _ (exec (Stmt.Assign _ _ _) _) _ _); refine Ru.asg ?_) | ((with_reducible show Ru _ _ (exec (Stmt.Return _ _) _) _ _); refine Ru.ret ?_))
    refine Ru.ltPt tm y (by have := rm.un; omega) ⟨_, rfl, ?_⟩
    cases hcmp : ltP pm q with
    | true =>
      rw [if_pos rfl]
      repeat (first | ((with_reducible show Ru _ _ (eval (Expr.Name _ _) _) _ _); refine Ru.name (by assumption) (by first | assumption | rfl) ?_) | ((with_reducible show Ru _ _ (eval (Expr.Constant (Const.int _) _ _) _) _ _); refine Ru.intC fun _ => ?_) | ((with_reducible show Ru _ _ (eval (Expr.Constant Const.none _ _) _) _ _); refine Ru.noneC ?_) | ((with_reducible show Ru _ _ (eval (Expr.Subscript _ _ _) _) _ _); refine Ru.sub ?_) | ((with_reducible show Ru _ _ (eval (Expr.BinOp _ _ _ _) _) _ _); refine Ru.bin ?_) | ((with_reducible show Ru _ _ (isTrue (Expr.Compare _ _ _ _) _ _) _ _); refine Ru.test ?_) | ((with_reducible show Ru _ _ (binaryOp Operator.Sub (Value.int _ _) (Value.int _ _)) _ _); refine Ru.sb fun _ => ?_) | ((with_reducible show Ru _ _ (binaryOp Operator.Add (Value.int _ _) (Value.int _ _)) _ _); refine Ru.add fun _ => ?_) | ((with_reducible show Ru _ _ (compareOp CmpOp.Lt (Value.int _ _) (Value.int _ _)) _ _); refine Ru.lt ?_) | ((with_reducible show Ru _ _ (compareOp CmpOp.Is Value.none Value.none) _ _); refine Ru.isNone ?_) | ((with_reducible show Ru _ _ (execs (_ :: _) _) _ _); refine Ru.cons ?_) | ((with_reducible show Ru _ _ (execs [] _) _ _); refine Ru.nil ?_) | ((with_reducible show Ru _ _ (exec (Stmt.If _ _ _ _) _) _ _); refine Ru.ifS ?_) | ((with_reducible show Ru _ _ (exec (Stmt.Assign _ _ _) _) _ _); refine Ru.asg ?_) | ((with_reducible show Ru _ _ (exec (Stmt.Return _ _) _) _ _); refine Ru.ret ?_))
      refine Ru.store n₂ fun h₃ n₃ g₃ => ?_
      repeat (first | ((with_reducible show Ru _ _ (eval (Expr.Name _ _) _) _ _); refine Ru.name (by assumption) (by first | assumption | rfl) ?_) | ((with_reducible show Ru _ _ (eval (Expr.Constant (Const.int _) _ _) _) _ _); refine Ru.intC fun _ => ?_) | ((with_reducible show Ru _ _ (eval (Expr.Constant Const.none _ _) _) _ _); refine Ru.noneC ?_) | ((with_reducible show Ru _ _ (eval (Expr.Subscript _ _ _) _) _ _); refine Ru.sub ?_) | ((with_reducible show Ru _ _ (eval (Expr.BinOp _ _ _ _) _) _ _); refine Ru.bin ?_) | ((with_reducible show Ru _ _ (isTrue (Expr.Compare _ _ _ _) _ _) _ _); refine Ru.test ?_) | ((with_reducible show Ru _ _ (binaryOp Operator.Sub (Value.int _ _) (Value.int _ _)) _ _); refine Ru.sb fun _ => ?_) | ((with_reducible show Ru _ _ (binaryOp Operator.Add (Value.int _ _) (Value.int _ _)) _ _); refine Ru.add fun _ => ?_) | ((with_reducible show Ru _ _ (compareOp CmpOp.Lt (Value.int _ _) (Value.int _ _)) _ _); refine Ru.lt ?_) | ((with_reducible show Ru _ _ (compareOp CmpOp.Is Value.none Value.none) _ _); refine Ru.isNone ?_) | ((with_reducible show Ru _ _ (execs (_ :: _) _) _ _); refine Ru.cons ?_) | ((with_reducible show Ru _ _ (execs [] _) _ _); refine Ru.nil ?_) | ((with_reducible show Ru _ _ (exec (Stmt.If _ _ _ _) _) _ _); refine Ru.ifS ?_) | ((with_reducible show Ru _ _ (exec (Stmt.Assign _ _ _) _) _ _); refine Ru.asg ?_) | ((with_reducible show Ru _ _ (exec (Stmt.Return _ _) _) _ _); refine Ru.ret ?_))
      refine ⟨hi - (mid + 1), by omega, _, mid + 1, hi, _, t', n₃, by rw [if_neg (by decide), if_neg (by decide)]; exact ma, by rw [if_neg (by decide), if_neg (by decide)]; exact mx, by rw [if_pos rfl]; rfl, by rw [if_neg (by decide), if_neg (by decide)]; exact mh, g.trans g₃, by omega, h2, fun j p hj e => ?_, h4, rfl⟩
      have hc := (ltP_iff _ _).mp hcmp
      have hmem : Le p pm := by
        by_cases hjm : j = mid
        · subst hjm; rw [epm] at e; cases e; exact Le.refl _
        · exact hs.le (by omega) e epm
      exact hmem.lt_of hc
    | false =>
      rw [if_neg (by simp)]
      repeat (first | ((with_reducible show Ru _ _ (eval (Expr.Name _ _) _) _ _); refine Ru.name (by assumption) (by first | assumption | rfl) ?_) | ((with_reducible show Ru _ _ (eval (Expr.Constant (Const.int _) _ _) _) _ _); refine Ru.intC fun _ => ?_) | ((with_reducible show Ru _ _ (eval (Expr.Constant Const.none _ _) _) _ _); refine Ru.noneC ?_) | ((with_reducible show Ru _ _ (eval (Expr.Subscript _ _ _) _) _ _); refine Ru.sub ?_) | ((with_reducible show Ru _ _ (eval (Expr.BinOp _ _ _ _) _) _ _); refine Ru.bin ?_) | ((with_reducible show Ru _ _ (isTrue (Expr.Compare _ _ _ _) _ _) _ _); refine Ru.test ?_) | ((with_reducible show Ru _ _ (binaryOp Operator.Sub (Value.int _ _) (Value.int _ _)) _ _); refine Ru.sb fun _ => ?_) | ((with_reducible show Ru _ _ (binaryOp Operator.Add (Value.int _ _) (Value.int _ _)) _ _); refine Ru.add fun _ => ?_) | ((with_reducible show Ru _ _ (compareOp CmpOp.Lt (Value.int _ _) (Value.int _ _)) _ _); refine Ru.lt ?_) | ((with_reducible show Ru _ _ (compareOp CmpOp.Is Value.none Value.none) _ _); refine Ru.isNone ?_) | ((with_reducible show Ru _ _ (execs (_ :: _) _) _ _); refine Ru.cons ?_) | ((with_reducible show Ru _ _ (execs [] _) _ _); refine Ru.nil ?_) | ((with_reducible show Ru _ _ (exec (Stmt.If _ _ _ _) _) _ _); refine Ru.ifS ?_) | ((with_reducible show Ru _ _ (exec (Stmt.Assign _ _ _) _) _ _); refine Ru.asg ?_) | ((with_reducible show Ru _ _ (exec (Stmt.Return _ _) _) _ _); refine Ru.ret ?_))
      refine Ru.store n₂ fun h₃ n₃ g₃ => ?_
      repeat (first | ((with_reducible show Ru _ _ (eval (Expr.Name _ _) _) _ _); refine Ru.name (by assumption) (by first | assumption | rfl) ?_) | ((with_reducible show Ru _ _ (eval (Expr.Constant (Const.int _) _ _) _) _ _); refine Ru.intC fun _ => ?_) | ((with_reducible show Ru _ _ (eval (Expr.Constant Const.none _ _) _) _ _); refine Ru.noneC ?_) | ((with_reducible show Ru _ _ (eval (Expr.Subscript _ _ _) _) _ _); refine Ru.sub ?_) | ((with_reducible show Ru _ _ (eval (Expr.BinOp _ _ _ _) _) _ _); refine Ru.bin ?_) | ((with_reducible show Ru _ _ (isTrue (Expr.Compare _ _ _ _) _ _) _ _); refine Ru.test ?_) | ((with_reducible show Ru _ _ (binaryOp Operator.Sub (Value.int _ _) (Value.int _ _)) _ _); refine Ru.sb fun _ => ?_) | ((with_reducible show Ru _ _ (binaryOp Operator.Add (Value.int _ _) (Value.int _ _)) _ _); refine Ru.add fun _ => ?_) | ((with_reducible show Ru _ _ (compareOp CmpOp.Lt (Value.int _ _) (Value.int _ _)) _ _); refine Ru.lt ?_) | ((with_reducible show Ru _ _ (compareOp CmpOp.Is Value.none Value.none) _ _); refine Ru.isNone ?_) | ((with_reducible show Ru _ _ (execs (_ :: _) _) _ _); refine Ru.cons ?_) | ((with_reducible show Ru _ _ (execs [] _) _ _); refine Ru.nil ?_) | ((with_reducible show Ru _ _ (exec (Stmt.If _ _ _ _) _) _ _); refine Ru.ifS ?_) | ((with_reducible show Ru _ _ (exec (Stmt.Assign _ _ _) _) _ _); refine Ru.asg ?_) | ((with_reducible show Ru _ _ (exec (Stmt.Return _ _) _) _ _); refine Ru.ret ?_))
      refine ⟨mid - lo, by omega, _, lo, mid, t, _, n₃, by rw [if_neg (by decide), if_neg (by decide)]; exact ma, by rw [if_neg (by decide), if_neg (by decide)]; exact mx, by rw [if_neg (by decide), if_neg (by decide)]; exact ml, by rw [if_pos rfl], g.trans g₃, by omega, by omega, h3, fun j p hj e => ?_, rfl⟩
      have hc := (ltP_false _ _).mp hcmp
      by_cases hjm : j = mid
      · subst hjm; rw [epm] at e; cases e; exact hc
      · exact hc.trans (hs.le (by omega) epm e)
  · rw [decide_eq_false hlt, if_neg (by simp)]
    repeat (first | ((with_reducible show Ru _ _ (eval (Expr.Name _ _) _) _ _); refine Ru.name (by assumption) (by first | assumption | rfl) ?_) | ((with_reducible show Ru _ _ (eval (Expr.Constant (Const.int _) _ _) _) _ _); refine Ru.intC fun _ => ?_) | ((with_reducible show Ru _ _ (eval (Expr.Constant Const.none _ _) _) _ _); refine Ru.noneC ?_) | ((with_reducible show Ru _ _ (eval (Expr.Subscript _ _ _) _) _ _); refine Ru.sub ?_) | ((with_reducible show Ru _ _ (eval (Expr.BinOp _ _ _ _) _) _ _); refine Ru.bin ?_) | ((with_reducible show Ru _ _ (isTrue (Expr.Compare _ _ _ _) _ _) _ _); refine Ru.test ?_) | ((with_reducible show Ru _ _ (binaryOp Operator.Sub (Value.int _ _) (Value.int _ _)) _ _); refine Ru.sb fun _ => ?_) | ((with_reducible show Ru _ _ (binaryOp Operator.Add (Value.int _ _) (Value.int _ _)) _ _); refine Ru.add fun _ => ?_) | ((with_reducible show Ru _ _ (compareOp CmpOp.Lt (Value.int _ _) (Value.int _ _)) _ _); refine Ru.lt ?_) | ((with_reducible show Ru _ _ (compareOp CmpOp.Is Value.none Value.none) _ _); refine Ru.isNone ?_) | ((with_reducible show Ru _ _ (execs (_ :: _) _) _ _); refine Ru.cons ?_) | ((with_reducible show Ru _ _ (execs [] _) _ _); refine Ru.nil ?_) | ((with_reducible show Ru _ _ (exec (Stmt.If _ _ _ _) _) _ _); refine Ru.ifS ?_) | ((with_reducible show Ru _ _ (exec (Stmt.Assign _ _ _) _) _ _); refine Ru.asg ?_) | ((with_reducible show Ru _ _ (exec (Stmt.Return _ _) _) _ _); refine Ru.ret ?_))
    have e : hi = lo := by omega
    subst e
    exact k _ _ _ g ⟨h2, h3, h4⟩

theorem spec_bisect4 {f : Addr} (T : TopH hT mg mb) (F : FnB hT mg f) (hmb : mb "len" = some (.builtin "len")) (rm : Rm 1 A) (U : Gr [] hT h) {la : Addr} {v : Value} {ps : List Pt} {q : Pt} {t : Tok} (x : PtL h la ps) (y : IsPt h v q) (hs : SortedP ps) (hz : ps.length ≤ 10000)
    {P : Value → Heap → Prop} (k : ∀ h' i t, Gr [] h h' → Spot ps q i → P (.int (i : Nat) t) h') : Ru c A (call (.ref f) [.ref la, v, .int 0 t, .none]) h P := by
  obtain ⟨o, dV, kV, doc, pm, an, cdv, ct, ho, hd, hcd, B⟩ := F.obj
  obtain ⟨binds, hb, hloc, b1, b2, b3, b4, b5⟩ := B.four c h (.ref la) v t U
  refine Ru.callD (binds := binds) (body := bodyOf 2) rm.room (U.keeps _ _ ho) hd (T.lim.keeps U.keeps) (hcd.keeps U.keeps) rfl hb (show ∀ x ∈ (scopeOf 2).names, x.2 ≠ .cell by decide) hloc fun h₁ n₁ g₁ => ?_
  show Ru c (A.deeper (env8 2 "bisect_left" h.objs.size f cdv)) (execs (bodyOf 2) (env8 2 "bisect_left" h.objs.size f cdv)) _ _
  refine body_bisect T F.len hmb (rm.deep _) (U.trans g₁) ?_ n₁ (x.gr0 g₁) (g₁.pt y) hs hz b1 b2 b3 b4 b5 fun h' i t g s => k h' i t (g₁.past g ?_) s
  · exact U.gone (fresh_size _)
  · simp [fresh_size]
theorem spec_bisect2 {f : Addr} (T : TopH hT mg mb) (F : FnB hT mg f) (hmb : mb "len" = some (.builtin "len")) (rm : Rm 1 A) (U : Gr [] hT h) {la : Addr} {v : Value} {ps : List Pt} {q : Pt} (x : PtL h la ps) (y : IsPt h v q) (hs : SortedP ps) (hz : ps.length ≤ 10000)
    {P : Value → Heap → Prop} (k : ∀ h' i t, Gr [] h h' → Spot ps q i → P (.int (i : Nat) t) h') : Ru c A (call (.ref f) [.ref la, v]) h P := by
  obtain ⟨o, dV, kV, doc, pm, an, cdv, ct, ho, hd, hcd, B⟩ := F.obj
  obtain ⟨binds, t, hb, hloc, b1, b2, b3, b4, b5⟩ := B.two c h (.ref la) v U
  refine Ru.callD (binds := binds) (body := bodyOf 2) rm.room (U.keeps _ _ ho) hd (T.lim.keeps U.keeps) (hcd.keeps U.keeps) rfl hb (show ∀ x ∈ (scopeOf 2).names, x.2 ≠ .cell by decide) hloc fun h₁ n₁ g₁ => ?_
  show Ru c (A.deeper (env8 2 "bisect_left" h.objs.size f cdv)) (execs (bodyOf 2) (env8 2 "bisect_left" h.objs.size f cdv)) _ _
  refine body_bisect T F.len hmb (rm.deep _) (U.trans g₁) ?_ n₁ (x.gr0 g₁) (g₁.pt y) hs hz b1 b2 b3 b4 b5 fun h' i t g s => k h' i t (g₁.past g ?_) s
  · exact U.gone (fresh_size _)
  · simp [fresh_size]
end
end Mink

/-! MkJ -/
namespace Mink
open PySem PySem.W PyProof.Rows PySem.Calls

structure BindI (hT : Heap) (fd : FuncData) : Prop where
  two : ∀ (c : Cx) (h : Heap) (a x : Value), Gr [] hT h → ∃ binds t, (∀ k, BindsTo (c.at h k) fd ⟨[a, x], []⟩ binds) ∧ (∀ y ∈ binds, (scopeOf 1).names.lookup y.1 = some .local) ∧
    binds.reverse.lookup ("a" : Str) = some a ∧ binds.reverse.lookup ("x" : Str) = some x ∧ binds.reverse.lookup ("lo" : Str) = some (.int 0 t) ∧ binds.reverse.lookup ("hi" : Str) = some .none ∧ binds.reverse.lookup ("key" : Str) = some .none
structure FnI (hT : Heap) (mg : Str → Option Value) (f : Addr) : Prop where
  glob : mg "insort_left" = some (.ref f)
  obj : ∃ o dV kV doc pm an cdv ct, hT.get? f = some o ∧ o.data = .func (fnOf "insort_left" "insort_left" (paramsOf 1) (bodyOf 1) (scopeOf 1) dV kV doc pm an cdv ct) ∧ hT.CodeRec cdv "insort_left" ∧ BindI hT (fnOf "insort_left" "insort_left" (paramsOf 1) (bodyOf 1) (scopeOf 1) dV kV doc pm an cdv ct)

theorem PtL.obj {h : Heap} {a : Addr} {ps : List Pt} (x : PtL h a ps) : ∃ o, h.get? a = some o ∧ o.cls = .type "list" ∧ o.dict = none := let ⟨_, _, l, _⟩ := x; ⟨_, l, rfl, rfl⟩
theorem PtL.ne_ns {h : Heap} {a b : Addr} {ps : List Pt} {m : Str → Option Value} (x : PtL h a ps) (n : h.Ns b m) : a ≠ b := let ⟨_, _, l, _⟩ := x; (ne_ns_ls n l.isList).symm
theorem PtsAre.ins {h : Heap} {vs : List Value} {ps : List Pt} {v : Value} {q : Pt} (x : PtsAre h vs ps) (y : IsPt h v q) (i : Nat) : PtsAre h (vs.take i ++ v :: vs.drop i) (ps.take i ++ q :: ps.drop i) :=
  (x.take i).append (.cons y (x.drop i))

section
variable {c : Cx} {A : Around} {h hT : Heap} {mg mb : Str → Option Value}

theorem Ru.insP {l : Addr} {ps : List Pt} {v : Value} {q : Pt} {i : Nat} {u : Tok} {P : Value → Heap → Prop} (x : PtL h l ps) (y : IsPt h v q) (hz : ps.length ≤ 10000) (hi : i ≤ ps.length) (p : ∀ h', PtL h' l (ps.take i ++ q :: ps.drop i) → Gr [l] h h' → P .none h') :
    Ru c A (call (.builtin "list.insert") [.ref l, .int (i : Nat) u, v]) h P := by
  obtain ⟨vs, n, hl, hp⟩ := x
  have hlen := hp.length
  have hsl : sizeLine = 16777216 := rfl
  refine Ru.insL hl (by simp; omega) (by omega) (by simp; omega) fun h' n' hl' g => p h' ⟨vs.take i ++ v :: vs.drop i, n', ?_, g.pts (hp.ins y i)⟩ g
  have e : ((vs.toArray.extract 0 (i : Int).toNat).push v ++ vs.toArray.extract (i : Int).toNat) = (vs.take i ++ v :: vs.drop i).toArray := by
    simp
    exact List.take_of_length_le (by simp)
  rw [← e]; exact hl'


theorem spec_insort {f fb : Addr} (T : TopH hT mg mb) (F : FnI hT mg f) (FB : FnB hT mg fb) (hmb : mb "len" = some (.builtin "len")) (rm : Rm 2 A) (U : Gr [] hT h) {la : Addr} {v : Value} {ps : List Pt} {q : Pt} (x : PtL h la ps) (y : IsPt h v q) (hs : SortedP ps) (hz : ps.length ≤ 10000)
    {P : Value → Heap → Prop} (k : ∀ h' i, Gr [la] h h' → PtL h' la (ps.take i ++ q :: ps.drop i) → Spot ps q i → P .none h') : Ru c A (call (.ref f) [.ref la, v]) h P := by
  obtain ⟨o, dV, kV, doc, pm, an, cdv, ct, ho, hd, hcd, B⟩ := F.obj
  obtain ⟨ob, _, _, _, _, _, _, _, hob, hdb, _⟩ := FB.obj
  obtain ⟨binds, t, hb, hloc, b1, b2, b3, b4, b5⟩ := B.two c h (.ref la) v U
  refine Ru.callD (binds := binds) (body := bodyOf 1) rm.room (U.keeps _ _ ho) hd (T.lim.keeps U.keeps) (hcd.keeps U.keeps) rfl hb (show ∀ x ∈ (scopeOf 1).names, x.2 ≠ .cell by decide) hloc fun h₁ n₁ g₁ => ?_
  obtain ⟨L, hL⟩ : ∃ L, L = h.objs.size := ⟨_, rfl⟩
  have fL : h.get? L = none := hL ▸ fresh_size _
  rw [← hL] at n₁ ⊢
  show Ru c (A.deeper (env8 1 "insort_left" L f cdv)) (execs (bodyOf 1) (env8 1 "insort_left" L f cdv)) _ _
  have rm := rm.deep (env8 1 "insort_left" L f cdv)
  generalize A.deeper (env8 1 "insort_left" L f cdv) = A' at rm ⊢
  have x₁ := x.gr0 g₁
  have y₁ := g₁.pt y
  have nL := x₁.ne_ns n₁
  have U₁ := U.trans g₁
  show Ru c _ (execs (_ :: _) _) _ _
  repeat (first | ((with_reducible show Ru _ _ (eval (Expr.Name _ _) _) _ _); refine Ru.name (by assumption) (by first | assumption | rfl) ?_) | ((with_reducible show Ru _ _ (eval (Expr.Constant (Const.int _) _ _) _) _ _); refine Ru.intC fun _ => ?_) | ((with_reducible show Ru _ _ (eval (Expr.Constant Const.none _ _) _) _ _); refine Ru.noneC ?_) | ((with_reducible show Ru _ _ (eval (Expr.Subscript _ _ _) _) _ _); refine Ru.sub ?_) | ((with_reducible show Ru _ _ (eval (Expr.BinOp _ _ _ _) _) _ _); refine Ru.bin ?_) | ((with_reducible show Ru _ _ (isTrue (Expr.Compare _ _ _ _) _ _) _ _); refine Ru.test ?_) | ((with_reducible show Ru _ _ (compareOp CmpOp.Is Value.none Value.none) _ _); refine Ru.isNone ?_) | ((with_reducible show Ru _ _ (execs (_ :: _) _) _ _); refine Ru.cons ?_) | ((with_reducible show Ru _ _ (execs [] _) _ _); refine Ru.nil ?_) | ((with_reducible show Ru _ _ (exec (Stmt.If _ _ _ _) _) _ _); refine Ru.ifS ?_) | ((with_reducible show Ru _ _ (exec (Stmt.Assign _ _ _) _) _ _); refine Ru.asg ?_) | ((with_reducible show Ru _ _ (exec (Stmt.Return _ _) _) _ _); refine Ru.ret ?_))
  refine ⟨_, rfl, ?_⟩
  rw [if_pos rfl]
  repeat (first | ((with_reducible show Ru _ _ (eval (Expr.Name _ _) _) _ _); refine Ru.name (by assumption) (by first | assumption | rfl) ?_) | ((with_reducible show Ru _ _ (eval (Expr.Constant (Const.int _) _ _) _) _ _); refine Ru.intC fun _ => ?_) | ((with_reducible show Ru _ _ (eval (Expr.Constant Const.none _ _) _) _ _); refine Ru.noneC ?_) | ((with_reducible show Ru _ _ (eval (Expr.Subscript _ _ _) _) _ _); refine Ru.sub ?_) | ((with_reducible show Ru _ _ (eval (Expr.BinOp _ _ _ _) _) _ _); refine Ru.bin ?_) | ((with_reducible show Ru _ _ (isTrue (Expr.Compare _ _ _ _) _ _) _ _); refine Ru.test ?_) | ((with_reducible show Ru _ _ (compareOp CmpOp.Is Value.none Value.none) _ _); refine Ru.isNone ?_) | ((with_reducible show Ru _ _ (execs (_ :: _) _) _ _); refine Ru.cons ?_) | ((with_reducible show Ru _ _ (execs [] _) _ _); refine Ru.nil ?_) | ((with_reducible show Ru _ _ (exec (Stmt.If _ _ _ _) _) _ _); refine Ru.ifS ?_) | ((with_reducible show Ru _ _ (exec (Stmt.Assign _ _ _) _) _ _); refine Ru.asg ?_) | ((with_reducible show Ru _ _ (exec (Stmt.Return _ _) _) _ _); refine Ru.ret ?_))
  refine Ru.callN (Ru.glob (T.g.keeps U₁.keeps) FB.glob ?_)
  refine Ru.withF (o := ob) hdb ?_
  refine Ru.spc ?_
  (first | ((with_reducible show Ru _ _ (eval (Expr.Name _ _) _) _ _); refine Ru.name (by assumption) (by first | assumption | rfl) ?_) | ((with_reducible show Ru _ _ (eval (Expr.Constant (Const.int _) _ _) _) _ _); refine Ru.intC fun _ => ?_) | ((with_reducible show Ru _ _ (eval (Expr.Constant Const.none _ _) _) _ _); refine Ru.noneC ?_) | ((with_reducible show Ru _ _ (eval (Expr.Subscript _ _ _) _) _ _); refine Ru.sub ?_) | ((with_reducible show Ru _ _ (eval (Expr.BinOp _ _ _ _) _) _ _); refine Ru.bin ?_) | ((with_reducible show Ru _ _ (isTrue (Expr.Compare _ _ _ _) _ _) _ _); refine Ru.test ?_) | ((with_reducible show Ru _ _ (compareOp CmpOp.Is Value.none Value.none) _ _); refine Ru.isNone ?_) | ((with_reducible show Ru _ _ (execs (_ :: _) _) _ _); refine Ru.cons ?_) | ((with_reducible show Ru _ _ (execs [] _) _ _); refine Ru.nil ?_) | ((with_reducible show Ru _ _ (exec (Stmt.If _ _ _ _) _) _ _); refine Ru.ifS ?_) | ((with_reducible show Ru _ _ (exec (Stmt.Assign _ _ _) _) _ _); refine Ru.asg ?_) | ((with_reducible show Ru _ _ (exec (Stmt.Return _ _) _) _ _); refine Ru.ret ?_))
  refine Ru.spc ?_
  (first | ((with_reducible show Ru _ _ (eval (Expr.Name _ _) _) _ _); refine Ru.name (by assumption) (by first | assumption | rfl) ?_) | ((with_reducible show Ru _ _ (eval (Expr.Constant (Const.int _) _ _) _) _ _); refine Ru.intC fun _ => ?_) | ((with_reducible show Ru _ _ (eval (Expr.Constant Const.none _ _) _) _ _); refine Ru.noneC ?_) | ((with_reducible show Ru _ _ (eval (Expr.Subscript _ _ _) _) _ _); refine Ru.sub ?_) | ((with_reducible show Ru _ _ (eval (Expr.BinOp _ _ _ _) _) _ _); refine Ru.bin ?_) | ((with_reducible show Ru _ _ (isTrue (Expr.Compare _ _ _ _) _ _) _ _); refine Ru.test ?_) | ((with_reducible show Ru _ _ (compareOp CmpOp.Is Value.none Value.none) _ _); refine Ru.isNone ?_) | ((with_reducible show Ru _ _ (execs (_ :: _) _) _ _); refine Ru.cons ?_) | ((with_reducible show Ru _ _ (execs [] _) _ _); refine Ru.nil ?_) | ((with_reducible show Ru _ _ (exec (Stmt.If _ _ _ _) _) _ _); refine Ru.ifS ?_) | ((with_reducible show Ru _ _ (exec (Stmt.Assign _ _ _) _) _ _); refine Ru.asg ?_) | ((with_reducible show Ru _ _ (exec (Stmt.Return _ _) _) _ _); refine Ru.ret ?_))
  refine Ru.spc ?_
  (first | ((with_reducible show Ru _ _ (eval (Expr.Name _ _) _) _ _); refine Ru.name (by assumption) (by first | assumption | rfl) ?_) | ((with_reducible show Ru _ _ (eval (Expr.Constant (Const.int _) _ _) _) _ _); refine Ru.intC fun _ => ?_) | ((with_reducible show Ru _ _ (eval (Expr.Constant Const.none _ _) _) _ _); refine Ru.noneC ?_) | ((with_reducible show Ru _ _ (eval (Expr.Subscript _ _ _) _) _ _); refine Ru.sub ?_) | ((with_reducible show Ru _ _ (eval (Expr.BinOp _ _ _ _) _) _ _); refine Ru.bin ?_) | ((with_reducible show Ru _ _ (isTrue (Expr.Compare _ _ _ _) _ _) _ _); refine Ru.test ?_) | ((with_reducible show Ru _ _ (compareOp CmpOp.Is Value.none Value.none) _ _); refine Ru.isNone ?_) | ((with_reducible show Ru _ _ (execs (_ :: _) _) _ _); refine Ru.cons ?_) | ((with_reducible show Ru _ _ (execs [] _) _ _); refine Ru.nil ?_) | ((with_reducible show Ru _ _ (exec (Stmt.If _ _ _ _) _) _ _); refine Ru.ifS ?_) | ((with_reducible show Ru _ _ (exec (Stmt.Assign _ _ _) _) _ _); refine Ru.asg ?_) | ((with_reducible show Ru _ _ (exec (Stmt.Return _ _) _) _ _); refine Ru.ret ?_))
  refine Ru.spc ?_
  (first | ((with_reducible show Ru _ _ (eval (Expr.Name _ _) _) _ _); refine Ru.name (by assumption) (by first | assumption | rfl) ?_) | ((with_reducible show Ru _ _ (eval (Expr.Constant (Const.int _) _ _) _) _ _); refine Ru.intC fun _ => ?_) | ((with_reducible show Ru _ _ (eval (Expr.Constant Const.none _ _) _) _ _); refine Ru.noneC ?_) | ((with_reducible show Ru _ _ (eval (Expr.Subscript _ _ _) _) _ _); refine Ru.sub ?_) | ((with_reducible show Ru _ _ (eval (Expr.BinOp _ _ _ _) _) _ _); refine Ru.bin ?_) | ((with_reducible show Ru _ _ (isTrue (Expr.Compare _ _ _ _) _ _) _ _); refine Ru.test ?_) | ((with_reducible show Ru _ _ (compareOp CmpOp.Is Value.none Value.none) _ _); refine Ru.isNone ?_) | ((with_reducible show Ru _ _ (execs (_ :: _) _) _ _); refine Ru.cons ?_) | ((with_reducible show Ru _ _ (execs [] _) _ _); refine Ru.nil ?_) | ((with_reducible show Ru _ _ (exec (Stmt.If _ _ _ _) _) _ _); refine Ru.ifS ?_) | ((with_reducible show Ru _ _ (exec (Stmt.Assign _ _ _) _) _ _); refine Ru.asg ?_) | ((with_reducible show Ru _ _ (exec (Stmt.Return _ _) _) _ _); refine Ru.ret ?_))
  refine Ru.spn ⟨U₁.keeps _ _ hob, ?_⟩
  refine spec_bisect4 T FB hmb rm U₁ x₁ y₁ hs hz fun h₂ i t₂ g₂ sp => ?_
  refine Ru.store (g₂.ns n₁ List.not_mem_nil) fun h₃ n₃ g₃ => ?_
  have g₃ : Gr [L] h₂ h₃ := g₃
  have x₃ := (x₁.gr0 g₂).gr g₃ (notIn_one nL)
  have y₃ := g₃.pt (g₂.pt y₁)
  repeat (first | ((with_reducible show Ru _ _ (eval (Expr.Name _ _) _) _ _); refine Ru.name (by assumption) (by first | assumption | rfl) ?_) | ((with_reducible show Ru _ _ (eval (Expr.Constant (Const.int _) _ _) _) _ _); refine Ru.intC fun _ => ?_) | ((with_reducible show Ru _ _ (eval (Expr.Constant Const.none _ _) _) _ _); refine Ru.noneC ?_) | ((with_reducible show Ru _ _ (eval (Expr.Subscript _ _ _) _) _ _); refine Ru.sub ?_) | ((with_reducible show Ru _ _ (eval (Expr.BinOp _ _ _ _) _) _ _); refine Ru.bin ?_) | ((with_reducible show Ru _ _ (isTrue (Expr.Compare _ _ _ _) _ _) _ _); refine Ru.test ?_) | ((with_reducible show Ru _ _ (compareOp CmpOp.Is Value.none Value.none) _ _); refine Ru.isNone ?_) | ((with_reducible show Ru _ _ (execs (_ :: _) _) _ _); refine Ru.cons ?_) | ((with_reducible show Ru _ _ (execs [] _) _ _); refine Ru.nil ?_) | ((with_reducible show Ru _ _ (exec (Stmt.If _ _ _ _) _) _ _); refine Ru.ifS ?_) | ((with_reducible show Ru _ _ (exec (Stmt.Assign _ _ _) _) _ _); refine Ru.asg ?_) | ((with_reducible show Ru _ _ (exec (Stmt.Return _ _) _) _ _); refine Ru.ret ?_))
  refine Ru.exprS ?_
  refine Ru.meth PySem.F.plainAttrs_list PySem.F.slot_list_insert PySem.F.type_list_insert ?_
  (first | ((with_reducible show Ru _ _ (eval (Expr.Name _ _) _) _ _); refine Ru.name (by assumption) (by first | assumption | rfl) ?_) | ((with_reducible show Ru _ _ (eval (Expr.Constant (Const.int _) _ _) _) _ _); refine Ru.intC fun _ => ?_) | ((with_reducible show Ru _ _ (eval (Expr.Constant Const.none _ _) _) _ _); refine Ru.noneC ?_) | ((with_reducible show Ru _ _ (eval (Expr.Subscript _ _ _) _) _ _); refine Ru.sub ?_) | ((with_reducible show Ru _ _ (eval (Expr.BinOp _ _ _ _) _) _ _); refine Ru.bin ?_) | ((with_reducible show Ru _ _ (isTrue (Expr.Compare _ _ _ _) _ _) _ _); refine Ru.test ?_) | ((with_reducible show Ru _ _ (compareOp CmpOp.Is Value.none Value.none) _ _); refine Ru.isNone ?_) | ((with_reducible show Ru _ _ (execs (_ :: _) _) _ _); refine Ru.cons ?_) | ((with_reducible show Ru _ _ (execs [] _) _ _); refine Ru.nil ?_) | ((with_reducible show Ru _ _ (exec (Stmt.If _ _ _ _) _) _ _); refine Ru.ifS ?_) | ((with_reducible show Ru _ _ (exec (Stmt.Assign _ _ _) _) _ _); refine Ru.asg ?_) | ((with_reducible show Ru _ _ (exec (Stmt.Return _ _) _) _ _); refine Ru.ret ?_))
  obtain ⟨ol, hol, hcl, hdl⟩ := x₃.obj
  refine ⟨la, ol, rfl, hol, hcl, hdl, ?_⟩
  refine Ru.withB ?_
  refine Ru.spc ?_
  (first | ((with_reducible show Ru _ _ (eval (Expr.Name _ _) _) _ _); refine Ru.name (by assumption) (by first | assumption | rfl) ?_) | ((with_reducible show Ru _ _ (eval (Expr.Constant (Const.int _) _ _) _) _ _); refine Ru.intC fun _ => ?_) | ((with_reducible show Ru _ _ (eval (Expr.Constant Const.none _ _) _) _ _); refine Ru.noneC ?_) | ((with_reducible show Ru _ _ (eval (Expr.Subscript _ _ _) _) _ _); refine Ru.sub ?_) | ((with_reducible show Ru _ _ (eval (Expr.BinOp _ _ _ _) _) _ _); refine Ru.bin ?_) | ((with_reducible show Ru _ _ (isTrue (Expr.Compare _ _ _ _) _ _) _ _); refine Ru.test ?_) | ((with_reducible show Ru _ _ (compareOp CmpOp.Is Value.none Value.none) _ _); refine Ru.isNone ?_) | ((with_reducible show Ru _ _ (execs (_ :: _) _) _ _); refine Ru.cons ?_) | ((with_reducible show Ru _ _ (execs [] _) _ _); refine Ru.nil ?_) | ((with_reducible show Ru _ _ (exec (Stmt.If _ _ _ _) _) _ _); refine Ru.ifS ?_) | ((with_reducible show Ru _ _ (exec (Stmt.Assign _ _ _) _) _ _); refine Ru.asg ?_) | ((with_reducible show Ru _ _ (exec (Stmt.Return _ _) _) _ _); refine Ru.ret ?_))
  refine Ru.spc ?_
  (first | ((with_reducible show Ru _ _ (eval (Expr.Name _ _) _) _ _); refine Ru.name (by assumption) (by first | assumption | rfl) ?_) | ((with_reducible show Ru _ _ (eval (Expr.Constant (Const.int _) _ _) _) _ _); refine Ru.intC fun _ => ?_) | ((with_reducible show Ru _ _ (eval (Expr.Constant Const.none _ _) _) _ _); refine Ru.noneC ?_) | ((with_reducible show Ru _ _ (eval (Expr.Subscript _ _ _) _) _ _); refine Ru.sub ?_) | ((with_reducible show Ru _ _ (eval (Expr.BinOp _ _ _ _) _) _ _); refine Ru.bin ?_) | ((with_reducible show Ru _ _ (isTrue (Expr.Compare _ _ _ _) _ _) _ _); refine Ru.test ?_) | ((with_reducible show Ru _ _ (compareOp CmpOp.Is Value.none Value.none) _ _); refine Ru.isNone ?_) | ((with_reducible show Ru _ _ (execs (_ :: _) _) _ _); refine Ru.cons ?_) | ((with_reducible show Ru _ _ (execs [] _) _ _); refine Ru.nil ?_) | ((with_reducible show Ru _ _ (exec (Stmt.If _ _ _ _) _) _ _); refine Ru.ifS ?_) | ((with_reducible show Ru _ _ (exec (Stmt.Assign _ _ _) _) _ _); refine Ru.asg ?_) | ((with_reducible show Ru _ _ (exec (Stmt.Return _ _) _) _ _); refine Ru.ret ?_))
  refine Ru.spn ?_
  refine Ru.insP x₃ y₃ hz sp.le fun h₄ x₄ g₄ => ⟨rfl, ?_⟩
  show Ru c _ (execs [] _) _ _
  (first | ((with_reducible show Ru _ _ (eval (Expr.Name _ _) _) _ _); refine Ru.name (by assumption) (by first | assumption | rfl) ?_) | ((with_reducible show Ru _ _ (eval (Expr.Constant (Const.int _) _ _) _) _ _); refine Ru.intC fun _ => ?_) | ((with_reducible show Ru _ _ (eval (Expr.Constant Const.none _ _) _) _ _); refine Ru.noneC ?_) | ((with_reducible show Ru _ _ (eval (Expr.Subscript _ _ _) _) _ _); refine Ru.sub ?_) | ((with_reducible show Ru _ _ (eval (Expr.BinOp _ _ _ _) _) _ _); refine Ru.bin ?_) | ((with_reducible show Ru _ _ (isTrue (Expr.Compare _ _ _ _) _ _) _ _); refine Ru.test ?_) | ((with_reducible show Ru _ _ (compareOp CmpOp.Is Value.none Value.none) _ _); refine Ru.isNone ?_) | ((with_reducible show Ru _ _ (execs (_ :: _) _) _ _); refine Ru.cons ?_) | ((with_reducible show Ru _ _ (execs [] _) _ _); refine Ru.nil ?_) | ((with_reducible show Ru _ _ (exec (Stmt.If _ _ _ _) _) _ _); refine Ru.ifS ?_) | ((with_reducible show Ru _ _ (exec (Stmt.Assign _ _ _) _) _ _); refine Ru.asg ?_) | ((with_reducible show Ru _ _ (exec (Stmt.Return _ _) _) _ _); refine Ru.ret ?_))
  refine k h₄ i ?_ x₄ sp
  intro b o hb hi
  have e₂ := (g₁.trans g₂).keeps b o hb
  have e₃ := g₃ b o e₂ (.inl (notIn_one fun e => by rw [e, fL] at hb; cases hb))
  exact g₄ b o e₃ hi
end
end Mink

/-! MkK -/
namespace Mink
open PySem PySem.W PyProof.Rows PySem.Calls

theorem SortedP.unique {ps qs : List Pt} (a : SortedP ps) (b : SortedP qs) (p : ps.Perm qs) : ps = qs := List.Perm.eq_of_pairwise (fun _ _ _ _ x y => Le.antisymm x y) a b p
theorem SortedP.ins {ps : List Pt} {q : Pt} {i : Nat} (s : SortedP ps) (sp : Spot ps q i) : SortedP (ps.take i ++ q :: ps.drop i) := by
  unfold SortedP at *
  have lo : ∀ a ∈ ps.take i, Lt a q := fun a ha => by
    obtain ⟨j, hj⟩ := List.getElem?_of_mem ha
    have hji : j < i := by
      rcases Nat.lt_or_ge j i with h | h
      · exact h
      · rw [List.getElem?_eq_none (by rw [List.length_take]; omega)] at hj; cases hj
    rw [List.getElem?_take_of_lt hji] at hj
    exact sp.lo j a hji hj
  have hi : ∀ a ∈ ps.drop i, Le q a := fun a ha => by
    obtain ⟨j, hj⟩ := List.getElem?_of_mem ha
    rw [List.getElem?_drop] at hj
    exact sp.hi (i + j) a (by omega) hj
  rw [List.pairwise_append]
  refine ⟨s.sublist (List.take_sublist _ _), ?_, fun a ha b hb => ?_⟩
  · rw [List.pairwise_cons]
    exact ⟨hi, s.sublist (List.drop_sublist _ _)⟩
  · rcases List.mem_cons.mp hb with e | hb
    · subst e; exact (lo a ha).le
    · exact (lo a ha).le.trans (hi b hb)
theorem ins_perm (ps : List Pt) (q : Pt) (i : Nat) : (ps.take i ++ q :: ps.drop i).Perm (q :: ps) := by
  have := List.perm_middle (a := q) (l₁ := ps.take i) (l₂ := ps.drop i)
  rwa [List.take_append_drop] at this

section
variable {c : Cx} {A : Around} {h : Heap} {env : Env}

theorem Ru.exprA {e : Expr} {pos : Pos} {P : Flow → Heap → Prop} (r : Ru c A (eval e env) h fun _ h₁ => P .next h₁) (hi : interactive env = false := by rfl) (hs : swapsWith e none pos.line env = pure false := by rfl) :
    Ru c A (exec (.Expr e pos) env) h P := fun _ _ => wpAny_Expr_any (r.into fun _ _ k p => good_at (k' := k) p) hi hs
theorem Ru.andC {x : Expr} {rest : List Expr} {pos : Pos} {whole : Sem Value} {P : Bool → Heap → Prop} (r : Ru c A (isTrue x env (eval x env)) h fun b h₁ => if b then Ru c A (isTrue (.BoolOp .And rest pos) env whole) h₁ P else P false h₁) :
    Ru c A (isTrue (.BoolOp .And (x :: rest) pos) env whole) h P :=
  fun k E => isTrue_and (r.into fun b h' k' q => by cases b with | true => exact q k' E | false => exact good_at (k' := k') q)
theorem Ru.andN {pos : Pos} {whole : Sem Value} {P : Bool → Heap → Prop} (p : P true h) : Ru c A (isTrue (.BoolOp .And [] pos) env whole) h P := fun _ _ => isTrue_and_nil (good_at p)
theorem Ru.orC {x : Expr} {rest : List Expr} {pos : Pos} {whole : Sem Value} {P : Bool → Heap → Prop} (r : Ru c A (isTrue x env (eval x env)) h fun b h₁ => if b then P true h₁ else Ru c A (isTrue (.BoolOp .Or rest pos) env whole) h₁ P) :
    Ru c A (isTrue (.BoolOp .Or (x :: rest) pos) env whole) h P :=
  fun k E => isTrue_or (r.into fun b h' k' q => by cases b with | false => exact q k' E | true => exact good_at (k' := k') q)
theorem Ru.orN {pos : Pos} {whole : Sem Value} {P : Bool → Heap → Prop} (p : P false h) : Ru c A (isTrue (.BoolOp .Or [] pos) env whole) h P := fun _ _ => isTrue_or_nil (good_at p)
theorem Ru.negC {i : Int} {k : Nat} {pos pos' : Pos} {P : Value → Heap → Prop} (p : ∀ t, P (.int (-i) t) h) : Ru c A (eval (.UnaryOp .USub (.Constant (.int i) k pos') pos) env) h P :=
  fun _ _ => UnaryOp_ (wpAny_Constant_int (PyProof.Rows.neg_int (good_at (c := c) (p _))))

variable {P : Value → Heap → Prop}
theorem Ru.appP {l : Addr} {ps : List Pt} {v : Value} {q : Pt} (x : PtL h l ps) (y : IsPt h v q) (hz : ps.length ≤ 10000) (p : ∀ h', PtL h' l (ps ++ [q]) → Gr [l] h h' → P .none h') :
    Ru c A (call (.builtin "list.append") [.ref l, v]) h P := by
  obtain ⟨vs, n, hl, hp⟩ := x
  have hlen := hp.length
  have hsl : sizeLine = 16777216 := rfl
  refine Ru.appL hl (by simp; omega) fun h' n' hl' g => p h' ⟨vs ++ [v], n', ?_, g.pts (hp.append (.one y))⟩ g
  have e : vs.toArray.push v = (vs ++ [v]).toArray := by simp
  rw [← e]; exact hl'
theorem All2.snoc {α β : Type} {R : α → β → Prop} : ∀ {bs : List β} {b : β} {as : List α}, All2 R as (bs ++ [b]) → ∃ as' a, as = as' ++ [a] ∧ All2 R as' bs ∧ R a b
  | [], b, _, .cons h .nil => ⟨[], _, rfl, .nil, h⟩
  | _ :: _, b, _, .cons h t => let ⟨as', a, e, x, y⟩ := t.snoc; ⟨_ :: as', a, by rw [e]; rfl, .cons h x, y⟩
theorem Ru.popP {l : Addr} {ps : List Pt} {q : Pt} {pos : Pos} (x : PtL h l (ps ++ [q])) (hz : ps.length ≤ 10000) (p : ∀ h' v, PtL h' l ps → Gr [l] h h' → P v h') :
    Ru c A (callWith pos (.builtin "list.pop") [.ref l] (backTo pos (starEach [] env)) []) h P := by
  obtain ⟨vs, n, hl, hp⟩ := x
  obtain ⟨vs, v, rfl, hp, y⟩ := hp.snoc
  have hlen := hp.length
  have hsl : sizeLine = 16777216 := rfl
  refine Ru.popL hl (by simp; omega) (y := v) (by simp) fun h' n' hl' g => p h' v ⟨vs, n', ?_, g.pts hp⟩ g
  have e : (vs ++ [v]).toArray.eraseIdxIfInBounds ((vs ++ [v]).toArray.size - 1) = vs.toArray := by
    apply Array.toList_inj.mp
    have : ∀ (l : List Value) v, (l ++ [v]).eraseIdx l.length = l := by intro l v; induction l <;> simp_all
    simpa using this vs v
  rw [← e]; exact hl'
theorem Ru.lenP {l : Addr} {ps : List Pt} (x : PtL h l ps) (hz : ps.length ≤ 10000) (p : ∀ u, P (.int ps.length u) h) : Ru c A (call (.builtin "len") [.ref l]) h P := by
  obtain ⟨vs, n, hl, hp⟩ := x
  have hlen := hp.length
  have hsl : sizeLine = 16777216 := rfl
  refine Ru.lenL hl.isList (by simp; omega) fun u => ?_
  have := p u
  rw [← hlen] at this
  simpa using this
theorem Ru.atP {value slice : Expr} {l : Addr} {ps : List Pt} {q : Pt} {k : Int} {u : Tok} (x : PtL h l ps) (lo : 0 ≤ k) (hi : k < 2 ^ 63) (e : ps[k.toNat]? = some q) (p : ∀ v, IsPt h v q → P v h)
    (hs : ∀ a, subscripted slice false (.ref a) (.int k u) = operate [.ref a, .int k u] (getItem (.ref a) (.int k u)) := by intro _; with_unfolding_all rfl) : Ru c A (subscriptTail value slice (.ref l) (.int k u)) h P := by
  obtain ⟨vs, n, hl, hp⟩ := x
  obtain ⟨v, ev, y⟩ := hp.get e
  exact Ru.lstAt hl.isList lo hi (v := v) (by simpa using ev) (p v y) (hs l)
theorem Ru.negP {value slice : Expr} {l : Addr} {ps : List Pt} {q : Pt} {k : Int} {u : Tok} (x : PtL h l ps) (lo : k < 0) (l1 : -(ps.length : Int) ≤ k) (l2 : -(2 ^ 63) ≤ k) (e : ps[(k + ps.length).toNat]? = some q) (p : ∀ v, IsPt h v q → P v h)
    (hs : ∀ a, subscripted slice false (.ref a) (.int k u) = operate [.ref a, .int k u] (getItem (.ref a) (.int k u)) := by intro _; with_unfolding_all rfl) : Ru c A (subscriptTail value slice (.ref l) (.int k u)) h P := by
  obtain ⟨vs, n, hl, hp⟩ := x
  obtain ⟨v, ev, y⟩ := hp.get e
  have hlen := hp.length
  exact Ru.lstNeg hl.isList lo (by simpa [hlen] using l1) l2 (v := v) (by simpa [hlen] using ev) (p v y) (hs l)
theorem Ru.cutP {value slice : Expr} {l sl : Addr} {ps qs : List Pt} {vl vu vk : Value} {lo hi st : Option Int} (x : PtL h l ps) (hz : ps.length ≤ 10000) (s : h.IsSliceOf sl vl vu vk) (pl : IsPart vl lo) (pu : IsPart vu hi) (pk : IsPart vk st) (h0 : st ≠ some 0)
    (e : ∀ vs : List Value, PtsAre h vs ps → ∃ ws : List Value, slicePick (List.toArray vs) lo hi st = List.toArray ws ∧ PtsAre h ws qs)
    (p : ∀ h' a, PtL h' a qs → Gr [] h h' → h.get? a = none → P (.ref a) h')
    (hs : ∀ l, ∃ ops, subscripted slice false (.ref l) (.ref sl) = operate ops (getItem (.ref l) (.ref sl)) := by intro _; exact ⟨_, by with_unfolding_all rfl⟩) : Ru c A (subscriptTail value slice (.ref l) (.ref sl)) h P := by
  obtain ⟨vs, n, hl, hp⟩ := x
  have hlen := hp.length
  have hsl : sizeLine = 16777216 := rfl
  obtain ⟨ws, ew, hw⟩ := e vs hp
  obtain ⟨ops, hs⟩ := hs l
  refine Ru.lstCut hl.isList (by simp; omega) s pl pu pk h0 (fun h' a hl' g n => p h' a ⟨ws, 0, ?_, g.pts hw⟩ g n) hs
  rw [← ew]; exact hl'
theorem cut_rev {h : Heap} {ps : List Pt} : ∀ vs : List Value, PtsAre h vs ps → ∃ ws : List Value, slicePick (List.toArray vs) none none (some (-1)) = List.toArray ws ∧ PtsAre h ws ps.reverse :=
  fun vs x => ⟨vs.reverse, krv_pick _, x.reverse⟩
theorem cut_init {h : Heap} {ps : List Pt} : ∀ vs : List Value, PtsAre h vs ps → ∃ ws : List Value, slicePick (List.toArray vs) none (some (-1)) none = List.toArray ws ∧ PtsAre h ws ps.dropLast :=
  fun vs x => ⟨vs.take (vs.length - 1), by simpa using slicePick_butLast (List.toArray vs) 1 (by decide), by rw [List.dropLast_eq_take, x.length]; exact x.take _⟩
theorem cut_one {h : Heap} {ps : List Pt} : ∀ vs : List Value, PtsAre h vs ps → ∃ ws : List Value, slicePick (List.toArray vs) none (some 1) none = List.toArray ws ∧ PtsAre h ws (ps.take 1) :=
  fun vs x => ⟨vs.take 1, by simpa using slicePick_upto' (List.toArray vs) 1, x.take _⟩
theorem Ru.addP {a b : Addr} {ps qs : List Pt} (x : PtL h a ps) (y : PtL h b qs) (hz : ps.length + qs.length ≤ 10000) (p : ∀ h' a, PtL h' a (ps ++ qs) → Gr [] h h' → h.get? a = none → P (.ref a) h') :
    Ru c A (binaryOp .Add (.ref a) (.ref b)) h P := by
  obtain ⟨vs, n, hl, hp⟩ := x
  obtain ⟨ws, m, hm, hq⟩ := y
  have h1 := hp.length
  have h2 := hq.length
  have hsl : sizeLine = 16777216 := rfl
  refine Ru.addL hl hm (by simp; omega) fun h' hl' g => p h' _ ⟨vs ++ ws, 0, ?_, g.pts (hp.append hq)⟩ g (fresh_size _)
  have e : vs.toArray ++ ws.toArray = (vs ++ ws).toArray := by simp
  rw [← e]; exact hl'
/-- an empty list display -/
theorem Ru.lst0 {pos : Pos} (p : ∀ h' a, PtL h' a [] → Gr [] h h' → h.get? a = none → P (.ref a) h') : Ru c A (eval (.List [] pos) env) h P :=
  Ru.lstE (Ru.spn (Ru.newL (by decide) fun h' l g => p h' _ ⟨[], 0, l, .nil⟩ g (fresh_size _)))
end

/-! what _law_corners computes -/
noncomputable def popW : List Pt → Pt → List Pt
  | b :: a :: st, p => if crs a b p ≤ 0 then popW (a :: st) p else b :: a :: st
  | st, _ => st
noncomputable def push (st : List Pt) (p : Pt) : List Pt := match popW st p with
  | [] => [p]
  | b :: st' => if b = p then b :: st' else p :: b :: st'
noncomputable def half (qs : List Pt) : List Pt := (qs.foldl push []).reverse
noncomputable def cornersOf (qs : List Pt) : List Pt :=
  let f := (half qs).dropLast ++ (half qs.reverse).dropLast
  if f ≠ [] then f else qs.take 1

theorem popW_len (st : List Pt) (p : Pt) : (popW st p).length ≤ st.length := by
  fun_induction popW st p with
  | case1 a b st p h ih => simp at *; omega
  | case2 => simp
  | case3 => simp
theorem popW_mem (st : List Pt) (p : Pt) : ∀ q ∈ popW st p, q ∈ st := by
  fun_induction popW st p with
  | case1 a b st p h ih => intro q hq; exact List.mem_cons_of_mem _ (ih q hq)
  | case2 => intro q hq; exact hq
  | case3 => intro q hq; exact hq
theorem push_len (st : List Pt) (p : Pt) : (push st p).length ≤ st.length + 1 := by
  have := popW_len st p
  unfold push
  split
  · simp
  · rename_i b st' e
    rw [e] at this
    simp at this
    split <;> simp <;> omega
theorem push_mem (st : List Pt) (p : Pt) : ∀ q ∈ push st p, q ∈ st ∨ q = p := by
  have := popW_mem st p
  unfold push
  split
  · intro q hq; simp at hq; exact .inr hq
  · rename_i b st' e
    rw [e] at this
    intro q hq
    split at hq
    · exact .inl (this q hq)
    · rcases List.mem_cons.mp hq with e | hq
      · exact .inr e
      · exact .inl (this q hq)
theorem pushes_len (qs st : List Pt) : (qs.foldl push st).length ≤ st.length + qs.length := by
  induction qs generalizing st with
  | nil => simp
  | cons q qs ih => have := ih (push st q); have := push_len st q; simp at *; omega
theorem pushes_mem (qs st : List Pt) : ∀ q ∈ qs.foldl push st, q ∈ st ∨ q ∈ qs := by
  induction qs generalizing st with
  | nil => intro q hq; exact .inl hq
  | cons p qs ih =>
    intro q hq
    rcases ih _ q hq with h | h
    · rcases push_mem st p q h with h | h
      · exact .inl h
      · exact .inr (by simp [h])
    · exact .inr (by simp [h])
theorem half_len (qs : List Pt) : (half qs).length ≤ qs.length := by have := pushes_len qs []; simpa [half] using this
theorem half_mem (qs : List Pt) : ∀ q ∈ half qs, q ∈ qs := by
  intro q hq
  have := pushes_mem qs [] q (by simpa [half] using hq)
  simpa using this
theorem corners_mem (qs : List Pt) : ∀ q ∈ cornersOf qs, q ∈ qs := by
  intro q hq
  unfold cornersOf at hq
  simp only at hq
  split at hq
  · rcases List.mem_append.mp hq with h | h
    · exact half_mem qs q ((List.dropLast_sublist _).subset h)
    · have := half_mem qs.reverse q ((List.dropLast_sublist _).subset h); simpa using this
  · exact List.mem_of_mem_take hq
theorem corners_len (qs : List Pt) : (cornersOf qs).length ≤ 2 * qs.length := by
  have h1 := half_len qs
  have h2 := half_len qs.reverse
  unfold cornersOf
  simp only
  split
  · simp at *; omega
  · simp; omega
end Mink

/-! MkL -/
namespace Mink
open PySem PySem.W PyProof.Rows PySem.Calls

noncomputable def stAt (i j : Nat) : Stmt := (bodyOf i).getD j (.Pass ⟨0, 0, 0, 0⟩)
noncomputable def forBody : Stmt → List Stmt
  | .For _ _ b _ _ => b
  | .While _ b _ _ => b
  | _ => []

/-- between the pops -/
structure TurnInv (h : Heap) (H : Addr) (st : List Pt) (p : Pt) (z : Nat) (h' : Heap) (st' : List Pt) : Prop where
  x : PtL h' H st'.reverse
  e : popW st' p = popW st p
  s : ∀ q ∈ st', q ∈ st
  g : Gr [H] h h'
  z : z = st'.length
  l : st'.length ≤ 9000

section
variable {c : Cx} {A : Around} {h hT : Heap} {mg mb : Str → Option Value} {cdv : Value} {L f : Addr}


theorem corner_turn {fc H : Addr} {m : Str → Option Value} {st : List Pt} {v : Value} {p : Pt} (T : TopH hT mg mb) (FC : FnH hT mg 7 "_law_cross" fc) (hml : mg "len" = none) (hmb : mb "len" = some (.builtin "len")) (rm : Rm 3 A) (U : Gr [] hT h) (new : hT.get? H = none)
    (n : h.Ns L m) (mp : m "point" = some v) (mh : m "half" = some (.ref H)) (x : PtL h H st.reverse) (y : IsPt h v p) (hz : st.length ≤ 9000) (bs : ∀ q ∈ st, Bd q) (bp : Bd p) {P : Flow → Heap → Prop} (k : ∀ h', PtL h' H (push st p).reverse → Gr [H] h h' → P .next h') :
    Ru c A (execs (forBody ((forBody (stAt 8 4)).getD 1 (.Pass ⟨0, 0, 0, 0⟩))) (env8 8 "_law_corners" L f cdv)) h P := by
  obtain ⟨oc, _, _, _, _, _, hoc, hdc, _⟩ := FC.obj
  have nL : L ≠ H := (x.ne_ns n).symm
  show Ru c _ (execs (_ :: _) _) _ _
  (first | ((with_reducible show Ru _ _ (eval (Expr.Name _ _) _) _ _); refine Ru.name (by assumption) (by first | assumption | rfl) ?_) | ((with_reducible show Ru _ _ (eval (Expr.Constant (Const.int _) _ _) _) _ _); refine Ru.intC fun _ => ?_) | ((with_reducible show Ru _ _ (eval (Expr.Constant Const.none _ _) _) _ _); refine Ru.noneC ?_) | ((with_reducible show Ru _ _ (eval (Expr.UnaryOp UnaryOp.USub (Expr.Constant _ _ _) _) _) _ _); refine Ru.negC fun _ => ?_) | ((with_reducible show Ru _ _ (eval (Expr.Subscript _ _ _) _) _ _); refine Ru.sub ?_) | ((with_reducible show Ru _ _ (eval (Expr.BinOp _ _ _ _) _) _ _); refine Ru.bin ?_) | ((with_reducible show Ru _ _ (eval (Expr.IfExp _ _ _ _) _) _ _); refine Ru.ifE ?_) | ((with_reducible show Ru _ _ (isTrue (Expr.Compare _ _ _ _) _ _) _ _); refine Ru.test ?_) | ((with_reducible show Ru _ _ (isTrue (Expr.BoolOp BoolOp.And (_ :: _) _) _ _) _ _); refine Ru.andC ?_) | ((with_reducible show Ru _ _ (isTrue (Expr.BoolOp BoolOp.And [] _) _ _) _ _); refine Ru.andN ?_) | ((with_reducible show Ru _ _ (isTrue (Expr.BoolOp BoolOp.Or (_ :: _) _) _ _) _ _); refine Ru.orC ?_) | ((with_reducible show Ru _ _ (isTrue (Expr.BoolOp BoolOp.Or [] _) _ _) _ _); refine Ru.orN ?_) | ((with_reducible show Ru _ _ (execs (_ :: _) _) _ _); refine Ru.cons ?_) | ((with_reducible show Ru _ _ (execs [] _) _ _); refine Ru.nil ?_) | ((with_reducible show Ru _ _ (exec (Stmt.If _ _ _ _) _) _ _); refine Ru.ifS ?_) | ((with_reducible show Ru _ _ (exec (Stmt.Assign _ _ _) _) _ _); refine Ru.asg ?_) | ((with_reducible show Ru _ _ (spliced (backTo _ (starEach (_ :: _) _))) _ _); refine Ru.spc ?_) | ((with_reducible show Ru _ _ (spliced (backTo _ (starEach [] _))) _ _); refine Ru.spn ?_) | ((with_reducible show Ru _ _ (exec (Stmt.Return _ _) _) _ _); refine Ru.ret ?_))
  refine Ru.mono (P := fun fl h' => fl = .next ∧ PtL h' H (popW st p).reverse ∧ Gr [H] h h') ?_ ?_
  · refine Ru.whileS (J := fun z h' => ∃ st', TurnInv h H st p z h' st') (n := st.length) ?_ ⟨st, x, rfl, fun _ h => h, .refl _ _, rfl, hz⟩
    rintro z h₁ ⟨st', ⟨x₁, e₁, s₁, g₁, hz₁, hl₁⟩⟩
    have U₁ := U.past g₁ (not1' new)
    have n₁ := g₁.ns n (notIn_one nL)
    have y₁ := g₁.pt y
    repeat (first | ((with_reducible show Ru _ _ (eval (Expr.Name _ _) _) _ _); refine Ru.name (by assumption) (by first | assumption | rfl) ?_) | ((with_reducible show Ru _ _ (eval (Expr.Constant (Const.int _) _ _) _) _ _); refine Ru.intC fun _ => ?_) | ((with_reducible show Ru _ _ (eval (Expr.Constant Const.none _ _) _) _ _); refine Ru.noneC ?_) | ((with_reducible show Ru _ _ (eval (Expr.UnaryOp UnaryOp.USub (Expr.Constant _ _ _) _) _) _ _); refine Ru.negC fun _ => ?_) | ((with_reducible show Ru _ _ (eval (Expr.Subscript _ _ _) _) _ _); refine Ru.sub ?_) | ((with_reducible show Ru _ _ (eval (Expr.BinOp _ _ _ _) _) _ _); refine Ru.bin ?_) | ((with_reducible show Ru _ _ (eval (Expr.IfExp _ _ _ _) _) _ _); refine Ru.ifE ?_) | ((with_reducible show Ru _ _ (isTrue (Expr.Compare _ _ _ _) _ _) _ _); refine Ru.test ?_) | ((with_reducible show Ru _ _ (isTrue (Expr.BoolOp BoolOp.And (_ :: _) _) _ _) _ _); refine Ru.andC ?_) | ((with_reducible show Ru _ _ (isTrue (Expr.BoolOp BoolOp.And [] _) _ _) _ _); refine Ru.andN ?_) | ((with_reducible show Ru _ _ (isTrue (Expr.BoolOp BoolOp.Or (_ :: _) _) _ _) _ _); refine Ru.orC ?_) | ((with_reducible show Ru _ _ (isTrue (Expr.BoolOp BoolOp.Or [] _) _ _) _ _); refine Ru.orN ?_) | ((with_reducible show Ru _ _ (execs (_ :: _) _) _ _); refine Ru.cons ?_) | ((with_reducible show Ru _ _ (execs [] _) _ _); refine Ru.nil ?_) | ((with_reducible show Ru _ _ (exec (Stmt.If _ _ _ _) _) _ _); refine Ru.ifS ?_) | ((with_reducible show Ru _ _ (exec (Stmt.Assign _ _ _) _) _ _); refine Ru.asg ?_) | ((with_reducible show Ru _ _ (spliced (backTo _ (starEach (_ :: _) _))) _ _); refine Ru.spc ?_) | ((with_reducible show Ru _ _ (spliced (backTo _ (starEach [] _))) _ _); refine Ru.spn ?_) | ((with_reducible show Ru _ _ (exec (Stmt.Return _ _) _) _ _); refine Ru.ret ?_))
    refine Ru.callN (Ru.blt (T.g.keeps U₁.keeps) hml (T.b.keeps U₁.keeps) hmb ?_)
    refine Ru.withB ?_
    repeat (first | ((with_reducible show Ru _ _ (eval (Expr.Name _ _) _) _ _); refine Ru.name (by assumption) (by first | assumption | rfl) ?_) | ((with_reducible show Ru _ _ (eval (Expr.Constant (Const.int _) _ _) _) _ _); refine Ru.intC fun _ => ?_) | ((with_reducible show Ru _ _ (eval (Expr.Constant Const.none _ _) _) _ _); refine Ru.noneC ?_) | ((with_reducible show Ru _ _ (eval (Expr.UnaryOp UnaryOp.USub (Expr.Constant _ _ _) _) _) _ _); refine Ru.negC fun _ => ?_) | ((with_reducible show Ru _ _ (eval (Expr.Subscript _ _ _) _) _ _); refine Ru.sub ?_) | ((with_reducible show Ru _ _ (eval (Expr.BinOp _ _ _ _) _) _ _); refine Ru.bin ?_) | ((with_reducible show Ru _ _ (eval (Expr.IfExp _ _ _ _) _) _ _); refine Ru.ifE ?_) | ((with_reducible show Ru _ _ (isTrue (Expr.Compare _ _ _ _) _ _) _ _); refine Ru.test ?_) | ((with_reducible show Ru _ _ (isTrue (Expr.BoolOp BoolOp.And (_ :: _) _) _ _) _ _); refine Ru.andC ?_) | ((with_reducible show Ru _ _ (isTrue (Expr.BoolOp BoolOp.And [] _) _ _) _ _); refine Ru.andN ?_) | ((with_reducible show Ru _ _ (isTrue (Expr.BoolOp BoolOp.Or (_ :: _) _) _ _) _ _); refine Ru.orC ?_) | ((with_reducible show Ru _ _ (isTrue (Expr.BoolOp BoolOp.Or [] _) _ _) _ _); refine Ru.orN ?_) | ((with_reducible show Ru _ _ (execs (_ :: _) _) _ _); refine Ru.cons ?_) | ((with_reducible show Ru _ _ (execs [] _) _ _); refine Ru.nil ?_) | ((with_reducible show Ru _ _ (exec (Stmt.If _ _ _ _) _) _ _); refine Ru.ifS ?_) | ((with_reducible show Ru _ _ (exec (Stmt.Assign _ _ _) _) _ _); refine Ru.asg ?_) | ((with_reducible show Ru _ _ (spliced (backTo _ (starEach (_ :: _) _))) _ _); refine Ru.spc ?_) | ((with_reducible show Ru _ _ (spliced (backTo _ (starEach [] _))) _ _); refine Ru.spn ?_) | ((with_reducible show Ru _ _ (exec (Stmt.Return _ _) _) _ _); refine Ru.ret ?_))
    refine Ru.lenP x₁ (by simp; omega) fun u => ?_
    repeat (first | ((with_reducible show Ru _ _ (eval (Expr.Name _ _) _) _ _); refine Ru.name (by assumption) (by first | assumption | rfl) ?_) | ((with_reducible show Ru _ _ (eval (Expr.Constant (Const.int _) _ _) _) _ _); refine Ru.intC fun _ => ?_) | ((with_reducible show Ru _ _ (eval (Expr.Constant Const.none _ _) _) _ _); refine Ru.noneC ?_) | ((with_reducible show Ru _ _ (eval (Expr.UnaryOp UnaryOp.USub (Expr.Constant _ _ _) _) _) _ _); refine Ru.negC fun _ => ?_) | ((with_reducible show Ru _ _ (eval (Expr.Subscript _ _ _) _) _ _); refine Ru.sub ?_) | ((with_reducible show Ru _ _ (eval (Expr.BinOp _ _ _ _) _) _ _); refine Ru.bin ?_) | ((with_reducible show Ru _ _ (eval (Expr.IfExp _ _ _ _) _) _ _); refine Ru.ifE ?_) | ((with_reducible show Ru _ _ (isTrue (Expr.Compare _ _ _ _) _ _) _ _); refine Ru.test ?_) | ((with_reducible show Ru _ _ (isTrue (Expr.BoolOp BoolOp.And (_ :: _) _) _ _) _ _); refine Ru.andC ?_) | ((with_reducible show Ru _ _ (isTrue (Expr.BoolOp BoolOp.And [] _) _ _) _ _); refine Ru.andN ?_) | ((with_reducible show Ru _ _ (isTrue (Expr.BoolOp BoolOp.Or (_ :: _) _) _ _) _ _); refine Ru.orC ?_) | ((with_reducible show Ru _ _ (isTrue (Expr.BoolOp BoolOp.Or [] _) _ _) _ _); refine Ru.orN ?_) | ((with_reducible show Ru _ _ (execs (_ :: _) _) _ _); refine Ru.cons ?_) | ((with_reducible show Ru _ _ (execs [] _) _ _); refine Ru.nil ?_) | ((with_reducible show Ru _ _ (exec (Stmt.If _ _ _ _) _) _ _); refine Ru.ifS ?_) | ((with_reducible show Ru _ _ (exec (Stmt.Assign _ _ _) _) _ _); refine Ru.asg ?_) | ((with_reducible show Ru _ _ (spliced (backTo _ (starEach (_ :: _) _))) _ _); refine Ru.spc ?_) | ((with_reducible show Ru _ _ (spliced (backTo _ (starEach [] _))) _ _); refine Ru.spn ?_) | ((with_reducible show Ru _ _ (exec (Stmt.Return _ _) _) _ _); refine Ru.ret ?_))
    refine Ru.gt ⟨_, rfl, ?_⟩
    match st', hz₁, hl₁ with
    | [], _, _ => exact ⟨rfl, by rw [← e₁]; exact x₁, g₁⟩
    | [a], _, _ => exact ⟨rfl, by rw [← e₁]; exact x₁, g₁⟩
    | b :: a :: st', hz₁, hl₁ =>
      have hlen : ((b :: a :: st').reverse.length : Int) = st'.length + 2 := by simp
      rw [hlen, decide_eq_true (by omega), if_pos rfl]
      repeat (first | ((with_reducible show Ru _ _ (eval (Expr.Name _ _) _) _ _); refine Ru.name (by assumption) (by first | assumption | rfl) ?_) | ((with_reducible show Ru _ _ (eval (Expr.Constant (Const.int _) _ _) _) _ _); refine Ru.intC fun _ => ?_) | ((with_reducible show Ru _ _ (eval (Expr.Constant Const.none _ _) _) _ _); refine Ru.noneC ?_) | ((with_reducible show Ru _ _ (eval (Expr.UnaryOp UnaryOp.USub (Expr.Constant _ _ _) _) _) _ _); refine Ru.negC fun _ => ?_) | ((with_reducible show Ru _ _ (eval (Expr.Subscript _ _ _) _) _ _); refine Ru.sub ?_) | ((with_reducible show Ru _ _ (eval (Expr.BinOp _ _ _ _) _) _ _); refine Ru.bin ?_) | ((with_reducible show Ru _ _ (eval (Expr.IfExp _ _ _ _) _) _ _); refine Ru.ifE ?_) | ((with_reducible show Ru _ _ (isTrue (Expr.Compare _ _ _ _) _ _) _ _); refine Ru.test ?_) | ((with_reducible show Ru _ _ (isTrue (Expr.BoolOp BoolOp.And (_ :: _) _) _ _) _ _); refine Ru.andC ?_) | ((with_reducible show Ru _ _ (isTrue (Expr.BoolOp BoolOp.And [] _) _ _) _ _); refine Ru.andN ?_) | ((with_reducible show Ru _ _ (isTrue (Expr.BoolOp BoolOp.Or (_ :: _) _) _ _) _ _); refine Ru.orC ?_) | ((with_reducible show Ru _ _ (isTrue (Expr.BoolOp BoolOp.Or [] _) _ _) _ _); refine Ru.orN ?_) | ((with_reducible show Ru _ _ (execs (_ :: _) _) _ _); refine Ru.cons ?_) | ((with_reducible show Ru _ _ (execs [] _) _ _); refine Ru.nil ?_) | ((with_reducible show Ru _ _ (exec (Stmt.If _ _ _ _) _) _ _); refine Ru.ifS ?_) | ((with_reducible show Ru _ _ (exec (Stmt.Assign _ _ _) _) _ _); refine Ru.asg ?_) | ((with_reducible show Ru _ _ (spliced (backTo _ (starEach (_ :: _) _))) _ _); refine Ru.spc ?_) | ((with_reducible show Ru _ _ (spliced (backTo _ (starEach [] _))) _ _); refine Ru.spn ?_) | ((with_reducible show Ru _ _ (exec (Stmt.Return _ _) _) _ _); refine Ru.ret ?_))
      refine Ru.callN (Ru.glob (T.g.keeps U₁.keeps) FC.glob ?_)
      refine Ru.withF (o := oc) hdc ?_
      have er : (b :: a :: st').reverse = st'.reverse ++ [a, b] := by simp
      have ha : (b :: a :: st').reverse[st'.length]? = some a := by rw [er, List.getElem?_append_right (by simp)]; simp
      have hb : (b :: a :: st').reverse[st'.length + 1]? = some b := by rw [er, List.getElem?_append_right (by simp)]; simp
      repeat (first | ((with_reducible show Ru _ _ (eval (Expr.Name _ _) _) _ _); refine Ru.name (by assumption) (by first | assumption | rfl) ?_) | ((with_reducible show Ru _ _ (eval (Expr.Constant (Const.int _) _ _) _) _ _); refine Ru.intC fun _ => ?_) | ((with_reducible show Ru _ _ (eval (Expr.Constant Const.none _ _) _) _ _); refine Ru.noneC ?_) | ((with_reducible show Ru _ _ (eval (Expr.UnaryOp UnaryOp.USub (Expr.Constant _ _ _) _) _) _ _); refine Ru.negC fun _ => ?_) | ((with_reducible show Ru _ _ (eval (Expr.Subscript _ _ _) _) _ _); refine Ru.sub ?_) | ((with_reducible show Ru _ _ (eval (Expr.BinOp _ _ _ _) _) _ _); refine Ru.bin ?_) | ((with_reducible show Ru _ _ (eval (Expr.IfExp _ _ _ _) _) _ _); refine Ru.ifE ?_) | ((with_reducible show Ru _ _ (isTrue (Expr.Compare _ _ _ _) _ _) _ _); refine Ru.test ?_) | ((with_reducible show Ru _ _ (isTrue (Expr.BoolOp BoolOp.And (_ :: _) _) _ _) _ _); refine Ru.andC ?_) | ((with_reducible show Ru _ _ (isTrue (Expr.BoolOp BoolOp.And [] _) _ _) _ _); refine Ru.andN ?_) | ((with_reducible show Ru _ _ (isTrue (Expr.BoolOp BoolOp.Or (_ :: _) _) _ _) _ _); refine Ru.orC ?_) | ((with_reducible show Ru _ _ (isTrue (Expr.BoolOp BoolOp.Or [] _) _ _) _ _); refine Ru.orN ?_) | ((with_reducible show Ru _ _ (execs (_ :: _) _) _ _); refine Ru.cons ?_) | ((with_reducible show Ru _ _ (execs [] _) _ _); refine Ru.nil ?_) | ((with_reducible show Ru _ _ (exec (Stmt.If _ _ _ _) _) _ _); refine Ru.ifS ?_) | ((with_reducible show Ru _ _ (exec (Stmt.Assign _ _ _) _) _ _); refine Ru.asg ?_) | ((with_reducible show Ru _ _ (spliced (backTo _ (starEach (_ :: _) _))) _ _); refine Ru.spc ?_) | ((with_reducible show Ru _ _ (spliced (backTo _ (starEach [] _))) _ _); refine Ru.spn ?_) | ((with_reducible show Ru _ _ (exec (Stmt.Return _ _) _) _ _); refine Ru.ret ?_))
      refine Ru.negP x₁ (by decide) (by rw [hlen]; omega) (by decide) (q := a) (by rw [hlen, show (-2 + ((st'.length : Int) + 2)).toNat = st'.length by omega]; exact ha) fun va ya => ?_
      repeat (first | ((with_reducible show Ru _ _ (eval (Expr.Name _ _) _) _ _); refine Ru.name (by assumption) (by first | assumption | rfl) ?_) | ((with_reducible show Ru _ _ (eval (Expr.Constant (Const.int _) _ _) _) _ _); refine Ru.intC fun _ => ?_) | ((with_reducible show Ru _ _ (eval (Expr.Constant Const.none _ _) _) _ _); refine Ru.noneC ?_) | ((with_reducible show Ru _ _ (eval (Expr.UnaryOp UnaryOp.USub (Expr.Constant _ _ _) _) _) _ _); refine Ru.negC fun _ => ?_) | ((with_reducible show Ru _ _ (eval (Expr.Subscript _ _ _) _) _ _); refine Ru.sub ?_) | ((with_reducible show Ru _ _ (eval (Expr.BinOp _ _ _ _) _) _ _); refine Ru.bin ?_) | ((with_reducible show Ru _ _ (eval (Expr.IfExp _ _ _ _) _) _ _); refine Ru.ifE ?_) | ((with_reducible show Ru _ _ (isTrue (Expr.Compare _ _ _ _) _ _) _ _); refine Ru.test ?_) | ((with_reducible show Ru _ _ (isTrue (Expr.BoolOp BoolOp.And (_ :: _) _) _ _) _ _); refine Ru.andC ?_) | ((with_reducible show Ru _ _ (isTrue (Expr.BoolOp BoolOp.And [] _) _ _) _ _); refine Ru.andN ?_) | ((with_reducible show Ru _ _ (isTrue (Expr.BoolOp BoolOp.Or (_ :: _) _) _ _) _ _); refine Ru.orC ?_) | ((with_reducible show Ru _ _ (isTrue (Expr.BoolOp BoolOp.Or [] _) _ _) _ _); refine Ru.orN ?_) | ((with_reducible show Ru _ _ (execs (_ :: _) _) _ _); refine Ru.cons ?_) | ((with_reducible show Ru _ _ (execs [] _) _ _); refine Ru.nil ?_) | ((with_reducible show Ru _ _ (exec (Stmt.If _ _ _ _) _) _ _); refine Ru.ifS ?_) | ((with_reducible show Ru _ _ (exec (Stmt.Assign _ _ _) _) _ _); refine Ru.asg ?_) | ((with_reducible show Ru _ _ (spliced (backTo _ (starEach (_ :: _) _))) _ _); refine Ru.spc ?_) | ((with_reducible show Ru _ _ (spliced (backTo _ (starEach [] _))) _ _); refine Ru.spn ?_) | ((with_reducible show Ru _ _ (exec (Stmt.Return _ _) _) _ _); refine Ru.ret ?_))
      refine Ru.negP x₁ (by decide) (by rw [hlen]; omega) (by decide) (q := b) (by rw [hlen, show (-1 + ((st'.length : Int) + 2)).toNat = st'.length + 1 by omega]; exact hb) fun vb yb => ?_
      repeat (first | ((with_reducible show Ru _ _ (eval (Expr.Name _ _) _) _ _); refine Ru.name (by assumption) (by first | assumption | rfl) ?_) | ((with_reducible show Ru _ _ (eval (Expr.Constant (Const.int _) _ _) _) _ _); refine Ru.intC fun _ => ?_) | ((with_reducible show Ru _ _ (eval (Expr.Constant Const.none _ _) _) _ _); refine Ru.noneC ?_) | ((with_reducible show Ru _ _ (eval (Expr.UnaryOp UnaryOp.USub (Expr.Constant _ _ _) _) _) _ _); refine Ru.negC fun _ => ?_) | ((with_reducible show Ru _ _ (eval (Expr.Subscript _ _ _) _) _ _); refine Ru.sub ?_) | ((with_reducible show Ru _ _ (eval (Expr.BinOp _ _ _ _) _) _ _); refine Ru.bin ?_) | ((with_reducible show Ru _ _ (eval (Expr.IfExp _ _ _ _) _) _ _); refine Ru.ifE ?_) | ((with_reducible show Ru _ _ (isTrue (Expr.Compare _ _ _ _) _ _) _ _); refine Ru.test ?_) | ((with_reducible show Ru _ _ (isTrue (Expr.BoolOp BoolOp.And (_ :: _) _) _ _) _ _); refine Ru.andC ?_) | ((with_reducible show Ru _ _ (isTrue (Expr.BoolOp BoolOp.And [] _) _ _) _ _); refine Ru.andN ?_) | ((with_reducible show Ru _ _ (isTrue (Expr.BoolOp BoolOp.Or (_ :: _) _) _ _) _ _); refine Ru.orC ?_) | ((with_reducible show Ru _ _ (isTrue (Expr.BoolOp BoolOp.Or [] _) _ _) _ _); refine Ru.orN ?_) | ((with_reducible show Ru _ _ (execs (_ :: _) _) _ _); refine Ru.cons ?_) | ((with_reducible show Ru _ _ (execs [] _) _ _); refine Ru.nil ?_) | ((with_reducible show Ru _ _ (exec (Stmt.If _ _ _ _) _) _ _); refine Ru.ifS ?_) | ((with_reducible show Ru _ _ (exec (Stmt.Assign _ _ _) _) _ _); refine Ru.asg ?_) | ((with_reducible show Ru _ _ (spliced (backTo _ (starEach (_ :: _) _))) _ _); refine Ru.spc ?_) | ((with_reducible show Ru _ _ (spliced (backTo _ (starEach [] _))) _ _); refine Ru.spn ?_) | ((with_reducible show Ru _ _ (exec (Stmt.Return _ _) _) _ _); refine Ru.ret ?_))
      refine ⟨U₁.keeps _ _ hoc, ?_⟩
      refine spec_cross T FC (rm.less (by decide)) U₁ ya yb y₁ (bs _ (s₁ _ (by simp))) (bs _ (s₁ _ (by simp))) bp fun h₂ t g₂ => ?_
      have x₂ := x₁.gr0 g₂
      have n₂ := g₂.ns n₁ List.not_mem_nil
      repeat (first | ((with_reducible show Ru _ _ (eval (Expr.Name _ _) _) _ _); refine Ru.name (by assumption) (by first | assumption | rfl) ?_) | ((with_reducible show Ru _ _ (eval (Expr.Constant (Const.int _) _ _) _) _ _); refine Ru.intC fun _ => ?_) | ((with_reducible show Ru _ _ (eval (Expr.Constant Const.none _ _) _) _ _); refine Ru.noneC ?_) | ((with_reducible show Ru _ _ (eval (Expr.UnaryOp UnaryOp.USub (Expr.Constant _ _ _) _) _) _ _); refine Ru.negC fun _ => ?_) | ((with_reducible show Ru _ _ (eval (Expr.Subscript _ _ _) _) _ _); refine Ru.sub ?_) | ((with_reducible show Ru _ _ (eval (Expr.BinOp _ _ _ _) _) _ _); refine Ru.bin ?_) | ((with_reducible show Ru _ _ (eval (Expr.IfExp _ _ _ _) _) _ _); refine Ru.ifE ?_) | ((with_reducible show Ru _ _ (isTrue (Expr.Compare _ _ _ _) _ _) _ _); refine Ru.test ?_) | ((with_reducible show Ru _ _ (isTrue (Expr.BoolOp BoolOp.And (_ :: _) _) _ _) _ _); refine Ru.andC ?_) | ((with_reducible show Ru _ _ (isTrue (Expr.BoolOp BoolOp.And [] _) _ _) _ _); refine Ru.andN ?_) | ((with_reducible show Ru _ _ (isTrue (Expr.BoolOp BoolOp.Or (_ :: _) _) _ _) _ _); refine Ru.orC ?_) | ((with_reducible show Ru _ _ (isTrue (Expr.BoolOp BoolOp.Or [] _) _ _) _ _); refine Ru.orN ?_) | ((with_reducible show Ru _ _ (execs (_ :: _) _) _ _); refine Ru.cons ?_) | ((with_reducible show Ru _ _ (execs [] _) _ _); refine Ru.nil ?_) | ((with_reducible show Ru _ _ (exec (Stmt.If _ _ _ _) _) _ _); refine Ru.ifS ?_) | ((with_reducible show Ru _ _ (exec (Stmt.Assign _ _ _) _) _ _); refine Ru.asg ?_) | ((with_reducible show Ru _ _ (spliced (backTo _ (starEach (_ :: _) _))) _ _); refine Ru.spc ?_) | ((with_reducible show Ru _ _ (spliced (backTo _ (starEach [] _))) _ _); refine Ru.spn ?_) | ((with_reducible show Ru _ _ (exec (Stmt.Return _ _) _) _ _); refine Ru.ret ?_))
      refine Ru.le ⟨_, rfl, ?_⟩
      by_cases hc : crs a b p ≤ 0
      · rw [decide_eq_true hc, if_pos rfl]
        repeat (first | ((with_reducible show Ru _ _ (eval (Expr.Name _ _) _) _ _); refine Ru.name (by assumption) (by first | assumption | rfl) ?_) | ((with_reducible show Ru _ _ (eval (Expr.Constant (Const.int _) _ _) _) _ _); refine Ru.intC fun _ => ?_) | ((with_reducible show Ru _ _ (eval (Expr.Constant Const.none _ _) _) _ _); refine Ru.noneC ?_) | ((with_reducible show Ru _ _ (eval (Expr.UnaryOp UnaryOp.USub (Expr.Constant _ _ _) _) _) _ _); refine Ru.negC fun _ => ?_) | ((with_reducible show Ru _ _ (eval (Expr.Subscript _ _ _) _) _ _); refine Ru.sub ?_) | ((with_reducible show Ru _ _ (eval (Expr.BinOp _ _ _ _) _) _ _); refine Ru.bin ?_) | ((with_reducible show Ru _ _ (eval (Expr.IfExp _ _ _ _) _) _ _); refine Ru.ifE ?_) | ((with_reducible show Ru _ _ (isTrue (Expr.Compare _ _ _ _) _ _) _ _); refine Ru.test ?_) | ((with_reducible show Ru _ _ (isTrue (Expr.BoolOp BoolOp.And (_ :: _) _) _ _) _ _); refine Ru.andC ?_) | ((with_reducible show Ru _ _ (isTrue (Expr.BoolOp BoolOp.And [] _) _ _) _ _); refine Ru.andN ?_) | ((with_reducible show Ru _ _ (isTrue (Expr.BoolOp BoolOp.Or (_ :: _) _) _ _) _ _); refine Ru.orC ?_) | ((with_reducible show Ru _ _ (isTrue (Expr.BoolOp BoolOp.Or [] _) _ _) _ _); refine Ru.orN ?_) | ((with_reducible show Ru _ _ (execs (_ :: _) _) _ _); refine Ru.cons ?_) | ((with_reducible show Ru _ _ (execs [] _) _ _); refine Ru.nil ?_) | ((with_reducible show Ru _ _ (exec (Stmt.If _ _ _ _) _) _ _); refine Ru.ifS ?_) | ((with_reducible show Ru _ _ (exec (Stmt.Assign _ _ _) _) _ _); refine Ru.asg ?_) | ((with_reducible show Ru _ _ (spliced (backTo _ (starEach (_ :: _) _))) _ _); refine Ru.spc ?_) | ((with_reducible show Ru _ _ (spliced (backTo _ (starEach [] _))) _ _); refine Ru.spn ?_) | ((with_reducible show Ru _ _ (exec (Stmt.Return _ _) _) _ _); refine Ru.ret ?_))
        rw [if_pos rfl]
        repeat (first | ((with_reducible show Ru _ _ (eval (Expr.Name _ _) _) _ _); refine Ru.name (by assumption) (by first | assumption | rfl) ?_) | ((with_reducible show Ru _ _ (eval (Expr.Constant (Const.int _) _ _) _) _ _); refine Ru.intC fun _ => ?_) | ((with_reducible show Ru _ _ (eval (Expr.Constant Const.none _ _) _) _ _); refine Ru.noneC ?_) | ((with_reducible show Ru _ _ (eval (Expr.UnaryOp UnaryOp.USub (Expr.Constant _ _ _) _) _) _ _); refine Ru.negC fun _ => ?_) | ((with_reducible show Ru _ _ (eval (Expr.Subscript _ _ _) _) _ _); refine Ru.sub ?_) | ((with_reducible show Ru _ _ (eval (Expr.BinOp _ _ _ _) _) _ _); refine Ru.bin ?_) | ((with_reducible show Ru _ _ (eval (Expr.IfExp _ _ _ _) _) _ _); refine Ru.ifE ?_) | ((with_reducible show Ru _ _ (isTrue (Expr.Compare _ _ _ _) _ _) _ _); refine Ru.test ?_) | ((with_reducible show Ru _ _ (isTrue (Expr.BoolOp BoolOp.And (_ :: _) _) _ _) _ _); refine Ru.andC ?_) | ((with_reducible show Ru _ _ (isTrue (Expr.BoolOp BoolOp.And [] _) _ _) _ _); refine Ru.andN ?_) | ((with_reducible show Ru _ _ (isTrue (Expr.BoolOp BoolOp.Or (_ :: _) _) _ _) _ _); refine Ru.orC ?_) | ((with_reducible show Ru _ _ (isTrue (Expr.BoolOp BoolOp.Or [] _) _ _) _ _); refine Ru.orN ?_) | ((with_reducible show Ru _ _ (execs (_ :: _) _) _ _); refine Ru.cons ?_) | ((with_reducible show Ru _ _ (execs [] _) _ _); refine Ru.nil ?_) | ((with_reducible show Ru _ _ (exec (Stmt.If _ _ _ _) _) _ _); refine Ru.ifS ?_) | ((with_reducible show Ru _ _ (exec (Stmt.Assign _ _ _) _) _ _); refine Ru.asg ?_) | ((with_reducible show Ru _ _ (spliced (backTo _ (starEach (_ :: _) _))) _ _); refine Ru.spc ?_) | ((with_reducible show Ru _ _ (spliced (backTo _ (starEach [] _))) _ _); refine Ru.spn ?_) | ((with_reducible show Ru _ _ (exec (Stmt.Return _ _) _) _ _); refine Ru.ret ?_))
        refine Ru.exprA (Ru.meth PySem.F.plainAttrs_list PySem.F.slot_list_pop PySem.F.type_list_pop ?_)
        (first | ((with_reducible show Ru _ _ (eval (Expr.Name _ _) _) _ _); refine Ru.name (by assumption) (by first | assumption | rfl) ?_) | ((with_reducible show Ru _ _ (eval (Expr.Constant (Const.int _) _ _) _) _ _); refine Ru.intC fun _ => ?_) | ((with_reducible show Ru _ _ (eval (Expr.Constant Const.none _ _) _) _ _); refine Ru.noneC ?_) | ((with_reducible show Ru _ _ (eval (Expr.UnaryOp UnaryOp.USub (Expr.Constant _ _ _) _) _) _ _); refine Ru.negC fun _ => ?_) | ((with_reducible show Ru _ _ (eval (Expr.Subscript _ _ _) _) _ _); refine Ru.sub ?_) | ((with_reducible show Ru _ _ (eval (Expr.BinOp _ _ _ _) _) _ _); refine Ru.bin ?_) | ((with_reducible show Ru _ _ (eval (Expr.IfExp _ _ _ _) _) _ _); refine Ru.ifE ?_) | ((with_reducible show Ru _ _ (isTrue (Expr.Compare _ _ _ _) _ _) _ _); refine Ru.test ?_) | ((with_reducible show Ru _ _ (isTrue (Expr.BoolOp BoolOp.And (_ :: _) _) _ _) _ _); refine Ru.andC ?_) | ((with_reducible show Ru _ _ (isTrue (Expr.BoolOp BoolOp.And [] _) _ _) _ _); refine Ru.andN ?_) | ((with_reducible show Ru _ _ (isTrue (Expr.BoolOp BoolOp.Or (_ :: _) _) _ _) _ _); refine Ru.orC ?_) | ((with_reducible show Ru _ _ (isTrue (Expr.BoolOp BoolOp.Or [] _) _ _) _ _); refine Ru.orN ?_) | ((with_reducible show Ru _ _ (execs (_ :: _) _) _ _); refine Ru.cons ?_) | ((with_reducible show Ru _ _ (execs [] _) _ _); refine Ru.nil ?_) | ((with_reducible show Ru _ _ (exec (Stmt.If _ _ _ _) _) _ _); refine Ru.ifS ?_) | ((with_reducible show Ru _ _ (exec (Stmt.Assign _ _ _) _) _ _); refine Ru.asg ?_) | ((with_reducible show Ru _ _ (spliced (backTo _ (starEach (_ :: _) _))) _ _); refine Ru.spc ?_) | ((with_reducible show Ru _ _ (spliced (backTo _ (starEach [] _))) _ _); refine Ru.spn ?_) | ((with_reducible show Ru _ _ (exec (Stmt.Return _ _) _) _ _); refine Ru.ret ?_))
        obtain ⟨ol, hol, hcl, hdl⟩ := x₂.obj
        refine ⟨H, ol, rfl, hol, hcl, hdl, ?_⟩
        refine Ru.popP (ps := (a :: st').reverse) (q := b) (by simpa using x₂) (by simp at *; omega) fun h₃ v₃ x₃ g₃ => ?_
        repeat (first | ((with_reducible show Ru _ _ (eval (Expr.Name _ _) _) _ _); refine Ru.name (by assumption) (by first | assumption | rfl) ?_) | ((with_reducible show Ru _ _ (eval (Expr.Constant (Const.int _) _ _) _) _ _); refine Ru.intC fun _ => ?_) | ((with_reducible show Ru _ _ (eval (Expr.Constant Const.none _ _) _) _ _); refine Ru.noneC ?_) | ((with_reducible show Ru _ _ (eval (Expr.UnaryOp UnaryOp.USub (Expr.Constant _ _ _) _) _) _ _); refine Ru.negC fun _ => ?_) | ((with_reducible show Ru _ _ (eval (Expr.Subscript _ _ _) _) _ _); refine Ru.sub ?_) | ((with_reducible show Ru _ _ (eval (Expr.BinOp _ _ _ _) _) _ _); refine Ru.bin ?_) | ((with_reducible show Ru _ _ (eval (Expr.IfExp _ _ _ _) _) _ _); refine Ru.ifE ?_) | ((with_reducible show Ru _ _ (isTrue (Expr.Compare _ _ _ _) _ _) _ _); refine Ru.test ?_) | ((with_reducible show Ru _ _ (isTrue (Expr.BoolOp BoolOp.And (_ :: _) _) _ _) _ _); refine Ru.andC ?_) | ((with_reducible show Ru _ _ (isTrue (Expr.BoolOp BoolOp.And [] _) _ _) _ _); refine Ru.andN ?_) | ((with_reducible show Ru _ _ (isTrue (Expr.BoolOp BoolOp.Or (_ :: _) _) _ _) _ _); refine Ru.orC ?_) | ((with_reducible show Ru _ _ (isTrue (Expr.BoolOp BoolOp.Or [] _) _ _) _ _); refine Ru.orN ?_) | ((with_reducible show Ru _ _ (execs (_ :: _) _) _ _); refine Ru.cons ?_) | ((with_reducible show Ru _ _ (execs [] _) _ _); refine Ru.nil ?_) | ((with_reducible show Ru _ _ (exec (Stmt.If _ _ _ _) _) _ _); refine Ru.ifS ?_) | ((with_reducible show Ru _ _ (exec (Stmt.Assign _ _ _) _) _ _); refine Ru.asg ?_) | ((with_reducible show Ru _ _ (spliced (backTo _ (starEach (_ :: _) _))) _ _); refine Ru.spc ?_) | ((with_reducible show Ru _ _ (spliced (backTo _ (starEach [] _))) _ _); refine Ru.spn ?_) | ((with_reducible show Ru _ _ (exec (Stmt.Return _ _) _) _ _); refine Ru.ret ?_))
        refine ⟨(a :: st').length, by rw [hz₁]; simp, a :: st', x₃, ?_, fun q hq => s₁ q (List.mem_cons_of_mem _ hq), g₁.trans (g₂.nil.trans g₃), rfl, by simp at *; omega⟩
        rw [← e₁, popW, if_pos hc]
      · rw [decide_eq_false hc, if_neg (by simp), if_neg (by simp)]
        refine ⟨rfl, ?_, g₁.trans g₂.nil⟩
        rw [← e₁, popW, if_neg hc]
        exact x₂
  · rintro _ h₁ ⟨rfl, x₁, g₁⟩
    have U₁ := U.past g₁ (not1' new)
    have n₁ := g₁.ns n (notIn_one nL)
    have y₁ := g₁.pt y
    have hl₁ := popW_len st p
    have hu := rm.un
    have add : ∀ h₂, Gr [] h₁ h₂ → Ru c A (exec (.Expr (.Call (.Attribute (.Name "half" ⟨62, 16, 62, 20⟩) "append" ⟨62, 16, 62, 27⟩) [.Name "point" ⟨62, 28, 62, 33⟩] [] ⟨62, 16, 62, 34⟩) ⟨62, 16, 62, 34⟩) (env8 8 "_law_corners" L f cdv)) h₂ fun fl h' => fl = .next ∧ PtL h' H ((popW st p).reverse ++ [p]) ∧ Gr [H] h h' := fun h₂ g₂ => by
      have x₂ := x₁.gr0 g₂
      have n₂ := g₂.ns n₁ List.not_mem_nil
      have y₂ := g₂.pt y₁
      refine Ru.exprA (Ru.meth PySem.F.plainAttrs_list PySem.F.slot_list_append PySem.F.type_list_append ?_)
      (first | ((with_reducible show Ru _ _ (eval (Expr.Name _ _) _) _ _); refine Ru.name (by assumption) (by first | assumption | rfl) ?_) | ((with_reducible show Ru _ _ (eval (Expr.Constant (Const.int _) _ _) _) _ _); refine Ru.intC fun _ => ?_) | ((with_reducible show Ru _ _ (eval (Expr.Constant Const.none _ _) _) _ _); refine Ru.noneC ?_) | ((with_reducible show Ru _ _ (eval (Expr.UnaryOp UnaryOp.USub (Expr.Constant _ _ _) _) _) _ _); refine Ru.negC fun _ => ?_) | ((with_reducible show Ru _ _ (eval (Expr.Subscript _ _ _) _) _ _); refine Ru.sub ?_) | ((with_reducible show Ru _ _ (eval (Expr.BinOp _ _ _ _) _) _ _); refine Ru.bin ?_) | ((with_reducible show Ru _ _ (eval (Expr.IfExp _ _ _ _) _) _ _); refine Ru.ifE ?_) | ((with_reducible show Ru _ _ (isTrue (Expr.Compare _ _ _ _) _ _) _ _); refine Ru.test ?_) | ((with_reducible show Ru _ _ (isTrue (Expr.BoolOp BoolOp.And (_ :: _) _) _ _) _ _); refine Ru.andC ?_) | ((with_reducible show Ru _ _ (isTrue (Expr.BoolOp BoolOp.And [] _) _ _) _ _); refine Ru.andN ?_) | ((with_reducible show Ru _ _ (isTrue (Expr.BoolOp BoolOp.Or (_ :: _) _) _ _) _ _); refine Ru.orC ?_) | ((with_reducible show Ru _ _ (isTrue (Expr.BoolOp BoolOp.Or [] _) _ _) _ _); refine Ru.orN ?_) | ((with_reducible show Ru _ _ (execs (_ :: _) _) _ _); refine Ru.cons ?_) | ((with_reducible show Ru _ _ (execs [] _) _ _); refine Ru.nil ?_) | ((with_reducible show Ru _ _ (exec (Stmt.If _ _ _ _) _) _ _); refine Ru.ifS ?_) | ((with_reducible show Ru _ _ (exec (Stmt.Assign _ _ _) _) _ _); refine Ru.asg ?_) | ((with_reducible show Ru _ _ (spliced (backTo _ (starEach (_ :: _) _))) _ _); refine Ru.spc ?_) | ((with_reducible show Ru _ _ (spliced (backTo _ (starEach [] _))) _ _); refine Ru.spn ?_) | ((with_reducible show Ru _ _ (exec (Stmt.Return _ _) _) _ _); refine Ru.ret ?_))
      obtain ⟨ol, hol, hcl, hdl⟩ := x₂.obj
      refine ⟨H, ol, rfl, hol, hcl, hdl, ?_⟩
      refine Ru.withB ?_
      repeat (first | ((with_reducible show Ru _ _ (eval (Expr.Name _ _) _) _ _); refine Ru.name (by assumption) (by first | assumption | rfl) ?_) | ((with_reducible show Ru _ _ (eval (Expr.Constant (Const.int _) _ _) _) _ _); refine Ru.intC fun _ => ?_) | ((with_reducible show Ru _ _ (eval (Expr.Constant Const.none _ _) _) _ _); refine Ru.noneC ?_) | ((with_reducible show Ru _ _ (eval (Expr.UnaryOp UnaryOp.USub (Expr.Constant _ _ _) _) _) _ _); refine Ru.negC fun _ => ?_) | ((with_reducible show Ru _ _ (eval (Expr.Subscript _ _ _) _) _ _); refine Ru.sub ?_) | ((with_reducible show Ru _ _ (eval (Expr.BinOp _ _ _ _) _) _ _); refine Ru.bin ?_) | ((with_reducible show Ru _ _ (eval (Expr.IfExp _ _ _ _) _) _ _); refine Ru.ifE ?_) | ((with_reducible show Ru _ _ (isTrue (Expr.Compare _ _ _ _) _ _) _ _); refine Ru.test ?_) | ((with_reducible show Ru _ _ (isTrue (Expr.BoolOp BoolOp.And (_ :: _) _) _ _) _ _); refine Ru.andC ?_) | ((with_reducible show Ru _ _ (isTrue (Expr.BoolOp BoolOp.And [] _) _ _) _ _); refine Ru.andN ?_) | ((with_reducible show Ru _ _ (isTrue (Expr.BoolOp BoolOp.Or (_ :: _) _) _ _) _ _); refine Ru.orC ?_) | ((with_reducible show Ru _ _ (isTrue (Expr.BoolOp BoolOp.Or [] _) _ _) _ _); refine Ru.orN ?_) | ((with_reducible show Ru _ _ (execs (_ :: _) _) _ _); refine Ru.cons ?_) | ((with_reducible show Ru _ _ (execs [] _) _ _); refine Ru.nil ?_) | ((with_reducible show Ru _ _ (exec (Stmt.If _ _ _ _) _) _ _); refine Ru.ifS ?_) | ((with_reducible show Ru _ _ (exec (Stmt.Assign _ _ _) _) _ _); refine Ru.asg ?_) | ((with_reducible show Ru _ _ (spliced (backTo _ (starEach (_ :: _) _))) _ _); refine Ru.spc ?_) | ((with_reducible show Ru _ _ (spliced (backTo _ (starEach [] _))) _ _); refine Ru.spn ?_) | ((with_reducible show Ru _ _ (exec (Stmt.Return _ _) _) _ _); refine Ru.ret ?_))
      exact Ru.appP x₂ y₂ (by simp; omega) fun h₃ x₃ g₃ => ⟨rfl, x₃, g₁.trans (g₂.nil.trans g₃)⟩
    repeat (first | ((with_reducible show Ru _ _ (eval (Expr.Name _ _) _) _ _); refine Ru.name (by assumption) (by first | assumption | rfl) ?_) | ((with_reducible show Ru _ _ (eval (Expr.Constant (Const.int _) _ _) _) _ _); refine Ru.intC fun _ => ?_) | ((with_reducible show Ru _ _ (eval (Expr.Constant Const.none _ _) _) _ _); refine Ru.noneC ?_) | ((with_reducible show Ru _ _ (eval (Expr.UnaryOp UnaryOp.USub (Expr.Constant _ _ _) _) _) _ _); refine Ru.negC fun _ => ?_) | ((with_reducible show Ru _ _ (eval (Expr.Subscript _ _ _) _) _ _); refine Ru.sub ?_) | ((with_reducible show Ru _ _ (eval (Expr.BinOp _ _ _ _) _) _ _); refine Ru.bin ?_) | ((with_reducible show Ru _ _ (eval (Expr.IfExp _ _ _ _) _) _ _); refine Ru.ifE ?_) | ((with_reducible show Ru _ _ (isTrue (Expr.Compare _ _ _ _) _ _) _ _); refine Ru.test ?_) | ((with_reducible show Ru _ _ (isTrue (Expr.BoolOp BoolOp.And (_ :: _) _) _ _) _ _); refine Ru.andC ?_) | ((with_reducible show Ru _ _ (isTrue (Expr.BoolOp BoolOp.And [] _) _ _) _ _); refine Ru.andN ?_) | ((with_reducible show Ru _ _ (isTrue (Expr.BoolOp BoolOp.Or (_ :: _) _) _ _) _ _); refine Ru.orC ?_) | ((with_reducible show Ru _ _ (isTrue (Expr.BoolOp BoolOp.Or [] _) _ _) _ _); refine Ru.orN ?_) | ((with_reducible show Ru _ _ (execs (_ :: _) _) _ _); refine Ru.cons ?_) | ((with_reducible show Ru _ _ (execs [] _) _ _); refine Ru.nil ?_) | ((with_reducible show Ru _ _ (exec (Stmt.If _ _ _ _) _) _ _); refine Ru.ifS ?_) | ((with_reducible show Ru _ _ (exec (Stmt.Assign _ _ _) _) _ _); refine Ru.asg ?_) | ((with_reducible show Ru _ _ (spliced (backTo _ (starEach (_ :: _) _))) _ _); refine Ru.spc ?_) | ((with_reducible show Ru _ _ (spliced (backTo _ (starEach [] _))) _ _); refine Ru.spn ?_) | ((with_reducible show Ru _ _ (exec (Stmt.Return _ _) _) _ _); refine Ru.ret ?_))
    refine Ru.lst0 fun h₂ e xe g₂ _ => ?_
    have x₂ := x₁.gr0 g₂
    have n₂ := g₂.ns n₁ List.not_mem_nil
    have y₂ := g₂.pt y₁
    refine Ru.eqPts x₂ xe (by omega) ⟨_, rfl, ?_⟩
    cases hw : popW st p with
    | nil =>
      have add := add h₂ g₂
      rw [hw] at add
      rw [if_pos (by simp), if_pos (by simp)]
      repeat (first | ((with_reducible show Ru _ _ (eval (Expr.Name _ _) _) _ _); refine Ru.name (by assumption) (by first | assumption | rfl) ?_) | ((with_reducible show Ru _ _ (eval (Expr.Constant (Const.int _) _ _) _) _ _); refine Ru.intC fun _ => ?_) | ((with_reducible show Ru _ _ (eval (Expr.Constant Const.none _ _) _) _ _); refine Ru.noneC ?_) | ((with_reducible show Ru _ _ (eval (Expr.UnaryOp UnaryOp.USub (Expr.Constant _ _ _) _) _) _ _); refine Ru.negC fun _ => ?_) | ((with_reducible show Ru _ _ (eval (Expr.Subscript _ _ _) _) _ _); refine Ru.sub ?_) | ((with_reducible show Ru _ _ (eval (Expr.BinOp _ _ _ _) _) _ _); refine Ru.bin ?_) | ((with_reducible show Ru _ _ (eval (Expr.IfExp _ _ _ _) _) _ _); refine Ru.ifE ?_) | ((with_reducible show Ru _ _ (isTrue (Expr.Compare _ _ _ _) _ _) _ _); refine Ru.test ?_) | ((with_reducible show Ru _ _ (isTrue (Expr.BoolOp BoolOp.And (_ :: _) _) _ _) _ _); refine Ru.andC ?_) | ((with_reducible show Ru _ _ (isTrue (Expr.BoolOp BoolOp.And [] _) _ _) _ _); refine Ru.andN ?_) | ((with_reducible show Ru _ _ (isTrue (Expr.BoolOp BoolOp.Or (_ :: _) _) _ _) _ _); refine Ru.orC ?_) | ((with_reducible show Ru _ _ (isTrue (Expr.BoolOp BoolOp.Or [] _) _ _) _ _); refine Ru.orN ?_) | ((with_reducible show Ru _ _ (execs (_ :: _) _) _ _); refine Ru.cons ?_) | ((with_reducible show Ru _ _ (execs [] _) _ _); refine Ru.nil ?_) | ((with_reducible show Ru _ _ (exec (Stmt.If _ _ _ _) _) _ _); refine Ru.ifS ?_) | ((with_reducible show Ru _ _ (exec (Stmt.Assign _ _ _) _) _ _); refine Ru.asg ?_) | ((with_reducible show Ru _ _ (spliced (backTo _ (starEach (_ :: _) _))) _ _); refine Ru.spc ?_) | ((with_reducible show Ru _ _ (spliced (backTo _ (starEach [] _))) _ _); refine Ru.spn ?_) | ((with_reducible show Ru _ _ (exec (Stmt.Return _ _) _) _ _); refine Ru.ret ?_))
      refine Ru.mono add ?_
      rintro _ h₃ ⟨rfl, x₃, g₃⟩
      repeat (first | ((with_reducible show Ru _ _ (eval (Expr.Name _ _) _) _ _); refine Ru.name (by assumption) (by first | assumption | rfl) ?_) | ((with_reducible show Ru _ _ (eval (Expr.Constant (Const.int _) _ _) _) _ _); refine Ru.intC fun _ => ?_) | ((with_reducible show Ru _ _ (eval (Expr.Constant Const.none _ _) _) _ _); refine Ru.noneC ?_) | ((with_reducible show Ru _ _ (eval (Expr.UnaryOp UnaryOp.USub (Expr.Constant _ _ _) _) _) _ _); refine Ru.negC fun _ => ?_) | ((with_reducible show Ru _ _ (eval (Expr.Subscript _ _ _) _) _ _); refine Ru.sub ?_) | ((with_reducible show Ru _ _ (eval (Expr.BinOp _ _ _ _) _) _ _); refine Ru.bin ?_) | ((with_reducible show Ru _ _ (eval (Expr.IfExp _ _ _ _) _) _ _); refine Ru.ifE ?_) | ((with_reducible show Ru _ _ (isTrue (Expr.Compare _ _ _ _) _ _) _ _); refine Ru.test ?_) | ((with_reducible show Ru _ _ (isTrue (Expr.BoolOp BoolOp.And (_ :: _) _) _ _) _ _); refine Ru.andC ?_) | ((with_reducible show Ru _ _ (isTrue (Expr.BoolOp BoolOp.And [] _) _ _) _ _); refine Ru.andN ?_) | ((with_reducible show Ru _ _ (isTrue (Expr.BoolOp BoolOp.Or (_ :: _) _) _ _) _ _); refine Ru.orC ?_) | ((with_reducible show Ru _ _ (isTrue (Expr.BoolOp BoolOp.Or [] _) _ _) _ _); refine Ru.orN ?_) | ((with_reducible show Ru _ _ (execs (_ :: _) _) _ _); refine Ru.cons ?_) | ((with_reducible show Ru _ _ (execs [] _) _ _); refine Ru.nil ?_) | ((with_reducible show Ru _ _ (exec (Stmt.If _ _ _ _) _) _ _); refine Ru.ifS ?_) | ((with_reducible show Ru _ _ (exec (Stmt.Assign _ _ _) _) _ _); refine Ru.asg ?_) | ((with_reducible show Ru _ _ (spliced (backTo _ (starEach (_ :: _) _))) _ _); refine Ru.spc ?_) | ((with_reducible show Ru _ _ (spliced (backTo _ (starEach [] _))) _ _); refine Ru.spn ?_) | ((with_reducible show Ru _ _ (exec (Stmt.Return _ _) _) _ _); refine Ru.ret ?_))
      refine k h₃ ?_ g₃
      rw [push, hw]
      exact x₃
    | cons b st' =>
      rw [hw] at x₂ hl₁
      have hlen : ((b :: st').reverse.length : Int) = st'.length + 1 := by simp
      have hb : (b :: st').reverse[st'.length]? = some b := by rw [List.reverse_cons, List.getElem?_append_right (by simp)]; simp
      rw [if_neg (by simp)]
      repeat (first | ((with_reducible show Ru _ _ (eval (Expr.Name _ _) _) _ _); refine Ru.name (by assumption) (by first | assumption | rfl) ?_) | ((with_reducible show Ru _ _ (eval (Expr.Constant (Const.int _) _ _) _) _ _); refine Ru.intC fun _ => ?_) | ((with_reducible show Ru _ _ (eval (Expr.Constant Const.none _ _) _) _ _); refine Ru.noneC ?_) | ((with_reducible show Ru _ _ (eval (Expr.UnaryOp UnaryOp.USub (Expr.Constant _ _ _) _) _) _ _); refine Ru.negC fun _ => ?_) | ((with_reducible show Ru _ _ (eval (Expr.Subscript _ _ _) _) _ _); refine Ru.sub ?_) | ((with_reducible show Ru _ _ (eval (Expr.BinOp _ _ _ _) _) _ _); refine Ru.bin ?_) | ((with_reducible show Ru _ _ (eval (Expr.IfExp _ _ _ _) _) _ _); refine Ru.ifE ?_) | ((with_reducible show Ru _ _ (isTrue (Expr.Compare _ _ _ _) _ _) _ _); refine Ru.test ?_) | ((with_reducible show Ru _ _ (isTrue (Expr.BoolOp BoolOp.And (_ :: _) _) _ _) _ _); refine Ru.andC ?_) | ((with_reducible show Ru _ _ (isTrue (Expr.BoolOp BoolOp.And [] _) _ _) _ _); refine Ru.andN ?_) | ((with_reducible show Ru _ _ (isTrue (Expr.BoolOp BoolOp.Or (_ :: _) _) _ _) _ _); refine Ru.orC ?_) | ((with_reducible show Ru _ _ (isTrue (Expr.BoolOp BoolOp.Or [] _) _ _) _ _); refine Ru.orN ?_) | ((with_reducible show Ru _ _ (execs (_ :: _) _) _ _); refine Ru.cons ?_) | ((with_reducible show Ru _ _ (execs [] _) _ _); refine Ru.nil ?_) | ((with_reducible show Ru _ _ (exec (Stmt.If _ _ _ _) _) _ _); refine Ru.ifS ?_) | ((with_reducible show Ru _ _ (exec (Stmt.Assign _ _ _) _) _ _); refine Ru.asg ?_) | ((with_reducible show Ru _ _ (spliced (backTo _ (starEach (_ :: _) _))) _ _); refine Ru.spc ?_) | ((with_reducible show Ru _ _ (spliced (backTo _ (starEach [] _))) _ _); refine Ru.spn ?_) | ((with_reducible show Ru _ _ (exec (Stmt.Return _ _) _) _ _); refine Ru.ret ?_))
      refine Ru.negP x₂ (by decide) (by rw [hlen]; omega) (by decide) (q := b) (by rw [hlen, show (-1 + ((st'.length : Int) + 1)).toNat = st'.length by omega]; exact hb) fun vb yb => ?_
      repeat (first | ((with_reducible show Ru _ _ (eval (Expr.Name _ _) _) _ _); refine Ru.name (by assumption) (by first | assumption | rfl) ?_) | ((with_reducible show Ru _ _ (eval (Expr.Constant (Const.int _) _ _) _) _ _); refine Ru.intC fun _ => ?_) | ((with_reducible show Ru _ _ (eval (Expr.Constant Const.none _ _) _) _ _); refine Ru.noneC ?_) | ((with_reducible show Ru _ _ (eval (Expr.UnaryOp UnaryOp.USub (Expr.Constant _ _ _) _) _) _ _); refine Ru.negC fun _ => ?_) | ((with_reducible show Ru _ _ (eval (Expr.Subscript _ _ _) _) _ _); refine Ru.sub ?_) | ((with_reducible show Ru _ _ (eval (Expr.BinOp _ _ _ _) _) _ _); refine Ru.bin ?_) | ((with_reducible show Ru _ _ (eval (Expr.IfExp _ _ _ _) _) _ _); refine Ru.ifE ?_) | ((with_reducible show Ru _ _ (isTrue (Expr.Compare _ _ _ _) _ _) _ _); refine Ru.test ?_) | ((with_reducible show Ru _ _ (isTrue (Expr.BoolOp BoolOp.And (_ :: _) _) _ _) _ _); refine Ru.andC ?_) | ((with_reducible show Ru _ _ (isTrue (Expr.BoolOp BoolOp.And [] _) _ _) _ _); refine Ru.andN ?_) | ((with_reducible show Ru _ _ (isTrue (Expr.BoolOp BoolOp.Or (_ :: _) _) _ _) _ _); refine Ru.orC ?_) | ((with_reducible show Ru _ _ (isTrue (Expr.BoolOp BoolOp.Or [] _) _ _) _ _); refine Ru.orN ?_) | ((with_reducible show Ru _ _ (execs (_ :: _) _) _ _); refine Ru.cons ?_) | ((with_reducible show Ru _ _ (execs [] _) _ _); refine Ru.nil ?_) | ((with_reducible show Ru _ _ (exec (Stmt.If _ _ _ _) _) _ _); refine Ru.ifS ?_) | ((with_reducible show Ru _ _ (exec (Stmt.Assign _ _ _) _) _ _); refine Ru.asg ?_) | ((with_reducible show Ru _ _ (spliced (backTo _ (starEach (_ :: _) _))) _ _); refine Ru.spc ?_) | ((with_reducible show Ru _ _ (spliced (backTo _ (starEach [] _))) _ _); refine Ru.spn ?_) | ((with_reducible show Ru _ _ (exec (Stmt.Return _ _) _) _ _); refine Ru.ret ?_))
      refine Ru.nePt yb y₂ (by omega) ⟨_, rfl, ?_⟩
      by_cases hbp : b = p
      · subst hbp
        rw [if_neg (by simp)]
        repeat (first | ((with_reducible show Ru _ _ (eval (Expr.Name _ _) _) _ _); refine Ru.name (by assumption) (by first | assumption | rfl) ?_) | ((with_reducible show Ru _ _ (eval (Expr.Constant (Const.int _) _ _) _) _ _); refine Ru.intC fun _ => ?_) | ((with_reducible show Ru _ _ (eval (Expr.Constant Const.none _ _) _) _ _); refine Ru.noneC ?_) | ((with_reducible show Ru _ _ (eval (Expr.UnaryOp UnaryOp.USub (Expr.Constant _ _ _) _) _) _ _); refine Ru.negC fun _ => ?_) | ((with_reducible show Ru _ _ (eval (Expr.Subscript _ _ _) _) _ _); refine Ru.sub ?_) | ((with_reducible show Ru _ _ (eval (Expr.BinOp _ _ _ _) _) _ _); refine Ru.bin ?_) | ((with_reducible show Ru _ _ (eval (Expr.IfExp _ _ _ _) _) _ _); refine Ru.ifE ?_) | ((with_reducible show Ru _ _ (isTrue (Expr.Compare _ _ _ _) _ _) _ _); refine Ru.test ?_) | ((with_reducible show Ru _ _ (isTrue (Expr.BoolOp BoolOp.And (_ :: _) _) _ _) _ _); refine Ru.andC ?_) | ((with_reducible show Ru _ _ (isTrue (Expr.BoolOp BoolOp.And [] _) _ _) _ _); refine Ru.andN ?_) | ((with_reducible show Ru _ _ (isTrue (Expr.BoolOp BoolOp.Or (_ :: _) _) _ _) _ _); refine Ru.orC ?_) | ((with_reducible show Ru _ _ (isTrue (Expr.BoolOp BoolOp.Or [] _) _ _) _ _); refine Ru.orN ?_) | ((with_reducible show Ru _ _ (execs (_ :: _) _) _ _); refine Ru.cons ?_) | ((with_reducible show Ru _ _ (execs [] _) _ _); refine Ru.nil ?_) | ((with_reducible show Ru _ _ (exec (Stmt.If _ _ _ _) _) _ _); refine Ru.ifS ?_) | ((with_reducible show Ru _ _ (exec (Stmt.Assign _ _ _) _) _ _); refine Ru.asg ?_) | ((with_reducible show Ru _ _ (spliced (backTo _ (starEach (_ :: _) _))) _ _); refine Ru.spc ?_) | ((with_reducible show Ru _ _ (spliced (backTo _ (starEach [] _))) _ _); refine Ru.spn ?_) | ((with_reducible show Ru _ _ (exec (Stmt.Return _ _) _) _ _); refine Ru.ret ?_))
        rw [if_neg (by simp)]
        repeat (first | ((with_reducible show Ru _ _ (eval (Expr.Name _ _) _) _ _); refine Ru.name (by assumption) (by first | assumption | rfl) ?_) | ((with_reducible show Ru _ _ (eval (Expr.Constant (Const.int _) _ _) _) _ _); refine Ru.intC fun _ => ?_) | ((with_reducible show Ru _ _ (eval (Expr.Constant Const.none _ _) _) _ _); refine Ru.noneC ?_) | ((with_reducible show Ru _ _ (eval (Expr.UnaryOp UnaryOp.USub (Expr.Constant _ _ _) _) _) _ _); refine Ru.negC fun _ => ?_) | ((with_reducible show Ru _ _ (eval (Expr.Subscript _ _ _) _) _ _); refine Ru.sub ?_) | ((with_reducible show Ru _ _ (eval (Expr.BinOp _ _ _ _) _) _ _); refine Ru.bin ?_) | ((with_reducible show Ru _ _ (eval (Expr.IfExp _ _ _ _) _) _ _); refine Ru.ifE ?_) | ((with_reducible show Ru _ _ (isTrue (Expr.Compare _ _ _ _) _ _) _ _); refine Ru.test ?_) | ((with_reducible show Ru _ _ (isTrue (Expr.BoolOp BoolOp.And (_ :: _) _) _ _) _ _); refine Ru.andC ?_) | ((with_reducible show Ru _ _ (isTrue (Expr.BoolOp BoolOp.And [] _) _ _) _ _); refine Ru.andN ?_) | ((with_reducible show Ru _ _ (isTrue (Expr.BoolOp BoolOp.Or (_ :: _) _) _ _) _ _); refine Ru.orC ?_) | ((with_reducible show Ru _ _ (isTrue (Expr.BoolOp BoolOp.Or [] _) _ _) _ _); refine Ru.orN ?_) | ((with_reducible show Ru _ _ (execs (_ :: _) _) _ _); refine Ru.cons ?_) | ((with_reducible show Ru _ _ (execs [] _) _ _); refine Ru.nil ?_) | ((with_reducible show Ru _ _ (exec (Stmt.If _ _ _ _) _) _ _); refine Ru.ifS ?_) | ((with_reducible show Ru _ _ (exec (Stmt.Assign _ _ _) _) _ _); refine Ru.asg ?_) | ((with_reducible show Ru _ _ (spliced (backTo _ (starEach (_ :: _) _))) _ _); refine Ru.spc ?_) | ((with_reducible show Ru _ _ (spliced (backTo _ (starEach [] _))) _ _); refine Ru.spn ?_) | ((with_reducible show Ru _ _ (exec (Stmt.Return _ _) _) _ _); refine Ru.ret ?_))
        refine k h₂ ?_ (g₁.trans g₂.nil)
        rw [push, hw]
        simp only [if_true]
        exact x₂
      · have add := add h₂ g₂
        rw [hw] at add
        rw [if_pos (by simpa using hbp), if_pos rfl]
        repeat (first | ((with_reducible show Ru _ _ (eval (Expr.Name _ _) _) _ _); refine Ru.name (by assumption) (by first | assumption | rfl) ?_) | ((with_reducible show Ru _ _ (eval (Expr.Constant (Const.int _) _ _) _) _ _); refine Ru.intC fun _ => ?_) | ((with_reducible show Ru _ _ (eval (Expr.Constant Const.none _ _) _) _ _); refine Ru.noneC ?_) | ((with_reducible show Ru _ _ (eval (Expr.UnaryOp UnaryOp.USub (Expr.Constant _ _ _) _) _) _ _); refine Ru.negC fun _ => ?_) | ((with_reducible show Ru _ _ (eval (Expr.Subscript _ _ _) _) _ _); refine Ru.sub ?_) | ((with_reducible show Ru _ _ (eval (Expr.BinOp _ _ _ _) _) _ _); refine Ru.bin ?_) | ((with_reducible show Ru _ _ (eval (Expr.IfExp _ _ _ _) _) _ _); refine Ru.ifE ?_) | ((with_reducible show Ru _ _ (isTrue (Expr.Compare _ _ _ _) _ _) _ _); refine Ru.test ?_) | ((with_reducible show Ru _ _ (isTrue (Expr.BoolOp BoolOp.And (_ :: _) _) _ _) _ _); refine Ru.andC ?_) | ((with_reducible show Ru _ _ (isTrue (Expr.BoolOp BoolOp.And [] _) _ _) _ _); refine Ru.andN ?_) | ((with_reducible show Ru _ _ (isTrue (Expr.BoolOp BoolOp.Or (_ :: _) _) _ _) _ _); refine Ru.orC ?_) | ((with_reducible show Ru _ _ (isTrue (Expr.BoolOp BoolOp.Or [] _) _ _) _ _); refine Ru.orN ?_) | ((with_reducible show Ru _ _ (execs (_ :: _) _) _ _); refine Ru.cons ?_) | ((with_reducible show Ru _ _ (execs [] _) _ _); refine Ru.nil ?_) | ((with_reducible show Ru _ _ (exec (Stmt.If _ _ _ _) _) _ _); refine Ru.ifS ?_) | ((with_reducible show Ru _ _ (exec (Stmt.Assign _ _ _) _) _ _); refine Ru.asg ?_) | ((with_reducible show Ru _ _ (spliced (backTo _ (starEach (_ :: _) _))) _ _); refine Ru.spc ?_) | ((with_reducible show Ru _ _ (spliced (backTo _ (starEach [] _))) _ _); refine Ru.spn ?_) | ((with_reducible show Ru _ _ (exec (Stmt.Return _ _) _) _ _); refine Ru.ret ?_))
        refine Ru.mono add ?_
        rintro _ h₃ ⟨rfl, x₃, g₃⟩
        repeat (first | ((with_reducible show Ru _ _ (eval (Expr.Name _ _) _) _ _); refine Ru.name (by assumption) (by first | assumption | rfl) ?_) | ((with_reducible show Ru _ _ (eval (Expr.Constant (Const.int _) _ _) _) _ _); refine Ru.intC fun _ => ?_) | ((with_reducible show Ru _ _ (eval (Expr.Constant Const.none _ _) _) _ _); refine Ru.noneC ?_) | ((with_reducible show Ru _ _ (eval (Expr.UnaryOp UnaryOp.USub (Expr.Constant _ _ _) _) _) _ _); refine Ru.negC fun _ => ?_) | ((with_reducible show Ru _ _ (eval (Expr.Subscript _ _ _) _) _ _); refine Ru.sub ?_) | ((with_reducible show Ru _ _ (eval (Expr.BinOp _ _ _ _) _) _ _); refine Ru.bin ?_) | ((with_reducible show Ru _ _ (eval (Expr.IfExp _ _ _ _) _) _ _); refine Ru.ifE ?_) | ((with_reducible show Ru _ _ (isTrue (Expr.Compare _ _ _ _) _ _) _ _); refine Ru.test ?_) | ((with_reducible show Ru _ _ (isTrue (Expr.BoolOp BoolOp.And (_ :: _) _) _ _) _ _); refine Ru.andC ?_) | ((with_reducible show Ru _ _ (isTrue (Expr.BoolOp BoolOp.And [] _) _ _) _ _); refine Ru.andN ?_) | ((with_reducible show Ru _ _ (isTrue (Expr.BoolOp BoolOp.Or (_ :: _) _) _ _) _ _); refine Ru.orC ?_) | ((with_reducible show Ru _ _ (isTrue (Expr.BoolOp BoolOp.Or [] _) _ _) _ _); refine Ru.orN ?_) | ((with_reducible show Ru _ _ (execs (_ :: _) _) _ _); refine Ru.cons ?_) | ((with_reducible show Ru _ _ (execs [] _) _ _); refine Ru.nil ?_) | ((with_reducible show Ru _ _ (exec (Stmt.If _ _ _ _) _) _ _); refine Ru.ifS ?_) | ((with_reducible show Ru _ _ (exec (Stmt.Assign _ _ _) _) _ _); refine Ru.asg ?_) | ((with_reducible show Ru _ _ (spliced (backTo _ (starEach (_ :: _) _))) _ _); refine Ru.spc ?_) | ((with_reducible show Ru _ _ (spliced (backTo _ (starEach [] _))) _ _); refine Ru.spn ?_) | ((with_reducible show Ru _ _ (exec (Stmt.Return _ _) _) _ _); refine Ru.ret ?_))
        refine k h₃ ?_ g₃
        rw [push, hw]
        simp only [hbp, if_false]
        simpa using x₃
end
end Mink

/-! MkM -/
namespace Mink
open PySem PySem.W PyProof.Rows PySem.Calls

theorem Gr.wash {X Y : List Addr} {h h' h'' : Heap} (a : Gr X h h') (b : Gr Y h' h'') (n : ∀ y ∈ Y, h.get? y = none ∨ y ∈ X) : Gr X h h'' := fun z o e i => by
  rcases i with i | i
  · refine b z o (a z o e (.inl i)) (.inl fun m => ?_)
    rcases n z m with q | q
    · rw [e] at q; cases q
    · exact i q
  · exact b z o (a z o e (.inr i)) (.inr i)
noncomputable def NoIt (h : Heap) (a : Addr) : Prop := ∀ l i, ¬ h.IsListIter a l i
theorem noIt_ns {h : Heap} {a : Addr} {m : Str → Option Value} (n : h.Ns a m) : NoIt h a := fun _ _ t => ne_ns_it n t rfl
theorem noIt_ls {h : Heap} {a : Addr} {xs : Array Value} (n : h.IsList a xs) : NoIt h a := fun _ _ t => ne_ls_it n t rfl
theorem PtL.noIt {h : Heap} {a : Addr} {ps : List Pt} (x : PtL h a ps) : NoIt h a := let ⟨_, _, l, _⟩ := x; noIt_ls l.isList

theorem rangeIter_keep {I : Addr} {n : Nat} (X : List Addr) (i : Nat) (h h' : Heap) (st : IsRangeIter h I (i : Int) ((n : Int) - (i : Nat)) 1) (g : Gr X h h') (hx : ∀ x ∈ X, x ∉ [I]) : IsRangeIter h' I (i : Int) ((n : Int) - (i : Nat)) 1 :=
  g _ _ st (.inl fun m => hx _ m (by simp))

section
variable {c : Cx} {A : Around} {h : Heap} {env : Env}

/-- a for over a list of points -/
theorem Ru.forP {target iter : Expr} {body : List Stmt} {pos : Pos} {l : Addr} {ps : List Pt} {P : Flow → Heap → Prop} (hh : A.handled = none) (x : PtL h l ps) (re : ∀ Q : Value → Heap → Prop, Q (.ref l) h → Ru c A (eval iter env) h Q)
    (J : Nat → Heap → Prop) (X : List Addr) (hX : l ∉ X) (jg : ∀ i h', J i h' → Gr X h h') (j0 : ∀ h', Gr [] h h' → J 0 h') (js : ∀ I i h₁ h₂, NoIt h I ∨ h.get? I = none → (∃ l i, h₁.IsListIter I l i) → h.get? I = none → J i h₁ → Gr [I] h₁ h₂ → J i h₂)
    (turn : ∀ i h' v p, J i h' → ps[i]? = some p → IsPt h' v p → Ru c A (assign target env v) h' fun _ h₃ => Ru c A (execs body env) h₃ fun f h₄ =>
      match f with | .next | .cont => J (i + 1) h₄ ∧ ∃ Y, Gr Y h' h₄ ∧ ∀ y ∈ Y, NoIt h' y | .brk => P .next h₄ | .ret v => P (.ret v) h₄)
    (fin : ∀ h', J ps.length h' → P .next h')
    (hs : ∀ x, foldedSetIterable iter env x = Pure.pure x := by intro _; rfl) : Ru c A (exec (.For target iter body [] pos) env) h P := by
  obtain ⟨vs, nn, hl, hp⟩ := x
  have hlen := hp.length
  refine Ru.forS (re _ (Ru.iterL hl.isList fun I h₁ fI it₁ g₁ => ?_)) hs
  have nI : l ≠ I := ne_of_fresh hl fI
  refine ⟨I, (List.toArray vs).size, (fun i v => (List.toArray vs)[i]? = some v), (fun i h => h.IsListIter I l i ∧ h.IsList l (List.toArray vs)), rfl, Src.list hh nI, fun i h' => J i h' ∧ h'.IsListIter I l i, ⟨j0 _ g₁, it₁⟩, ?_, ?_, ?_⟩
  · rintro i h' ⟨j, it⟩
    exact ⟨it, (jg i h' j).lst hl.isList hX⟩
  · rintro i h' h'' v hi ⟨j, it⟩ hv ⟨it', _⟩ g
    have j' := js I i h' h'' (.inr fI) ⟨_, _, it⟩ fI j g
    have hvv : vs[i]? = some v := by simpa using hv
    obtain ⟨p, ep, y⟩ := hp.getL hvv
    refine (turn i h'' v p j' ep ((jg i h'' j').pt y)).mono fun _ h₃ r => r.mono fun f h₄ r => ?_
    cases f with
    | next => obtain ⟨j4, Y, gY, nY⟩ := r; exact ⟨j4, gY.it it' fun m => nY _ m _ _ it'⟩
    | cont => obtain ⟨j4, Y, gY, nY⟩ := r; exact ⟨j4, gY.it it' fun m => nY _ m _ _ it'⟩
    | brk => exact r
    | ret v => exact r
  · rintro h' h'' ⟨j, it⟩ g
    have j' := js I _ h' h'' (.inr fI) ⟨_, _, it⟩ fI j g
    refine fin h'' ?_
    have e : (List.toArray vs).size = ps.length := by simp [hlen]
    rwa [e] at j'

/-- what is gone through, the heap around it kept -/
structure Going (c : Cx) (A : Around) (I : Addr) (N : Nat) (V : Nat → Value → Prop) (st : Nat → Heap → Prop) (pr : List Addr) (h : Heap) : Prop where
  src : Src c A I N V st
  now : st 0 h
  few : N ≤ 1000
  there : ∀ (i : Nat) (h : Heap), st i h → ∀ q ∈ pr, ∃ o, h.get? q = some o
  keep : ∀ (X : List Addr) (i : Nat) (h h' : Heap), st i h → Gr X h h' → (∀ x ∈ X, x ∉ pr) → st i h'
  mine : I ∈ pr

theorem Going.range {I : Addr} {n : Nat} {h : Heap} (hh : A.handled = none) (it : IsRangeIter h I 0 (n : Int) 1) (hn : n ≤ 1000) : Going c A I n (fun i v => ∃ t, v = Value.int (i : Int) t) (fun i h => IsRangeIter h I (i : Int) ((n : Int) - (i : Nat)) 1) [I] h where
  src := Src.range hh
  now := by simpa using it
  few := hn
  there := fun i h st q hq => by rw [List.mem_singleton] at hq; subst hq; exact ⟨_, st⟩
  keep := fun X i h h' st g hx => rangeIter_keep X i h h' st g hx
  mine := by simp
theorem Going.list {I l : Addr} {xs : Array Value} {h : Heap} (hh : A.handled = none) (hne : l ≠ I) (it : h.IsListIter I l 0) (hl : h.IsList l xs) (hn : xs.size ≤ 1000) : Going c A I xs.size (fun i v => xs[i]? = some v) (fun i h => h.IsListIter I l i ∧ h.IsList l xs) [I, l] h where
  src := Src.list hh hne
  now := ⟨it, hl⟩
  few := hn
  there := fun i h st q hq => by
    rcases List.mem_cons.mp hq with rfl | hq
    · obtain ⟨o, ho, _⟩ := st.1; exact ⟨o, ho⟩
    · rw [List.mem_singleton] at hq; subst hq
      obtain ⟨o, ho, _⟩ := st.2; exact ⟨o, ho⟩
  keep := fun X i h h' st g hx => ⟨g.it st.1 fun m => hx _ m (by simp), g.lst st.2 fun m => hx _ m (by simp)⟩
  mine := by simp
/-- the turns of a comprehension of one for -/
theorem RuK.going {β : Type} {elt target iter : Expr} {ifs : List Expr} {scope : Scope} {pos : Pos} {env' : Env} (R : Heap → Value → β → Prop) (stable : ∀ (X : List Addr) h h' w b, Gr X h h' → R h w b → R h' w b) (bs : Nat → List β) (b0 : bs 0 = []) {h₁ h₂ h₃ : Heap} {C D I : Addr} {N : Nat} {V : Nat → Value → Prop} {st : Nat → Heap → Prop} {pr : List Addr}
    (S : Going c A I N V st pr h₂) (fI : h₁.get? I = none) (g₁₂ : Gr [] h₁ h₂) (fD : h₂.get? D = none) (fC : h₂.get? C = none) (hDC : D ≠ C) (g₃ : Gr [] h₂ h₃) (hD : IsL h₃ D #[] 0) (hn : h₃.Ns C (fun _ => none))
    (turn : ∀ i v h' m, i < N → V i v → h'.Ns C m → Gr [] h₁ h' → Ru c A (assign target env' v) h' fun _ h₃ => Ru c A (tests ifs env') h₃ fun ok h₄ =>
        if ok = true then Ru c A (eval elt env') h₄ fun w h₅ => (∃ m', h₅.Ns C m') ∧ Gr [C] h' h₅ ∧ ∃ b, R h₅ w b ∧ bs (i + 1) = bs i ++ [b] else (∃ m', h₄.Ns C m') ∧ Gr [C] h' h₄ ∧ bs (i + 1) = bs i)
    {P : Flow → Heap → Prop} (fin : ∀ h₄ m ws n, h₄.Ns C m → IsL h₄ D (List.toArray ws) n → All2 (R h₄) ws (bs N) → Gr [] h₁ h₄ → P .next h₄) :
    (∀ P : Value → Heap → Prop, P (.ref I) h₃ → Ru c A (pyIter (.ref I)) h₃ P) ∧ RuK c A (.compLoop (.ListComp elt [⟨target, iter, ifs, 0⟩] scope pos) 0 (.ref I) (.ref D) env') h₃ P := by
  obtain ⟨oI, hoI⟩ := S.there _ _ S.now I S.mine
  have nope : ∀ y, h₂.get? y = none → y ∉ pr := fun y hy mp => by
    obtain ⟨o, ho⟩ := S.there _ _ S.now y mp
    rw [hy] at ho; cases ho
  have DI : D ≠ I := (ne_of_fresh hoI fD).symm
  have CI : C ≠ I := (ne_of_fresh hoI fC).symm
  have CD : C ≠ D := hDC.symm
  have fD₁ := g₁₂.gone fD
  have fC₁ := g₁₂.gone fC
  have st3 : st 0 h₃ := S.keep [] 0 h₂ h₃ S.now g₃ (by simp)
  have few := S.few
  refine ⟨fun Q q => S.src.self 0 h₃ Q st3 q, ?_⟩
  refine RuK.one S.src (fun i h' => ∃ m ws n, h'.Ns C m ∧ IsL h' D (List.toArray ws) n ∧ All2 (R h') ws (bs i) ∧ Gr [] h₁ h' ∧ st i h' ∧ ws.length ≤ i)
    ⟨_, [], 0, hn, hD, by rw [b0]; exact .nil, g₁₂.trans g₃, st3, Nat.zero_le _⟩ ?_ ?_ ?_
  · rintro i h' ⟨_, _, _, _, _, _, _, q, _⟩
    exact q
  · rintro i h' h'' v hi ⟨m, ws, n, nC, lD, a, G, _, hlen⟩ hv st' g
    have G' := G.past g (not1' fI)
    have nC' := g.ns nC (notIn_one CI)
    have room : ws.length ≤ sizeLine := Nat.le_trans hlen (Nat.le_trans (Nat.le_of_lt hi) (Nat.le_trans few (by decide)))
    refine (turn i v h'' m hi hv nC' G').mono fun _ h₃ r => r.mono fun ok h₄ r => ?_
    cases ok with
    | false =>
      obtain ⟨⟨m', n4⟩, g4, e⟩ := r
      rw [if_neg (by simp)]
      refine ⟨m', ws, n, n4, g4.ls (g.ls lD (notIn_one DI)) (notIn_one hDC), ?_, G'.past g4 (not1' fC₁), S.keep [C] _ _ _ st' g4 (not1'' (nope C fC)), Nat.le_succ_of_le hlen⟩
      rw [e]
      exact a.mono fun _ _ q => stable _ _ _ _ _ g4 (stable _ _ _ _ _ g q)
    | true =>
      rw [if_pos rfl] at r ⊢
      refine r.mono fun w h₅ hh => ?_
      obtain ⟨⟨m', n5⟩, g5, b, hb, e⟩ := hh
      have lD5 := g5.ls (g.ls lD (notIn_one DI)) (notIn_one hDC)
      refine Ru.appL lD5 (by rw [List.size_toArray]; exact room) fun h₆ n' l6 g6 => ?_
      refine ⟨m', ws ++ [w], n', g6.ns n5 (notIn_one CD), ?_, ?_, (G'.past g5 (not1' fC₁)).past g6 (not1' fD₁), S.keep [D] _ _ _ (S.keep [C] _ _ _ st' g5 (not1'' (nope C fC))) g6 (not1'' (nope D fD)), ?_⟩
      · rw [← List.push_toArray]; exact l6
      · rw [e]
        refine All2.append ?_ (.one (stable _ _ _ _ _ g6 hb))
        exact a.mono fun _ _ q => stable _ _ _ _ _ g6 (stable _ _ _ _ _ g5 (stable _ _ _ _ _ g q))
      · rw [List.length_append]
        exact Nat.succ_le_succ hlen
  · rintro h' h'' ⟨m, ws, n, nC, lD, a, G, _, hlen⟩ g
    exact fin h'' m ws n (g.ns nC (notIn_one CI)) (g.ls lD (notIn_one DI)) (a.mono fun _ _ q => stable _ _ _ _ _ g q) (G.past g (not1' fI))

/-- a comprehension of one for -/
theorem Ru.compG {β : Type} {elt target iter : Expr} {ifs : List Expr} {scope : Scope} {pos : Pos} {cl : List (Str × Addr)} {P : Value → Heap → Prop} (R : Heap → Value → β → Prop) (stable : ∀ (X : List Addr) h h' w b, Gr X h h' → R h w b → R h' w b) (bs : Nat → List β) (b0 : bs 0 = [])
    (hclos : closureFor scope env = Pure.pure cl)
    (r : Ru c A (eval iter env) h fun x h₁ => Ru c A (pyIter x) h₁ fun it h₂ => ∃ (I : Addr) (N : Nat) (V : Nat → Value → Prop) (st : Nat → Heap → Prop) (pr : List Addr), it = .ref I ∧ Going c A I N V st pr h₂ ∧ h₁.get? I = none ∧ Gr [] h₁ h₂ ∧
      (∀ C, h₁.get? C = none → ∀ i v h' m, i < N → V i v → h'.Ns C m → Gr [] h₁ h' → Ru c A (assign target (compEnvC scope cl C env) v) h' fun _ h₃ => Ru c A (tests ifs (compEnvC scope cl C env)) h₃ fun ok h₄ =>
        if ok = true then Ru c A (eval elt (compEnvC scope cl C env)) h₄ fun w h₅ => (∃ m', h₅.Ns C m') ∧ Gr [C] h' h₅ ∧ ∃ b, R h₅ w b ∧ bs (i + 1) = bs i ++ [b] else (∃ m', h₄.Ns C m') ∧ Gr [C] h' h₄ ∧ bs (i + 1) = bs i) ∧
      ∀ h' D ws n, IsL h' D (List.toArray ws) n → All2 (R h') ws (bs N) → Gr [] h₁ h' → h₁.get? D = none → P (.ref D) h')
    (hcell : ∀ y ∈ scope.names, y.2 ≠ .cell := by decide) (hkind : scope.kind = .function := by rfl) (hnames : ∀ y ∈ scope.names, y.2 = .local → scope.names.lookup y.1 = some .local := by decide)
    (hs : ∀ x, foldedSetIterable iter env x = Pure.pure x := by intro _; rfl) : Ru c A (eval (.ListComp elt [⟨target, iter, ifs, 0⟩] scope pos) env) h P := by
  refine Ru.comp hclos (r.mono fun x h₁ r => r.mono fun it h₂ hh => ?_) hcell hkind hnames hs
  obtain ⟨I, N, V, st, pr, e, S, fI, g₁₂, turn, fin⟩ := hh
  refine ⟨I, e, fun D C h₃ fD fC hDC g₃ hD hn => ?_⟩
  have fD₁ := g₁₂.gone fD
  have fC₁ := g₁₂.gone fC
  exact RuK.going R stable bs b0 S fI g₁₂ fD fC hDC g₃ hD hn (turn C fC₁) fun h₄ m ws n nC lD a G => ⟨m, nC, fun h₅ g₅ => fin h₅ D ws n (g₅.ls lD (notIn_one hDC)) (a.mono fun _ _ q => stable _ _ _ _ _ g₅ q) (G.past g₅ (not1' fC₁)) fD₁⟩
end
end Mink

/-! MkN -/
namespace Mink
open PySem PySem.W PyProof.Rows PySem.Calls

noncomputable def ins1 (p : Pt) : List Pt → List Pt
  | [] => [p]
  | q :: qs => if ltP q p then q :: ins1 p qs else p :: q :: qs
noncomputable def srt : List Pt → List Pt
  | [] => []
  | p :: ps => ins1 p (srt ps)
theorem ins1_perm (p : Pt) (qs : List Pt) : (ins1 p qs).Perm (p :: qs) := by
  induction qs with
  | nil => exact .refl _
  | cons q qs ih =>
    unfold ins1
    split
    · exact (ih.cons q).trans (List.Perm.swap _ _ _)
    · exact .refl _
theorem srt_perm (ps : List Pt) : (srt ps).Perm ps := by
  induction ps with
  | nil => exact .refl _
  | cons p ps ih => exact (ins1_perm p _).trans (ih.cons p)
theorem ins1_sorted (p : Pt) (qs : List Pt) (s : SortedP qs) : SortedP (ins1 p qs) := by
  unfold SortedP at *
  induction qs with
  | nil => simp [ins1]
  | cons q qs ih =>
    rw [List.pairwise_cons] at s
    unfold ins1
    split
    · rename_i hlt
      rw [List.pairwise_cons]
      refine ⟨fun x hx => ?_, ih s.2⟩
      rcases List.mem_cons.mp ((ins1_perm p qs).mem_iff.mp hx) with e | hx
      · subst e; exact ((ltP_iff _ _).mp hlt).le
      · exact s.1 x hx
    · rename_i hlt
      have hle : Le p q := (ltP_false _ _).mp (by simpa using hlt)
      rw [List.pairwise_cons, List.pairwise_cons]
      refine ⟨fun x hx => ?_, s.1, s.2⟩
      rcases List.mem_cons.mp hx with e | hx
      · subst e; exact hle
      · exact hle.trans (s.1 x hx)
theorem srt_sorted (ps : List Pt) : SortedP (srt ps) := by
  induction ps with
  | nil => exact List.Pairwise.nil
  | cons p ps ih => exact ins1_sorted p _ ih
theorem srt_eq {ps qs : List Pt} (s : SortedP qs) (p : qs.Perm ps) : qs = srt ps := s.unique (srt_sorted ps) (p.trans (srt_perm ps).symm)
noncomputable def cor (ps : List Pt) : List Pt := cornersOf (srt ps)
theorem cor_mem (ps : List Pt) : ∀ q ∈ cor ps, q ∈ ps := fun q hq => (srt_perm ps).mem_iff.mp (corners_mem _ q hq)
theorem cor_len (ps : List Pt) : (cor ps).length ≤ 2 * ps.length := by
  have := corners_len (srt ps)
  rw [(srt_perm ps).length_eq] at this
  exact this

/-- all that the law's defs lean on -/
structure World' (hT : Heap) (mg mb : Str → Option Value) : Prop where
  T : TopH hT mg mb
  bis : ∃ f, FnB hT mg f
  ins : ∃ f, FnI hT mg f
  cross : ∃ f, FnH hT mg 7 "_law_cross" f
  corners : ∃ f, FnH hT mg 8 "_law_corners" f
  area : ∃ f, FnH hT mg 9 "_law_area" f
  steps : ∃ f, FnH hT mg 10 "_law_steps" f
  sum : ∃ f, FnH hT mg 11 "_law_sum" f
  addc : ∃ f, FnH hT mg 5 "add_callers" f
  addf : ∃ f, FnH hT mg 4 "add_func_stats" f
  none : ∀ x ∈ (["len", "sorted", "sum", "range", "abs", "min", "max", "tuple"] : List Str), mg x = none
  len : mb "len" = some (.builtin "len")
  sorted : mb "sorted" = some (.builtin "sorted")
  bsum : mb "sum" = some (.builtin "sum")
  range : mb "range" = some (.type "range")
  abs : mb "abs" = some (.builtin "abs")
  min : mb "min" = some (.builtin "min")
  max : mb "max" = some (.builtin "max")
  tuple : mb "tuple" = some (.type "tuple")

section
variable {c : Cx} {A : Around} {h hT : Heap} {mg mb : Str → Option Value}


structure RowInv (h h₂ : Heap) (L H lf : Addr) (lo : Value) (rs : List Pt) (i : Nat) (h' : Heap) (m : Str → Option Value) : Prop where
  n : h'.Ns L m
  e1 : m "found" = some (.ref lf)
  e2 : m "order" = some lo
  e3 : m "half" = some (.ref H)
  xH : PtL h' H ((rs.take i).foldl push []).reverse
  g : Gr [L] h h'
  g' : Gr [L, H] h₂ h'
structure OrdInv (h h₃ : Heap) (L lo lp : Addr) (ps : List Pt) (i : Nat) (h' : Heap) (m : Str → Option Value) (qs : List Pt) : Prop where
  n : h'.Ns L m
  e1 : m "points" = some (.ref lp)
  e2 : m "order" = some (.ref lo)
  xq : PtL h' lo qs
  sq : SortedP qs
  pq : qs.Perm (ps.take i)
  g : Gr [] h h'
  g' : Gr [L, lo] h₃ h'
structure RowsInv (h : Heap) (L lo lr la I : Addr) (fnd : Nat → List Pt) (ps : List Pt) (i : Nat) (h' : Heap) (m : Str → Option Value) (lf : Addr) : Prop where
  n : h'.Ns L m
  e1 : m "order" = some (.ref lo)
  e2 : m "found" = some (.ref lf)
  xf : PtL h' lf (fnd i)
  xo : PtL h' lo (srt ps)
  xr : PtL h' lr (srt ps).reverse
  it : h'.IsListIter I la i
  l : h'.IsList la (List.toArray [Value.ref lo, Value.ref lr])
  g : Gr [] h h'
  fl : h.get? lf = none
theorem Gr.goneX {X : List Addr} {h h' : Heap} {a : Addr} (g : Gr X h h') (n : h'.get? a = Option.none) (hx : a ∉ X) : h.get? a = Option.none := by
  cases e : h.get? a with
  | none => rfl
  | some o => rw [g _ _ e (.inl hx)] at n; cases n
theorem corner_row {cdv : Value} {L f lr lf : Addr} {m : Str → Option Value} {rs fs : List Pt} {lo : Value} (W : World' hT mg mb) (rm : Rm 3 A) (U : Gr [] hT h) (new : hT.get? L = none) (n : h.Ns L m) (mr : m "row" = some (.ref lr)) (mf : m "found" = some (.ref lf)) (mo : m "order" = some lo)
    (xr : PtL h lr rs) (xf : PtL h lf fs) (hz : rs.length < 64) (hz' : fs.length < 64) (bp : ∀ p ∈ rs, Bd p)
    {P : Flow → Heap → Prop} (k : ∀ h' m' a, h'.Ns L m' → m' "order" = some lo → m' "found" = some (.ref a) → PtL h' a (fs ++ (half rs).dropLast) → Gr [L] h h' → h.get? a = none → P .next h') :
    Ru c A (execs (forBody (stAt 8 4)) (env8 8 "_law_corners" L f cdv)) h P := by
  obtain ⟨fc, FC⟩ := W.cross
  have hml := W.none "len" (by simp)
  have hhl := half_len rs
  show Ru c _ (execs (_ :: _) _) _ _
  repeat (first | ((with_reducible show Ru _ _ (eval (Expr.Name _ _) _) _ _); refine Ru.name (by assumption) (by first | assumption | rfl) ?_) | ((with_reducible show Ru _ _ (eval (Expr.Constant (Const.int _) _ _) _) _ _); refine Ru.intC fun _ => ?_) | ((with_reducible show Ru _ _ (eval (Expr.Constant Const.none _ _) _) _ _); refine Ru.noneC ?_) | ((with_reducible show Ru _ _ (eval (Expr.UnaryOp UnaryOp.USub (Expr.Constant _ _ _) _) _) _ _); refine Ru.negC fun _ => ?_) | ((with_reducible show Ru _ _ (eval (Expr.Subscript _ _ _) _) _ _); refine Ru.sub ?_) | ((with_reducible show Ru _ _ (eval (Expr.BinOp _ _ _ _) _) _ _); refine Ru.bin ?_) | ((with_reducible show Ru _ _ (eval (Expr.IfExp _ _ _ _) _) _ _); refine Ru.ifE ?_) | ((with_reducible show Ru _ _ (isTrue (Expr.Compare _ _ _ _) _ _) _ _); refine Ru.test ?_) | ((with_reducible show Ru _ _ (execs (_ :: _) _) _ _); refine Ru.cons ?_) | ((with_reducible show Ru _ _ (execs [] _) _ _); refine Ru.nil ?_) | ((with_reducible show Ru _ _ (exec (Stmt.If _ _ _ _) _) _ _); refine Ru.ifS ?_) | ((with_reducible show Ru _ _ (exec (Stmt.Assign _ _ _) _) _ _); refine Ru.asg ?_) | ((with_reducible show Ru _ _ (exec (Stmt.Expr _ _) _) _ _); refine Ru.exprA ?_) | ((with_reducible show Ru _ _ (spliced (backTo _ (starEach (_ :: _) _))) _ _); refine Ru.spc ?_) | ((with_reducible show Ru _ _ (spliced (backTo _ (starEach [] _))) _ _); refine Ru.spn ?_) | ((with_reducible show Ru _ _ (valueOrNone (evalOpt none _)) _ _); refine Ru.partN ?_) | ((with_reducible show Ru _ _ (valueOrNone (evalOpt (some _) _)) _ _); refine Ru.partE ?_) | ((with_reducible show Ru _ _ (eval (Expr.Slice _ _ _ _) _) _ _); refine Ru.slc ?_) | ((with_reducible show Ru _ _ (exec (Stmt.Return _ _) _) _ _); refine Ru.ret ?_))
  refine Ru.lst0 fun h₁ H x₁ g₁ fH => ?_
  have n₁ := g₁.ns n List.not_mem_nil
  have HL := x₁.ne_ns n₁
  refine Ru.store n₁ fun h₂ n₂ g₂ => ?_
  have g₂ : Gr [L] h₁ h₂ := g₂
  have x₂ := x₁.gr g₂ (notIn_one HL)
  have G₂ : Gr [L] h h₂ := g₁.nil.trans g₂
  have rL := xr.ne_ns n
  have fL := xf.ne_ns n
  obtain ⟨oL, _, _, hoL, _⟩ := n
  have xr₂ := xr.gr G₂ (notIn_one rL)
  repeat (first | ((with_reducible show Ru _ _ (eval (Expr.Name _ _) _) _ _); refine Ru.name (by assumption) (by first | assumption | rfl) ?_) | ((with_reducible show Ru _ _ (eval (Expr.Constant (Const.int _) _ _) _) _ _); refine Ru.intC fun _ => ?_) | ((with_reducible show Ru _ _ (eval (Expr.Constant Const.none _ _) _) _ _); refine Ru.noneC ?_) | ((with_reducible show Ru _ _ (eval (Expr.UnaryOp UnaryOp.USub (Expr.Constant _ _ _) _) _) _ _); refine Ru.negC fun _ => ?_) | ((with_reducible show Ru _ _ (eval (Expr.Subscript _ _ _) _) _ _); refine Ru.sub ?_) | ((with_reducible show Ru _ _ (eval (Expr.BinOp _ _ _ _) _) _ _); refine Ru.bin ?_) | ((with_reducible show Ru _ _ (eval (Expr.IfExp _ _ _ _) _) _ _); refine Ru.ifE ?_) | ((with_reducible show Ru _ _ (isTrue (Expr.Compare _ _ _ _) _ _) _ _); refine Ru.test ?_) | ((with_reducible show Ru _ _ (execs (_ :: _) _) _ _); refine Ru.cons ?_) | ((with_reducible show Ru _ _ (execs [] _) _ _); refine Ru.nil ?_) | ((with_reducible show Ru _ _ (exec (Stmt.If _ _ _ _) _) _ _); refine Ru.ifS ?_) | ((with_reducible show Ru _ _ (exec (Stmt.Assign _ _ _) _) _ _); refine Ru.asg ?_) | ((with_reducible show Ru _ _ (exec (Stmt.Expr _ _) _) _ _); refine Ru.exprA ?_) | ((with_reducible show Ru _ _ (spliced (backTo _ (starEach (_ :: _) _))) _ _); refine Ru.spc ?_) | ((with_reducible show Ru _ _ (spliced (backTo _ (starEach [] _))) _ _); refine Ru.spn ?_) | ((with_reducible show Ru _ _ (valueOrNone (evalOpt none _)) _ _); refine Ru.partN ?_) | ((with_reducible show Ru _ _ (valueOrNone (evalOpt (some _) _)) _ _); refine Ru.partE ?_) | ((with_reducible show Ru _ _ (eval (Expr.Slice _ _ _ _) _) _ _); refine Ru.slc ?_) | ((with_reducible show Ru _ _ (exec (Stmt.Return _ _) _) _ _); refine Ru.ret ?_))
  refine Ru.mono (P := fun fl h' => fl = .next ∧ ∃ m, h'.Ns L m ∧ m "found" = some (.ref lf) ∧ m "order" = some lo ∧ m "half" = some (.ref H) ∧ PtL h' H (half rs) ∧ Gr [L] h h') ?_ ?_
  · have rH : lr ≠ H := by rintro rfl; obtain ⟨_, _, q, _⟩ := xr; exact ne_of_fresh q fH rfl
    refine Ru.forP rm.hh xr₂ (fun Q q => ?_) (fun i h' => ∃ m, RowInv h h₂ L H lf lo rs i h' m) [L, H] (by simp; exact ⟨rL, rH⟩) ?_ ?_ ?_ ?_ ?_
    · (first | ((with_reducible show Ru _ _ (eval (Expr.Name _ _) _) _ _); refine Ru.name (by assumption) (by first | assumption | rfl) ?_) | ((with_reducible show Ru _ _ (eval (Expr.Constant (Const.int _) _ _) _) _ _); refine Ru.intC fun _ => ?_) | ((with_reducible show Ru _ _ (eval (Expr.Constant Const.none _ _) _) _ _); refine Ru.noneC ?_) | ((with_reducible show Ru _ _ (eval (Expr.UnaryOp UnaryOp.USub (Expr.Constant _ _ _) _) _) _ _); refine Ru.negC fun _ => ?_) | ((with_reducible show Ru _ _ (eval (Expr.Subscript _ _ _) _) _ _); refine Ru.sub ?_) | ((with_reducible show Ru _ _ (eval (Expr.BinOp _ _ _ _) _) _ _); refine Ru.bin ?_) | ((with_reducible show Ru _ _ (eval (Expr.IfExp _ _ _ _) _) _ _); refine Ru.ifE ?_) | ((with_reducible show Ru _ _ (isTrue (Expr.Compare _ _ _ _) _ _) _ _); refine Ru.test ?_) | ((with_reducible show Ru _ _ (execs (_ :: _) _) _ _); refine Ru.cons ?_) | ((with_reducible show Ru _ _ (execs [] _) _ _); refine Ru.nil ?_) | ((with_reducible show Ru _ _ (exec (Stmt.If _ _ _ _) _) _ _); refine Ru.ifS ?_) | ((with_reducible show Ru _ _ (exec (Stmt.Assign _ _ _) _) _ _); refine Ru.asg ?_) | ((with_reducible show Ru _ _ (exec (Stmt.Expr _ _) _) _ _); refine Ru.exprA ?_) | ((with_reducible show Ru _ _ (spliced (backTo _ (starEach (_ :: _) _))) _ _); refine Ru.spc ?_) | ((with_reducible show Ru _ _ (spliced (backTo _ (starEach [] _))) _ _); refine Ru.spn ?_) | ((with_reducible show Ru _ _ (valueOrNone (evalOpt none _)) _ _); refine Ru.partN ?_) | ((with_reducible show Ru _ _ (valueOrNone (evalOpt (some _) _)) _ _); refine Ru.partE ?_) | ((with_reducible show Ru _ _ (eval (Expr.Slice _ _ _ _) _) _ _); refine Ru.slc ?_) | ((with_reducible show Ru _ _ (exec (Stmt.Return _ _) _) _ _); refine Ru.ret ?_))
      exact q
    · rintro i h' ⟨m, j⟩
      exact j.g'
    · exact fun h' g => ⟨_, g.ns n₂ List.not_mem_nil, mf, mo, rfl, x₂.gr0 g, G₂.wash g (by simp), g.nil⟩
    · rintro I i h' h'' _ ⟨l, j, it⟩ fI ⟨m, ⟨n, e1, e2, e3, xH, G, G'⟩⟩ g
      refine ⟨m, g.ns n (notIn_one (ne_ns_it n it)), e1, e2, e3, xH.gr g (notIn_one ?_), G.wash g ?_, G'.wash g ?_⟩
      · obtain ⟨_, _, q, _⟩ := xH; exact ne_ls_it q.isList it
      · intro y hy
        rw [List.mem_singleton] at hy; subst hy
        left
        cases e : h.get? y with
        | none => rfl
        | some o =>
          exfalso
          by_cases hyL : y = L
          · subst hyL; exact ne_ns_it n it rfl
          · rw [G₂ y o e (.inl (notIn_one hyL))] at fI; cases fI
      · intro y hy; rw [List.mem_singleton] at hy; subst hy; exact .inl fI
    · rintro i h' v p ⟨m, ⟨n, e1, e2, e3, xH, G, G'⟩⟩ ep y
      have hmem : p ∈ rs := List.mem_of_getElem? ep
      refine Ru.aName (Ru.store n fun h₃ n₃ g₃ => ?_)
      have g₃ : Gr [L] h' h₃ := g₃
      have HL' := xH.ne_ns n
      have newH : hT.get? H = none := by
        cases e : hT.get? H with
        | none => rfl
        | some o => exact absurd (ne_of_fresh (U.keeps _ _ e) fH) (by simp)
      have blen := pushes_len (rs.take i) []
      refine corner_turn W.T FC hml W.len rm ((U.past G (not1' new)).past g₃ (not1' new)) newH n₃ rfl e3 (xH.gr g₃ (notIn_one HL')) (g₃.pt y) ?_ ?_ (bp p hmem) fun h₄ x₄ g₄ => ?_
      · simp at blen; omega
      · intro q hq
        rcases pushes_mem _ _ q hq with h | h
        · cases h
        · exact bp q (List.mem_of_mem_take h)
      · refine ⟨⟨_, g₄.ns n₃ (notIn_one HL'.symm), e1, e2, e3, ?_, (G.wash g₃ (by simp)).wash g₄ ?_, (G'.wash g₃ (by simp)).wash g₄ (by simp)⟩, [L, H], (g₃.mono (by simp)).trans (g₄.mono (by simp)), ?_⟩
        · rw [List.take_add_one, ep]
          simpa using x₄
        · intro y hy; rw [List.mem_singleton] at hy; subst hy; exact .inl fH
        · intro y hy
          rcases List.mem_cons.mp hy with rfl | hy
          · exact noIt_ns n
          · rw [List.mem_singleton] at hy; subst hy; exact xH.noIt
    · rintro h' ⟨m, ⟨n, e1, e2, e3, xH, G, G'⟩⟩
      exact ⟨rfl, m, n, e1, e2, e3, by simpa [half] using xH, G⟩
  · rintro _ h₃ ⟨rfl, m₃, n₃, e1, e2, e3, x₃, G₃⟩
    repeat (first | ((with_reducible show Ru _ _ (eval (Expr.Name _ _) _) _ _); refine Ru.name (by assumption) (by first | assumption | rfl) ?_) | ((with_reducible show Ru _ _ (eval (Expr.Constant (Const.int _) _ _) _) _ _); refine Ru.intC fun _ => ?_) | ((with_reducible show Ru _ _ (eval (Expr.Constant Const.none _ _) _) _ _); refine Ru.noneC ?_) | ((with_reducible show Ru _ _ (eval (Expr.UnaryOp UnaryOp.USub (Expr.Constant _ _ _) _) _) _ _); refine Ru.negC fun _ => ?_) | ((with_reducible show Ru _ _ (eval (Expr.Subscript _ _ _) _) _ _); refine Ru.sub ?_) | ((with_reducible show Ru _ _ (eval (Expr.BinOp _ _ _ _) _) _ _); refine Ru.bin ?_) | ((with_reducible show Ru _ _ (eval (Expr.IfExp _ _ _ _) _) _ _); refine Ru.ifE ?_) | ((with_reducible show Ru _ _ (isTrue (Expr.Compare _ _ _ _) _ _) _ _); refine Ru.test ?_) | ((with_reducible show Ru _ _ (execs (_ :: _) _) _ _); refine Ru.cons ?_) | ((with_reducible show Ru _ _ (execs [] _) _ _); refine Ru.nil ?_) | ((with_reducible show Ru _ _ (exec (Stmt.If _ _ _ _) _) _ _); refine Ru.ifS ?_) | ((with_reducible show Ru _ _ (exec (Stmt.Assign _ _ _) _) _ _); refine Ru.asg ?_) | ((with_reducible show Ru _ _ (exec (Stmt.Expr _ _) _) _ _); refine Ru.exprA ?_) | ((with_reducible show Ru _ _ (spliced (backTo _ (starEach (_ :: _) _))) _ _); refine Ru.spc ?_) | ((with_reducible show Ru _ _ (spliced (backTo _ (starEach [] _))) _ _); refine Ru.spn ?_) | ((with_reducible show Ru _ _ (valueOrNone (evalOpt none _)) _ _); refine Ru.partN ?_) | ((with_reducible show Ru _ _ (valueOrNone (evalOpt (some _) _)) _ _); refine Ru.partE ?_) | ((with_reducible show Ru _ _ (eval (Expr.Slice _ _ _ _) _) _ _); refine Ru.slc ?_) | ((with_reducible show Ru _ _ (exec (Stmt.Return _ _) _) _ _); refine Ru.ret ?_))
    intro h₄ sl hsl g₄ _
    refine Ru.cutP (x₃.gr0 g₄) (by omega) hsl .none (.int _ _) .none (by simp) cut_init fun h₅ a₅ x₅ g₅ _ => ?_
    have xf₅ := ((xf.gr G₃ (notIn_one fL)).gr0 g₄).gr0 g₅
    refine Ru.addP xf₅ x₅ (by simp; omega) fun h₆ a₆ x₆ g₆ f₆ => ?_
    have n₆ := g₆.ns (g₅.ns (g₄.ns n₃ List.not_mem_nil) (by simp)) (by simp)
    refine Ru.store n₆ fun h₇ n₇ g₇ => ?_
    have g₇ : Gr [L] h₆ h₇ := g₇
    repeat (first | ((with_reducible show Ru _ _ (eval (Expr.Name _ _) _) _ _); refine Ru.name (by assumption) (by first | assumption | rfl) ?_) | ((with_reducible show Ru _ _ (eval (Expr.Constant (Const.int _) _ _) _) _ _); refine Ru.intC fun _ => ?_) | ((with_reducible show Ru _ _ (eval (Expr.Constant Const.none _ _) _) _ _); refine Ru.noneC ?_) | ((with_reducible show Ru _ _ (eval (Expr.UnaryOp UnaryOp.USub (Expr.Constant _ _ _) _) _) _ _); refine Ru.negC fun _ => ?_) | ((with_reducible show Ru _ _ (eval (Expr.Subscript _ _ _) _) _ _); refine Ru.sub ?_) | ((with_reducible show Ru _ _ (eval (Expr.BinOp _ _ _ _) _) _ _); refine Ru.bin ?_) | ((with_reducible show Ru _ _ (eval (Expr.IfExp _ _ _ _) _) _ _); refine Ru.ifE ?_) | ((with_reducible show Ru _ _ (isTrue (Expr.Compare _ _ _ _) _ _) _ _); refine Ru.test ?_) | ((with_reducible show Ru _ _ (execs (_ :: _) _) _ _); refine Ru.cons ?_) | ((with_reducible show Ru _ _ (execs [] _) _ _); refine Ru.nil ?_) | ((with_reducible show Ru _ _ (exec (Stmt.If _ _ _ _) _) _ _); refine Ru.ifS ?_) | ((with_reducible show Ru _ _ (exec (Stmt.Assign _ _ _) _) _ _); refine Ru.asg ?_) | ((with_reducible show Ru _ _ (exec (Stmt.Expr _ _) _) _ _); refine Ru.exprA ?_) | ((with_reducible show Ru _ _ (spliced (backTo _ (starEach (_ :: _) _))) _ _); refine Ru.spc ?_) | ((with_reducible show Ru _ _ (spliced (backTo _ (starEach [] _))) _ _); refine Ru.spn ?_) | ((with_reducible show Ru _ _ (valueOrNone (evalOpt none _)) _ _); refine Ru.partN ?_) | ((with_reducible show Ru _ _ (valueOrNone (evalOpt (some _) _)) _ _); refine Ru.partE ?_) | ((with_reducible show Ru _ _ (eval (Expr.Slice _ _ _ _) _) _ _); refine Ru.slc ?_) | ((with_reducible show Ru _ _ (exec (Stmt.Return _ _) _) _ _); refine Ru.ret ?_))
    exact k h₇ _ a₆ n₇ e2 rfl (x₆.gr g₇ (notIn_one (x₆.ne_ns n₆))) (G₃.trans (g₄.nil.trans (g₅.nil.trans (g₆.nil.trans g₇)))) ((G₃.trans (g₄.nil.trans g₅.nil)).goneX f₆ (notIn_one (x₆.ne_ns n₆)))

theorem spec_corners {f : Addr} (W : World' hT mg mb) (F : FnH hT mg 8 "_law_corners" f) (rm : Rm 4 A) (U : Gr [] hT h) {lp : Addr} {ps : List Pt} (x : PtL h lp ps) (hz : ps.length < 64) (bp : ∀ p ∈ ps, Bd p)
    {P : Value → Heap → Prop} (k : ∀ h' a, Gr [] h h' → PtL h' a (cor ps) → h.get? a = none → P (.ref a) h') : Ru c A (call (.ref f) [.ref lp]) h P := by
  obtain ⟨o, doc, pm, an, cdv, ct, ho, hd, hcd⟩ := F.obj
  obtain ⟨fi, FI⟩ := W.ins
  obtain ⟨fb, FB⟩ := W.bis
  obtain ⟨oi, _, _, _, _, _, _, _, hoi, hdi, _⟩ := FI.obj
  have hml := W.none "len" (by simp)
  have hms := W.none "sorted" (by simp)
  refine Ru.callD (binds := [("points", .ref lp)]) (body := bodyOf 8) rm.room (U.keeps _ _ ho) hd (W.T.lim.keeps U.keeps) (hcd.keeps U.keeps) rfl (fun _ => BindsTo.of_eq rfl) (show ∀ x ∈ (scopeOf 8).names, x.2 ≠ .cell by decide) (locs rfl) fun h₁ n₁ g₁ => ?_
  obtain ⟨L, hL⟩ : ∃ L, L = h.objs.size := ⟨_, rfl⟩
  have fL : h.get? L = none := hL ▸ fresh_size _
  rw [← hL] at n₁ ⊢
  show Ru c (A.deeper (env8 8 "_law_corners" L f cdv)) (execs (bodyOf 8) (env8 8 "_law_corners" L f cdv)) _ _
  have rm := rm.deep (env8 8 "_law_corners" L f cdv)
  generalize A.deeper (env8 8 "_law_corners" L f cdv) = A' at rm ⊢
  have hu := rm.un
  have fLT := U.gone fL
  show Ru c _ (execs (_ :: _) _) _ _
  repeat (first | ((with_reducible show Ru _ _ (eval (Expr.Name _ _) _) _ _); refine Ru.name (by assumption) (by first | assumption | rfl) ?_) | ((with_reducible show Ru _ _ (eval (Expr.Constant (Const.int _) _ _) _) _ _); refine Ru.intC fun _ => ?_) | ((with_reducible show Ru _ _ (eval (Expr.Constant Const.none _ _) _) _ _); refine Ru.noneC ?_) | ((with_reducible show Ru _ _ (eval (Expr.UnaryOp UnaryOp.USub (Expr.Constant _ _ _) _) _) _ _); refine Ru.negC fun _ => ?_) | ((with_reducible show Ru _ _ (eval (Expr.Subscript _ _ _) _) _ _); refine Ru.sub ?_) | ((with_reducible show Ru _ _ (eval (Expr.BinOp _ _ _ _) _) _ _); refine Ru.bin ?_) | ((with_reducible show Ru _ _ (eval (Expr.IfExp _ _ _ _) _) _ _); refine Ru.ifE ?_) | ((with_reducible show Ru _ _ (isTrue (Expr.Compare _ _ _ _) _ _) _ _); refine Ru.test ?_) | ((with_reducible show Ru _ _ (execs (_ :: _) _) _ _); refine Ru.cons ?_) | ((with_reducible show Ru _ _ (execs [] _) _ _); refine Ru.nil ?_) | ((with_reducible show Ru _ _ (exec (Stmt.If _ _ _ _) _) _ _); refine Ru.ifS ?_) | ((with_reducible show Ru _ _ (exec (Stmt.Assign _ _ _) _) _ _); refine Ru.asg ?_) | ((with_reducible show Ru _ _ (exec (Stmt.Expr _ _) _) _ _); refine Ru.exprA ?_) | ((with_reducible show Ru _ _ (spliced (backTo _ (starEach (_ :: _) _))) _ _); refine Ru.spc ?_) | ((with_reducible show Ru _ _ (spliced (backTo _ (starEach [] _))) _ _); refine Ru.spn ?_) | ((with_reducible show Ru _ _ (valueOrNone (evalOpt none _)) _ _); refine Ru.partN ?_) | ((with_reducible show Ru _ _ (valueOrNone (evalOpt (some _) _)) _ _); refine Ru.partE ?_) | ((with_reducible show Ru _ _ (eval (Expr.Slice _ _ _ _) _) _ _); refine Ru.slc ?_) | ((with_reducible show Ru _ _ (exec (Stmt.Return _ _) _) _ _); refine Ru.ret ?_))
  refine Ru.lst0 fun h₂ lo xo g₂ fo => ?_
  have n₂ := g₂.ns n₁ List.not_mem_nil
  refine Ru.store n₂ fun h₃ n₃ g₃ => ?_
  have g₃ : Gr [L] h₂ h₃ := g₃
  have xo₃ := xo.gr g₃ (notIn_one (xo.ne_ns n₂))
  have G₃ : Gr [] h h₃ := (g₁.trans g₂).past g₃ (not1' fL)
  have fo : h.get? lo = none := g₁.gone fo
  have foT := U.gone fo
  have lpL : lp ≠ L := by rintro rfl; obtain ⟨_, _, q, _⟩ := x; exact ne_of_fresh q fL rfl
  have lplo : lp ≠ lo := by rintro rfl; obtain ⟨_, _, q, _⟩ := x; exact ne_of_fresh q fo rfl
  have x₃ := x.gr0 G₃
  repeat (first | ((with_reducible show Ru _ _ (eval (Expr.Name _ _) _) _ _); refine Ru.name (by assumption) (by first | assumption | rfl) ?_) | ((with_reducible show Ru _ _ (eval (Expr.Constant (Const.int _) _ _) _) _ _); refine Ru.intC fun _ => ?_) | ((with_reducible show Ru _ _ (eval (Expr.Constant Const.none _ _) _) _ _); refine Ru.noneC ?_) | ((with_reducible show Ru _ _ (eval (Expr.UnaryOp UnaryOp.USub (Expr.Constant _ _ _) _) _) _ _); refine Ru.negC fun _ => ?_) | ((with_reducible show Ru _ _ (eval (Expr.Subscript _ _ _) _) _ _); refine Ru.sub ?_) | ((with_reducible show Ru _ _ (eval (Expr.BinOp _ _ _ _) _) _ _); refine Ru.bin ?_) | ((with_reducible show Ru _ _ (eval (Expr.IfExp _ _ _ _) _) _ _); refine Ru.ifE ?_) | ((with_reducible show Ru _ _ (isTrue (Expr.Compare _ _ _ _) _ _) _ _); refine Ru.test ?_) | ((with_reducible show Ru _ _ (execs (_ :: _) _) _ _); refine Ru.cons ?_) | ((with_reducible show Ru _ _ (execs [] _) _ _); refine Ru.nil ?_) | ((with_reducible show Ru _ _ (exec (Stmt.If _ _ _ _) _) _ _); refine Ru.ifS ?_) | ((with_reducible show Ru _ _ (exec (Stmt.Assign _ _ _) _) _ _); refine Ru.asg ?_) | ((with_reducible show Ru _ _ (exec (Stmt.Expr _ _) _) _ _); refine Ru.exprA ?_) | ((with_reducible show Ru _ _ (spliced (backTo _ (starEach (_ :: _) _))) _ _); refine Ru.spc ?_) | ((with_reducible show Ru _ _ (spliced (backTo _ (starEach [] _))) _ _); refine Ru.spn ?_) | ((with_reducible show Ru _ _ (valueOrNone (evalOpt none _)) _ _); refine Ru.partN ?_) | ((with_reducible show Ru _ _ (valueOrNone (evalOpt (some _) _)) _ _); refine Ru.partE ?_) | ((with_reducible show Ru _ _ (eval (Expr.Slice _ _ _ _) _) _ _); refine Ru.slc ?_) | ((with_reducible show Ru _ _ (exec (Stmt.Return _ _) _) _ _); refine Ru.ret ?_))
  refine Ru.mono (P := fun fl h' => fl = .next ∧ ∃ m, h'.Ns L m ∧ m "points" = some (.ref lp) ∧ m "order" = some (.ref lo) ∧ PtL h' lo (srt ps) ∧ Gr [] h h') ?_ ?_
  · refine Ru.forP rm.hh x₃ (fun Q q => ?_) (fun i h' => ∃ m qs, OrdInv h h₃ L lo lp ps i h' m qs) [L, lo] (by simp; exact ⟨lpL, lplo⟩) ?_ ?_ ?_ ?_ ?_
    · (first | ((with_reducible show Ru _ _ (eval (Expr.Name _ _) _) _ _); refine Ru.name (by assumption) (by first | assumption | rfl) ?_) | ((with_reducible show Ru _ _ (eval (Expr.Constant (Const.int _) _ _) _) _ _); refine Ru.intC fun _ => ?_) | ((with_reducible show Ru _ _ (eval (Expr.Constant Const.none _ _) _) _ _); refine Ru.noneC ?_) | ((with_reducible show Ru _ _ (eval (Expr.UnaryOp UnaryOp.USub (Expr.Constant _ _ _) _) _) _ _); refine Ru.negC fun _ => ?_) | ((with_reducible show Ru _ _ (eval (Expr.Subscript _ _ _) _) _ _); refine Ru.sub ?_) | ((with_reducible show Ru _ _ (eval (Expr.BinOp _ _ _ _) _) _ _); refine Ru.bin ?_) | ((with_reducible show Ru _ _ (eval (Expr.IfExp _ _ _ _) _) _ _); refine Ru.ifE ?_) | ((with_reducible show Ru _ _ (isTrue (Expr.Compare _ _ _ _) _ _) _ _); refine Ru.test ?_) | ((with_reducible show Ru _ _ (execs (_ :: _) _) _ _); refine Ru.cons ?_) | ((with_reducible show Ru _ _ (execs [] _) _ _); refine Ru.nil ?_) | ((with_reducible show Ru _ _ (exec (Stmt.If _ _ _ _) _) _ _); refine Ru.ifS ?_) | ((with_reducible show Ru _ _ (exec (Stmt.Assign _ _ _) _) _ _); refine Ru.asg ?_) | ((with_reducible show Ru _ _ (exec (Stmt.Expr _ _) _) _ _); refine Ru.exprA ?_) | ((with_reducible show Ru _ _ (spliced (backTo _ (starEach (_ :: _) _))) _ _); refine Ru.spc ?_) | ((with_reducible show Ru _ _ (spliced (backTo _ (starEach [] _))) _ _); refine Ru.spn ?_) | ((with_reducible show Ru _ _ (valueOrNone (evalOpt none _)) _ _); refine Ru.partN ?_) | ((with_reducible show Ru _ _ (valueOrNone (evalOpt (some _) _)) _ _); refine Ru.partE ?_) | ((with_reducible show Ru _ _ (eval (Expr.Slice _ _ _ _) _) _ _); refine Ru.slc ?_) | ((with_reducible show Ru _ _ (exec (Stmt.Return _ _) _) _ _); refine Ru.ret ?_))
      exact q
    · rintro i h' ⟨m, qs, j⟩
      exact j.g'
    · exact fun h' g => ⟨_, [], g.ns n₃ List.not_mem_nil, rfl, rfl, xo₃.gr0 g, List.Pairwise.nil, by simp, G₃.trans g, g.nil⟩
    · rintro I i h' h'' _ ⟨l, j, it⟩ fI ⟨m, qs, ⟨n, e1, e2, xq, sq, pq, G, G'⟩⟩ g
      refine ⟨m, qs, g.ns n (notIn_one (ne_ns_it n it)), e1, e2, xq.gr g (notIn_one ?_), sq, pq, G.past g ?_, G'.wash g ?_⟩
      · obtain ⟨_, _, q, _⟩ := xq; exact ne_ls_it q.isList it
      · simpa using G₃.gone fI
      · intro y hy; rw [List.mem_singleton] at hy; subst hy; exact .inl fI
    · rintro i h' v p ⟨m, qs, ⟨n, e1, e2, xq, sq, pq, G, G'⟩⟩ ep y
      have hi : i < ps.length := by
        rcases Nat.lt_or_ge i ps.length with h | h
        · exact h
        · rw [List.getElem?_eq_none h] at ep; cases ep
      refine Ru.aName (Ru.store n fun h₄ n₄ g₄ => ?_)
      have g₄ : Gr [L] h' h₄ := g₄
      have loL := xq.ne_ns n
      have U₄ := (U.trans G).past g₄ (not1' fLT)
      have xq₄ := xq.gr g₄ (notIn_one loL)
      have y₄ := g₄.pt y
      have hql : qs.length = i := by rw [pq.length_eq, List.length_take]; omega
      show Ru c _ (execs (_ :: _) _) _ _
      repeat (first | ((with_reducible show Ru _ _ (eval (Expr.Name _ _) _) _ _); refine Ru.name (by assumption) (by first | assumption | rfl) ?_) | ((with_reducible show Ru _ _ (eval (Expr.Constant (Const.int _) _ _) _) _ _); refine Ru.intC fun _ => ?_) | ((with_reducible show Ru _ _ (eval (Expr.Constant Const.none _ _) _) _ _); refine Ru.noneC ?_) | ((with_reducible show Ru _ _ (eval (Expr.UnaryOp UnaryOp.USub (Expr.Constant _ _ _) _) _) _ _); refine Ru.negC fun _ => ?_) | ((with_reducible show Ru _ _ (eval (Expr.Subscript _ _ _) _) _ _); refine Ru.sub ?_) | ((with_reducible show Ru _ _ (eval (Expr.BinOp _ _ _ _) _) _ _); refine Ru.bin ?_) | ((with_reducible show Ru _ _ (eval (Expr.IfExp _ _ _ _) _) _ _); refine Ru.ifE ?_) | ((with_reducible show Ru _ _ (isTrue (Expr.Compare _ _ _ _) _ _) _ _); refine Ru.test ?_) | ((with_reducible show Ru _ _ (execs (_ :: _) _) _ _); refine Ru.cons ?_) | ((with_reducible show Ru _ _ (execs [] _) _ _); refine Ru.nil ?_) | ((with_reducible show Ru _ _ (exec (Stmt.If _ _ _ _) _) _ _); refine Ru.ifS ?_) | ((with_reducible show Ru _ _ (exec (Stmt.Assign _ _ _) _) _ _); refine Ru.asg ?_) | ((with_reducible show Ru _ _ (exec (Stmt.Expr _ _) _) _ _); refine Ru.exprA ?_) | ((with_reducible show Ru _ _ (spliced (backTo _ (starEach (_ :: _) _))) _ _); refine Ru.spc ?_) | ((with_reducible show Ru _ _ (spliced (backTo _ (starEach [] _))) _ _); refine Ru.spn ?_) | ((with_reducible show Ru _ _ (valueOrNone (evalOpt none _)) _ _); refine Ru.partN ?_) | ((with_reducible show Ru _ _ (valueOrNone (evalOpt (some _) _)) _ _); refine Ru.partE ?_) | ((with_reducible show Ru _ _ (eval (Expr.Slice _ _ _ _) _) _ _); refine Ru.slc ?_) | ((with_reducible show Ru _ _ (exec (Stmt.Return _ _) _) _ _); refine Ru.ret ?_))
      refine Ru.callN (Ru.glob (W.T.g.keeps U₄.keeps) FI.glob ?_)
      refine Ru.withF (o := oi) hdi ?_
      repeat (first | ((with_reducible show Ru _ _ (eval (Expr.Name _ _) _) _ _); refine Ru.name (by assumption) (by first | assumption | rfl) ?_) | ((with_reducible show Ru _ _ (eval (Expr.Constant (Const.int _) _ _) _) _ _); refine Ru.intC fun _ => ?_) | ((with_reducible show Ru _ _ (eval (Expr.Constant Const.none _ _) _) _ _); refine Ru.noneC ?_) | ((with_reducible show Ru _ _ (eval (Expr.UnaryOp UnaryOp.USub (Expr.Constant _ _ _) _) _) _ _); refine Ru.negC fun _ => ?_) | ((with_reducible show Ru _ _ (eval (Expr.Subscript _ _ _) _) _ _); refine Ru.sub ?_) | ((with_reducible show Ru _ _ (eval (Expr.BinOp _ _ _ _) _) _ _); refine Ru.bin ?_) | ((with_reducible show Ru _ _ (eval (Expr.IfExp _ _ _ _) _) _ _); refine Ru.ifE ?_) | ((with_reducible show Ru _ _ (isTrue (Expr.Compare _ _ _ _) _ _) _ _); refine Ru.test ?_) | ((with_reducible show Ru _ _ (execs (_ :: _) _) _ _); refine Ru.cons ?_) | ((with_reducible show Ru _ _ (execs [] _) _ _); refine Ru.nil ?_) | ((with_reducible show Ru _ _ (exec (Stmt.If _ _ _ _) _) _ _); refine Ru.ifS ?_) | ((with_reducible show Ru _ _ (exec (Stmt.Assign _ _ _) _) _ _); refine Ru.asg ?_) | ((with_reducible show Ru _ _ (exec (Stmt.Expr _ _) _) _ _); refine Ru.exprA ?_) | ((with_reducible show Ru _ _ (spliced (backTo _ (starEach (_ :: _) _))) _ _); refine Ru.spc ?_) | ((with_reducible show Ru _ _ (spliced (backTo _ (starEach [] _))) _ _); refine Ru.spn ?_) | ((with_reducible show Ru _ _ (valueOrNone (evalOpt none _)) _ _); refine Ru.partN ?_) | ((with_reducible show Ru _ _ (valueOrNone (evalOpt (some _) _)) _ _); refine Ru.partE ?_) | ((with_reducible show Ru _ _ (eval (Expr.Slice _ _ _ _) _) _ _); refine Ru.slc ?_) | ((with_reducible show Ru _ _ (exec (Stmt.Return _ _) _) _ _); refine Ru.ret ?_))
      refine ⟨U₄.keeps _ _ hoi, ?_⟩
      refine spec_insort W.T FI FB W.len (rm.less (by decide)) U₄ xq₄ y₄ sq (by omega) fun h₅ j g₅ x₅ sp => ?_
      repeat (first | ((with_reducible show Ru _ _ (eval (Expr.Name _ _) _) _ _); refine Ru.name (by assumption) (by first | assumption | rfl) ?_) | ((with_reducible show Ru _ _ (eval (Expr.Constant (Const.int _) _ _) _) _ _); refine Ru.intC fun _ => ?_) | ((with_reducible show Ru _ _ (eval (Expr.Constant Const.none _ _) _) _ _); refine Ru.noneC ?_) | ((with_reducible show Ru _ _ (eval (Expr.UnaryOp UnaryOp.USub (Expr.Constant _ _ _) _) _) _ _); refine Ru.negC fun _ => ?_) | ((with_reducible show Ru _ _ (eval (Expr.Subscript _ _ _) _) _ _); refine Ru.sub ?_) | ((with_reducible show Ru _ _ (eval (Expr.BinOp _ _ _ _) _) _ _); refine Ru.bin ?_) | ((with_reducible show Ru _ _ (eval (Expr.IfExp _ _ _ _) _) _ _); refine Ru.ifE ?_) | ((with_reducible show Ru _ _ (isTrue (Expr.Compare _ _ _ _) _ _) _ _); refine Ru.test ?_) | ((with_reducible show Ru _ _ (execs (_ :: _) _) _ _); refine Ru.cons ?_) | ((with_reducible show Ru _ _ (execs [] _) _ _); refine Ru.nil ?_) | ((with_reducible show Ru _ _ (exec (Stmt.If _ _ _ _) _) _ _); refine Ru.ifS ?_) | ((with_reducible show Ru _ _ (exec (Stmt.Assign _ _ _) _) _ _); refine Ru.asg ?_) | ((with_reducible show Ru _ _ (exec (Stmt.Expr _ _) _) _ _); refine Ru.exprA ?_) | ((with_reducible show Ru _ _ (spliced (backTo _ (starEach (_ :: _) _))) _ _); refine Ru.spc ?_) | ((with_reducible show Ru _ _ (spliced (backTo _ (starEach [] _))) _ _); refine Ru.spn ?_) | ((with_reducible show Ru _ _ (valueOrNone (evalOpt none _)) _ _); refine Ru.partN ?_) | ((with_reducible show Ru _ _ (valueOrNone (evalOpt (some _) _)) _ _); refine Ru.partE ?_) | ((with_reducible show Ru _ _ (eval (Expr.Slice _ _ _ _) _) _ _); refine Ru.slc ?_) | ((with_reducible show Ru _ _ (exec (Stmt.Return _ _) _) _ _); refine Ru.ret ?_))
      refine ⟨⟨_, _, g₅.ns n₄ (notIn_one loL.symm), e1, e2, x₅, sq.ins sp, ?_, (G.past g₄ (not1' fL)).past g₅ (not1' fo), (G'.wash g₄ (by simp)).wash g₅ (by simp)⟩, [L, lo], (g₄.mono (by simp)).trans (g₅.mono (by simp)), ?_⟩
      · rw [List.take_add_one, ep]
        exact (ins_perm qs p j).trans ((pq.cons p).trans (by simpa using (List.perm_append_comm (l₁ := [p]) (l₂ := ps.take i))))
      · intro y hy
        rcases List.mem_cons.mp hy with rfl | hy
        · exact noIt_ns n
        · rw [List.mem_singleton] at hy; subst hy; exact xq.noIt
    · rintro h' ⟨m, qs, ⟨n, e1, e2, xq, sq, pq, G, G'⟩⟩
      rw [srt_eq sq (by simpa using pq)] at xq
      exact ⟨rfl, m, n, e1, e2, xq, G⟩
  · rintro _ h₄ ⟨rfl, m₄, n₄, e1, e2, x₄, G₄⟩
    have U₄ := U.trans G₄
    have hsl := (srt_perm ps).length_eq
    repeat (first | ((with_reducible show Ru _ _ (eval (Expr.Name _ _) _) _ _); refine Ru.name (by assumption) (by first | assumption | rfl) ?_) | ((with_reducible show Ru _ _ (eval (Expr.Constant (Const.int _) _ _) _) _ _); refine Ru.intC fun _ => ?_) | ((with_reducible show Ru _ _ (eval (Expr.Constant Const.none _ _) _) _ _); refine Ru.noneC ?_) | ((with_reducible show Ru _ _ (eval (Expr.UnaryOp UnaryOp.USub (Expr.Constant _ _ _) _) _) _ _); refine Ru.negC fun _ => ?_) | ((with_reducible show Ru _ _ (eval (Expr.Subscript _ _ _) _) _ _); refine Ru.sub ?_) | ((with_reducible show Ru _ _ (eval (Expr.BinOp _ _ _ _) _) _ _); refine Ru.bin ?_) | ((with_reducible show Ru _ _ (eval (Expr.IfExp _ _ _ _) _) _ _); refine Ru.ifE ?_) | ((with_reducible show Ru _ _ (isTrue (Expr.Compare _ _ _ _) _ _) _ _); refine Ru.test ?_) | ((with_reducible show Ru _ _ (execs (_ :: _) _) _ _); refine Ru.cons ?_) | ((with_reducible show Ru _ _ (execs [] _) _ _); refine Ru.nil ?_) | ((with_reducible show Ru _ _ (exec (Stmt.If _ _ _ _) _) _ _); refine Ru.ifS ?_) | ((with_reducible show Ru _ _ (exec (Stmt.Assign _ _ _) _) _ _); refine Ru.asg ?_) | ((with_reducible show Ru _ _ (exec (Stmt.Expr _ _) _) _ _); refine Ru.exprA ?_) | ((with_reducible show Ru _ _ (spliced (backTo _ (starEach (_ :: _) _))) _ _); refine Ru.spc ?_) | ((with_reducible show Ru _ _ (spliced (backTo _ (starEach [] _))) _ _); refine Ru.spn ?_) | ((with_reducible show Ru _ _ (valueOrNone (evalOpt none _)) _ _); refine Ru.partN ?_) | ((with_reducible show Ru _ _ (valueOrNone (evalOpt (some _) _)) _ _); refine Ru.partE ?_) | ((with_reducible show Ru _ _ (eval (Expr.Slice _ _ _ _) _) _ _); refine Ru.slc ?_) | ((with_reducible show Ru _ _ (exec (Stmt.Return _ _) _) _ _); refine Ru.ret ?_))
    refine Ru.callN (Ru.blt (W.T.g.keeps U₄.keeps) hms (W.T.b.keeps U₄.keeps) W.sorted ?_)
    refine Ru.withB ?_
    repeat (first | ((with_reducible show Ru _ _ (eval (Expr.Name _ _) _) _ _); refine Ru.name (by assumption) (by first | assumption | rfl) ?_) | ((with_reducible show Ru _ _ (eval (Expr.Constant (Const.int _) _ _) _) _ _); refine Ru.intC fun _ => ?_) | ((with_reducible show Ru _ _ (eval (Expr.Constant Const.none _ _) _) _ _); refine Ru.noneC ?_) | ((with_reducible show Ru _ _ (eval (Expr.UnaryOp UnaryOp.USub (Expr.Constant _ _ _) _) _) _ _); refine Ru.negC fun _ => ?_) | ((with_reducible show Ru _ _ (eval (Expr.Subscript _ _ _) _) _ _); refine Ru.sub ?_) | ((with_reducible show Ru _ _ (eval (Expr.BinOp _ _ _ _) _) _ _); refine Ru.bin ?_) | ((with_reducible show Ru _ _ (eval (Expr.IfExp _ _ _ _) _) _ _); refine Ru.ifE ?_) | ((with_reducible show Ru _ _ (isTrue (Expr.Compare _ _ _ _) _ _) _ _); refine Ru.test ?_) | ((with_reducible show Ru _ _ (execs (_ :: _) _) _ _); refine Ru.cons ?_) | ((with_reducible show Ru _ _ (execs [] _) _ _); refine Ru.nil ?_) | ((with_reducible show Ru _ _ (exec (Stmt.If _ _ _ _) _) _ _); refine Ru.ifS ?_) | ((with_reducible show Ru _ _ (exec (Stmt.Assign _ _ _) _) _ _); refine Ru.asg ?_) | ((with_reducible show Ru _ _ (exec (Stmt.Expr _ _) _) _ _); refine Ru.exprA ?_) | ((with_reducible show Ru _ _ (spliced (backTo _ (starEach (_ :: _) _))) _ _); refine Ru.spc ?_) | ((with_reducible show Ru _ _ (spliced (backTo _ (starEach [] _))) _ _); refine Ru.spn ?_) | ((with_reducible show Ru _ _ (valueOrNone (evalOpt none _)) _ _); refine Ru.partN ?_) | ((with_reducible show Ru _ _ (valueOrNone (evalOpt (some _) _)) _ _); refine Ru.partE ?_) | ((with_reducible show Ru _ _ (eval (Expr.Slice _ _ _ _) _) _ _); refine Ru.slc ?_) | ((with_reducible show Ru _ _ (exec (Stmt.Return _ _) _) _ _); refine Ru.ret ?_))
    refine Ru.sorted n₄ (x.gr0 G₄) hz (by omega) fun h₅ a₅ qs x₅ pq sq g₅ n₅ f₅ => ?_
    rw [srt_eq sq pq] at x₅
    have x₄ := x₄.gr g₅ (notIn_one (x₄.ne_ns n₄))
    have G₅ := G₄.past g₅ (not1' fL)
    refine Ru.nePts x₄ x₅ (by omega) ⟨_, rfl, ?_⟩
    rw [if_neg (by simp)]
    repeat (first | ((with_reducible show Ru _ _ (eval (Expr.Name _ _) _) _ _); refine Ru.name (by assumption) (by first | assumption | rfl) ?_) | ((with_reducible show Ru _ _ (eval (Expr.Constant (Const.int _) _ _) _) _ _); refine Ru.intC fun _ => ?_) | ((with_reducible show Ru _ _ (eval (Expr.Constant Const.none _ _) _) _ _); refine Ru.noneC ?_) | ((with_reducible show Ru _ _ (eval (Expr.UnaryOp UnaryOp.USub (Expr.Constant _ _ _) _) _) _ _); refine Ru.negC fun _ => ?_) | ((with_reducible show Ru _ _ (eval (Expr.Subscript _ _ _) _) _ _); refine Ru.sub ?_) | ((with_reducible show Ru _ _ (eval (Expr.BinOp _ _ _ _) _) _ _); refine Ru.bin ?_) | ((with_reducible show Ru _ _ (eval (Expr.IfExp _ _ _ _) _) _ _); refine Ru.ifE ?_) | ((with_reducible show Ru _ _ (isTrue (Expr.Compare _ _ _ _) _ _) _ _); refine Ru.test ?_) | ((with_reducible show Ru _ _ (execs (_ :: _) _) _ _); refine Ru.cons ?_) | ((with_reducible show Ru _ _ (execs [] _) _ _); refine Ru.nil ?_) | ((with_reducible show Ru _ _ (exec (Stmt.If _ _ _ _) _) _ _); refine Ru.ifS ?_) | ((with_reducible show Ru _ _ (exec (Stmt.Assign _ _ _) _) _ _); refine Ru.asg ?_) | ((with_reducible show Ru _ _ (exec (Stmt.Expr _ _) _) _ _); refine Ru.exprA ?_) | ((with_reducible show Ru _ _ (spliced (backTo _ (starEach (_ :: _) _))) _ _); refine Ru.spc ?_) | ((with_reducible show Ru _ _ (spliced (backTo _ (starEach [] _))) _ _); refine Ru.spn ?_) | ((with_reducible show Ru _ _ (valueOrNone (evalOpt none _)) _ _); refine Ru.partN ?_) | ((with_reducible show Ru _ _ (valueOrNone (evalOpt (some _) _)) _ _); refine Ru.partE ?_) | ((with_reducible show Ru _ _ (eval (Expr.Slice _ _ _ _) _) _ _); refine Ru.slc ?_) | ((with_reducible show Ru _ _ (exec (Stmt.Return _ _) _) _ _); refine Ru.ret ?_))
    refine Ru.lst0 fun h₆ lf x₆ g₆ f₆ => ?_
    have n₆ := g₆.ns n₅ List.not_mem_nil
    refine Ru.store n₆ fun h₇ n₇ g₇ => ?_
    have g₇ : Gr [L] h₆ h₇ := g₇
    have x₇ := x₆.gr g₇ (notIn_one (x₆.ne_ns n₆))
    have G₇ : Gr [] h h₇ := (G₅.trans g₆).past g₇ (not1' fL)
    have xo₇ := (x₄.gr0 g₆).gr g₇ (notIn_one ((x₄.gr0 g₆).ne_ns n₆))
    repeat (first | ((with_reducible show Ru _ _ (eval (Expr.Name _ _) _) _ _); refine Ru.name (by assumption) (by first | assumption | rfl) ?_) | ((with_reducible show Ru _ _ (eval (Expr.Constant (Const.int _) _ _) _) _ _); refine Ru.intC fun _ => ?_) | ((with_reducible show Ru _ _ (eval (Expr.Constant Const.none _ _) _) _ _); refine Ru.noneC ?_) | ((with_reducible show Ru _ _ (eval (Expr.UnaryOp UnaryOp.USub (Expr.Constant _ _ _) _) _) _ _); refine Ru.negC fun _ => ?_) | ((with_reducible show Ru _ _ (eval (Expr.Subscript _ _ _) _) _ _); refine Ru.sub ?_) | ((with_reducible show Ru _ _ (eval (Expr.BinOp _ _ _ _) _) _ _); refine Ru.bin ?_) | ((with_reducible show Ru _ _ (eval (Expr.IfExp _ _ _ _) _) _ _); refine Ru.ifE ?_) | ((with_reducible show Ru _ _ (isTrue (Expr.Compare _ _ _ _) _ _) _ _); refine Ru.test ?_) | ((with_reducible show Ru _ _ (execs (_ :: _) _) _ _); refine Ru.cons ?_) | ((with_reducible show Ru _ _ (execs [] _) _ _); refine Ru.nil ?_) | ((with_reducible show Ru _ _ (exec (Stmt.If _ _ _ _) _) _ _); refine Ru.ifS ?_) | ((with_reducible show Ru _ _ (exec (Stmt.Assign _ _ _) _) _ _); refine Ru.asg ?_) | ((with_reducible show Ru _ _ (exec (Stmt.Expr _ _) _) _ _); refine Ru.exprA ?_) | ((with_reducible show Ru _ _ (spliced (backTo _ (starEach (_ :: _) _))) _ _); refine Ru.spc ?_) | ((with_reducible show Ru _ _ (spliced (backTo _ (starEach [] _))) _ _); refine Ru.spn ?_) | ((with_reducible show Ru _ _ (valueOrNone (evalOpt none _)) _ _); refine Ru.partN ?_) | ((with_reducible show Ru _ _ (valueOrNone (evalOpt (some _) _)) _ _); refine Ru.partE ?_) | ((with_reducible show Ru _ _ (eval (Expr.Slice _ _ _ _) _) _ _); refine Ru.slc ?_) | ((with_reducible show Ru _ _ (exec (Stmt.Return _ _) _) _ _); refine Ru.ret ?_))
    refine Ru.mono (P := fun fl h' => fl = .next ∧ ∃ m lf, h'.Ns L m ∧ m "order" = some (.ref lo) ∧ m "found" = some (.ref lf) ∧ PtL h' lf ((half (srt ps)).dropLast ++ (half (srt ps).reverse).dropLast) ∧ PtL h' lo (srt ps) ∧ Gr [] h h' ∧ h.get? lf = none) ?_ ?_
    · refine Ru.forS ?_
      refine Ru.lstE ?_
      repeat (first | ((with_reducible show Ru _ _ (eval (Expr.Name _ _) _) _ _); refine Ru.name (by assumption) (by first | assumption | rfl) ?_) | ((with_reducible show Ru _ _ (eval (Expr.Constant (Const.int _) _ _) _) _ _); refine Ru.intC fun _ => ?_) | ((with_reducible show Ru _ _ (eval (Expr.Constant Const.none _ _) _) _ _); refine Ru.noneC ?_) | ((with_reducible show Ru _ _ (eval (Expr.UnaryOp UnaryOp.USub (Expr.Constant _ _ _) _) _) _ _); refine Ru.negC fun _ => ?_) | ((with_reducible show Ru _ _ (eval (Expr.Subscript _ _ _) _) _ _); refine Ru.sub ?_) | ((with_reducible show Ru _ _ (eval (Expr.BinOp _ _ _ _) _) _ _); refine Ru.bin ?_) | ((with_reducible show Ru _ _ (eval (Expr.IfExp _ _ _ _) _) _ _); refine Ru.ifE ?_) | ((with_reducible show Ru _ _ (isTrue (Expr.Compare _ _ _ _) _ _) _ _); refine Ru.test ?_) | ((with_reducible show Ru _ _ (execs (_ :: _) _) _ _); refine Ru.cons ?_) | ((with_reducible show Ru _ _ (execs [] _) _ _); refine Ru.nil ?_) | ((with_reducible show Ru _ _ (exec (Stmt.If _ _ _ _) _) _ _); refine Ru.ifS ?_) | ((with_reducible show Ru _ _ (exec (Stmt.Assign _ _ _) _) _ _); refine Ru.asg ?_) | ((with_reducible show Ru _ _ (exec (Stmt.Expr _ _) _) _ _); refine Ru.exprA ?_) | ((with_reducible show Ru _ _ (spliced (backTo _ (starEach (_ :: _) _))) _ _); refine Ru.spc ?_) | ((with_reducible show Ru _ _ (spliced (backTo _ (starEach [] _))) _ _); refine Ru.spn ?_) | ((with_reducible show Ru _ _ (valueOrNone (evalOpt none _)) _ _); refine Ru.partN ?_) | ((with_reducible show Ru _ _ (valueOrNone (evalOpt (some _) _)) _ _); refine Ru.partE ?_) | ((with_reducible show Ru _ _ (eval (Expr.Slice _ _ _ _) _) _ _); refine Ru.slc ?_) | ((with_reducible show Ru _ _ (exec (Stmt.Return _ _) _) _ _); refine Ru.ret ?_))
      intro h₈ sl hsl' g₈ _
      refine Ru.cutP (xo₇.gr0 g₈) (by omega) hsl' .none .none (.int _ _) (by simp) cut_rev fun h₉ lr x₉ g₉ f₉ => ?_
      repeat (first | ((with_reducible show Ru _ _ (eval (Expr.Name _ _) _) _ _); refine Ru.name (by assumption) (by first | assumption | rfl) ?_) | ((with_reducible show Ru _ _ (eval (Expr.Constant (Const.int _) _ _) _) _ _); refine Ru.intC fun _ => ?_) | ((with_reducible show Ru _ _ (eval (Expr.Constant Const.none _ _) _) _ _); refine Ru.noneC ?_) | ((with_reducible show Ru _ _ (eval (Expr.UnaryOp UnaryOp.USub (Expr.Constant _ _ _) _) _) _ _); refine Ru.negC fun _ => ?_) | ((with_reducible show Ru _ _ (eval (Expr.Subscript _ _ _) _) _ _); refine Ru.sub ?_) | ((with_reducible show Ru _ _ (eval (Expr.BinOp _ _ _ _) _) _ _); refine Ru.bin ?_) | ((with_reducible show Ru _ _ (eval (Expr.IfExp _ _ _ _) _) _ _); refine Ru.ifE ?_) | ((with_reducible show Ru _ _ (isTrue (Expr.Compare _ _ _ _) _ _) _ _); refine Ru.test ?_) | ((with_reducible show Ru _ _ (execs (_ :: _) _) _ _); refine Ru.cons ?_) | ((with_reducible show Ru _ _ (execs [] _) _ _); refine Ru.nil ?_) | ((with_reducible show Ru _ _ (exec (Stmt.If _ _ _ _) _) _ _); refine Ru.ifS ?_) | ((with_reducible show Ru _ _ (exec (Stmt.Assign _ _ _) _) _ _); refine Ru.asg ?_) | ((with_reducible show Ru _ _ (exec (Stmt.Expr _ _) _) _ _); refine Ru.exprA ?_) | ((with_reducible show Ru _ _ (spliced (backTo _ (starEach (_ :: _) _))) _ _); refine Ru.spc ?_) | ((with_reducible show Ru _ _ (spliced (backTo _ (starEach [] _))) _ _); refine Ru.spn ?_) | ((with_reducible show Ru _ _ (valueOrNone (evalOpt none _)) _ _); refine Ru.partN ?_) | ((with_reducible show Ru _ _ (valueOrNone (evalOpt (some _) _)) _ _); refine Ru.partE ?_) | ((with_reducible show Ru _ _ (eval (Expr.Slice _ _ _ _) _) _ _); refine Ru.slc ?_) | ((with_reducible show Ru _ _ (exec (Stmt.Return _ _) _) _ _); refine Ru.ret ?_))
      refine Ru.newL (show 2 ≤ sizeLine by decide) fun hA lA gA => ?_
      have xoA := ((xo₇.gr0 g₈).gr0 g₉).gr0 gA
      have xrA := x₉.gr0 gA
      have nA := gA.ns (g₉.ns (g₈.ns n₇ List.not_mem_nil) (by simp)) (by simp)
      have GA := ((G₇.trans g₈).trans g₉).trans gA
      obtain ⟨la, hla⟩ : ∃ la, la = h₉.objs.size := ⟨_, rfl⟩
      rw [← hla] at lA ⊢
      refine Ru.iterL lA.isList fun I hB fI itB gB => ?_
      have fIh : h.get? I = none := GA.gone fI
      have laI : la ≠ I := ne_of_fresh lA fI
      have bR : ∀ p ∈ srt ps, Bd p := fun p hp => bp p ((srt_perm ps).mem_iff.mp hp)
      obtain ⟨fnd, hf⟩ : ∃ fnd : Nat → List Pt, fnd = fun k => if k = 0 then [] else if k = 1 then (half (srt ps)).dropLast else (half (srt ps)).dropLast ++ (half (srt ps).reverse).dropLast := ⟨_, rfl⟩
      have hh1 := half_len (srt ps)
      have hh2 := half_len (srt ps).reverse
      rw [List.length_reverse] at hh2
      refine ⟨I, _, _, _, rfl, Src.list (xs := List.toArray [Value.ref lo, Value.ref lr]) rm.hh laI, fun i h' => ∃ m lf, RowsInv h L lo lr la I fnd ps i h' m lf, ?_, ?_, ?_, ?_⟩
      · refine ⟨_, lf, gB.ns nA List.not_mem_nil, e2, rfl, by rw [hf]; exact (((x₇.gr0 g₈).gr0 g₉).gr0 gA).gr0 gB, xoA.gr0 gB, xrA.gr0 gB, itB, gB.lst lA.isList List.not_mem_nil, GA.trans gB, G₅.gone f₆⟩
      · rintro i h' ⟨m, lf, j⟩
        exact ⟨j.it, j.l⟩
      · rintro i h' h'' v hi ⟨m, lf, ⟨n, e1, e2, xf, xo, xr, it, l, G, fl⟩⟩ hv ⟨it', l'⟩ g
        have LI : L ∉ [I] := notIn_one (ne_ns_it n it)
        have nIt : ∀ {a : Addr} {qs : List Pt}, PtL h' a qs → a ∉ [I] := fun x => let ⟨_, _, q, _⟩ := x; notIn_one (ne_ls_it q.isList it)
        have n := g.ns n LI
        have xf := xf.gr g (nIt xf)
        have xo := xo.gr g (nIt xo)
        have xr := xr.gr g (nIt xr)
        have G := G.past g (not1' fIh)
        have hi : i < 2 := hi
        obtain ⟨r, rs, ev, xrow, hrl, hrb, hrf⟩ : ∃ r rs, v = .ref r ∧ PtL h'' r rs ∧ rs.length < 64 ∧ (∀ p ∈ rs, Bd p) ∧ fnd (i + 1) = fnd i ++ (half rs).dropLast := by
          rcases Nat.lt_or_ge i 1 with h1 | h1
          · have : i = 0 := by omega
            subst this
            simp at hv
            exact ⟨lo, srt ps, hv.symm, xo, by omega, bR, by rw [hf]; simp⟩
          · have : i = 1 := by omega
            subst this
            simp at hv
            exact ⟨lr, (srt ps).reverse, hv.symm, xr, by rw [List.length_reverse]; omega, fun p hp => bR p (List.mem_reverse.mp hp), by rw [hf]; simp⟩
        have hfl : (fnd i).length < 64 := by
          rw [hf]
          simp only
          split
          · simp
          · split
            · simp; omega
            · omega
        subst ev
        refine Ru.aName (Ru.store n fun h₃ n₃ g₃ => ?_)
        have g₃ : Gr [L] h'' h₃ := g₃
        have nL : ∀ {a : Addr} {qs : List Pt}, PtL h'' a qs → a ∉ [L] := fun x => notIn_one (x.ne_ns n)
        refine corner_row W (rm.less (by decide)) ((U.trans G).past g₃ (not1' fLT)) fLT n₃ rfl e2 e1 (xrow.gr g₃ (nL xrow)) (xf.gr g₃ (nL xf)) hrl hfl hrb fun h₄ m₄ lf' n₄ o₄ f₄ x₄ g₄ fa => ?_
        have gg : Gr [L] h'' h₄ := g₃.trans g₄
        refine ⟨m₄, lf', n₄, o₄, f₄, by rw [hrf]; exact x₄, xo.gr gg (nL xo), xr.gr gg (nL xr), gg.it it' (notIn_one (ne_ns_it n it').symm), gg.lst l' (notIn_one (ne_ns_ls n l').symm), G.past gg (not1' fL), (G.past g₃ (not1' fL)).gone fa⟩
      · rintro h' h'' ⟨m, lf, ⟨n, e1, e2, xf, xo, xr, it, l, G, fl⟩⟩ g
        have nIt : ∀ {a : Addr} {qs : List Pt}, PtL h' a qs → a ∉ [I] := fun x => let ⟨_, _, q, _⟩ := x; notIn_one (ne_ls_it q.isList it)
        refine ⟨rfl, m, lf, g.ns n (notIn_one (ne_ns_it n it)), e1, e2, ?_, xo.gr g (nIt xo), G.past g (not1' fIh), fl⟩
        have := xf.gr g (nIt xf)
        rw [hf] at this
        exact this
    · rintro _ h₈ ⟨rfl, m₈, lf, n₈, e1, e2, x₈, xo₈, G₈, fl⟩
      have hh1 := half_len (srt ps)
      have hh2 := half_len (srt ps).reverse
      repeat (first | ((with_reducible show Ru _ _ (eval (Expr.Name _ _) _) _ _); refine Ru.name (by assumption) (by first | assumption | rfl) ?_) | ((with_reducible show Ru _ _ (eval (Expr.Constant (Const.int _) _ _) _) _ _); refine Ru.intC fun _ => ?_) | ((with_reducible show Ru _ _ (eval (Expr.Constant Const.none _ _) _) _ _); refine Ru.noneC ?_) | ((with_reducible show Ru _ _ (eval (Expr.UnaryOp UnaryOp.USub (Expr.Constant _ _ _) _) _) _ _); refine Ru.negC fun _ => ?_) | ((with_reducible show Ru _ _ (eval (Expr.Subscript _ _ _) _) _ _); refine Ru.sub ?_) | ((with_reducible show Ru _ _ (eval (Expr.BinOp _ _ _ _) _) _ _); refine Ru.bin ?_) | ((with_reducible show Ru _ _ (eval (Expr.IfExp _ _ _ _) _) _ _); refine Ru.ifE ?_) | ((with_reducible show Ru _ _ (isTrue (Expr.Compare _ _ _ _) _ _) _ _); refine Ru.test ?_) | ((with_reducible show Ru _ _ (execs (_ :: _) _) _ _); refine Ru.cons ?_) | ((with_reducible show Ru _ _ (execs [] _) _ _); refine Ru.nil ?_) | ((with_reducible show Ru _ _ (exec (Stmt.If _ _ _ _) _) _ _); refine Ru.ifS ?_) | ((with_reducible show Ru _ _ (exec (Stmt.Assign _ _ _) _) _ _); refine Ru.asg ?_) | ((with_reducible show Ru _ _ (exec (Stmt.Expr _ _) _) _ _); refine Ru.exprA ?_) | ((with_reducible show Ru _ _ (spliced (backTo _ (starEach (_ :: _) _))) _ _); refine Ru.spc ?_) | ((with_reducible show Ru _ _ (spliced (backTo _ (starEach [] _))) _ _); refine Ru.spn ?_) | ((with_reducible show Ru _ _ (valueOrNone (evalOpt none _)) _ _); refine Ru.partN ?_) | ((with_reducible show Ru _ _ (valueOrNone (evalOpt (some _) _)) _ _); refine Ru.partE ?_) | ((with_reducible show Ru _ _ (eval (Expr.Slice _ _ _ _) _) _ _); refine Ru.slc ?_) | ((with_reducible show Ru _ _ (exec (Stmt.Return _ _) _) _ _); refine Ru.ret ?_))
      refine Ru.lst0 fun h₉ le x₉ g₉ f₉ => ?_
      have n₉ := g₉.ns n₈ List.not_mem_nil
      refine Ru.nePts (x₈.gr0 g₉) x₉ (by omega) ⟨_, rfl, ?_⟩
      by_cases hne : (half (srt ps)).dropLast ++ (half (srt ps).reverse).dropLast = []
      · rw [if_neg (by simpa using hne)]
        repeat (first | ((with_reducible show Ru _ _ (eval (Expr.Name _ _) _) _ _); refine Ru.name (by assumption) (by first | assumption | rfl) ?_) | ((with_reducible show Ru _ _ (eval (Expr.Constant (Const.int _) _ _) _) _ _); refine Ru.intC fun _ => ?_) | ((with_reducible show Ru _ _ (eval (Expr.Constant Const.none _ _) _) _ _); refine Ru.noneC ?_) | ((with_reducible show Ru _ _ (eval (Expr.UnaryOp UnaryOp.USub (Expr.Constant _ _ _) _) _) _ _); refine Ru.negC fun _ => ?_) | ((with_reducible show Ru _ _ (eval (Expr.Subscript _ _ _) _) _ _); refine Ru.sub ?_) | ((with_reducible show Ru _ _ (eval (Expr.BinOp _ _ _ _) _) _ _); refine Ru.bin ?_) | ((with_reducible show Ru _ _ (eval (Expr.IfExp _ _ _ _) _) _ _); refine Ru.ifE ?_) | ((with_reducible show Ru _ _ (isTrue (Expr.Compare _ _ _ _) _ _) _ _); refine Ru.test ?_) | ((with_reducible show Ru _ _ (execs (_ :: _) _) _ _); refine Ru.cons ?_) | ((with_reducible show Ru _ _ (execs [] _) _ _); refine Ru.nil ?_) | ((with_reducible show Ru _ _ (exec (Stmt.If _ _ _ _) _) _ _); refine Ru.ifS ?_) | ((with_reducible show Ru _ _ (exec (Stmt.Assign _ _ _) _) _ _); refine Ru.asg ?_) | ((with_reducible show Ru _ _ (exec (Stmt.Expr _ _) _) _ _); refine Ru.exprA ?_) | ((with_reducible show Ru _ _ (spliced (backTo _ (starEach (_ :: _) _))) _ _); refine Ru.spc ?_) | ((with_reducible show Ru _ _ (spliced (backTo _ (starEach [] _))) _ _); refine Ru.spn ?_) | ((with_reducible show Ru _ _ (valueOrNone (evalOpt none _)) _ _); refine Ru.partN ?_) | ((with_reducible show Ru _ _ (valueOrNone (evalOpt (some _) _)) _ _); refine Ru.partE ?_) | ((with_reducible show Ru _ _ (eval (Expr.Slice _ _ _ _) _) _ _); refine Ru.slc ?_) | ((with_reducible show Ru _ _ (exec (Stmt.Return _ _) _) _ _); refine Ru.ret ?_))
        intro hA sl hslc gA _
        refine Ru.cutP (((xo₈.gr0 g₉)).gr0 gA) (by omega) hslc .none (.int _ _) .none (by simp) cut_one fun hB a xB gB fB => ?_
        refine k hB a (((G₈.trans g₉).trans gA).trans gB) ?_ (((G₈.trans g₉).trans gA).gone fB)
        have : cor ps = (srt ps).take 1 := by
          unfold cor cornersOf
          simp only
          rw [if_neg (by simpa using hne)]
        rw [this]; exact xB
      · rw [if_pos (decide_eq_true hne)]
        repeat (first | ((with_reducible show Ru _ _ (eval (Expr.Name _ _) _) _ _); refine Ru.name (by assumption) (by first | assumption | rfl) ?_) | ((with_reducible show Ru _ _ (eval (Expr.Constant (Const.int _) _ _) _) _ _); refine Ru.intC fun _ => ?_) | ((with_reducible show Ru _ _ (eval (Expr.Constant Const.none _ _) _) _ _); refine Ru.noneC ?_) | ((with_reducible show Ru _ _ (eval (Expr.UnaryOp UnaryOp.USub (Expr.Constant _ _ _) _) _) _ _); refine Ru.negC fun _ => ?_) | ((with_reducible show Ru _ _ (eval (Expr.Subscript _ _ _) _) _ _); refine Ru.sub ?_) | ((with_reducible show Ru _ _ (eval (Expr.BinOp _ _ _ _) _) _ _); refine Ru.bin ?_) | ((with_reducible show Ru _ _ (eval (Expr.IfExp _ _ _ _) _) _ _); refine Ru.ifE ?_) | ((with_reducible show Ru _ _ (isTrue (Expr.Compare _ _ _ _) _ _) _ _); refine Ru.test ?_) | ((with_reducible show Ru _ _ (execs (_ :: _) _) _ _); refine Ru.cons ?_) | ((with_reducible show Ru _ _ (execs [] _) _ _); refine Ru.nil ?_) | ((with_reducible show Ru _ _ (exec (Stmt.If _ _ _ _) _) _ _); refine Ru.ifS ?_) | ((with_reducible show Ru _ _ (exec (Stmt.Assign _ _ _) _) _ _); refine Ru.asg ?_) | ((with_reducible show Ru _ _ (exec (Stmt.Expr _ _) _) _ _); refine Ru.exprA ?_) | ((with_reducible show Ru _ _ (spliced (backTo _ (starEach (_ :: _) _))) _ _); refine Ru.spc ?_) | ((with_reducible show Ru _ _ (spliced (backTo _ (starEach [] _))) _ _); refine Ru.spn ?_) | ((with_reducible show Ru _ _ (valueOrNone (evalOpt none _)) _ _); refine Ru.partN ?_) | ((with_reducible show Ru _ _ (valueOrNone (evalOpt (some _) _)) _ _); refine Ru.partE ?_) | ((with_reducible show Ru _ _ (eval (Expr.Slice _ _ _ _) _) _ _); refine Ru.slc ?_) | ((with_reducible show Ru _ _ (exec (Stmt.Return _ _) _) _ _); refine Ru.ret ?_))
        refine k h₉ lf (G₈.trans g₉) ?_ ?_
        · have : cor ps = (half (srt ps)).dropLast ++ (half (srt ps).reverse).dropLast := by
            unfold cor cornersOf
            simp only
            rw [if_pos hne]
          rw [this]; exact x₈.gr0 g₉
        · exact fl
end
end Mink

/-! MkO -/
namespace Mink
open PySem PySem.W PyProof.Rows PySem.Calls

/-- the corner ahead of the kth, and the kth -/
noncomputable def prv (ps : List Pt) (k : Nat) : Pt := ps.getD (if k = 0 then ps.length - 1 else k - 1) (0, 0)
noncomputable def cyc (ps : List Pt) : List (Pt × Pt) := (List.range ps.length).map fun k => (prv ps k, ps.getD k (0, 0))
noncomputable def area (ps : List Pt) : Int := ((cyc ps).map fun e => e.1.1 * e.2.2 - e.2.1 * e.1.2).sum
noncomputable def steps (ps : List Pt) : List Pt := (cyc ps).map fun e => (e.2.1 - e.1.1, e.2.2 - e.1.2)

section
variable {c : Cx} {A : Around} {h : Heap} {env : Env} {P : Value → Heap → Prop}
theorem Ru.withT {pos : Pos} {T : String} {e : Expr} {rest : List Expr} (r : Ru c A (spliced (backTo pos (starEach (e :: rest) env))) h fun vs h₁ => Ru c A (call (.type T) vs) h₁ P)
    (he : starEach (e :: rest) env = (false, eval e env) :: starEach rest env := by rfl) (hp : (backTo pos (starEach rest env)).any (·.1) = false := by rfl) : Ru c A (callWith pos (.type T) [] (backTo pos (starEach (e :: rest) env)) []) h P := by
  intro k E
  have r' := r k E
  rw [he] at r' ⊢
  refine PySem.callWith_type (by show (false || (backTo pos (starEach rest env)).any (·.1)) = false; rw [hp]; rfl) (evalArgs_plain (wpAny_mono r' (fun vs s' ⟨h', k', e, q⟩ => ?_) fun _ _ x => x))
  subst e
  exact q k' E
theorem Ru.prvP {value slice : Expr} {l : Addr} {ps : List Pt} {k : Nat} {u : Tok} (x : PtL h l ps) (hk : k < ps.length) (hz : ps.length ≤ 10000) (p : ∀ v, IsPt h v (prv ps k) → P v h)
    (hs : ∀ a, subscripted slice false (.ref a) (.int ((k : Int) - 1) u) = operate [.ref a, .int ((k : Int) - 1) u] (getItem (.ref a) (.int ((k : Int) - 1) u)) := by intro _; with_unfolding_all rfl) : Ru c A (subscriptTail value slice (.ref l) (.int ((k : Int) - 1) u)) h P := by
  by_cases h0 : k = 0
  · subst h0
    refine Ru.negP x (by decide) (by omega) (by decide) (q := prv ps 0) ?_ p hs
    have e : ((((0 : Nat) : Int) - 1) + ps.length).toNat = ps.length - 1 := by omega
    rw [e]
    simp [prv, List.getElem?_eq_getElem (show ps.length - 1 < ps.length by omega)]
  · refine Ru.atP x (by omega) (by omega) (q := prv ps k) ?_ p hs
    have e : ((k : Int) - 1).toNat = k - 1 := by omega
    rw [e]
    simp [prv, h0, List.getElem?_eq_getElem (show k - 1 < ps.length by omega)]
theorem Ru.curP {value slice : Expr} {l : Addr} {ps : List Pt} {k : Nat} {u : Tok} (x : PtL h l ps) (hk : k < ps.length) (hz : ps.length ≤ 10000) (p : ∀ v, IsPt h v (ps.getD k (0, 0)) → P v h)
    (hs : ∀ a, subscripted slice false (.ref a) (.int (k : Int) u) = operate [.ref a, .int (k : Int) u] (getItem (.ref a) (.int (k : Int) u)) := by intro _; with_unfolding_all rfl) : Ru c A (subscriptTail value slice (.ref l) (.int (k : Int) u)) h P :=
  Ru.atP x (by omega) (by omega) (q := ps.getD k (0, 0)) (by simp [List.getElem?_eq_getElem hk]) p hs
theorem prv_mem {ps : List Pt} {k : Nat} (hk : k < ps.length) : prv ps k ∈ ps := by
  unfold prv
  split <;> simp [List.getD, List.getElem?_eq_getElem (show ps.length - 1 < ps.length by omega), List.getElem?_eq_getElem (show k - 1 < ps.length by omega)]
theorem cur_mem {ps : List Pt} {k : Nat} (hk : k < ps.length) : ps.getD k (0, 0) ∈ ps := by simp [List.getD, List.getElem?_eq_getElem hk]

/-- pieces of a list, one by one -/
noncomputable def upto {α β : Type} (f : α → β) (l : List α) (i : Nat) : List β := (l.take i).map f
theorem upto_zero {α β : Type} (f : α → β) (l : List α) : upto f l 0 = [] := rfl
theorem upto_succ {α β : Type} (f : α → β) (l : List α) {i : Nat} {x : α} (h : l[i]? = some x) : upto f l (i + 1) = upto f l i ++ [f x] := by unfold upto; rw [List.take_add_one, h]; simp
theorem upto_all {α β : Type} (f : α → β) (l : List α) : upto f l l.length = l.map f := by simp [upto]
theorem range_at {n i : Nat} (h : i < n) : (List.range n)[i]? = some i := by simp [h]
end

/-- an int -/
noncomputable def IsI (_ : Heap) (v : Value) (n : Int) : Prop := ∃ t, v = .int n t
theorem ints_are {h : Heap} {vs : List Value} {ns : List Int} (x : All2 (IsI h) vs ns) : IntsAre vs ns := by
  induction x with
  | nil => exact .nil
  | cons a _ ih => obtain ⟨t, rfl⟩ := a; exact .cons _ _ ih

theorem IsI.stable (X : List Addr) (h h' : Heap) (w : Value) (b : Int) (_ : Gr X h h') (x : IsI h w b) : IsI h' w b := x
theorem IsPt.stable (X : List Addr) (h h' : Heap) (w : Value) (b : Pt) (g : Gr X h h') (x : IsPt h w b) : IsPt h' w b := g.pt x
theorem cyc_len (ps : List Pt) : (cyc ps).length = ps.length := by simp [cyc]
theorem cyc_at {ps : List Pt} {k : Nat} (h : k < ps.length) : (cyc ps)[k]? = some (prv ps k, ps.getD k (0, 0)) := by simp [cyc, h]

section
variable {c : Cx} {A : Around} {h hT : Heap} {mg mb : Str → Option Value}


theorem spec_area {f : Addr} (W : World' hT mg mb) (F : FnH hT mg 9 "_law_area" f) (rm : Rm 1 A) (U : Gr [] hT h) {lp : Addr} {ps : List Pt} (x : PtL h lp ps) (hz : ps.length ≤ 1000) (bp : ∀ p ∈ ps, Bd p)
    {P : Value → Heap → Prop} (k : ∀ h' t, Gr [] h h' → P (.int (area ps) t) h') : Ru c A (call (.ref f) [.ref lp]) h P := by
  obtain ⟨o, doc, pm, an, cdv, ct, ho, hd, hcd⟩ := F.obj
  have hml := W.none "len" (by simp)
  have hms := W.none "sum" (by simp)
  have hmr := W.none "range" (by simp)
  refine Ru.callC (binds := [("corners", .ref lp)]) (body := bodyOf 9) rm.room (U.keeps _ _ ho) hd (W.T.lim.keeps U.keeps) (hcd.keeps U.keeps) rfl rfl rfl (by intro x hx; simp at hx; subst hx; right; exact ⟨rfl, rfl⟩) fun h₁ n₁ g₁ cells => ?_
  obtain ⟨cl, clt⟩ := cells "corners" (h.objs.size + 1) rfl
  obtain ⟨L, hL⟩ : ∃ L, L = h.objs.size := ⟨_, rfl⟩
  have fL : h.get? L = none := hL ▸ fresh_size _
  have fC : h.get? (L + 1) = none := hL ▸ Heap.get?_none_of_le (Nat.le_succ _)
  rw [← hL] at n₁ cl ⊢
  show Ru c (A.deeper (env8C 9 "_law_area" L f cdv)) (execs (bodyOf 9) (env8C 9 "_law_area" L f cdv)) _ _
  have rm := rm.deep (env8C 9 "_law_area" L f cdv)
  generalize A.deeper (env8C 9 "_law_area" L f cdv) = A' at rm ⊢
  have U₁ := U.trans g₁
  have x₁ := x.gr0 g₁
  show Ru c _ (execs (_ :: _) _) _ _
  have cl : h₁.IsCell (L + 1) (some (.ref lp)) := cl
  have hlen : (ps.length : Int) ≤ 1000 := by omega
  repeat (first | ((with_reducible show Ru _ _ (eval (Expr.Name _ _) _) _ _); first | refine Ru.name (by assumption) (by first | assumption | rfl) ?_ | refine Ru.celln (by assumption) rfl ?_) | ((with_reducible show Ru _ _ (eval (Expr.Constant (Const.int _) _ _) _) _ _); refine Ru.intC fun _ => ?_) | ((with_reducible show Ru _ _ (eval (Expr.Subscript _ _ _) _) _ _); refine Ru.sub ?_) | ((with_reducible show Ru _ _ (subscriptTail _ _ _ (Value.int ((_ : Int) - 1) _)) _ _); refine Ru.prvP (by assumption) (by assumption) (by assumption) fun _ _ => ?_) | ((with_reducible show Ru _ _ (subscriptTail _ _ _ (Value.int (Nat.cast _) _)) _ _); refine Ru.curP (by assumption) (by assumption) (by assumption) fun _ _ => ?_) | ((with_reducible show Ru _ _ (subscriptTail _ _ _ (Value.int 0 _)) _ _); refine Ru.pt0 (by assumption) fun _ => ?_) | ((with_reducible show Ru _ _ (subscriptTail _ _ _ (Value.int 1 _)) _ _); refine Ru.pt1 (by assumption) fun _ => ?_) | ((with_reducible show Ru _ _ (eval (Expr.BinOp _ _ _ _) _) _ _); refine Ru.bin ?_) | ((with_reducible show Ru _ _ (binaryOp Operator.Sub (Value.int _ _) (Value.int _ _)) _ _); refine Ru.sb fun _ => ?_) | ((with_reducible show Ru _ _ (execs (_ :: _) _) _ _); refine Ru.cons ?_) | ((with_reducible show Ru _ _ (execs [] _) _ _); refine Ru.nil ?_) | ((with_reducible show Ru _ _ (exec (Stmt.Assign _ _ _) _) _ _); refine Ru.asg ?_) | ((with_reducible show Ru _ _ (spliced (backTo _ (starEach (_ :: _) _))) _ _); refine Ru.spc ?_) | ((with_reducible show Ru _ _ (spliced (backTo _ (starEach [] _))) _ _); refine Ru.spn ?_) | ((with_reducible show Ru _ _ (exec (Stmt.Return _ _) _) _ _); refine Ru.ret ?_))
  refine Ru.callN (Ru.blt (W.T.g.keeps U₁.keeps) hml (W.T.b.keeps U₁.keeps) W.len ?_)
  refine Ru.withB ?_
  repeat (first | ((with_reducible show Ru _ _ (eval (Expr.Name _ _) _) _ _); first | refine Ru.name (by assumption) (by first | assumption | rfl) ?_ | refine Ru.celln (by assumption) rfl ?_) | ((with_reducible show Ru _ _ (eval (Expr.Constant (Const.int _) _ _) _) _ _); refine Ru.intC fun _ => ?_) | ((with_reducible show Ru _ _ (eval (Expr.Subscript _ _ _) _) _ _); refine Ru.sub ?_) | ((with_reducible show Ru _ _ (subscriptTail _ _ _ (Value.int ((_ : Int) - 1) _)) _ _); refine Ru.prvP (by assumption) (by assumption) (by assumption) fun _ _ => ?_) | ((with_reducible show Ru _ _ (subscriptTail _ _ _ (Value.int (Nat.cast _) _)) _ _); refine Ru.curP (by assumption) (by assumption) (by assumption) fun _ _ => ?_) | ((with_reducible show Ru _ _ (subscriptTail _ _ _ (Value.int 0 _)) _ _); refine Ru.pt0 (by assumption) fun _ => ?_) | ((with_reducible show Ru _ _ (subscriptTail _ _ _ (Value.int 1 _)) _ _); refine Ru.pt1 (by assumption) fun _ => ?_) | ((with_reducible show Ru _ _ (eval (Expr.BinOp _ _ _ _) _) _ _); refine Ru.bin ?_) | ((with_reducible show Ru _ _ (binaryOp Operator.Sub (Value.int _ _) (Value.int _ _)) _ _); refine Ru.sb fun _ => ?_) | ((with_reducible show Ru _ _ (execs (_ :: _) _) _ _); refine Ru.cons ?_) | ((with_reducible show Ru _ _ (execs [] _) _ _); refine Ru.nil ?_) | ((with_reducible show Ru _ _ (exec (Stmt.Assign _ _ _) _) _ _); refine Ru.asg ?_) | ((with_reducible show Ru _ _ (spliced (backTo _ (starEach (_ :: _) _))) _ _); refine Ru.spc ?_) | ((with_reducible show Ru _ _ (spliced (backTo _ (starEach [] _))) _ _); refine Ru.spn ?_) | ((with_reducible show Ru _ _ (exec (Stmt.Return _ _) _) _ _); refine Ru.ret ?_))
  refine Ru.lenP x₁ (by omega) fun u => ?_
  refine Ru.store n₁ fun h₂ n₂ g₂ => ?_
  have g₂ : Gr [L] h₁ h₂ := g₂
  have cl := g₂.cell cl (notIn_one (Nat.succ_ne_self L))
  have G₂ : Gr [] h h₂ := g₁.past g₂ (not1' fL)
  have U₂ := U.trans G₂
  repeat (first | ((with_reducible show Ru _ _ (eval (Expr.Name _ _) _) _ _); first | refine Ru.name (by assumption) (by first | assumption | rfl) ?_ | refine Ru.celln (by assumption) rfl ?_) | ((with_reducible show Ru _ _ (eval (Expr.Constant (Const.int _) _ _) _) _ _); refine Ru.intC fun _ => ?_) | ((with_reducible show Ru _ _ (eval (Expr.Subscript _ _ _) _) _ _); refine Ru.sub ?_) | ((with_reducible show Ru _ _ (subscriptTail _ _ _ (Value.int ((_ : Int) - 1) _)) _ _); refine Ru.prvP (by assumption) (by assumption) (by assumption) fun _ _ => ?_) | ((with_reducible show Ru _ _ (subscriptTail _ _ _ (Value.int (Nat.cast _) _)) _ _); refine Ru.curP (by assumption) (by assumption) (by assumption) fun _ _ => ?_) | ((with_reducible show Ru _ _ (subscriptTail _ _ _ (Value.int 0 _)) _ _); refine Ru.pt0 (by assumption) fun _ => ?_) | ((with_reducible show Ru _ _ (subscriptTail _ _ _ (Value.int 1 _)) _ _); refine Ru.pt1 (by assumption) fun _ => ?_) | ((with_reducible show Ru _ _ (eval (Expr.BinOp _ _ _ _) _) _ _); refine Ru.bin ?_) | ((with_reducible show Ru _ _ (binaryOp Operator.Sub (Value.int _ _) (Value.int _ _)) _ _); refine Ru.sb fun _ => ?_) | ((with_reducible show Ru _ _ (execs (_ :: _) _) _ _); refine Ru.cons ?_) | ((with_reducible show Ru _ _ (execs [] _) _ _); refine Ru.nil ?_) | ((with_reducible show Ru _ _ (exec (Stmt.Assign _ _ _) _) _ _); refine Ru.asg ?_) | ((with_reducible show Ru _ _ (spliced (backTo _ (starEach (_ :: _) _))) _ _); refine Ru.spc ?_) | ((with_reducible show Ru _ _ (spliced (backTo _ (starEach [] _))) _ _); refine Ru.spn ?_) | ((with_reducible show Ru _ _ (exec (Stmt.Return _ _) _) _ _); refine Ru.ret ?_))
  refine Ru.callN (Ru.blt (W.T.g.keeps U₂.keeps) hms (W.T.b.keeps U₂.keeps) W.bsum ?_)
  refine Ru.withB ?_
  (first | ((with_reducible show Ru _ _ (eval (Expr.Name _ _) _) _ _); first | refine Ru.name (by assumption) (by first | assumption | rfl) ?_ | refine Ru.celln (by assumption) rfl ?_) | ((with_reducible show Ru _ _ (eval (Expr.Constant (Const.int _) _ _) _) _ _); refine Ru.intC fun _ => ?_) | ((with_reducible show Ru _ _ (eval (Expr.Subscript _ _ _) _) _ _); refine Ru.sub ?_) | ((with_reducible show Ru _ _ (subscriptTail _ _ _ (Value.int ((_ : Int) - 1) _)) _ _); refine Ru.prvP (by assumption) (by assumption) (by assumption) fun _ _ => ?_) | ((with_reducible show Ru _ _ (subscriptTail _ _ _ (Value.int (Nat.cast _) _)) _ _); refine Ru.curP (by assumption) (by assumption) (by assumption) fun _ _ => ?_) | ((with_reducible show Ru _ _ (subscriptTail _ _ _ (Value.int 0 _)) _ _); refine Ru.pt0 (by assumption) fun _ => ?_) | ((with_reducible show Ru _ _ (subscriptTail _ _ _ (Value.int 1 _)) _ _); refine Ru.pt1 (by assumption) fun _ => ?_) | ((with_reducible show Ru _ _ (eval (Expr.BinOp _ _ _ _) _) _ _); refine Ru.bin ?_) | ((with_reducible show Ru _ _ (binaryOp Operator.Sub (Value.int _ _) (Value.int _ _)) _ _); refine Ru.sb fun _ => ?_) | ((with_reducible show Ru _ _ (execs (_ :: _) _) _ _); refine Ru.cons ?_) | ((with_reducible show Ru _ _ (execs [] _) _ _); refine Ru.nil ?_) | ((with_reducible show Ru _ _ (exec (Stmt.Assign _ _ _) _) _ _); refine Ru.asg ?_) | ((with_reducible show Ru _ _ (spliced (backTo _ (starEach (_ :: _) _))) _ _); refine Ru.spc ?_) | ((with_reducible show Ru _ _ (spliced (backTo _ (starEach [] _))) _ _); refine Ru.spn ?_) | ((with_reducible show Ru _ _ (exec (Stmt.Return _ _) _) _ _); refine Ru.ret ?_))
  refine Ru.compG IsI IsI.stable (upto (fun e : Pt × Pt => e.1.1 * e.2.2 - e.2.1 * e.1.2) (cyc ps)) rfl (cl := [("corners", L + 1)]) rfl ?_
  refine Ru.callN (Ru.blt (W.T.g.keeps U₂.keeps) hmr (W.T.b.keeps U₂.keeps) W.range ?_)
  refine Ru.withT ?_
  repeat (first | ((with_reducible show Ru _ _ (eval (Expr.Name _ _) _) _ _); first | refine Ru.name (by assumption) (by first | assumption | rfl) ?_ | refine Ru.celln (by assumption) rfl ?_) | ((with_reducible show Ru _ _ (eval (Expr.Constant (Const.int _) _ _) _) _ _); refine Ru.intC fun _ => ?_) | ((with_reducible show Ru _ _ (eval (Expr.Subscript _ _ _) _) _ _); refine Ru.sub ?_) | ((with_reducible show Ru _ _ (subscriptTail _ _ _ (Value.int ((_ : Int) - 1) _)) _ _); refine Ru.prvP (by assumption) (by assumption) (by assumption) fun _ _ => ?_) | ((with_reducible show Ru _ _ (subscriptTail _ _ _ (Value.int (Nat.cast _) _)) _ _); refine Ru.curP (by assumption) (by assumption) (by assumption) fun _ _ => ?_) | ((with_reducible show Ru _ _ (subscriptTail _ _ _ (Value.int 0 _)) _ _); refine Ru.pt0 (by assumption) fun _ => ?_) | ((with_reducible show Ru _ _ (subscriptTail _ _ _ (Value.int 1 _)) _ _); refine Ru.pt1 (by assumption) fun _ => ?_) | ((with_reducible show Ru _ _ (eval (Expr.BinOp _ _ _ _) _) _ _); refine Ru.bin ?_) | ((with_reducible show Ru _ _ (binaryOp Operator.Sub (Value.int _ _) (Value.int _ _)) _ _); refine Ru.sb fun _ => ?_) | ((with_reducible show Ru _ _ (execs (_ :: _) _) _ _); refine Ru.cons ?_) | ((with_reducible show Ru _ _ (execs [] _) _ _); refine Ru.nil ?_) | ((with_reducible show Ru _ _ (exec (Stmt.Assign _ _ _) _) _ _); refine Ru.asg ?_) | ((with_reducible show Ru _ _ (spliced (backTo _ (starEach (_ :: _) _))) _ _); refine Ru.spc ?_) | ((with_reducible show Ru _ _ (spliced (backTo _ (starEach [] _))) _ _); refine Ru.spn ?_) | ((with_reducible show Ru _ _ (exec (Stmt.Return _ _) _) _ _); refine Ru.ret ?_))
  refine Ru.range fun h₃ a t u v r g₃ f₃ => ?_
  refine Ru.iterR r (by omega) fun I h₄ fI it g₄ => ?_
  have G₃ := G₂.trans g₃
  refine ⟨I, ps.length, _, _, [I], rfl, Going.range rm.hh it hz, fI, g₄, ?_, ?_⟩
  · rintro C fC' i v h' m hi ⟨t, rfl⟩ n g
    have x' := x.gr0 (G₃.trans g)
    have cl' := (g₃.trans g).cell cl List.not_mem_nil
    refine Ru.aName (Ru.store n fun h₅ n₅ g₅ => ?_)
    have g₅ : Gr [C] h' h₅ := g₅
    have CC : C ≠ L + 1 := by
      obtain ⟨oc, hoc, _⟩ := (g₃.cell cl List.not_mem_nil)
      exact (ne_of_fresh hoc fC').symm
    have xC := x'.ne_ns n
    have x' := x'.gr g₅ (notIn_one xC)
    have cl' := g₅.cell cl' (notIn_one CC.symm)
    have hz' : ps.length ≤ 10000 := by omega
    refine Ru.tests0 ?_
    rw [if_pos rfl]
    have b1 := bp _ (prv_mem hi)
    have b2 := bp _ (cur_mem hi)
    unfold Bd at b1 b2
    repeat (first | ((with_reducible show Ru _ _ (eval (Expr.Name _ _) _) _ _); first | refine Ru.name (by assumption) (by first | assumption | rfl) ?_ | refine Ru.celln (by assumption) rfl ?_) | ((with_reducible show Ru _ _ (eval (Expr.Constant (Const.int _) _ _) _) _ _); refine Ru.intC fun _ => ?_) | ((with_reducible show Ru _ _ (eval (Expr.Subscript _ _ _) _) _ _); refine Ru.sub ?_) | ((with_reducible show Ru _ _ (subscriptTail _ _ _ (Value.int ((_ : Int) - 1) _)) _ _); refine Ru.prvP (by assumption) (by assumption) (by assumption) fun _ _ => ?_) | ((with_reducible show Ru _ _ (subscriptTail _ _ _ (Value.int (Nat.cast _) _)) _ _); refine Ru.curP (by assumption) (by assumption) (by assumption) fun _ _ => ?_) | ((with_reducible show Ru _ _ (subscriptTail _ _ _ (Value.int 0 _)) _ _); refine Ru.pt0 (by assumption) fun _ => ?_) | ((with_reducible show Ru _ _ (subscriptTail _ _ _ (Value.int 1 _)) _ _); refine Ru.pt1 (by assumption) fun _ => ?_) | ((with_reducible show Ru _ _ (eval (Expr.BinOp _ _ _ _) _) _ _); refine Ru.bin ?_) | ((with_reducible show Ru _ _ (binaryOp Operator.Sub (Value.int _ _) (Value.int _ _)) _ _); refine Ru.sb fun _ => ?_) | ((with_reducible show Ru _ _ (execs (_ :: _) _) _ _); refine Ru.cons ?_) | ((with_reducible show Ru _ _ (execs [] _) _ _); refine Ru.nil ?_) | ((with_reducible show Ru _ _ (exec (Stmt.Assign _ _ _) _) _ _); refine Ru.asg ?_) | ((with_reducible show Ru _ _ (spliced (backTo _ (starEach (_ :: _) _))) _ _); refine Ru.spc ?_) | ((with_reducible show Ru _ _ (spliced (backTo _ (starEach [] _))) _ _); refine Ru.spn ?_) | ((with_reducible show Ru _ _ (exec (Stmt.Return _ _) _) _ _); refine Ru.ret ?_))
    refine Ru.mul (fun _ => ?_) (mulOk (by omega) (by omega))
    repeat (first | ((with_reducible show Ru _ _ (eval (Expr.Name _ _) _) _ _); first | refine Ru.name (by assumption) (by first | assumption | rfl) ?_ | refine Ru.celln (by assumption) rfl ?_) | ((with_reducible show Ru _ _ (eval (Expr.Constant (Const.int _) _ _) _) _ _); refine Ru.intC fun _ => ?_) | ((with_reducible show Ru _ _ (eval (Expr.Subscript _ _ _) _) _ _); refine Ru.sub ?_) | ((with_reducible show Ru _ _ (subscriptTail _ _ _ (Value.int ((_ : Int) - 1) _)) _ _); refine Ru.prvP (by assumption) (by assumption) (by assumption) fun _ _ => ?_) | ((with_reducible show Ru _ _ (subscriptTail _ _ _ (Value.int (Nat.cast _) _)) _ _); refine Ru.curP (by assumption) (by assumption) (by assumption) fun _ _ => ?_) | ((with_reducible show Ru _ _ (subscriptTail _ _ _ (Value.int 0 _)) _ _); refine Ru.pt0 (by assumption) fun _ => ?_) | ((with_reducible show Ru _ _ (subscriptTail _ _ _ (Value.int 1 _)) _ _); refine Ru.pt1 (by assumption) fun _ => ?_) | ((with_reducible show Ru _ _ (eval (Expr.BinOp _ _ _ _) _) _ _); refine Ru.bin ?_) | ((with_reducible show Ru _ _ (binaryOp Operator.Sub (Value.int _ _) (Value.int _ _)) _ _); refine Ru.sb fun _ => ?_) | ((with_reducible show Ru _ _ (execs (_ :: _) _) _ _); refine Ru.cons ?_) | ((with_reducible show Ru _ _ (execs [] _) _ _); refine Ru.nil ?_) | ((with_reducible show Ru _ _ (exec (Stmt.Assign _ _ _) _) _ _); refine Ru.asg ?_) | ((with_reducible show Ru _ _ (spliced (backTo _ (starEach (_ :: _) _))) _ _); refine Ru.spc ?_) | ((with_reducible show Ru _ _ (spliced (backTo _ (starEach [] _))) _ _); refine Ru.spn ?_) | ((with_reducible show Ru _ _ (exec (Stmt.Return _ _) _) _ _); refine Ru.ret ?_))
    refine Ru.mul (fun _ => ?_) (mulOk (by omega) (by omega))
    repeat (first | ((with_reducible show Ru _ _ (eval (Expr.Name _ _) _) _ _); first | refine Ru.name (by assumption) (by first | assumption | rfl) ?_ | refine Ru.celln (by assumption) rfl ?_) | ((with_reducible show Ru _ _ (eval (Expr.Constant (Const.int _) _ _) _) _ _); refine Ru.intC fun _ => ?_) | ((with_reducible show Ru _ _ (eval (Expr.Subscript _ _ _) _) _ _); refine Ru.sub ?_) | ((with_reducible show Ru _ _ (subscriptTail _ _ _ (Value.int ((_ : Int) - 1) _)) _ _); refine Ru.prvP (by assumption) (by assumption) (by assumption) fun _ _ => ?_) | ((with_reducible show Ru _ _ (subscriptTail _ _ _ (Value.int (Nat.cast _) _)) _ _); refine Ru.curP (by assumption) (by assumption) (by assumption) fun _ _ => ?_) | ((with_reducible show Ru _ _ (subscriptTail _ _ _ (Value.int 0 _)) _ _); refine Ru.pt0 (by assumption) fun _ => ?_) | ((with_reducible show Ru _ _ (subscriptTail _ _ _ (Value.int 1 _)) _ _); refine Ru.pt1 (by assumption) fun _ => ?_) | ((with_reducible show Ru _ _ (eval (Expr.BinOp _ _ _ _) _) _ _); refine Ru.bin ?_) | ((with_reducible show Ru _ _ (binaryOp Operator.Sub (Value.int _ _) (Value.int _ _)) _ _); refine Ru.sb fun _ => ?_) | ((with_reducible show Ru _ _ (execs (_ :: _) _) _ _); refine Ru.cons ?_) | ((with_reducible show Ru _ _ (execs [] _) _ _); refine Ru.nil ?_) | ((with_reducible show Ru _ _ (exec (Stmt.Assign _ _ _) _) _ _); refine Ru.asg ?_) | ((with_reducible show Ru _ _ (spliced (backTo _ (starEach (_ :: _) _))) _ _); refine Ru.spc ?_) | ((with_reducible show Ru _ _ (spliced (backTo _ (starEach [] _))) _ _); refine Ru.spn ?_) | ((with_reducible show Ru _ _ (exec (Stmt.Return _ _) _) _ _); refine Ru.ret ?_))
    refine ⟨⟨_, n₅⟩, g₅, _, ⟨_, rfl⟩, upto_succ _ _ (cyc_at hi)⟩
  · rintro h' D ws n l a g fD
    rw [← cyc_len, upto_all] at a
    repeat (first | ((with_reducible show Ru _ _ (eval (Expr.Name _ _) _) _ _); first | refine Ru.name (by assumption) (by first | assumption | rfl) ?_ | refine Ru.celln (by assumption) rfl ?_) | ((with_reducible show Ru _ _ (eval (Expr.Constant (Const.int _) _ _) _) _ _); refine Ru.intC fun _ => ?_) | ((with_reducible show Ru _ _ (eval (Expr.Subscript _ _ _) _) _ _); refine Ru.sub ?_) | ((with_reducible show Ru _ _ (subscriptTail _ _ _ (Value.int ((_ : Int) - 1) _)) _ _); refine Ru.prvP (by assumption) (by assumption) (by assumption) fun _ _ => ?_) | ((with_reducible show Ru _ _ (subscriptTail _ _ _ (Value.int (Nat.cast _) _)) _ _); refine Ru.curP (by assumption) (by assumption) (by assumption) fun _ _ => ?_) | ((with_reducible show Ru _ _ (subscriptTail _ _ _ (Value.int 0 _)) _ _); refine Ru.pt0 (by assumption) fun _ => ?_) | ((with_reducible show Ru _ _ (subscriptTail _ _ _ (Value.int 1 _)) _ _); refine Ru.pt1 (by assumption) fun _ => ?_) | ((with_reducible show Ru _ _ (eval (Expr.BinOp _ _ _ _) _) _ _); refine Ru.bin ?_) | ((with_reducible show Ru _ _ (binaryOp Operator.Sub (Value.int _ _) (Value.int _ _)) _ _); refine Ru.sb fun _ => ?_) | ((with_reducible show Ru _ _ (execs (_ :: _) _) _ _); refine Ru.cons ?_) | ((with_reducible show Ru _ _ (execs [] _) _ _); refine Ru.nil ?_) | ((with_reducible show Ru _ _ (exec (Stmt.Assign _ _ _) _) _ _); refine Ru.asg ?_) | ((with_reducible show Ru _ _ (spliced (backTo _ (starEach (_ :: _) _))) _ _); refine Ru.spc ?_) | ((with_reducible show Ru _ _ (spliced (backTo _ (starEach [] _))) _ _); refine Ru.spn ?_) | ((with_reducible show Ru _ _ (exec (Stmt.Return _ _) _) _ _); refine Ru.ret ?_))
    refine Ru.sumL rm.hh l.isList (ints_are a) fun h₅ u g₅ => ?_
    exact k h₅ u ((G₃.trans g).trans g₅)

theorem spec_steps {f : Addr} (W : World' hT mg mb) (F : FnH hT mg 10 "_law_steps" f) (rm : Rm 1 A) (U : Gr [] hT h) {lp : Addr} {ps : List Pt} (x : PtL h lp ps) (hz : ps.length ≤ 1000)
    {P : Value → Heap → Prop} (k : ∀ h' a, Gr [] h h' → PtL h' a (steps ps) → h.get? a = none → P (.ref a) h') : Ru c A (call (.ref f) [.ref lp]) h P := by
  obtain ⟨o, doc, pm, an, cdv, ct, ho, hd, hcd⟩ := F.obj
  have hml := W.none "len" (by simp)
  have hmr := W.none "range" (by simp)
  refine Ru.callC (binds := [("corners", .ref lp)]) (body := bodyOf 10) rm.room (U.keeps _ _ ho) hd (W.T.lim.keeps U.keeps) (hcd.keeps U.keeps) rfl rfl rfl (by intro x hx; simp at hx; subst hx; right; exact ⟨rfl, rfl⟩) fun h₁ n₁ g₁ cells => ?_
  obtain ⟨cl, clt⟩ := cells "corners" (h.objs.size + 1) rfl
  obtain ⟨L, hL⟩ : ∃ L, L = h.objs.size := ⟨_, rfl⟩
  have fL : h.get? L = none := hL ▸ fresh_size _
  have fC : h.get? (L + 1) = none := hL ▸ Heap.get?_none_of_le (Nat.le_succ _)
  rw [← hL] at n₁ cl ⊢
  show Ru c (A.deeper (env8C 10 "_law_steps" L f cdv)) (execs (bodyOf 10) (env8C 10 "_law_steps" L f cdv)) _ _
  have rm := rm.deep (env8C 10 "_law_steps" L f cdv)
  generalize A.deeper (env8C 10 "_law_steps" L f cdv) = A' at rm ⊢
  have U₁ := U.trans g₁
  have x₁ := x.gr0 g₁
  show Ru c _ (execs (_ :: _) _) _ _
  have cl : h₁.IsCell (L + 1) (some (.ref lp)) := cl
  have hlen : (ps.length : Int) ≤ 1000 := by omega
  repeat (first | ((with_reducible show Ru _ _ (eval (Expr.Name _ _) _) _ _); first | refine Ru.name (by assumption) (by first | assumption | rfl) ?_ | refine Ru.celln (by assumption) rfl ?_) | ((with_reducible show Ru _ _ (eval (Expr.Constant (Const.int _) _ _) _) _ _); refine Ru.intC fun _ => ?_) | ((with_reducible show Ru _ _ (eval (Expr.Subscript _ _ _) _) _ _); refine Ru.sub ?_) | ((with_reducible show Ru _ _ (subscriptTail _ _ _ (Value.int ((_ : Int) - 1) _)) _ _); refine Ru.prvP (by assumption) (by assumption) (by assumption) fun _ _ => ?_) | ((with_reducible show Ru _ _ (subscriptTail _ _ _ (Value.int (Nat.cast _) _)) _ _); refine Ru.curP (by assumption) (by assumption) (by assumption) fun _ _ => ?_) | ((with_reducible show Ru _ _ (subscriptTail _ _ _ (Value.int 0 _)) _ _); refine Ru.pt0 (by assumption) fun _ => ?_) | ((with_reducible show Ru _ _ (subscriptTail _ _ _ (Value.int 1 _)) _ _); refine Ru.pt1 (by assumption) fun _ => ?_) | ((with_reducible show Ru _ _ (eval (Expr.BinOp _ _ _ _) _) _ _); refine Ru.bin ?_) | ((with_reducible show Ru _ _ (binaryOp Operator.Sub (Value.int _ _) (Value.int _ _)) _ _); refine Ru.sb fun _ => ?_) | ((with_reducible show Ru _ _ (execs (_ :: _) _) _ _); refine Ru.cons ?_) | ((with_reducible show Ru _ _ (execs [] _) _ _); refine Ru.nil ?_) | ((with_reducible show Ru _ _ (exec (Stmt.Assign _ _ _) _) _ _); refine Ru.asg ?_) | ((with_reducible show Ru _ _ (spliced (backTo _ (starEach (_ :: _) _))) _ _); refine Ru.spc ?_) | ((with_reducible show Ru _ _ (spliced (backTo _ (starEach [] _))) _ _); refine Ru.spn ?_) | ((with_reducible show Ru _ _ (exec (Stmt.Return _ _) _) _ _); refine Ru.ret ?_))
  refine Ru.callN (Ru.blt (W.T.g.keeps U₁.keeps) hml (W.T.b.keeps U₁.keeps) W.len ?_)
  refine Ru.withB ?_
  repeat (first | ((with_reducible show Ru _ _ (eval (Expr.Name _ _) _) _ _); first | refine Ru.name (by assumption) (by first | assumption | rfl) ?_ | refine Ru.celln (by assumption) rfl ?_) | ((with_reducible show Ru _ _ (eval (Expr.Constant (Const.int _) _ _) _) _ _); refine Ru.intC fun _ => ?_) | ((with_reducible show Ru _ _ (eval (Expr.Subscript _ _ _) _) _ _); refine Ru.sub ?_) | ((with_reducible show Ru _ _ (subscriptTail _ _ _ (Value.int ((_ : Int) - 1) _)) _ _); refine Ru.prvP (by assumption) (by assumption) (by assumption) fun _ _ => ?_) | ((with_reducible show Ru _ _ (subscriptTail _ _ _ (Value.int (Nat.cast _) _)) _ _); refine Ru.curP (by assumption) (by assumption) (by assumption) fun _ _ => ?_) | ((with_reducible show Ru _ _ (subscriptTail _ _ _ (Value.int 0 _)) _ _); refine Ru.pt0 (by assumption) fun _ => ?_) | ((with_reducible show Ru _ _ (subscriptTail _ _ _ (Value.int 1 _)) _ _); refine Ru.pt1 (by assumption) fun _ => ?_) | ((with_reducible show Ru _ _ (eval (Expr.BinOp _ _ _ _) _) _ _); refine Ru.bin ?_) | ((with_reducible show Ru _ _ (binaryOp Operator.Sub (Value.int _ _) (Value.int _ _)) _ _); refine Ru.sb fun _ => ?_) | ((with_reducible show Ru _ _ (execs (_ :: _) _) _ _); refine Ru.cons ?_) | ((with_reducible show Ru _ _ (execs [] _) _ _); refine Ru.nil ?_) | ((with_reducible show Ru _ _ (exec (Stmt.Assign _ _ _) _) _ _); refine Ru.asg ?_) | ((with_reducible show Ru _ _ (spliced (backTo _ (starEach (_ :: _) _))) _ _); refine Ru.spc ?_) | ((with_reducible show Ru _ _ (spliced (backTo _ (starEach [] _))) _ _); refine Ru.spn ?_) | ((with_reducible show Ru _ _ (exec (Stmt.Return _ _) _) _ _); refine Ru.ret ?_))
  refine Ru.lenP x₁ (by omega) fun u => ?_
  refine Ru.store n₁ fun h₂ n₂ g₂ => ?_
  have g₂ : Gr [L] h₁ h₂ := g₂
  have cl := g₂.cell cl (notIn_one (Nat.succ_ne_self L))
  have G₂ : Gr [] h h₂ := g₁.past g₂ (not1' fL)
  have U₂ := U.trans G₂
  repeat (first | ((with_reducible show Ru _ _ (eval (Expr.Name _ _) _) _ _); first | refine Ru.name (by assumption) (by first | assumption | rfl) ?_ | refine Ru.celln (by assumption) rfl ?_) | ((with_reducible show Ru _ _ (eval (Expr.Constant (Const.int _) _ _) _) _ _); refine Ru.intC fun _ => ?_) | ((with_reducible show Ru _ _ (eval (Expr.Subscript _ _ _) _) _ _); refine Ru.sub ?_) | ((with_reducible show Ru _ _ (subscriptTail _ _ _ (Value.int ((_ : Int) - 1) _)) _ _); refine Ru.prvP (by assumption) (by assumption) (by assumption) fun _ _ => ?_) | ((with_reducible show Ru _ _ (subscriptTail _ _ _ (Value.int (Nat.cast _) _)) _ _); refine Ru.curP (by assumption) (by assumption) (by assumption) fun _ _ => ?_) | ((with_reducible show Ru _ _ (subscriptTail _ _ _ (Value.int 0 _)) _ _); refine Ru.pt0 (by assumption) fun _ => ?_) | ((with_reducible show Ru _ _ (subscriptTail _ _ _ (Value.int 1 _)) _ _); refine Ru.pt1 (by assumption) fun _ => ?_) | ((with_reducible show Ru _ _ (eval (Expr.BinOp _ _ _ _) _) _ _); refine Ru.bin ?_) | ((with_reducible show Ru _ _ (binaryOp Operator.Sub (Value.int _ _) (Value.int _ _)) _ _); refine Ru.sb fun _ => ?_) | ((with_reducible show Ru _ _ (execs (_ :: _) _) _ _); refine Ru.cons ?_) | ((with_reducible show Ru _ _ (execs [] _) _ _); refine Ru.nil ?_) | ((with_reducible show Ru _ _ (exec (Stmt.Assign _ _ _) _) _ _); refine Ru.asg ?_) | ((with_reducible show Ru _ _ (spliced (backTo _ (starEach (_ :: _) _))) _ _); refine Ru.spc ?_) | ((with_reducible show Ru _ _ (spliced (backTo _ (starEach [] _))) _ _); refine Ru.spn ?_) | ((with_reducible show Ru _ _ (exec (Stmt.Return _ _) _) _ _); refine Ru.ret ?_))
  refine Ru.compG IsPt IsPt.stable (upto (fun e : Pt × Pt => (e.2.1 - e.1.1, e.2.2 - e.1.2)) (cyc ps)) rfl (cl := [("corners", L + 1)]) rfl ?_
  refine Ru.callN (Ru.blt (W.T.g.keeps U₂.keeps) hmr (W.T.b.keeps U₂.keeps) W.range ?_)
  refine Ru.withT ?_
  repeat (first | ((with_reducible show Ru _ _ (eval (Expr.Name _ _) _) _ _); first | refine Ru.name (by assumption) (by first | assumption | rfl) ?_ | refine Ru.celln (by assumption) rfl ?_) | ((with_reducible show Ru _ _ (eval (Expr.Constant (Const.int _) _ _) _) _ _); refine Ru.intC fun _ => ?_) | ((with_reducible show Ru _ _ (eval (Expr.Subscript _ _ _) _) _ _); refine Ru.sub ?_) | ((with_reducible show Ru _ _ (subscriptTail _ _ _ (Value.int ((_ : Int) - 1) _)) _ _); refine Ru.prvP (by assumption) (by assumption) (by assumption) fun _ _ => ?_) | ((with_reducible show Ru _ _ (subscriptTail _ _ _ (Value.int (Nat.cast _) _)) _ _); refine Ru.curP (by assumption) (by assumption) (by assumption) fun _ _ => ?_) | ((with_reducible show Ru _ _ (subscriptTail _ _ _ (Value.int 0 _)) _ _); refine Ru.pt0 (by assumption) fun _ => ?_) | ((with_reducible show Ru _ _ (subscriptTail _ _ _ (Value.int 1 _)) _ _); refine Ru.pt1 (by assumption) fun _ => ?_) | ((with_reducible show Ru _ _ (eval (Expr.BinOp _ _ _ _) _) _ _); refine Ru.bin ?_) | ((with_reducible show Ru _ _ (binaryOp Operator.Sub (Value.int _ _) (Value.int _ _)) _ _); refine Ru.sb fun _ => ?_) | ((with_reducible show Ru _ _ (execs (_ :: _) _) _ _); refine Ru.cons ?_) | ((with_reducible show Ru _ _ (execs [] _) _ _); refine Ru.nil ?_) | ((with_reducible show Ru _ _ (exec (Stmt.Assign _ _ _) _) _ _); refine Ru.asg ?_) | ((with_reducible show Ru _ _ (spliced (backTo _ (starEach (_ :: _) _))) _ _); refine Ru.spc ?_) | ((with_reducible show Ru _ _ (spliced (backTo _ (starEach [] _))) _ _); refine Ru.spn ?_) | ((with_reducible show Ru _ _ (exec (Stmt.Return _ _) _) _ _); refine Ru.ret ?_))
  refine Ru.range fun h₃ a t u v r g₃ f₃ => ?_
  refine Ru.iterR r (by omega) fun I h₄ fI it g₄ => ?_
  have G₃ := G₂.trans g₃
  refine ⟨I, ps.length, _, _, [I], rfl, Going.range rm.hh it hz, fI, g₄, ?_, ?_⟩
  · rintro C fC' i v h' m hi ⟨t, rfl⟩ n g
    have x' := x.gr0 (G₃.trans g)
    have cl' := (g₃.trans g).cell cl List.not_mem_nil
    refine Ru.aName (Ru.store n fun h₅ n₅ g₅ => ?_)
    have g₅ : Gr [C] h' h₅ := g₅
    have CC : C ≠ L + 1 := by
      obtain ⟨oc, hoc, _⟩ := (g₃.cell cl List.not_mem_nil)
      exact (ne_of_fresh hoc fC').symm
    have xC := x'.ne_ns n
    have x' := x'.gr g₅ (notIn_one xC)
    have cl' := g₅.cell cl' (notIn_one CC.symm)
    have hz' : ps.length ≤ 10000 := by omega
    refine Ru.tests0 ?_
    rw [if_pos rfl]
    refine Ru.tupE ?_
    repeat (first | ((with_reducible show Ru _ _ (eval (Expr.Name _ _) _) _ _); first | refine Ru.name (by assumption) (by first | assumption | rfl) ?_ | refine Ru.celln (by assumption) rfl ?_) | ((with_reducible show Ru _ _ (eval (Expr.Constant (Const.int _) _ _) _) _ _); refine Ru.intC fun _ => ?_) | ((with_reducible show Ru _ _ (eval (Expr.Subscript _ _ _) _) _ _); refine Ru.sub ?_) | ((with_reducible show Ru _ _ (subscriptTail _ _ _ (Value.int ((_ : Int) - 1) _)) _ _); refine Ru.prvP (by assumption) (by assumption) (by assumption) fun _ _ => ?_) | ((with_reducible show Ru _ _ (subscriptTail _ _ _ (Value.int (Nat.cast _) _)) _ _); refine Ru.curP (by assumption) (by assumption) (by assumption) fun _ _ => ?_) | ((with_reducible show Ru _ _ (subscriptTail _ _ _ (Value.int 0 _)) _ _); refine Ru.pt0 (by assumption) fun _ => ?_) | ((with_reducible show Ru _ _ (subscriptTail _ _ _ (Value.int 1 _)) _ _); refine Ru.pt1 (by assumption) fun _ => ?_) | ((with_reducible show Ru _ _ (eval (Expr.BinOp _ _ _ _) _) _ _); refine Ru.bin ?_) | ((with_reducible show Ru _ _ (binaryOp Operator.Sub (Value.int _ _) (Value.int _ _)) _ _); refine Ru.sb fun _ => ?_) | ((with_reducible show Ru _ _ (execs (_ :: _) _) _ _); refine Ru.cons ?_) | ((with_reducible show Ru _ _ (execs [] _) _ _); refine Ru.nil ?_) | ((with_reducible show Ru _ _ (exec (Stmt.Assign _ _ _) _) _ _); refine Ru.asg ?_) | ((with_reducible show Ru _ _ (spliced (backTo _ (starEach (_ :: _) _))) _ _); refine Ru.spc ?_) | ((with_reducible show Ru _ _ (spliced (backTo _ (starEach [] _))) _ _); refine Ru.spn ?_) | ((with_reducible show Ru _ _ (exec (Stmt.Return _ _) _) _ _); refine Ru.ret ?_))
    refine Ru.newT (show 2 ≤ sizeLine by decide) fun h₆ t₆ g₆ => ?_
    refine ⟨⟨_, g₆.ns n₅ List.not_mem_nil⟩, g₅.trans g₆.nil, _, ⟨_, _, _, rfl, t₆⟩, upto_succ _ _ (cyc_at hi)⟩
  · rintro h' D ws n l a g fD
    rw [← cyc_len, upto_all] at a
    exact k h' D (G₃.trans g) ⟨ws, n, l, a⟩ (G₃.gone fD)
end
end Mink

/-! MkP -/
namespace Mink
open PySem PySem.W PyProof.Rows PySem.Calls

/-- the pieces one after the other -/
noncomputable def cat {β : Type} (F : Nat → List β) : Nat → List β
  | 0 => []
  | n + 1 => cat F n ++ F n
theorem cat_len {β : Type} (F : Nat → List β) (k : Nat) (h : ∀ i, (F i).length ≤ k) : ∀ n, (cat F n).length ≤ k * n
  | 0 => Nat.zero_le _
  | n + 1 => by have := cat_len F k h n; have := h n; rw [cat, List.length_append, Nat.mul_add]; omega

section
variable {c : Cx} {A : Around} {h : Heap} {env : Env}
/-- a comprehension of two fors -/
theorem Ru.comp2 {β : Type} {elt t₁ i₁ t₂ i₂ : Expr} {scope : Scope} {pos : Pos} {cl : List (Str × Addr)} {P : Value → Heap → Prop} (R : Heap → Value → β → Prop) (stable : ∀ (X : List Addr) h h' w b, Gr X h h' → R h w b → R h' w b) (F : Nat → List β) (hF : ∀ i, (F i).length ≤ 1000)
    (hclos : closureFor scope env = Pure.pure cl)
    (r : Ru c A (eval i₁ env) h fun x h₁ => Ru c A (pyIter x) h₁ fun it h₂ => ∃ (I : Addr) (N : Nat) (V : Nat → Value → Prop) (st : Nat → Heap → Prop) (pr : List Addr), it = .ref I ∧ Going c A I N V st pr h₂ ∧ h₁.get? I = none ∧ Gr [] h₁ h₂ ∧
      (∀ C D, h₁.get? C = none → h₁.get? D = none → C ≠ D → ∀ i v h' m, i < N → V i v → h'.Ns C m → (∃ o, h'.get? D = some o) → Gr [] h₁ h' → Ru c A (assign t₁ (compEnvC scope cl C env) v) h' fun _ h₃ => Ru c A (eval i₂ (compEnvC scope cl C env)) h₃ fun x h₄ => Ru c A (pyIter x) h₄ fun it h₅ =>
        ∃ (I₂ : Addr) (V₂ : Nat → Value → Prop) (st₂ : Nat → Heap → Prop) (pr₂ : List Addr) (Km : (Str → Option Value) → Prop), it = .ref I₂ ∧ Going c A I₂ (F i).length V₂ st₂ pr₂ h₅ ∧ h'.get? I₂ = none ∧ C ∉ pr₂ ∧ D ∉ pr₂ ∧ Gr [C] h' h₅ ∧ (∃ m', h₅.Ns C m' ∧ Km m') ∧
          ∀ j w h₆ m', j < (F i).length → V₂ j w → h₆.Ns C m' → Km m' → Gr [] h₁ h₆ → Gr [C, D, I₂] h₅ h₆ → Ru c A (assign t₂ (compEnvC scope cl C env) w) h₆ fun _ h₇ => Ru c A (eval elt (compEnvC scope cl C env)) h₇ fun w h₈ => (∃ m', h₈.Ns C m' ∧ Km m') ∧ Gr [C] h₆ h₈ ∧ ∃ b, R h₈ w b ∧ (F i)[j]? = some b) ∧
      ∀ h' D ws n, IsL h' D (List.toArray ws) n → All2 (R h') ws (cat F N) → Gr [] h₁ h' → h₁.get? D = none → P (.ref D) h')
    (hcell : ∀ y ∈ scope.names, y.2 ≠ .cell := by decide) (hkind : scope.kind = .function := by rfl) (hnames : ∀ y ∈ scope.names, y.2 = .local → scope.names.lookup y.1 = some .local := by decide)
    (hs : ∀ x, foldedSetIterable i₁ env x = Pure.pure x := by intro _; rfl) (hs₂ : ∀ C x, foldedSetIterable i₂ (compEnvC scope cl C env) x = Pure.pure x := by intro _ _; rfl) : Ru c A (eval (.ListComp elt [⟨t₁, i₁, [], 0⟩, ⟨t₂, i₂, [], 0⟩] scope pos) env) h P := by
  refine Ru.comp hclos (r.mono fun x h₁ r => r.mono fun it h₂ hh => ?_) hcell hkind hnames hs
  obtain ⟨I, N, V, st, pr, e, S, fI, g₁₂, turn, fin⟩ := hh
  refine ⟨I, e, fun D C h₃ fD fC hDC g₃ hD hn => ?_⟩
  obtain ⟨oI, hoI⟩ := S.there _ _ S.now I S.mine
  have nope : ∀ y, h₂.get? y = none → y ∉ pr := fun y hy mp => by
    obtain ⟨o, ho⟩ := S.there _ _ S.now y mp
    rw [hy] at ho; cases ho
  have DI : D ≠ I := (ne_of_fresh hoI fD).symm
  have CI : C ≠ I := (ne_of_fresh hoI fC).symm
  have fD₁ := g₁₂.gone fD
  have fC₁ := g₁₂.gone fC
  have CD : C ≠ D := hDC.symm
  have st3 : st 0 h₃ := S.keep [] 0 h₂ h₃ S.now g₃ (by simp)
  have hsl : sizeLine = 16777216 := rfl
  refine ⟨fun Q q => S.src.self 0 h₃ Q st3 q, ?_⟩
  refine RuK.outer S.src (fun i h' => ∃ m ws n, h'.Ns C m ∧ IsL h' D (List.toArray ws) n ∧ All2 (R h') ws (cat F i) ∧ Gr [] h₁ h' ∧ st i h' ∧ i ≤ N)
    ⟨_, [], 0, hn, hD, .nil, g₁₂.trans g₃, st3, Nat.zero_le _⟩ ?_ ?_ ?_ (hs₂ C)
  · rintro i h' ⟨_, _, _, _, _, _, _, q, _⟩
    exact q
  · rintro i h' h'' v hi ⟨m, ws, n, nC, lD, a, G, _, hlen⟩ hv st' g
    have G' := G.past g (not1' fI)
    have nC' := g.ns nC (notIn_one CI)
    have lD' := g.ls lD (notIn_one DI)
    have a' := a.mono fun _ _ q => stable _ _ _ _ _ g q
    have wlen := a'.length
    have clen := cat_len F 1000 hF i
    have few := S.few
    refine (turn C D fC₁ fD₁ CD i v h'' m hi hv nC' ⟨_, lD'⟩ G').mono fun _ h₃ r => r.mono fun x h₄ r => r.mono fun it h₅ hh => ?_
    obtain ⟨I₂, V₂, st₂, pr₂, Km, e, S₂, fI₂, nC₂, nD₂, g5, ⟨m5, n5, k5⟩, turn₂⟩ := hh
    subst e
    have lD5 := g5.ls lD' (notIn_one hDC)
    obtain ⟨oI₂, hoI₂⟩ := S₂.there _ _ S₂.now I₂ S₂.mine
    have DI₂ : D ≠ I₂ := ne_of_fresh lD' fI₂
    have CI₂ : C ≠ I₂ := by obtain ⟨oC, _, _, hoC, _⟩ := nC'; exact ne_of_fresh hoC fI₂
    have fI₂' : h₁.get? I₂ = none := G'.gone fI₂
    have prI₂ : I₂ ∉ pr := fun mp => by
      obtain ⟨o, ho⟩ := S.there _ _ st' I₂ mp
      rw [fI₂] at ho; cases ho
    refine RuK.start rfl rfl rfl rfl rfl (fun Q q => S₂.src.self 0 h₅ Q S₂.now q) ?_
    refine RuK.last S₂.src (fun j h' => ∃ m ws n, h'.Ns C m ∧ Km m ∧ IsL h' D (List.toArray ws) n ∧ All2 (R h') ws (cat F i ++ (F i).take j) ∧ Gr [] h₁ h' ∧ st (i + 1) h' ∧ Gr [C, D, I₂] h₅ h' ∧ st₂ j h')
      ⟨m5, ws, n, n5, k5, lD5, by simpa using a'.mono fun _ _ q => stable _ _ _ _ _ g5 q, G'.past g5 (not1' fC₁), S.keep [C] _ _ _ st' g5 (by simpa using nope C fC), Gr.refl _ _, S₂.now⟩ ?_ ?_ ?_
    · rintro j h' ⟨_, _, _, _, _, _, _, _, _, _, q⟩
      exact q
    · rintro j h₆ h₇ w hj ⟨m, ws, n, nC, km, lD, a, G, s1, GG, _⟩ hw s2 g
      have G' := G.past g (not1' fI₂')
      have al := a.length
      have hFi := hF i
      refine (turn₂ j w h₇ m hj hw (g.ns nC (notIn_one CI₂)) km G' (GG.trans (g.mono (by simp)))).mono fun _ h₈ r => r.mono fun w h₉ hh => ?_
      obtain ⟨⟨m', n9, km'⟩, g9, b, hb, eb⟩ := hh
      have lD9 := g9.ls (g.ls lD (notIn_one DI₂)) (notIn_one hDC)
      refine Ru.appL lD9 (by simp at *; omega) fun hA n' lA gA => ?_
      refine ⟨m', ws ++ [w], n', gA.ns n9 (notIn_one CD), km', ?_, ?_, (G'.past g9 (not1' fC₁)).past gA (not1' fD₁), ?_, ((GG.trans (g.mono (by simp))).trans (g9.mono (by simp))).trans (gA.mono (by simp)), ?_⟩
      · have ee : (List.toArray ws).push w = (ws ++ [w]).toArray := by simp
        rw [← ee]; exact lA
      · rw [List.take_add_one, eb, ← List.append_assoc]
        refine All2.append ?_ (.one (stable _ _ _ _ _ gA hb))
        exact a.mono fun _ _ q => stable _ _ _ _ _ gA (stable _ _ _ _ _ g9 (stable _ _ _ _ _ g q))
      · exact S.keep [D] _ _ _ (S.keep [C] _ _ _ (S.keep [I₂] _ _ _ s1 g (by simpa using prI₂)) g9 (by simpa using nope C fC)) gA (by simpa using nope D fD)
      · exact S₂.keep [D] _ _ _ (S₂.keep [C] _ _ _ s2 g9 (by simpa using nC₂)) gA (by simpa using nD₂)
    · rintro h₆ h₇ ⟨m, ws, n, nC, km, lD, a, G, s1, _, _⟩ g
      refine ⟨m, ws, n, g.ns nC (notIn_one CI₂), g.ls lD (notIn_one DI₂), ?_, G.past g (not1' fI₂'), S.keep [I₂] _ _ _ s1 g (by simpa using prI₂), hi⟩
      rw [List.take_of_length_le (Nat.le_refl _)] at a
      exact a.mono fun _ _ q => stable _ _ _ _ _ g q
  · rintro h' h'' ⟨m, ws, n, nC, lD, a, G, _, hlen⟩ g
    refine ⟨m, g.ns nC (notIn_one CI), fun h₅ g₅ => fin h₅ D ws n (g₅.ls (g.ls lD (notIn_one DI)) (notIn_one hDC)) (a.mono fun _ _ q => stable _ _ _ _ _ g₅ (stable _ _ _ _ _ g q)) ((G.past g (not1' fI)).past g₅ (not1' fC₁)) fD₁⟩
end
end Mink

/-! MkQ -/
namespace Mink
open PySem PySem.W PyProof.Rows PySem.Calls

noncomputable def sums (one other : List Pt) : List Pt := one.flatMap fun p => other.map fun q => (p.1 + q.1, p.2 + q.2)
noncomputable def sumRow (one other : List Pt) (i : Nat) : List Pt := match one[i]? with
  | some p => other.map fun q => (p.1 + q.1, p.2 + q.2)
  | none => []
theorem cat_rows (one other : List Pt) : ∀ n, n ≤ one.length → cat (sumRow one other) n = sums (one.take n) other
  | 0, _ => rfl
  | n + 1, h => by
    have hn : one[n]? = some one[n] := List.getElem?_eq_getElem (by omega)
    rw [cat, cat_rows one other n (by omega), List.take_add_one, hn]
    unfold sumRow sums
    rw [hn]
    simp only [List.flatMap_append, Option.toList, List.flatMap_cons, List.flatMap_nil, List.append_nil]
theorem cat_sums (one other : List Pt) : cat (sumRow one other) one.length = sums one other := by rw [cat_rows _ _ _ (Nat.le_refl _), List.take_of_length_le (Nat.le_refl _)]
theorem sumRow_len (one other : List Pt) (i : Nat) : (sumRow one other i).length ≤ other.length := by unfold sumRow; split <;> simp
theorem sums_len (one other : List Pt) : (sums one other).length = one.length * other.length := by
  unfold sums
  induction one with
  | nil => simp
  | cons p ps ih => simp only [List.flatMap_cons, List.length_append, List.length_map, ih, List.length_cons, Nat.add_mul]; omega

section
variable {c : Cx} {A : Around} {h : Heap} {env : Env}
theorem Ru.aPair {x y : Str} {k : Nat} {p1 p2 pos : Pos} {v : Value} {p : Pt} {m : Str → Option Value} {P : Unit → Heap → Prop} (hh : A.handled = none) (n : h.Ns env.locals m) (hv : IsPt h v p)
    (r : ∀ h' t u, h'.Ns env.locals (fun z => if z = y then some (.int p.2 u) else if z = x then some (.int p.1 t) else m z) → Gr [env.locals] h h' → P () h')
    (hl : env.kindOf x = some .local := by rfl) (hl' : env.kindOf y = some .local := by rfl)
    (hp : (env.scope.kind == .class || (env.scope.kind == .module && env.locals != env.globals)) = false := by rfl) : Ru c A (assign (.Tuple [.Name x p1, .Name y p2] k pos) env v) h P := by
  obtain ⟨a, t, u, rfl, ht⟩ := hv
  refine Ru.aTup (xs := [.int p.1 t, .int p.2 u]) hh ht fun h₁ g₁ => ?_
  refine Ru.aCons (Ru.aName (Ru.store (g₁.ns n List.not_mem_nil) (fun h₂ n₂ g₂ => ?_) hl hp))
  refine Ru.aCons (Ru.aName (Ru.store n₂ (fun h₃ n₃ g₃ => ?_) hl' hp))
  exact Ru.aNil (r h₃ t u n₃ (g₁.nil.trans (g₂.trans g₃)))
end

section
variable {c : Cx} {A : Around} {h hT : Heap} {mg mb : Str → Option Value}


theorem spec_sum {f : Addr} (W : World' hT mg mb) (F : FnH hT mg 11 "_law_sum" f) (rm : Rm 5 A) (U : Gr [] hT h) {l₁ l₂ : Addr} {ps qs : List Pt} (x : PtL h l₁ ps) (y : PtL h l₂ qs) (h1 : ps.length ≤ 1000) (h2 : qs.length ≤ 1000) (hz : (sums ps qs).length < 64) (bp : ∀ p ∈ sums ps qs, Bd p)
    {P : Value → Heap → Prop} (k : ∀ h' a, Gr [] h h' → PtL h' a (cor (sums ps qs)) → h.get? a = none → P (.ref a) h') : Ru c A (call (.ref f) [.ref l₁, .ref l₂]) h P := by
  obtain ⟨o, doc, pm, an, cdv, ct, ho, hd, hcd⟩ := F.obj
  obtain ⟨fc, FC⟩ := W.corners
  obtain ⟨oc, _, _, _, _, _, hoc, hdc, _⟩ := FC.obj
  refine Ru.callC (binds := [("one", .ref l₁), ("other", .ref l₂)]) (body := bodyOf 11) rm.room (U.keeps _ _ ho) hd (W.T.lim.keeps U.keeps) (hcd.keeps U.keeps) rfl rfl rfl (by intro x hx; simp at hx; rcases hx with rfl | rfl; exact .inl rfl; exact .inr ⟨rfl, rfl⟩) fun h₁ n₁ g₁ cells => ?_
  obtain ⟨cl, clt⟩ := cells "other" (h.objs.size + 1) rfl
  obtain ⟨L, hL⟩ : ∃ L, L = h.objs.size := ⟨_, rfl⟩
  rw [← hL] at n₁ cl ⊢
  show Ru c (A.deeper (env8C 11 "_law_sum" L f cdv)) (execs (bodyOf 11) (env8C 11 "_law_sum" L f cdv)) _ _
  have rm := rm.deep (env8C 11 "_law_sum" L f cdv)
  generalize A.deeper (env8C 11 "_law_sum" L f cdv) = A' at rm ⊢
  have U₁ := U.trans g₁
  have x₁ := x.gr0 g₁
  have y₁ := y.gr0 g₁
  have cl : h₁.IsCell (L + 1) (some (.ref l₂)) := cl
  have n₁ : h₁.Ns L (fun z => if z = "one" then some (.ref l₁) else none) := n₁
  show Ru c _ (execs (_ :: _) _) _ _
  repeat (first | ((with_reducible show Ru _ _ (eval (Expr.Name _ _) _) _ _); first | refine Ru.name (by assumption) (by first | assumption | rfl) ?_ | refine Ru.celln (by assumption) rfl ?_) | ((with_reducible show Ru _ _ (eval (Expr.Constant (Const.int _) _ _) _) _ _); refine Ru.intC fun _ => ?_) | ((with_reducible show Ru _ _ (eval (Expr.Tuple _ _ _) _) _ _); refine Ru.tupE ?_) | ((with_reducible show Ru _ _ (eval (Expr.BinOp _ _ _ _) _) _ _); refine Ru.bin ?_) | ((with_reducible show Ru _ _ (binaryOp Operator.Add (Value.int _ _) (Value.int _ _)) _ _); refine Ru.add fun _ => ?_) | ((with_reducible show Ru _ _ (execs (_ :: _) _) _ _); refine Ru.cons ?_) | ((with_reducible show Ru _ _ (execs [] _) _ _); refine Ru.nil ?_) | ((with_reducible show Ru _ _ (spliced (backTo _ (starEach (_ :: _) _))) _ _); refine Ru.spc ?_) | ((with_reducible show Ru _ _ (spliced (backTo _ (starEach [] _))) _ _); refine Ru.spn ?_) | ((with_reducible show Ru _ _ (exec (Stmt.Return _ _) _) _ _); refine Ru.ret ?_))
  refine Ru.callN (Ru.glob (W.T.g.keeps U₁.keeps) FC.glob ?_)
  refine Ru.withF (o := oc) hdc ?_
  (first | ((with_reducible show Ru _ _ (eval (Expr.Name _ _) _) _ _); first | refine Ru.name (by assumption) (by first | assumption | rfl) ?_ | refine Ru.celln (by assumption) rfl ?_) | ((with_reducible show Ru _ _ (eval (Expr.Constant (Const.int _) _ _) _) _ _); refine Ru.intC fun _ => ?_) | ((with_reducible show Ru _ _ (eval (Expr.Tuple _ _ _) _) _ _); refine Ru.tupE ?_) | ((with_reducible show Ru _ _ (eval (Expr.BinOp _ _ _ _) _) _ _); refine Ru.bin ?_) | ((with_reducible show Ru _ _ (binaryOp Operator.Add (Value.int _ _) (Value.int _ _)) _ _); refine Ru.add fun _ => ?_) | ((with_reducible show Ru _ _ (execs (_ :: _) _) _ _); refine Ru.cons ?_) | ((with_reducible show Ru _ _ (execs [] _) _ _); refine Ru.nil ?_) | ((with_reducible show Ru _ _ (spliced (backTo _ (starEach (_ :: _) _))) _ _); refine Ru.spc ?_) | ((with_reducible show Ru _ _ (spliced (backTo _ (starEach [] _))) _ _); refine Ru.spn ?_) | ((with_reducible show Ru _ _ (exec (Stmt.Return _ _) _) _ _); refine Ru.ret ?_))
  refine Ru.comp2 IsPt IsPt.stable (sumRow ps qs) (fun i => by have := sumRow_len ps qs i; omega) (cl := [("other", L + 1)]) rfl ?_
  (first | ((with_reducible show Ru _ _ (eval (Expr.Name _ _) _) _ _); first | refine Ru.name (by assumption) (by first | assumption | rfl) ?_ | refine Ru.celln (by assumption) rfl ?_) | ((with_reducible show Ru _ _ (eval (Expr.Constant (Const.int _) _ _) _) _ _); refine Ru.intC fun _ => ?_) | ((with_reducible show Ru _ _ (eval (Expr.Tuple _ _ _) _) _ _); refine Ru.tupE ?_) | ((with_reducible show Ru _ _ (eval (Expr.BinOp _ _ _ _) _) _ _); refine Ru.bin ?_) | ((with_reducible show Ru _ _ (binaryOp Operator.Add (Value.int _ _) (Value.int _ _)) _ _); refine Ru.add fun _ => ?_) | ((with_reducible show Ru _ _ (execs (_ :: _) _) _ _); refine Ru.cons ?_) | ((with_reducible show Ru _ _ (execs [] _) _ _); refine Ru.nil ?_) | ((with_reducible show Ru _ _ (spliced (backTo _ (starEach (_ :: _) _))) _ _); refine Ru.spc ?_) | ((with_reducible show Ru _ _ (spliced (backTo _ (starEach [] _))) _ _); refine Ru.spn ?_) | ((with_reducible show Ru _ _ (exec (Stmt.Return _ _) _) _ _); refine Ru.ret ?_))
  obtain ⟨vs, nn, hl, hp⟩ := x₁
  obtain ⟨ws, nm, hm, hq⟩ := y₁
  have lv := hp.length
  have lw := hq.length
  refine Ru.iterL hl.isList fun I h₂ fI it g₂ => ?_
  have lI : l₁ ≠ I := ne_of_fresh hl fI
  refine ⟨I, _, _, _, _, rfl, Going.list rm.hh lI it (g₂.lst hl.isList List.not_mem_nil) (by simp; omega), fI, g₂, ?_, ?_⟩
  · intro C D fC fD CD i v h' m hi hv n ⟨oD, hoD⟩ G
    have hi : i < ps.length := by simp at hi; omega
    have hvv : vs[i]? = some v := by simpa using hv
    obtain ⟨p, ep, yp⟩ := hp.getL hvv
    have hrow : sumRow ps qs i = qs.map fun q => (p.1 + q.1, p.2 + q.2) := by unfold sumRow; rw [ep]
    refine Ru.aPair rm.hh n (G.pt yp) fun h₃ t u n₃ g₃ => ?_
    have g₃ : Gr [C] h' h₃ := g₃
    have CL : C ≠ L + 1 := by obtain ⟨oc, hoc, _⟩ := cl; exact (ne_of_fresh hoc fC).symm
    have cl₃ := g₃.cell (G.cell cl List.not_mem_nil) (notIn_one CL.symm)
    have G₃ := G.past g₃ (not1' fC)
    (first | ((with_reducible show Ru _ _ (eval (Expr.Name _ _) _) _ _); first | refine Ru.name (by assumption) (by first | assumption | rfl) ?_ | refine Ru.celln (by assumption) rfl ?_) | ((with_reducible show Ru _ _ (eval (Expr.Constant (Const.int _) _ _) _) _ _); refine Ru.intC fun _ => ?_) | ((with_reducible show Ru _ _ (eval (Expr.Tuple _ _ _) _) _ _); refine Ru.tupE ?_) | ((with_reducible show Ru _ _ (eval (Expr.BinOp _ _ _ _) _) _ _); refine Ru.bin ?_) | ((with_reducible show Ru _ _ (binaryOp Operator.Add (Value.int _ _) (Value.int _ _)) _ _); refine Ru.add fun _ => ?_) | ((with_reducible show Ru _ _ (execs (_ :: _) _) _ _); refine Ru.cons ?_) | ((with_reducible show Ru _ _ (execs [] _) _ _); refine Ru.nil ?_) | ((with_reducible show Ru _ _ (spliced (backTo _ (starEach (_ :: _) _))) _ _); refine Ru.spc ?_) | ((with_reducible show Ru _ _ (spliced (backTo _ (starEach [] _))) _ _); refine Ru.spn ?_) | ((with_reducible show Ru _ _ (exec (Stmt.Return _ _) _) _ _); refine Ru.ret ?_))
    refine Ru.iterL (G₃.lst hm.isList List.not_mem_nil) fun I₂ h₄ fI₂ it₂ g₄ => ?_
    have g₄' : Gr [C] h' h₄ := g₃.trans g₄.nil
    have lI₂ : l₂ ≠ I₂ := ne_of_fresh (G₃.ls hm List.not_mem_nil) fI₂
    obtain ⟨oC, _, _, hoC, _⟩ := id n₃
    have CI₂ : C ≠ I₂ := ne_of_fresh hoC fI₂
    have hsz : (sumRow ps qs i).length = (List.toArray ws).size := by rw [hrow]; simp [lw]
    rw [hsz]
    have DI₂ : D ≠ I₂ := ne_of_fresh (g₃ D oD hoD (.inl (notIn_one CD.symm))) fI₂
    have Cl : C ≠ l₂ := (ne_of_fresh hm fC).symm
    have Dl : D ≠ l₂ := (ne_of_fresh hm fD).symm
    refine ⟨I₂, _, _, [I₂, l₂], fun m => (∃ t, m "a" = some (.int p.1 t)) ∧ ∃ u, m "b" = some (.int p.2 u), rfl, Going.list rm.hh lI₂ it₂ (g₄.lst (G₃.lst hm.isList List.not_mem_nil) (by simp)) (by simp; omega), g₃.goneX fI₂ (notIn_one CI₂.symm), by simp; exact ⟨CI₂, Cl⟩, by simp; exact ⟨DI₂, Dl⟩, g₄', ⟨_, g₄.ns n₃ List.not_mem_nil, ⟨t, rfl⟩, ⟨u, rfl⟩⟩, ?_⟩
    rintro j w h₆ m' hj hw n₆ ⟨⟨ta, ea⟩, ub, eb⟩ G₆ _
    have hj : j < qs.length := by simp at hj; omega
    have hww : ws[j]? = some w := by simpa using hw
    obtain ⟨q, eq, yq⟩ := hq.getL hww
    refine Ru.aPair rm.hh n₆ (G₆.pt yq) fun h₇ t' u' n₇ g₇ => ?_
    have g₇ : Gr [C] h₆ h₇ := g₇
    repeat (first | ((with_reducible show Ru _ _ (eval (Expr.Name _ _) _) _ _); first | refine Ru.name (by assumption) (by first | assumption | rfl) ?_ | refine Ru.celln (by assumption) rfl ?_) | ((with_reducible show Ru _ _ (eval (Expr.Constant (Const.int _) _ _) _) _ _); refine Ru.intC fun _ => ?_) | ((with_reducible show Ru _ _ (eval (Expr.Tuple _ _ _) _) _ _); refine Ru.tupE ?_) | ((with_reducible show Ru _ _ (eval (Expr.BinOp _ _ _ _) _) _ _); refine Ru.bin ?_) | ((with_reducible show Ru _ _ (binaryOp Operator.Add (Value.int _ _) (Value.int _ _)) _ _); refine Ru.add fun _ => ?_) | ((with_reducible show Ru _ _ (execs (_ :: _) _) _ _); refine Ru.cons ?_) | ((with_reducible show Ru _ _ (execs [] _) _ _); refine Ru.nil ?_) | ((with_reducible show Ru _ _ (spliced (backTo _ (starEach (_ :: _) _))) _ _); refine Ru.spc ?_) | ((with_reducible show Ru _ _ (spliced (backTo _ (starEach [] _))) _ _); refine Ru.spn ?_) | ((with_reducible show Ru _ _ (exec (Stmt.Return _ _) _) _ _); refine Ru.ret ?_))
    refine Ru.newT (show 2 ≤ sizeLine by decide) fun h₈ t₈ g₈ => ?_
    refine ⟨⟨_, g₈.ns n₇ List.not_mem_nil, ⟨ta, ea⟩, ub, eb⟩, g₇.trans g₈.nil, (p.1 + q.1, p.2 + q.2), ⟨_, _, _, rfl, t₈⟩, ?_⟩
    rw [hrow]
    simp [eq]
  · intro h' D us n hD a G fD
    have e : (List.toArray vs).size = ps.length := by simp [lv]
    rw [e, cat_sums] at a
    repeat (first | ((with_reducible show Ru _ _ (eval (Expr.Name _ _) _) _ _); first | refine Ru.name (by assumption) (by first | assumption | rfl) ?_ | refine Ru.celln (by assumption) rfl ?_) | ((with_reducible show Ru _ _ (eval (Expr.Constant (Const.int _) _ _) _) _ _); refine Ru.intC fun _ => ?_) | ((with_reducible show Ru _ _ (eval (Expr.Tuple _ _ _) _) _ _); refine Ru.tupE ?_) | ((with_reducible show Ru _ _ (eval (Expr.BinOp _ _ _ _) _) _ _); refine Ru.bin ?_) | ((with_reducible show Ru _ _ (binaryOp Operator.Add (Value.int _ _) (Value.int _ _)) _ _); refine Ru.add fun _ => ?_) | ((with_reducible show Ru _ _ (execs (_ :: _) _) _ _); refine Ru.cons ?_) | ((with_reducible show Ru _ _ (execs [] _) _ _); refine Ru.nil ?_) | ((with_reducible show Ru _ _ (spliced (backTo _ (starEach (_ :: _) _))) _ _); refine Ru.spc ?_) | ((with_reducible show Ru _ _ (spliced (backTo _ (starEach [] _))) _ _); refine Ru.spn ?_) | ((with_reducible show Ru _ _ (exec (Stmt.Return _ _) _) _ _); refine Ru.ret ?_))
    have U' := U₁.trans G
    refine ⟨U'.keeps _ _ hoc, ?_⟩
    refine spec_corners W FC rm U' ⟨us, n, hD, a⟩ hz bp fun h₅ a₅ g₅ x₅ f₅ => ?_
    exact k h₅ a₅ ((g₁.trans G).trans g₅) x₅ ((g₁.trans G).gone f₅)
end
end Mink

/-! MkR -/
namespace Mink
open PySem PySem.W PyProof.Rows PySem.Calls

/-- an empty dict -/
noncomputable def IsE (h : Heap) (d : Addr) : Prop := d ≠ sysModules ∧ h.get? d = some { cls := .type "dict", data := .dict #[] }
theorem IsE.gr {X : List Addr} {h h' : Heap} {d : Addr} (x : IsE h d) (g : Gr X h h') (n : d ∉ X) : IsE h' d := ⟨x.1, g _ _ x.2 (.inl n)⟩
theorem IsE.at (c : Cx) {h : Heap} {d : Addr} (x : IsE h d) : h.DictAt (strKind c.prog c.w) d [] 0 :=
  ⟨_, _, x.2, ⟨rfl, rfl, rfl⟩, rfl, by intro e he; simp at he, .nil, by simp⟩
theorem IsE.of (c : Cx) {h : Heap} {d : Addr} (x : IsE h d) : h.DictOf (strKind c.prog c.w) d [] :=
  ⟨_, _, _, x.2, ⟨rfl, rfl, rfl⟩, rfl, by intro e he; simp at he, .nil, by simp⟩

section
variable {c : Cx} {A : Around} {h : Heap} {env : Env}
theorem Ru.dict0 {pos : Pos} {P : Value → Heap → Prop} (lim : h.NoLimit) (p : ∀ h' d, IsE h' d → Gr [] h h' → h.get? d = none → P (.ref d) h') : Ru c A (eval (.Dict [] [] pos) env) h P :=
  fun k _ => wpAny_Dict_empty (good_at (c := c) (k' := k) (p _ _ ⟨Nat.ne_of_gt (modules_low lim), Heap.get?_push_size _ rfl⟩ (Gr.push _ _) (fresh_size _)))
theorem Ru.itemsE {d : Addr} {P : Value → Heap → Prop} (x : IsE h d) (p : ∀ h' v, h'.IsItemsView v d → Gr [] h h' → h.get? v = none → P (.ref v) h') : Ru c A (call (.builtin "dict.items") [.ref d]) h P :=
  fun k _ => call_meetsIn PySem.F.slot_dict_items (Heap.DictOf.typeIs (s := c.at h k) (x.of c)) PySem.F.entry_dict_items (PySem.F.args_dict_items_1 _) (meets_dict_items (strKind c.prog c.w) d (by simpa using x.1))
    ⟨⟨_, x.of c⟩, good_at (c := c) (k' := k) (p _ _ ⟨_, Heap.get?_push_size _ rfl, rfl, rfl⟩ (Gr.push _ _) (fresh_size _))⟩
/-- a for whose iterator has nothing -/
theorem Ru.for0 {target iter : Expr} {body : List Stmt} {pos : Pos} {P : Flow → Heap → Prop}
    (r : Ru c A (eval iter env) h fun x h₁ => Ru c A (pyIter x) h₁ fun it h₂ => ∃ I, it = .ref I ∧ Ru c A (pyNext it) h₂ fun v h₃ => v = none ∧ P .next h₃)
    (hs : ∀ x, foldedSetIterable iter env x = Pure.pure x := by intro _; rfl) : Ru c A (exec (.For target iter body [] pos) env) h P := by
  intro k E
  refine wpAny_For (r.into fun x h₁ k₁ q => q.into fun it h₂ k₂ ⟨I, e, q⟩ => ?_) hs
  subst e
  refine codeAny_loop' rfl (fun m s => ∃ k, s = c.at h₂ k) (fun m s ⟨k, e⟩ => ?_) 0 ⟨k₂, rfl⟩
  subst e
  show wpAny _ _ ((forTurn target (.ref I) body [] env).onRaise (fun x => do noteFrame x env; theTreesLotGoes x)) _ _ _
  refine wpAny_noted ?_
  simp only [forTurn]
  refine wpAny_bind (wpAny_standAt (wpAny_bind (wpAny_onRaise ?_)))
  refine q.into fun r h' k' ⟨e, g⟩ => ?_
  subst e
  exact wpAny_pure (.inr ⟨rfl, codeAny_block (wpAny_execs_nil (good_at (k' := k') g))⟩)
theorem Ru.iterE {v d : Addr} {P : Value → Heap → Prop} (hh : A.handled = none) (x : IsE h d) (y : h.IsItemsView v d) (p : ∀ h' I, Gr [] h h' → h.get? I = none → (∀ (Q : Option Value → Heap → Prop), (∀ h₃, Gr [I] h' h₃ → Q none h₃) → Ru c A (pyNext (.ref I)) h' Q) → P (.ref I) h') : Ru c A (pyIter (.ref v)) h P := by
  intro k E
  refine wpAny_pyIter_items (s := c.at h k) y (x.at c) (good_at (c := c) (k' := k) (p _ _ (Gr.push _ _) (fresh_size _) fun Q q k E => ?_))
  have it := Heap.get?_push_size h (o := { cls := .type "dict_itemiterator", data := .fields #[.none, .bool false, .ref d, .int 0 0, .int ([] : List (Str × Value)).length 0, .int (0 : Nat) 0, .none, .none] }) rfl
  have x' : IsE (h.push { cls := .type "dict_itemiterator", data := .fields #[.none, .bool false, .ref d, .int 0 0, .int ([] : List (Str × Value)).length 0, .int (0 : Nat) 0, .none, .none] }) d := x.gr (Gr.push (X := []) _ _) (by simp)
  exact wpAny_pyNext_items_end (s := c.at _ k) (knd := strKind c.prog c.w) (kvs := []) (i := 0) (ep := 0) hh it (x'.at c) rfl fun h₃ e => good_at (c := c) (k' := k) (q h₃ (Gr.ext e it fun ⟨e, _⟩ => by simp at e))
theorem Ru.asgT {elts : List Expr} {k : Nat} {tpos pos : Pos} {value : Expr} {P : Flow → Heap → Prop} (r : Ru c A (eval value env) h fun v h₁ => Ru c A (assign (.Tuple elts k tpos) env v) h₁ fun _ h₂ => P .next h₂)
    (hs : swapsWithSole [.Tuple elts k tpos] value pos.line env = pure false := by rfl) (hw : swappedStores [.Tuple elts k tpos] value env = pure none := by rfl) : Ru c A (exec (.Assign [.Tuple elts k tpos] value pos) env) h P :=
  fun _ _ => Assign_Tuple (r.into fun _ _ _ q => q.into fun _ _ k p => good_at (k' := k) p) hs hw
end

section
variable {c : Cx} {A : Around} {h hT : Heap} {mg mb : Str → Option Value}


theorem spec_addc {f : Addr} (W : World' hT mg mb) (F : FnH hT mg 5 "add_callers" f) (rm : Rm 1 A) (U : Gr [] hT h) {d₁ d₂ : Addr} (x : IsE h d₁) (y : IsE h d₂)
    {P : Value → Heap → Prop} (k : ∀ h' d, Gr [] h h' → IsE h' d → h.get? d = none → P (.ref d) h') : Ru c A (call (.ref f) [.ref d₁, .ref d₂]) h P := by
  obtain ⟨o, doc, pm, an, cdv, ct, ho, hd, hcd⟩ := F.obj
  refine Ru.callD (binds := [("target", .ref d₁), ("source", .ref d₂)]) (body := bodyOf 5) rm.room (U.keeps _ _ ho) hd (W.T.lim.keeps U.keeps) (hcd.keeps U.keeps) rfl (fun _ => BindsTo.of_eq rfl) (show ∀ x ∈ (scopeOf 5).names, x.2 ≠ .cell by decide) (locs rfl) fun h₁ n₁ g₁ => ?_
  obtain ⟨L, hL⟩ : ∃ L, L = h.objs.size := ⟨_, rfl⟩
  have fL : h.get? L = none := hL ▸ fresh_size _
  rw [← hL] at n₁ ⊢
  show Ru c (A.deeper (env8 5 "add_callers" L f cdv)) (execs (bodyOf 5) (env8 5 "add_callers" L f cdv)) _ _
  have rm := rm.deep (env8 5 "add_callers" L f cdv)
  generalize A.deeper (env8 5 "add_callers" L f cdv) = A' at rm ⊢
  have U₁ := U.trans g₁
  show Ru c _ (execs (_ :: _) _) _ _
  repeat (first | ((with_reducible show Ru _ _ (eval (Expr.Name _ _) _) _ _); first | refine Ru.name (by assumption) (by first | assumption | rfl) ?_ | refine Ru.celln (by assumption) rfl ?_) | ((with_reducible show Ru _ _ (eval (Expr.Tuple _ _ _) _) _ _); refine Ru.tupE ?_) | ((with_reducible show Ru _ _ (eval (Expr.BinOp _ _ _ _) _) _ _); refine Ru.bin ?_) | ((with_reducible show Ru _ _ (binaryOp Operator.Add (Value.int _ _) (Value.int _ _)) _ _); refine Ru.add fun _ => ?_) | ((with_reducible show Ru _ _ (execs (_ :: _) _) _ _); refine Ru.cons ?_) | ((with_reducible show Ru _ _ (execs [] _) _ _); refine Ru.nil ?_) | ((with_reducible show Ru _ _ (exec (Stmt.Assign [Expr.Name _ _] _ _) _) _ _); refine Ru.asg ?_) | ((with_reducible show Ru _ _ (spliced (backTo _ (starEach (_ :: _) _))) _ _); refine Ru.spc ?_) | ((with_reducible show Ru _ _ (spliced (backTo _ (starEach [] _))) _ _); refine Ru.spn ?_) | ((with_reducible show Ru _ _ (exec (Stmt.Return _ _) _) _ _); refine Ru.ret ?_))
  refine Ru.dict0 (W.T.lim.keeps U₁.keeps) fun h₂ d z₂ g₂ f₂ => ?_
  have n₂ := g₂.ns n₁ List.not_mem_nil
  have dL : d ≠ L := by
    obtain ⟨o, _, _, ho, _⟩ := n₁
    exact (ne_of_fresh ho f₂).symm
  have fd : h.get? d = none := g₁.gone f₂
  have d1L : d₁ ≠ L := ne_of_fresh x.2 fL
  have d2L : d₂ ≠ L := ne_of_fresh y.2 fL
  refine Ru.store n₂ fun h₃ n₃ g₃ => ?_
  have g₃ : Gr [L] h₂ h₃ := g₃
  have G₃ : Gr [] h h₃ := (g₁.trans g₂).past g₃ (not1' fL)
  have z₃ := z₂.gr g₃ (notIn_one dL)
  have x₃ := x.gr G₃ List.not_mem_nil
  have y₃ := y.gr G₃ List.not_mem_nil
  repeat (first | ((with_reducible show Ru _ _ (eval (Expr.Name _ _) _) _ _); first | refine Ru.name (by assumption) (by first | assumption | rfl) ?_ | refine Ru.celln (by assumption) rfl ?_) | ((with_reducible show Ru _ _ (eval (Expr.Tuple _ _ _) _) _ _); refine Ru.tupE ?_) | ((with_reducible show Ru _ _ (eval (Expr.BinOp _ _ _ _) _) _ _); refine Ru.bin ?_) | ((with_reducible show Ru _ _ (binaryOp Operator.Add (Value.int _ _) (Value.int _ _)) _ _); refine Ru.add fun _ => ?_) | ((with_reducible show Ru _ _ (execs (_ :: _) _) _ _); refine Ru.cons ?_) | ((with_reducible show Ru _ _ (execs [] _) _ _); refine Ru.nil ?_) | ((with_reducible show Ru _ _ (exec (Stmt.Assign [Expr.Name _ _] _ _) _) _ _); refine Ru.asg ?_) | ((with_reducible show Ru _ _ (spliced (backTo _ (starEach (_ :: _) _))) _ _); refine Ru.spc ?_) | ((with_reducible show Ru _ _ (spliced (backTo _ (starEach [] _))) _ _); refine Ru.spn ?_) | ((with_reducible show Ru _ _ (exec (Stmt.Return _ _) _) _ _); refine Ru.ret ?_))
  refine Ru.for0 ?_
  refine Ru.meth PySem.F.plainAttrs_dict PySem.F.slot_dict_items PySem.F.type_dict_items ?_
  (first | ((with_reducible show Ru _ _ (eval (Expr.Name _ _) _) _ _); first | refine Ru.name (by assumption) (by first | assumption | rfl) ?_ | refine Ru.celln (by assumption) rfl ?_) | ((with_reducible show Ru _ _ (eval (Expr.Tuple _ _ _) _) _ _); refine Ru.tupE ?_) | ((with_reducible show Ru _ _ (eval (Expr.BinOp _ _ _ _) _) _ _); refine Ru.bin ?_) | ((with_reducible show Ru _ _ (binaryOp Operator.Add (Value.int _ _) (Value.int _ _)) _ _); refine Ru.add fun _ => ?_) | ((with_reducible show Ru _ _ (execs (_ :: _) _) _ _); refine Ru.cons ?_) | ((with_reducible show Ru _ _ (execs [] _) _ _); refine Ru.nil ?_) | ((with_reducible show Ru _ _ (exec (Stmt.Assign [Expr.Name _ _] _ _) _) _ _); refine Ru.asg ?_) | ((with_reducible show Ru _ _ (spliced (backTo _ (starEach (_ :: _) _))) _ _); refine Ru.spc ?_) | ((with_reducible show Ru _ _ (spliced (backTo _ (starEach [] _))) _ _); refine Ru.spn ?_) | ((with_reducible show Ru _ _ (exec (Stmt.Return _ _) _) _ _); refine Ru.ret ?_))
  refine ⟨d₁, _, rfl, x₃.2, rfl, rfl, ?_⟩
  refine Ru.withB0 ?_
  refine Ru.itemsE x₃ fun h₄ v₄ i₄ g₄ _ => ?_
  refine Ru.iterE rm.hh (x₃.gr g₄ List.not_mem_nil) i₄ fun h₅ I g₅ fI nx => ⟨I, rfl, ?_⟩
  have n₄ := g₄.ns n₃ List.not_mem_nil
  have LI : L ≠ I := by obtain ⟨o, _, _, ho, _⟩ := id n₄; exact ne_of_fresh ho fI
  have dI : d ≠ I := ne_of_fresh (z₃.gr g₄ List.not_mem_nil).2 fI
  refine nx _ fun h₆ g₆ => ⟨rfl, ?_⟩
  have fI : h.get? I = none := (G₃.trans g₄).gone fI
  have G₆ := ((G₃.trans g₄).trans g₅).past g₆ (not1' fI)
  have n₆ := g₆.ns (g₅.ns n₄ List.not_mem_nil) (notIn_one LI)
  have z₆ := ((z₃.gr g₄ List.not_mem_nil).gr g₅ List.not_mem_nil).gr g₆ (notIn_one dI)
  have y₆ := y.gr G₆ List.not_mem_nil
  repeat (first | ((with_reducible show Ru _ _ (eval (Expr.Name _ _) _) _ _); first | refine Ru.name (by assumption) (by first | assumption | rfl) ?_ | refine Ru.celln (by assumption) rfl ?_) | ((with_reducible show Ru _ _ (eval (Expr.Tuple _ _ _) _) _ _); refine Ru.tupE ?_) | ((with_reducible show Ru _ _ (eval (Expr.BinOp _ _ _ _) _) _ _); refine Ru.bin ?_) | ((with_reducible show Ru _ _ (binaryOp Operator.Add (Value.int _ _) (Value.int _ _)) _ _); refine Ru.add fun _ => ?_) | ((with_reducible show Ru _ _ (execs (_ :: _) _) _ _); refine Ru.cons ?_) | ((with_reducible show Ru _ _ (execs [] _) _ _); refine Ru.nil ?_) | ((with_reducible show Ru _ _ (exec (Stmt.Assign [Expr.Name _ _] _ _) _) _ _); refine Ru.asg ?_) | ((with_reducible show Ru _ _ (spliced (backTo _ (starEach (_ :: _) _))) _ _); refine Ru.spc ?_) | ((with_reducible show Ru _ _ (spliced (backTo _ (starEach [] _))) _ _); refine Ru.spn ?_) | ((with_reducible show Ru _ _ (exec (Stmt.Return _ _) _) _ _); refine Ru.ret ?_))
  refine Ru.for0 ?_
  refine Ru.meth PySem.F.plainAttrs_dict PySem.F.slot_dict_items PySem.F.type_dict_items ?_
  (first | ((with_reducible show Ru _ _ (eval (Expr.Name _ _) _) _ _); first | refine Ru.name (by assumption) (by first | assumption | rfl) ?_ | refine Ru.celln (by assumption) rfl ?_) | ((with_reducible show Ru _ _ (eval (Expr.Tuple _ _ _) _) _ _); refine Ru.tupE ?_) | ((with_reducible show Ru _ _ (eval (Expr.BinOp _ _ _ _) _) _ _); refine Ru.bin ?_) | ((with_reducible show Ru _ _ (binaryOp Operator.Add (Value.int _ _) (Value.int _ _)) _ _); refine Ru.add fun _ => ?_) | ((with_reducible show Ru _ _ (execs (_ :: _) _) _ _); refine Ru.cons ?_) | ((with_reducible show Ru _ _ (execs [] _) _ _); refine Ru.nil ?_) | ((with_reducible show Ru _ _ (exec (Stmt.Assign [Expr.Name _ _] _ _) _) _ _); refine Ru.asg ?_) | ((with_reducible show Ru _ _ (spliced (backTo _ (starEach (_ :: _) _))) _ _); refine Ru.spc ?_) | ((with_reducible show Ru _ _ (spliced (backTo _ (starEach [] _))) _ _); refine Ru.spn ?_) | ((with_reducible show Ru _ _ (exec (Stmt.Return _ _) _) _ _); refine Ru.ret ?_))
  refine ⟨d₂, _, rfl, y₆.2, rfl, rfl, ?_⟩
  refine Ru.withB0 ?_
  refine Ru.itemsE y₆ fun h₇ v₇ i₇ g₇ _ => ?_
  refine Ru.iterE rm.hh (y₆.gr g₇ List.not_mem_nil) i₇ fun h₈ I₂ g₈ fI₂ nx => ⟨I₂, rfl, ?_⟩
  have n₇ := g₇.ns n₆ List.not_mem_nil
  have LI₂ : L ≠ I₂ := by obtain ⟨o, _, _, ho, _⟩ := id n₇; exact ne_of_fresh ho fI₂
  have dI₂ : d ≠ I₂ := ne_of_fresh (z₆.gr g₇ List.not_mem_nil).2 fI₂
  refine nx _ fun h₉ g₉ => ⟨rfl, ?_⟩
  have fI₂ : h.get? I₂ = none := (G₆.trans g₇).gone fI₂
  have n₉ := g₉.ns (g₈.ns n₇ List.not_mem_nil) (notIn_one LI₂)
  repeat (first | ((with_reducible show Ru _ _ (eval (Expr.Name _ _) _) _ _); first | refine Ru.name (by assumption) (by first | assumption | rfl) ?_ | refine Ru.celln (by assumption) rfl ?_) | ((with_reducible show Ru _ _ (eval (Expr.Tuple _ _ _) _) _ _); refine Ru.tupE ?_) | ((with_reducible show Ru _ _ (eval (Expr.BinOp _ _ _ _) _) _ _); refine Ru.bin ?_) | ((with_reducible show Ru _ _ (binaryOp Operator.Add (Value.int _ _) (Value.int _ _)) _ _); refine Ru.add fun _ => ?_) | ((with_reducible show Ru _ _ (execs (_ :: _) _) _ _); refine Ru.cons ?_) | ((with_reducible show Ru _ _ (execs [] _) _ _); refine Ru.nil ?_) | ((with_reducible show Ru _ _ (exec (Stmt.Assign [Expr.Name _ _] _ _) _) _ _); refine Ru.asg ?_) | ((with_reducible show Ru _ _ (spliced (backTo _ (starEach (_ :: _) _))) _ _); refine Ru.spc ?_) | ((with_reducible show Ru _ _ (spliced (backTo _ (starEach [] _))) _ _); refine Ru.spn ?_) | ((with_reducible show Ru _ _ (exec (Stmt.Return _ _) _) _ _); refine Ru.ret ?_))
  exact k h₉ d (((G₆.trans g₇).trans g₈).past g₉ (not1' fI₂)) (((z₆.gr g₇ List.not_mem_nil).gr g₈ List.not_mem_nil).gr g₉ (notIn_one dI₂)) fd

/-- the five of a whole -/
structure Is5 (h : Heap) (v : Value) (d : Addr) (a b e f : Int) : Prop where
  is : ∃ l t₁ t₂ t₃ t₄, v = .ref l ∧ IsTup h l #[.int a t₁, .int b t₂, .int e t₃, .int f t₄, .ref d] ∧ IsE h d
theorem Is5.gr {X : List Addr} {h h' : Heap} {v : Value} {d : Addr} {a b e f : Int} (x : Is5 h v d a b e f) (g : Gr X h h') (n : d ∉ X) : Is5 h' v d a b e f :=
  let ⟨l, t₁, t₂, t₃, t₄, r, t, y⟩ := x.is; ⟨l, t₁, t₂, t₃, t₄, r, g.tup t, y.gr g n⟩

theorem spec_addf {f : Addr} (W : World' hT mg mb) (F : FnH hT mg 4 "add_func_stats" f) (rm : Rm 2 A) (U : Gr [] hT h) {v₁ v₂ : Value} {a b e g a' b' e' g' : Int} {d₁ d₂ : Addr} (x : Is5 h v₁ d₁ a b e g) (y : Is5 h v₂ d₂ a' b' e' g')
    {P : Value → Heap → Prop} (k : ∀ h' v d, Gr [] h h' → Is5 h' v d (a' + a) (b' + b) (e' + e) (g' + g) → h.get? d = none → P v h') : Ru c A (call (.ref f) [v₁, v₂]) h P := by
  obtain ⟨o, doc, pm, an, cdv, ct, ho, hd, hcd⟩ := F.obj
  obtain ⟨fc, FC⟩ := W.addc
  obtain ⟨oc, _, _, _, _, _, hoc, hdc, _⟩ := FC.obj
  refine Ru.callD (binds := [("target", v₁), ("source", v₂)]) (body := bodyOf 4) rm.room (U.keeps _ _ ho) hd (W.T.lim.keeps U.keeps) (hcd.keeps U.keeps) rfl (fun _ => BindsTo.of_eq rfl) (show ∀ x ∈ (scopeOf 4).names, x.2 ≠ .cell by decide) (locs rfl) fun h₁ n₁ g₁ => ?_
  obtain ⟨L, hL⟩ : ∃ L, L = h.objs.size := ⟨_, rfl⟩
  have fL : h.get? L = none := hL ▸ fresh_size _
  rw [← hL] at n₁ ⊢
  show Ru c (A.deeper (env8 4 "add_func_stats" L f cdv)) (execs (bodyOf 4) (env8 4 "add_func_stats" L f cdv)) _ _
  have rm := rm.deep (env8 4 "add_func_stats" L f cdv)
  generalize A.deeper (env8 4 "add_func_stats" L f cdv) = A' at rm ⊢
  obtain ⟨l₂, t₁, t₂, t₃, t₄, rfl, T₂, E₂⟩ := y.is
  obtain ⟨l₁, u₁, u₂, u₃, u₄, rfl, T₁, E₁⟩ := x.is
  show Ru c _ (execs (_ :: _) _) _ _
  (first | ((with_reducible show Ru _ _ (eval (Expr.Name _ _) _) _ _); first | refine Ru.name (by assumption) (by first | assumption | rfl) ?_ | refine Ru.celln (by assumption) rfl ?_) | ((with_reducible show Ru _ _ (eval (Expr.Tuple _ _ _) _) _ _); refine Ru.tupE ?_) | ((with_reducible show Ru _ _ (eval (Expr.BinOp _ _ _ _) _) _ _); refine Ru.bin ?_) | ((with_reducible show Ru _ _ (binaryOp Operator.Add (Value.int _ _) (Value.int _ _)) _ _); refine Ru.add fun _ => ?_) | ((with_reducible show Ru _ _ (execs (_ :: _) _) _ _); refine Ru.cons ?_) | ((with_reducible show Ru _ _ (execs [] _) _ _); refine Ru.nil ?_) | ((with_reducible show Ru _ _ (exec (Stmt.Assign [Expr.Name _ _] _ _) _) _ _); refine Ru.asg ?_) | ((with_reducible show Ru _ _ (spliced (backTo _ (starEach (_ :: _) _))) _ _); refine Ru.spc ?_) | ((with_reducible show Ru _ _ (spliced (backTo _ (starEach [] _))) _ _); refine Ru.spn ?_) | ((with_reducible show Ru _ _ (exec (Stmt.Return _ _) _) _ _); refine Ru.ret ?_))
  refine Ru.asgT ?_
  (first | ((with_reducible show Ru _ _ (eval (Expr.Name _ _) _) _ _); first | refine Ru.name (by assumption) (by first | assumption | rfl) ?_ | refine Ru.celln (by assumption) rfl ?_) | ((with_reducible show Ru _ _ (eval (Expr.Tuple _ _ _) _) _ _); refine Ru.tupE ?_) | ((with_reducible show Ru _ _ (eval (Expr.BinOp _ _ _ _) _) _ _); refine Ru.bin ?_) | ((with_reducible show Ru _ _ (binaryOp Operator.Add (Value.int _ _) (Value.int _ _)) _ _); refine Ru.add fun _ => ?_) | ((with_reducible show Ru _ _ (execs (_ :: _) _) _ _); refine Ru.cons ?_) | ((with_reducible show Ru _ _ (execs [] _) _ _); refine Ru.nil ?_) | ((with_reducible show Ru _ _ (exec (Stmt.Assign [Expr.Name _ _] _ _) _) _ _); refine Ru.asg ?_) | ((with_reducible show Ru _ _ (spliced (backTo _ (starEach (_ :: _) _))) _ _); refine Ru.spc ?_) | ((with_reducible show Ru _ _ (spliced (backTo _ (starEach [] _))) _ _); refine Ru.spn ?_) | ((with_reducible show Ru _ _ (exec (Stmt.Return _ _) _) _ _); refine Ru.ret ?_))
  refine Ru.aTup (xs := [.int a' t₁, .int b' t₂, .int e' t₃, .int g' t₄, .ref d₂]) rm.hh (g₁.tup T₂) fun h₂ g₂ => ?_
  refine Ru.aCons (Ru.aName (Ru.store (g₂.ns n₁ List.not_mem_nil) (fun h₃ n₃ g₃ => ?_)))
  refine Ru.aCons (Ru.aName (Ru.store n₃ (fun h₄ n₄ g₄ => ?_)))
  refine Ru.aCons (Ru.aName (Ru.store n₄ (fun h₅ n₅ g₅ => ?_)))
  refine Ru.aCons (Ru.aName (Ru.store n₅ (fun h₆ n₆ g₆ => ?_)))
  refine Ru.aCons (Ru.aName (Ru.store n₆ (fun h₇ n₇ g₇ => ?_)))
  refine Ru.aNil ?_
  have g₇ : Gr [L] h₂ h₇ := (((Gr.trans g₃ g₄).trans g₅).trans g₆).trans g₇
  have G₇ := (g₁.trans g₂).past g₇ (not1' fL)
  repeat (first | ((with_reducible show Ru _ _ (eval (Expr.Name _ _) _) _ _); first | refine Ru.name (by assumption) (by first | assumption | rfl) ?_ | refine Ru.celln (by assumption) rfl ?_) | ((with_reducible show Ru _ _ (eval (Expr.Tuple _ _ _) _) _ _); refine Ru.tupE ?_) | ((with_reducible show Ru _ _ (eval (Expr.BinOp _ _ _ _) _) _ _); refine Ru.bin ?_) | ((with_reducible show Ru _ _ (binaryOp Operator.Add (Value.int _ _) (Value.int _ _)) _ _); refine Ru.add fun _ => ?_) | ((with_reducible show Ru _ _ (execs (_ :: _) _) _ _); refine Ru.cons ?_) | ((with_reducible show Ru _ _ (execs [] _) _ _); refine Ru.nil ?_) | ((with_reducible show Ru _ _ (exec (Stmt.Assign [Expr.Name _ _] _ _) _) _ _); refine Ru.asg ?_) | ((with_reducible show Ru _ _ (spliced (backTo _ (starEach (_ :: _) _))) _ _); refine Ru.spc ?_) | ((with_reducible show Ru _ _ (spliced (backTo _ (starEach [] _))) _ _); refine Ru.spn ?_) | ((with_reducible show Ru _ _ (exec (Stmt.Return _ _) _) _ _); refine Ru.ret ?_))
  refine Ru.asgT ?_
  (first | ((with_reducible show Ru _ _ (eval (Expr.Name _ _) _) _ _); first | refine Ru.name (by assumption) (by first | assumption | rfl) ?_ | refine Ru.celln (by assumption) rfl ?_) | ((with_reducible show Ru _ _ (eval (Expr.Tuple _ _ _) _) _ _); refine Ru.tupE ?_) | ((with_reducible show Ru _ _ (eval (Expr.BinOp _ _ _ _) _) _ _); refine Ru.bin ?_) | ((with_reducible show Ru _ _ (binaryOp Operator.Add (Value.int _ _) (Value.int _ _)) _ _); refine Ru.add fun _ => ?_) | ((with_reducible show Ru _ _ (execs (_ :: _) _) _ _); refine Ru.cons ?_) | ((with_reducible show Ru _ _ (execs [] _) _ _); refine Ru.nil ?_) | ((with_reducible show Ru _ _ (exec (Stmt.Assign [Expr.Name _ _] _ _) _) _ _); refine Ru.asg ?_) | ((with_reducible show Ru _ _ (spliced (backTo _ (starEach (_ :: _) _))) _ _); refine Ru.spc ?_) | ((with_reducible show Ru _ _ (spliced (backTo _ (starEach [] _))) _ _); refine Ru.spn ?_) | ((with_reducible show Ru _ _ (exec (Stmt.Return _ _) _) _ _); refine Ru.ret ?_))
  refine Ru.aTup (xs := [.int a u₁, .int b u₂, .int e u₃, .int g u₄, .ref d₁]) rm.hh (G₇.tup T₁) fun h₂ g₂ => ?_
  refine Ru.aCons (Ru.aName (Ru.store (g₂.ns n₇ List.not_mem_nil) (fun h₃ n₃ g₃ => ?_)))
  refine Ru.aCons (Ru.aName (Ru.store n₃ (fun h₄ n₄ g₄ => ?_)))
  refine Ru.aCons (Ru.aName (Ru.store n₄ (fun h₅ n₅ g₅ => ?_)))
  refine Ru.aCons (Ru.aName (Ru.store n₅ (fun h₆ n₆ g₆ => ?_)))
  refine Ru.aCons (Ru.aName (Ru.store n₆ (fun h₇ n₇ g₇ => ?_)))
  refine Ru.aNil ?_
  have g₇ : Gr [L] h₂ h₇ := (((Gr.trans g₃ g₄).trans g₅).trans g₆).trans g₇
  have G₇ := (G₇.trans g₂).past g₇ (not1' fL)
  have U₇ := U.trans G₇
  repeat (first | ((with_reducible show Ru _ _ (eval (Expr.Name _ _) _) _ _); first | refine Ru.name (by assumption) (by first | assumption | rfl) ?_ | refine Ru.celln (by assumption) rfl ?_) | ((with_reducible show Ru _ _ (eval (Expr.Tuple _ _ _) _) _ _); refine Ru.tupE ?_) | ((with_reducible show Ru _ _ (eval (Expr.BinOp _ _ _ _) _) _ _); refine Ru.bin ?_) | ((with_reducible show Ru _ _ (binaryOp Operator.Add (Value.int _ _) (Value.int _ _)) _ _); refine Ru.add fun _ => ?_) | ((with_reducible show Ru _ _ (execs (_ :: _) _) _ _); refine Ru.cons ?_) | ((with_reducible show Ru _ _ (execs [] _) _ _); refine Ru.nil ?_) | ((with_reducible show Ru _ _ (exec (Stmt.Assign [Expr.Name _ _] _ _) _) _ _); refine Ru.asg ?_) | ((with_reducible show Ru _ _ (spliced (backTo _ (starEach (_ :: _) _))) _ _); refine Ru.spc ?_) | ((with_reducible show Ru _ _ (spliced (backTo _ (starEach [] _))) _ _); refine Ru.spn ?_) | ((with_reducible show Ru _ _ (exec (Stmt.Return _ _) _) _ _); refine Ru.ret ?_))
  refine Ru.callN (Ru.glob (W.T.g.keeps U₇.keeps) FC.glob ?_)
  refine Ru.withF (o := oc) hdc ?_
  repeat (first | ((with_reducible show Ru _ _ (eval (Expr.Name _ _) _) _ _); first | refine Ru.name (by assumption) (by first | assumption | rfl) ?_ | refine Ru.celln (by assumption) rfl ?_) | ((with_reducible show Ru _ _ (eval (Expr.Tuple _ _ _) _) _ _); refine Ru.tupE ?_) | ((with_reducible show Ru _ _ (eval (Expr.BinOp _ _ _ _) _) _ _); refine Ru.bin ?_) | ((with_reducible show Ru _ _ (binaryOp Operator.Add (Value.int _ _) (Value.int _ _)) _ _); refine Ru.add fun _ => ?_) | ((with_reducible show Ru _ _ (execs (_ :: _) _) _ _); refine Ru.cons ?_) | ((with_reducible show Ru _ _ (execs [] _) _ _); refine Ru.nil ?_) | ((with_reducible show Ru _ _ (exec (Stmt.Assign [Expr.Name _ _] _ _) _) _ _); refine Ru.asg ?_) | ((with_reducible show Ru _ _ (spliced (backTo _ (starEach (_ :: _) _))) _ _); refine Ru.spc ?_) | ((with_reducible show Ru _ _ (spliced (backTo _ (starEach [] _))) _ _); refine Ru.spn ?_) | ((with_reducible show Ru _ _ (exec (Stmt.Return _ _) _) _ _); refine Ru.ret ?_))
  refine ⟨U₇.keeps _ _ hoc, ?_⟩
  refine spec_addc W FC (rm.less (by decide)) U₇ (E₁.gr G₇ List.not_mem_nil) (E₂.gr G₇ List.not_mem_nil) fun h₈ d g₈ z₈ f₈ => ?_
  repeat (first | ((with_reducible show Ru _ _ (eval (Expr.Name _ _) _) _ _); first | refine Ru.name (by assumption) (by first | assumption | rfl) ?_ | refine Ru.celln (by assumption) rfl ?_) | ((with_reducible show Ru _ _ (eval (Expr.Tuple _ _ _) _) _ _); refine Ru.tupE ?_) | ((with_reducible show Ru _ _ (eval (Expr.BinOp _ _ _ _) _) _ _); refine Ru.bin ?_) | ((with_reducible show Ru _ _ (binaryOp Operator.Add (Value.int _ _) (Value.int _ _)) _ _); refine Ru.add fun _ => ?_) | ((with_reducible show Ru _ _ (execs (_ :: _) _) _ _); refine Ru.cons ?_) | ((with_reducible show Ru _ _ (execs [] _) _ _); refine Ru.nil ?_) | ((with_reducible show Ru _ _ (exec (Stmt.Assign [Expr.Name _ _] _ _) _) _ _); refine Ru.asg ?_) | ((with_reducible show Ru _ _ (spliced (backTo _ (starEach (_ :: _) _))) _ _); refine Ru.spc ?_) | ((with_reducible show Ru _ _ (spliced (backTo _ (starEach [] _))) _ _); refine Ru.spn ?_) | ((with_reducible show Ru _ _ (exec (Stmt.Return _ _) _) _ _); refine Ru.ret ?_))
  refine Ru.newT (show 5 ≤ sizeLine by decide) fun h₉ t₉ g₉ => ?_
  exact k h₉ _ d ((G₇.trans g₈).trans g₉) ⟨_, _, _, _, _, rfl, t₉, z₈.gr g₉ List.not_mem_nil⟩ (G₇.gone f₈)
end
end Mink

/-! MkS -/
namespace Mink
open PySem PySem.W PyProof.Rows PySem.Calls

noncomputable abbrev env12 (L a : Addr) (cd : Value) : Env := envOfC "law" (scopeOf 12) L a cd

/-- the law at work: the two shapes and their sum stand -/
structure Lw (hT h : Heap) (L : Addr) (m : Str → Option Value) (C D M : List Pt) : Prop where
  U : Gr [] hT h
  new : ∀ i : Nat, i ≤ 4 → hT.get? (L + i) = none
  n : h.Ns L m
  one : ∃ l, h.IsCell (L + 2) (some (.ref l)) ∧ PtL h l C
  other : ∃ l, h.IsCell (L + 3) (some (.ref l)) ∧ PtL h l D
  order : ∃ v, h.IsCell (L + 4) v
  both : ∃ l, m "both" = some (.ref l) ∧ PtL h l M
theorem Lw.gr {hT h h' : Heap} {L : Addr} {m : Str → Option Value} {C D M : List Pt} (w : Lw hT h L m C D M) (g : Gr [] h h') : Lw hT h' L m C D M :=
  ⟨w.U.trans g, w.new, g.ns w.n List.not_mem_nil, let ⟨l, e, x⟩ := w.one; ⟨l, g.cell e List.not_mem_nil, x.gr0 g⟩, let ⟨l, e, x⟩ := w.other; ⟨l, g.cell e List.not_mem_nil, x.gr0 g⟩, let ⟨v, e⟩ := w.order; ⟨v, g.cell e List.not_mem_nil⟩, let ⟨l, e, x⟩ := w.both; ⟨l, e, x.gr0 g⟩⟩
theorem Lw.put {hT h h' : Heap} {L : Addr} {m m' : Str → Option Value} {C D M : List Pt} (w : Lw hT h L m C D M) (g : Gr [L] h h') (n : h'.Ns L m') (e : m' "both" = m "both") : Lw hT h' L m' C D M := by
  obtain ⟨l₁, e₁, x₁⟩ := w.one
  obtain ⟨l₂, e₂, x₂⟩ := w.other
  obtain ⟨v₃, e₃⟩ := w.order
  obtain ⟨l₄, e₄, x₄⟩ := w.both
  have hL := w.new 0 (by decide)
  exact ⟨w.U.past g (not1' hL), w.new, n, ⟨l₁, g.cell e₁ (notIn_one (ne_ns_cell w.n e₁).symm), x₁.gr g (notIn_one (x₁.ne_ns w.n))⟩, ⟨l₂, g.cell e₂ (notIn_one (ne_ns_cell w.n e₂).symm), x₂.gr g (notIn_one (x₂.ne_ns w.n))⟩,
    ⟨v₃, g.cell e₃ (notIn_one (ne_ns_cell w.n e₃).symm)⟩, ⟨l₄, e.trans e₄, x₄.gr g (notIn_one (x₄.ne_ns w.n))⟩⟩

section
variable {c : Cx} {A : Around} {h hT : Heap} {mg mb : Str → Option Value} {L a : Addr} {cd : Value} {m : Str → Option Value} {C D M : List Pt}


theorem law_16 (W : World' hT mg mb) (rm : Rm 1 A) (w : Lw hT h L m C D M) (hz : M.length < 64) : Ru c A (execs ((bodyOf 12).drop 16) (env12 L a cd)) h fun f h' => f = .ret (.bool true) ∧ Gr [] hT h' := by
  have hms := W.none "sorted" (by simp)
  obtain ⟨fb, FB⟩ := W.bis
  obtain ⟨ob, _, _, _, _, _, _, _, hob, hdb, _⟩ := FB.obj
  have hu := rm.un
  have U := w.U
  have n := w.n
  obtain ⟨lM, eM, xM⟩ := w.both
  obtain ⟨vo, co⟩ := w.order
  show Ru c _ (execs (_ :: _) _) _ _
  repeat (first | ((with_reducible show Ru _ _ (eval (Expr.Name _ _) _) _ _); first | refine Ru.name (by assumption) (by first | assumption | rfl) ?_ | refine Ru.celln (by assumption) rfl ?_) | ((with_reducible show Ru _ _ (eval (Expr.Constant (Const.int _) _ _) _) _ _); refine Ru.intC fun _ => ?_) | ((with_reducible show Ru _ _ (eval (Expr.Tuple _ _ _) _) _ _); refine Ru.tupE ?_) | ((with_reducible show Ru _ _ (eval (Expr.Subscript _ _ _) _) _ _); refine Ru.sub ?_) | ((with_reducible show Ru _ _ (eval (Expr.BinOp _ _ _ _) _) _ _); refine Ru.bin ?_) | ((with_reducible show Ru _ _ (binaryOp Operator.Add (Value.int _ _) (Value.int _ _)) _ _); refine Ru.add fun _ => ?_) | ((with_reducible show Ru _ _ (isTrue (Expr.Compare _ _ _ _) _ _) _ _); refine Ru.test ?_) | ((with_reducible show Ru _ _ (execs (_ :: _) _) _ _); refine Ru.cons ?_) | ((with_reducible show Ru _ _ (execs [] _) _ _); refine Ru.nil ?_) | ((with_reducible show Ru _ _ (exec (Stmt.If _ _ _ _) _) _ _); refine Ru.ifS ?_) | ((with_reducible show Ru _ _ (exec (Stmt.Assign [Expr.Name _ _] _ _) _) _ _); refine Ru.asg ?_) | ((with_reducible show Ru _ _ (spliced (backTo _ (starEach (_ :: _) _))) _ _); refine Ru.spc ?_) | ((with_reducible show Ru _ _ (spliced (backTo _ (starEach [] _))) _ _); refine Ru.spn ?_) | ((with_reducible show Ru _ _ (exec (Stmt.Return _ _) _) _ _); refine Ru.ret ?_))
  refine Ru.callN (Ru.blt (W.T.g.keeps U.keeps) hms (W.T.b.keeps U.keeps) W.sorted ?_)
  refine Ru.withB ?_
  repeat (first | ((with_reducible show Ru _ _ (eval (Expr.Name _ _) _) _ _); first | refine Ru.name (by assumption) (by first | assumption | rfl) ?_ | refine Ru.celln (by assumption) rfl ?_) | ((with_reducible show Ru _ _ (eval (Expr.Constant (Const.int _) _ _) _) _ _); refine Ru.intC fun _ => ?_) | ((with_reducible show Ru _ _ (eval (Expr.Tuple _ _ _) _) _ _); refine Ru.tupE ?_) | ((with_reducible show Ru _ _ (eval (Expr.Subscript _ _ _) _) _ _); refine Ru.sub ?_) | ((with_reducible show Ru _ _ (eval (Expr.BinOp _ _ _ _) _) _ _); refine Ru.bin ?_) | ((with_reducible show Ru _ _ (binaryOp Operator.Add (Value.int _ _) (Value.int _ _)) _ _); refine Ru.add fun _ => ?_) | ((with_reducible show Ru _ _ (isTrue (Expr.Compare _ _ _ _) _ _) _ _); refine Ru.test ?_) | ((with_reducible show Ru _ _ (execs (_ :: _) _) _ _); refine Ru.cons ?_) | ((with_reducible show Ru _ _ (execs [] _) _ _); refine Ru.nil ?_) | ((with_reducible show Ru _ _ (exec (Stmt.If _ _ _ _) _) _ _); refine Ru.ifS ?_) | ((with_reducible show Ru _ _ (exec (Stmt.Assign [Expr.Name _ _] _ _) _) _ _); refine Ru.asg ?_) | ((with_reducible show Ru _ _ (spliced (backTo _ (starEach (_ :: _) _))) _ _); refine Ru.spc ?_) | ((with_reducible show Ru _ _ (spliced (backTo _ (starEach [] _))) _ _); refine Ru.spn ?_) | ((with_reducible show Ru _ _ (exec (Stmt.Return _ _) _) _ _); refine Ru.ret ?_))
  refine Ru.sorted n xM hz (by omega) fun h₁ lo qs x₁ pq sq g₁ n₁ f₁ => ?_
  have co₁ := g₁.cell co (notIn_one (ne_ns_cell n co).symm)
  refine Ru.storeC co₁ (show _ = some (L + 4) from rfl) fun h₂ co₂ g₂ => ?_
  have loc : lo ≠ L + 4 := by obtain ⟨_, _, l, _⟩ := x₁; exact ne_ls_cell l.isList co₁
  have Lc : L ≠ L + 4 := ne_ns_cell n₁ co₁
  have lMc : lM ≠ L + 4 := by obtain ⟨_, _, l, _⟩ := xM; exact ne_ls_cell l.isList co
  have x₂ := x₁.gr g₂ (notIn_one loc)
  have n₂ := g₂.ns n₁ (notIn_one Lc)
  have xM₂ := (xM.gr g₁ (notIn_one (xM.ne_ns n))).gr g₂ (notIn_one lMc)
  have U₁ := U.past g₁ (not1' (w.new 0 (by decide)))
  have U₂ := U₁.past g₂ (not1' (w.new 4 (by decide)))
  have hql := pq.length_eq
  repeat (first | ((with_reducible show Ru _ _ (eval (Expr.Name _ _) _) _ _); first | refine Ru.name (by assumption) (by first | assumption | rfl) ?_ | refine Ru.celln (by assumption) rfl ?_) | ((with_reducible show Ru _ _ (eval (Expr.Constant (Const.int _) _ _) _) _ _); refine Ru.intC fun _ => ?_) | ((with_reducible show Ru _ _ (eval (Expr.Tuple _ _ _) _) _ _); refine Ru.tupE ?_) | ((with_reducible show Ru _ _ (eval (Expr.Subscript _ _ _) _) _ _); refine Ru.sub ?_) | ((with_reducible show Ru _ _ (eval (Expr.BinOp _ _ _ _) _) _ _); refine Ru.bin ?_) | ((with_reducible show Ru _ _ (binaryOp Operator.Add (Value.int _ _) (Value.int _ _)) _ _); refine Ru.add fun _ => ?_) | ((with_reducible show Ru _ _ (isTrue (Expr.Compare _ _ _ _) _ _) _ _); refine Ru.test ?_) | ((with_reducible show Ru _ _ (execs (_ :: _) _) _ _); refine Ru.cons ?_) | ((with_reducible show Ru _ _ (execs [] _) _ _); refine Ru.nil ?_) | ((with_reducible show Ru _ _ (exec (Stmt.If _ _ _ _) _) _ _); refine Ru.ifS ?_) | ((with_reducible show Ru _ _ (exec (Stmt.Assign [Expr.Name _ _] _ _) _) _ _); refine Ru.asg ?_) | ((with_reducible show Ru _ _ (spliced (backTo _ (starEach (_ :: _) _))) _ _); refine Ru.spc ?_) | ((with_reducible show Ru _ _ (spliced (backTo _ (starEach [] _))) _ _); refine Ru.spn ?_) | ((with_reducible show Ru _ _ (exec (Stmt.Return _ _) _) _ _); refine Ru.ret ?_))
  refine Ru.cmp ?_
  refine Ru.compG IsPt IsPt.stable (fun _ => []) rfl (cl := [("order", L + 4)]) rfl ?_
  (first | ((with_reducible show Ru _ _ (eval (Expr.Name _ _) _) _ _); first | refine Ru.name (by assumption) (by first | assumption | rfl) ?_ | refine Ru.celln (by assumption) rfl ?_) | ((with_reducible show Ru _ _ (eval (Expr.Constant (Const.int _) _ _) _) _ _); refine Ru.intC fun _ => ?_) | ((with_reducible show Ru _ _ (eval (Expr.Tuple _ _ _) _) _ _); refine Ru.tupE ?_) | ((with_reducible show Ru _ _ (eval (Expr.Subscript _ _ _) _) _ _); refine Ru.sub ?_) | ((with_reducible show Ru _ _ (eval (Expr.BinOp _ _ _ _) _) _ _); refine Ru.bin ?_) | ((with_reducible show Ru _ _ (binaryOp Operator.Add (Value.int _ _) (Value.int _ _)) _ _); refine Ru.add fun _ => ?_) | ((with_reducible show Ru _ _ (isTrue (Expr.Compare _ _ _ _) _ _) _ _); refine Ru.test ?_) | ((with_reducible show Ru _ _ (execs (_ :: _) _) _ _); refine Ru.cons ?_) | ((with_reducible show Ru _ _ (execs [] _) _ _); refine Ru.nil ?_) | ((with_reducible show Ru _ _ (exec (Stmt.If _ _ _ _) _) _ _); refine Ru.ifS ?_) | ((with_reducible show Ru _ _ (exec (Stmt.Assign [Expr.Name _ _] _ _) _) _ _); refine Ru.asg ?_) | ((with_reducible show Ru _ _ (spliced (backTo _ (starEach (_ :: _) _))) _ _); refine Ru.spc ?_) | ((with_reducible show Ru _ _ (spliced (backTo _ (starEach [] _))) _ _); refine Ru.spn ?_) | ((with_reducible show Ru _ _ (exec (Stmt.Return _ _) _) _ _); refine Ru.ret ?_))
  obtain ⟨vs, nn, hl, hp⟩ := xM₂
  have lv := hp.length
  refine Ru.iterL hl.isList fun I h₃ fI it g₃ => ?_
  have lI : lM ≠ I := ne_of_fresh hl fI
  refine ⟨I, _, _, _, _, rfl, Going.list rm.hh lI it (g₃.lst hl.isList List.not_mem_nil) (by simp; omega), fI, g₃, ?_, ?_⟩
  · intro Cc fC i v h' m' hi hv n' G
    have hi : i < M.length := by simp at hi; omega
    have hvv : vs[i]? = some v := by simpa using hv
    obtain ⟨p, ep, yp⟩ := hp.getL hvv
    have CL : Cc ≠ L + 4 := by obtain ⟨oc, hoc, _⟩ := co₂; exact (ne_of_fresh hoc fC).symm
    have loC : lo ≠ Cc := by obtain ⟨_, _, l, _⟩ := x₂; exact ne_of_fresh l fC
    refine Ru.aName (Ru.store n' fun h₄ n₄ g₄ => ?_)
    have g₄ : Gr [Cc] h' h₄ := g₄
    have co₄ := g₄.cell (G.cell co₂ List.not_mem_nil) (notIn_one CL.symm)
    have G₄ := G.past g₄ (not1' fC)
    have U₄ := U₂.trans G₄
    have x₄ := x₂.gr0 G₄
    have y₄ := G₄.pt yp
    refine Ru.tests1 ?_
    repeat (first | ((with_reducible show Ru _ _ (eval (Expr.Name _ _) _) _ _); first | refine Ru.name (by assumption) (by first | assumption | rfl) ?_ | refine Ru.celln (by assumption) rfl ?_) | ((with_reducible show Ru _ _ (eval (Expr.Constant (Const.int _) _ _) _) _ _); refine Ru.intC fun _ => ?_) | ((with_reducible show Ru _ _ (eval (Expr.Tuple _ _ _) _) _ _); refine Ru.tupE ?_) | ((with_reducible show Ru _ _ (eval (Expr.Subscript _ _ _) _) _ _); refine Ru.sub ?_) | ((with_reducible show Ru _ _ (eval (Expr.BinOp _ _ _ _) _) _ _); refine Ru.bin ?_) | ((with_reducible show Ru _ _ (binaryOp Operator.Add (Value.int _ _) (Value.int _ _)) _ _); refine Ru.add fun _ => ?_) | ((with_reducible show Ru _ _ (isTrue (Expr.Compare _ _ _ _) _ _) _ _); refine Ru.test ?_) | ((with_reducible show Ru _ _ (execs (_ :: _) _) _ _); refine Ru.cons ?_) | ((with_reducible show Ru _ _ (execs [] _) _ _); refine Ru.nil ?_) | ((with_reducible show Ru _ _ (exec (Stmt.If _ _ _ _) _) _ _); refine Ru.ifS ?_) | ((with_reducible show Ru _ _ (exec (Stmt.Assign [Expr.Name _ _] _ _) _) _ _); refine Ru.asg ?_) | ((with_reducible show Ru _ _ (spliced (backTo _ (starEach (_ :: _) _))) _ _); refine Ru.spc ?_) | ((with_reducible show Ru _ _ (spliced (backTo _ (starEach [] _))) _ _); refine Ru.spn ?_) | ((with_reducible show Ru _ _ (exec (Stmt.Return _ _) _) _ _); refine Ru.ret ?_))
    refine Ru.callN (Ru.glob (W.T.g.keeps U₄.keeps) FB.glob ?_)
    refine Ru.withF (o := ob) hdb ?_
    repeat (first | ((with_reducible show Ru _ _ (eval (Expr.Name _ _) _) _ _); first | refine Ru.name (by assumption) (by first | assumption | rfl) ?_ | refine Ru.celln (by assumption) rfl ?_) | ((with_reducible show Ru _ _ (eval (Expr.Constant (Const.int _) _ _) _) _ _); refine Ru.intC fun _ => ?_) | ((with_reducible show Ru _ _ (eval (Expr.Tuple _ _ _) _) _ _); refine Ru.tupE ?_) | ((with_reducible show Ru _ _ (eval (Expr.Subscript _ _ _) _) _ _); refine Ru.sub ?_) | ((with_reducible show Ru _ _ (eval (Expr.BinOp _ _ _ _) _) _ _); refine Ru.bin ?_) | ((with_reducible show Ru _ _ (binaryOp Operator.Add (Value.int _ _) (Value.int _ _)) _ _); refine Ru.add fun _ => ?_) | ((with_reducible show Ru _ _ (isTrue (Expr.Compare _ _ _ _) _ _) _ _); refine Ru.test ?_) | ((with_reducible show Ru _ _ (execs (_ :: _) _) _ _); refine Ru.cons ?_) | ((with_reducible show Ru _ _ (execs [] _) _ _); refine Ru.nil ?_) | ((with_reducible show Ru _ _ (exec (Stmt.If _ _ _ _) _) _ _); refine Ru.ifS ?_) | ((with_reducible show Ru _ _ (exec (Stmt.Assign [Expr.Name _ _] _ _) _) _ _); refine Ru.asg ?_) | ((with_reducible show Ru _ _ (spliced (backTo _ (starEach (_ :: _) _))) _ _); refine Ru.spc ?_) | ((with_reducible show Ru _ _ (spliced (backTo _ (starEach [] _))) _ _); refine Ru.spn ?_) | ((with_reducible show Ru _ _ (exec (Stmt.Return _ _) _) _ _); refine Ru.ret ?_))
    refine ⟨U₄.keeps _ _ hob, ?_⟩
    refine spec_bisect2 W.T FB W.len rm U₄ x₄ y₄ sq (by omega) fun h₅ j t g₅ sp => ?_
    have x₅ := x₄.gr0 g₅
    have y₅ := g₅.pt y₄
    have n₅ := g₅.ns n₄ List.not_mem_nil
    have at_j : qs[j]? = some p := by
      have hm : p ∈ qs := pq.mem_iff.mpr (List.mem_of_getElem? ep)
      obtain ⟨k, hk⟩ := List.getElem?_of_mem hm
      have hkj : j ≤ k := by
        rcases Nat.lt_or_ge k j with h | h
        · have := sp.lo k p h hk; unfold Lt at this; omega
        · exact h
      have hkl : k < qs.length := by
        rcases Nat.lt_or_ge k qs.length with h | h
        · exact h
        · rw [List.getElem?_eq_none h] at hk; cases hk
      have ej : qs[j]? = some qs[j] := List.getElem?_eq_getElem (by omega)
      have h1 := sp.hi j _ (Nat.le_refl _) ej
      rcases Nat.lt_or_ge j k with h | h
      · have h2 := sq.le h ej hk
        rw [ej, h2.antisymm h1]
      · have : j = k := by omega
        subst this; exact hk
    refine Ru.atP x₅ (by omega) (by have := sp.le; omega) (q := p) (by simpa using at_j) fun vq yq => ?_
    repeat (first | ((with_reducible show Ru _ _ (eval (Expr.Name _ _) _) _ _); first | refine Ru.name (by assumption) (by first | assumption | rfl) ?_ | refine Ru.celln (by assumption) rfl ?_) | ((with_reducible show Ru _ _ (eval (Expr.Constant (Const.int _) _ _) _) _ _); refine Ru.intC fun _ => ?_) | ((with_reducible show Ru _ _ (eval (Expr.Tuple _ _ _) _) _ _); refine Ru.tupE ?_) | ((with_reducible show Ru _ _ (eval (Expr.Subscript _ _ _) _) _ _); refine Ru.sub ?_) | ((with_reducible show Ru _ _ (eval (Expr.BinOp _ _ _ _) _) _ _); refine Ru.bin ?_) | ((with_reducible show Ru _ _ (binaryOp Operator.Add (Value.int _ _) (Value.int _ _)) _ _); refine Ru.add fun _ => ?_) | ((with_reducible show Ru _ _ (isTrue (Expr.Compare _ _ _ _) _ _) _ _); refine Ru.test ?_) | ((with_reducible show Ru _ _ (execs (_ :: _) _) _ _); refine Ru.cons ?_) | ((with_reducible show Ru _ _ (execs [] _) _ _); refine Ru.nil ?_) | ((with_reducible show Ru _ _ (exec (Stmt.If _ _ _ _) _) _ _); refine Ru.ifS ?_) | ((with_reducible show Ru _ _ (exec (Stmt.Assign [Expr.Name _ _] _ _) _) _ _); refine Ru.asg ?_) | ((with_reducible show Ru _ _ (spliced (backTo _ (starEach (_ :: _) _))) _ _); refine Ru.spc ?_) | ((with_reducible show Ru _ _ (spliced (backTo _ (starEach [] _))) _ _); refine Ru.spn ?_) | ((with_reducible show Ru _ _ (exec (Stmt.Return _ _) _) _ _); refine Ru.ret ?_))
    refine Ru.nePt yq y₅ (by omega) ⟨_, rfl, ?_⟩
    rw [if_neg (by simp)]
    exact ⟨⟨_, n₅⟩, g₄.trans g₅.nil, rfl⟩
  · intro h' Dd ws k lD al G fD
    refine Ru.lst0 fun h₄ le x₄ g₄ _ => ?_
    refine Ru.eqPts (ps := []) ⟨ws, k, g₄.ls lD List.not_mem_nil, g₄.pts al⟩ x₄ (by omega) ?_
    exact ⟨by simp, (U₂.trans G).trans g₄⟩
end
end Mink

/-! MkT -/
namespace Mink
open PySem PySem.W PyProof.Rows PySem.Calls

section
variable {c : Cx} {A : Around} {h : Heap} {env : Env}
/-- a comprehension that is stored as it is made -/
theorem Ru.compU {elt target iter : Expr} {ifs : List Expr} {rest : List Comprehension} {scope : Scope} {pos spos py : Pos} {y : Str} {cl : List (Str × Addr)} {P : Flow → Heap → Prop} {m₀ : Str → Option Value} (hclos : closureFor scope env = Pure.pure cl) (n₀ : h.Ns env.locals m₀)
    (r : Ru c A (eval iter env) h fun x h₁ => Ru c A (pyIter x) h₁ fun it h₂ => Gr [] h h₂ ∧ ∃ I, it = .ref I ∧ ∀ D C h₃, h₂.get? D = none → h₂.get? C = none → D ≠ C → Gr [] h₂ h₃ → IsL h₃ D #[] 0 → h₃.Ns C (fun _ => none) →
      (∀ P : Value → Heap → Prop, P (.ref I) h₃ → Ru c A (pyIter (.ref I)) h₃ P) ∧
      RuK c A (.compLoop (.ListComp elt (⟨target, iter, ifs, 0⟩ :: rest) scope pos) 0 (.ref I) (.ref D) (compEnvC scope cl C env)) h₃ fun _ h₄ => Gr [] h h₄ ∧ ∃ m, h₄.Ns C m ∧ ∀ h₅, h₅.Ns env.locals (fun z => if z = y then some (.ref D) else m₀ z) → Gr [C, env.locals] h₄ h₅ → P .next h₅)
    (hcell : ∀ y ∈ scope.names, y.2 ≠ .cell := by decide) (hkind : scope.kind = .function := by rfl) (hnames : ∀ y ∈ scope.names, y.2 = .local → scope.names.lookup y.1 = some .local := by decide)
    (hs : ∀ x, foldedSetIterable iter env x = Pure.pure x := by intro _; rfl)
    (hsw : swapsWith (.ListComp elt (⟨target, iter, ifs, 0⟩ :: rest) scope pos) (some (.Name y py)) spos.line env = pure true := by rfl) (hy : env.kindOf y = some .local := by rfl)
    (hp : (env.scope.kind == .class || (env.scope.kind == .module && env.locals != env.globals)) = false := by rfl) :
    Ru c A (exec (.Assign [.Name y py] (.ListComp elt (⟨target, iter, ifs, 0⟩ :: rest) scope pos) spos) env) h P := by
  intro k E
  rw [exec_Assign_Name_used _ _ _ _ hsw]
  refine wpAny_bind (wpAny_standAt (wpAny_bind ?_))
  show wpAny _ A (do let _ ← comprehension (.ListComp elt (⟨target, iter, ifs, 0⟩ :: rest) scope pos) scope env _ (newList []) false (eval iter env) (some (assign (.Name y py) env))) _ _ _
  refine wpAny_bind (wpAny_mono (wpAny_comprehension_free (use := some (assign (.Name y py) env)) (Q := fun _ s' => c.good P .next s') rfl hs hclos hkind hnames (r.into fun x h₁ k₁ q => q.into fun it h₂ k₂ hh => ?_)) (fun _ s' hq => wpAny_pure (wpAny_pure hq)) fun _ _ e => e)
  obtain ⟨g₀₂, I, e, q⟩ := hh
  subst e
  refine wpAny_newObj_type (wpAny_newFunctionEnv hcell (by intro y hy; simp at hy) (fun h₄ hn hsb => ?_) hkind)
  dsimp only at hn hsb ⊢
  have g : Gr [] h₂ h₄ := .of_keeps fun b o e => hsb.extBut b o (Nat.ne_of_lt (Nat.lt_of_lt_of_le (Heap.lt_size e) (by show _ ≤ (h₂.push _).objs.size; rw [Heap.size_push]; exact Nat.le_succ _))) (Heap.get?_push_of_some _ (Heap.get?_push_of_some _ e))
  have hDC : h₂.objs.size ≠ (h₂.push { cls := .type "list", dict := none, data := .seq ([] : List Value).toArray }).objs.size := by rw [Heap.size_push]; exact Nat.ne_of_lt (Nat.lt_succ_self _)
  have hD : IsL h₄ h₂.objs.size #[] 0 := hsb.extBut _ _ hDC (Heap.get?_push_of_some _ (Heap.get?_push_size _ rfl))
  have fC : h₂.get? (h₂.push { cls := .type "list", dict := none, data := .seq ([] : List Value).toArray }).objs.size = none := Heap.get?_none_of_le (by rw [Heap.size_push]; exact Nat.le_succ _)
  obtain ⟨self, loop⟩ := q h₂.objs.size _ h₄ (fresh_size _) fC hDC g hD hn
  have st := RuK.start (c := c) (A := A) (e := .ListComp elt (⟨target, iter, ifs, 0⟩ :: rest) scope pos) (d := 0) (acc := .ref h₂.objs.size) (env := compEnvC scope cl (h₂.push { cls := .type "list", dict := none, data := .seq ([] : List Value).toArray }).objs.size env) rfl rfl rfl rfl rfl self loop
  refine st _ _ fun f h₅ k₅ hh => ?_
  obtain ⟨g₅, m, hm, q⟩ := hh
  have n₅ := g₅.ns n₀ List.not_mem_nil
  show wpAny _ A (assign (.Name y py) env (.ref h₂.objs.size)) _ _ _
  refine wpAny_assign_Name (wpAny_storeName_local hy n₅ (fun h₆ hn₆ hs₆ => ?_) hp)
  have LC : (h₂.push { cls := .type "list", dict := none, data := .seq ([] : List Value).toArray }).objs.size ≠ env.locals := by
    obtain ⟨o, _, _, ho, _⟩ := g₀₂.ns n₀ List.not_mem_nil
    exact (ne_of_fresh ho fC).symm
  refine ⟨m, hm.sameBut hs₆ LC, fun h₇ hs₇ => ?_⟩
  exact good_at (k' := _) (q h₇ (hn₆.sameBut hs₇ LC.symm) ((Gr.extNs hs₆.extBut n₅).mono (by simp) |>.trans ((Gr.extNs hs₇.extBut (hm.sameBut hs₆ LC)).mono (fun x hx => by rw [List.mem_singleton] at hx; subst hx; exact List.Mem.head _))))

/-- a comprehension of one for, stored as it is made -/
theorem Ru.compGA {β : Type} {elt target iter : Expr} {ifs : List Expr} {scope : Scope} {pos spos py : Pos} {y : Str} {cl : List (Str × Addr)} {P : Flow → Heap → Prop} {m₀ : Str → Option Value} (R : Heap → Value → β → Prop) (stable : ∀ (X : List Addr) h h' w b, Gr X h h' → R h w b → R h' w b) (bs : Nat → List β) (b0 : bs 0 = [])
    (hclos : closureFor scope env = Pure.pure cl) (n₀ : h.Ns env.locals m₀)
    (r : Ru c A (eval iter env) h fun x h₁ => Ru c A (pyIter x) h₁ fun it h₂ => ∃ (I : Addr) (N : Nat) (V : Nat → Value → Prop) (st : Nat → Heap → Prop) (pr : List Addr), it = .ref I ∧ Going c A I N V st pr h₂ ∧ h₁.get? I = none ∧ Gr [] h h₁ ∧ Gr [] h₁ h₂ ∧
      (∀ C, h₁.get? C = none → ∀ i v h' m, i < N → V i v → h'.Ns C m → Gr [] h₁ h' → Ru c A (assign target (compEnvC scope cl C env) v) h' fun _ h₃ => Ru c A (tests ifs (compEnvC scope cl C env)) h₃ fun ok h₄ =>
        if ok = true then Ru c A (eval elt (compEnvC scope cl C env)) h₄ fun w h₅ => (∃ m', h₅.Ns C m') ∧ Gr [C] h' h₅ ∧ ∃ b, R h₅ w b ∧ bs (i + 1) = bs i ++ [b] else (∃ m', h₄.Ns C m') ∧ Gr [C] h' h₄ ∧ bs (i + 1) = bs i) ∧
      ∀ h' D ws n, IsL h' D (List.toArray ws) n → All2 (R h') ws (bs N) → Gr [env.locals] h₁ h' → h₁.get? D = none → h'.Ns env.locals (fun z => if z = y then some (.ref D) else m₀ z) → P .next h')
    (hcell : ∀ y ∈ scope.names, y.2 ≠ .cell := by decide) (hkind : scope.kind = .function := by rfl) (hnames : ∀ y ∈ scope.names, y.2 = .local → scope.names.lookup y.1 = some .local := by decide)
    (hs : ∀ x, foldedSetIterable iter env x = Pure.pure x := by intro _; rfl)
    (hsw : swapsWith (.ListComp elt [⟨target, iter, ifs, 0⟩] scope pos) (some (.Name y py)) spos.line env = pure true := by rfl) (hy : env.kindOf y = some .local := by rfl)
    (hp : (env.scope.kind == .class || (env.scope.kind == .module && env.locals != env.globals)) = false := by rfl) :
    Ru c A (exec (.Assign [.Name y py] (.ListComp elt [⟨target, iter, ifs, 0⟩] scope pos) spos) env) h P := by
  refine Ru.compU hclos n₀ (r.mono fun x h₁ r => r.mono fun it h₂ hh => ?_) hcell hkind hnames hs hsw hy hp
  obtain ⟨I, N, V, st, pr, e, S, fI, g₀₁, g₁₂, turn, fin⟩ := hh
  refine ⟨g₀₁.trans g₁₂, I, e, fun D C h₃ fD fC hDC g₃ hD hn => ?_⟩
  have fD₁ := g₁₂.gone fD
  have fC₁ := g₁₂.gone fC
  have DL : D ≠ env.locals := by obtain ⟨o, _, _, ho, _⟩ := g₀₁.ns n₀ List.not_mem_nil; exact (ne_of_fresh ho fD₁).symm
  refine RuK.going R stable bs b0 S fI g₁₂ fD fC hDC g₃ hD hn (turn C fC₁) fun h₄ m ws n nC lD a G => ?_
  refine ⟨g₀₁.trans G, m, nC, fun h₅ n₅ g₅ => fin h₅ D ws n (g₅.ls lD (by simp; exact ⟨hDC, DL⟩)) (a.mono fun _ _ q => stable _ _ _ _ _ g₅ q) (Gr.wash G.nil g₅ ?_) fD₁ n₅⟩
  intro y hy
  rcases List.mem_cons.mp hy with rfl | hy
  · exact .inl fC₁
  · exact .inr hy
end
end Mink

/-! MkU -/
set_option maxHeartbeats 4000000
namespace Mink
open PySem PySem.W PyProof.Rows PySem.Calls

noncomputable def ab (a : Int) : Int := if a < 0 then -a else a
noncomputable def mv (p : Pt) : Pt := (p.1 + 2, p.2 - 3)
noncomputable def tri (p : Pt) : Pt := (3 * p.1, 3 * p.2)
noncomputable def Sm (p : Pt) : Prop := -100 ≤ p.1 ∧ p.1 ≤ 100 ∧ -100 ≤ p.2 ∧ p.2 ≤ 100
noncomputable def Ti (p : Pt) : Prop := 0 ≤ p.1 ∧ p.1 ≤ 5 ∧ 0 ≤ p.2 ∧ p.2 ≤ 5
theorem Ti.sm {p : Pt} (h : Ti p) : Sm p := by unfold Ti at h; unfold Sm; omega
/-- what the plain law says of the two shapes -/
structure Facts (C D M : List Pt) : Prop where
  c4 : C.length ≤ 4
  d4 : D.length ≤ 4
  sC : ∀ p ∈ C, Ti p
  sD : ∀ p ∈ D, Ti p
  m : M = cor (sums C D)
  turned : cor (sums D C) = M
  aC : 0 ≤ area C
  aD : 0 ≤ area D
  aM : 0 ≤ area M
  mix : 0 ≤ area M - area C - area D
  mink : 4 * area C * area D ≤ (area M - area C - area D) * (area M - area C - area D)
  four : area (cor (sums C C)) = 4 * area C
  nine : area (cor (C.map tri)) = 9 * area C
  zx : ((steps M).map (·.1)).sum = 0
  zy : ((steps M).map (·.2)).sum = 0
  ax : ((steps M).map fun e => ab e.1).sum = ((steps C).map fun e => ab e.1).sum + ((steps D).map fun e => ab e.1).sum
  ay : ((steps M).map fun e => ab e.2).sum = ((steps C).map fun e => ab e.2).sum + ((steps D).map fun e => ab e.2).sum
  few : M.length ≤ max 1 C.length + max 1 D.length
  moved : area (cor (sums (C.map mv) D)) = area M

theorem sums_mem {C D : List Pt} {p : Pt} (h : p ∈ sums C D) : ∃ a ∈ C, ∃ b ∈ D, p = (a.1 + b.1, a.2 + b.2) := by
  unfold sums at h
  rw [List.mem_flatMap] at h
  obtain ⟨a, ha, h⟩ := h
  rw [List.mem_map] at h
  obtain ⟨b, hb, rfl⟩ := h
  exact ⟨a, ha, b, hb, rfl⟩
theorem sums_bd {C D : List Pt} (h₁ : ∀ p ∈ C, Sm p) (h₂ : ∀ p ∈ D, Sm p) : ∀ p ∈ sums C D, Bd p := fun p hp => by
  obtain ⟨a, ha, b, hb, rfl⟩ := sums_mem hp
  have := h₁ a ha
  have := h₂ b hb
  unfold Sm at *
  unfold Bd
  simp only
  omega
theorem Sm.bd {p : Pt} (h : Sm p) : Bd p := by unfold Sm at h; unfold Bd; omega
theorem sums_few {C D : List Pt} (h₁ : C.length ≤ 4) (h₂ : D.length ≤ 4) : (sums C D).length < 64 := by
  rw [sums_len]
  have := Nat.mul_le_mul h₁ h₂
  omega
/-- the three areas -/
noncomputable def La (h : Heap) (m : Str → Option Value) (x y z : Int) : Prop := ∃ l t₀ t₁ t₂, m "areas" = some (.ref l) ∧ h.IsList l #[.int x t₀, .int y t₁, .int z t₂]
theorem La.gr {h h' : Heap} {m : Str → Option Value} {x y z : Int} (a : La h m x y z) (g : Gr [] h h') : La h' m x y z := let ⟨l, t₀, t₁, t₂, e, i⟩ := a; ⟨l, t₀, t₁, t₂, e, g.lst i List.not_mem_nil⟩
theorem La.put {h h' : Heap} {L : Addr} {m m₀ m' : Str → Option Value} {x y z : Int} (a : La h m x y z) (n : h.Ns L m₀) (g : Gr [L] h h') (e' : m' "areas" = m "areas") : La h' m' x y z := let ⟨l, t₀, t₁, t₂, e, i⟩ := a; ⟨l, t₀, t₁, t₂, e'.trans e, g.lst i (notIn_one (ne_ns_ls n i).symm)⟩

section
variable {c : Cx} {A : Around} {h hT : Heap} {mg mb : Str → Option Value} {L a : Addr} {cd : Value} {m : Str → Option Value} {C D M : List Pt}


theorem law_14 (W : World' hT mg mb) (rm : Rm 6 A) (w : Lw hT h L m C D M) (F : Facts C D M) (ar : La h m (area C) (area D) (area M)) : Ru c A (execs ((bodyOf 12).drop 14) (env12 L a cd)) h fun f h' => f = .ret (.bool true) ∧ Gr [] hT h' := by
  obtain ⟨fs, FS⟩ := W.sum
  obtain ⟨os, _, _, _, _, _, hos, hds, _⟩ := FS.obj
  obtain ⟨fa, FA⟩ := W.area
  obtain ⟨oa, _, _, _, _, _, hoa, hda, _⟩ := FA.obj
  have hcm := F.c4
  have n := w.n
  have hn0 := w.new 0 (by decide)
  obtain ⟨l₁, c₁, x₁⟩ := w.one
  show Ru c _ (execs (_ :: _) _) _ _
  (first | ((with_reducible show Ru _ _ (eval (Expr.Name _ _) _) _ _); first | refine Ru.name (by assumption) (by first | assumption | rfl) ?_ | refine Ru.celln (by assumption) rfl ?_) | ((with_reducible show Ru _ _ (eval (Expr.Constant (Const.int _) _ _) _) _ _); refine Ru.intC fun _ => ?_) | ((with_reducible show Ru _ _ (eval (Expr.Tuple _ _ _) _) _ _); refine Ru.tupE ?_) | ((with_reducible show Ru _ _ (eval (Expr.Subscript _ _ _) _) _ _); refine Ru.sub ?_) | ((with_reducible show Ru _ _ (eval (Expr.BinOp _ _ _ _) _) _ _); refine Ru.bin ?_) | ((with_reducible show Ru _ _ (binaryOp Operator.Add (Value.int _ _) (Value.int _ _)) _ _); refine Ru.add fun _ => ?_) | ((with_reducible show Ru _ _ (binaryOp Operator.Sub (Value.int _ _) (Value.int _ _)) _ _); refine Ru.sb fun _ => ?_) | ((with_reducible show Ru _ _ (isTrue (Expr.Compare _ _ _ _) _ _) _ _); refine Ru.test ?_) | ((with_reducible show Ru _ _ (execs (_ :: _) _) _ _); refine Ru.cons ?_) | ((with_reducible show Ru _ _ (execs [] _) _ _); refine Ru.nil ?_) | ((with_reducible show Ru _ _ (exec (Stmt.If _ _ _ _) _) _ _); refine Ru.ifS ?_) | ((with_reducible show Ru _ _ (exec (Stmt.Assign [Expr.Name _ _] (Expr.BinOp _ _ _ _) _) _) _ _); refine Ru.asg ?_) | ((with_reducible show Ru _ _ (spliced (backTo _ (starEach (_ :: _) _))) _ _); refine Ru.spc ?_) | ((with_reducible show Ru _ _ (spliced (backTo _ (starEach [] _))) _ _); refine Ru.spn ?_) | ((with_reducible show Ru _ _ (exec (Stmt.Return _ _) _) _ _); refine Ru.ret ?_))
  refine Ru.compGA IsPt IsPt.stable (upto mv C) rfl (cl := []) rfl n ?_
  (first | ((with_reducible show Ru _ _ (eval (Expr.Name _ _) _) _ _); first | refine Ru.name (by assumption) (by first | assumption | rfl) ?_ | refine Ru.celln (by assumption) rfl ?_) | ((with_reducible show Ru _ _ (eval (Expr.Constant (Const.int _) _ _) _) _ _); refine Ru.intC fun _ => ?_) | ((with_reducible show Ru _ _ (eval (Expr.Tuple _ _ _) _) _ _); refine Ru.tupE ?_) | ((with_reducible show Ru _ _ (eval (Expr.Subscript _ _ _) _) _ _); refine Ru.sub ?_) | ((with_reducible show Ru _ _ (eval (Expr.BinOp _ _ _ _) _) _ _); refine Ru.bin ?_) | ((with_reducible show Ru _ _ (binaryOp Operator.Add (Value.int _ _) (Value.int _ _)) _ _); refine Ru.add fun _ => ?_) | ((with_reducible show Ru _ _ (binaryOp Operator.Sub (Value.int _ _) (Value.int _ _)) _ _); refine Ru.sb fun _ => ?_) | ((with_reducible show Ru _ _ (isTrue (Expr.Compare _ _ _ _) _ _) _ _); refine Ru.test ?_) | ((with_reducible show Ru _ _ (execs (_ :: _) _) _ _); refine Ru.cons ?_) | ((with_reducible show Ru _ _ (execs [] _) _ _); refine Ru.nil ?_) | ((with_reducible show Ru _ _ (exec (Stmt.If _ _ _ _) _) _ _); refine Ru.ifS ?_) | ((with_reducible show Ru _ _ (exec (Stmt.Assign [Expr.Name _ _] (Expr.BinOp _ _ _ _) _) _) _ _); refine Ru.asg ?_) | ((with_reducible show Ru _ _ (spliced (backTo _ (starEach (_ :: _) _))) _ _); refine Ru.spc ?_) | ((with_reducible show Ru _ _ (spliced (backTo _ (starEach [] _))) _ _); refine Ru.spn ?_) | ((with_reducible show Ru _ _ (exec (Stmt.Return _ _) _) _ _); refine Ru.ret ?_))
  obtain ⟨vs, nn, hl, hp⟩ := x₁
  have lv := hp.length
  refine Ru.iterL hl.isList fun I h₃ fI it g₃ => ?_
  have lI : l₁ ≠ I := ne_of_fresh hl fI
  refine ⟨I, _, _, _, _, rfl, Going.list rm.hh lI it (g₃.lst hl.isList List.not_mem_nil) (by simp; omega), fI, Gr.refl _ _, g₃, ?_, ?_⟩
  · intro Cc fC i v h' m' hi hv n' G
    have hi : i < C.length := by simp at hi; omega
    have hvv : vs[i]? = some v := by simpa using hv
    obtain ⟨p, ep, yp⟩ := hp.getL hvv
    refine Ru.aPair rm.hh n' (G.pt yp) fun h₄ t u n₄ g₄ => ?_
    have g₄ : Gr [Cc] h' h₄ := g₄
    refine Ru.tests0 ?_
    rw [if_pos rfl]
    repeat (first | ((with_reducible show Ru _ _ (eval (Expr.Name _ _) _) _ _); first | refine Ru.name (by assumption) (by first | assumption | rfl) ?_ | refine Ru.celln (by assumption) rfl ?_) | ((with_reducible show Ru _ _ (eval (Expr.Constant (Const.int _) _ _) _) _ _); refine Ru.intC fun _ => ?_) | ((with_reducible show Ru _ _ (eval (Expr.Tuple _ _ _) _) _ _); refine Ru.tupE ?_) | ((with_reducible show Ru _ _ (eval (Expr.Subscript _ _ _) _) _ _); refine Ru.sub ?_) | ((with_reducible show Ru _ _ (eval (Expr.BinOp _ _ _ _) _) _ _); refine Ru.bin ?_) | ((with_reducible show Ru _ _ (binaryOp Operator.Add (Value.int _ _) (Value.int _ _)) _ _); refine Ru.add fun _ => ?_) | ((with_reducible show Ru _ _ (binaryOp Operator.Sub (Value.int _ _) (Value.int _ _)) _ _); refine Ru.sb fun _ => ?_) | ((with_reducible show Ru _ _ (isTrue (Expr.Compare _ _ _ _) _ _) _ _); refine Ru.test ?_) | ((with_reducible show Ru _ _ (execs (_ :: _) _) _ _); refine Ru.cons ?_) | ((with_reducible show Ru _ _ (execs [] _) _ _); refine Ru.nil ?_) | ((with_reducible show Ru _ _ (exec (Stmt.If _ _ _ _) _) _ _); refine Ru.ifS ?_) | ((with_reducible show Ru _ _ (exec (Stmt.Assign [Expr.Name _ _] (Expr.BinOp _ _ _ _) _) _) _ _); refine Ru.asg ?_) | ((with_reducible show Ru _ _ (spliced (backTo _ (starEach (_ :: _) _))) _ _); refine Ru.spc ?_) | ((with_reducible show Ru _ _ (spliced (backTo _ (starEach [] _))) _ _); refine Ru.spn ?_) | ((with_reducible show Ru _ _ (exec (Stmt.Return _ _) _) _ _); refine Ru.ret ?_))
    refine Ru.newT (show 2 ≤ sizeLine by decide) fun h₈ t₈ g₈ => ?_
    exact ⟨⟨_, g₈.ns n₄ List.not_mem_nil⟩, g₄.trans g₈.nil, mv p, ⟨_, _, _, rfl, t₈⟩, upto_succ _ _ ep⟩
  · intro h' Dd ws k lD al G fD n'
    have e : (List.toArray vs).size = C.length := by simp [lv]
    rw [e, upto_all] at al
    have xm : PtL h' Dd (C.map mv) := ⟨ws, k, lD, al⟩
    have G : Gr [L] h h' := G
    have w' := w.put G n' rfl
    have ar' := ar.put n G (m' := fun z => if z = "moved" then some (.ref Dd) else m z) rfl
    obtain ⟨l₂, c₂, x₂⟩ := w'.other
    have U' := w'.U
    obtain ⟨la, t₀, t₁, t₂, ea, ia⟩ := ar'
    have smv : ∀ p ∈ C.map mv, Sm p := by
      intro p hp
      obtain ⟨q, hq, rfl⟩ := List.mem_map.mp hp
      have := F.sC q hq
      unfold Ti at this
      unfold Sm mv
      simp only
      omega
    have bs := sums_bd smv fun p hp => (F.sD p hp).sm
    repeat (first | ((with_reducible show Ru _ _ (eval (Expr.Name _ _) _) _ _); first | refine Ru.name (by assumption) (by first | assumption | rfl) ?_ | refine Ru.celln (by assumption) rfl ?_) | ((with_reducible show Ru _ _ (eval (Expr.Constant (Const.int _) _ _) _) _ _); refine Ru.intC fun _ => ?_) | ((with_reducible show Ru _ _ (eval (Expr.Tuple _ _ _) _) _ _); refine Ru.tupE ?_) | ((with_reducible show Ru _ _ (eval (Expr.Subscript _ _ _) _) _ _); refine Ru.sub ?_) | ((with_reducible show Ru _ _ (eval (Expr.BinOp _ _ _ _) _) _ _); refine Ru.bin ?_) | ((with_reducible show Ru _ _ (binaryOp Operator.Add (Value.int _ _) (Value.int _ _)) _ _); refine Ru.add fun _ => ?_) | ((with_reducible show Ru _ _ (binaryOp Operator.Sub (Value.int _ _) (Value.int _ _)) _ _); refine Ru.sb fun _ => ?_) | ((with_reducible show Ru _ _ (isTrue (Expr.Compare _ _ _ _) _ _) _ _); refine Ru.test ?_) | ((with_reducible show Ru _ _ (execs (_ :: _) _) _ _); refine Ru.cons ?_) | ((with_reducible show Ru _ _ (execs [] _) _ _); refine Ru.nil ?_) | ((with_reducible show Ru _ _ (exec (Stmt.If _ _ _ _) _) _ _); refine Ru.ifS ?_) | ((with_reducible show Ru _ _ (exec (Stmt.Assign [Expr.Name _ _] (Expr.BinOp _ _ _ _) _) _) _ _); refine Ru.asg ?_) | ((with_reducible show Ru _ _ (spliced (backTo _ (starEach (_ :: _) _))) _ _); refine Ru.spc ?_) | ((with_reducible show Ru _ _ (spliced (backTo _ (starEach [] _))) _ _); refine Ru.spn ?_) | ((with_reducible show Ru _ _ (exec (Stmt.Return _ _) _) _ _); refine Ru.ret ?_))
    refine Ru.callN (Ru.glob (W.T.g.keeps U'.keeps) FA.glob ?_)
    refine Ru.withF (o := oa) hda ?_
    (first | ((with_reducible show Ru _ _ (eval (Expr.Name _ _) _) _ _); first | refine Ru.name (by assumption) (by first | assumption | rfl) ?_ | refine Ru.celln (by assumption) rfl ?_) | ((with_reducible show Ru _ _ (eval (Expr.Constant (Const.int _) _ _) _) _ _); refine Ru.intC fun _ => ?_) | ((with_reducible show Ru _ _ (eval (Expr.Tuple _ _ _) _) _ _); refine Ru.tupE ?_) | ((with_reducible show Ru _ _ (eval (Expr.Subscript _ _ _) _) _ _); refine Ru.sub ?_) | ((with_reducible show Ru _ _ (eval (Expr.BinOp _ _ _ _) _) _ _); refine Ru.bin ?_) | ((with_reducible show Ru _ _ (binaryOp Operator.Add (Value.int _ _) (Value.int _ _)) _ _); refine Ru.add fun _ => ?_) | ((with_reducible show Ru _ _ (binaryOp Operator.Sub (Value.int _ _) (Value.int _ _)) _ _); refine Ru.sb fun _ => ?_) | ((with_reducible show Ru _ _ (isTrue (Expr.Compare _ _ _ _) _ _) _ _); refine Ru.test ?_) | ((with_reducible show Ru _ _ (execs (_ :: _) _) _ _); refine Ru.cons ?_) | ((with_reducible show Ru _ _ (execs [] _) _ _); refine Ru.nil ?_) | ((with_reducible show Ru _ _ (exec (Stmt.If _ _ _ _) _) _ _); refine Ru.ifS ?_) | ((with_reducible show Ru _ _ (exec (Stmt.Assign [Expr.Name _ _] (Expr.BinOp _ _ _ _) _) _) _ _); refine Ru.asg ?_) | ((with_reducible show Ru _ _ (spliced (backTo _ (starEach (_ :: _) _))) _ _); refine Ru.spc ?_) | ((with_reducible show Ru _ _ (spliced (backTo _ (starEach [] _))) _ _); refine Ru.spn ?_) | ((with_reducible show Ru _ _ (exec (Stmt.Return _ _) _) _ _); refine Ru.ret ?_))
    refine Ru.callN (Ru.glob (W.T.g.keeps U'.keeps) FS.glob ?_)
    refine Ru.withF (o := os) hds ?_
    repeat (first | ((with_reducible show Ru _ _ (eval (Expr.Name _ _) _) _ _); first | refine Ru.name (by assumption) (by first | assumption | rfl) ?_ | refine Ru.celln (by assumption) rfl ?_) | ((with_reducible show Ru _ _ (eval (Expr.Constant (Const.int _) _ _) _) _ _); refine Ru.intC fun _ => ?_) | ((with_reducible show Ru _ _ (eval (Expr.Tuple _ _ _) _) _ _); refine Ru.tupE ?_) | ((with_reducible show Ru _ _ (eval (Expr.Subscript _ _ _) _) _ _); refine Ru.sub ?_) | ((with_reducible show Ru _ _ (eval (Expr.BinOp _ _ _ _) _) _ _); refine Ru.bin ?_) | ((with_reducible show Ru _ _ (binaryOp Operator.Add (Value.int _ _) (Value.int _ _)) _ _); refine Ru.add fun _ => ?_) | ((with_reducible show Ru _ _ (binaryOp Operator.Sub (Value.int _ _) (Value.int _ _)) _ _); refine Ru.sb fun _ => ?_) | ((with_reducible show Ru _ _ (isTrue (Expr.Compare _ _ _ _) _ _) _ _); refine Ru.test ?_) | ((with_reducible show Ru _ _ (execs (_ :: _) _) _ _); refine Ru.cons ?_) | ((with_reducible show Ru _ _ (execs [] _) _ _); refine Ru.nil ?_) | ((with_reducible show Ru _ _ (exec (Stmt.If _ _ _ _) _) _ _); refine Ru.ifS ?_) | ((with_reducible show Ru _ _ (exec (Stmt.Assign [Expr.Name _ _] (Expr.BinOp _ _ _ _) _) _) _ _); refine Ru.asg ?_) | ((with_reducible show Ru _ _ (spliced (backTo _ (starEach (_ :: _) _))) _ _); refine Ru.spc ?_) | ((with_reducible show Ru _ _ (spliced (backTo _ (starEach [] _))) _ _); refine Ru.spn ?_) | ((with_reducible show Ru _ _ (exec (Stmt.Return _ _) _) _ _); refine Ru.ret ?_))
    refine ⟨U'.keeps _ _ hos, ?_⟩
    have hfew := sums_few (C := C.map mv) (D := D) (by simp; omega) F.d4
    refine spec_sum W FS (rm.less (by decide)) U' xm x₂ (by simp; omega) (by have := F.d4; omega) hfew bs fun h₅ a₅ g₅ x₅ _ => ?_
    have n₅ := g₅.ns n' List.not_mem_nil
    have i₅ := g₅.lst ia List.not_mem_nil
    have U₅ := U'.trans g₅
    repeat (first | ((with_reducible show Ru _ _ (eval (Expr.Name _ _) _) _ _); first | refine Ru.name (by assumption) (by first | assumption | rfl) ?_ | refine Ru.celln (by assumption) rfl ?_) | ((with_reducible show Ru _ _ (eval (Expr.Constant (Const.int _) _ _) _) _ _); refine Ru.intC fun _ => ?_) | ((with_reducible show Ru _ _ (eval (Expr.Tuple _ _ _) _) _ _); refine Ru.tupE ?_) | ((with_reducible show Ru _ _ (eval (Expr.Subscript _ _ _) _) _ _); refine Ru.sub ?_) | ((with_reducible show Ru _ _ (eval (Expr.BinOp _ _ _ _) _) _ _); refine Ru.bin ?_) | ((with_reducible show Ru _ _ (binaryOp Operator.Add (Value.int _ _) (Value.int _ _)) _ _); refine Ru.add fun _ => ?_) | ((with_reducible show Ru _ _ (binaryOp Operator.Sub (Value.int _ _) (Value.int _ _)) _ _); refine Ru.sb fun _ => ?_) | ((with_reducible show Ru _ _ (isTrue (Expr.Compare _ _ _ _) _ _) _ _); refine Ru.test ?_) | ((with_reducible show Ru _ _ (execs (_ :: _) _) _ _); refine Ru.cons ?_) | ((with_reducible show Ru _ _ (execs [] _) _ _); refine Ru.nil ?_) | ((with_reducible show Ru _ _ (exec (Stmt.If _ _ _ _) _) _ _); refine Ru.ifS ?_) | ((with_reducible show Ru _ _ (exec (Stmt.Assign [Expr.Name _ _] (Expr.BinOp _ _ _ _) _) _) _ _); refine Ru.asg ?_) | ((with_reducible show Ru _ _ (spliced (backTo _ (starEach (_ :: _) _))) _ _); refine Ru.spc ?_) | ((with_reducible show Ru _ _ (spliced (backTo _ (starEach [] _))) _ _); refine Ru.spn ?_) | ((with_reducible show Ru _ _ (exec (Stmt.Return _ _) _) _ _); refine Ru.ret ?_))
    refine ⟨U₅.keeps _ _ hoa, ?_⟩
    have hcl := cor_len (sums (C.map mv) D)
    refine spec_area W FA (rm.less (by decide)) U₅ x₅ (by omega) (fun p hp => bs p (cor_mem _ p hp)) fun h₆ t₆ g₆ => ?_
    have n₆ := g₆.ns n₅ List.not_mem_nil
    have i₆ := g₆.lst i₅ List.not_mem_nil
    have U₆ := U₅.trans g₆
    repeat (first | ((with_reducible show Ru _ _ (eval (Expr.Name _ _) _) _ _); first | refine Ru.name (by assumption) (by first | assumption | rfl) ?_ | refine Ru.celln (by assumption) rfl ?_) | ((with_reducible show Ru _ _ (eval (Expr.Constant (Const.int _) _ _) _) _ _); refine Ru.intC fun _ => ?_) | ((with_reducible show Ru _ _ (eval (Expr.Tuple _ _ _) _) _ _); refine Ru.tupE ?_) | ((with_reducible show Ru _ _ (eval (Expr.Subscript _ _ _) _) _ _); refine Ru.sub ?_) | ((with_reducible show Ru _ _ (eval (Expr.BinOp _ _ _ _) _) _ _); refine Ru.bin ?_) | ((with_reducible show Ru _ _ (binaryOp Operator.Add (Value.int _ _) (Value.int _ _)) _ _); refine Ru.add fun _ => ?_) | ((with_reducible show Ru _ _ (binaryOp Operator.Sub (Value.int _ _) (Value.int _ _)) _ _); refine Ru.sb fun _ => ?_) | ((with_reducible show Ru _ _ (isTrue (Expr.Compare _ _ _ _) _ _) _ _); refine Ru.test ?_) | ((with_reducible show Ru _ _ (execs (_ :: _) _) _ _); refine Ru.cons ?_) | ((with_reducible show Ru _ _ (execs [] _) _ _); refine Ru.nil ?_) | ((with_reducible show Ru _ _ (exec (Stmt.If _ _ _ _) _) _ _); refine Ru.ifS ?_) | ((with_reducible show Ru _ _ (exec (Stmt.Assign [Expr.Name _ _] (Expr.BinOp _ _ _ _) _) _) _ _); refine Ru.asg ?_) | ((with_reducible show Ru _ _ (spliced (backTo _ (starEach (_ :: _) _))) _ _); refine Ru.spc ?_) | ((with_reducible show Ru _ _ (spliced (backTo _ (starEach [] _))) _ _); refine Ru.spn ?_) | ((with_reducible show Ru _ _ (exec (Stmt.Return _ _) _) _ _); refine Ru.ret ?_))
    refine Ru.lstAt i₆ (by decide) (by decide) rfl ?_
    refine Ru.ne ⟨_, rfl, ?_⟩
    rw [F.moved, if_neg (by simp)]
    refine Ru.nil ?_
    exact law_16 W (rm.less (by decide)) ((w'.gr g₅).gr g₆) (by have := F.few; have := F.c4; have := F.d4; omega)

theorem law_13 (W : World' hT mg mb) (rm : Rm 6 A) (w : Lw hT h L m C D M) (F : Facts C D M) (ar : La h m (area C) (area D) (area M)) : Ru c A (execs ((bodyOf 12).drop 13) (env12 L a cd)) h fun f h' => f = .ret (.bool true) ∧ Gr [] hT h' := by
  have n := w.n
  have U := w.U
  obtain ⟨l₁, c₁, x₁⟩ := w.one
  obtain ⟨l₂, c₂, x₂⟩ := w.other
  obtain ⟨l₃, e₃, x₃⟩ := w.both
  have hl := W.none "len" (by simp)
  have hm := W.none "max" (by simp)
  have hc := F.c4
  have hd := F.d4
  have hf := F.few
  have nb := W.T.b
  show Ru c _ (execs (_ :: _) _) _ _
  repeat (first | ((with_reducible show Ru _ _ (eval (Expr.Name _ _) _) _ _); first | refine Ru.name (by assumption) (by first | assumption | rfl) ?_ | refine Ru.celln (by assumption) rfl ?_) | ((with_reducible show Ru _ _ (eval (Expr.Constant (Const.int _) _ _) _) _ _); refine Ru.intC fun _ => ?_) | ((with_reducible show Ru _ _ (eval (Expr.Tuple _ _ _) _) _ _); refine Ru.tupE ?_) | ((with_reducible show Ru _ _ (eval (Expr.Subscript _ _ _) _) _ _); refine Ru.sub ?_) | ((with_reducible show Ru _ _ (eval (Expr.BinOp _ _ _ _) _) _ _); refine Ru.bin ?_) | ((with_reducible show Ru _ _ (binaryOp Operator.Add (Value.int _ _) (Value.int _ _)) _ _); refine Ru.add fun _ => ?_) | ((with_reducible show Ru _ _ (binaryOp Operator.Sub (Value.int _ _) (Value.int _ _)) _ _); refine Ru.sb fun _ => ?_) | ((with_reducible show Ru _ _ (isTrue (Expr.Compare _ _ _ _) _ _) _ _); refine Ru.test ?_) | ((with_reducible show Ru _ _ (execs (_ :: _) _) _ _); refine Ru.cons ?_) | ((with_reducible show Ru _ _ (execs [] _) _ _); refine Ru.nil ?_) | ((with_reducible show Ru _ _ (exec (Stmt.If _ _ _ _) _) _ _); refine Ru.ifS ?_) | ((with_reducible show Ru _ _ (exec (Stmt.Assign [Expr.Name _ _] (Expr.BinOp _ _ _ _) _) _) _ _); refine Ru.asg ?_) | ((with_reducible show Ru _ _ (spliced (backTo _ (starEach (_ :: _) _))) _ _); refine Ru.spc ?_) | ((with_reducible show Ru _ _ (spliced (backTo _ (starEach [] _))) _ _); refine Ru.spn ?_) | ((with_reducible show Ru _ _ (exec (Stmt.Return _ _) _) _ _); refine Ru.ret ?_))
  refine Ru.callN (Ru.blt (W.T.g.keeps U.keeps) hl (W.T.b.keeps U.keeps) W.len ?_)
  refine Ru.withB ?_
  repeat (first | ((with_reducible show Ru _ _ (eval (Expr.Name _ _) _) _ _); first | refine Ru.name (by assumption) (by first | assumption | rfl) ?_ | refine Ru.celln (by assumption) rfl ?_) | ((with_reducible show Ru _ _ (eval (Expr.Constant (Const.int _) _ _) _) _ _); refine Ru.intC fun _ => ?_) | ((with_reducible show Ru _ _ (eval (Expr.Tuple _ _ _) _) _ _); refine Ru.tupE ?_) | ((with_reducible show Ru _ _ (eval (Expr.Subscript _ _ _) _) _ _); refine Ru.sub ?_) | ((with_reducible show Ru _ _ (eval (Expr.BinOp _ _ _ _) _) _ _); refine Ru.bin ?_) | ((with_reducible show Ru _ _ (binaryOp Operator.Add (Value.int _ _) (Value.int _ _)) _ _); refine Ru.add fun _ => ?_) | ((with_reducible show Ru _ _ (binaryOp Operator.Sub (Value.int _ _) (Value.int _ _)) _ _); refine Ru.sb fun _ => ?_) | ((with_reducible show Ru _ _ (isTrue (Expr.Compare _ _ _ _) _ _) _ _); refine Ru.test ?_) | ((with_reducible show Ru _ _ (execs (_ :: _) _) _ _); refine Ru.cons ?_) | ((with_reducible show Ru _ _ (execs [] _) _ _); refine Ru.nil ?_) | ((with_reducible show Ru _ _ (exec (Stmt.If _ _ _ _) _) _ _); refine Ru.ifS ?_) | ((with_reducible show Ru _ _ (exec (Stmt.Assign [Expr.Name _ _] (Expr.BinOp _ _ _ _) _) _) _ _); refine Ru.asg ?_) | ((with_reducible show Ru _ _ (spliced (backTo _ (starEach (_ :: _) _))) _ _); refine Ru.spc ?_) | ((with_reducible show Ru _ _ (spliced (backTo _ (starEach [] _))) _ _); refine Ru.spn ?_) | ((with_reducible show Ru _ _ (exec (Stmt.Return _ _) _) _ _); refine Ru.ret ?_))
  refine Ru.lenP x₃ (by omega) fun u => ?_
  repeat (first | ((with_reducible show Ru _ _ (eval (Expr.Name _ _) _) _ _); first | refine Ru.name (by assumption) (by first | assumption | rfl) ?_ | refine Ru.celln (by assumption) rfl ?_) | ((with_reducible show Ru _ _ (eval (Expr.Constant (Const.int _) _ _) _) _ _); refine Ru.intC fun _ => ?_) | ((with_reducible show Ru _ _ (eval (Expr.Tuple _ _ _) _) _ _); refine Ru.tupE ?_) | ((with_reducible show Ru _ _ (eval (Expr.Subscript _ _ _) _) _ _); refine Ru.sub ?_) | ((with_reducible show Ru _ _ (eval (Expr.BinOp _ _ _ _) _) _ _); refine Ru.bin ?_) | ((with_reducible show Ru _ _ (binaryOp Operator.Add (Value.int _ _) (Value.int _ _)) _ _); refine Ru.add fun _ => ?_) | ((with_reducible show Ru _ _ (binaryOp Operator.Sub (Value.int _ _) (Value.int _ _)) _ _); refine Ru.sb fun _ => ?_) | ((with_reducible show Ru _ _ (isTrue (Expr.Compare _ _ _ _) _ _) _ _); refine Ru.test ?_) | ((with_reducible show Ru _ _ (execs (_ :: _) _) _ _); refine Ru.cons ?_) | ((with_reducible show Ru _ _ (execs [] _) _ _); refine Ru.nil ?_) | ((with_reducible show Ru _ _ (exec (Stmt.If _ _ _ _) _) _ _); refine Ru.ifS ?_) | ((with_reducible show Ru _ _ (exec (Stmt.Assign [Expr.Name _ _] (Expr.BinOp _ _ _ _) _) _) _ _); refine Ru.asg ?_) | ((with_reducible show Ru _ _ (spliced (backTo _ (starEach (_ :: _) _))) _ _); refine Ru.spc ?_) | ((with_reducible show Ru _ _ (spliced (backTo _ (starEach [] _))) _ _); refine Ru.spn ?_) | ((with_reducible show Ru _ _ (exec (Stmt.Return _ _) _) _ _); refine Ru.ret ?_))
  refine Ru.callN (Ru.blt (W.T.g.keeps U.keeps) hm (W.T.b.keeps U.keeps) W.max ?_)
  refine Ru.withB ?_
  repeat (first | ((with_reducible show Ru _ _ (eval (Expr.Name _ _) _) _ _); first | refine Ru.name (by assumption) (by first | assumption | rfl) ?_ | refine Ru.celln (by assumption) rfl ?_) | ((with_reducible show Ru _ _ (eval (Expr.Constant (Const.int _) _ _) _) _ _); refine Ru.intC fun _ => ?_) | ((with_reducible show Ru _ _ (eval (Expr.Tuple _ _ _) _) _ _); refine Ru.tupE ?_) | ((with_reducible show Ru _ _ (eval (Expr.Subscript _ _ _) _) _ _); refine Ru.sub ?_) | ((with_reducible show Ru _ _ (eval (Expr.BinOp _ _ _ _) _) _ _); refine Ru.bin ?_) | ((with_reducible show Ru _ _ (binaryOp Operator.Add (Value.int _ _) (Value.int _ _)) _ _); refine Ru.add fun _ => ?_) | ((with_reducible show Ru _ _ (binaryOp Operator.Sub (Value.int _ _) (Value.int _ _)) _ _); refine Ru.sb fun _ => ?_) | ((with_reducible show Ru _ _ (isTrue (Expr.Compare _ _ _ _) _ _) _ _); refine Ru.test ?_) | ((with_reducible show Ru _ _ (execs (_ :: _) _) _ _); refine Ru.cons ?_) | ((with_reducible show Ru _ _ (execs [] _) _ _); refine Ru.nil ?_) | ((with_reducible show Ru _ _ (exec (Stmt.If _ _ _ _) _) _ _); refine Ru.ifS ?_) | ((with_reducible show Ru _ _ (exec (Stmt.Assign [Expr.Name _ _] (Expr.BinOp _ _ _ _) _) _) _ _); refine Ru.asg ?_) | ((with_reducible show Ru _ _ (spliced (backTo _ (starEach (_ :: _) _))) _ _); refine Ru.spc ?_) | ((with_reducible show Ru _ _ (spliced (backTo _ (starEach [] _))) _ _); refine Ru.spn ?_) | ((with_reducible show Ru _ _ (exec (Stmt.Return _ _) _) _ _); refine Ru.ret ?_))
  refine Ru.callN (Ru.blt (W.T.g.keeps U.keeps) hl (W.T.b.keeps U.keeps) W.len ?_)
  refine Ru.withB ?_
  repeat (first | ((with_reducible show Ru _ _ (eval (Expr.Name _ _) _) _ _); first | refine Ru.name (by assumption) (by first | assumption | rfl) ?_ | refine Ru.celln (by assumption) rfl ?_) | ((with_reducible show Ru _ _ (eval (Expr.Constant (Const.int _) _ _) _) _ _); refine Ru.intC fun _ => ?_) | ((with_reducible show Ru _ _ (eval (Expr.Tuple _ _ _) _) _ _); refine Ru.tupE ?_) | ((with_reducible show Ru _ _ (eval (Expr.Subscript _ _ _) _) _ _); refine Ru.sub ?_) | ((with_reducible show Ru _ _ (eval (Expr.BinOp _ _ _ _) _) _ _); refine Ru.bin ?_) | ((with_reducible show Ru _ _ (binaryOp Operator.Add (Value.int _ _) (Value.int _ _)) _ _); refine Ru.add fun _ => ?_) | ((with_reducible show Ru _ _ (binaryOp Operator.Sub (Value.int _ _) (Value.int _ _)) _ _); refine Ru.sb fun _ => ?_) | ((with_reducible show Ru _ _ (isTrue (Expr.Compare _ _ _ _) _ _) _ _); refine Ru.test ?_) | ((with_reducible show Ru _ _ (execs (_ :: _) _) _ _); refine Ru.cons ?_) | ((with_reducible show Ru _ _ (execs [] _) _ _); refine Ru.nil ?_) | ((with_reducible show Ru _ _ (exec (Stmt.If _ _ _ _) _) _ _); refine Ru.ifS ?_) | ((with_reducible show Ru _ _ (exec (Stmt.Assign [Expr.Name _ _] (Expr.BinOp _ _ _ _) _) _) _ _); refine Ru.asg ?_) | ((with_reducible show Ru _ _ (spliced (backTo _ (starEach (_ :: _) _))) _ _); refine Ru.spc ?_) | ((with_reducible show Ru _ _ (spliced (backTo _ (starEach [] _))) _ _); refine Ru.spn ?_) | ((with_reducible show Ru _ _ (exec (Stmt.Return _ _) _) _ _); refine Ru.ret ?_))
  refine Ru.lenP x₁ (by omega) fun u => ?_
  repeat (first | ((with_reducible show Ru _ _ (eval (Expr.Name _ _) _) _ _); first | refine Ru.name (by assumption) (by first | assumption | rfl) ?_ | refine Ru.celln (by assumption) rfl ?_) | ((with_reducible show Ru _ _ (eval (Expr.Constant (Const.int _) _ _) _) _ _); refine Ru.intC fun _ => ?_) | ((with_reducible show Ru _ _ (eval (Expr.Tuple _ _ _) _) _ _); refine Ru.tupE ?_) | ((with_reducible show Ru _ _ (eval (Expr.Subscript _ _ _) _) _ _); refine Ru.sub ?_) | ((with_reducible show Ru _ _ (eval (Expr.BinOp _ _ _ _) _) _ _); refine Ru.bin ?_) | ((with_reducible show Ru _ _ (binaryOp Operator.Add (Value.int _ _) (Value.int _ _)) _ _); refine Ru.add fun _ => ?_) | ((with_reducible show Ru _ _ (binaryOp Operator.Sub (Value.int _ _) (Value.int _ _)) _ _); refine Ru.sb fun _ => ?_) | ((with_reducible show Ru _ _ (isTrue (Expr.Compare _ _ _ _) _ _) _ _); refine Ru.test ?_) | ((with_reducible show Ru _ _ (execs (_ :: _) _) _ _); refine Ru.cons ?_) | ((with_reducible show Ru _ _ (execs [] _) _ _); refine Ru.nil ?_) | ((with_reducible show Ru _ _ (exec (Stmt.If _ _ _ _) _) _ _); refine Ru.ifS ?_) | ((with_reducible show Ru _ _ (exec (Stmt.Assign [Expr.Name _ _] (Expr.BinOp _ _ _ _) _) _) _ _); refine Ru.asg ?_) | ((with_reducible show Ru _ _ (spliced (backTo _ (starEach (_ :: _) _))) _ _); refine Ru.spc ?_) | ((with_reducible show Ru _ _ (spliced (backTo _ (starEach [] _))) _ _); refine Ru.spn ?_) | ((with_reducible show Ru _ _ (exec (Stmt.Return _ _) _) _ _); refine Ru.ret ?_))
  refine Ru.max2 rm.hh fun h₁ u₁ g₁ => ?_
  have U₁ := U.trans g₁
  have n₁ := g₁.ns n List.not_mem_nil
  have c₂ := g₁.cell c₂ List.not_mem_nil
  have x₂ := x₂.gr0 g₁
  refine Ru.callN (Ru.blt (W.T.g.keeps U₁.keeps) hm (W.T.b.keeps U₁.keeps) W.max ?_)
  refine Ru.withB ?_
  repeat (first | ((with_reducible show Ru _ _ (eval (Expr.Name _ _) _) _ _); first | refine Ru.name (by assumption) (by first | assumption | rfl) ?_ | refine Ru.celln (by assumption) rfl ?_) | ((with_reducible show Ru _ _ (eval (Expr.Constant (Const.int _) _ _) _) _ _); refine Ru.intC fun _ => ?_) | ((with_reducible show Ru _ _ (eval (Expr.Tuple _ _ _) _) _ _); refine Ru.tupE ?_) | ((with_reducible show Ru _ _ (eval (Expr.Subscript _ _ _) _) _ _); refine Ru.sub ?_) | ((with_reducible show Ru _ _ (eval (Expr.BinOp _ _ _ _) _) _ _); refine Ru.bin ?_) | ((with_reducible show Ru _ _ (binaryOp Operator.Add (Value.int _ _) (Value.int _ _)) _ _); refine Ru.add fun _ => ?_) | ((with_reducible show Ru _ _ (binaryOp Operator.Sub (Value.int _ _) (Value.int _ _)) _ _); refine Ru.sb fun _ => ?_) | ((with_reducible show Ru _ _ (isTrue (Expr.Compare _ _ _ _) _ _) _ _); refine Ru.test ?_) | ((with_reducible show Ru _ _ (execs (_ :: _) _) _ _); refine Ru.cons ?_) | ((with_reducible show Ru _ _ (execs [] _) _ _); refine Ru.nil ?_) | ((with_reducible show Ru _ _ (exec (Stmt.If _ _ _ _) _) _ _); refine Ru.ifS ?_) | ((with_reducible show Ru _ _ (exec (Stmt.Assign [Expr.Name _ _] (Expr.BinOp _ _ _ _) _) _) _ _); refine Ru.asg ?_) | ((with_reducible show Ru _ _ (spliced (backTo _ (starEach (_ :: _) _))) _ _); refine Ru.spc ?_) | ((with_reducible show Ru _ _ (spliced (backTo _ (starEach [] _))) _ _); refine Ru.spn ?_) | ((with_reducible show Ru _ _ (exec (Stmt.Return _ _) _) _ _); refine Ru.ret ?_))
  refine Ru.callN (Ru.blt (W.T.g.keeps U₁.keeps) hl (W.T.b.keeps U₁.keeps) W.len ?_)
  refine Ru.withB ?_
  repeat (first | ((with_reducible show Ru _ _ (eval (Expr.Name _ _) _) _ _); first | refine Ru.name (by assumption) (by first | assumption | rfl) ?_ | refine Ru.celln (by assumption) rfl ?_) | ((with_reducible show Ru _ _ (eval (Expr.Constant (Const.int _) _ _) _) _ _); refine Ru.intC fun _ => ?_) | ((with_reducible show Ru _ _ (eval (Expr.Tuple _ _ _) _) _ _); refine Ru.tupE ?_) | ((with_reducible show Ru _ _ (eval (Expr.Subscript _ _ _) _) _ _); refine Ru.sub ?_) | ((with_reducible show Ru _ _ (eval (Expr.BinOp _ _ _ _) _) _ _); refine Ru.bin ?_) | ((with_reducible show Ru _ _ (binaryOp Operator.Add (Value.int _ _) (Value.int _ _)) _ _); refine Ru.add fun _ => ?_) | ((with_reducible show Ru _ _ (binaryOp Operator.Sub (Value.int _ _) (Value.int _ _)) _ _); refine Ru.sb fun _ => ?_) | ((with_reducible show Ru _ _ (isTrue (Expr.Compare _ _ _ _) _ _) _ _); refine Ru.test ?_) | ((with_reducible show Ru _ _ (execs (_ :: _) _) _ _); refine Ru.cons ?_) | ((with_reducible show Ru _ _ (execs [] _) _ _); refine Ru.nil ?_) | ((with_reducible show Ru _ _ (exec (Stmt.If _ _ _ _) _) _ _); refine Ru.ifS ?_) | ((with_reducible show Ru _ _ (exec (Stmt.Assign [Expr.Name _ _] (Expr.BinOp _ _ _ _) _) _) _ _); refine Ru.asg ?_) | ((with_reducible show Ru _ _ (spliced (backTo _ (starEach (_ :: _) _))) _ _); refine Ru.spc ?_) | ((with_reducible show Ru _ _ (spliced (backTo _ (starEach [] _))) _ _); refine Ru.spn ?_) | ((with_reducible show Ru _ _ (exec (Stmt.Return _ _) _) _ _); refine Ru.ret ?_))
  refine Ru.lenP x₂ (by omega) fun u => ?_
  repeat (first | ((with_reducible show Ru _ _ (eval (Expr.Name _ _) _) _ _); first | refine Ru.name (by assumption) (by first | assumption | rfl) ?_ | refine Ru.celln (by assumption) rfl ?_) | ((with_reducible show Ru _ _ (eval (Expr.Constant (Const.int _) _ _) _) _ _); refine Ru.intC fun _ => ?_) | ((with_reducible show Ru _ _ (eval (Expr.Tuple _ _ _) _) _ _); refine Ru.tupE ?_) | ((with_reducible show Ru _ _ (eval (Expr.Subscript _ _ _) _) _ _); refine Ru.sub ?_) | ((with_reducible show Ru _ _ (eval (Expr.BinOp _ _ _ _) _) _ _); refine Ru.bin ?_) | ((with_reducible show Ru _ _ (binaryOp Operator.Add (Value.int _ _) (Value.int _ _)) _ _); refine Ru.add fun _ => ?_) | ((with_reducible show Ru _ _ (binaryOp Operator.Sub (Value.int _ _) (Value.int _ _)) _ _); refine Ru.sb fun _ => ?_) | ((with_reducible show Ru _ _ (isTrue (Expr.Compare _ _ _ _) _ _) _ _); refine Ru.test ?_) | ((with_reducible show Ru _ _ (execs (_ :: _) _) _ _); refine Ru.cons ?_) | ((with_reducible show Ru _ _ (execs [] _) _ _); refine Ru.nil ?_) | ((with_reducible show Ru _ _ (exec (Stmt.If _ _ _ _) _) _ _); refine Ru.ifS ?_) | ((with_reducible show Ru _ _ (exec (Stmt.Assign [Expr.Name _ _] (Expr.BinOp _ _ _ _) _) _) _ _); refine Ru.asg ?_) | ((with_reducible show Ru _ _ (spliced (backTo _ (starEach (_ :: _) _))) _ _); refine Ru.spc ?_) | ((with_reducible show Ru _ _ (spliced (backTo _ (starEach [] _))) _ _); refine Ru.spn ?_) | ((with_reducible show Ru _ _ (exec (Stmt.Return _ _) _) _ _); refine Ru.ret ?_))
  refine Ru.max2 rm.hh fun h₂ u₂ g₂ => ?_
  repeat (first | ((with_reducible show Ru _ _ (eval (Expr.Name _ _) _) _ _); first | refine Ru.name (by assumption) (by first | assumption | rfl) ?_ | refine Ru.celln (by assumption) rfl ?_) | ((with_reducible show Ru _ _ (eval (Expr.Constant (Const.int _) _ _) _) _ _); refine Ru.intC fun _ => ?_) | ((with_reducible show Ru _ _ (eval (Expr.Tuple _ _ _) _) _ _); refine Ru.tupE ?_) | ((with_reducible show Ru _ _ (eval (Expr.Subscript _ _ _) _) _ _); refine Ru.sub ?_) | ((with_reducible show Ru _ _ (eval (Expr.BinOp _ _ _ _) _) _ _); refine Ru.bin ?_) | ((with_reducible show Ru _ _ (binaryOp Operator.Add (Value.int _ _) (Value.int _ _)) _ _); refine Ru.add fun _ => ?_) | ((with_reducible show Ru _ _ (binaryOp Operator.Sub (Value.int _ _) (Value.int _ _)) _ _); refine Ru.sb fun _ => ?_) | ((with_reducible show Ru _ _ (isTrue (Expr.Compare _ _ _ _) _ _) _ _); refine Ru.test ?_) | ((with_reducible show Ru _ _ (execs (_ :: _) _) _ _); refine Ru.cons ?_) | ((with_reducible show Ru _ _ (execs [] _) _ _); refine Ru.nil ?_) | ((with_reducible show Ru _ _ (exec (Stmt.If _ _ _ _) _) _ _); refine Ru.ifS ?_) | ((with_reducible show Ru _ _ (exec (Stmt.Assign [Expr.Name _ _] (Expr.BinOp _ _ _ _) _) _) _ _); refine Ru.asg ?_) | ((with_reducible show Ru _ _ (spliced (backTo _ (starEach (_ :: _) _))) _ _); refine Ru.spc ?_) | ((with_reducible show Ru _ _ (spliced (backTo _ (starEach [] _))) _ _); refine Ru.spn ?_) | ((with_reducible show Ru _ _ (exec (Stmt.Return _ _) _) _ _); refine Ru.ret ?_))
  refine Ru.gt ⟨_, rfl, ?_⟩
  rw [decide_eq_false (by omega), if_neg (by simp)]
  refine Ru.nil ?_
  exact law_14 W rm ((w.gr g₁).gr g₂) F ((ar.gr g₁).gr g₂)
end
end Mink

/-! MkV -/
namespace Mink
open PySem PySem.W PyProof.Rows PySem.Calls

section
variable {c : Cx} {A : Around} {h : Heap} {env : Env}
theorem Ru.tupOf {l : Addr} {vs : List Value} {P : Value → Heap → Prop} (t : h.IsList l vs.toArray) (hz : vs.length ≤ 1000) (p : ∀ h' a, IsTup h' a vs.toArray → Gr [] h h' → P (.ref a) h') : Ru c A (call (.type "tuple") [.ref l]) h P :=
  fun k _ => call_tuple_list (s := c.at h k) t (fun h' kk => good_at (c := c) (k' := k) (p _ _ ⟨_, Heap.get?_push_size _ rfl, rfl, _, rfl⟩ ((Gr.of_keeps kk).trans (Gr.push _ _)))) (by have hsl : sizeLine = 16777216 := rfl; simp; omega)

theorem sliceApplied_cut {A : Around} {s : Shared} {E : Value → Shared → Prop} {sl : Addr} {vl vu : Value} {lo hi : Option Int} {n : Nat} {a b : Int} {k : Nat} {Q : Int × Int × Nat → Shared → Prop} (hs : s.heap.IsSliceOf sl vl vu .none) (pl : IsPart vl lo) (pu : IsPart vu hi)
    (e₁ : Builtin.Slice.sliceAdjust lo hi 1 (n : Int) = (a, b)) (e₂ : Builtin.Slice.slicePlaces a b 1 = k) (h : Q (a, 1, k) s) :
    wpAny (model c.prog c.w) A (Builtin.Slice.sliceApplied (.ref sl) (pure (n : Int))) Q E s := by
  obtain ⟨os, hos, hcs, hds⟩ := id hs
  unfold Builtin.Slice.sliceApplied Builtin.Slice.sliceFields
  refine wpAny_bind (wpAny_bind (wpAny_field hos hds (x := vl) rfl (wpAny_bind (wpAny_field hos hds (x := vu) rfl (wpAny_bind (wpAny_field hos hds (x := .none) rfl (wpAny_pure ?_)))))))
  refine wpAny_bind (slicePart_none ?_)
  show wpAny _ _ (if ((1 : Int) == 0) = true then _ else _) _ _ s
  rw [if_neg (by decide)]
  have fin : wpAny (model c.prog c.w) A (match Builtin.Slice.sliceAdjust lo hi 1 (n : Int) with | (lo, hi) => pure (lo, (1 : Int), Builtin.Slice.slicePlaces lo hi 1)) Q E s := by
    rw [e₁]
    show wpAny _ _ (pure (a, (1 : Int), Builtin.Slice.slicePlaces a b 1)) _ _ s
    rw [e₂]
    exact wpAny_pure h
  cases pl with
  | none =>
    refine wpAny_bind (slicePart_none ?_)
    cases pu with
    | none => exact wpAny_bind (slicePart_none (wpAny_bind (wpAny_pure fin)))
    | int i t => exact wpAny_bind (slicePart_int (wpAny_bind (wpAny_pure fin)))
  | int j u =>
    refine wpAny_bind (slicePart_int ?_)
    cases pu with
    | none => exact wpAny_bind (slicePart_none (wpAny_bind (wpAny_pure fin)))
    | int i t => exact wpAny_bind (slicePart_int (wpAny_bind (wpAny_pure fin)))

theorem getItem_tupCut {A : Around} {s : Shared} {E : Value → Shared → Prop} {t sl : Addr} {items ws : Array Value} {vl vu : Value} {lo hi : Option Int} {a b : Int} {k : Nat} {Q : Value → Shared → Prop} (ht : IsTup s.heap t items) (hs : s.heap.IsSliceOf sl vl vu .none) (pl : IsPart vl lo) (pu : IsPart vu hi)
    (e₁ : Builtin.Slice.sliceAdjust lo hi 1 (items.size : Int) = (a, b)) (e₂ : Builtin.Slice.slicePlaces a b 1 = k) (hno : k ≠ items.size) (e₃ : ((List.range k).filterMap fun (j : Nat) => items[(a + (j : Int) * 1).toNat]?).toArray = ws) (hz : ws.size ≤ sizeLine)
    (h : Q (.ref s.heap.objs.size) { s with heap := s.heap.push { cls := .type "tuple", data := .seq ws } }) : wpAny (model c.prog c.w) A (getItem (.ref t) (.ref sl)) Q E s := by
  have sT : s.TypeIs (.ref sl) "slice" := let ⟨o, e, cl, _⟩ := hs; ⟨o, e, cl⟩
  have away : (a == 0 && (1 : Int) == 1 && k == items.size) = false := by simp [hno]
  unfold getItem
  refine wpAny_holding (wpAny_bind (wpAny_sequenceKey ht.typeIs (by decide) ?_))
  refine wpAny_bind (wpAny_callSpecial?_slot (name := Str.ofString "__getitem__") ht.typeIs PySem.F.slot_tuple_getitem
    (wpAny_call_entry PySem.F.slot_tuple_getitem ht.typeIs PySem.F.entry_tuple_getitem ?_ (PySem.F.args_tuple_getitem_2 _ _)))
  refine wpAny_bind (m := Builtin.Tuple.tupleItemsOf (.ref t)) (tupleItemsOf_ ht (wpAny_bind (wpAny_typeOf sT ?_)))
  rw [if_pos (by decide)]
  refine wpAny_bind (sliceApplied_cut hs pl pu e₁ e₂ ?_)
  dsimp only
  rw [away, e₃]
  exact wpAny_bind (m := Builtin.Tuple.tupleExact _) (wpAny_newObj_type (wpAny_pure ⟨_, rfl, wpAny_pure h⟩) hz)
theorem Ru.tupCut {value slice : Expr} {P : Value → Heap → Prop} {t sl : Addr} {items ws : Array Value} {vl vu : Value} {lo hi : Option Int} {a b : Int} {k : Nat} (ht : IsTup h t items) (hs : h.IsSliceOf sl vl vu .none) (pl : IsPart vl lo) (pu : IsPart vu hi)
    (e₁ : Builtin.Slice.sliceAdjust lo hi 1 (items.size : Int) = (a, b)) (e₂ : Builtin.Slice.slicePlaces a b 1 = k) (hno : k ≠ items.size) (e₃ : ((List.range k).filterMap fun (j : Nat) => items[(a + (j : Int) * 1).toNat]?).toArray = ws) (hz : ws.size ≤ sizeLine)
    (p : ∀ h' a, IsTup h' a ws → Gr [] h h' → P (.ref a) h')
    (hs' : ∃ ops, subscripted slice false (.ref t) (.ref sl) = operate ops (getItem (.ref t) (.ref sl)) := by exact ⟨_, by with_unfolding_all rfl⟩) : Ru c A (subscriptTail value slice (.ref t) (.ref sl)) h P := by
  obtain ⟨ops, hs'⟩ := hs'
  exact fun k' _ => tail_any (IsTup.typeIs ht) PySem.F.slot_tuple_getitem.lookup (getItem_tupCut (s := c.at h k') ht hs pl pu e₁ e₂ hno e₃ hz (good_at (c := c) (k' := k') (p _ _ ⟨_, Heap.get?_push_size _ rfl, rfl, _, rfl⟩ (Gr.push _ _)))) hs'
/-- the kth of a point, k below 2 -/
noncomputable def co (k : Nat) (p : Pt) : Int := if k = 0 then p.1 else p.2
theorem Ru.ptK {value slice : Expr} {v : Value} {p : Pt} {u : Tok} {k : Nat} {P : Value → Heap → Prop} (x : IsPt h v p) (hk : k < 2) (z : ∀ t, P (.int (co k p) t) h)
    (hs : ∀ a, subscripted slice false (.ref a) (.int (k : Int) u) = operate [.ref a, .int (k : Int) u] (getItem (.ref a) (.int (k : Int) u)) := by intro _; with_unfolding_all rfl) : Ru c A (subscriptTail value slice v (.int (k : Int) u)) h P := by
  obtain ⟨a, t, t', rfl, x⟩ := x
  match k, hk with
  | 0, _ => exact Ru.tupAt x (by decide) (by decide) (j := 0) rfl rfl (z t) (hs a)
  | 1, _ => exact Ru.tupAt x (by decide) (by decide) (j := 1) rfl rfl (z t') (hs a)

/-- a comprehension with one cell of its own -/
theorem Ru.compK {elt target iter : Expr} {ifs : List Expr} {rest : List Comprehension} {scope : Scope} {pos : Pos} {x : Str} {cl : List (Str × Addr)} {P : Value → Heap → Prop} (hclos : closureFor scope env = Pure.pure cl)
    (hc1 : ∀ n, cellsFrom n scope.names cl = (x, n) :: cl) (hc2 : ∀ h, pushCells h scope.names = h.push { cls := .type "cell", data := .cell none })
    (r : Ru c A (eval iter env) h fun v h₁ => Ru c A (pyIter v) h₁ fun it h₂ => ∃ I, it = .ref I ∧ ∀ D C K h₃, h₂.get? D = none → h₂.get? C = none → h₂.get? K = none → D ≠ C → D ≠ K → C ≠ K → Gr [] h₂ h₃ → IsL h₃ D #[] 0 → h₃.Ns C (fun _ => none) → h₃.IsCell K none →
      (∀ P : Value → Heap → Prop, P (.ref I) h₃ → Ru c A (pyIter (.ref I)) h₃ P) ∧
      RuK c A (.compLoop (.ListComp elt (⟨target, iter, ifs, 0⟩ :: rest) scope pos) 0 (.ref I) (.ref D) (compEnvC scope ((x, K) :: cl) C env)) h₃ fun _ h₄ => ∃ m, h₄.Ns C m ∧ ∀ h₅, Gr [C] h₄ h₅ → P (.ref D) h₅)
    (hkind : scope.kind = .function := by rfl) (hnames : ∀ y ∈ scope.names, y.2 = .local → scope.names.lookup y.1 = some .local := by decide)
    (hs : ∀ x, foldedSetIterable iter env x = Pure.pure x := by intro _; rfl) : Ru c A (eval (.ListComp elt (⟨target, iter, ifs, 0⟩ :: rest) scope pos) env) h P := by
  intro k E
  rw [eval_ListComp]
  refine wpAny_comprehension_free (use := none) rfl hs hclos hkind hnames (r.into fun x h₁ k₁ q => q.into fun it h₂ k₂ hh => ?_)
  obtain ⟨I, e, q⟩ := hh
  subst e
  refine wpAny_newObj_type ?_
  simp only [newFunctionEnv, Option.isSome_some, if_true]
  refine wpAny_bind (wpAny_alloc ?_)
  refine wpAny_bind (wpAny_layCells _ (fun name kind cells => by cases hkc : kind == NameKind.cell <;> simp [hkc]) _ _ _ _ ?_)
  simp only [hc2]
  rw [hc1]
  simp only [List.forIn_nil]
  refine wpAny_bind (wpAny_pure (wpAny_pure ?_))
  have z₁ : (h₂.push { cls := Value.type "list", data := Data.seq #[] }).objs.size = h₂.objs.size + 1 := Heap.size_push ..
  have z₂ : ((h₂.push { cls := Value.type "list", data := Data.seq #[] }).push { cls := Value.type "dict", data := Data.dict #[] }).objs.size = h₂.objs.size + 1 + 1 := by rw [Heap.size_push, z₁]
  rw [z₁, z₂]
  have at₁ : (h₂.push { cls := Value.type "list", data := Data.seq #[] }).get? h₂.objs.size = some { cls := Value.type "list", data := Data.seq #[] } := Heap.get?_push_size _ rfl
  have at₂ : ((h₂.push { cls := Value.type "list", data := Data.seq #[] }).push { cls := Value.type "dict", data := Data.dict #[] }).Ns (h₂.objs.size + 1) (fun _ => none) := by rw [← z₁]; exact Heap.Ns.new _ _
  have at₃ : (((h₂.push { cls := Value.type "list", data := Data.seq #[] }).push { cls := Value.type "dict", data := Data.dict #[] }).push { cls := Value.type "cell", data := Data.cell none }).IsCell (h₂.objs.size + 1 + 1) none := by rw [← z₂]; exact ⟨_, Heap.get?_push_size _ rfl, rfl⟩
  obtain ⟨self, loop⟩ := q h₂.objs.size (h₂.objs.size + 1) (h₂.objs.size + 1 + 1) _ (fresh_size _) (Heap.get?_none_of_le (Nat.le_succ _)) (Heap.get?_none_of_le (Nat.le_trans (Nat.le_succ _) (Nat.le_succ _))) (Nat.ne_of_lt (Nat.lt_succ_self _)) (Nat.ne_of_lt (Nat.lt_succ_of_lt (Nat.lt_succ_self _))) (Nat.ne_of_lt (Nat.lt_succ_self _))
    (((Gr.push _ _).trans (Gr.push _ _)).trans (Gr.push _ _)) (Heap.get?_push_of_some _ (Heap.get?_push_of_some _ at₁)) ((Gr.push (X := []) _ _).ns at₂ List.not_mem_nil) at₃
  refine RuK.start (c := c) (A := A) (e := .ListComp elt (⟨target, iter, ifs, 0⟩ :: rest) scope pos) (d := 0) (acc := .ref h₂.objs.size) rfl rfl rfl rfl rfl self loop _ _ fun f h₅ k₅ hh => ?_
  obtain ⟨m, hm, q⟩ := hh
  exact ⟨m, hm, fun h₆ hs₆ => good_at (k' := k₅) (q h₆ (Gr.extNs hs₆.extBut hm))⟩
end
end Mink

/-! MkW -/
set_option maxHeartbeats 4000000
namespace Mink
open PySem PySem.W PyProof.Rows PySem.Calls

noncomputable def rowF (C D : List Pt) (k j : Nat) : List Int := if j = 0 then (steps C).map (fun e => ab (co k e)) else if j = 1 then (steps D).map (fun e => ab (co k e)) else []
noncomputable def both2 (C D : List Pt) (k : Nat) : Int := (cat (rowF C D k) 2).sum
theorem steps_len (C : List Pt) : (steps C).length = C.length := by simp [steps, cyc]
theorem rowF_len (C D : List Pt) (hc : C.length ≤ 4) (hd : D.length ≤ 4) (k j : Nat) : (rowF C D k j).length ≤ 1000 := by
  have h1 := steps_len C
  have h2 := steps_len D
  unfold rowF
  split
  · simp; omega
  · split <;> simp; omega
theorem both2_eq (C D : List Pt) (k : Nat) : both2 C D k = ((steps C).map fun e => ab (co k e)).sum + ((steps D).map fun e => ab (co k e)).sum := by
  show (cat (rowF C D k) 2).sum = _
  rw [show cat (rowF C D k) 2 = ([] ++ rowF C D k 0) ++ rowF C D k 1 from rfl, List.sum_append_int, List.nil_append]
  rfl

/-- between the turns of the comprehension over k -/
structure KInv (h₅ : Heap) (Cc Dd I K : Addr) (C D : List Pt) (i : Nat) (h' : Heap) (m : Str → Option Value) (ws : List Value) (n : Nat) (v : Option Value) : Prop where
  nC : h'.Ns Cc m
  lD : IsL h' Dd (List.toArray ws) n
  al : All2 (IsI h') ws ([both2 C D 0, both2 C D 1].take i)
  g : Gr [] h₅ h'
  it : IsRangeIter h' I ((i : Nat) : Int) (((2 : Nat) : Int) - ((i : Nat) : Nat)) 1
  ck : h'.IsCell K v

section
variable {c : Cx} {A : Around} {h hT : Heap} {mg mb : Str → Option Value} {L a : Addr} {cd : Value} {m : Str → Option Value} {C D M : List Pt}


theorem law_12 (W : World' hT mg mb) (rm : Rm 6 A) (w : Lw hT h L m C D M) (F : Facts C D M) (ar : La h m (area C) (area D) (area M))
    (wh : ∃ v d, m "whole" = some v ∧ Is5 h v d ((steps M).map (·.1)).sum ((steps M).map (·.2)).sum ((steps M).map fun e => ab e.1).sum ((steps M).map fun e => ab e.2).sum) : Ru c A (execs ((bodyOf 12).drop 12) (env12 L a cd)) h fun f h' => f = .ret (.bool true) ∧ Gr [] hT h' := by
  have n := w.n
  have U := w.U
  have hu := rm.un
  obtain ⟨v, ew, lw, t₁, t₂, t₃, t₄, d, rfl, T₀, _⟩ : ∃ v, m "whole" = some v ∧ ∃ l t₁ t₂ t₃ t₄ d, v = .ref l ∧ IsTup h l #[.int _ t₁, .int _ t₂, .int _ t₃, .int _ t₄, .ref d] ∧ IsE h d := by
    obtain ⟨v, d, e, x⟩ := wh
    obtain ⟨l, t₁, t₂, t₃, t₄, r⟩ := x.is
    exact ⟨v, e, l, t₁, t₂, t₃, t₄, d, r⟩
  have hl := W.none "tuple" (by simp)
  have hr := W.none "range" (by simp)
  have hs := W.none "sum" (by simp)
  have ha := W.none "abs" (by simp)
  have hc := F.c4
  have hd := F.d4
  obtain ⟨fs, FS⟩ := W.steps
  obtain ⟨os, _, _, _, _, _, hos, hds, _⟩ := FS.obj
  obtain ⟨l₁, c₁, x₁⟩ := w.one
  obtain ⟨l₂, c₂, x₂⟩ := w.other
  show Ru c _ (execs (_ :: _) _) _ _
  refine Ru.cons (Ru.hide fun Q₀ q₀ => ?_)
  repeat (first | ((with_reducible show Ru _ _ (eval (Expr.Name _ _) _) _ _); first | refine Ru.name (by assumption) (by first | assumption | rfl) ?_ | refine Ru.celln (by assumption) rfl ?_) | ((with_reducible show Ru _ _ (eval (Expr.Constant (Const.int _) _ _) _) _ _); refine Ru.intC fun _ => ?_) | ((with_reducible show Ru _ _ (eval (Expr.Tuple _ _ _) _) _ _); refine Ru.tupE ?_) | ((with_reducible show Ru _ _ (eval (Expr.List _ _) _) _ _); refine Ru.lstE ?_) | ((with_reducible show Ru _ _ (eval (Expr.Subscript _ _ _) _) _ _); refine Ru.sub ?_) | ((with_reducible show Ru _ _ (valueOrNone (evalOpt none _)) _ _); refine Ru.partN ?_) | ((with_reducible show Ru _ _ (valueOrNone (evalOpt (some _) _)) _ _); refine Ru.partE ?_) | ((with_reducible show Ru _ _ (eval (Expr.Slice _ _ _ _) _) _ _); refine Ru.slc ?_) | ((with_reducible show Ru _ _ (isTrue (Expr.Compare _ _ _ _) _ _) _ _); refine Ru.test ?_) | ((with_reducible show Ru _ _ (isTrue (Expr.BoolOp BoolOp.Or (_ :: _) _) _ _) _ _); refine Ru.orC ?_) | ((with_reducible show Ru _ _ (isTrue (Expr.BoolOp BoolOp.Or [] _) _ _) _ _); refine Ru.orN ?_) | ((with_reducible show Ru _ _ (execs (_ :: _) _) _ _); refine Ru.cons ?_) | ((with_reducible show Ru _ _ (exec (Stmt.If _ _ _ _) _) _ _); refine Ru.ifS ?_) | ((with_reducible show Ru _ _ (spliced (backTo _ (starEach (_ :: _) _))) _ _); refine Ru.spc ?_) | ((with_reducible show Ru _ _ (spliced (backTo _ (starEach [] _))) _ _); refine Ru.spn ?_))
  intro h₁ sl isl g₁ _
  refine Ru.tupCut (g₁.tup T₀) isl .none (.int _ _) (a := 0) (b := 2) (k := 2) rfl rfl (show (2 : Nat) ≠ 5 by decide) (ws := #[.int _ t₁, .int _ t₂]) rfl (by show 2 ≤ sizeLine; decide) fun h₂ a₂ T₂ g₂ => ?_
  repeat (first | ((with_reducible show Ru _ _ (eval (Expr.Name _ _) _) _ _); first | refine Ru.name (by assumption) (by first | assumption | rfl) ?_ | refine Ru.celln (by assumption) rfl ?_) | ((with_reducible show Ru _ _ (eval (Expr.Constant (Const.int _) _ _) _) _ _); refine Ru.intC fun _ => ?_) | ((with_reducible show Ru _ _ (eval (Expr.Tuple _ _ _) _) _ _); refine Ru.tupE ?_) | ((with_reducible show Ru _ _ (eval (Expr.List _ _) _) _ _); refine Ru.lstE ?_) | ((with_reducible show Ru _ _ (eval (Expr.Subscript _ _ _) _) _ _); refine Ru.sub ?_) | ((with_reducible show Ru _ _ (valueOrNone (evalOpt none _)) _ _); refine Ru.partN ?_) | ((with_reducible show Ru _ _ (valueOrNone (evalOpt (some _) _)) _ _); refine Ru.partE ?_) | ((with_reducible show Ru _ _ (eval (Expr.Slice _ _ _ _) _) _ _); refine Ru.slc ?_) | ((with_reducible show Ru _ _ (isTrue (Expr.Compare _ _ _ _) _ _) _ _); refine Ru.test ?_) | ((with_reducible show Ru _ _ (isTrue (Expr.BoolOp BoolOp.Or (_ :: _) _) _ _) _ _); refine Ru.orC ?_) | ((with_reducible show Ru _ _ (isTrue (Expr.BoolOp BoolOp.Or [] _) _ _) _ _); refine Ru.orN ?_) | ((with_reducible show Ru _ _ (execs (_ :: _) _) _ _); refine Ru.cons ?_) | ((with_reducible show Ru _ _ (exec (Stmt.If _ _ _ _) _) _ _); refine Ru.ifS ?_) | ((with_reducible show Ru _ _ (spliced (backTo _ (starEach (_ :: _) _))) _ _); refine Ru.spc ?_) | ((with_reducible show Ru _ _ (spliced (backTo _ (starEach [] _))) _ _); refine Ru.spn ?_))
  refine Ru.newT (show 2 ≤ sizeLine by decide) fun h₃ T₃ g₃ => ?_
  refine Ru.nePt (p := (((steps M).map (·.1)).sum, ((steps M).map (·.2)).sum)) (q := (0, 0)) ⟨_, _, _, rfl, g₃.tup T₂⟩ ⟨_, _, _, rfl, T₃⟩ (by omega) ⟨_, rfl, ?_⟩
  rw [if_neg (by rw [F.zx, F.zy]; simp)]
  have G₃ : Gr [] h h₃ := (g₁.trans g₂).trans g₃
  have n₃ := G₃.ns n List.not_mem_nil
  repeat (first | ((with_reducible show Ru _ _ (eval (Expr.Name _ _) _) _ _); first | refine Ru.name (by assumption) (by first | assumption | rfl) ?_ | refine Ru.celln (by assumption) rfl ?_) | ((with_reducible show Ru _ _ (eval (Expr.Constant (Const.int _) _ _) _) _ _); refine Ru.intC fun _ => ?_) | ((with_reducible show Ru _ _ (eval (Expr.Tuple _ _ _) _) _ _); refine Ru.tupE ?_) | ((with_reducible show Ru _ _ (eval (Expr.List _ _) _) _ _); refine Ru.lstE ?_) | ((with_reducible show Ru _ _ (eval (Expr.Subscript _ _ _) _) _ _); refine Ru.sub ?_) | ((with_reducible show Ru _ _ (valueOrNone (evalOpt none _)) _ _); refine Ru.partN ?_) | ((with_reducible show Ru _ _ (valueOrNone (evalOpt (some _) _)) _ _); refine Ru.partE ?_) | ((with_reducible show Ru _ _ (eval (Expr.Slice _ _ _ _) _) _ _); refine Ru.slc ?_) | ((with_reducible show Ru _ _ (isTrue (Expr.Compare _ _ _ _) _ _) _ _); refine Ru.test ?_) | ((with_reducible show Ru _ _ (isTrue (Expr.BoolOp BoolOp.Or (_ :: _) _) _ _) _ _); refine Ru.orC ?_) | ((with_reducible show Ru _ _ (isTrue (Expr.BoolOp BoolOp.Or [] _) _ _) _ _); refine Ru.orN ?_) | ((with_reducible show Ru _ _ (execs (_ :: _) _) _ _); refine Ru.cons ?_) | ((with_reducible show Ru _ _ (exec (Stmt.If _ _ _ _) _) _ _); refine Ru.ifS ?_) | ((with_reducible show Ru _ _ (spliced (backTo _ (starEach (_ :: _) _))) _ _); refine Ru.spc ?_) | ((with_reducible show Ru _ _ (spliced (backTo _ (starEach [] _))) _ _); refine Ru.spn ?_))
  intro h₄ sl isl g₄ _
  refine Ru.tupCut ((G₃.trans g₄).tup T₀) isl (.int _ _) (.int _ _) (a := 2) (b := 4) (k := 2) rfl rfl (show (2 : Nat) ≠ 5 by decide) (ws := #[.int _ t₃, .int _ t₄]) rfl (by show 2 ≤ sizeLine; decide) fun h₅ a₅ T₅ g₅ => ?_
  have G₅ : Gr [] h h₅ := (G₃.trans g₄).trans g₅
  have U₅ := U.trans G₅
  refine Ru.callN (Ru.blt (W.T.g.keeps U₅.keeps) hl (W.T.b.keeps U₅.keeps) W.tuple ?_)
  refine Ru.withT ?_
  (first | ((with_reducible show Ru _ _ (eval (Expr.Name _ _) _) _ _); first | refine Ru.name (by assumption) (by first | assumption | rfl) ?_ | refine Ru.celln (by assumption) rfl ?_) | ((with_reducible show Ru _ _ (eval (Expr.Constant (Const.int _) _ _) _) _ _); refine Ru.intC fun _ => ?_) | ((with_reducible show Ru _ _ (eval (Expr.Tuple _ _ _) _) _ _); refine Ru.tupE ?_) | ((with_reducible show Ru _ _ (eval (Expr.List _ _) _) _ _); refine Ru.lstE ?_) | ((with_reducible show Ru _ _ (eval (Expr.Subscript _ _ _) _) _ _); refine Ru.sub ?_) | ((with_reducible show Ru _ _ (valueOrNone (evalOpt none _)) _ _); refine Ru.partN ?_) | ((with_reducible show Ru _ _ (valueOrNone (evalOpt (some _) _)) _ _); refine Ru.partE ?_) | ((with_reducible show Ru _ _ (eval (Expr.Slice _ _ _ _) _) _ _); refine Ru.slc ?_) | ((with_reducible show Ru _ _ (isTrue (Expr.Compare _ _ _ _) _ _) _ _); refine Ru.test ?_) | ((with_reducible show Ru _ _ (isTrue (Expr.BoolOp BoolOp.Or (_ :: _) _) _ _) _ _); refine Ru.orC ?_) | ((with_reducible show Ru _ _ (isTrue (Expr.BoolOp BoolOp.Or [] _) _ _) _ _); refine Ru.orN ?_) | ((with_reducible show Ru _ _ (execs (_ :: _) _) _ _); refine Ru.cons ?_) | ((with_reducible show Ru _ _ (exec (Stmt.If _ _ _ _) _) _ _); refine Ru.ifS ?_) | ((with_reducible show Ru _ _ (spliced (backTo _ (starEach (_ :: _) _))) _ _); refine Ru.spc ?_) | ((with_reducible show Ru _ _ (spliced (backTo _ (starEach [] _))) _ _); refine Ru.spn ?_))
  refine Ru.hide fun Q₁ q₁ => ?_
  refine Ru.compK (x := "k") (cl := [("other", L + 3), ("one", L + 2)]) rfl (fun _ => rfl) (fun _ => rfl) ?_
  refine Ru.callN (Ru.blt (W.T.g.keeps U₅.keeps) hr (W.T.b.keeps U₅.keeps) W.range ?_)
  refine Ru.withT ?_
  repeat (first | ((with_reducible show Ru _ _ (eval (Expr.Name _ _) _) _ _); first | refine Ru.name (by assumption) (by first | assumption | rfl) ?_ | refine Ru.celln (by assumption) rfl ?_) | ((with_reducible show Ru _ _ (eval (Expr.Constant (Const.int _) _ _) _) _ _); refine Ru.intC fun _ => ?_) | ((with_reducible show Ru _ _ (eval (Expr.Tuple _ _ _) _) _ _); refine Ru.tupE ?_) | ((with_reducible show Ru _ _ (eval (Expr.List _ _) _) _ _); refine Ru.lstE ?_) | ((with_reducible show Ru _ _ (eval (Expr.Subscript _ _ _) _) _ _); refine Ru.sub ?_) | ((with_reducible show Ru _ _ (valueOrNone (evalOpt none _)) _ _); refine Ru.partN ?_) | ((with_reducible show Ru _ _ (valueOrNone (evalOpt (some _) _)) _ _); refine Ru.partE ?_) | ((with_reducible show Ru _ _ (eval (Expr.Slice _ _ _ _) _) _ _); refine Ru.slc ?_) | ((with_reducible show Ru _ _ (isTrue (Expr.Compare _ _ _ _) _ _) _ _); refine Ru.test ?_) | ((with_reducible show Ru _ _ (isTrue (Expr.BoolOp BoolOp.Or (_ :: _) _) _ _) _ _); refine Ru.orC ?_) | ((with_reducible show Ru _ _ (isTrue (Expr.BoolOp BoolOp.Or [] _) _ _) _ _); refine Ru.orN ?_) | ((with_reducible show Ru _ _ (execs (_ :: _) _) _ _); refine Ru.cons ?_) | ((with_reducible show Ru _ _ (exec (Stmt.If _ _ _ _) _) _ _); refine Ru.ifS ?_) | ((with_reducible show Ru _ _ (spliced (backTo _ (starEach (_ :: _) _))) _ _); refine Ru.spc ?_) | ((with_reducible show Ru _ _ (spliced (backTo _ (starEach [] _))) _ _); refine Ru.spn ?_))
  refine Ru.range fun h₆ ra t u v r g₆ f₆ => ?_
  refine Ru.iterR (n := 2) r (by decide) fun I h₇ fI it g₇ => ?_
  refine ⟨I, rfl, fun Dd Cc K h₈ fD fC fK DC DK CK g₈ lD nC cK => ?_⟩
  have G₇ := (G₅.trans g₆).trans g₇
  have DI : Dd ≠ I := (ne_of_fresh it fD).symm
  have CI : Cc ≠ I := (ne_of_fresh it fC).symm
  have KI : K ≠ I := (ne_of_fresh it fK).symm
  have fI5 : h₅.get? I = none := g₆.gone fI
  have fD5 : h₅.get? Dd = none := (g₆.trans g₇).gone fD
  have fC5 : h₅.get? Cc = none := (g₆.trans g₇).gone fC
  have fK5 : h₅.get? K = none := (g₆.trans g₇).gone fK
  have fI : h.get? I = none := (G₅.trans g₆).gone fI
  have fD : h.get? Dd = none := G₇.gone fD
  have fC : h.get? Cc = none := G₇.gone fC
  have fK : h.get? K = none := G₇.gone fK
  have K1 : K ≠ L + 2 := by obtain ⟨o, ho, _⟩ := c₁; exact (ne_of_fresh ho fK).symm
  have K2 : K ≠ L + 3 := by obtain ⟨o, ho, _⟩ := c₂; exact (ne_of_fresh ho fK).symm
  have it₈ : IsRangeIter h₈ I ((0 : Nat) : Int) (((2 : Nat) : Int) - ((0 : Nat) : Nat)) 1 := g₈ _ _ it (.inl (by simp))
  refine ⟨fun Q q => (Src.range (c := c) (n := 2) rm.hh).self 0 h₈ Q it₈ q, ?_⟩
  refine RuK.one (Src.range (n := 2) rm.hh) (fun i h' => ∃ m ws n v, KInv h₅ Cc Dd I K C D i h' m ws n v)
    ⟨_, [], 0, none, ⟨nC, lD, .nil, (g₆.trans g₇).trans g₈, it₈, cK⟩⟩ ?_ ?_ ?_
  · rintro i h' ⟨_, _, _, _, j⟩
    exact j.it
  · rintro i h' h'' v hi ⟨m₁, ws, nn, vk, ⟨nC, lD, al, G, _, ck⟩⟩ ⟨ti, rfl⟩ st' g
    have n' := g.ns nC (notIn_one CI)
    have l' := g.ls lD (notIn_one DI)
    have ck := g.cell ck (notIn_one KI)
    have Q5 := G.past g (not1' fI5)
    have G := G₅.trans Q5
    refine Ru.aName (Ru.storeC ck rfl fun h₃ ck₃ g₃ => ?_)
    have n₃ := g₃.ns n' (notIn_one CK)
    have l₃ := g₃.ls l' (notIn_one DK)
    have Q5 := Q5.past g₃ (not1' fK5)
    have G₃ := G.past g₃ (not1' fK)
    have U₃ := U.trans G₃
    have it₃ := rangeIter_keep [K] (i + 1) _ _ st' g₃ (by simpa using KI)
    have c₁ := G₃.cell c₁ List.not_mem_nil
    have c₂ := G₃.cell c₂ List.not_mem_nil
    have x₁ := x₁.gr0 G₃
    have x₂ := x₂.gr0 G₃
    refine Ru.tests0 ?_
    rw [if_pos rfl]
    refine Ru.hide fun Q₂ q₂ => ?_
    refine Ru.callN (Ru.blt (W.T.g.keeps U₃.keeps) hs (W.T.b.keeps U₃.keeps) W.bsum ?_)
    refine Ru.withB ?_
    (first | ((with_reducible show Ru _ _ (eval (Expr.Name _ _) _) _ _); first | refine Ru.name (by assumption) (by first | assumption | rfl) ?_ | refine Ru.celln (by assumption) rfl ?_) | ((with_reducible show Ru _ _ (eval (Expr.Constant (Const.int _) _ _) _) _ _); refine Ru.intC fun _ => ?_) | ((with_reducible show Ru _ _ (eval (Expr.Tuple _ _ _) _) _ _); refine Ru.tupE ?_) | ((with_reducible show Ru _ _ (eval (Expr.List _ _) _) _ _); refine Ru.lstE ?_) | ((with_reducible show Ru _ _ (eval (Expr.Subscript _ _ _) _) _ _); refine Ru.sub ?_) | ((with_reducible show Ru _ _ (valueOrNone (evalOpt none _)) _ _); refine Ru.partN ?_) | ((with_reducible show Ru _ _ (valueOrNone (evalOpt (some _) _)) _ _); refine Ru.partE ?_) | ((with_reducible show Ru _ _ (eval (Expr.Slice _ _ _ _) _) _ _); refine Ru.slc ?_) | ((with_reducible show Ru _ _ (isTrue (Expr.Compare _ _ _ _) _ _) _ _); refine Ru.test ?_) | ((with_reducible show Ru _ _ (isTrue (Expr.BoolOp BoolOp.Or (_ :: _) _) _ _) _ _); refine Ru.orC ?_) | ((with_reducible show Ru _ _ (isTrue (Expr.BoolOp BoolOp.Or [] _) _ _) _ _); refine Ru.orN ?_) | ((with_reducible show Ru _ _ (execs (_ :: _) _) _ _); refine Ru.cons ?_) | ((with_reducible show Ru _ _ (exec (Stmt.If _ _ _ _) _) _ _); refine Ru.ifS ?_) | ((with_reducible show Ru _ _ (spliced (backTo _ (starEach (_ :: _) _))) _ _); refine Ru.spc ?_) | ((with_reducible show Ru _ _ (spliced (backTo _ (starEach [] _))) _ _); refine Ru.spn ?_))
    refine Ru.comp2 IsI IsI.stable (rowF C D i) (rowF_len C D hc hd i) (cl := [("k", K)]) rfl ?_
    repeat (first | ((with_reducible show Ru _ _ (eval (Expr.Name _ _) _) _ _); first | refine Ru.name (by assumption) (by first | assumption | rfl) ?_ | refine Ru.celln (by assumption) rfl ?_) | ((with_reducible show Ru _ _ (eval (Expr.Constant (Const.int _) _ _) _) _ _); refine Ru.intC fun _ => ?_) | ((with_reducible show Ru _ _ (eval (Expr.Tuple _ _ _) _) _ _); refine Ru.tupE ?_) | ((with_reducible show Ru _ _ (eval (Expr.List _ _) _) _ _); refine Ru.lstE ?_) | ((with_reducible show Ru _ _ (eval (Expr.Subscript _ _ _) _) _ _); refine Ru.sub ?_) | ((with_reducible show Ru _ _ (valueOrNone (evalOpt none _)) _ _); refine Ru.partN ?_) | ((with_reducible show Ru _ _ (valueOrNone (evalOpt (some _) _)) _ _); refine Ru.partE ?_) | ((with_reducible show Ru _ _ (eval (Expr.Slice _ _ _ _) _) _ _); refine Ru.slc ?_) | ((with_reducible show Ru _ _ (isTrue (Expr.Compare _ _ _ _) _ _) _ _); refine Ru.test ?_) | ((with_reducible show Ru _ _ (isTrue (Expr.BoolOp BoolOp.Or (_ :: _) _) _ _) _ _); refine Ru.orC ?_) | ((with_reducible show Ru _ _ (isTrue (Expr.BoolOp BoolOp.Or [] _) _ _) _ _); refine Ru.orN ?_) | ((with_reducible show Ru _ _ (execs (_ :: _) _) _ _); refine Ru.cons ?_) | ((with_reducible show Ru _ _ (exec (Stmt.If _ _ _ _) _) _ _); refine Ru.ifS ?_) | ((with_reducible show Ru _ _ (spliced (backTo _ (starEach (_ :: _) _))) _ _); refine Ru.spc ?_) | ((with_reducible show Ru _ _ (spliced (backTo _ (starEach [] _))) _ _); refine Ru.spn ?_))
    refine Ru.newL (show 2 ≤ sizeLine by decide) fun h₄ lB g₄ => ?_
    obtain ⟨lb, hlb⟩ : ∃ lb, lb = h₃.objs.size := ⟨_, rfl⟩
    have flb : h₃.get? lb = none := hlb ▸ fresh_size _
    rw [← hlb] at lB ⊢
    refine Ru.iterL lB.isList fun I₂ h₅ fI₂ it₂ g₅ => ?_
    have lI : lb ≠ I₂ := ne_of_fresh lB fI₂
    refine ⟨I₂, _, _, _, _, rfl, Going.list rm.hh lI it₂ (g₅.lst lB.isList List.not_mem_nil) (show 2 ≤ 1000 by decide), fI₂, g₅, ?_, ?_⟩
    · intro C2 D2 fC2 fD2 CD2 j v₂ h' m₂ hj hv₂ n₂ ⟨oD2, hoD2⟩ G'
      have hj : j < 2 := hj
      have G₄ := G₃.trans (g₄.trans G')
      obtain ⟨lS, S, ev₂, xS, hSl, hrow⟩ : ∃ lS S, v₂ = .ref lS ∧ PtL h' lS S ∧ S.length ≤ 4 ∧ rowF C D i j = (steps S).map (fun e => ab (co i e)) := by
        rcases Nat.lt_or_ge j 1 with h1 | h1
        · have : j = 0 := by omega
          subst this
          simp at hv₂
          exact ⟨l₁, C, hv₂.symm, (x₁.gr0 g₄).gr0 G', hc, rfl⟩
        · have : j = 1 := by omega
          subst this
          simp at hv₂
          exact ⟨l₂, D, hv₂.symm, (x₂.gr0 g₄).gr0 G', hd, rfl⟩
      subst ev₂
      have ck' := (g₄.trans G').cell ck₃ List.not_mem_nil
      refine Ru.aName (Ru.store n₂ fun h₆ n₆ g₆ => ?_)
      have g₆ : Gr [C2] h' h₆ := g₆
      refine Ru.hide fun Q₃ q₃ => ?_
      have fC2h : h.get? C2 = none := (G₃.trans g₄).gone fC2
      have CK2 : C2 ≠ K := by
        obtain ⟨o, ho, _⟩ := g₄.cell ck₃ List.not_mem_nil
        exact (ne_of_fresh ho fC2).symm
      have ck₆ := g₆.cell ck' (notIn_one CK2.symm)
      have G₆ := G₄.past g₆ (not1' fC2h)
      have U₆ := U.trans G₆
      have xS₆ := xS.gr g₆ (notIn_one (xS.ne_ns n₂))
      refine Ru.callN (Ru.glob (W.T.g.keeps U₆.keeps) FS.glob ?_)
      refine Ru.withF (o := os) hds ?_
      repeat (first | ((with_reducible show Ru _ _ (eval (Expr.Name _ _) _) _ _); first | refine Ru.name (by assumption) (by first | assumption | rfl) ?_ | refine Ru.celln (by assumption) rfl ?_) | ((with_reducible show Ru _ _ (eval (Expr.Constant (Const.int _) _ _) _) _ _); refine Ru.intC fun _ => ?_) | ((with_reducible show Ru _ _ (eval (Expr.Tuple _ _ _) _) _ _); refine Ru.tupE ?_) | ((with_reducible show Ru _ _ (eval (Expr.List _ _) _) _ _); refine Ru.lstE ?_) | ((with_reducible show Ru _ _ (eval (Expr.Subscript _ _ _) _) _ _); refine Ru.sub ?_) | ((with_reducible show Ru _ _ (valueOrNone (evalOpt none _)) _ _); refine Ru.partN ?_) | ((with_reducible show Ru _ _ (valueOrNone (evalOpt (some _) _)) _ _); refine Ru.partE ?_) | ((with_reducible show Ru _ _ (eval (Expr.Slice _ _ _ _) _) _ _); refine Ru.slc ?_) | ((with_reducible show Ru _ _ (isTrue (Expr.Compare _ _ _ _) _ _) _ _); refine Ru.test ?_) | ((with_reducible show Ru _ _ (isTrue (Expr.BoolOp BoolOp.Or (_ :: _) _) _ _) _ _); refine Ru.orC ?_) | ((with_reducible show Ru _ _ (isTrue (Expr.BoolOp BoolOp.Or [] _) _ _) _ _); refine Ru.orN ?_) | ((with_reducible show Ru _ _ (execs (_ :: _) _) _ _); refine Ru.cons ?_) | ((with_reducible show Ru _ _ (exec (Stmt.If _ _ _ _) _) _ _); refine Ru.ifS ?_) | ((with_reducible show Ru _ _ (spliced (backTo _ (starEach (_ :: _) _))) _ _); refine Ru.spc ?_) | ((with_reducible show Ru _ _ (spliced (backTo _ (starEach [] _))) _ _); refine Ru.spn ?_))
      refine ⟨U₆.keeps _ _ hos, ?_⟩
      refine spec_steps W FS (rm.less (by decide)) U₆ xS₆ (by omega) fun h₇ lT g₇ xT fT => ?_
      refine q₃ _ _ ?_
      obtain ⟨vT, nT, hT, pT⟩ := xT
      have lT' := pT.length
      have hst := steps_len S
      refine Ru.iterL hT.isList fun I₃ h₈ fI₃ it₃ g₈ => ?_
      have tI : lT ≠ I₃ := ne_of_fresh hT fI₃
      have n₈ := (g₇.trans g₈).ns n₆ List.not_mem_nil
      obtain ⟨oC2, _, _, hoC2, _⟩ := id n₆
      have hD6 := g₆ D2 oD2 hoD2 (.inl (notIn_one CD2.symm))
      have C2T : C2 ≠ lT := ne_of_fresh hoC2 fT
      have D2T : D2 ≠ lT := ne_of_fresh hD6 fT
      have C2I : C2 ≠ I₃ := ne_of_fresh (g₇ _ _ hoC2 (.inl (by simp))) fI₃
      have D2I : D2 ≠ I₃ := ne_of_fresh (g₇ _ _ hD6 (.inl (by simp))) fI₃
      have hsz : (rowF C D i j).length = (List.toArray vT).size := by rw [hrow]; simp [lT']
      have g68 : Gr [C2] h' h₈ := g₆.trans (g₇.trans g₈).nil
      rw [hsz]
      refine ⟨I₃, _, _, [I₃, lT], fun _ => True, rfl, Going.list rm.hh tI it₃ (g₈.lst hT.isList List.not_mem_nil) (by simp; omega), ?_, by simp; exact ⟨C2I, C2T⟩, by simp; exact ⟨D2I, D2T⟩, g68, ⟨_, n₈, trivial⟩, ?_⟩
      · exact g₆.goneX (g₇.gone fI₃) (notIn_one C2I.symm)
      · rintro q w₃ h₉ m₉ hq hw₃ n₉ _ G₉ G₈₉
        have hq : q < (steps S).length := by simp at hq; omega
        have hww : vT[q]? = some w₃ := by simpa using hw₃
        obtain ⟨p, ep, yp⟩ := pT.getL hww
        have yp := G₈₉.pt (g₈.pt yp)
        have ck₉ := (g₄.trans G₉).cell ck₃ List.not_mem_nil
        refine Ru.aName (Ru.store n₉ fun hA nA gA => ?_)
        refine Ru.hide fun Q₄ q₄ => ?_
        have gA : Gr [C2] h₉ hA := gA
        have yA := gA.pt yp
        have ckA := gA.cell ck₉ (notIn_one CK2.symm)
        have UA := U.trans (((G₃.trans g₄).trans G₉).past gA (not1' fC2h))
        refine Ru.callN (Ru.blt (W.T.g.keeps UA.keeps) ha (W.T.b.keeps UA.keeps) W.abs ?_)
        refine Ru.withB ?_
        repeat (first | ((with_reducible show Ru _ _ (eval (Expr.Name _ _) _) _ _); first | refine Ru.name (by assumption) (by first | assumption | rfl) ?_ | refine Ru.celln (by assumption) rfl ?_) | ((with_reducible show Ru _ _ (eval (Expr.Constant (Const.int _) _ _) _) _ _); refine Ru.intC fun _ => ?_) | ((with_reducible show Ru _ _ (eval (Expr.Tuple _ _ _) _) _ _); refine Ru.tupE ?_) | ((with_reducible show Ru _ _ (eval (Expr.List _ _) _) _ _); refine Ru.lstE ?_) | ((with_reducible show Ru _ _ (eval (Expr.Subscript _ _ _) _) _ _); refine Ru.sub ?_) | ((with_reducible show Ru _ _ (valueOrNone (evalOpt none _)) _ _); refine Ru.partN ?_) | ((with_reducible show Ru _ _ (valueOrNone (evalOpt (some _) _)) _ _); refine Ru.partE ?_) | ((with_reducible show Ru _ _ (eval (Expr.Slice _ _ _ _) _) _ _); refine Ru.slc ?_) | ((with_reducible show Ru _ _ (isTrue (Expr.Compare _ _ _ _) _ _) _ _); refine Ru.test ?_) | ((with_reducible show Ru _ _ (isTrue (Expr.BoolOp BoolOp.Or (_ :: _) _) _ _) _ _); refine Ru.orC ?_) | ((with_reducible show Ru _ _ (isTrue (Expr.BoolOp BoolOp.Or [] _) _ _) _ _); refine Ru.orN ?_) | ((with_reducible show Ru _ _ (execs (_ :: _) _) _ _); refine Ru.cons ?_) | ((with_reducible show Ru _ _ (exec (Stmt.If _ _ _ _) _) _ _); refine Ru.ifS ?_) | ((with_reducible show Ru _ _ (spliced (backTo _ (starEach (_ :: _) _))) _ _); refine Ru.spc ?_) | ((with_reducible show Ru _ _ (spliced (backTo _ (starEach [] _))) _ _); refine Ru.spn ?_))
        refine Ru.ptK yA hi fun tp => ?_
        repeat (first | ((with_reducible show Ru _ _ (eval (Expr.Name _ _) _) _ _); first | refine Ru.name (by assumption) (by first | assumption | rfl) ?_ | refine Ru.celln (by assumption) rfl ?_) | ((with_reducible show Ru _ _ (eval (Expr.Constant (Const.int _) _ _) _) _ _); refine Ru.intC fun _ => ?_) | ((with_reducible show Ru _ _ (eval (Expr.Tuple _ _ _) _) _ _); refine Ru.tupE ?_) | ((with_reducible show Ru _ _ (eval (Expr.List _ _) _) _ _); refine Ru.lstE ?_) | ((with_reducible show Ru _ _ (eval (Expr.Subscript _ _ _) _) _ _); refine Ru.sub ?_) | ((with_reducible show Ru _ _ (valueOrNone (evalOpt none _)) _ _); refine Ru.partN ?_) | ((with_reducible show Ru _ _ (valueOrNone (evalOpt (some _) _)) _ _); refine Ru.partE ?_) | ((with_reducible show Ru _ _ (eval (Expr.Slice _ _ _ _) _) _ _); refine Ru.slc ?_) | ((with_reducible show Ru _ _ (isTrue (Expr.Compare _ _ _ _) _ _) _ _); refine Ru.test ?_) | ((with_reducible show Ru _ _ (isTrue (Expr.BoolOp BoolOp.Or (_ :: _) _) _ _) _ _); refine Ru.orC ?_) | ((with_reducible show Ru _ _ (isTrue (Expr.BoolOp BoolOp.Or [] _) _ _) _ _); refine Ru.orN ?_) | ((with_reducible show Ru _ _ (execs (_ :: _) _) _ _); refine Ru.cons ?_) | ((with_reducible show Ru _ _ (exec (Stmt.If _ _ _ _) _) _ _); refine Ru.ifS ?_) | ((with_reducible show Ru _ _ (spliced (backTo _ (starEach (_ :: _) _))) _ _); refine Ru.spc ?_) | ((with_reducible show Ru _ _ (spliced (backTo _ (starEach [] _))) _ _); refine Ru.spn ?_))
        refine Ru.abs fun tq => ?_
        refine q₄ _ _ ?_
        refine ⟨⟨_, nA, trivial⟩, gA, ab (co i p), ⟨tq, rfl⟩, ?_⟩
        rw [hrow]
        simp [ep]
    · intro h' D2 ws₂ n₂ lD₂ al₂ G' fD₂
      repeat (first | ((with_reducible show Ru _ _ (eval (Expr.Name _ _) _) _ _); first | refine Ru.name (by assumption) (by first | assumption | rfl) ?_ | refine Ru.celln (by assumption) rfl ?_) | ((with_reducible show Ru _ _ (eval (Expr.Constant (Const.int _) _ _) _) _ _); refine Ru.intC fun _ => ?_) | ((with_reducible show Ru _ _ (eval (Expr.Tuple _ _ _) _) _ _); refine Ru.tupE ?_) | ((with_reducible show Ru _ _ (eval (Expr.List _ _) _) _ _); refine Ru.lstE ?_) | ((with_reducible show Ru _ _ (eval (Expr.Subscript _ _ _) _) _ _); refine Ru.sub ?_) | ((with_reducible show Ru _ _ (valueOrNone (evalOpt none _)) _ _); refine Ru.partN ?_) | ((with_reducible show Ru _ _ (valueOrNone (evalOpt (some _) _)) _ _); refine Ru.partE ?_) | ((with_reducible show Ru _ _ (eval (Expr.Slice _ _ _ _) _) _ _); refine Ru.slc ?_) | ((with_reducible show Ru _ _ (isTrue (Expr.Compare _ _ _ _) _ _) _ _); refine Ru.test ?_) | ((with_reducible show Ru _ _ (isTrue (Expr.BoolOp BoolOp.Or (_ :: _) _) _ _) _ _); refine Ru.orC ?_) | ((with_reducible show Ru _ _ (isTrue (Expr.BoolOp BoolOp.Or [] _) _ _) _ _); refine Ru.orN ?_) | ((with_reducible show Ru _ _ (execs (_ :: _) _) _ _); refine Ru.cons ?_) | ((with_reducible show Ru _ _ (exec (Stmt.If _ _ _ _) _) _ _); refine Ru.ifS ?_) | ((with_reducible show Ru _ _ (spliced (backTo _ (starEach (_ :: _) _))) _ _); refine Ru.spc ?_) | ((with_reducible show Ru _ _ (spliced (backTo _ (starEach [] _))) _ _); refine Ru.spn ?_))
      refine Ru.sumL rm.hh lD₂.isList (ints_are al₂) fun h₆ u₆ g₆ => ?_
      refine q₂ _ _ ?_
      have GG : Gr [] h₃ h₆ := (g₄.trans G').trans g₆
      have l₆ := GG.ls l₃ List.not_mem_nil
      have hal := al.length
      have hsl : sizeLine = 16777216 := rfl
      obtain ⟨wv, hwv⟩ : ∃ wv : Value, wv = .int (cat (rowF C D i) 2).sum u₆ := ⟨_, rfl⟩
      show Ru c A (call _ [_, .int (cat (rowF C D i) 2).sum u₆]) _ _
      rw [← hwv]
      refine Ru.appL l₆ (by simp at hal ⊢; omega) fun h₇ n₇ l₇ g₇ => ?_
      refine ⟨_, ws ++ [wv], n₇, _, ⟨g₇.ns (GG.ns n₃ List.not_mem_nil) (notIn_one DC.symm), ?_, ?_, (Q5.trans GG).past g₇ (not1' fD5), rangeIter_keep [Dd] (i + 1) _ _ (rangeIter_keep [] (i + 1) _ _ it₃ GG (by simp)) g₇ (by simpa using DI), g₇.cell (GG.cell ck₃ List.not_mem_nil) (notIn_one (by
        obtain ⟨o, ho, _⟩ := ck₃
        intro e
        subst e
        exact DK rfl))⟩⟩
      · have ee : ∀ w, (List.toArray ws).push w = (ws ++ [w]).toArray := by simp
        rw [← ee]; exact l₇
      · rw [List.take_add_one]
        refine All2.append al ?_
        rcases Nat.lt_or_ge i 1 with h1 | h1
        · have : i = 0 := by omega
          subst this
          exact .one ⟨_, hwv⟩
        · have : i = 1 := by omega
          subst this
          exact .one ⟨_, hwv⟩
  · rintro h' h'' ⟨m₁, ws, nn, vk, ⟨nC, lD, al, G, _, ck⟩⟩ g
    refine ⟨m₁, g.ns nC (notIn_one CI), fun h₉ g₉ => ?_⟩
    have lD₉ := g₉.ls (g.ls lD (notIn_one DI)) (notIn_one DC)
    have Q5 := (G.past g (not1' fI5)).past g₉ (not1' fC5)
    have G₉ := G₅.trans Q5
    have hal := al.length
    refine q₁ _ _ ?_
    repeat (first | ((with_reducible show Ru _ _ (eval (Expr.Name _ _) _) _ _); first | refine Ru.name (by assumption) (by first | assumption | rfl) ?_ | refine Ru.celln (by assumption) rfl ?_) | ((with_reducible show Ru _ _ (eval (Expr.Constant (Const.int _) _ _) _) _ _); refine Ru.intC fun _ => ?_) | ((with_reducible show Ru _ _ (eval (Expr.Tuple _ _ _) _) _ _); refine Ru.tupE ?_) | ((with_reducible show Ru _ _ (eval (Expr.List _ _) _) _ _); refine Ru.lstE ?_) | ((with_reducible show Ru _ _ (eval (Expr.Subscript _ _ _) _) _ _); refine Ru.sub ?_) | ((with_reducible show Ru _ _ (valueOrNone (evalOpt none _)) _ _); refine Ru.partN ?_) | ((with_reducible show Ru _ _ (valueOrNone (evalOpt (some _) _)) _ _); refine Ru.partE ?_) | ((with_reducible show Ru _ _ (eval (Expr.Slice _ _ _ _) _) _ _); refine Ru.slc ?_) | ((with_reducible show Ru _ _ (isTrue (Expr.Compare _ _ _ _) _ _) _ _); refine Ru.test ?_) | ((with_reducible show Ru _ _ (isTrue (Expr.BoolOp BoolOp.Or (_ :: _) _) _ _) _ _); refine Ru.orC ?_) | ((with_reducible show Ru _ _ (isTrue (Expr.BoolOp BoolOp.Or [] _) _ _) _ _); refine Ru.orN ?_) | ((with_reducible show Ru _ _ (execs (_ :: _) _) _ _); refine Ru.cons ?_) | ((with_reducible show Ru _ _ (exec (Stmt.If _ _ _ _) _) _ _); refine Ru.ifS ?_) | ((with_reducible show Ru _ _ (spliced (backTo _ (starEach (_ :: _) _))) _ _); refine Ru.spc ?_) | ((with_reducible show Ru _ _ (spliced (backTo _ (starEach [] _))) _ _); refine Ru.spn ?_))
    refine Ru.tupOf lD₉.isList (by simp at hal; omega) fun hA aA TA gA => ?_
    have GA : Gr [] h hA := G₉.trans gA
    obtain ⟨v₁, v₂, rfl, ⟨u₁, rfl⟩, u₂, rfl⟩ : ∃ v₁ v₂, ws = [v₁, v₂] ∧ IsI h' v₁ (both2 C D 0) ∧ IsI h' v₂ (both2 C D 1) := by
      cases al with
      | cons r1 t => cases t with
        | cons r2 t => cases t with
          | nil => exact ⟨_, _, rfl, r1, r2⟩
    have nA := GA.ns n List.not_mem_nil
    refine Ru.nePt (p := (((steps M).map fun e => ab e.1).sum, ((steps M).map fun e => ab e.2).sum)) (q := (both2 C D 0, both2 C D 1)) ⟨_, _, _, rfl, gA.tup (Q5.tup T₅)⟩ ⟨_, _, _, rfl, TA⟩ (by omega) ⟨_, rfl, ?_⟩
    · rw [if_neg (by
        rw [both2_eq, both2_eq, F.ax, F.ay]
        simp [co])]
      refine Ru.orN ?_
      rw [if_neg (by simp)]
      refine Ru.nil (q₀ _ _ ?_)
      exact law_13 W rm (w.gr GA) F (ar.gr GA)
end
end Mink

/-! MkX -/
set_option maxHeartbeats 4000000
namespace Mink
open PySem PySem.W PyProof.Rows PySem.Calls

theorem Lw.gi {hT h h' : Heap} {L I l : Addr} {i : Nat} {m : Str → Option Value} {C D M : List Pt} (w : Lw hT h L m C D M) (it : h.IsListIter I l i) (g : Gr [I] h h') (new : hT.get? I = none) : Lw hT h' L m C D M := by
  obtain ⟨l₁, e₁, x₁⟩ := w.one
  obtain ⟨l₂, e₂, x₂⟩ := w.other
  obtain ⟨v₃, e₃⟩ := w.order
  obtain ⟨l₄, e₄, x₄⟩ := w.both
  have nl : ∀ {a : Addr} {ps : List Pt}, PtL h a ps → a ∉ [I] := fun ⟨_, _, q, _⟩ => notIn_one (ne_ls_it q.isList it)
  exact ⟨w.U.past g (not1' new), w.new, g.ns w.n (notIn_one (ne_ns_it w.n it)), ⟨l₁, g.cell e₁ (notIn_one (ne_it_cell it e₁).symm), x₁.gr g (nl x₁)⟩, ⟨l₂, g.cell e₂ (notIn_one (ne_it_cell it e₂).symm), x₂.gr g (nl x₂)⟩,
    ⟨v₃, g.cell e₃ (notIn_one (ne_it_cell it e₃).symm)⟩, ⟨l₄, e₄, x₄.gr g (nl x₄)⟩⟩
theorem La.gi {h h' : Heap} {I l : Addr} {i : Nat} {m : Str → Option Value} {x y z : Int} (a : La h m x y z) (it : h.IsListIter I l i) (g : Gr [I] h h') : La h' m x y z := let ⟨l, t₀, t₁, t₂, e, i⟩ := a; ⟨l, t₀, t₁, t₂, e, g.lst i (notIn_one (ne_ls_it i it))⟩
theorem ne_e_it {h : Heap} {d I l : Addr} {i : Nat} (x : IsE h d) (it : h.IsListIter I l i) : d ≠ I := fun e => by
  subst e
  obtain ⟨o, ho, hc, _⟩ := it
  rw [x.2] at ho; cases ho; simp at hc

section
variable {c : Cx} {A : Around} {h hT : Heap} {mg mb : Str → Option Value} {L a : Addr} {cd : Value} {m : Str → Option Value} {C D M : List Pt}

/-- a for over a list of points that is made first -/
theorem Ru.forQ {env : Env} {target iter : Expr} {body : List Stmt} {pos : Pos} {P : Flow → Heap → Prop} (hh : A.handled = none)
    (r : Ru c A (eval iter env) h fun x h₀ => ∃ l ps, x = .ref l ∧ PtL h₀ l ps ∧ ∃ (J : Nat → Heap → Prop) (X : List Addr), l ∉ X ∧ (∀ i h', J i h' → Gr X h₀ h') ∧ (∀ h', Gr [] h₀ h' → J 0 h') ∧
      (∀ I i h₁ h₂, (∃ l i, h₁.IsListIter I l i) → h₀.get? I = none → J i h₁ → Gr [I] h₁ h₂ → J i h₂) ∧
      (∀ i h' v p, J i h' → ps[i]? = some p → IsPt h' v p → Ru c A (assign target env v) h' fun _ h₃ => Ru c A (execs body env) h₃ fun f h₄ =>
        match f with | .next | .cont => J (i + 1) h₄ ∧ ∃ Y, Gr Y h' h₄ ∧ ∀ y ∈ Y, NoIt h' y | .brk => P .next h₄ | .ret v => P (.ret v) h₄) ∧
      (∀ h', J ps.length h' → P .next h'))
    (hs : ∀ x, foldedSetIterable iter env x = Pure.pure x := by intro _; rfl) : Ru c A (exec (.For target iter body [] pos) env) h P := by
  refine Ru.forS (r.mono fun x h₀ hh => ?_) hs
  obtain ⟨l, ps, e, x, J, X, hX, jg, j0, js, turn, fin⟩ := hh
  subst e
  obtain ⟨vs, nn, hl, hp⟩ := x
  have hlen := hp.length
  refine Ru.iterL hl.isList fun I h₁ fI it₁ g₁ => ?_
  have nI : l ≠ I := ne_of_fresh hl fI
  refine ⟨I, (List.toArray vs).size, (fun i v => (List.toArray vs)[i]? = some v), (fun i h => h.IsListIter I l i ∧ h.IsList l (List.toArray vs)), rfl, Src.list hh nI, fun i h' => J i h' ∧ h'.IsListIter I l i, ⟨j0 _ g₁, it₁⟩, ?_, ?_, ?_⟩
  · rintro i h' ⟨j, it⟩
    exact ⟨it, (jg i h' j).lst hl.isList hX⟩
  · rintro i h' h'' v hi ⟨j, it⟩ hv ⟨it', _⟩ g
    have j' := js I i h' h'' ⟨_, _, it⟩ fI j g
    have hvv : vs[i]? = some v := by simpa using hv
    obtain ⟨p, ep, y⟩ := hp.getL hvv
    refine (turn i h'' v p j' ep ((jg i h'' j').pt y)).mono fun _ h₃ r => r.mono fun f h₄ r => ?_
    cases f with
    | next => obtain ⟨j4, Y, gY, nY⟩ := r; exact ⟨j4, gY.it it' fun m => nY _ m _ _ it'⟩
    | cont => obtain ⟨j4, Y, gY, nY⟩ := r; exact ⟨j4, gY.it it' fun m => nY _ m _ _ it'⟩
    | brk => exact r
    | ret v => exact r
  · rintro h' h'' ⟨j, it⟩ g
    have j' := js I _ h' h'' ⟨_, _, it⟩ fI j g
    refine fin h'' ?_
    have e : (List.toArray vs).size = ps.length := by simp [hlen]
    rwa [e] at j'


theorem law_10 (W : World' hT mg mb) (rm : Rm 6 A) (w : Lw hT h L m C D M) (F : Facts C D M) (ar : La h m (area C) (area D) (area M)) : Ru c A (execs ((bodyOf 12).drop 10) (env12 L a cd)) h fun f h' => f = .ret (.bool true) ∧ Gr [] hT h' := by
  have n := w.n
  have U := w.U
  have hlT := w.new 0 (by decide)
  have hc := F.c4
  have hd := F.d4
  have hfew := F.few
  have ha := W.none "abs" (by simp)
  obtain ⟨fs, FS⟩ := W.steps
  obtain ⟨os, _, _, _, _, _, hos, hds, _⟩ := FS.obj
  obtain ⟨ff, FF⟩ := W.addf
  obtain ⟨of, _, _, _, _, _, hof, hdf, _⟩ := FF.obj
  show Ru c _ (execs (_ :: _) _) _ _
  repeat (first | ((with_reducible show Ru _ _ (eval (Expr.Name _ _) _) _ _); first | refine Ru.name (by assumption) (by first | assumption | rfl) ?_ | refine Ru.celln (by assumption) rfl ?_) | ((with_reducible show Ru _ _ (eval (Expr.Constant (Const.int _) _ _) _) _ _); refine Ru.intC fun _ => ?_) | ((with_reducible show Ru _ _ (eval (Expr.Tuple _ _ _) _) _ _); refine Ru.tupE ?_) | ((with_reducible show Ru _ _ (eval (Expr.Subscript _ _ _) _) _ _); refine Ru.sub ?_) | ((with_reducible show Ru _ _ (execs (_ :: _) _) _ _); refine Ru.cons ?_) | ((with_reducible show Ru _ _ (execs [] _) _ _); refine Ru.nil ?_) | ((with_reducible show Ru _ _ (exec (Stmt.Assign [Expr.Name _ _] _ _) _) _ _); refine Ru.asg ?_) | ((with_reducible show Ru _ _ (spliced (backTo _ (starEach (_ :: _) _))) _ _); refine Ru.spc ?_) | ((with_reducible show Ru _ _ (spliced (backTo _ (starEach [] _))) _ _); refine Ru.spn ?_))
  refine Ru.dict0 (W.T.lim.keeps U.keeps) fun h₁ d₁ z₁ g₁ f₁ => ?_
  repeat (first | ((with_reducible show Ru _ _ (eval (Expr.Name _ _) _) _ _); first | refine Ru.name (by assumption) (by first | assumption | rfl) ?_ | refine Ru.celln (by assumption) rfl ?_) | ((with_reducible show Ru _ _ (eval (Expr.Constant (Const.int _) _ _) _) _ _); refine Ru.intC fun _ => ?_) | ((with_reducible show Ru _ _ (eval (Expr.Tuple _ _ _) _) _ _); refine Ru.tupE ?_) | ((with_reducible show Ru _ _ (eval (Expr.Subscript _ _ _) _) _ _); refine Ru.sub ?_) | ((with_reducible show Ru _ _ (execs (_ :: _) _) _ _); refine Ru.cons ?_) | ((with_reducible show Ru _ _ (execs [] _) _ _); refine Ru.nil ?_) | ((with_reducible show Ru _ _ (exec (Stmt.Assign [Expr.Name _ _] _ _) _) _ _); refine Ru.asg ?_) | ((with_reducible show Ru _ _ (spliced (backTo _ (starEach (_ :: _) _))) _ _); refine Ru.spc ?_) | ((with_reducible show Ru _ _ (spliced (backTo _ (starEach [] _))) _ _); refine Ru.spn ?_))
  refine Ru.newT (show 5 ≤ sizeLine by decide) fun h₂ T₂ g₂ => ?_
  have dL : d₁ ≠ L := by obtain ⟨o, _, _, ho, _⟩ := id n; exact (ne_of_fresh ho f₁).symm
  refine Ru.store (g₂.ns (g₁.ns n List.not_mem_nil) (by simp)) fun h₃ n₃ g₃ => ?_
  have g₃ : Gr [L] h₂ h₃ := g₃
  have w₃ := ((w.gr g₁).gr g₂).put g₃ n₃ rfl
  have ar₃ := ((ar.gr g₁).gr g₂).put ((w.gr g₁).gr g₂).n g₃ (m' := fun y => if y = "whole" then some (.ref h₁.objs.size) else m y) rfl
  have wh₃ : Is5 h₃ (.ref h₁.objs.size) d₁ 0 0 0 0 := ⟨_, _, _, _, _, rfl, g₃.tup T₂, (z₁.gr g₂ List.not_mem_nil).gr g₃ (notIn_one dL)⟩
  have U₃ := w₃.U
  obtain ⟨lM, eM, xM⟩ := w₃.both
  repeat (first | ((with_reducible show Ru _ _ (eval (Expr.Name _ _) _) _ _); first | refine Ru.name (by assumption) (by first | assumption | rfl) ?_ | refine Ru.celln (by assumption) rfl ?_) | ((with_reducible show Ru _ _ (eval (Expr.Constant (Const.int _) _ _) _) _ _); refine Ru.intC fun _ => ?_) | ((with_reducible show Ru _ _ (eval (Expr.Tuple _ _ _) _) _ _); refine Ru.tupE ?_) | ((with_reducible show Ru _ _ (eval (Expr.Subscript _ _ _) _) _ _); refine Ru.sub ?_) | ((with_reducible show Ru _ _ (execs (_ :: _) _) _ _); refine Ru.cons ?_) | ((with_reducible show Ru _ _ (execs [] _) _ _); refine Ru.nil ?_) | ((with_reducible show Ru _ _ (exec (Stmt.Assign [Expr.Name _ _] _ _) _) _ _); refine Ru.asg ?_) | ((with_reducible show Ru _ _ (spliced (backTo _ (starEach (_ :: _) _))) _ _); refine Ru.spc ?_) | ((with_reducible show Ru _ _ (spliced (backTo _ (starEach [] _))) _ _); refine Ru.spn ?_))
  refine Ru.mono (P := fun fl h' => fl = .next ∧ ∃ m, Lw hT h' L m C D M ∧ La h' m (area C) (area D) (area M) ∧ ∃ v d, m "whole" = some v ∧ Is5 h' v d ((steps M).map (·.1)).sum ((steps M).map (·.2)).sum ((steps M).map fun e => ab e.1).sum ((steps M).map fun e => ab e.2).sum) ?_ ?_
  · refine Ru.forQ rm.hh ?_
    refine Ru.callN (Ru.glob (W.T.g.keeps U₃.keeps) FS.glob ?_)
    refine Ru.withF (o := os) hds ?_
    repeat (first | ((with_reducible show Ru _ _ (eval (Expr.Name _ _) _) _ _); first | refine Ru.name (by assumption) (by first | assumption | rfl) ?_ | refine Ru.celln (by assumption) rfl ?_) | ((with_reducible show Ru _ _ (eval (Expr.Constant (Const.int _) _ _) _) _ _); refine Ru.intC fun _ => ?_) | ((with_reducible show Ru _ _ (eval (Expr.Tuple _ _ _) _) _ _); refine Ru.tupE ?_) | ((with_reducible show Ru _ _ (eval (Expr.Subscript _ _ _) _) _ _); refine Ru.sub ?_) | ((with_reducible show Ru _ _ (execs (_ :: _) _) _ _); refine Ru.cons ?_) | ((with_reducible show Ru _ _ (execs [] _) _ _); refine Ru.nil ?_) | ((with_reducible show Ru _ _ (exec (Stmt.Assign [Expr.Name _ _] _ _) _) _ _); refine Ru.asg ?_) | ((with_reducible show Ru _ _ (spliced (backTo _ (starEach (_ :: _) _))) _ _); refine Ru.spc ?_) | ((with_reducible show Ru _ _ (spliced (backTo _ (starEach [] _))) _ _); refine Ru.spn ?_))
    refine ⟨U₃.keeps _ _ hos, ?_⟩
    refine spec_steps W FS (rm.less (by decide)) U₃ xM (by omega) fun h₄ lT g₄ xT fT => ?_
    have LT : lT ≠ L := by obtain ⟨o, _, _, ho, _⟩ := id n₃; exact (ne_of_fresh ho fT).symm
    have w₄ := w₃.gr g₄
    have n₄ := w₄.n
    have sl := steps_len M
    refine ⟨lT, steps M, rfl, xT, fun i h' => ∃ m', Lw hT h' L m' C D M ∧ La h' m' (area C) (area D) (area M) ∧ (∃ v d, m' "whole" = some v ∧ d ≠ L ∧ Is5 h' v d (((steps M).take i).map (·.1)).sum (((steps M).take i).map (·.2)).sum (((steps M).take i).map fun e => ab e.1).sum (((steps M).take i).map fun e => ab e.2).sum) ∧ Gr [L] h₄ h', [L], notIn_one LT, ?_, ?_, ?_, ?_, ?_⟩
    · rintro i h' ⟨_, _, _, _, g⟩; exact g
    · exact fun h' g => ⟨_, w₄.gr g, (ar₃.gr g₄).gr g, ⟨_, d₁, rfl, dL, (wh₃.gr g₄ List.not_mem_nil).gr g List.not_mem_nil⟩, g.nil⟩
    · rintro I i h' h'' ⟨l, j, it⟩ fI ⟨m', w', ar', ⟨v, d, ev, dL', wh'⟩, G⟩ g
      refine ⟨m', w'.gi it g (w₄.U.gone fI), ar'.gi it g, ⟨v, d, ev, dL', wh'.gr g (notIn_one ?_)⟩, G.wash g (by intro y hy; rw [List.mem_singleton] at hy; subst hy; exact .inl fI)⟩
      obtain ⟨_, _, _, _, _, _, _, e⟩ := wh'.is
      exact ne_e_it e it
    · rintro i h' v p ⟨m', w', ar', ⟨wv, d, ev, dL', wh'⟩, G⟩ ep y
      refine Ru.aPair rm.hh w'.n y fun h₅ t u n₅ g₅ => ?_
      have g₅ : Gr [L] h' h₅ := g₅
      have w₅ := w'.put g₅ n₅ rfl
      have ar₅ := ar'.put w'.n g₅ (m' := fun z => if z = "y" then some (.int p.2 u) else if z = "x" then some (.int p.1 t) else m' z) rfl
      have wh₅ := wh'.gr g₅ (notIn_one dL')
      have U₅ := w₅.U
      show Ru c _ (execs (_ :: _) _) _ _
      repeat (first | ((with_reducible show Ru _ _ (eval (Expr.Name _ _) _) _ _); first | refine Ru.name (by assumption) (by first | assumption | rfl) ?_ | refine Ru.celln (by assumption) rfl ?_) | ((with_reducible show Ru _ _ (eval (Expr.Constant (Const.int _) _ _) _) _ _); refine Ru.intC fun _ => ?_) | ((with_reducible show Ru _ _ (eval (Expr.Tuple _ _ _) _) _ _); refine Ru.tupE ?_) | ((with_reducible show Ru _ _ (eval (Expr.Subscript _ _ _) _) _ _); refine Ru.sub ?_) | ((with_reducible show Ru _ _ (execs (_ :: _) _) _ _); refine Ru.cons ?_) | ((with_reducible show Ru _ _ (execs [] _) _ _); refine Ru.nil ?_) | ((with_reducible show Ru _ _ (exec (Stmt.Assign [Expr.Name _ _] _ _) _) _ _); refine Ru.asg ?_) | ((with_reducible show Ru _ _ (spliced (backTo _ (starEach (_ :: _) _))) _ _); refine Ru.spc ?_) | ((with_reducible show Ru _ _ (spliced (backTo _ (starEach [] _))) _ _); refine Ru.spn ?_))
      refine Ru.callN (Ru.glob (W.T.g.keeps U₅.keeps) FF.glob ?_)
      refine Ru.withF (o := of) hdf ?_
      repeat (first | ((with_reducible show Ru _ _ (eval (Expr.Name _ _) _) _ _); first | refine Ru.name (by assumption) (by first | assumption | rfl) ?_ | refine Ru.celln (by assumption) rfl ?_) | ((with_reducible show Ru _ _ (eval (Expr.Constant (Const.int _) _ _) _) _ _); refine Ru.intC fun _ => ?_) | ((with_reducible show Ru _ _ (eval (Expr.Tuple _ _ _) _) _ _); refine Ru.tupE ?_) | ((with_reducible show Ru _ _ (eval (Expr.Subscript _ _ _) _) _ _); refine Ru.sub ?_) | ((with_reducible show Ru _ _ (execs (_ :: _) _) _ _); refine Ru.cons ?_) | ((with_reducible show Ru _ _ (execs [] _) _ _); refine Ru.nil ?_) | ((with_reducible show Ru _ _ (exec (Stmt.Assign [Expr.Name _ _] _ _) _) _ _); refine Ru.asg ?_) | ((with_reducible show Ru _ _ (spliced (backTo _ (starEach (_ :: _) _))) _ _); refine Ru.spc ?_) | ((with_reducible show Ru _ _ (spliced (backTo _ (starEach [] _))) _ _); refine Ru.spn ?_))
      refine Ru.callN (Ru.blt (W.T.g.keeps U₅.keeps) ha (W.T.b.keeps U₅.keeps) W.abs ?_)
      refine Ru.withB ?_
      repeat (first | ((with_reducible show Ru _ _ (eval (Expr.Name _ _) _) _ _); first | refine Ru.name (by assumption) (by first | assumption | rfl) ?_ | refine Ru.celln (by assumption) rfl ?_) | ((with_reducible show Ru _ _ (eval (Expr.Constant (Const.int _) _ _) _) _ _); refine Ru.intC fun _ => ?_) | ((with_reducible show Ru _ _ (eval (Expr.Tuple _ _ _) _) _ _); refine Ru.tupE ?_) | ((with_reducible show Ru _ _ (eval (Expr.Subscript _ _ _) _) _ _); refine Ru.sub ?_) | ((with_reducible show Ru _ _ (execs (_ :: _) _) _ _); refine Ru.cons ?_) | ((with_reducible show Ru _ _ (execs [] _) _ _); refine Ru.nil ?_) | ((with_reducible show Ru _ _ (exec (Stmt.Assign [Expr.Name _ _] _ _) _) _ _); refine Ru.asg ?_) | ((with_reducible show Ru _ _ (spliced (backTo _ (starEach (_ :: _) _))) _ _); refine Ru.spc ?_) | ((with_reducible show Ru _ _ (spliced (backTo _ (starEach [] _))) _ _); refine Ru.spn ?_))
      refine Ru.abs fun t₁ => ?_
      repeat (first | ((with_reducible show Ru _ _ (eval (Expr.Name _ _) _) _ _); first | refine Ru.name (by assumption) (by first | assumption | rfl) ?_ | refine Ru.celln (by assumption) rfl ?_) | ((with_reducible show Ru _ _ (eval (Expr.Constant (Const.int _) _ _) _) _ _); refine Ru.intC fun _ => ?_) | ((with_reducible show Ru _ _ (eval (Expr.Tuple _ _ _) _) _ _); refine Ru.tupE ?_) | ((with_reducible show Ru _ _ (eval (Expr.Subscript _ _ _) _) _ _); refine Ru.sub ?_) | ((with_reducible show Ru _ _ (execs (_ :: _) _) _ _); refine Ru.cons ?_) | ((with_reducible show Ru _ _ (execs [] _) _ _); refine Ru.nil ?_) | ((with_reducible show Ru _ _ (exec (Stmt.Assign [Expr.Name _ _] _ _) _) _ _); refine Ru.asg ?_) | ((with_reducible show Ru _ _ (spliced (backTo _ (starEach (_ :: _) _))) _ _); refine Ru.spc ?_) | ((with_reducible show Ru _ _ (spliced (backTo _ (starEach [] _))) _ _); refine Ru.spn ?_))
      refine Ru.callN (Ru.blt (W.T.g.keeps U₅.keeps) ha (W.T.b.keeps U₅.keeps) W.abs ?_)
      refine Ru.withB ?_
      repeat (first | ((with_reducible show Ru _ _ (eval (Expr.Name _ _) _) _ _); first | refine Ru.name (by assumption) (by first | assumption | rfl) ?_ | refine Ru.celln (by assumption) rfl ?_) | ((with_reducible show Ru _ _ (eval (Expr.Constant (Const.int _) _ _) _) _ _); refine Ru.intC fun _ => ?_) | ((with_reducible show Ru _ _ (eval (Expr.Tuple _ _ _) _) _ _); refine Ru.tupE ?_) | ((with_reducible show Ru _ _ (eval (Expr.Subscript _ _ _) _) _ _); refine Ru.sub ?_) | ((with_reducible show Ru _ _ (execs (_ :: _) _) _ _); refine Ru.cons ?_) | ((with_reducible show Ru _ _ (execs [] _) _ _); refine Ru.nil ?_) | ((with_reducible show Ru _ _ (exec (Stmt.Assign [Expr.Name _ _] _ _) _) _ _); refine Ru.asg ?_) | ((with_reducible show Ru _ _ (spliced (backTo _ (starEach (_ :: _) _))) _ _); refine Ru.spc ?_) | ((with_reducible show Ru _ _ (spliced (backTo _ (starEach [] _))) _ _); refine Ru.spn ?_))
      refine Ru.abs fun t₂ => ?_
      repeat (first | ((with_reducible show Ru _ _ (eval (Expr.Name _ _) _) _ _); first | refine Ru.name (by assumption) (by first | assumption | rfl) ?_ | refine Ru.celln (by assumption) rfl ?_) | ((with_reducible show Ru _ _ (eval (Expr.Constant (Const.int _) _ _) _) _ _); refine Ru.intC fun _ => ?_) | ((with_reducible show Ru _ _ (eval (Expr.Tuple _ _ _) _) _ _); refine Ru.tupE ?_) | ((with_reducible show Ru _ _ (eval (Expr.Subscript _ _ _) _) _ _); refine Ru.sub ?_) | ((with_reducible show Ru _ _ (execs (_ :: _) _) _ _); refine Ru.cons ?_) | ((with_reducible show Ru _ _ (execs [] _) _ _); refine Ru.nil ?_) | ((with_reducible show Ru _ _ (exec (Stmt.Assign [Expr.Name _ _] _ _) _) _ _); refine Ru.asg ?_) | ((with_reducible show Ru _ _ (spliced (backTo _ (starEach (_ :: _) _))) _ _); refine Ru.spc ?_) | ((with_reducible show Ru _ _ (spliced (backTo _ (starEach [] _))) _ _); refine Ru.spn ?_))
      refine Ru.dict0 (W.T.lim.keeps U₅.keeps) fun h₆ d₆ z₆ g₆ f₆ => ?_
      repeat (first | ((with_reducible show Ru _ _ (eval (Expr.Name _ _) _) _ _); first | refine Ru.name (by assumption) (by first | assumption | rfl) ?_ | refine Ru.celln (by assumption) rfl ?_) | ((with_reducible show Ru _ _ (eval (Expr.Constant (Const.int _) _ _) _) _ _); refine Ru.intC fun _ => ?_) | ((with_reducible show Ru _ _ (eval (Expr.Tuple _ _ _) _) _ _); refine Ru.tupE ?_) | ((with_reducible show Ru _ _ (eval (Expr.Subscript _ _ _) _) _ _); refine Ru.sub ?_) | ((with_reducible show Ru _ _ (execs (_ :: _) _) _ _); refine Ru.cons ?_) | ((with_reducible show Ru _ _ (execs [] _) _ _); refine Ru.nil ?_) | ((with_reducible show Ru _ _ (exec (Stmt.Assign [Expr.Name _ _] _ _) _) _ _); refine Ru.asg ?_) | ((with_reducible show Ru _ _ (spliced (backTo _ (starEach (_ :: _) _))) _ _); refine Ru.spc ?_) | ((with_reducible show Ru _ _ (spliced (backTo _ (starEach [] _))) _ _); refine Ru.spn ?_))
      refine Ru.newT (show 5 ≤ sizeLine by decide) fun h₇ T₇ g₇ => ?_
      repeat (first | ((with_reducible show Ru _ _ (eval (Expr.Name _ _) _) _ _); first | refine Ru.name (by assumption) (by first | assumption | rfl) ?_ | refine Ru.celln (by assumption) rfl ?_) | ((with_reducible show Ru _ _ (eval (Expr.Constant (Const.int _) _ _) _) _ _); refine Ru.intC fun _ => ?_) | ((with_reducible show Ru _ _ (eval (Expr.Tuple _ _ _) _) _ _); refine Ru.tupE ?_) | ((with_reducible show Ru _ _ (eval (Expr.Subscript _ _ _) _) _ _); refine Ru.sub ?_) | ((with_reducible show Ru _ _ (execs (_ :: _) _) _ _); refine Ru.cons ?_) | ((with_reducible show Ru _ _ (execs [] _) _ _); refine Ru.nil ?_) | ((with_reducible show Ru _ _ (exec (Stmt.Assign [Expr.Name _ _] _ _) _) _ _); refine Ru.asg ?_) | ((with_reducible show Ru _ _ (spliced (backTo _ (starEach (_ :: _) _))) _ _); refine Ru.spc ?_) | ((with_reducible show Ru _ _ (spliced (backTo _ (starEach [] _))) _ _); refine Ru.spn ?_))
      have U₇ := (U₅.trans g₆).trans g₇
      refine ⟨U₇.keeps _ _ hof, ?_⟩
      refine spec_addf W FF (rm.less (by decide)) U₇ ((wh₅.gr g₆ List.not_mem_nil).gr g₇ List.not_mem_nil) ⟨_, _, _, _, _, rfl, T₇, z₆.gr g₇ List.not_mem_nil⟩ fun h₈ v₈ d₈ g₈ wh₈ f₈ => ?_
      have w₈ := ((w₅.gr g₆).gr g₇).gr g₈
      have ar₈ := ((ar₅.gr g₆).gr g₇).gr g₈
      have dL₈ : d₈ ≠ L := by obtain ⟨o, _, _, ho, _⟩ := ((w₅.gr g₆).gr g₇).n; exact (ne_of_fresh ho f₈).symm
      refine Ru.store w₈.n fun h₉ n₉ g₉ => ?_
      have g₉ : Gr [L] h₈ h₉ := g₉
      repeat (first | ((with_reducible show Ru _ _ (eval (Expr.Name _ _) _) _ _); first | refine Ru.name (by assumption) (by first | assumption | rfl) ?_ | refine Ru.celln (by assumption) rfl ?_) | ((with_reducible show Ru _ _ (eval (Expr.Constant (Const.int _) _ _) _) _ _); refine Ru.intC fun _ => ?_) | ((with_reducible show Ru _ _ (eval (Expr.Tuple _ _ _) _) _ _); refine Ru.tupE ?_) | ((with_reducible show Ru _ _ (eval (Expr.Subscript _ _ _) _) _ _); refine Ru.sub ?_) | ((with_reducible show Ru _ _ (execs (_ :: _) _) _ _); refine Ru.cons ?_) | ((with_reducible show Ru _ _ (execs [] _) _ _); refine Ru.nil ?_) | ((with_reducible show Ru _ _ (exec (Stmt.Assign [Expr.Name _ _] _ _) _) _ _); refine Ru.asg ?_) | ((with_reducible show Ru _ _ (spliced (backTo _ (starEach (_ :: _) _))) _ _); refine Ru.spc ?_) | ((with_reducible show Ru _ _ (spliced (backTo _ (starEach [] _))) _ _); refine Ru.spn ?_))
      refine ⟨⟨_, w₈.put g₉ n₉ rfl, ar₈.put w₈.n g₉ rfl, ⟨v₈, d₈, rfl, dL₈, ?_⟩, G.trans (g₅.trans (g₆.nil.trans (g₇.nil.trans (g₈.nil.trans g₉))))⟩, [L], g₅.trans (g₆.nil.trans (g₇.nil.trans (g₈.nil.trans g₉))), ?_⟩
      · have := wh₈.gr g₉ (notIn_one dL₈)
        rw [List.take_add_one, ep]
        simp only [Option.toList, List.map_append, List.map_cons, List.map_nil, List.sum_append, List.sum_cons, List.sum_nil, Int.add_zero]
        rw [Int.add_comm _ p.1, Int.add_comm _ p.2, Int.add_comm _ (ab p.1), Int.add_comm _ (ab p.2)]
        exact this
      · intro y hy; rw [List.mem_singleton] at hy; subst hy; exact noIt_ns w'.n
    · rintro h' ⟨m', w', ar', ⟨v, d, ev, _, wh'⟩, G⟩
      rw [List.take_of_length_le (Nat.le_refl _)] at wh'
      exact ⟨rfl, m', w', ar', v, d, ev, wh'⟩
  · rintro _ h' ⟨rfl, m', w', ar', v, d, ev, wh'⟩
    exact law_12 W rm w' F ar' ⟨v, d, ev, wh'⟩
end
end Mink

/-! MkY -/
set_option maxHeartbeats 4000000
namespace Mink
open PySem PySem.W PyProof.Rows PySem.Calls

theorem mul_bd {a b K : Int} (h1 : -K ≤ a) (h2 : a ≤ K) (h3 : -K ≤ b) (h4 : b ≤ K) : a * b ≤ K * K ∧ -(K * K) ≤ a * b := by
  have e1 := Int.mul_nonneg (show 0 ≤ K - a by omega) (show 0 ≤ K + b by omega)
  have e2 := Int.mul_nonneg (show 0 ≤ K + a by omega) (show 0 ≤ K - b by omega)
  have e3 := Int.mul_nonneg (show 0 ≤ K - a by omega) (show 0 ≤ K - b by omega)
  have e4 := Int.mul_nonneg (show 0 ≤ K + a by omega) (show 0 ≤ K + b by omega)
  constructor <;> grind
theorem sum_bd {K : Int} : ∀ {l : List Int}, (∀ x ∈ l, x ≤ K ∧ -K ≤ x) → l.sum ≤ K * l.length ∧ -(K * l.length) ≤ l.sum
  | [], _ => by simp
  | x :: l, h => by
    have := sum_bd (l := l) fun y hy => h y (by simp [hy])
    have hx := h x (by simp)
    simp only [List.sum_cons, List.length_cons]
    have e : K * ((l.length + 1 : Nat) : Int) = K * l.length + K := by rw [Int.natCast_add, Int.mul_add]; simp
    rw [e]
    omega
theorem cyc_mem {ps : List Pt} {e : Pt × Pt} (h : e ∈ cyc ps) : e.1 ∈ ps ∧ e.2 ∈ ps := by
  unfold cyc at h
  obtain ⟨k, hk, rfl⟩ := List.mem_map.mp h
  have hk := List.mem_range.mp hk
  exact ⟨prv_mem hk, cur_mem hk⟩
theorem area_bd {ps : List Pt} (h : ∀ p ∈ ps, Bd p) (hz : ps.length ≤ 100) : area ps ≤ 200000000000000 ∧ -200000000000000 ≤ area ps := by
  have := sum_bd (K := 2000000000000) (l := (cyc ps).map fun e => e.1.1 * e.2.2 - e.2.1 * e.1.2) fun x hx => by
    obtain ⟨e, he, rfl⟩ := List.mem_map.mp hx
    obtain ⟨h1, h2⟩ := cyc_mem he
    have b1 := h _ h1
    have b2 := h _ h2
    unfold Bd at b1 b2
    have m1 := mul_bd (a := e.1.1) (b := e.2.2) (K := 1000000) (by omega) (by omega) (by omega) (by omega)
    have m2 := mul_bd (a := e.2.1) (b := e.1.2) (K := 1000000) (by omega) (by omega) (by omega) (by omega)
    omega
  rw [List.length_map, cyc_len] at this
  unfold area
  omega

section
variable {c : Cx} {A : Around} {h hT : Heap} {mg mb : Str → Option Value} {L a : Addr} {cd : Value} {m : Str → Option Value} {C D M : List Pt}


theorem law_9 (W : World' hT mg mb) (rm : Rm 6 A) (w : Lw hT h L m C D M) (F : Facts C D M) (ar : La h m (area C) (area D) (area M)) : Ru c A (execs ((bodyOf 12).drop 9) (env12 L a cd)) h fun f h' => f = .ret (.bool true) ∧ Gr [] hT h' := by
  have n := w.n
  have U := w.U
  have hc := F.c4
  obtain ⟨fs, FS⟩ := W.sum
  obtain ⟨os, _, _, _, _, _, hos, hds, _⟩ := FS.obj
  obtain ⟨fa, FA⟩ := W.area
  obtain ⟨oa, _, _, _, _, _, hoa, hda, _⟩ := FA.obj
  obtain ⟨fc, FC⟩ := W.corners
  obtain ⟨oc, _, _, _, _, _, hoc, hdc, _⟩ := FC.obj
  obtain ⟨l₁, c₁, x₁⟩ := w.one
  obtain ⟨la, t₀, t₁, t₂, ea, ia⟩ := id ar
  have bC : ∀ p ∈ C, Sm p := fun p hp => (F.sC p hp).sm
  have bb := sums_bd bC bC
  have few := sums_few hc hc
  have lcs := cor_len (sums C C)
  have aC := area_bd (fun p hp => (bC p hp).bd) (by omega : C.length ≤ 100)
  show Ru c _ (execs (_ :: _) _) _ _
  repeat (first | ((with_reducible show Ru _ _ (eval (Expr.Name _ _) _) _ _); first | refine Ru.name (by assumption) (by first | assumption | rfl) ?_ | refine Ru.celln (by assumption) rfl ?_) | ((with_reducible show Ru _ _ (eval (Expr.Constant (Const.int _) _ _) _) _ _); refine Ru.intC fun _ => ?_) | ((with_reducible show Ru _ _ (eval (Expr.Tuple _ _ _) _) _ _); refine Ru.tupE ?_) | ((with_reducible show Ru _ _ (eval (Expr.List _ _) _) _ _); refine Ru.lstE ?_) | ((with_reducible show Ru _ _ (eval (Expr.BinOp _ _ _ _) _) _ _); refine Ru.bin ?_) | ((with_reducible show Ru _ _ (binaryOp Operator.Sub (Value.int _ _) (Value.int _ _)) _ _); refine Ru.sb fun _ => ?_) | ((with_reducible show Ru _ _ (eval (Expr.Subscript _ _ _) _) _ _); refine Ru.sub ?_) | ((with_reducible show Ru _ _ (isTrue (Expr.Compare _ _ _ _) _ _) _ _); refine Ru.test ?_) | ((with_reducible show Ru _ _ (isTrue (Expr.BoolOp BoolOp.Or (_ :: _) _) _ _) _ _); refine Ru.orC ?_) | ((with_reducible show Ru _ _ (isTrue (Expr.BoolOp BoolOp.Or [] _) _ _) _ _); refine Ru.orN ?_) | ((with_reducible show Ru _ _ (execs (_ :: _) _) _ _); refine Ru.cons ?_) | ((with_reducible show Ru _ _ (execs [] _) _ _); refine Ru.nil ?_) | ((with_reducible show Ru _ _ (exec (Stmt.If _ _ _ _) _) _ _); refine Ru.ifS ?_) | ((with_reducible show Ru _ _ (exec (Stmt.Assign [Expr.Name _ _] _ _) _) _ _); refine Ru.asg ?_) | ((with_reducible show Ru _ _ (spliced (backTo _ (starEach (_ :: _) _))) _ _); refine Ru.spc ?_) | ((with_reducible show Ru _ _ (spliced (backTo _ (starEach [] _))) _ _); refine Ru.spn ?_))
  refine Ru.callN (Ru.glob (W.T.g.keeps U.keeps) FA.glob ?_)
  refine Ru.withF (o := oa) hda ?_
  repeat (first | ((with_reducible show Ru _ _ (eval (Expr.Name _ _) _) _ _); first | refine Ru.name (by assumption) (by first | assumption | rfl) ?_ | refine Ru.celln (by assumption) rfl ?_) | ((with_reducible show Ru _ _ (eval (Expr.Constant (Const.int _) _ _) _) _ _); refine Ru.intC fun _ => ?_) | ((with_reducible show Ru _ _ (eval (Expr.Tuple _ _ _) _) _ _); refine Ru.tupE ?_) | ((with_reducible show Ru _ _ (eval (Expr.List _ _) _) _ _); refine Ru.lstE ?_) | ((with_reducible show Ru _ _ (eval (Expr.BinOp _ _ _ _) _) _ _); refine Ru.bin ?_) | ((with_reducible show Ru _ _ (binaryOp Operator.Sub (Value.int _ _) (Value.int _ _)) _ _); refine Ru.sb fun _ => ?_) | ((with_reducible show Ru _ _ (eval (Expr.Subscript _ _ _) _) _ _); refine Ru.sub ?_) | ((with_reducible show Ru _ _ (isTrue (Expr.Compare _ _ _ _) _ _) _ _); refine Ru.test ?_) | ((with_reducible show Ru _ _ (isTrue (Expr.BoolOp BoolOp.Or (_ :: _) _) _ _) _ _); refine Ru.orC ?_) | ((with_reducible show Ru _ _ (isTrue (Expr.BoolOp BoolOp.Or [] _) _ _) _ _); refine Ru.orN ?_) | ((with_reducible show Ru _ _ (execs (_ :: _) _) _ _); refine Ru.cons ?_) | ((with_reducible show Ru _ _ (execs [] _) _ _); refine Ru.nil ?_) | ((with_reducible show Ru _ _ (exec (Stmt.If _ _ _ _) _) _ _); refine Ru.ifS ?_) | ((with_reducible show Ru _ _ (exec (Stmt.Assign [Expr.Name _ _] _ _) _) _ _); refine Ru.asg ?_) | ((with_reducible show Ru _ _ (spliced (backTo _ (starEach (_ :: _) _))) _ _); refine Ru.spc ?_) | ((with_reducible show Ru _ _ (spliced (backTo _ (starEach [] _))) _ _); refine Ru.spn ?_))
  refine Ru.callN (Ru.glob (W.T.g.keeps U.keeps) FS.glob ?_)
  refine Ru.withF (o := os) hds ?_
  repeat (first | ((with_reducible show Ru _ _ (eval (Expr.Name _ _) _) _ _); first | refine Ru.name (by assumption) (by first | assumption | rfl) ?_ | refine Ru.celln (by assumption) rfl ?_) | ((with_reducible show Ru _ _ (eval (Expr.Constant (Const.int _) _ _) _) _ _); refine Ru.intC fun _ => ?_) | ((with_reducible show Ru _ _ (eval (Expr.Tuple _ _ _) _) _ _); refine Ru.tupE ?_) | ((with_reducible show Ru _ _ (eval (Expr.List _ _) _) _ _); refine Ru.lstE ?_) | ((with_reducible show Ru _ _ (eval (Expr.BinOp _ _ _ _) _) _ _); refine Ru.bin ?_) | ((with_reducible show Ru _ _ (binaryOp Operator.Sub (Value.int _ _) (Value.int _ _)) _ _); refine Ru.sb fun _ => ?_) | ((with_reducible show Ru _ _ (eval (Expr.Subscript _ _ _) _) _ _); refine Ru.sub ?_) | ((with_reducible show Ru _ _ (isTrue (Expr.Compare _ _ _ _) _ _) _ _); refine Ru.test ?_) | ((with_reducible show Ru _ _ (isTrue (Expr.BoolOp BoolOp.Or (_ :: _) _) _ _) _ _); refine Ru.orC ?_) | ((with_reducible show Ru _ _ (isTrue (Expr.BoolOp BoolOp.Or [] _) _ _) _ _); refine Ru.orN ?_) | ((with_reducible show Ru _ _ (execs (_ :: _) _) _ _); refine Ru.cons ?_) | ((with_reducible show Ru _ _ (execs [] _) _ _); refine Ru.nil ?_) | ((with_reducible show Ru _ _ (exec (Stmt.If _ _ _ _) _) _ _); refine Ru.ifS ?_) | ((with_reducible show Ru _ _ (exec (Stmt.Assign [Expr.Name _ _] _ _) _) _ _); refine Ru.asg ?_) | ((with_reducible show Ru _ _ (spliced (backTo _ (starEach (_ :: _) _))) _ _); refine Ru.spc ?_) | ((with_reducible show Ru _ _ (spliced (backTo _ (starEach [] _))) _ _); refine Ru.spn ?_))
  refine ⟨U.keeps _ _ hos, ?_⟩
  refine spec_sum W FS (rm.less (by decide)) U x₁ x₁ (by omega) (by omega) few bb fun h₁ a₁ g₁ y₁ _ => ?_
  have U₁ := U.trans g₁
  repeat (first | ((with_reducible show Ru _ _ (eval (Expr.Name _ _) _) _ _); first | refine Ru.name (by assumption) (by first | assumption | rfl) ?_ | refine Ru.celln (by assumption) rfl ?_) | ((with_reducible show Ru _ _ (eval (Expr.Constant (Const.int _) _ _) _) _ _); refine Ru.intC fun _ => ?_) | ((with_reducible show Ru _ _ (eval (Expr.Tuple _ _ _) _) _ _); refine Ru.tupE ?_) | ((with_reducible show Ru _ _ (eval (Expr.List _ _) _) _ _); refine Ru.lstE ?_) | ((with_reducible show Ru _ _ (eval (Expr.BinOp _ _ _ _) _) _ _); refine Ru.bin ?_) | ((with_reducible show Ru _ _ (binaryOp Operator.Sub (Value.int _ _) (Value.int _ _)) _ _); refine Ru.sb fun _ => ?_) | ((with_reducible show Ru _ _ (eval (Expr.Subscript _ _ _) _) _ _); refine Ru.sub ?_) | ((with_reducible show Ru _ _ (isTrue (Expr.Compare _ _ _ _) _ _) _ _); refine Ru.test ?_) | ((with_reducible show Ru _ _ (isTrue (Expr.BoolOp BoolOp.Or (_ :: _) _) _ _) _ _); refine Ru.orC ?_) | ((with_reducible show Ru _ _ (isTrue (Expr.BoolOp BoolOp.Or [] _) _ _) _ _); refine Ru.orN ?_) | ((with_reducible show Ru _ _ (execs (_ :: _) _) _ _); refine Ru.cons ?_) | ((with_reducible show Ru _ _ (execs [] _) _ _); refine Ru.nil ?_) | ((with_reducible show Ru _ _ (exec (Stmt.If _ _ _ _) _) _ _); refine Ru.ifS ?_) | ((with_reducible show Ru _ _ (exec (Stmt.Assign [Expr.Name _ _] _ _) _) _ _); refine Ru.asg ?_) | ((with_reducible show Ru _ _ (spliced (backTo _ (starEach (_ :: _) _))) _ _); refine Ru.spc ?_) | ((with_reducible show Ru _ _ (spliced (backTo _ (starEach [] _))) _ _); refine Ru.spn ?_))
  refine ⟨U₁.keeps _ _ hoa, ?_⟩
  refine spec_area W FA (rm.less (by decide)) U₁ y₁ (by omega) (fun p hp => bb p (cor_mem _ p hp)) fun h₂ u₂ g₂ => ?_
  have G₂ := g₁.trans g₂
  have n₂ := G₂.ns n List.not_mem_nil
  have ia₂ := G₂.lst ia List.not_mem_nil
  repeat (first | ((with_reducible show Ru _ _ (eval (Expr.Name _ _) _) _ _); first | refine Ru.name (by assumption) (by first | assumption | rfl) ?_ | refine Ru.celln (by assumption) rfl ?_) | ((with_reducible show Ru _ _ (eval (Expr.Constant (Const.int _) _ _) _) _ _); refine Ru.intC fun _ => ?_) | ((with_reducible show Ru _ _ (eval (Expr.Tuple _ _ _) _) _ _); refine Ru.tupE ?_) | ((with_reducible show Ru _ _ (eval (Expr.List _ _) _) _ _); refine Ru.lstE ?_) | ((with_reducible show Ru _ _ (eval (Expr.BinOp _ _ _ _) _) _ _); refine Ru.bin ?_) | ((with_reducible show Ru _ _ (binaryOp Operator.Sub (Value.int _ _) (Value.int _ _)) _ _); refine Ru.sb fun _ => ?_) | ((with_reducible show Ru _ _ (eval (Expr.Subscript _ _ _) _) _ _); refine Ru.sub ?_) | ((with_reducible show Ru _ _ (isTrue (Expr.Compare _ _ _ _) _ _) _ _); refine Ru.test ?_) | ((with_reducible show Ru _ _ (isTrue (Expr.BoolOp BoolOp.Or (_ :: _) _) _ _) _ _); refine Ru.orC ?_) | ((with_reducible show Ru _ _ (isTrue (Expr.BoolOp BoolOp.Or [] _) _ _) _ _); refine Ru.orN ?_) | ((with_reducible show Ru _ _ (execs (_ :: _) _) _ _); refine Ru.cons ?_) | ((with_reducible show Ru _ _ (execs [] _) _ _); refine Ru.nil ?_) | ((with_reducible show Ru _ _ (exec (Stmt.If _ _ _ _) _) _ _); refine Ru.ifS ?_) | ((with_reducible show Ru _ _ (exec (Stmt.Assign [Expr.Name _ _] _ _) _) _ _); refine Ru.asg ?_) | ((with_reducible show Ru _ _ (spliced (backTo _ (starEach (_ :: _) _))) _ _); refine Ru.spc ?_) | ((with_reducible show Ru _ _ (spliced (backTo _ (starEach [] _))) _ _); refine Ru.spn ?_))
  refine Ru.lstAt ia₂ (by decide) (by decide) rfl ?_
  refine Ru.mul (fun _ => ?_) (mulOk (by omega) (by omega))
  refine Ru.ne ⟨_, rfl, ?_⟩
  rw [F.four, if_neg (by simp)]
  have U₂ := U.trans G₂
  have c₂ := G₂.cell c₁ List.not_mem_nil
  have x₂ := x₁.gr0 G₂
  repeat (first | ((with_reducible show Ru _ _ (eval (Expr.Name _ _) _) _ _); first | refine Ru.name (by assumption) (by first | assumption | rfl) ?_ | refine Ru.celln (by assumption) rfl ?_) | ((with_reducible show Ru _ _ (eval (Expr.Constant (Const.int _) _ _) _) _ _); refine Ru.intC fun _ => ?_) | ((with_reducible show Ru _ _ (eval (Expr.Tuple _ _ _) _) _ _); refine Ru.tupE ?_) | ((with_reducible show Ru _ _ (eval (Expr.List _ _) _) _ _); refine Ru.lstE ?_) | ((with_reducible show Ru _ _ (eval (Expr.BinOp _ _ _ _) _) _ _); refine Ru.bin ?_) | ((with_reducible show Ru _ _ (binaryOp Operator.Sub (Value.int _ _) (Value.int _ _)) _ _); refine Ru.sb fun _ => ?_) | ((with_reducible show Ru _ _ (eval (Expr.Subscript _ _ _) _) _ _); refine Ru.sub ?_) | ((with_reducible show Ru _ _ (isTrue (Expr.Compare _ _ _ _) _ _) _ _); refine Ru.test ?_) | ((with_reducible show Ru _ _ (isTrue (Expr.BoolOp BoolOp.Or (_ :: _) _) _ _) _ _); refine Ru.orC ?_) | ((with_reducible show Ru _ _ (isTrue (Expr.BoolOp BoolOp.Or [] _) _ _) _ _); refine Ru.orN ?_) | ((with_reducible show Ru _ _ (execs (_ :: _) _) _ _); refine Ru.cons ?_) | ((with_reducible show Ru _ _ (execs [] _) _ _); refine Ru.nil ?_) | ((with_reducible show Ru _ _ (exec (Stmt.If _ _ _ _) _) _ _); refine Ru.ifS ?_) | ((with_reducible show Ru _ _ (exec (Stmt.Assign [Expr.Name _ _] _ _) _) _ _); refine Ru.asg ?_) | ((with_reducible show Ru _ _ (spliced (backTo _ (starEach (_ :: _) _))) _ _); refine Ru.spc ?_) | ((with_reducible show Ru _ _ (spliced (backTo _ (starEach [] _))) _ _); refine Ru.spn ?_))
  refine Ru.callN (Ru.glob (W.T.g.keeps U₂.keeps) FA.glob ?_)
  refine Ru.withF (o := oa) hda ?_
  repeat (first | ((with_reducible show Ru _ _ (eval (Expr.Name _ _) _) _ _); first | refine Ru.name (by assumption) (by first | assumption | rfl) ?_ | refine Ru.celln (by assumption) rfl ?_) | ((with_reducible show Ru _ _ (eval (Expr.Constant (Const.int _) _ _) _) _ _); refine Ru.intC fun _ => ?_) | ((with_reducible show Ru _ _ (eval (Expr.Tuple _ _ _) _) _ _); refine Ru.tupE ?_) | ((with_reducible show Ru _ _ (eval (Expr.List _ _) _) _ _); refine Ru.lstE ?_) | ((with_reducible show Ru _ _ (eval (Expr.BinOp _ _ _ _) _) _ _); refine Ru.bin ?_) | ((with_reducible show Ru _ _ (binaryOp Operator.Sub (Value.int _ _) (Value.int _ _)) _ _); refine Ru.sb fun _ => ?_) | ((with_reducible show Ru _ _ (eval (Expr.Subscript _ _ _) _) _ _); refine Ru.sub ?_) | ((with_reducible show Ru _ _ (isTrue (Expr.Compare _ _ _ _) _ _) _ _); refine Ru.test ?_) | ((with_reducible show Ru _ _ (isTrue (Expr.BoolOp BoolOp.Or (_ :: _) _) _ _) _ _); refine Ru.orC ?_) | ((with_reducible show Ru _ _ (isTrue (Expr.BoolOp BoolOp.Or [] _) _ _) _ _); refine Ru.orN ?_) | ((with_reducible show Ru _ _ (execs (_ :: _) _) _ _); refine Ru.cons ?_) | ((with_reducible show Ru _ _ (execs [] _) _ _); refine Ru.nil ?_) | ((with_reducible show Ru _ _ (exec (Stmt.If _ _ _ _) _) _ _); refine Ru.ifS ?_) | ((with_reducible show Ru _ _ (exec (Stmt.Assign [Expr.Name _ _] _ _) _) _ _); refine Ru.asg ?_) | ((with_reducible show Ru _ _ (spliced (backTo _ (starEach (_ :: _) _))) _ _); refine Ru.spc ?_) | ((with_reducible show Ru _ _ (spliced (backTo _ (starEach [] _))) _ _); refine Ru.spn ?_))
  refine Ru.callN (Ru.glob (W.T.g.keeps U₂.keeps) FC.glob ?_)
  refine Ru.withF (o := oc) hdc ?_
  (first | ((with_reducible show Ru _ _ (eval (Expr.Name _ _) _) _ _); first | refine Ru.name (by assumption) (by first | assumption | rfl) ?_ | refine Ru.celln (by assumption) rfl ?_) | ((with_reducible show Ru _ _ (eval (Expr.Constant (Const.int _) _ _) _) _ _); refine Ru.intC fun _ => ?_) | ((with_reducible show Ru _ _ (eval (Expr.Tuple _ _ _) _) _ _); refine Ru.tupE ?_) | ((with_reducible show Ru _ _ (eval (Expr.List _ _) _) _ _); refine Ru.lstE ?_) | ((with_reducible show Ru _ _ (eval (Expr.BinOp _ _ _ _) _) _ _); refine Ru.bin ?_) | ((with_reducible show Ru _ _ (binaryOp Operator.Sub (Value.int _ _) (Value.int _ _)) _ _); refine Ru.sb fun _ => ?_) | ((with_reducible show Ru _ _ (eval (Expr.Subscript _ _ _) _) _ _); refine Ru.sub ?_) | ((with_reducible show Ru _ _ (isTrue (Expr.Compare _ _ _ _) _ _) _ _); refine Ru.test ?_) | ((with_reducible show Ru _ _ (isTrue (Expr.BoolOp BoolOp.Or (_ :: _) _) _ _) _ _); refine Ru.orC ?_) | ((with_reducible show Ru _ _ (isTrue (Expr.BoolOp BoolOp.Or [] _) _ _) _ _); refine Ru.orN ?_) | ((with_reducible show Ru _ _ (execs (_ :: _) _) _ _); refine Ru.cons ?_) | ((with_reducible show Ru _ _ (execs [] _) _ _); refine Ru.nil ?_) | ((with_reducible show Ru _ _ (exec (Stmt.If _ _ _ _) _) _ _); refine Ru.ifS ?_) | ((with_reducible show Ru _ _ (exec (Stmt.Assign [Expr.Name _ _] _ _) _) _ _); refine Ru.asg ?_) | ((with_reducible show Ru _ _ (spliced (backTo _ (starEach (_ :: _) _))) _ _); refine Ru.spc ?_) | ((with_reducible show Ru _ _ (spliced (backTo _ (starEach [] _))) _ _); refine Ru.spn ?_))
  refine Ru.compG IsPt IsPt.stable (upto tri C) rfl (cl := []) rfl ?_
  (first | ((with_reducible show Ru _ _ (eval (Expr.Name _ _) _) _ _); first | refine Ru.name (by assumption) (by first | assumption | rfl) ?_ | refine Ru.celln (by assumption) rfl ?_) | ((with_reducible show Ru _ _ (eval (Expr.Constant (Const.int _) _ _) _) _ _); refine Ru.intC fun _ => ?_) | ((with_reducible show Ru _ _ (eval (Expr.Tuple _ _ _) _) _ _); refine Ru.tupE ?_) | ((with_reducible show Ru _ _ (eval (Expr.List _ _) _) _ _); refine Ru.lstE ?_) | ((with_reducible show Ru _ _ (eval (Expr.BinOp _ _ _ _) _) _ _); refine Ru.bin ?_) | ((with_reducible show Ru _ _ (binaryOp Operator.Sub (Value.int _ _) (Value.int _ _)) _ _); refine Ru.sb fun _ => ?_) | ((with_reducible show Ru _ _ (eval (Expr.Subscript _ _ _) _) _ _); refine Ru.sub ?_) | ((with_reducible show Ru _ _ (isTrue (Expr.Compare _ _ _ _) _ _) _ _); refine Ru.test ?_) | ((with_reducible show Ru _ _ (isTrue (Expr.BoolOp BoolOp.Or (_ :: _) _) _ _) _ _); refine Ru.orC ?_) | ((with_reducible show Ru _ _ (isTrue (Expr.BoolOp BoolOp.Or [] _) _ _) _ _); refine Ru.orN ?_) | ((with_reducible show Ru _ _ (execs (_ :: _) _) _ _); refine Ru.cons ?_) | ((with_reducible show Ru _ _ (execs [] _) _ _); refine Ru.nil ?_) | ((with_reducible show Ru _ _ (exec (Stmt.If _ _ _ _) _) _ _); refine Ru.ifS ?_) | ((with_reducible show Ru _ _ (exec (Stmt.Assign [Expr.Name _ _] _ _) _) _ _); refine Ru.asg ?_) | ((with_reducible show Ru _ _ (spliced (backTo _ (starEach (_ :: _) _))) _ _); refine Ru.spc ?_) | ((with_reducible show Ru _ _ (spliced (backTo _ (starEach [] _))) _ _); refine Ru.spn ?_))
  obtain ⟨vs, nn, hl, hp⟩ := x₂
  have lv := hp.length
  refine Ru.iterL hl.isList fun I h₃ fI it g₃ => ?_
  have lI : l₁ ≠ I := ne_of_fresh hl fI
  refine ⟨I, _, _, _, _, rfl, Going.list rm.hh lI it (g₃.lst hl.isList List.not_mem_nil) (by simp; omega), fI, g₃, ?_, ?_⟩
  · intro Cc fC i v h' m' hi hv n' G
    have hi : i < C.length := by simp at hi; omega
    have hvv : vs[i]? = some v := by simpa using hv
    obtain ⟨p, ep, yp⟩ := hp.getL hvv
    have bp := bC p (List.mem_of_getElem? ep)
    unfold Sm at bp
    refine Ru.aPair rm.hh n' (G.pt yp) fun h₄ t u n₄ g₄ => ?_
    have g₄ : Gr [Cc] h' h₄ := g₄
    refine Ru.tests0 ?_
    rw [if_pos rfl]
    repeat (first | ((with_reducible show Ru _ _ (eval (Expr.Name _ _) _) _ _); first | refine Ru.name (by assumption) (by first | assumption | rfl) ?_ | refine Ru.celln (by assumption) rfl ?_) | ((with_reducible show Ru _ _ (eval (Expr.Constant (Const.int _) _ _) _) _ _); refine Ru.intC fun _ => ?_) | ((with_reducible show Ru _ _ (eval (Expr.Tuple _ _ _) _) _ _); refine Ru.tupE ?_) | ((with_reducible show Ru _ _ (eval (Expr.List _ _) _) _ _); refine Ru.lstE ?_) | ((with_reducible show Ru _ _ (eval (Expr.BinOp _ _ _ _) _) _ _); refine Ru.bin ?_) | ((with_reducible show Ru _ _ (binaryOp Operator.Sub (Value.int _ _) (Value.int _ _)) _ _); refine Ru.sb fun _ => ?_) | ((with_reducible show Ru _ _ (eval (Expr.Subscript _ _ _) _) _ _); refine Ru.sub ?_) | ((with_reducible show Ru _ _ (isTrue (Expr.Compare _ _ _ _) _ _) _ _); refine Ru.test ?_) | ((with_reducible show Ru _ _ (isTrue (Expr.BoolOp BoolOp.Or (_ :: _) _) _ _) _ _); refine Ru.orC ?_) | ((with_reducible show Ru _ _ (isTrue (Expr.BoolOp BoolOp.Or [] _) _ _) _ _); refine Ru.orN ?_) | ((with_reducible show Ru _ _ (execs (_ :: _) _) _ _); refine Ru.cons ?_) | ((with_reducible show Ru _ _ (execs [] _) _ _); refine Ru.nil ?_) | ((with_reducible show Ru _ _ (exec (Stmt.If _ _ _ _) _) _ _); refine Ru.ifS ?_) | ((with_reducible show Ru _ _ (exec (Stmt.Assign [Expr.Name _ _] _ _) _) _ _); refine Ru.asg ?_) | ((with_reducible show Ru _ _ (spliced (backTo _ (starEach (_ :: _) _))) _ _); refine Ru.spc ?_) | ((with_reducible show Ru _ _ (spliced (backTo _ (starEach [] _))) _ _); refine Ru.spn ?_))
    refine Ru.mul (fun _ => ?_) (mulOk (by omega) (by omega))
    repeat (first | ((with_reducible show Ru _ _ (eval (Expr.Name _ _) _) _ _); first | refine Ru.name (by assumption) (by first | assumption | rfl) ?_ | refine Ru.celln (by assumption) rfl ?_) | ((with_reducible show Ru _ _ (eval (Expr.Constant (Const.int _) _ _) _) _ _); refine Ru.intC fun _ => ?_) | ((with_reducible show Ru _ _ (eval (Expr.Tuple _ _ _) _) _ _); refine Ru.tupE ?_) | ((with_reducible show Ru _ _ (eval (Expr.List _ _) _) _ _); refine Ru.lstE ?_) | ((with_reducible show Ru _ _ (eval (Expr.BinOp _ _ _ _) _) _ _); refine Ru.bin ?_) | ((with_reducible show Ru _ _ (binaryOp Operator.Sub (Value.int _ _) (Value.int _ _)) _ _); refine Ru.sb fun _ => ?_) | ((with_reducible show Ru _ _ (eval (Expr.Subscript _ _ _) _) _ _); refine Ru.sub ?_) | ((with_reducible show Ru _ _ (isTrue (Expr.Compare _ _ _ _) _ _) _ _); refine Ru.test ?_) | ((with_reducible show Ru _ _ (isTrue (Expr.BoolOp BoolOp.Or (_ :: _) _) _ _) _ _); refine Ru.orC ?_) | ((with_reducible show Ru _ _ (isTrue (Expr.BoolOp BoolOp.Or [] _) _ _) _ _); refine Ru.orN ?_) | ((with_reducible show Ru _ _ (execs (_ :: _) _) _ _); refine Ru.cons ?_) | ((with_reducible show Ru _ _ (execs [] _) _ _); refine Ru.nil ?_) | ((with_reducible show Ru _ _ (exec (Stmt.If _ _ _ _) _) _ _); refine Ru.ifS ?_) | ((with_reducible show Ru _ _ (exec (Stmt.Assign [Expr.Name _ _] _ _) _) _ _); refine Ru.asg ?_) | ((with_reducible show Ru _ _ (spliced (backTo _ (starEach (_ :: _) _))) _ _); refine Ru.spc ?_) | ((with_reducible show Ru _ _ (spliced (backTo _ (starEach [] _))) _ _); refine Ru.spn ?_))
    refine Ru.mul (fun _ => ?_) (mulOk (by omega) (by omega))
    repeat (first | ((with_reducible show Ru _ _ (eval (Expr.Name _ _) _) _ _); first | refine Ru.name (by assumption) (by first | assumption | rfl) ?_ | refine Ru.celln (by assumption) rfl ?_) | ((with_reducible show Ru _ _ (eval (Expr.Constant (Const.int _) _ _) _) _ _); refine Ru.intC fun _ => ?_) | ((with_reducible show Ru _ _ (eval (Expr.Tuple _ _ _) _) _ _); refine Ru.tupE ?_) | ((with_reducible show Ru _ _ (eval (Expr.List _ _) _) _ _); refine Ru.lstE ?_) | ((with_reducible show Ru _ _ (eval (Expr.BinOp _ _ _ _) _) _ _); refine Ru.bin ?_) | ((with_reducible show Ru _ _ (binaryOp Operator.Sub (Value.int _ _) (Value.int _ _)) _ _); refine Ru.sb fun _ => ?_) | ((with_reducible show Ru _ _ (eval (Expr.Subscript _ _ _) _) _ _); refine Ru.sub ?_) | ((with_reducible show Ru _ _ (isTrue (Expr.Compare _ _ _ _) _ _) _ _); refine Ru.test ?_) | ((with_reducible show Ru _ _ (isTrue (Expr.BoolOp BoolOp.Or (_ :: _) _) _ _) _ _); refine Ru.orC ?_) | ((with_reducible show Ru _ _ (isTrue (Expr.BoolOp BoolOp.Or [] _) _ _) _ _); refine Ru.orN ?_) | ((with_reducible show Ru _ _ (execs (_ :: _) _) _ _); refine Ru.cons ?_) | ((with_reducible show Ru _ _ (execs [] _) _ _); refine Ru.nil ?_) | ((with_reducible show Ru _ _ (exec (Stmt.If _ _ _ _) _) _ _); refine Ru.ifS ?_) | ((with_reducible show Ru _ _ (exec (Stmt.Assign [Expr.Name _ _] _ _) _) _ _); refine Ru.asg ?_) | ((with_reducible show Ru _ _ (spliced (backTo _ (starEach (_ :: _) _))) _ _); refine Ru.spc ?_) | ((with_reducible show Ru _ _ (spliced (backTo _ (starEach [] _))) _ _); refine Ru.spn ?_))
    refine Ru.newT (show 2 ≤ sizeLine by decide) fun h₈ t₈ g₈ => ?_
    exact ⟨⟨_, g₈.ns n₄ List.not_mem_nil⟩, g₄.trans g₈.nil, tri p, ⟨_, _, _, rfl, t₈⟩, upto_succ _ _ ep⟩
  · intro h' Dd ws k lD al G fD
    have e : (List.toArray vs).size = C.length := by simp [lv]
    rw [e, upto_all] at al
    have xm : PtL h' Dd (C.map tri) := ⟨ws, k, lD, al⟩
    have U' := U₂.trans G
    have btri : ∀ p ∈ C.map tri, Bd p := by
      intro p hp
      obtain ⟨q, hq, rfl⟩ := List.mem_map.mp hp
      have := bC q hq
      unfold Sm at this
      unfold Bd tri
      simp only
      omega
    have lct := cor_len (C.map tri)
    rw [List.length_map] at lct
    repeat (first | ((with_reducible show Ru _ _ (eval (Expr.Name _ _) _) _ _); first | refine Ru.name (by assumption) (by first | assumption | rfl) ?_ | refine Ru.celln (by assumption) rfl ?_) | ((with_reducible show Ru _ _ (eval (Expr.Constant (Const.int _) _ _) _) _ _); refine Ru.intC fun _ => ?_) | ((with_reducible show Ru _ _ (eval (Expr.Tuple _ _ _) _) _ _); refine Ru.tupE ?_) | ((with_reducible show Ru _ _ (eval (Expr.List _ _) _) _ _); refine Ru.lstE ?_) | ((with_reducible show Ru _ _ (eval (Expr.BinOp _ _ _ _) _) _ _); refine Ru.bin ?_) | ((with_reducible show Ru _ _ (binaryOp Operator.Sub (Value.int _ _) (Value.int _ _)) _ _); refine Ru.sb fun _ => ?_) | ((with_reducible show Ru _ _ (eval (Expr.Subscript _ _ _) _) _ _); refine Ru.sub ?_) | ((with_reducible show Ru _ _ (isTrue (Expr.Compare _ _ _ _) _ _) _ _); refine Ru.test ?_) | ((with_reducible show Ru _ _ (isTrue (Expr.BoolOp BoolOp.Or (_ :: _) _) _ _) _ _); refine Ru.orC ?_) | ((with_reducible show Ru _ _ (isTrue (Expr.BoolOp BoolOp.Or [] _) _ _) _ _); refine Ru.orN ?_) | ((with_reducible show Ru _ _ (execs (_ :: _) _) _ _); refine Ru.cons ?_) | ((with_reducible show Ru _ _ (execs [] _) _ _); refine Ru.nil ?_) | ((with_reducible show Ru _ _ (exec (Stmt.If _ _ _ _) _) _ _); refine Ru.ifS ?_) | ((with_reducible show Ru _ _ (exec (Stmt.Assign [Expr.Name _ _] _ _) _) _ _); refine Ru.asg ?_) | ((with_reducible show Ru _ _ (spliced (backTo _ (starEach (_ :: _) _))) _ _); refine Ru.spc ?_) | ((with_reducible show Ru _ _ (spliced (backTo _ (starEach [] _))) _ _); refine Ru.spn ?_))
    refine ⟨U'.keeps _ _ hoc, ?_⟩
    refine spec_corners W FC (rm.less (by decide)) U' xm (by simp; omega) btri fun h₅ a₅ g₅ x₅ _ => ?_
    have U₅ := U'.trans g₅
    repeat (first | ((with_reducible show Ru _ _ (eval (Expr.Name _ _) _) _ _); first | refine Ru.name (by assumption) (by first | assumption | rfl) ?_ | refine Ru.celln (by assumption) rfl ?_) | ((with_reducible show Ru _ _ (eval (Expr.Constant (Const.int _) _ _) _) _ _); refine Ru.intC fun _ => ?_) | ((with_reducible show Ru _ _ (eval (Expr.Tuple _ _ _) _) _ _); refine Ru.tupE ?_) | ((with_reducible show Ru _ _ (eval (Expr.List _ _) _) _ _); refine Ru.lstE ?_) | ((with_reducible show Ru _ _ (eval (Expr.BinOp _ _ _ _) _) _ _); refine Ru.bin ?_) | ((with_reducible show Ru _ _ (binaryOp Operator.Sub (Value.int _ _) (Value.int _ _)) _ _); refine Ru.sb fun _ => ?_) | ((with_reducible show Ru _ _ (eval (Expr.Subscript _ _ _) _) _ _); refine Ru.sub ?_) | ((with_reducible show Ru _ _ (isTrue (Expr.Compare _ _ _ _) _ _) _ _); refine Ru.test ?_) | ((with_reducible show Ru _ _ (isTrue (Expr.BoolOp BoolOp.Or (_ :: _) _) _ _) _ _); refine Ru.orC ?_) | ((with_reducible show Ru _ _ (isTrue (Expr.BoolOp BoolOp.Or [] _) _ _) _ _); refine Ru.orN ?_) | ((with_reducible show Ru _ _ (execs (_ :: _) _) _ _); refine Ru.cons ?_) | ((with_reducible show Ru _ _ (execs [] _) _ _); refine Ru.nil ?_) | ((with_reducible show Ru _ _ (exec (Stmt.If _ _ _ _) _) _ _); refine Ru.ifS ?_) | ((with_reducible show Ru _ _ (exec (Stmt.Assign [Expr.Name _ _] _ _) _) _ _); refine Ru.asg ?_) | ((with_reducible show Ru _ _ (spliced (backTo _ (starEach (_ :: _) _))) _ _); refine Ru.spc ?_) | ((with_reducible show Ru _ _ (spliced (backTo _ (starEach [] _))) _ _); refine Ru.spn ?_))
    refine ⟨U₅.keeps _ _ hoa, ?_⟩
    refine spec_area W FA (rm.less (by decide)) U₅ x₅ (by omega) (fun p hp => btri p (cor_mem _ p hp)) fun h₆ u₆ g₆ => ?_
    have G₆ := ((G₂.trans G).trans g₅).trans g₆
    have n₆ := G₆.ns n List.not_mem_nil
    have ia₆ := G₆.lst ia List.not_mem_nil
    repeat (first | ((with_reducible show Ru _ _ (eval (Expr.Name _ _) _) _ _); first | refine Ru.name (by assumption) (by first | assumption | rfl) ?_ | refine Ru.celln (by assumption) rfl ?_) | ((with_reducible show Ru _ _ (eval (Expr.Constant (Const.int _) _ _) _) _ _); refine Ru.intC fun _ => ?_) | ((with_reducible show Ru _ _ (eval (Expr.Tuple _ _ _) _) _ _); refine Ru.tupE ?_) | ((with_reducible show Ru _ _ (eval (Expr.List _ _) _) _ _); refine Ru.lstE ?_) | ((with_reducible show Ru _ _ (eval (Expr.BinOp _ _ _ _) _) _ _); refine Ru.bin ?_) | ((with_reducible show Ru _ _ (binaryOp Operator.Sub (Value.int _ _) (Value.int _ _)) _ _); refine Ru.sb fun _ => ?_) | ((with_reducible show Ru _ _ (eval (Expr.Subscript _ _ _) _) _ _); refine Ru.sub ?_) | ((with_reducible show Ru _ _ (isTrue (Expr.Compare _ _ _ _) _ _) _ _); refine Ru.test ?_) | ((with_reducible show Ru _ _ (isTrue (Expr.BoolOp BoolOp.Or (_ :: _) _) _ _) _ _); refine Ru.orC ?_) | ((with_reducible show Ru _ _ (isTrue (Expr.BoolOp BoolOp.Or [] _) _ _) _ _); refine Ru.orN ?_) | ((with_reducible show Ru _ _ (execs (_ :: _) _) _ _); refine Ru.cons ?_) | ((with_reducible show Ru _ _ (execs [] _) _ _); refine Ru.nil ?_) | ((with_reducible show Ru _ _ (exec (Stmt.If _ _ _ _) _) _ _); refine Ru.ifS ?_) | ((with_reducible show Ru _ _ (exec (Stmt.Assign [Expr.Name _ _] _ _) _) _ _); refine Ru.asg ?_) | ((with_reducible show Ru _ _ (spliced (backTo _ (starEach (_ :: _) _))) _ _); refine Ru.spc ?_) | ((with_reducible show Ru _ _ (spliced (backTo _ (starEach [] _))) _ _); refine Ru.spn ?_))
    refine Ru.lstAt ia₆ (by decide) (by decide) rfl ?_
    refine Ru.mul (fun _ => ?_) (mulOk (by omega) (by omega))
    refine Ru.ne ⟨_, rfl, ?_⟩
    rw [F.nine, if_neg (by simp)]
    refine Ru.orN ?_
    rw [if_neg (by simp)]
    refine Ru.nil ?_
    exact law_10 W rm (w.gr G₆) F (ar.gr G₆)
end
end Mink

/-! MkZ -/
set_option maxHeartbeats 4000000
namespace Mink
open PySem PySem.W PyProof.Rows PySem.Calls

section
variable {c : Cx} {A : Around} {h hT : Heap} {mg mb : Str → Option Value} {L a : Addr} {cd : Value} {m : Str → Option Value} {C D M : List Pt}


theorem law_6 (W : World' hT mg mb) (rm : Rm 6 A) (w : Lw hT h L m C D M) (F : Facts C D M) : Ru c A (execs ((bodyOf 12).drop 6) (env12 L a cd)) h fun f h' => f = .ret (.bool true) ∧ Gr [] hT h' := by
  have n := w.n
  have U := w.U
  have hc := F.c4
  have hd := F.d4
  have hf := F.few
  have hm := W.none "min" (by simp)
  obtain ⟨fa, FA⟩ := W.area
  obtain ⟨oa, _, _, _, _, _, hoa, hda, _⟩ := FA.obj
  obtain ⟨l₁, c₁, x₁⟩ := w.one
  obtain ⟨l₂, c₂, x₂⟩ := w.other
  obtain ⟨l₃, e₃, x₃⟩ := w.both
  have bC : ∀ p ∈ C, Bd p := fun p hp => (F.sC p hp).sm.bd
  have bD : ∀ p ∈ D, Bd p := fun p hp => (F.sD p hp).sm.bd
  have bM : ∀ p ∈ M, Bd p := fun p hp => sums_bd (fun p hp => (F.sC p hp).sm) (fun p hp => (F.sD p hp).sm) p (cor_mem _ p (F.m ▸ hp))
  have aC := area_bd bC (by omega)
  have aD := area_bd bD (by omega)
  have aM := area_bd bM (by omega)
  have nC := F.aC
  have nD := F.aD
  have nM := F.aM
  have mix := F.mix
  have mink := F.mink
  show Ru c _ (execs (_ :: _) _) _ _
  repeat (first | ((with_reducible show Ru _ _ (eval (Expr.Name _ _) _) _ _); first | refine Ru.name (by assumption) (by first | assumption | rfl) ?_ | refine Ru.celln (by assumption) rfl ?_) | ((with_reducible show Ru _ _ (eval (Expr.Constant (Const.int _) _ _) _) _ _); refine Ru.intC fun _ => ?_) | ((with_reducible show Ru _ _ (eval (Expr.List _ _) _) _ _); refine Ru.lstE ?_) | ((with_reducible show Ru _ _ (eval (Expr.BinOp _ _ _ _) _) _ _); refine Ru.bin ?_) | ((with_reducible show Ru _ _ (binaryOp Operator.Sub (Value.int _ _) (Value.int _ _)) _ _); refine Ru.sb fun _ => ?_) | ((with_reducible show Ru _ _ (eval (Expr.Subscript _ _ _) _) _ _); refine Ru.sub ?_) | ((with_reducible show Ru _ _ (isTrue (Expr.Compare _ _ _ _) _ _) _ _); refine Ru.test ?_) | ((with_reducible show Ru _ _ (isTrue (Expr.BoolOp BoolOp.Or (_ :: _) _) _ _) _ _); refine Ru.orC ?_) | ((with_reducible show Ru _ _ (isTrue (Expr.BoolOp BoolOp.Or [] _) _ _) _ _); refine Ru.orN ?_) | ((with_reducible show Ru _ _ (execs (_ :: _) _) _ _); refine Ru.cons ?_) | ((with_reducible show Ru _ _ (execs [] _) _ _); refine Ru.nil ?_) | ((with_reducible show Ru _ _ (exec (Stmt.If _ _ _ _) _) _ _); refine Ru.ifS ?_) | ((with_reducible show Ru _ _ (exec (Stmt.Assign [Expr.Name _ _] _ _) _) _ _); refine Ru.asg ?_) | ((with_reducible show Ru _ _ (spliced (backTo _ (starEach (_ :: _) _))) _ _); refine Ru.spc ?_) | ((with_reducible show Ru _ _ (spliced (backTo _ (starEach [] _))) _ _); refine Ru.spn ?_))
  refine Ru.callN (Ru.glob (W.T.g.keeps U.keeps) FA.glob ?_)
  refine Ru.withF (o := oa) hda ?_
  repeat (first | ((with_reducible show Ru _ _ (eval (Expr.Name _ _) _) _ _); first | refine Ru.name (by assumption) (by first | assumption | rfl) ?_ | refine Ru.celln (by assumption) rfl ?_) | ((with_reducible show Ru _ _ (eval (Expr.Constant (Const.int _) _ _) _) _ _); refine Ru.intC fun _ => ?_) | ((with_reducible show Ru _ _ (eval (Expr.List _ _) _) _ _); refine Ru.lstE ?_) | ((with_reducible show Ru _ _ (eval (Expr.BinOp _ _ _ _) _) _ _); refine Ru.bin ?_) | ((with_reducible show Ru _ _ (binaryOp Operator.Sub (Value.int _ _) (Value.int _ _)) _ _); refine Ru.sb fun _ => ?_) | ((with_reducible show Ru _ _ (eval (Expr.Subscript _ _ _) _) _ _); refine Ru.sub ?_) | ((with_reducible show Ru _ _ (isTrue (Expr.Compare _ _ _ _) _ _) _ _); refine Ru.test ?_) | ((with_reducible show Ru _ _ (isTrue (Expr.BoolOp BoolOp.Or (_ :: _) _) _ _) _ _); refine Ru.orC ?_) | ((with_reducible show Ru _ _ (isTrue (Expr.BoolOp BoolOp.Or [] _) _ _) _ _); refine Ru.orN ?_) | ((with_reducible show Ru _ _ (execs (_ :: _) _) _ _); refine Ru.cons ?_) | ((with_reducible show Ru _ _ (execs [] _) _ _); refine Ru.nil ?_) | ((with_reducible show Ru _ _ (exec (Stmt.If _ _ _ _) _) _ _); refine Ru.ifS ?_) | ((with_reducible show Ru _ _ (exec (Stmt.Assign [Expr.Name _ _] _ _) _) _ _); refine Ru.asg ?_) | ((with_reducible show Ru _ _ (spliced (backTo _ (starEach (_ :: _) _))) _ _); refine Ru.spc ?_) | ((with_reducible show Ru _ _ (spliced (backTo _ (starEach [] _))) _ _); refine Ru.spn ?_))
  refine ⟨U.keeps _ _ hoa, ?_⟩
  refine spec_area W FA (rm.less (by decide)) U x₁ (by omega) bC fun h₁ u₁ g₁ => ?_
  have U₁ := U.trans g₁
  have c₂₁ := g₁.cell c₂ List.not_mem_nil
  repeat (first | ((with_reducible show Ru _ _ (eval (Expr.Name _ _) _) _ _); first | refine Ru.name (by assumption) (by first | assumption | rfl) ?_ | refine Ru.celln (by assumption) rfl ?_) | ((with_reducible show Ru _ _ (eval (Expr.Constant (Const.int _) _ _) _) _ _); refine Ru.intC fun _ => ?_) | ((with_reducible show Ru _ _ (eval (Expr.List _ _) _) _ _); refine Ru.lstE ?_) | ((with_reducible show Ru _ _ (eval (Expr.BinOp _ _ _ _) _) _ _); refine Ru.bin ?_) | ((with_reducible show Ru _ _ (binaryOp Operator.Sub (Value.int _ _) (Value.int _ _)) _ _); refine Ru.sb fun _ => ?_) | ((with_reducible show Ru _ _ (eval (Expr.Subscript _ _ _) _) _ _); refine Ru.sub ?_) | ((with_reducible show Ru _ _ (isTrue (Expr.Compare _ _ _ _) _ _) _ _); refine Ru.test ?_) | ((with_reducible show Ru _ _ (isTrue (Expr.BoolOp BoolOp.Or (_ :: _) _) _ _) _ _); refine Ru.orC ?_) | ((with_reducible show Ru _ _ (isTrue (Expr.BoolOp BoolOp.Or [] _) _ _) _ _); refine Ru.orN ?_) | ((with_reducible show Ru _ _ (execs (_ :: _) _) _ _); refine Ru.cons ?_) | ((with_reducible show Ru _ _ (execs [] _) _ _); refine Ru.nil ?_) | ((with_reducible show Ru _ _ (exec (Stmt.If _ _ _ _) _) _ _); refine Ru.ifS ?_) | ((with_reducible show Ru _ _ (exec (Stmt.Assign [Expr.Name _ _] _ _) _) _ _); refine Ru.asg ?_) | ((with_reducible show Ru _ _ (spliced (backTo _ (starEach (_ :: _) _))) _ _); refine Ru.spc ?_) | ((with_reducible show Ru _ _ (spliced (backTo _ (starEach [] _))) _ _); refine Ru.spn ?_))
  refine Ru.callN (Ru.glob (W.T.g.keeps U₁.keeps) FA.glob ?_)
  refine Ru.withF (o := oa) hda ?_
  repeat (first | ((with_reducible show Ru _ _ (eval (Expr.Name _ _) _) _ _); first | refine Ru.name (by assumption) (by first | assumption | rfl) ?_ | refine Ru.celln (by assumption) rfl ?_) | ((with_reducible show Ru _ _ (eval (Expr.Constant (Const.int _) _ _) _) _ _); refine Ru.intC fun _ => ?_) | ((with_reducible show Ru _ _ (eval (Expr.List _ _) _) _ _); refine Ru.lstE ?_) | ((with_reducible show Ru _ _ (eval (Expr.BinOp _ _ _ _) _) _ _); refine Ru.bin ?_) | ((with_reducible show Ru _ _ (binaryOp Operator.Sub (Value.int _ _) (Value.int _ _)) _ _); refine Ru.sb fun _ => ?_) | ((with_reducible show Ru _ _ (eval (Expr.Subscript _ _ _) _) _ _); refine Ru.sub ?_) | ((with_reducible show Ru _ _ (isTrue (Expr.Compare _ _ _ _) _ _) _ _); refine Ru.test ?_) | ((with_reducible show Ru _ _ (isTrue (Expr.BoolOp BoolOp.Or (_ :: _) _) _ _) _ _); refine Ru.orC ?_) | ((with_reducible show Ru _ _ (isTrue (Expr.BoolOp BoolOp.Or [] _) _ _) _ _); refine Ru.orN ?_) | ((with_reducible show Ru _ _ (execs (_ :: _) _) _ _); refine Ru.cons ?_) | ((with_reducible show Ru _ _ (execs [] _) _ _); refine Ru.nil ?_) | ((with_reducible show Ru _ _ (exec (Stmt.If _ _ _ _) _) _ _); refine Ru.ifS ?_) | ((with_reducible show Ru _ _ (exec (Stmt.Assign [Expr.Name _ _] _ _) _) _ _); refine Ru.asg ?_) | ((with_reducible show Ru _ _ (spliced (backTo _ (starEach (_ :: _) _))) _ _); refine Ru.spc ?_) | ((with_reducible show Ru _ _ (spliced (backTo _ (starEach [] _))) _ _); refine Ru.spn ?_))
  refine ⟨U₁.keeps _ _ hoa, ?_⟩
  refine spec_area W FA (rm.less (by decide)) U₁ (x₂.gr0 g₁) (by omega) bD fun h₂ u₂ g₂ => ?_
  have G₂ := g₁.trans g₂
  have U₂ := U.trans G₂
  have n₂ := G₂.ns n List.not_mem_nil
  repeat (first | ((with_reducible show Ru _ _ (eval (Expr.Name _ _) _) _ _); first | refine Ru.name (by assumption) (by first | assumption | rfl) ?_ | refine Ru.celln (by assumption) rfl ?_) | ((with_reducible show Ru _ _ (eval (Expr.Constant (Const.int _) _ _) _) _ _); refine Ru.intC fun _ => ?_) | ((with_reducible show Ru _ _ (eval (Expr.List _ _) _) _ _); refine Ru.lstE ?_) | ((with_reducible show Ru _ _ (eval (Expr.BinOp _ _ _ _) _) _ _); refine Ru.bin ?_) | ((with_reducible show Ru _ _ (binaryOp Operator.Sub (Value.int _ _) (Value.int _ _)) _ _); refine Ru.sb fun _ => ?_) | ((with_reducible show Ru _ _ (eval (Expr.Subscript _ _ _) _) _ _); refine Ru.sub ?_) | ((with_reducible show Ru _ _ (isTrue (Expr.Compare _ _ _ _) _ _) _ _); refine Ru.test ?_) | ((with_reducible show Ru _ _ (isTrue (Expr.BoolOp BoolOp.Or (_ :: _) _) _ _) _ _); refine Ru.orC ?_) | ((with_reducible show Ru _ _ (isTrue (Expr.BoolOp BoolOp.Or [] _) _ _) _ _); refine Ru.orN ?_) | ((with_reducible show Ru _ _ (execs (_ :: _) _) _ _); refine Ru.cons ?_) | ((with_reducible show Ru _ _ (execs [] _) _ _); refine Ru.nil ?_) | ((with_reducible show Ru _ _ (exec (Stmt.If _ _ _ _) _) _ _); refine Ru.ifS ?_) | ((with_reducible show Ru _ _ (exec (Stmt.Assign [Expr.Name _ _] _ _) _) _ _); refine Ru.asg ?_) | ((with_reducible show Ru _ _ (spliced (backTo _ (starEach (_ :: _) _))) _ _); refine Ru.spc ?_) | ((with_reducible show Ru _ _ (spliced (backTo _ (starEach [] _))) _ _); refine Ru.spn ?_))
  refine Ru.callN (Ru.glob (W.T.g.keeps U₂.keeps) FA.glob ?_)
  refine Ru.withF (o := oa) hda ?_
  repeat (first | ((with_reducible show Ru _ _ (eval (Expr.Name _ _) _) _ _); first | refine Ru.name (by assumption) (by first | assumption | rfl) ?_ | refine Ru.celln (by assumption) rfl ?_) | ((with_reducible show Ru _ _ (eval (Expr.Constant (Const.int _) _ _) _) _ _); refine Ru.intC fun _ => ?_) | ((with_reducible show Ru _ _ (eval (Expr.List _ _) _) _ _); refine Ru.lstE ?_) | ((with_reducible show Ru _ _ (eval (Expr.BinOp _ _ _ _) _) _ _); refine Ru.bin ?_) | ((with_reducible show Ru _ _ (binaryOp Operator.Sub (Value.int _ _) (Value.int _ _)) _ _); refine Ru.sb fun _ => ?_) | ((with_reducible show Ru _ _ (eval (Expr.Subscript _ _ _) _) _ _); refine Ru.sub ?_) | ((with_reducible show Ru _ _ (isTrue (Expr.Compare _ _ _ _) _ _) _ _); refine Ru.test ?_) | ((with_reducible show Ru _ _ (isTrue (Expr.BoolOp BoolOp.Or (_ :: _) _) _ _) _ _); refine Ru.orC ?_) | ((with_reducible show Ru _ _ (isTrue (Expr.BoolOp BoolOp.Or [] _) _ _) _ _); refine Ru.orN ?_) | ((with_reducible show Ru _ _ (execs (_ :: _) _) _ _); refine Ru.cons ?_) | ((with_reducible show Ru _ _ (execs [] _) _ _); refine Ru.nil ?_) | ((with_reducible show Ru _ _ (exec (Stmt.If _ _ _ _) _) _ _); refine Ru.ifS ?_) | ((with_reducible show Ru _ _ (exec (Stmt.Assign [Expr.Name _ _] _ _) _) _ _); refine Ru.asg ?_) | ((with_reducible show Ru _ _ (spliced (backTo _ (starEach (_ :: _) _))) _ _); refine Ru.spc ?_) | ((with_reducible show Ru _ _ (spliced (backTo _ (starEach [] _))) _ _); refine Ru.spn ?_))
  refine ⟨U₂.keeps _ _ hoa, ?_⟩
  refine spec_area W FA (rm.less (by decide)) U₂ (x₃.gr0 G₂) (by omega) bM fun h₃ u₃ g₃ => ?_
  have G₃ := G₂.trans g₃
  repeat (first | ((with_reducible show Ru _ _ (eval (Expr.Name _ _) _) _ _); first | refine Ru.name (by assumption) (by first | assumption | rfl) ?_ | refine Ru.celln (by assumption) rfl ?_) | ((with_reducible show Ru _ _ (eval (Expr.Constant (Const.int _) _ _) _) _ _); refine Ru.intC fun _ => ?_) | ((with_reducible show Ru _ _ (eval (Expr.List _ _) _) _ _); refine Ru.lstE ?_) | ((with_reducible show Ru _ _ (eval (Expr.BinOp _ _ _ _) _) _ _); refine Ru.bin ?_) | ((with_reducible show Ru _ _ (binaryOp Operator.Sub (Value.int _ _) (Value.int _ _)) _ _); refine Ru.sb fun _ => ?_) | ((with_reducible show Ru _ _ (eval (Expr.Subscript _ _ _) _) _ _); refine Ru.sub ?_) | ((with_reducible show Ru _ _ (isTrue (Expr.Compare _ _ _ _) _ _) _ _); refine Ru.test ?_) | ((with_reducible show Ru _ _ (isTrue (Expr.BoolOp BoolOp.Or (_ :: _) _) _ _) _ _); refine Ru.orC ?_) | ((with_reducible show Ru _ _ (isTrue (Expr.BoolOp BoolOp.Or [] _) _ _) _ _); refine Ru.orN ?_) | ((with_reducible show Ru _ _ (execs (_ :: _) _) _ _); refine Ru.cons ?_) | ((with_reducible show Ru _ _ (execs [] _) _ _); refine Ru.nil ?_) | ((with_reducible show Ru _ _ (exec (Stmt.If _ _ _ _) _) _ _); refine Ru.ifS ?_) | ((with_reducible show Ru _ _ (exec (Stmt.Assign [Expr.Name _ _] _ _) _) _ _); refine Ru.asg ?_) | ((with_reducible show Ru _ _ (spliced (backTo _ (starEach (_ :: _) _))) _ _); refine Ru.spc ?_) | ((with_reducible show Ru _ _ (spliced (backTo _ (starEach [] _))) _ _); refine Ru.spn ?_))
  refine Ru.newL (show 3 ≤ sizeLine by decide) fun h₄ lA g₄ => ?_
  have w₄ := (w.gr G₃).gr g₄
  refine Ru.store w₄.n fun h₅ n₅ g₅ => ?_
  have g₅ : Gr [L] h₄ h₅ := g₅
  have w₅ := w₄.put g₅ n₅ rfl
  have iA := g₅.lst lA.isList (notIn_one (ne_ns_ls w₄.n lA.isList).symm)
  repeat (first | ((with_reducible show Ru _ _ (eval (Expr.Name _ _) _) _ _); first | refine Ru.name (by assumption) (by first | assumption | rfl) ?_ | refine Ru.celln (by assumption) rfl ?_) | ((with_reducible show Ru _ _ (eval (Expr.Constant (Const.int _) _ _) _) _ _); refine Ru.intC fun _ => ?_) | ((with_reducible show Ru _ _ (eval (Expr.List _ _) _) _ _); refine Ru.lstE ?_) | ((with_reducible show Ru _ _ (eval (Expr.BinOp _ _ _ _) _) _ _); refine Ru.bin ?_) | ((with_reducible show Ru _ _ (binaryOp Operator.Sub (Value.int _ _) (Value.int _ _)) _ _); refine Ru.sb fun _ => ?_) | ((with_reducible show Ru _ _ (eval (Expr.Subscript _ _ _) _) _ _); refine Ru.sub ?_) | ((with_reducible show Ru _ _ (isTrue (Expr.Compare _ _ _ _) _ _) _ _); refine Ru.test ?_) | ((with_reducible show Ru _ _ (isTrue (Expr.BoolOp BoolOp.Or (_ :: _) _) _ _) _ _); refine Ru.orC ?_) | ((with_reducible show Ru _ _ (isTrue (Expr.BoolOp BoolOp.Or [] _) _ _) _ _); refine Ru.orN ?_) | ((with_reducible show Ru _ _ (execs (_ :: _) _) _ _); refine Ru.cons ?_) | ((with_reducible show Ru _ _ (execs [] _) _ _); refine Ru.nil ?_) | ((with_reducible show Ru _ _ (exec (Stmt.If _ _ _ _) _) _ _); refine Ru.ifS ?_) | ((with_reducible show Ru _ _ (exec (Stmt.Assign [Expr.Name _ _] _ _) _) _ _); refine Ru.asg ?_) | ((with_reducible show Ru _ _ (spliced (backTo _ (starEach (_ :: _) _))) _ _); refine Ru.spc ?_) | ((with_reducible show Ru _ _ (spliced (backTo _ (starEach [] _))) _ _); refine Ru.spn ?_))
  refine Ru.lstAt iA (v := .int (area M) u₃) (by decide) (by decide) rfl ?_
  repeat (first | ((with_reducible show Ru _ _ (eval (Expr.Name _ _) _) _ _); first | refine Ru.name (by assumption) (by first | assumption | rfl) ?_ | refine Ru.celln (by assumption) rfl ?_) | ((with_reducible show Ru _ _ (eval (Expr.Constant (Const.int _) _ _) _) _ _); refine Ru.intC fun _ => ?_) | ((with_reducible show Ru _ _ (eval (Expr.List _ _) _) _ _); refine Ru.lstE ?_) | ((with_reducible show Ru _ _ (eval (Expr.BinOp _ _ _ _) _) _ _); refine Ru.bin ?_) | ((with_reducible show Ru _ _ (binaryOp Operator.Sub (Value.int _ _) (Value.int _ _)) _ _); refine Ru.sb fun _ => ?_) | ((with_reducible show Ru _ _ (eval (Expr.Subscript _ _ _) _) _ _); refine Ru.sub ?_) | ((with_reducible show Ru _ _ (isTrue (Expr.Compare _ _ _ _) _ _) _ _); refine Ru.test ?_) | ((with_reducible show Ru _ _ (isTrue (Expr.BoolOp BoolOp.Or (_ :: _) _) _ _) _ _); refine Ru.orC ?_) | ((with_reducible show Ru _ _ (isTrue (Expr.BoolOp BoolOp.Or [] _) _ _) _ _); refine Ru.orN ?_) | ((with_reducible show Ru _ _ (execs (_ :: _) _) _ _); refine Ru.cons ?_) | ((with_reducible show Ru _ _ (execs [] _) _ _); refine Ru.nil ?_) | ((with_reducible show Ru _ _ (exec (Stmt.If _ _ _ _) _) _ _); refine Ru.ifS ?_) | ((with_reducible show Ru _ _ (exec (Stmt.Assign [Expr.Name _ _] _ _) _) _ _); refine Ru.asg ?_) | ((with_reducible show Ru _ _ (spliced (backTo _ (starEach (_ :: _) _))) _ _); refine Ru.spc ?_) | ((with_reducible show Ru _ _ (spliced (backTo _ (starEach [] _))) _ _); refine Ru.spn ?_))
  refine Ru.lstAt iA (v := .int (area C) u₁) (by decide) (by decide) rfl ?_
  repeat (first | ((with_reducible show Ru _ _ (eval (Expr.Name _ _) _) _ _); first | refine Ru.name (by assumption) (by first | assumption | rfl) ?_ | refine Ru.celln (by assumption) rfl ?_) | ((with_reducible show Ru _ _ (eval (Expr.Constant (Const.int _) _ _) _) _ _); refine Ru.intC fun _ => ?_) | ((with_reducible show Ru _ _ (eval (Expr.List _ _) _) _ _); refine Ru.lstE ?_) | ((with_reducible show Ru _ _ (eval (Expr.BinOp _ _ _ _) _) _ _); refine Ru.bin ?_) | ((with_reducible show Ru _ _ (binaryOp Operator.Sub (Value.int _ _) (Value.int _ _)) _ _); refine Ru.sb fun _ => ?_) | ((with_reducible show Ru _ _ (eval (Expr.Subscript _ _ _) _) _ _); refine Ru.sub ?_) | ((with_reducible show Ru _ _ (isTrue (Expr.Compare _ _ _ _) _ _) _ _); refine Ru.test ?_) | ((with_reducible show Ru _ _ (isTrue (Expr.BoolOp BoolOp.Or (_ :: _) _) _ _) _ _); refine Ru.orC ?_) | ((with_reducible show Ru _ _ (isTrue (Expr.BoolOp BoolOp.Or [] _) _ _) _ _); refine Ru.orN ?_) | ((with_reducible show Ru _ _ (execs (_ :: _) _) _ _); refine Ru.cons ?_) | ((with_reducible show Ru _ _ (execs [] _) _ _); refine Ru.nil ?_) | ((with_reducible show Ru _ _ (exec (Stmt.If _ _ _ _) _) _ _); refine Ru.ifS ?_) | ((with_reducible show Ru _ _ (exec (Stmt.Assign [Expr.Name _ _] _ _) _) _ _); refine Ru.asg ?_) | ((with_reducible show Ru _ _ (spliced (backTo _ (starEach (_ :: _) _))) _ _); refine Ru.spc ?_) | ((with_reducible show Ru _ _ (spliced (backTo _ (starEach [] _))) _ _); refine Ru.spn ?_))
  refine Ru.lstAt iA (v := .int (area D) u₂) (by decide) (by decide) rfl ?_
  repeat (first | ((with_reducible show Ru _ _ (eval (Expr.Name _ _) _) _ _); first | refine Ru.name (by assumption) (by first | assumption | rfl) ?_ | refine Ru.celln (by assumption) rfl ?_) | ((with_reducible show Ru _ _ (eval (Expr.Constant (Const.int _) _ _) _) _ _); refine Ru.intC fun _ => ?_) | ((with_reducible show Ru _ _ (eval (Expr.List _ _) _) _ _); refine Ru.lstE ?_) | ((with_reducible show Ru _ _ (eval (Expr.BinOp _ _ _ _) _) _ _); refine Ru.bin ?_) | ((with_reducible show Ru _ _ (binaryOp Operator.Sub (Value.int _ _) (Value.int _ _)) _ _); refine Ru.sb fun _ => ?_) | ((with_reducible show Ru _ _ (eval (Expr.Subscript _ _ _) _) _ _); refine Ru.sub ?_) | ((with_reducible show Ru _ _ (isTrue (Expr.Compare _ _ _ _) _ _) _ _); refine Ru.test ?_) | ((with_reducible show Ru _ _ (isTrue (Expr.BoolOp BoolOp.Or (_ :: _) _) _ _) _ _); refine Ru.orC ?_) | ((with_reducible show Ru _ _ (isTrue (Expr.BoolOp BoolOp.Or [] _) _ _) _ _); refine Ru.orN ?_) | ((with_reducible show Ru _ _ (execs (_ :: _) _) _ _); refine Ru.cons ?_) | ((with_reducible show Ru _ _ (execs [] _) _ _); refine Ru.nil ?_) | ((with_reducible show Ru _ _ (exec (Stmt.If _ _ _ _) _) _ _); refine Ru.ifS ?_) | ((with_reducible show Ru _ _ (exec (Stmt.Assign [Expr.Name _ _] _ _) _) _ _); refine Ru.asg ?_) | ((with_reducible show Ru _ _ (spliced (backTo _ (starEach (_ :: _) _))) _ _); refine Ru.spc ?_) | ((with_reducible show Ru _ _ (spliced (backTo _ (starEach [] _))) _ _); refine Ru.spn ?_))
  refine Ru.store n₅ fun h₆ n₆ g₆ => ?_
  have g₆ : Gr [L] h₅ h₆ := g₆
  have w₆ := w₅.put g₆ n₆ rfl
  have iA₆ := g₆.lst iA (notIn_one (ne_ns_ls n₅ iA).symm)
  have U₆ := w₆.U
  repeat (first | ((with_reducible show Ru _ _ (eval (Expr.Name _ _) _) _ _); first | refine Ru.name (by assumption) (by first | assumption | rfl) ?_ | refine Ru.celln (by assumption) rfl ?_) | ((with_reducible show Ru _ _ (eval (Expr.Constant (Const.int _) _ _) _) _ _); refine Ru.intC fun _ => ?_) | ((with_reducible show Ru _ _ (eval (Expr.List _ _) _) _ _); refine Ru.lstE ?_) | ((with_reducible show Ru _ _ (eval (Expr.BinOp _ _ _ _) _) _ _); refine Ru.bin ?_) | ((with_reducible show Ru _ _ (binaryOp Operator.Sub (Value.int _ _) (Value.int _ _)) _ _); refine Ru.sb fun _ => ?_) | ((with_reducible show Ru _ _ (eval (Expr.Subscript _ _ _) _) _ _); refine Ru.sub ?_) | ((with_reducible show Ru _ _ (isTrue (Expr.Compare _ _ _ _) _ _) _ _); refine Ru.test ?_) | ((with_reducible show Ru _ _ (isTrue (Expr.BoolOp BoolOp.Or (_ :: _) _) _ _) _ _); refine Ru.orC ?_) | ((with_reducible show Ru _ _ (isTrue (Expr.BoolOp BoolOp.Or [] _) _ _) _ _); refine Ru.orN ?_) | ((with_reducible show Ru _ _ (execs (_ :: _) _) _ _); refine Ru.cons ?_) | ((with_reducible show Ru _ _ (execs [] _) _ _); refine Ru.nil ?_) | ((with_reducible show Ru _ _ (exec (Stmt.If _ _ _ _) _) _ _); refine Ru.ifS ?_) | ((with_reducible show Ru _ _ (exec (Stmt.Assign [Expr.Name _ _] _ _) _) _ _); refine Ru.asg ?_) | ((with_reducible show Ru _ _ (spliced (backTo _ (starEach (_ :: _) _))) _ _); refine Ru.spc ?_) | ((with_reducible show Ru _ _ (spliced (backTo _ (starEach [] _))) _ _); refine Ru.spn ?_))
  refine Ru.callN (Ru.blt (W.T.g.keeps U₆.keeps) hm (W.T.b.keeps U₆.keeps) W.min ?_)
  refine Ru.withB ?_
  repeat (first | ((with_reducible show Ru _ _ (eval (Expr.Name _ _) _) _ _); first | refine Ru.name (by assumption) (by first | assumption | rfl) ?_ | refine Ru.celln (by assumption) rfl ?_) | ((with_reducible show Ru _ _ (eval (Expr.Constant (Const.int _) _ _) _) _ _); refine Ru.intC fun _ => ?_) | ((with_reducible show Ru _ _ (eval (Expr.List _ _) _) _ _); refine Ru.lstE ?_) | ((with_reducible show Ru _ _ (eval (Expr.BinOp _ _ _ _) _) _ _); refine Ru.bin ?_) | ((with_reducible show Ru _ _ (binaryOp Operator.Sub (Value.int _ _) (Value.int _ _)) _ _); refine Ru.sb fun _ => ?_) | ((with_reducible show Ru _ _ (eval (Expr.Subscript _ _ _) _) _ _); refine Ru.sub ?_) | ((with_reducible show Ru _ _ (isTrue (Expr.Compare _ _ _ _) _ _) _ _); refine Ru.test ?_) | ((with_reducible show Ru _ _ (isTrue (Expr.BoolOp BoolOp.Or (_ :: _) _) _ _) _ _); refine Ru.orC ?_) | ((with_reducible show Ru _ _ (isTrue (Expr.BoolOp BoolOp.Or [] _) _ _) _ _); refine Ru.orN ?_) | ((with_reducible show Ru _ _ (execs (_ :: _) _) _ _); refine Ru.cons ?_) | ((with_reducible show Ru _ _ (execs [] _) _ _); refine Ru.nil ?_) | ((with_reducible show Ru _ _ (exec (Stmt.If _ _ _ _) _) _ _); refine Ru.ifS ?_) | ((with_reducible show Ru _ _ (exec (Stmt.Assign [Expr.Name _ _] _ _) _) _ _); refine Ru.asg ?_) | ((with_reducible show Ru _ _ (spliced (backTo _ (starEach (_ :: _) _))) _ _); refine Ru.spc ?_) | ((with_reducible show Ru _ _ (spliced (backTo _ (starEach [] _))) _ _); refine Ru.spn ?_))
  refine Ru.minL rm.hh iA₆ (.cons (area C) _ (.cons (area D) _ (.cons (area M) _ .nil))) (by simp) fun h₇ mn u₇ g₇ hmem hmin => ?_
  repeat (first | ((with_reducible show Ru _ _ (eval (Expr.Name _ _) _) _ _); first | refine Ru.name (by assumption) (by first | assumption | rfl) ?_ | refine Ru.celln (by assumption) rfl ?_) | ((with_reducible show Ru _ _ (eval (Expr.Constant (Const.int _) _ _) _) _ _); refine Ru.intC fun _ => ?_) | ((with_reducible show Ru _ _ (eval (Expr.List _ _) _) _ _); refine Ru.lstE ?_) | ((with_reducible show Ru _ _ (eval (Expr.BinOp _ _ _ _) _) _ _); refine Ru.bin ?_) | ((with_reducible show Ru _ _ (binaryOp Operator.Sub (Value.int _ _) (Value.int _ _)) _ _); refine Ru.sb fun _ => ?_) | ((with_reducible show Ru _ _ (eval (Expr.Subscript _ _ _) _) _ _); refine Ru.sub ?_) | ((with_reducible show Ru _ _ (isTrue (Expr.Compare _ _ _ _) _ _) _ _); refine Ru.test ?_) | ((with_reducible show Ru _ _ (isTrue (Expr.BoolOp BoolOp.Or (_ :: _) _) _ _) _ _); refine Ru.orC ?_) | ((with_reducible show Ru _ _ (isTrue (Expr.BoolOp BoolOp.Or [] _) _ _) _ _); refine Ru.orN ?_) | ((with_reducible show Ru _ _ (execs (_ :: _) _) _ _); refine Ru.cons ?_) | ((with_reducible show Ru _ _ (execs [] _) _ _); refine Ru.nil ?_) | ((with_reducible show Ru _ _ (exec (Stmt.If _ _ _ _) _) _ _); refine Ru.ifS ?_) | ((with_reducible show Ru _ _ (exec (Stmt.Assign [Expr.Name _ _] _ _) _) _ _); refine Ru.asg ?_) | ((with_reducible show Ru _ _ (spliced (backTo _ (starEach (_ :: _) _))) _ _); refine Ru.spc ?_) | ((with_reducible show Ru _ _ (spliced (backTo _ (starEach [] _))) _ _); refine Ru.spn ?_))
  refine Ru.lt ⟨_, rfl, ?_⟩
  have hmn : 0 ≤ mn := by
    simp at hmem
    rcases hmem with rfl | rfl | rfl <;> assumption
  rw [if_neg (by simpa using hmn)]
  have n₇ := g₇.ns n₆ List.not_mem_nil
  have iA₇ := g₇.lst iA₆ List.not_mem_nil
  repeat (first | ((with_reducible show Ru _ _ (eval (Expr.Name _ _) _) _ _); first | refine Ru.name (by assumption) (by first | assumption | rfl) ?_ | refine Ru.celln (by assumption) rfl ?_) | ((with_reducible show Ru _ _ (eval (Expr.Constant (Const.int _) _ _) _) _ _); refine Ru.intC fun _ => ?_) | ((with_reducible show Ru _ _ (eval (Expr.List _ _) _) _ _); refine Ru.lstE ?_) | ((with_reducible show Ru _ _ (eval (Expr.BinOp _ _ _ _) _) _ _); refine Ru.bin ?_) | ((with_reducible show Ru _ _ (binaryOp Operator.Sub (Value.int _ _) (Value.int _ _)) _ _); refine Ru.sb fun _ => ?_) | ((with_reducible show Ru _ _ (eval (Expr.Subscript _ _ _) _) _ _); refine Ru.sub ?_) | ((with_reducible show Ru _ _ (isTrue (Expr.Compare _ _ _ _) _ _) _ _); refine Ru.test ?_) | ((with_reducible show Ru _ _ (isTrue (Expr.BoolOp BoolOp.Or (_ :: _) _) _ _) _ _); refine Ru.orC ?_) | ((with_reducible show Ru _ _ (isTrue (Expr.BoolOp BoolOp.Or [] _) _ _) _ _); refine Ru.orN ?_) | ((with_reducible show Ru _ _ (execs (_ :: _) _) _ _); refine Ru.cons ?_) | ((with_reducible show Ru _ _ (execs [] _) _ _); refine Ru.nil ?_) | ((with_reducible show Ru _ _ (exec (Stmt.If _ _ _ _) _) _ _); refine Ru.ifS ?_) | ((with_reducible show Ru _ _ (exec (Stmt.Assign [Expr.Name _ _] _ _) _) _ _); refine Ru.asg ?_) | ((with_reducible show Ru _ _ (spliced (backTo _ (starEach (_ :: _) _))) _ _); refine Ru.spc ?_) | ((with_reducible show Ru _ _ (spliced (backTo _ (starEach [] _))) _ _); refine Ru.spn ?_))
  refine Ru.lt ⟨_, rfl, ?_⟩
  rw [if_neg (by simpa using mix)]
  repeat (first | ((with_reducible show Ru _ _ (eval (Expr.Name _ _) _) _ _); first | refine Ru.name (by assumption) (by first | assumption | rfl) ?_ | refine Ru.celln (by assumption) rfl ?_) | ((with_reducible show Ru _ _ (eval (Expr.Constant (Const.int _) _ _) _) _ _); refine Ru.intC fun _ => ?_) | ((with_reducible show Ru _ _ (eval (Expr.List _ _) _) _ _); refine Ru.lstE ?_) | ((with_reducible show Ru _ _ (eval (Expr.BinOp _ _ _ _) _) _ _); refine Ru.bin ?_) | ((with_reducible show Ru _ _ (binaryOp Operator.Sub (Value.int _ _) (Value.int _ _)) _ _); refine Ru.sb fun _ => ?_) | ((with_reducible show Ru _ _ (eval (Expr.Subscript _ _ _) _) _ _); refine Ru.sub ?_) | ((with_reducible show Ru _ _ (isTrue (Expr.Compare _ _ _ _) _ _) _ _); refine Ru.test ?_) | ((with_reducible show Ru _ _ (isTrue (Expr.BoolOp BoolOp.Or (_ :: _) _) _ _) _ _); refine Ru.orC ?_) | ((with_reducible show Ru _ _ (isTrue (Expr.BoolOp BoolOp.Or [] _) _ _) _ _); refine Ru.orN ?_) | ((with_reducible show Ru _ _ (execs (_ :: _) _) _ _); refine Ru.cons ?_) | ((with_reducible show Ru _ _ (execs [] _) _ _); refine Ru.nil ?_) | ((with_reducible show Ru _ _ (exec (Stmt.If _ _ _ _) _) _ _); refine Ru.ifS ?_) | ((with_reducible show Ru _ _ (exec (Stmt.Assign [Expr.Name _ _] _ _) _) _ _); refine Ru.asg ?_) | ((with_reducible show Ru _ _ (spliced (backTo _ (starEach (_ :: _) _))) _ _); refine Ru.spc ?_) | ((with_reducible show Ru _ _ (spliced (backTo _ (starEach [] _))) _ _); refine Ru.spn ?_))
  refine Ru.mul (fun _ => ?_) (mulOk (by omega) (by omega))
  repeat (first | ((with_reducible show Ru _ _ (eval (Expr.Name _ _) _) _ _); first | refine Ru.name (by assumption) (by first | assumption | rfl) ?_ | refine Ru.celln (by assumption) rfl ?_) | ((with_reducible show Ru _ _ (eval (Expr.Constant (Const.int _) _ _) _) _ _); refine Ru.intC fun _ => ?_) | ((with_reducible show Ru _ _ (eval (Expr.List _ _) _) _ _); refine Ru.lstE ?_) | ((with_reducible show Ru _ _ (eval (Expr.BinOp _ _ _ _) _) _ _); refine Ru.bin ?_) | ((with_reducible show Ru _ _ (binaryOp Operator.Sub (Value.int _ _) (Value.int _ _)) _ _); refine Ru.sb fun _ => ?_) | ((with_reducible show Ru _ _ (eval (Expr.Subscript _ _ _) _) _ _); refine Ru.sub ?_) | ((with_reducible show Ru _ _ (isTrue (Expr.Compare _ _ _ _) _ _) _ _); refine Ru.test ?_) | ((with_reducible show Ru _ _ (isTrue (Expr.BoolOp BoolOp.Or (_ :: _) _) _ _) _ _); refine Ru.orC ?_) | ((with_reducible show Ru _ _ (isTrue (Expr.BoolOp BoolOp.Or [] _) _ _) _ _); refine Ru.orN ?_) | ((with_reducible show Ru _ _ (execs (_ :: _) _) _ _); refine Ru.cons ?_) | ((with_reducible show Ru _ _ (execs [] _) _ _); refine Ru.nil ?_) | ((with_reducible show Ru _ _ (exec (Stmt.If _ _ _ _) _) _ _); refine Ru.ifS ?_) | ((with_reducible show Ru _ _ (exec (Stmt.Assign [Expr.Name _ _] _ _) _) _ _); refine Ru.asg ?_) | ((with_reducible show Ru _ _ (spliced (backTo _ (starEach (_ :: _) _))) _ _); refine Ru.spc ?_) | ((with_reducible show Ru _ _ (spliced (backTo _ (starEach [] _))) _ _); refine Ru.spn ?_))
  refine Ru.lstAt iA₇ (by decide) (by decide) rfl ?_
  refine Ru.mul (fun _ => ?_) (mulOk (by omega) (by omega))
  repeat (first | ((with_reducible show Ru _ _ (eval (Expr.Name _ _) _) _ _); first | refine Ru.name (by assumption) (by first | assumption | rfl) ?_ | refine Ru.celln (by assumption) rfl ?_) | ((with_reducible show Ru _ _ (eval (Expr.Constant (Const.int _) _ _) _) _ _); refine Ru.intC fun _ => ?_) | ((with_reducible show Ru _ _ (eval (Expr.List _ _) _) _ _); refine Ru.lstE ?_) | ((with_reducible show Ru _ _ (eval (Expr.BinOp _ _ _ _) _) _ _); refine Ru.bin ?_) | ((with_reducible show Ru _ _ (binaryOp Operator.Sub (Value.int _ _) (Value.int _ _)) _ _); refine Ru.sb fun _ => ?_) | ((with_reducible show Ru _ _ (eval (Expr.Subscript _ _ _) _) _ _); refine Ru.sub ?_) | ((with_reducible show Ru _ _ (isTrue (Expr.Compare _ _ _ _) _ _) _ _); refine Ru.test ?_) | ((with_reducible show Ru _ _ (isTrue (Expr.BoolOp BoolOp.Or (_ :: _) _) _ _) _ _); refine Ru.orC ?_) | ((with_reducible show Ru _ _ (isTrue (Expr.BoolOp BoolOp.Or [] _) _ _) _ _); refine Ru.orN ?_) | ((with_reducible show Ru _ _ (execs (_ :: _) _) _ _); refine Ru.cons ?_) | ((with_reducible show Ru _ _ (execs [] _) _ _); refine Ru.nil ?_) | ((with_reducible show Ru _ _ (exec (Stmt.If _ _ _ _) _) _ _); refine Ru.ifS ?_) | ((with_reducible show Ru _ _ (exec (Stmt.Assign [Expr.Name _ _] _ _) _) _ _); refine Ru.asg ?_) | ((with_reducible show Ru _ _ (spliced (backTo _ (starEach (_ :: _) _))) _ _); refine Ru.spc ?_) | ((with_reducible show Ru _ _ (spliced (backTo _ (starEach [] _))) _ _); refine Ru.spn ?_))
  refine Ru.lstAt iA₇ (by decide) (by decide) rfl ?_
  refine Ru.mul (fun _ => ?_) (mulOk (by omega) (by omega))
  refine Ru.lt ⟨_, rfl, ?_⟩
  rw [if_neg (by simpa using mink)]
  refine Ru.orN ?_
  rw [if_neg (by simp)]
  refine Ru.nil ?_
  exact law_9 W rm (w₆.gr g₇) F ⟨_, _, _, _, rfl, iA₇⟩
end
end Mink

/-! MkZa -/
set_option maxHeartbeats 4000000
namespace Mink
open PySem PySem.W PyProof.Rows PySem.Calls

section
variable {prog : Program} {w : World} {A : Around} {E : Value → Shared → Prop} {s : Shared}
theorem assign_Tuple_list {env : Env} {elts : List Expr} {x1 : Nat} {pos : Pos} {t : Addr} {items : Array Value} {Q : Unit → Shared → Prop} (hh : A.handled = none) (ht : s.heap.IsList t items)
    (hn : (assignEach elts env).length = items.size) (hstar : (assignEach elts env).findIdx? (·.1) = none)
    (h : ∀ h', Heap.ExtBut s.heap.objs.size s.heap h' → wpAny (model prog w) A (assignInOrder ((assignEach elts env).map (·.2)) items.toList) Q E { s with heap := h' }) :
    wpAny (model prog w) A (assign (.Tuple elts x1 pos) env (.ref t)) Q E s := by
  rw [show assign (.Tuple elts x1 pos) env (.ref t) = (do standAt pos; unpack (.ref t) (assignEach elts env)) from rfl]
  refine wpAny_bind (wpAny_standAt ?_)
  unfold unpack
  rw [hn, hstar]
  exact wpAny_bind (wpAny_holding (kun_itemsOf hh ht h))
end
section
variable {c : Cx} {A : Around} {h : Heap} {env : Env}
theorem Gr.extFresh {h h' : Heap} (s : Heap.ExtBut h.objs.size h h') : Gr [] h h' := .of_keeps fun b o e => s b o (Nat.ne_of_lt (Heap.lt_size e)) e
theorem Ru.aTupL {elts : List Expr} {x1 : Nat} {pos : Pos} {t : Addr} {xs : List Value} {P : Unit → Heap → Prop} (hh : A.handled = none) (ht : h.IsList t xs.toArray)
    (r : ∀ h', Gr [] h h' → Ru c A (assignInOrder ((assignEach elts env).map (·.2)) xs) h' P)
    (hn : (assignEach elts env).length = xs.length := by rfl) (hstar : (assignEach elts env).findIdx? (·.1) = none := by rfl) : Ru c A (assign (.Tuple elts x1 pos) env (.ref t)) h P :=
  fun k E => assign_Tuple_list (s := c.at h k) hh ht (by rw [hn]; simp) hstar fun h' he => by simpa using r h' (.extFresh he) k E
/-- two names given a tuple display: the right one first -/
theorem Ru.asgS {elts : List Expr} {k : Nat} {tpos pos : Pos} {value : Expr} {names : List Str} {P : Flow → Heap → Prop} (hh : A.handled = none)
    (r : Ru c A (eval value env) h fun v h₁ => ∃ t xs, v = .ref t ∧ IsTup h₁ t (List.toArray xs) ∧ names.length = xs.length ∧ ∀ h₂, Gr [] h₁ h₂ → Ru c A (assignInOrder (names.reverse.map fun n => bindName env n) xs.reverse) h₂ fun _ h₃ => P .next h₃)
    (hs : swapsWithSole [.Tuple elts k tpos] value pos.line env = pure false := by rfl) (hw : swappedStores [.Tuple elts k tpos] value env = pure (some names) := by rfl) : Ru c A (exec (.Assign [.Tuple elts k tpos] value pos) env) h P :=
  fun _ _ => Assign_Tuple_swapped (r.into fun v h₁ k₁ ⟨t, xs, e, ht, hl, q⟩ => by
    subst e
    have hl' : names.length = (List.toArray xs).size := by simp [hl]
    rw [hl']
    refine unpackItems_tuple (s := c.at h₁ k₁) hh ht fun h₂ he => ?_
    exact (q h₂ (.extFresh he)).into fun _ _ k' p => good_at (k' := k') p) hs hw
theorem Ru.aBind {x : Str} {v : Value} {P : Unit → Heap → Prop} (r : Ru c A (storeName env x v) h P) : Ru c A (bindName env x v) h P := fun k E => bindName_ (r k E)
end
end Mink

/-! MkZb -/
set_option maxHeartbeats 4000000
namespace Mink
open PySem PySem.W PyProof.Rows PySem.Calls

section
variable {c : Cx} {A : Around} {h hT : Heap} {mg mb : Str → Option Value} {L a : Addr} {cd : Value} {m : Str → Option Value} {C D M : List Pt}


theorem law_3 (W : World' hT mg mb) (rm : Rm 6 A) (U : Gr [] hT h) (new : ∀ i : Nat, i ≤ 4 → hT.get? (L + i) = none) (n : h.Ns L m) {v₂ v₃ v₄ : Option Value} (c₂ : h.IsCell (L + 2) v₂) (c₃ : h.IsCell (L + 3) v₃) (c₄ : h.IsCell (L + 4) v₄) {ls l₁ l₂ : Addr} (es : m "shapes" = some (.ref ls)) (is : h.IsList ls #[.ref l₁, .ref l₂])
    (x₁ : PtL h l₁ C) (x₂ : PtL h l₂ D) (F : Facts C D M) : Ru c A (execs ((bodyOf 12).drop 3) (env12 L a cd)) h fun f h' => f = .ret (.bool true) ∧ Gr [] hT h' := by
  have hc := F.c4
  have hd := F.d4
  have hf := F.few
  have hu := rm.un
  obtain ⟨fs, FS⟩ := W.sum
  obtain ⟨os, _, _, _, _, _, hos, hds, _⟩ := FS.obj
  have bCD := sums_bd (fun p hp => (F.sC p hp).sm) (fun p hp => (F.sD p hp).sm)
  have bDC := sums_bd (fun p hp => (F.sD p hp).sm) (fun p hp => (F.sC p hp).sm)
  have ncell : ∀ {h : Heap} {a b : Addr} {ps : List Pt} {v : Option Value}, PtL h a ps → h.IsCell b v → a ∉ [b] := fun ⟨_, _, q, _⟩ t => notIn_one (ne_ls_cell q.isList t)
  have d23 : L + 2 ≠ L + 3 := by simp
  have d24 : L + 2 ≠ L + 4 := by simp
  have d34 : L + 3 ≠ L + 4 := by simp
  show Ru c _ (execs (_ :: _) _) _ _
  (first | ((with_reducible show Ru _ _ (eval (Expr.Name _ _) _) _ _); first | refine Ru.name (by assumption) (by first | assumption | rfl) ?_ | refine Ru.celln (by assumption) rfl ?_) | ((with_reducible show Ru _ _ (eval (Expr.Constant (Const.int _) _ _) _) _ _); refine Ru.intC fun _ => ?_) | ((with_reducible show Ru _ _ (eval (Expr.Constant Const.none _ _) _) _ _); refine Ru.noneC ?_) | ((with_reducible show Ru _ _ (eval (Expr.List _ _) _) _ _); refine Ru.lstE ?_) | ((with_reducible show Ru _ _ (eval (Expr.Tuple _ _ _) _) _ _); refine Ru.tupE ?_) | ((with_reducible show Ru _ _ (isTrue (Expr.Compare _ _ _ _) _ _) _ _); refine Ru.test ?_) | ((with_reducible show Ru _ _ (isTrue (Expr.BoolOp BoolOp.Or (_ :: _) _) _ _) _ _); refine Ru.orC ?_) | ((with_reducible show Ru _ _ (isTrue (Expr.BoolOp BoolOp.Or [] _) _ _) _ _); refine Ru.orN ?_) | ((with_reducible show Ru _ _ (execs (_ :: _) _) _ _); refine Ru.cons ?_) | ((with_reducible show Ru _ _ (execs [] _) _ _); refine Ru.nil ?_) | ((with_reducible show Ru _ _ (exec (Stmt.If _ _ _ _) _) _ _); refine Ru.ifS ?_) | ((with_reducible show Ru _ _ (spliced (backTo _ (starEach (_ :: _) _))) _ _); refine Ru.spc ?_) | ((with_reducible show Ru _ _ (spliced (backTo _ (starEach [] _))) _ _); refine Ru.spn ?_))
  refine Ru.asgT ?_
  (first | ((with_reducible show Ru _ _ (eval (Expr.Name _ _) _) _ _); first | refine Ru.name (by assumption) (by first | assumption | rfl) ?_ | refine Ru.celln (by assumption) rfl ?_) | ((with_reducible show Ru _ _ (eval (Expr.Constant (Const.int _) _ _) _) _ _); refine Ru.intC fun _ => ?_) | ((with_reducible show Ru _ _ (eval (Expr.Constant Const.none _ _) _) _ _); refine Ru.noneC ?_) | ((with_reducible show Ru _ _ (eval (Expr.List _ _) _) _ _); refine Ru.lstE ?_) | ((with_reducible show Ru _ _ (eval (Expr.Tuple _ _ _) _) _ _); refine Ru.tupE ?_) | ((with_reducible show Ru _ _ (isTrue (Expr.Compare _ _ _ _) _ _) _ _); refine Ru.test ?_) | ((with_reducible show Ru _ _ (isTrue (Expr.BoolOp BoolOp.Or (_ :: _) _) _ _) _ _); refine Ru.orC ?_) | ((with_reducible show Ru _ _ (isTrue (Expr.BoolOp BoolOp.Or [] _) _ _) _ _); refine Ru.orN ?_) | ((with_reducible show Ru _ _ (execs (_ :: _) _) _ _); refine Ru.cons ?_) | ((with_reducible show Ru _ _ (execs [] _) _ _); refine Ru.nil ?_) | ((with_reducible show Ru _ _ (exec (Stmt.If _ _ _ _) _) _ _); refine Ru.ifS ?_) | ((with_reducible show Ru _ _ (spliced (backTo _ (starEach (_ :: _) _))) _ _); refine Ru.spc ?_) | ((with_reducible show Ru _ _ (spliced (backTo _ (starEach [] _))) _ _); refine Ru.spn ?_))
  refine Ru.aTupL (xs := [.ref l₁, .ref l₂]) rm.hh is fun h₁ g₁ => ?_
  have k₂ := g₁.cell c₂ List.not_mem_nil
  refine Ru.aCons (Ru.aName (Ru.storeC k₂ rfl fun h₂ c₂ g₂ => ?_))
  have k₃ := g₂.cell (g₁.cell c₃ List.not_mem_nil) (notIn_one d23.symm)
  refine Ru.aCons (Ru.aName (Ru.storeC k₃ rfl fun h₃ c₃ g₃ => ?_))
  refine Ru.aNil ?_
  have c₂ := g₃.cell c₂ (notIn_one d23)
  have c₄ := g₃.cell (g₂.cell (g₁.cell c₄ List.not_mem_nil) (notIn_one d24.symm)) (notIn_one d34.symm)
  have y₁ := x₁.gr0 g₁
  have y₂ := x₂.gr0 g₁
  have n₂ := g₂.ns (g₁.ns n List.not_mem_nil) (notIn_one (ne_ns_cell (g₁.ns n List.not_mem_nil) k₂))
  have n₃ := g₃.ns n₂ (notIn_one (ne_ns_cell n₂ k₃))
  have z₁ := y₁.gr g₂ (ncell y₁ k₂)
  have z₂ := y₂.gr g₂ (ncell y₂ k₂)
  have x₁ := z₁.gr g₃ (ncell z₁ k₃)
  have x₂ := z₂.gr g₃ (ncell z₂ k₃)
  have U := ((U.trans g₁).past g₂ (not1' (new 2 (by decide)))).past g₃ (not1' (new 3 (by decide)))
  (first | ((with_reducible show Ru _ _ (eval (Expr.Name _ _) _) _ _); first | refine Ru.name (by assumption) (by first | assumption | rfl) ?_ | refine Ru.celln (by assumption) rfl ?_) | ((with_reducible show Ru _ _ (eval (Expr.Constant (Const.int _) _ _) _) _ _); refine Ru.intC fun _ => ?_) | ((with_reducible show Ru _ _ (eval (Expr.Constant Const.none _ _) _) _ _); refine Ru.noneC ?_) | ((with_reducible show Ru _ _ (eval (Expr.List _ _) _) _ _); refine Ru.lstE ?_) | ((with_reducible show Ru _ _ (eval (Expr.Tuple _ _ _) _) _ _); refine Ru.tupE ?_) | ((with_reducible show Ru _ _ (isTrue (Expr.Compare _ _ _ _) _ _) _ _); refine Ru.test ?_) | ((with_reducible show Ru _ _ (isTrue (Expr.BoolOp BoolOp.Or (_ :: _) _) _ _) _ _); refine Ru.orC ?_) | ((with_reducible show Ru _ _ (isTrue (Expr.BoolOp BoolOp.Or [] _) _ _) _ _); refine Ru.orN ?_) | ((with_reducible show Ru _ _ (execs (_ :: _) _) _ _); refine Ru.cons ?_) | ((with_reducible show Ru _ _ (execs [] _) _ _); refine Ru.nil ?_) | ((with_reducible show Ru _ _ (exec (Stmt.If _ _ _ _) _) _ _); refine Ru.ifS ?_) | ((with_reducible show Ru _ _ (spliced (backTo _ (starEach (_ :: _) _))) _ _); refine Ru.spc ?_) | ((with_reducible show Ru _ _ (spliced (backTo _ (starEach [] _))) _ _); refine Ru.spn ?_))
  refine Ru.asgS (names := ["both", "turned"]) rm.hh ?_
  repeat (first | ((with_reducible show Ru _ _ (eval (Expr.Name _ _) _) _ _); first | refine Ru.name (by assumption) (by first | assumption | rfl) ?_ | refine Ru.celln (by assumption) rfl ?_) | ((with_reducible show Ru _ _ (eval (Expr.Constant (Const.int _) _ _) _) _ _); refine Ru.intC fun _ => ?_) | ((with_reducible show Ru _ _ (eval (Expr.Constant Const.none _ _) _) _ _); refine Ru.noneC ?_) | ((with_reducible show Ru _ _ (eval (Expr.List _ _) _) _ _); refine Ru.lstE ?_) | ((with_reducible show Ru _ _ (eval (Expr.Tuple _ _ _) _) _ _); refine Ru.tupE ?_) | ((with_reducible show Ru _ _ (isTrue (Expr.Compare _ _ _ _) _ _) _ _); refine Ru.test ?_) | ((with_reducible show Ru _ _ (isTrue (Expr.BoolOp BoolOp.Or (_ :: _) _) _ _) _ _); refine Ru.orC ?_) | ((with_reducible show Ru _ _ (isTrue (Expr.BoolOp BoolOp.Or [] _) _ _) _ _); refine Ru.orN ?_) | ((with_reducible show Ru _ _ (execs (_ :: _) _) _ _); refine Ru.cons ?_) | ((with_reducible show Ru _ _ (execs [] _) _ _); refine Ru.nil ?_) | ((with_reducible show Ru _ _ (exec (Stmt.If _ _ _ _) _) _ _); refine Ru.ifS ?_) | ((with_reducible show Ru _ _ (spliced (backTo _ (starEach (_ :: _) _))) _ _); refine Ru.spc ?_) | ((with_reducible show Ru _ _ (spliced (backTo _ (starEach [] _))) _ _); refine Ru.spn ?_))
  refine Ru.callN (Ru.glob (W.T.g.keeps U.keeps) FS.glob ?_)
  refine Ru.withF (o := os) hds ?_
  repeat (first | ((with_reducible show Ru _ _ (eval (Expr.Name _ _) _) _ _); first | refine Ru.name (by assumption) (by first | assumption | rfl) ?_ | refine Ru.celln (by assumption) rfl ?_) | ((with_reducible show Ru _ _ (eval (Expr.Constant (Const.int _) _ _) _) _ _); refine Ru.intC fun _ => ?_) | ((with_reducible show Ru _ _ (eval (Expr.Constant Const.none _ _) _) _ _); refine Ru.noneC ?_) | ((with_reducible show Ru _ _ (eval (Expr.List _ _) _) _ _); refine Ru.lstE ?_) | ((with_reducible show Ru _ _ (eval (Expr.Tuple _ _ _) _) _ _); refine Ru.tupE ?_) | ((with_reducible show Ru _ _ (isTrue (Expr.Compare _ _ _ _) _ _) _ _); refine Ru.test ?_) | ((with_reducible show Ru _ _ (isTrue (Expr.BoolOp BoolOp.Or (_ :: _) _) _ _) _ _); refine Ru.orC ?_) | ((with_reducible show Ru _ _ (isTrue (Expr.BoolOp BoolOp.Or [] _) _ _) _ _); refine Ru.orN ?_) | ((with_reducible show Ru _ _ (execs (_ :: _) _) _ _); refine Ru.cons ?_) | ((with_reducible show Ru _ _ (execs [] _) _ _); refine Ru.nil ?_) | ((with_reducible show Ru _ _ (exec (Stmt.If _ _ _ _) _) _ _); refine Ru.ifS ?_) | ((with_reducible show Ru _ _ (spliced (backTo _ (starEach (_ :: _) _))) _ _); refine Ru.spc ?_) | ((with_reducible show Ru _ _ (spliced (backTo _ (starEach [] _))) _ _); refine Ru.spn ?_))
  refine ⟨U.keeps _ _ hos, ?_⟩
  refine spec_sum W FS (rm.less (by decide)) U x₁ x₂ (by omega) (by omega) (sums_few hc hd) bCD fun h₄ a₁ g₄ w₁ _ => ?_
  rw [← F.m] at w₁
  have U₄ := U.trans g₄
  have c₂₄ := g₄.cell c₂ List.not_mem_nil
  have c₃₄ := g₄.cell c₃ List.not_mem_nil
  repeat (first | ((with_reducible show Ru _ _ (eval (Expr.Name _ _) _) _ _); first | refine Ru.name (by assumption) (by first | assumption | rfl) ?_ | refine Ru.celln (by assumption) rfl ?_) | ((with_reducible show Ru _ _ (eval (Expr.Constant (Const.int _) _ _) _) _ _); refine Ru.intC fun _ => ?_) | ((with_reducible show Ru _ _ (eval (Expr.Constant Const.none _ _) _) _ _); refine Ru.noneC ?_) | ((with_reducible show Ru _ _ (eval (Expr.List _ _) _) _ _); refine Ru.lstE ?_) | ((with_reducible show Ru _ _ (eval (Expr.Tuple _ _ _) _) _ _); refine Ru.tupE ?_) | ((with_reducible show Ru _ _ (isTrue (Expr.Compare _ _ _ _) _ _) _ _); refine Ru.test ?_) | ((with_reducible show Ru _ _ (isTrue (Expr.BoolOp BoolOp.Or (_ :: _) _) _ _) _ _); refine Ru.orC ?_) | ((with_reducible show Ru _ _ (isTrue (Expr.BoolOp BoolOp.Or [] _) _ _) _ _); refine Ru.orN ?_) | ((with_reducible show Ru _ _ (execs (_ :: _) _) _ _); refine Ru.cons ?_) | ((with_reducible show Ru _ _ (execs [] _) _ _); refine Ru.nil ?_) | ((with_reducible show Ru _ _ (exec (Stmt.If _ _ _ _) _) _ _); refine Ru.ifS ?_) | ((with_reducible show Ru _ _ (spliced (backTo _ (starEach (_ :: _) _))) _ _); refine Ru.spc ?_) | ((with_reducible show Ru _ _ (spliced (backTo _ (starEach [] _))) _ _); refine Ru.spn ?_))
  refine Ru.callN (Ru.glob (W.T.g.keeps U₄.keeps) FS.glob ?_)
  refine Ru.withF (o := os) hds ?_
  repeat (first | ((with_reducible show Ru _ _ (eval (Expr.Name _ _) _) _ _); first | refine Ru.name (by assumption) (by first | assumption | rfl) ?_ | refine Ru.celln (by assumption) rfl ?_) | ((with_reducible show Ru _ _ (eval (Expr.Constant (Const.int _) _ _) _) _ _); refine Ru.intC fun _ => ?_) | ((with_reducible show Ru _ _ (eval (Expr.Constant Const.none _ _) _) _ _); refine Ru.noneC ?_) | ((with_reducible show Ru _ _ (eval (Expr.List _ _) _) _ _); refine Ru.lstE ?_) | ((with_reducible show Ru _ _ (eval (Expr.Tuple _ _ _) _) _ _); refine Ru.tupE ?_) | ((with_reducible show Ru _ _ (isTrue (Expr.Compare _ _ _ _) _ _) _ _); refine Ru.test ?_) | ((with_reducible show Ru _ _ (isTrue (Expr.BoolOp BoolOp.Or (_ :: _) _) _ _) _ _); refine Ru.orC ?_) | ((with_reducible show Ru _ _ (isTrue (Expr.BoolOp BoolOp.Or [] _) _ _) _ _); refine Ru.orN ?_) | ((with_reducible show Ru _ _ (execs (_ :: _) _) _ _); refine Ru.cons ?_) | ((with_reducible show Ru _ _ (execs [] _) _ _); refine Ru.nil ?_) | ((with_reducible show Ru _ _ (exec (Stmt.If _ _ _ _) _) _ _); refine Ru.ifS ?_) | ((with_reducible show Ru _ _ (spliced (backTo _ (starEach (_ :: _) _))) _ _); refine Ru.spc ?_) | ((with_reducible show Ru _ _ (spliced (backTo _ (starEach [] _))) _ _); refine Ru.spn ?_))
  refine ⟨U₄.keeps _ _ hos, ?_⟩
  refine spec_sum W FS (rm.less (by decide)) U₄ (x₂.gr0 g₄) (x₁.gr0 g₄) (by omega) (by omega) (sums_few hd hc) bDC fun h₅ a₂ g₅ w₂ _ => ?_
  rw [F.turned] at w₂
  repeat (first | ((with_reducible show Ru _ _ (eval (Expr.Name _ _) _) _ _); first | refine Ru.name (by assumption) (by first | assumption | rfl) ?_ | refine Ru.celln (by assumption) rfl ?_) | ((with_reducible show Ru _ _ (eval (Expr.Constant (Const.int _) _ _) _) _ _); refine Ru.intC fun _ => ?_) | ((with_reducible show Ru _ _ (eval (Expr.Constant Const.none _ _) _) _ _); refine Ru.noneC ?_) | ((with_reducible show Ru _ _ (eval (Expr.List _ _) _) _ _); refine Ru.lstE ?_) | ((with_reducible show Ru _ _ (eval (Expr.Tuple _ _ _) _) _ _); refine Ru.tupE ?_) | ((with_reducible show Ru _ _ (isTrue (Expr.Compare _ _ _ _) _ _) _ _); refine Ru.test ?_) | ((with_reducible show Ru _ _ (isTrue (Expr.BoolOp BoolOp.Or (_ :: _) _) _ _) _ _); refine Ru.orC ?_) | ((with_reducible show Ru _ _ (isTrue (Expr.BoolOp BoolOp.Or [] _) _ _) _ _); refine Ru.orN ?_) | ((with_reducible show Ru _ _ (execs (_ :: _) _) _ _); refine Ru.cons ?_) | ((with_reducible show Ru _ _ (execs [] _) _ _); refine Ru.nil ?_) | ((with_reducible show Ru _ _ (exec (Stmt.If _ _ _ _) _) _ _); refine Ru.ifS ?_) | ((with_reducible show Ru _ _ (spliced (backTo _ (starEach (_ :: _) _))) _ _); refine Ru.spc ?_) | ((with_reducible show Ru _ _ (spliced (backTo _ (starEach [] _))) _ _); refine Ru.spn ?_))
  refine Ru.newT (show 2 ≤ sizeLine by decide) fun h₆ T₆ g₆ => ?_
  refine ⟨_, [.ref a₁, .ref a₂], rfl, T₆, rfl, fun h₇ g₇ => ?_⟩
  have G₇ := ((g₄.trans g₅).trans g₆).trans g₇
  refine Ru.aCons (Ru.aBind (Ru.store (G₇.ns n₃ List.not_mem_nil) fun h₈ n₈ g₈ => ?_))
  refine Ru.aCons (Ru.aBind (Ru.store n₈ fun h₉ n₉ g₉ => ?_))
  refine Ru.aNil ?_
  have g₈₉ : Gr [L] h₇ h₉ := Gr.trans g₈ g₉
  have n₇ := G₇.ns n₃ List.not_mem_nil
  have cl : ∀ {b : Addr} {v : Option Value}, h₇.IsCell b v → h₉.IsCell b v := fun t => g₈₉.cell t (notIn_one (ne_ns_cell n₇ t).symm)
  have pl : ∀ {b : Addr} {ps : List Pt}, PtL h₇ b ps → PtL h₉ b ps := fun t => t.gr g₈₉ (notIn_one (t.ne_ns n₇))
  have w : Lw hT h₉ L _ C D M := ⟨(U.trans G₇).past g₈₉ (not1' (new 0 (by decide))), new, n₉, ⟨l₁, cl (G₇.cell c₂ List.not_mem_nil), pl (x₁.gr0 G₇)⟩, ⟨l₂, cl (G₇.cell c₃ List.not_mem_nil), pl (x₂.gr0 G₇)⟩, ⟨_, cl (G₇.cell c₄ List.not_mem_nil)⟩, ⟨a₁, rfl, pl (((w₁.gr0 g₅).gr0 g₆).gr0 g₇)⟩⟩
  have w₁ := pl (((w₁.gr0 g₅).gr0 g₆).gr0 g₇)
  have w₂ := pl ((w₂.gr0 g₆).gr0 g₇)
  repeat (first | ((with_reducible show Ru _ _ (eval (Expr.Name _ _) _) _ _); first | refine Ru.name (by assumption) (by first | assumption | rfl) ?_ | refine Ru.celln (by assumption) rfl ?_) | ((with_reducible show Ru _ _ (eval (Expr.Constant (Const.int _) _ _) _) _ _); refine Ru.intC fun _ => ?_) | ((with_reducible show Ru _ _ (eval (Expr.Constant Const.none _ _) _) _ _); refine Ru.noneC ?_) | ((with_reducible show Ru _ _ (eval (Expr.List _ _) _) _ _); refine Ru.lstE ?_) | ((with_reducible show Ru _ _ (eval (Expr.Tuple _ _ _) _) _ _); refine Ru.tupE ?_) | ((with_reducible show Ru _ _ (isTrue (Expr.Compare _ _ _ _) _ _) _ _); refine Ru.test ?_) | ((with_reducible show Ru _ _ (isTrue (Expr.BoolOp BoolOp.Or (_ :: _) _) _ _) _ _); refine Ru.orC ?_) | ((with_reducible show Ru _ _ (isTrue (Expr.BoolOp BoolOp.Or [] _) _ _) _ _); refine Ru.orN ?_) | ((with_reducible show Ru _ _ (execs (_ :: _) _) _ _); refine Ru.cons ?_) | ((with_reducible show Ru _ _ (execs [] _) _ _); refine Ru.nil ?_) | ((with_reducible show Ru _ _ (exec (Stmt.If _ _ _ _) _) _ _); refine Ru.ifS ?_) | ((with_reducible show Ru _ _ (spliced (backTo _ (starEach (_ :: _) _))) _ _); refine Ru.spc ?_) | ((with_reducible show Ru _ _ (spliced (backTo _ (starEach [] _))) _ _); refine Ru.spn ?_))
  refine Ru.refIsNone ⟨_, rfl, ?_⟩
  rw [if_neg (by simp)]
  repeat (first | ((with_reducible show Ru _ _ (eval (Expr.Name _ _) _) _ _); first | refine Ru.name (by assumption) (by first | assumption | rfl) ?_ | refine Ru.celln (by assumption) rfl ?_) | ((with_reducible show Ru _ _ (eval (Expr.Constant (Const.int _) _ _) _) _ _); refine Ru.intC fun _ => ?_) | ((with_reducible show Ru _ _ (eval (Expr.Constant Const.none _ _) _) _ _); refine Ru.noneC ?_) | ((with_reducible show Ru _ _ (eval (Expr.List _ _) _) _ _); refine Ru.lstE ?_) | ((with_reducible show Ru _ _ (eval (Expr.Tuple _ _ _) _) _ _); refine Ru.tupE ?_) | ((with_reducible show Ru _ _ (isTrue (Expr.Compare _ _ _ _) _ _) _ _); refine Ru.test ?_) | ((with_reducible show Ru _ _ (isTrue (Expr.BoolOp BoolOp.Or (_ :: _) _) _ _) _ _); refine Ru.orC ?_) | ((with_reducible show Ru _ _ (isTrue (Expr.BoolOp BoolOp.Or [] _) _ _) _ _); refine Ru.orN ?_) | ((with_reducible show Ru _ _ (execs (_ :: _) _) _ _); refine Ru.cons ?_) | ((with_reducible show Ru _ _ (execs [] _) _ _); refine Ru.nil ?_) | ((with_reducible show Ru _ _ (exec (Stmt.If _ _ _ _) _) _ _); refine Ru.ifS ?_) | ((with_reducible show Ru _ _ (spliced (backTo _ (starEach (_ :: _) _))) _ _); refine Ru.spc ?_) | ((with_reducible show Ru _ _ (spliced (backTo _ (starEach [] _))) _ _); refine Ru.spn ?_))
  refine Ru.nePts w₁ w₂ (by omega) ⟨_, rfl, ?_⟩
  rw [if_neg (by simp)]
  refine Ru.orN ?_
  rw [if_neg (by simp)]
  refine Ru.nil ?_
  exact law_6 W rm w F
end
end Mink

/-! MkZc -/
set_option maxHeartbeats 4000000
set_option maxRecDepth 100000
namespace Mink
open PySem PySem.W PyProof.Rows PySem.Calls

section
variable {c : Cx} {A : Around} {h : Heap} {env : Env} {P : Value → Heap → Prop}
theorem Ru.mulL {l : Addr} {vs : List Value} {k : Nat} {x : Nat} {u : Tok} (t : IsL h l vs.toArray k) (hz : vs.length * x ≤ 1000) (hx : x ≤ 1000) (p : ∀ h' a, IsL h' a (List.replicate x vs).flatten.toArray 0 → Gr [] h h' → h.get? a = none → P (.ref a) h') :
    Ru c A (binaryOp .Mult (.ref l) (.int (x : Int) u)) h P := by
  intro kk E
  obtain ⟨y, hy⟩ : ∃ y : Int, y = (x : Int) := ⟨_, rfl⟩
  have hyn : y.toNat = x := by omega
  have hsz' : vs.toArray.size * y.toNat ≤ 2 ^ 24 := by rw [hyn]; simp; omega
  have f1 : Builtin.List.listFitsIndex y = true := by simp [Builtin.List.listFitsIndex]; omega
  have f2 : Builtin.List.listTooLong (vs.toArray.size * y.toNat) = false := by simp [Builtin.List.listTooLong, sizeLine]; simp at hsz'; omega
  rw [← hy]
  refine wpAny_binaryOp_repeat_ref (T := "list") (U := "int") (by decide) ⟨_, t, rfl⟩ (fun s' => typeIs_int s' y u) noFill_list_mul PySem.F.fills_int_mul PySem.F.slot_int_rmul repeat_list PySem.F.slot_int_index.lookup
    (call_meets PySem.F.slot_int_rmul (typeIs_int _ y u) PySem.F.entry_int_rmul (PySem.F.args_int_rmul_2 _ _) (int___rmul___int_list y u l vs.toArray k)
      ⟨t, rfl, ⟨_, t, rfl⟩, call_meets PySem.F.slot_list_mul ⟨_, t, rfl⟩ PySem.F.entry_list_mul (PySem.F.args_list_mul_2 _ _)
        (AutoListH.list___mul___list_int_3 l vs.toArray k y u (by rw [f1]; simp) (Nat.not_lt.mpr (Nat.le_trans hsz' (by decide))) (by rw [f2]; simp))
        ⟨t, good_at (c := c) (k' := kk) (p _ _ ?_ (Gr.push _ _) (fresh_size _))⟩⟩)
  have := Heap.get?_push_size h (o := { cls := Value.type "list", data := Data.seq (List.foldl (fun x1 x2 => x1 ++ x2) #[] (List.replicate (if vs.toArray.isEmpty = true then 0 else y.toNat) vs.toArray)) }) rfl
  show (h.push _).get? h.objs.size = some _
  rw [this, listMul_foldl_if, hyn]
theorem Ru.addLL {l b : Addr} {vs ws : List Value} (hl : h.IsList l vs.toArray) (hb : h.IsList b ws.toArray) (hz : vs.length + ws.length ≤ 1000) (p : ∀ h' a, IsL h' a (vs ++ ws).toArray 0 → Gr [] h h' → h.get? a = none → P (.ref a) h') :
    Ru c A (binaryOp .Add (.ref l) (.ref b)) h P := by
  intro kk E
  have hsl : sizeLine = 16777216 := rfl
  obtain ⟨⟨cls, dd, data, sl⟩, ho, hc, n, hd⟩ := id hl
  obtain ⟨⟨cls2, dd2, data2, sl2⟩, ho2, hc2, n2, hd2⟩ := id hb
  simp only at hc hd hc2 hd2
  subst hc hd hc2 hd2
  have e : vs.toArray ++ ws.toArray = (vs ++ ws).toArray := by simp
  refine concat_meets ⟨_, ho, rfl⟩ ⟨_, ho2, rfl⟩ noFill_list_add seq_list_add PySem.F.slot_list_add PySem.F.entry_list_add (PySem.F.args_list_add_2 _ _) (list_addW l b vs.toArray ws.toArray n n2 dd dd2 sl sl2 (by simp; omega)) ⟨ho, ho2, ?_⟩
  rw [e]
  exact good_at (c := c) (k' := kk) (p _ _ (Heap.get?_push_size _ rfl) (Gr.push _ _) (fresh_size _))
/-- a cut of a list, its ends known -/
theorem Ru.cutL {value slice : Expr} {l sl : Addr} {vs ws : List Value} {vl vu vk : Value} {lo hi st : Option Int} (x : h.IsList l vs.toArray) (hz : vs.length ≤ 10000) (s : h.IsSliceOf sl vl vu vk) (pl : IsPart vl lo) (pu : IsPart vu hi) (pk : IsPart vk st) (h0 : st ≠ some 0)
    (e : slicePick (List.toArray vs) lo hi st = List.toArray ws)
    (p : ∀ h' a, IsL h' a ws.toArray 0 → Gr [] h h' → h.get? a = none → P (.ref a) h')
    (hs : ∃ ops, subscripted slice false (.ref l) (.ref sl) = operate ops (getItem (.ref l) (.ref sl)) := by exact ⟨_, by with_unfolding_all rfl⟩) : Ru c A (subscriptTail value slice (.ref l) (.ref sl)) h P := by
  have hsl : sizeLine = 16777216 := rfl
  obtain ⟨ops, hs⟩ := hs
  refine Ru.lstCut x (by simp; omega) s pl pu pk h0 (fun h' a hl' g n => p h' a ?_ g n) hs
  rw [← e]; exact hl'
end
end Mink

/-! MkZd -/
set_option maxHeartbeats 4000000
namespace Mink
open PySem PySem.W PyProof.Rows PySem.Calls

/-- the eight numbers -/
noncomputable def nums (ns : List Int) : List Int := ((ns ++ List.replicate 8 0).take 8).map fun (n : Int) => n.fmod 36
/-- the points of a shape -/
noncomputable def ptsOf (ns : List Int) (k : Nat) : List Pt := (((nums ns).drop (4 * k)).take 4).map fun (n : Int) => (n.fmod 6, n.fdiv 6)
theorem nums_len (ns : List Int) : (nums ns).length = 8 := by simp [nums]
theorem ptsOf_len (ns : List Int) (k : Nat) : (ptsOf ns k).length ≤ 4 := by simp [ptsOf]; omega
theorem nums_in (ns : List Int) : ∀ n ∈ nums ns, 0 ≤ n ∧ n < 36 := by
  intro n hn
  obtain ⟨m, _, rfl⟩ := List.mem_map.mp hn
  rw [Int.fmod_eq_emod_of_nonneg _ (by decide)]
  exact ⟨Int.emod_nonneg _ (by decide), Int.emod_lt_of_pos _ (by decide)⟩
theorem pts_ti (ns : List Int) (k : Nat) : ∀ p ∈ ptsOf ns k, Ti p := by
  intro p hp
  obtain ⟨n, hn, rfl⟩ := List.mem_map.mp hp
  have := nums_in ns n (List.mem_of_mem_drop (List.mem_of_mem_take hn))
  unfold Ti
  simp only
  rw [Int.fmod_eq_emod_of_nonneg _ (by decide), Int.fdiv_eq_ediv_of_nonneg _ (by decide)]
  omega
theorem ints_all {h : Heap} {vs : List Value} {ns : List Int} (x : IntsAre vs ns) : All2 (IsI h) vs ns := by
  induction x with
  | nil => exact .nil
  | cons n t _ ih => exact .cons ⟨t, rfl⟩ ih
theorem all_rep {h : Heap} (t : Tok) : ∀ k : Nat, All2 (IsI h) (List.replicate k (Value.int 0 t)) (List.replicate k 0)
  | 0 => .nil
  | k + 1 => .cons ⟨t, rfl⟩ (all_rep t k)

section
variable {c : Cx} {A : Around} {h hT : Heap} {mg mb : Str → Option Value} {L a : Addr} {cd : Value} {m : Str → Option Value} {C D M : List Pt}

theorem ne_pt_rg {h : Heap} {a I : Addr} {ps : List Pt} {x y z : Int} (p : PtL h a ps) (t : IsRangeIter h I x y z) : a ∉ [I] := by
  intro m
  rw [List.mem_singleton] at m
  subst m
  obtain ⟨_, _, q, _⟩ := p
  have q : h.get? a = some _ := q
  rw [t] at q
  simp at q
theorem Ru.noneIn {P : Value → Heap → Prop} {l a b : Addr} {ps qs : List Pt} (t : h.IsList l #[.ref a, .ref b]) (x : PtL h a ps) (y : PtL h b qs) (hu : A.units + 65 < cLine) (p : P (.bool false) h) : Ru c A (compareOp .In .none (.ref l)) h P := by
  obtain ⟨o, ho, hc, n, hd⟩ := t
  have rd : Reads h (.ref l) (.list [.list (ps.map pd), .list (qs.map pd)]) _ := Reads.list ho hc hd (ReadsAll.cons x.reads (ReadsAll.cons y.reads .nil))
  exact fun k _ => PySem.SeqAt.in_list_reads (s := c.at h k) rd Reads.none (by simp [PyData.canLayAll0, PyData.canLay0, pds_can]) rfl (by have e : PyData.none.depth = 0 := rfl; rw [e]; omega) (good_at (c := c) (k' := k) p)


/-- between the turns of the comprehension of the shapes -/
structure PInv (h : Heap) (Cc Dd I : Addr) (ns : List Int) (i : Nat) (h' : Heap) (m : Str → Option Value) (as : List Addr) (nn : Nat) : Prop where
  nC : h'.Ns Cc m
  lD : IsL h' Dd (List.toArray (as.map Value.ref)) nn
  al : All2 (fun a ps => PtL h' a ps ∧ a ≠ Dd) as ([cor (ptsOf ns 0), cor (ptsOf ns 1)].take i)
  g : Gr [] h h'
  it : IsRangeIter h' I ((i : Nat) : Int) (((2 : Nat) : Int) - ((i : Nat) : Nat)) 1
theorem law_1 {ns : List Int} (W : World' hT mg mb) (rm : Rm 6 A) (U : Gr [] hT h) (new : ∀ i : Nat, i ≤ 4 → hT.get? (L + i) = none) (n : h.Ns L m) {ln : Addr} {vn : List Value} {v₂ v₃ v₄ : Option Value} (c₁ : h.IsCell (L + 1) (some (.ref ln))) (c₂ : h.IsCell (L + 2) v₂) (c₃ : h.IsCell (L + 3) v₃) (c₄ : h.IsCell (L + 4) v₄)
    (ln' : h.IsList ln vn.toArray) (an : All2 (IsI h) vn (nums ns)) (F : Facts (cor (ptsOf ns 0)) (cor (ptsOf ns 1)) M) : Ru c A (execs ((bodyOf 12).drop 1) (env12 L a cd)) h fun f h' => f = .ret (.bool true) ∧ Gr [] hT h' := by
  have hu := rm.un
  have hr := W.none "range" (by simp)
  obtain ⟨fs, FS⟩ := W.corners
  obtain ⟨os, _, _, _, _, _, hos, hds, _⟩ := FS.obj
  have nl := nums_len ns
  have vl := an.length
  show Ru c _ (execs (_ :: _) _) _ _
  (first | ((with_reducible show Ru _ _ (eval (Expr.Name _ _) _) _ _); first | refine Ru.name (by assumption) (by first | assumption | rfl) ?_ | refine Ru.celln (by assumption) rfl ?_) | ((with_reducible show Ru _ _ (eval (Expr.Constant (Const.int _) _ _) _) _ _); refine Ru.intC fun _ => ?_) | ((with_reducible show Ru _ _ (eval (Expr.Constant Const.none _ _) _) _ _); refine Ru.noneC ?_) | ((with_reducible show Ru _ _ (eval (Expr.List _ _) _) _ _); refine Ru.lstE ?_) | ((with_reducible show Ru _ _ (eval (Expr.Tuple _ _ _) _) _ _); refine Ru.tupE ?_) | ((with_reducible show Ru _ _ (eval (Expr.BinOp _ _ _ _) _) _ _); refine Ru.bin ?_) | ((with_reducible show Ru _ _ (binaryOp Operator.Add (Value.int _ _) (Value.int _ _)) _ _); refine Ru.add fun _ => ?_) | ((with_reducible show Ru _ _ (binaryOp Operator.Mod (Value.int _ _) (Value.int _ _)) _ _); refine Ru.fmod (by decide) fun _ => ?_) | ((with_reducible show Ru _ _ (binaryOp Operator.FloorDiv (Value.int _ _) (Value.int _ _)) _ _); refine Ru.fdiv (by decide) (fun _ => ?_) (PyProof.noPylong_of_log2 (by decide))) | ((with_reducible show Ru _ _ (eval (Expr.Subscript _ _ _) _) _ _); refine Ru.sub ?_) | ((with_reducible show Ru _ _ (valueOrNone (evalOpt none _)) _ _); refine Ru.partN ?_) | ((with_reducible show Ru _ _ (valueOrNone (evalOpt (some _) _)) _ _); refine Ru.partE ?_) | ((with_reducible show Ru _ _ (eval (Expr.Slice _ _ _ _) _) _ _); refine Ru.slc ?_) | ((with_reducible show Ru _ _ (isTrue (Expr.Compare _ _ _ _) _ _) _ _); refine Ru.test ?_) | ((with_reducible show Ru _ _ (execs (_ :: _) _) _ _); refine Ru.cons ?_) | ((with_reducible show Ru _ _ (execs [] _) _ _); refine Ru.nil ?_) | ((with_reducible show Ru _ _ (exec (Stmt.If _ _ _ _) _) _ _); refine Ru.ifS ?_) | ((with_reducible show Ru _ _ (spliced (backTo _ (starEach (_ :: _) _))) _ _); refine Ru.spc ?_) | ((with_reducible show Ru _ _ (spliced (backTo _ (starEach [] _))) _ _); refine Ru.spn ?_))
  refine Ru.compU (cl := [("numbers", L + 1)]) rfl n ?_
  refine Ru.callN (Ru.blt (W.T.g.keeps U.keeps) hr (W.T.b.keeps U.keeps) W.range ?_)
  refine Ru.withT ?_
  repeat (first | ((with_reducible show Ru _ _ (eval (Expr.Name _ _) _) _ _); first | refine Ru.name (by assumption) (by first | assumption | rfl) ?_ | refine Ru.celln (by assumption) rfl ?_) | ((with_reducible show Ru _ _ (eval (Expr.Constant (Const.int _) _ _) _) _ _); refine Ru.intC fun _ => ?_) | ((with_reducible show Ru _ _ (eval (Expr.Constant Const.none _ _) _) _ _); refine Ru.noneC ?_) | ((with_reducible show Ru _ _ (eval (Expr.List _ _) _) _ _); refine Ru.lstE ?_) | ((with_reducible show Ru _ _ (eval (Expr.Tuple _ _ _) _) _ _); refine Ru.tupE ?_) | ((with_reducible show Ru _ _ (eval (Expr.BinOp _ _ _ _) _) _ _); refine Ru.bin ?_) | ((with_reducible show Ru _ _ (binaryOp Operator.Add (Value.int _ _) (Value.int _ _)) _ _); refine Ru.add fun _ => ?_) | ((with_reducible show Ru _ _ (binaryOp Operator.Mod (Value.int _ _) (Value.int _ _)) _ _); refine Ru.fmod (by decide) fun _ => ?_) | ((with_reducible show Ru _ _ (binaryOp Operator.FloorDiv (Value.int _ _) (Value.int _ _)) _ _); refine Ru.fdiv (by decide) (fun _ => ?_) (PyProof.noPylong_of_log2 (by decide))) | ((with_reducible show Ru _ _ (eval (Expr.Subscript _ _ _) _) _ _); refine Ru.sub ?_) | ((with_reducible show Ru _ _ (valueOrNone (evalOpt none _)) _ _); refine Ru.partN ?_) | ((with_reducible show Ru _ _ (valueOrNone (evalOpt (some _) _)) _ _); refine Ru.partE ?_) | ((with_reducible show Ru _ _ (eval (Expr.Slice _ _ _ _) _) _ _); refine Ru.slc ?_) | ((with_reducible show Ru _ _ (isTrue (Expr.Compare _ _ _ _) _ _) _ _); refine Ru.test ?_) | ((with_reducible show Ru _ _ (execs (_ :: _) _) _ _); refine Ru.cons ?_) | ((with_reducible show Ru _ _ (execs [] _) _ _); refine Ru.nil ?_) | ((with_reducible show Ru _ _ (exec (Stmt.If _ _ _ _) _) _ _); refine Ru.ifS ?_) | ((with_reducible show Ru _ _ (spliced (backTo _ (starEach (_ :: _) _))) _ _); refine Ru.spc ?_) | ((with_reducible show Ru _ _ (spliced (backTo _ (starEach [] _))) _ _); refine Ru.spn ?_))
  refine Ru.range fun h₁ ra t u v r g₁ f₁ => ?_
  refine Ru.iterR (n := 2) r (by decide) fun I h₂ fI it g₂ => ?_
  refine ⟨g₁.trans g₂, I, rfl, fun Dd Cc h₃ fD fC DC g₃ lD nC => ?_⟩
  have G₂ := g₁.trans g₂
  have DI : Dd ≠ I := (ne_of_fresh it fD).symm
  have CI : Cc ≠ I := (ne_of_fresh it fC).symm
  have fI : h.get? I = none := g₁.gone fI
  have fD : h.get? Dd = none := G₂.gone fD
  have fC : h.get? Cc = none := G₂.gone fC
  have it₃ : IsRangeIter h₃ I ((0 : Nat) : Int) (((2 : Nat) : Int) - ((0 : Nat) : Nat)) 1 := g₃ _ _ it (.inl (by simp))
  refine ⟨fun Q q => (Src.range (c := c) (n := 2) rm.hh).self 0 h₃ Q it₃ q, ?_⟩
  refine RuK.one (Src.range (n := 2) rm.hh) (fun i h' => ∃ m as nn, PInv h Cc Dd I ns i h' m as nn)
    ⟨_, [], 0, ⟨nC, lD, .nil, G₂.trans g₃, it₃⟩⟩ ?_ ?_ ?_
  · rintro i h' ⟨_, _, _, j⟩
    exact j.it
  · rintro i h' h'' v hi ⟨m₁, as, nn, ⟨nC, lD, al, G, it₀⟩⟩ ⟨ti, rfl⟩ st' g
    have n' := g.ns nC (notIn_one CI)
    have l' := g.ls lD (notIn_one DI)
    have G := G.past g (not1' fI)
    refine Ru.aName (Ru.store n' fun h₄ n₄ g₄ => ?_)
    have g₄ : Gr [Cc] h'' h₄ := g₄
    have G₄ := G.past g₄ (not1' fC)
    have U₄ := U.trans G₄
    have c₁₄ := G₄.cell c₁ List.not_mem_nil
    refine Ru.tests0 ?_
    rw [if_pos rfl]
    refine Ru.callN (Ru.glob (W.T.g.keeps U₄.keeps) FS.glob ?_)
    refine Ru.withF (o := os) hds ?_
    (first | ((with_reducible show Ru _ _ (eval (Expr.Name _ _) _) _ _); first | refine Ru.name (by assumption) (by first | assumption | rfl) ?_ | refine Ru.celln (by assumption) rfl ?_) | ((with_reducible show Ru _ _ (eval (Expr.Constant (Const.int _) _ _) _) _ _); refine Ru.intC fun _ => ?_) | ((with_reducible show Ru _ _ (eval (Expr.Constant Const.none _ _) _) _ _); refine Ru.noneC ?_) | ((with_reducible show Ru _ _ (eval (Expr.List _ _) _) _ _); refine Ru.lstE ?_) | ((with_reducible show Ru _ _ (eval (Expr.Tuple _ _ _) _) _ _); refine Ru.tupE ?_) | ((with_reducible show Ru _ _ (eval (Expr.BinOp _ _ _ _) _) _ _); refine Ru.bin ?_) | ((with_reducible show Ru _ _ (binaryOp Operator.Add (Value.int _ _) (Value.int _ _)) _ _); refine Ru.add fun _ => ?_) | ((with_reducible show Ru _ _ (binaryOp Operator.Mod (Value.int _ _) (Value.int _ _)) _ _); refine Ru.fmod (by decide) fun _ => ?_) | ((with_reducible show Ru _ _ (binaryOp Operator.FloorDiv (Value.int _ _) (Value.int _ _)) _ _); refine Ru.fdiv (by decide) (fun _ => ?_) (PyProof.noPylong_of_log2 (by decide))) | ((with_reducible show Ru _ _ (eval (Expr.Subscript _ _ _) _) _ _); refine Ru.sub ?_) | ((with_reducible show Ru _ _ (valueOrNone (evalOpt none _)) _ _); refine Ru.partN ?_) | ((with_reducible show Ru _ _ (valueOrNone (evalOpt (some _) _)) _ _); refine Ru.partE ?_) | ((with_reducible show Ru _ _ (eval (Expr.Slice _ _ _ _) _) _ _); refine Ru.slc ?_) | ((with_reducible show Ru _ _ (isTrue (Expr.Compare _ _ _ _) _ _) _ _); refine Ru.test ?_) | ((with_reducible show Ru _ _ (execs (_ :: _) _) _ _); refine Ru.cons ?_) | ((with_reducible show Ru _ _ (execs [] _) _ _); refine Ru.nil ?_) | ((with_reducible show Ru _ _ (exec (Stmt.If _ _ _ _) _) _ _); refine Ru.ifS ?_) | ((with_reducible show Ru _ _ (spliced (backTo _ (starEach (_ :: _) _))) _ _); refine Ru.spc ?_) | ((with_reducible show Ru _ _ (spliced (backTo _ (starEach [] _))) _ _); refine Ru.spn ?_))
    refine Ru.compG IsPt IsPt.stable (upto (fun n : Int => (n.fmod 6, n.fdiv 6)) (((nums ns).drop (4 * i)).take 4)) rfl (cl := []) rfl ?_
    repeat (first | ((with_reducible show Ru _ _ (eval (Expr.Name _ _) _) _ _); first | refine Ru.name (by assumption) (by first | assumption | rfl) ?_ | refine Ru.celln (by assumption) rfl ?_) | ((with_reducible show Ru _ _ (eval (Expr.Constant (Const.int _) _ _) _) _ _); refine Ru.intC fun _ => ?_) | ((with_reducible show Ru _ _ (eval (Expr.Constant Const.none _ _) _) _ _); refine Ru.noneC ?_) | ((with_reducible show Ru _ _ (eval (Expr.List _ _) _) _ _); refine Ru.lstE ?_) | ((with_reducible show Ru _ _ (eval (Expr.Tuple _ _ _) _) _ _); refine Ru.tupE ?_) | ((with_reducible show Ru _ _ (eval (Expr.BinOp _ _ _ _) _) _ _); refine Ru.bin ?_) | ((with_reducible show Ru _ _ (binaryOp Operator.Add (Value.int _ _) (Value.int _ _)) _ _); refine Ru.add fun _ => ?_) | ((with_reducible show Ru _ _ (binaryOp Operator.Mod (Value.int _ _) (Value.int _ _)) _ _); refine Ru.fmod (by decide) fun _ => ?_) | ((with_reducible show Ru _ _ (binaryOp Operator.FloorDiv (Value.int _ _) (Value.int _ _)) _ _); refine Ru.fdiv (by decide) (fun _ => ?_) (PyProof.noPylong_of_log2 (by decide))) | ((with_reducible show Ru _ _ (eval (Expr.Subscript _ _ _) _) _ _); refine Ru.sub ?_) | ((with_reducible show Ru _ _ (valueOrNone (evalOpt none _)) _ _); refine Ru.partN ?_) | ((with_reducible show Ru _ _ (valueOrNone (evalOpt (some _) _)) _ _); refine Ru.partE ?_) | ((with_reducible show Ru _ _ (eval (Expr.Slice _ _ _ _) _) _ _); refine Ru.slc ?_) | ((with_reducible show Ru _ _ (isTrue (Expr.Compare _ _ _ _) _ _) _ _); refine Ru.test ?_) | ((with_reducible show Ru _ _ (execs (_ :: _) _) _ _); refine Ru.cons ?_) | ((with_reducible show Ru _ _ (execs [] _) _ _); refine Ru.nil ?_) | ((with_reducible show Ru _ _ (exec (Stmt.If _ _ _ _) _) _ _); refine Ru.ifS ?_) | ((with_reducible show Ru _ _ (spliced (backTo _ (starEach (_ :: _) _))) _ _); refine Ru.spc ?_) | ((with_reducible show Ru _ _ (spliced (backTo _ (starEach [] _))) _ _); refine Ru.spn ?_))
    refine Ru.mul (fun _ => ?_) (mulOk (by decide) (by decide))
    repeat (first | ((with_reducible show Ru _ _ (eval (Expr.Name _ _) _) _ _); first | refine Ru.name (by assumption) (by first | assumption | rfl) ?_ | refine Ru.celln (by assumption) rfl ?_) | ((with_reducible show Ru _ _ (eval (Expr.Constant (Const.int _) _ _) _) _ _); refine Ru.intC fun _ => ?_) | ((with_reducible show Ru _ _ (eval (Expr.Constant Const.none _ _) _) _ _); refine Ru.noneC ?_) | ((with_reducible show Ru _ _ (eval (Expr.List _ _) _) _ _); refine Ru.lstE ?_) | ((with_reducible show Ru _ _ (eval (Expr.Tuple _ _ _) _) _ _); refine Ru.tupE ?_) | ((with_reducible show Ru _ _ (eval (Expr.BinOp _ _ _ _) _) _ _); refine Ru.bin ?_) | ((with_reducible show Ru _ _ (binaryOp Operator.Add (Value.int _ _) (Value.int _ _)) _ _); refine Ru.add fun _ => ?_) | ((with_reducible show Ru _ _ (binaryOp Operator.Mod (Value.int _ _) (Value.int _ _)) _ _); refine Ru.fmod (by decide) fun _ => ?_) | ((with_reducible show Ru _ _ (binaryOp Operator.FloorDiv (Value.int _ _) (Value.int _ _)) _ _); refine Ru.fdiv (by decide) (fun _ => ?_) (PyProof.noPylong_of_log2 (by decide))) | ((with_reducible show Ru _ _ (eval (Expr.Subscript _ _ _) _) _ _); refine Ru.sub ?_) | ((with_reducible show Ru _ _ (valueOrNone (evalOpt none _)) _ _); refine Ru.partN ?_) | ((with_reducible show Ru _ _ (valueOrNone (evalOpt (some _) _)) _ _); refine Ru.partE ?_) | ((with_reducible show Ru _ _ (eval (Expr.Slice _ _ _ _) _) _ _); refine Ru.slc ?_) | ((with_reducible show Ru _ _ (isTrue (Expr.Compare _ _ _ _) _ _) _ _); refine Ru.test ?_) | ((with_reducible show Ru _ _ (execs (_ :: _) _) _ _); refine Ru.cons ?_) | ((with_reducible show Ru _ _ (execs [] _) _ _); refine Ru.nil ?_) | ((with_reducible show Ru _ _ (exec (Stmt.If _ _ _ _) _) _ _); refine Ru.ifS ?_) | ((with_reducible show Ru _ _ (spliced (backTo _ (starEach (_ :: _) _))) _ _); refine Ru.spc ?_) | ((with_reducible show Ru _ _ (spliced (backTo _ (starEach [] _))) _ _); refine Ru.spn ?_))
    refine Ru.mul (fun _ => ?_) (mulOk (by decide) (by decide))
    repeat (first | ((with_reducible show Ru _ _ (eval (Expr.Name _ _) _) _ _); first | refine Ru.name (by assumption) (by first | assumption | rfl) ?_ | refine Ru.celln (by assumption) rfl ?_) | ((with_reducible show Ru _ _ (eval (Expr.Constant (Const.int _) _ _) _) _ _); refine Ru.intC fun _ => ?_) | ((with_reducible show Ru _ _ (eval (Expr.Constant Const.none _ _) _) _ _); refine Ru.noneC ?_) | ((with_reducible show Ru _ _ (eval (Expr.List _ _) _) _ _); refine Ru.lstE ?_) | ((with_reducible show Ru _ _ (eval (Expr.Tuple _ _ _) _) _ _); refine Ru.tupE ?_) | ((with_reducible show Ru _ _ (eval (Expr.BinOp _ _ _ _) _) _ _); refine Ru.bin ?_) | ((with_reducible show Ru _ _ (binaryOp Operator.Add (Value.int _ _) (Value.int _ _)) _ _); refine Ru.add fun _ => ?_) | ((with_reducible show Ru _ _ (binaryOp Operator.Mod (Value.int _ _) (Value.int _ _)) _ _); refine Ru.fmod (by decide) fun _ => ?_) | ((with_reducible show Ru _ _ (binaryOp Operator.FloorDiv (Value.int _ _) (Value.int _ _)) _ _); refine Ru.fdiv (by decide) (fun _ => ?_) (PyProof.noPylong_of_log2 (by decide))) | ((with_reducible show Ru _ _ (eval (Expr.Subscript _ _ _) _) _ _); refine Ru.sub ?_) | ((with_reducible show Ru _ _ (valueOrNone (evalOpt none _)) _ _); refine Ru.partN ?_) | ((with_reducible show Ru _ _ (valueOrNone (evalOpt (some _) _)) _ _); refine Ru.partE ?_) | ((with_reducible show Ru _ _ (eval (Expr.Slice _ _ _ _) _) _ _); refine Ru.slc ?_) | ((with_reducible show Ru _ _ (isTrue (Expr.Compare _ _ _ _) _ _) _ _); refine Ru.test ?_) | ((with_reducible show Ru _ _ (execs (_ :: _) _) _ _); refine Ru.cons ?_) | ((with_reducible show Ru _ _ (execs [] _) _ _); refine Ru.nil ?_) | ((with_reducible show Ru _ _ (exec (Stmt.If _ _ _ _) _) _ _); refine Ru.ifS ?_) | ((with_reducible show Ru _ _ (spliced (backTo _ (starEach (_ :: _) _))) _ _); refine Ru.spc ?_) | ((with_reducible show Ru _ _ (spliced (backTo _ (starEach [] _))) _ _); refine Ru.spn ?_))
    intro h₅ sl isl g₅ _
    have ecut : slicePick (List.toArray vn) (some (4 * (i : Int))) (some (4 * (i : Int) + 4)) none = List.toArray ((vn.drop (4 * i)).take 4) := by
      have := slicePick_run (List.toArray vn) (4 * i) (4 * i + 4) (by simp; omega) (by omega)
      rw [show ((4 * i : Nat) : Int) = 4 * (i : Int) by omega, show ((4 * i + 4 : Nat) : Int) = 4 * (i : Int) + 4 by omega] at this
      rw [this]
      simp
    refine Ru.cutL ((G₄.trans g₅).lst ln' List.not_mem_nil) (by omega) isl (.int _ _) (.int _ _) .none (by simp) ecut fun h₆ lc l₆ g₆ f₆ => ?_
    have ac := (an.drop (4 * i)).take 4
    have acl := ac.length
    have nc : (((nums ns).drop (4 * i)).take 4).length = 4 := by simp; omega
    refine Ru.iterL l₆.isList fun I₂ h₇ fI₂ it₂ g₇ => ?_
    have lI : lc ≠ I₂ := ne_of_fresh l₆ fI₂
    refine ⟨I₂, _, _, _, _, rfl, Going.list rm.hh lI it₂ (g₇.lst l₆.isList List.not_mem_nil) (by simp; omega), fI₂, g₇, ?_, ?_⟩
    · intro C2 fC2 j v₂ h' m' hj hv₂ n₈ G'
      have hj : j < (((nums ns).drop (4 * i)).take 4).length := by rw [← acl]; simpa using hj
      have hvv : ((vn.drop (4 * i)).take 4)[j]? = some v₂ := by simpa using hv₂
      obtain ⟨q, eq, tq, rfl⟩ := ac.getL hvv
      refine Ru.aName (Ru.store n₈ fun h₉ n₉ g₉ => ?_)
      have g₉ : Gr [C2] h' h₉ := g₉
      refine Ru.tests0 ?_
      rw [if_pos rfl]
      repeat (first | ((with_reducible show Ru _ _ (eval (Expr.Name _ _) _) _ _); first | refine Ru.name (by assumption) (by first | assumption | rfl) ?_ | refine Ru.celln (by assumption) rfl ?_) | ((with_reducible show Ru _ _ (eval (Expr.Constant (Const.int _) _ _) _) _ _); refine Ru.intC fun _ => ?_) | ((with_reducible show Ru _ _ (eval (Expr.Constant Const.none _ _) _) _ _); refine Ru.noneC ?_) | ((with_reducible show Ru _ _ (eval (Expr.List _ _) _) _ _); refine Ru.lstE ?_) | ((with_reducible show Ru _ _ (eval (Expr.Tuple _ _ _) _) _ _); refine Ru.tupE ?_) | ((with_reducible show Ru _ _ (eval (Expr.BinOp _ _ _ _) _) _ _); refine Ru.bin ?_) | ((with_reducible show Ru _ _ (binaryOp Operator.Add (Value.int _ _) (Value.int _ _)) _ _); refine Ru.add fun _ => ?_) | ((with_reducible show Ru _ _ (binaryOp Operator.Mod (Value.int _ _) (Value.int _ _)) _ _); refine Ru.fmod (by decide) fun _ => ?_) | ((with_reducible show Ru _ _ (binaryOp Operator.FloorDiv (Value.int _ _) (Value.int _ _)) _ _); refine Ru.fdiv (by decide) (fun _ => ?_) (PyProof.noPylong_of_log2 (by decide))) | ((with_reducible show Ru _ _ (eval (Expr.Subscript _ _ _) _) _ _); refine Ru.sub ?_) | ((with_reducible show Ru _ _ (valueOrNone (evalOpt none _)) _ _); refine Ru.partN ?_) | ((with_reducible show Ru _ _ (valueOrNone (evalOpt (some _) _)) _ _); refine Ru.partE ?_) | ((with_reducible show Ru _ _ (eval (Expr.Slice _ _ _ _) _) _ _); refine Ru.slc ?_) | ((with_reducible show Ru _ _ (isTrue (Expr.Compare _ _ _ _) _ _) _ _); refine Ru.test ?_) | ((with_reducible show Ru _ _ (execs (_ :: _) _) _ _); refine Ru.cons ?_) | ((with_reducible show Ru _ _ (execs [] _) _ _); refine Ru.nil ?_) | ((with_reducible show Ru _ _ (exec (Stmt.If _ _ _ _) _) _ _); refine Ru.ifS ?_) | ((with_reducible show Ru _ _ (spliced (backTo _ (starEach (_ :: _) _))) _ _); refine Ru.spc ?_) | ((with_reducible show Ru _ _ (spliced (backTo _ (starEach [] _))) _ _); refine Ru.spn ?_))
      refine Ru.newT (show 2 ≤ sizeLine by decide) fun hA tA gA => ?_
      exact ⟨⟨_, gA.ns n₉ List.not_mem_nil⟩, g₉.trans gA.nil, (q.fmod 6, q.fdiv 6), ⟨_, _, _, rfl, tA⟩, upto_succ _ _ eq⟩
    · intro h' D2 ws k2 lD2 al2 G' fD2
      have e : (List.toArray ((vn.drop (4 * i)).take 4)).size = (((nums ns).drop (4 * i)).take 4).length := by simpa using acl
      rw [e, upto_all] at al2
      have xp : PtL h' D2 (ptsOf ns i) := ⟨ws, k2, lD2, al2⟩
      have G' := (g₅.trans g₆).trans G'
      have GG := G₄.trans G'
      have UU := U.trans GG
      have pl := ptsOf_len ns i
      repeat (first | ((with_reducible show Ru _ _ (eval (Expr.Name _ _) _) _ _); first | refine Ru.name (by assumption) (by first | assumption | rfl) ?_ | refine Ru.celln (by assumption) rfl ?_) | ((with_reducible show Ru _ _ (eval (Expr.Constant (Const.int _) _ _) _) _ _); refine Ru.intC fun _ => ?_) | ((with_reducible show Ru _ _ (eval (Expr.Constant Const.none _ _) _) _ _); refine Ru.noneC ?_) | ((with_reducible show Ru _ _ (eval (Expr.List _ _) _) _ _); refine Ru.lstE ?_) | ((with_reducible show Ru _ _ (eval (Expr.Tuple _ _ _) _) _ _); refine Ru.tupE ?_) | ((with_reducible show Ru _ _ (eval (Expr.BinOp _ _ _ _) _) _ _); refine Ru.bin ?_) | ((with_reducible show Ru _ _ (binaryOp Operator.Add (Value.int _ _) (Value.int _ _)) _ _); refine Ru.add fun _ => ?_) | ((with_reducible show Ru _ _ (binaryOp Operator.Mod (Value.int _ _) (Value.int _ _)) _ _); refine Ru.fmod (by decide) fun _ => ?_) | ((with_reducible show Ru _ _ (binaryOp Operator.FloorDiv (Value.int _ _) (Value.int _ _)) _ _); refine Ru.fdiv (by decide) (fun _ => ?_) (PyProof.noPylong_of_log2 (by decide))) | ((with_reducible show Ru _ _ (eval (Expr.Subscript _ _ _) _) _ _); refine Ru.sub ?_) | ((with_reducible show Ru _ _ (valueOrNone (evalOpt none _)) _ _); refine Ru.partN ?_) | ((with_reducible show Ru _ _ (valueOrNone (evalOpt (some _) _)) _ _); refine Ru.partE ?_) | ((with_reducible show Ru _ _ (eval (Expr.Slice _ _ _ _) _) _ _); refine Ru.slc ?_) | ((with_reducible show Ru _ _ (isTrue (Expr.Compare _ _ _ _) _ _) _ _); refine Ru.test ?_) | ((with_reducible show Ru _ _ (execs (_ :: _) _) _ _); refine Ru.cons ?_) | ((with_reducible show Ru _ _ (execs [] _) _ _); refine Ru.nil ?_) | ((with_reducible show Ru _ _ (exec (Stmt.If _ _ _ _) _) _ _); refine Ru.ifS ?_) | ((with_reducible show Ru _ _ (spliced (backTo _ (starEach (_ :: _) _))) _ _); refine Ru.spc ?_) | ((with_reducible show Ru _ _ (spliced (backTo _ (starEach [] _))) _ _); refine Ru.spn ?_))
      refine ⟨UU.keeps _ _ hos, ?_⟩
      refine spec_corners W FS (rm.less (by decide)) UU xp (by omega) (fun p hp => (pts_ti ns i p hp).sm.bd) fun h₈ aS g₈ xS fS => ?_
      have GG := GG.trans g₈
      have l₈ := (G'.trans g₈).ls (g₄.ls l' (notIn_one DC)) (by simp)
      have aD : aS ≠ Dd := (ne_of_fresh (G'.ls (g₄.ls l' (notIn_one DC)) (by simp)) fS).symm
      have hal := al.length
      have hsl : sizeLine = 16777216 := rfl
      refine Ru.appL l₈ (by simp at hal ⊢; omega) fun h₉ n₉ l₉ g₉ => ?_
      refine ⟨_, as ++ [aS], n₉, ⟨g₉.ns ((G'.trans g₈).ns n₄ List.not_mem_nil) (notIn_one DC.symm), ?_, ?_, GG.past g₉ (not1' fD), rangeIter_keep [Dd] (i + 1) _ _ (rangeIter_keep [] (i + 1) _ _ (rangeIter_keep [Cc] (i + 1) _ _ st' g₄ (by simpa using CI)) (G'.trans g₈) (by simp)) g₉ (by simpa using DI)⟩⟩
      · have ee : (List.toArray (as.map Value.ref)).push (.ref aS) = ((as ++ [aS]).map Value.ref).toArray := by simp
        rw [← ee]; exact l₉
      · rw [List.take_add_one]
        refine All2.append ?_ ?_
        · refine al.mono fun b ps hb => ⟨?_, hb.2⟩
          have b1 := hb.1.gr g (ne_pt_rg hb.1 it₀)
          exact (((b1.gr g₄ (notIn_one (b1.ne_ns n'))).gr0 (G'.trans g₈)).gr g₉ (notIn_one hb.2))
        · have xS := xS.gr g₉ (notIn_one aD)
          rcases Nat.lt_or_ge i 1 with h1 | h1
          · have : i = 0 := by omega
            subst this
            exact .one ⟨xS, aD⟩
          · have : i = 1 := by omega
            subst this
            exact .one ⟨xS, aD⟩
  · rintro h' h'' ⟨m₁, as, nn, ⟨nC, lD, al, G, it'⟩⟩ g
    have nC := g.ns nC (notIn_one CI)
    have lD := g.ls lD (notIn_one DI)
    have G := G.past g (not1' fI)
    refine ⟨G, m₁, nC, fun h₉ n₉ g₉ => ?_⟩
    have g₉ : Gr [Cc, L] h'' h₉ := g₉
    have n₉ : h₉.Ns L _ := n₉
    obtain ⟨a₁, a₂, rfl, ⟨x₁, _⟩, x₂, _⟩ : ∃ a₁ a₂, as = [a₁, a₂] ∧ (PtL h' a₁ (cor (ptsOf ns 0)) ∧ a₁ ≠ Dd) ∧ (PtL h' a₂ (cor (ptsOf ns 1)) ∧ a₂ ≠ Dd) := by
      cases al with
      | cons r1 t => cases t with
        | cons r2 t => cases t with
          | nil => exact ⟨_, _, rfl, r1, r2⟩
    have nL := G.ns n List.not_mem_nil
    have out : ∀ {b : Addr} {ps : List Pt}, PtL h'' b ps → PtL h₉ b ps := fun p => p.gr g₉ (by
      intro hm
      rcases List.mem_cons.mp hm with rfl | hm
      · exact p.ne_ns nC rfl
      · rw [List.mem_singleton] at hm; subst hm
        exact p.ne_ns nL rfl)
    have x₁ := out (x₁.gr g (ne_pt_rg x₁ it'))
    have x₂ := out (x₂.gr g (ne_pt_rg x₂ it'))
    have DL : Dd ≠ L := by obtain ⟨o, _, _, ho, _⟩ := id n; exact (ne_of_fresh ho fD).symm
    have lD₉ := g₉.ls lD (by simp; exact ⟨DC, DL⟩)
    have G₉ : Gr [L] h h₉ := Gr.wash (G.nil) g₉ (by
      intro y hy
      rcases List.mem_cons.mp hy with rfl | hy
      · exact .inl fC
      · exact .inr hy)
    have U₉ := U.past G₉ (not1' (new 0 (by decide)))
    have cl : ∀ {b : Addr} {v : Option Value}, h.IsCell b v → h₉.IsCell b v := fun t => G₉.cell t (notIn_one (ne_ns_cell n t).symm)
    repeat (first | ((with_reducible show Ru _ _ (eval (Expr.Name _ _) _) _ _); first | refine Ru.name (by assumption) (by first | assumption | rfl) ?_ | refine Ru.celln (by assumption) rfl ?_) | ((with_reducible show Ru _ _ (eval (Expr.Constant (Const.int _) _ _) _) _ _); refine Ru.intC fun _ => ?_) | ((with_reducible show Ru _ _ (eval (Expr.Constant Const.none _ _) _) _ _); refine Ru.noneC ?_) | ((with_reducible show Ru _ _ (eval (Expr.List _ _) _) _ _); refine Ru.lstE ?_) | ((with_reducible show Ru _ _ (eval (Expr.Tuple _ _ _) _) _ _); refine Ru.tupE ?_) | ((with_reducible show Ru _ _ (eval (Expr.BinOp _ _ _ _) _) _ _); refine Ru.bin ?_) | ((with_reducible show Ru _ _ (binaryOp Operator.Add (Value.int _ _) (Value.int _ _)) _ _); refine Ru.add fun _ => ?_) | ((with_reducible show Ru _ _ (binaryOp Operator.Mod (Value.int _ _) (Value.int _ _)) _ _); refine Ru.fmod (by decide) fun _ => ?_) | ((with_reducible show Ru _ _ (binaryOp Operator.FloorDiv (Value.int _ _) (Value.int _ _)) _ _); refine Ru.fdiv (by decide) (fun _ => ?_) (PyProof.noPylong_of_log2 (by decide))) | ((with_reducible show Ru _ _ (eval (Expr.Subscript _ _ _) _) _ _); refine Ru.sub ?_) | ((with_reducible show Ru _ _ (valueOrNone (evalOpt none _)) _ _); refine Ru.partN ?_) | ((with_reducible show Ru _ _ (valueOrNone (evalOpt (some _) _)) _ _); refine Ru.partE ?_) | ((with_reducible show Ru _ _ (eval (Expr.Slice _ _ _ _) _) _ _); refine Ru.slc ?_) | ((with_reducible show Ru _ _ (isTrue (Expr.Compare _ _ _ _) _ _) _ _); refine Ru.test ?_) | ((with_reducible show Ru _ _ (execs (_ :: _) _) _ _); refine Ru.cons ?_) | ((with_reducible show Ru _ _ (execs [] _) _ _); refine Ru.nil ?_) | ((with_reducible show Ru _ _ (exec (Stmt.If _ _ _ _) _) _ _); refine Ru.ifS ?_) | ((with_reducible show Ru _ _ (spliced (backTo _ (starEach (_ :: _) _))) _ _); refine Ru.spc ?_) | ((with_reducible show Ru _ _ (spliced (backTo _ (starEach [] _))) _ _); refine Ru.spn ?_))
    refine Ru.noneIn lD₉.isList x₁ x₂ (by have := rm.u; omega) ⟨_, rfl, ?_⟩
    rw [if_neg (by simp)]
    refine Ru.nil ?_
    exact law_3 W rm U₉ new n₉ (cl c₂) (cl c₃) (cl c₄) rfl lD₉.isList x₁ x₂ F

theorem law_0 {ns : List Int} (W : World' hT mg mb) (rm : Rm 6 A) (U : Gr [] hT h) (new : ∀ i : Nat, i ≤ 4 → hT.get? (L + i) = none) {ls : Addr} {vs : List Value} (n : h.Ns L m) (es : m "script" = some (.ref ls)) {v₁ v₂ v₃ v₄ : Option Value} (c₁ : h.IsCell (L + 1) v₁) (c₂ : h.IsCell (L + 2) v₂) (c₃ : h.IsCell (L + 3) v₃) (c₄ : h.IsCell (L + 4) v₄)
    (il : h.IsList ls vs.toArray) (av : IntsAre vs ns) (hz : ns.length ≤ 63) (F : Facts (cor (ptsOf ns 0)) (cor (ptsOf ns 1)) M) : Ru c A (execs (bodyOf 12) (env12 L a cd)) h fun f h' => f = .ret (.bool true) ∧ Gr [] hT h' := by
  have vl := av.length
  show Ru c _ (execs (_ :: _) _) _ _
  (first | ((with_reducible show Ru _ _ (eval (Expr.Name _ _) _) _ _); first | refine Ru.name (by assumption) (by first | assumption | rfl) ?_ | refine Ru.celln (by assumption) rfl ?_) | ((with_reducible show Ru _ _ (eval (Expr.Constant (Const.int _) _ _) _) _ _); refine Ru.intC fun _ => ?_) | ((with_reducible show Ru _ _ (eval (Expr.Constant Const.none _ _) _) _ _); refine Ru.noneC ?_) | ((with_reducible show Ru _ _ (eval (Expr.List _ _) _) _ _); refine Ru.lstE ?_) | ((with_reducible show Ru _ _ (eval (Expr.Tuple _ _ _) _) _ _); refine Ru.tupE ?_) | ((with_reducible show Ru _ _ (eval (Expr.BinOp _ _ _ _) _) _ _); refine Ru.bin ?_) | ((with_reducible show Ru _ _ (binaryOp Operator.Add (Value.int _ _) (Value.int _ _)) _ _); refine Ru.add fun _ => ?_) | ((with_reducible show Ru _ _ (binaryOp Operator.Mod (Value.int _ _) (Value.int _ _)) _ _); refine Ru.fmod (by decide) fun _ => ?_) | ((with_reducible show Ru _ _ (binaryOp Operator.FloorDiv (Value.int _ _) (Value.int _ _)) _ _); refine Ru.fdiv (by decide) (fun _ => ?_) (PyProof.noPylong_of_log2 (by decide))) | ((with_reducible show Ru _ _ (eval (Expr.Subscript _ _ _) _) _ _); refine Ru.sub ?_) | ((with_reducible show Ru _ _ (valueOrNone (evalOpt none _)) _ _); refine Ru.partN ?_) | ((with_reducible show Ru _ _ (valueOrNone (evalOpt (some _) _)) _ _); refine Ru.partE ?_) | ((with_reducible show Ru _ _ (eval (Expr.Slice _ _ _ _) _) _ _); refine Ru.slc ?_) | ((with_reducible show Ru _ _ (isTrue (Expr.Compare _ _ _ _) _ _) _ _); refine Ru.test ?_) | ((with_reducible show Ru _ _ (execs (_ :: _) _) _ _); refine Ru.cons ?_) | ((with_reducible show Ru _ _ (execs [] _) _ _); refine Ru.nil ?_) | ((with_reducible show Ru _ _ (exec (Stmt.If _ _ _ _) _) _ _); refine Ru.ifS ?_) | ((with_reducible show Ru _ _ (spliced (backTo _ (starEach (_ :: _) _))) _ _); refine Ru.spc ?_) | ((with_reducible show Ru _ _ (spliced (backTo _ (starEach [] _))) _ _); refine Ru.spn ?_))
  refine Ru.asg ?_
  refine Ru.compG IsI IsI.stable (upto (fun n : Int => n.fmod 36) ((ns ++ List.replicate 8 0).take 8)) rfl (cl := []) rfl ?_
  repeat (first | ((with_reducible show Ru _ _ (eval (Expr.Name _ _) _) _ _); first | refine Ru.name (by assumption) (by first | assumption | rfl) ?_ | refine Ru.celln (by assumption) rfl ?_) | ((with_reducible show Ru _ _ (eval (Expr.Constant (Const.int _) _ _) _) _ _); refine Ru.intC fun _ => ?_) | ((with_reducible show Ru _ _ (eval (Expr.Constant Const.none _ _) _) _ _); refine Ru.noneC ?_) | ((with_reducible show Ru _ _ (eval (Expr.List _ _) _) _ _); refine Ru.lstE ?_) | ((with_reducible show Ru _ _ (eval (Expr.Tuple _ _ _) _) _ _); refine Ru.tupE ?_) | ((with_reducible show Ru _ _ (eval (Expr.BinOp _ _ _ _) _) _ _); refine Ru.bin ?_) | ((with_reducible show Ru _ _ (binaryOp Operator.Add (Value.int _ _) (Value.int _ _)) _ _); refine Ru.add fun _ => ?_) | ((with_reducible show Ru _ _ (binaryOp Operator.Mod (Value.int _ _) (Value.int _ _)) _ _); refine Ru.fmod (by decide) fun _ => ?_) | ((with_reducible show Ru _ _ (binaryOp Operator.FloorDiv (Value.int _ _) (Value.int _ _)) _ _); refine Ru.fdiv (by decide) (fun _ => ?_) (PyProof.noPylong_of_log2 (by decide))) | ((with_reducible show Ru _ _ (eval (Expr.Subscript _ _ _) _) _ _); refine Ru.sub ?_) | ((with_reducible show Ru _ _ (valueOrNone (evalOpt none _)) _ _); refine Ru.partN ?_) | ((with_reducible show Ru _ _ (valueOrNone (evalOpt (some _) _)) _ _); refine Ru.partE ?_) | ((with_reducible show Ru _ _ (eval (Expr.Slice _ _ _ _) _) _ _); refine Ru.slc ?_) | ((with_reducible show Ru _ _ (isTrue (Expr.Compare _ _ _ _) _ _) _ _); refine Ru.test ?_) | ((with_reducible show Ru _ _ (execs (_ :: _) _) _ _); refine Ru.cons ?_) | ((with_reducible show Ru _ _ (execs [] _) _ _); refine Ru.nil ?_) | ((with_reducible show Ru _ _ (exec (Stmt.If _ _ _ _) _) _ _); refine Ru.ifS ?_) | ((with_reducible show Ru _ _ (spliced (backTo _ (starEach (_ :: _) _))) _ _); refine Ru.spc ?_) | ((with_reducible show Ru _ _ (spliced (backTo _ (starEach [] _))) _ _); refine Ru.spn ?_))
  refine Ru.newL (show 1 ≤ sizeLine by decide) fun h₁ l₁ g₁ => ?_
  repeat (first | ((with_reducible show Ru _ _ (eval (Expr.Name _ _) _) _ _); first | refine Ru.name (by assumption) (by first | assumption | rfl) ?_ | refine Ru.celln (by assumption) rfl ?_) | ((with_reducible show Ru _ _ (eval (Expr.Constant (Const.int _) _ _) _) _ _); refine Ru.intC fun _ => ?_) | ((with_reducible show Ru _ _ (eval (Expr.Constant Const.none _ _) _) _ _); refine Ru.noneC ?_) | ((with_reducible show Ru _ _ (eval (Expr.List _ _) _) _ _); refine Ru.lstE ?_) | ((with_reducible show Ru _ _ (eval (Expr.Tuple _ _ _) _) _ _); refine Ru.tupE ?_) | ((with_reducible show Ru _ _ (eval (Expr.BinOp _ _ _ _) _) _ _); refine Ru.bin ?_) | ((with_reducible show Ru _ _ (binaryOp Operator.Add (Value.int _ _) (Value.int _ _)) _ _); refine Ru.add fun _ => ?_) | ((with_reducible show Ru _ _ (binaryOp Operator.Mod (Value.int _ _) (Value.int _ _)) _ _); refine Ru.fmod (by decide) fun _ => ?_) | ((with_reducible show Ru _ _ (binaryOp Operator.FloorDiv (Value.int _ _) (Value.int _ _)) _ _); refine Ru.fdiv (by decide) (fun _ => ?_) (PyProof.noPylong_of_log2 (by decide))) | ((with_reducible show Ru _ _ (eval (Expr.Subscript _ _ _) _) _ _); refine Ru.sub ?_) | ((with_reducible show Ru _ _ (valueOrNone (evalOpt none _)) _ _); refine Ru.partN ?_) | ((with_reducible show Ru _ _ (valueOrNone (evalOpt (some _) _)) _ _); refine Ru.partE ?_) | ((with_reducible show Ru _ _ (eval (Expr.Slice _ _ _ _) _) _ _); refine Ru.slc ?_) | ((with_reducible show Ru _ _ (isTrue (Expr.Compare _ _ _ _) _ _) _ _); refine Ru.test ?_) | ((with_reducible show Ru _ _ (execs (_ :: _) _) _ _); refine Ru.cons ?_) | ((with_reducible show Ru _ _ (execs [] _) _ _); refine Ru.nil ?_) | ((with_reducible show Ru _ _ (exec (Stmt.If _ _ _ _) _) _ _); refine Ru.ifS ?_) | ((with_reducible show Ru _ _ (spliced (backTo _ (starEach (_ :: _) _))) _ _); refine Ru.spc ?_) | ((with_reducible show Ru _ _ (spliced (backTo _ (starEach [] _))) _ _); refine Ru.spn ?_))
  rename_i tk₀ tk₁
  refine Ru.mulL (x := 8) l₁ (show 1 * 8 ≤ 1000 by decide) (by decide) fun h₂ l8 i₂ g₂ _ => ?_
  refine Ru.addLL ((g₁.trans g₂).lst il List.not_mem_nil) i₂.isList (by simp; omega) fun h₃ l₃ i₃ g₃ f₃ => ?_
  rw [lm_rep_flat_one] at i₃
  repeat (first | ((with_reducible show Ru _ _ (eval (Expr.Name _ _) _) _ _); first | refine Ru.name (by assumption) (by first | assumption | rfl) ?_ | refine Ru.celln (by assumption) rfl ?_) | ((with_reducible show Ru _ _ (eval (Expr.Constant (Const.int _) _ _) _) _ _); refine Ru.intC fun _ => ?_) | ((with_reducible show Ru _ _ (eval (Expr.Constant Const.none _ _) _) _ _); refine Ru.noneC ?_) | ((with_reducible show Ru _ _ (eval (Expr.List _ _) _) _ _); refine Ru.lstE ?_) | ((with_reducible show Ru _ _ (eval (Expr.Tuple _ _ _) _) _ _); refine Ru.tupE ?_) | ((with_reducible show Ru _ _ (eval (Expr.BinOp _ _ _ _) _) _ _); refine Ru.bin ?_) | ((with_reducible show Ru _ _ (binaryOp Operator.Add (Value.int _ _) (Value.int _ _)) _ _); refine Ru.add fun _ => ?_) | ((with_reducible show Ru _ _ (binaryOp Operator.Mod (Value.int _ _) (Value.int _ _)) _ _); refine Ru.fmod (by decide) fun _ => ?_) | ((with_reducible show Ru _ _ (binaryOp Operator.FloorDiv (Value.int _ _) (Value.int _ _)) _ _); refine Ru.fdiv (by decide) (fun _ => ?_) (PyProof.noPylong_of_log2 (by decide))) | ((with_reducible show Ru _ _ (eval (Expr.Subscript _ _ _) _) _ _); refine Ru.sub ?_) | ((with_reducible show Ru _ _ (valueOrNone (evalOpt none _)) _ _); refine Ru.partN ?_) | ((with_reducible show Ru _ _ (valueOrNone (evalOpt (some _) _)) _ _); refine Ru.partE ?_) | ((with_reducible show Ru _ _ (eval (Expr.Slice _ _ _ _) _) _ _); refine Ru.slc ?_) | ((with_reducible show Ru _ _ (isTrue (Expr.Compare _ _ _ _) _ _) _ _); refine Ru.test ?_) | ((with_reducible show Ru _ _ (execs (_ :: _) _) _ _); refine Ru.cons ?_) | ((with_reducible show Ru _ _ (execs [] _) _ _); refine Ru.nil ?_) | ((with_reducible show Ru _ _ (exec (Stmt.If _ _ _ _) _) _ _); refine Ru.ifS ?_) | ((with_reducible show Ru _ _ (spliced (backTo _ (starEach (_ :: _) _))) _ _); refine Ru.spc ?_) | ((with_reducible show Ru _ _ (spliced (backTo _ (starEach [] _))) _ _); refine Ru.spn ?_))
  intro h₄ sl isl g₄ _
  have a₃ := ((ints_all (h := h) av).append (all_rep (h := h) tk₀ 8)).take 8
  refine Ru.cutL (ws := (vs ++ List.replicate 8 (Value.int 0 tk₀)).take 8) (g₄.lst i₃.isList List.not_mem_nil) (by simp; omega) isl .none (.int _ _) .none (by simp) (by have := slicePick_upto' (List.toArray (vs ++ List.replicate 8 (Value.int 0 tk₀))) 8; simpa using this) fun h₅ lc l₅ g₅ f₅ => ?_
  have G₅ := (((g₁.trans g₂).trans g₃).trans g₄).trans g₅
  have al := a₃.length
  refine Ru.iterL l₅.isList fun I h₆ fI it g₆ => ?_
  have lI : lc ≠ I := ne_of_fresh l₅ fI
  refine ⟨I, _, _, _, _, rfl, Going.list rm.hh lI it (g₆.lst l₅.isList List.not_mem_nil) (by simp), fI, g₆, ?_, ?_⟩
  · intro Cc fC i v h' m' hi hv n' G
    have hi : i < ((vs ++ List.replicate 8 (Value.int 0 tk₀)).take 8).length := by simpa using hi
    have hvv : ((vs ++ List.replicate 8 (Value.int 0 tk₀)).take 8)[i]? = some v := by simpa using hv
    obtain ⟨q, eq, tq, rfl⟩ := a₃.getL hvv
    refine Ru.aName (Ru.store n' fun h₇ n₇ g₇ => ?_)
    have g₇ : Gr [Cc] h' h₇ := g₇
    refine Ru.tests0 ?_
    rw [if_pos rfl]
    repeat (first | ((with_reducible show Ru _ _ (eval (Expr.Name _ _) _) _ _); first | refine Ru.name (by assumption) (by first | assumption | rfl) ?_ | refine Ru.celln (by assumption) rfl ?_) | ((with_reducible show Ru _ _ (eval (Expr.Constant (Const.int _) _ _) _) _ _); refine Ru.intC fun _ => ?_) | ((with_reducible show Ru _ _ (eval (Expr.Constant Const.none _ _) _) _ _); refine Ru.noneC ?_) | ((with_reducible show Ru _ _ (eval (Expr.List _ _) _) _ _); refine Ru.lstE ?_) | ((with_reducible show Ru _ _ (eval (Expr.Tuple _ _ _) _) _ _); refine Ru.tupE ?_) | ((with_reducible show Ru _ _ (eval (Expr.BinOp _ _ _ _) _) _ _); refine Ru.bin ?_) | ((with_reducible show Ru _ _ (binaryOp Operator.Add (Value.int _ _) (Value.int _ _)) _ _); refine Ru.add fun _ => ?_) | ((with_reducible show Ru _ _ (binaryOp Operator.Mod (Value.int _ _) (Value.int _ _)) _ _); refine Ru.fmod (by decide) fun _ => ?_) | ((with_reducible show Ru _ _ (binaryOp Operator.FloorDiv (Value.int _ _) (Value.int _ _)) _ _); refine Ru.fdiv (by decide) (fun _ => ?_) (PyProof.noPylong_of_log2 (by decide))) | ((with_reducible show Ru _ _ (eval (Expr.Subscript _ _ _) _) _ _); refine Ru.sub ?_) | ((with_reducible show Ru _ _ (valueOrNone (evalOpt none _)) _ _); refine Ru.partN ?_) | ((with_reducible show Ru _ _ (valueOrNone (evalOpt (some _) _)) _ _); refine Ru.partE ?_) | ((with_reducible show Ru _ _ (eval (Expr.Slice _ _ _ _) _) _ _); refine Ru.slc ?_) | ((with_reducible show Ru _ _ (isTrue (Expr.Compare _ _ _ _) _ _) _ _); refine Ru.test ?_) | ((with_reducible show Ru _ _ (execs (_ :: _) _) _ _); refine Ru.cons ?_) | ((with_reducible show Ru _ _ (execs [] _) _ _); refine Ru.nil ?_) | ((with_reducible show Ru _ _ (exec (Stmt.If _ _ _ _) _) _ _); refine Ru.ifS ?_) | ((with_reducible show Ru _ _ (spliced (backTo _ (starEach (_ :: _) _))) _ _); refine Ru.spc ?_) | ((with_reducible show Ru _ _ (spliced (backTo _ (starEach [] _))) _ _); refine Ru.spn ?_))
    exact ⟨⟨_, n₇⟩, g₇, q.fmod 36, ⟨_, rfl⟩, upto_succ _ _ eq⟩
  · intro h' Dd ws k lD al2 G fD
    have e : (List.toArray ((vs ++ List.replicate 8 (Value.int 0 tk₀)).take 8)).size = ((ns ++ List.replicate 8 0).take 8).length := by simpa using al
    rw [e, upto_all] at al2
    have G' := G₅.trans G
    have k₁ := G'.cell c₁ List.not_mem_nil
    refine Ru.storeC k₁ rfl fun h₇ c₁ g₇ => ?_
    have n' := G'.ns n List.not_mem_nil
    have d12 : L + 2 ≠ L + 1 := by simp
    have d13 : L + 3 ≠ L + 1 := by simp
    have d14 : L + 4 ≠ L + 1 := by simp
    have U₇ := (U.trans G').past g₇ (not1' (new 1 (by decide)))
    have n₇ := g₇.ns n' (notIn_one (ne_ns_cell n' k₁))
    have lD₇ := g₇.ls lD (notIn_one (ne_ls_cell lD.isList k₁))
    exact law_1 W rm U₇ new n₇ c₁ (g₇.cell (G'.cell c₂ List.not_mem_nil) (notIn_one d12)) (g₇.cell (G'.cell c₃ List.not_mem_nil) (notIn_one d13)) (g₇.cell (G'.cell c₄ List.not_mem_nil) (notIn_one d14)) lD₇.isList al2 F
end
end Mink

/-! PlA -/
namespace Mink
open PySem PySem.W PyProof.Rows PySem.Calls

noncomputable def sb (p q : Pt) : Pt := (p.1 - q.1, p.2 - q.2)
noncomputable def ad (p q : Pt) : Pt := (p.1 + q.1, p.2 + q.2)
noncomputable def ng (p : Pt) : Pt := (-p.1, -p.2)
noncomputable def cr (u v : Pt) : Int := u.1 * v.2 - u.2 * v.1
noncomputable def pos (v : Pt) : Prop := 0 < v.1 ∨ (v.1 = 0 ∧ 0 < v.2)
theorem lt_pos {p q : Pt} : Lt p q ↔ pos (sb q p) := by unfold Lt pos sb; simp only; omega
theorem crs_cr (p q r : Pt) : crs p q r = cr (sb q p) (sb r p) := rfl

theorem nn_of_mul {a b : Int} (h : 0 < a) (h2 : 0 ≤ a * b) : 0 ≤ b := by
  rcases Int.lt_or_le b 0 with hb | hb
  · have := Int.mul_neg_of_pos_of_neg h hb; omega
  · exact hb
theorem pos_of_mul {a b : Int} (h : 0 < a) (h2 : 0 < a * b) : 0 < b := by
  rcases Int.lt_or_le 0 b with hb | hb
  · exact hb
  · have := Int.mul_nonpos_of_nonneg_of_nonpos (Int.le_of_lt h) hb; omega
theorem pos.nn {v : Pt} (h : pos v) : 0 ≤ v.1 := by unfold pos at h; omega
theorem cr_mid (a b c : Pt) : b.1 * cr a c = a.1 * cr b c + c.1 * cr a b := by unfold cr; grind
theorem hp {a b c : Pt} (ha : pos a) (hb : pos b) (hc : pos c) (h1 : 0 ≤ cr a b) (h2 : 0 ≤ cr b c) : 0 ≤ cr a c := by
  rcases hb with hb | ⟨hb, hb2⟩
  · refine nn_of_mul hb ?_
    rw [cr_mid]
    have := Int.mul_nonneg ha.nn h2
    have := Int.mul_nonneg hc.nn h1
    omega
  · unfold cr at *
    rw [hb] at h1 h2
    have hc1 : c.1 = 0 := by
      have := hc.nn
      rcases Int.lt_or_le 0 c.1 with h | h
      · have := Int.mul_pos hb2 h; omega
      · omega
    have hc2 : 0 < c.2 := by unfold pos at hc; omega
    rw [hc1]
    have := Int.mul_nonneg ha.nn (Int.le_of_lt hc2)
    omega
theorem hp1 {a b c : Pt} (ha : pos a) (hb : pos b) (hc : pos c) (h1 : 0 < cr a b) (h2 : 0 ≤ cr b c) : 0 < cr a c := by
  have ha1 : 0 < a.1 := by
    rcases ha with h | ⟨h, h'⟩
    · exact h
    · unfold cr at h1
      rw [h] at h1
      have := Int.mul_nonneg (Int.le_of_lt h') hb.nn
      omega
  rcases hb with hb | ⟨hb, hb2⟩
  · refine pos_of_mul hb ?_
    rw [cr_mid]
    have q1 := Int.mul_nonneg (Int.le_of_lt ha1) h2
    rcases hc with hc | ⟨hc, hc2⟩
    · have := Int.mul_pos hc h1; omega
    · have : 0 < cr b c := by unfold cr; rw [hc]; have := Int.mul_pos hb hc2; omega
      have := Int.mul_pos ha1 this
      rw [hc]; omega
  · unfold cr at *
    rw [hb] at h1 h2
    have hc1 : c.1 = 0 := by
      have := hc.nn
      rcases Int.lt_or_le 0 c.1 with h | h
      · have := Int.mul_pos hb2 h; omega
      · omega
    have hc2 : 0 < c.2 := by unfold pos at hc; omega
    rw [hc1]
    have := Int.mul_pos ha1 hc2
    omega
theorem hp2 {a b c : Pt} (ha : pos a) (hb : pos b) (hc : pos c) (h1 : 0 ≤ cr a b) (h2 : 0 < cr b c) : 0 < cr a c := by
  have hb1 : 0 < b.1 := by
    rcases hb with h | ⟨h, h'⟩
    · exact h
    · unfold cr at h2
      rw [h] at h2
      have := Int.mul_nonneg (Int.le_of_lt h') hc.nn
      omega
  refine pos_of_mul hb1 ?_
  rw [cr_mid]
  have q1 := Int.mul_nonneg hc.nn h1
  rcases ha with ha | ⟨ha, ha2⟩
  · have := Int.mul_pos ha h2; omega
  · have : 0 < cr a b ∨ cr a b ≤ 0 := by omega
    unfold cr at h1
    rw [ha] at h1
    have := Int.mul_pos ha2 hb1
    omega
theorem cr_swap (a b : Pt) : cr a b = - cr b a := by unfold cr; grind
theorem cr_self (a : Pt) : cr a a = 0 := by unfold cr; grind
theorem cr_zero (a : Pt) : cr a (0, 0) = 0 := by unfold cr; grind
/-- parallel ones have the same sides -/
theorem par {a b c : Pt} (ha : pos a) (hb : pos b) (h : cr a b = 0) (h1 : 0 < cr a c) : 0 < cr b c := by
  rcases ha with ha | ⟨ha, ha2⟩
  · refine pos_of_mul ha ?_
    have e : a.1 * cr b c = b.1 * cr a c + c.1 * - cr a b := by unfold cr; grind
    rw [e, h]
    have hb1 : 0 < b.1 := by
      rcases hb with hb | ⟨hb, hb2⟩
      · exact hb
      · unfold cr at h; rw [hb] at h; have := Int.mul_pos ha hb2; omega
    have := Int.mul_pos hb1 h1
    omega
  · unfold cr at *
    rw [ha] at h h1
    have hb1 : b.1 = 0 := by
      rcases Int.lt_or_le 0 b.1 with q | q
      · have := Int.mul_pos ha2 q; omega
      · have := hb.nn; omega
    have hb2 : 0 < b.2 := by unfold pos at hb; omega
    have hc : c.1 < 0 := by
      rcases Int.lt_or_le c.1 0 with q | q
      · exact q
      · have := Int.mul_nonneg (Int.le_of_lt ha2) q; omega
    rw [hb1]
    have := Int.mul_neg_of_pos_of_neg hb2 hc
    omega
end Mink

/-! PlB -/
namespace Mink
open PySem PySem.W PyProof.Rows PySem.Calls

theorem crs_rot (p q r : Pt) : crs p q r = crs q r p := by unfold crs; grind
theorem crs_sw (p q r : Pt) : crs p q r = - crs p r q := by unfold crs; grind
theorem crs_l (p r : Pt) : crs p p r = 0 := by unfold crs; grind
theorem crs_r (p q : Pt) : crs p q q = 0 := by unfold crs; grind
theorem crs_m (p q : Pt) : crs p q p = 0 := by unfold crs; grind
theorem Lt.trans {p q r : Pt} (a : Lt p q) (b : Lt q r) : Lt p r := by unfold Lt at *; omega
theorem Lt.trans_le {p q r : Pt} (a : Lt p q) (b : Le q r) : Lt p r := by unfold Lt Le at *; omega
theorem Lt.irrefl {p : Pt} (a : Lt p p) : False := by unfold Lt at a; omega
theorem Le.cases {p q : Pt} (h : Le p q) : p = q ∨ Lt p q := by
  by_cases e : p = q
  · exact .inl e
  · right
    have : ¬ (p.1 = q.1 ∧ p.2 = q.2) := fun h => e (Prod.ext h.1 h.2)
    unfold Le at h; unfold Lt; omega
theorem tricho (p q : Pt) : p = q ∨ Lt p q ∨ Lt q p := by
  rcases le_total p q with h | h
  · rcases h.cases with h | h
    · exact .inl h
    · exact .inr (.inl h)
  · rcases h.cases with h | h
    · exact .inl h.symm
    · exact .inr (.inr h)
theorem Le.not_lt {p q : Pt} (h : Le p q) (h2 : Lt q p) : False := by unfold Le at h; unfold Lt at h2; omega

/-- the half plane's order, points to the right of one -/
theorem ahead {a p b x : Pt} (h1 : Lt a p) (h2 : Lt a b) (h3 : Lt a x) (h4 : 0 ≤ crs a p b) (h5 : 0 ≤ crs a b x) : 0 ≤ crs a p x := hp (lt_pos.mp h1) (lt_pos.mp h2) (lt_pos.mp h3) h4 h5
/-- points to the left of one -/
theorem behind {x b a p : Pt} (h1 : Lt x p) (h2 : Lt b p) (h3 : Lt a p) (h4 : 0 ≤ crs a p b) (h5 : 0 ≤ crs b p x) : 0 ≤ crs a p x := by
  have e1 : cr (sb p x) (sb p b) = crs b p x := by unfold cr sb crs; grind
  have e2 : cr (sb p b) (sb p a) = crs a p b := by unfold cr sb crs; grind
  have e3 : cr (sb p x) (sb p a) = crs a p x := by unfold cr sb crs; grind
  rw [← e3]
  exact hp (lt_pos.mp h1) (lt_pos.mp h2) (lt_pos.mp h3) (by omega) (by omega)
/-- three steps to the right -/
theorem along {a b c d : Pt} (h1 : Lt a b) (h2 : Lt b c) (h3 : Lt b d) (h4 : 0 ≤ crs a b c) (h5 : 0 ≤ crs b c d) : 0 ≤ crs a b d := by
  have e1 : cr (sb b a) (sb c b) = crs a b c := by unfold cr sb crs; grind
  have e2 : cr (sb c b) (sb d b) = crs b c d := by unfold cr sb crs; grind
  have e3 : cr (sb b a) (sb d b) = crs a b d := by unfold cr sb crs; grind
  rw [← e3]
  exact hp (lt_pos.mp h1) (lt_pos.mp h2) (lt_pos.mp h3) (by omega) (by omega)
/-- round a corner -/
theorem round {x a b p : Pt} (h1 : Lt x b) (h2 : Lt a b) (h3 : Lt b p) (h4 : 0 ≤ crs a b x) (h5 : 0 ≤ crs a b p) : 0 ≤ crs b p x := by
  have e1 : cr (sb b x) (sb b a) = crs a b x := by unfold cr sb crs; grind
  have e2 : cr (sb b a) (sb p b) = crs a b p := by unfold cr sb crs; grind
  have e3 : cr (sb b x) (sb p b) = crs b p x := by unfold cr sb crs; grind
  rw [← e3]
  exact hp (lt_pos.mp h1) (lt_pos.mp h2) (lt_pos.mp h3) (by omega) (by omega)

noncomputable def Sup (ps : List Pt) (a b : Pt) : Prop := ∀ x ∈ ps, 0 ≤ crs a b x
noncomputable def Turn (b : Pt) : List Pt → Pt → Prop
  | [], _ => True
  | a :: _, p => 0 < crs a b p
/-- a lower chain, its last corner first -/
noncomputable def Dn (ps : List Pt) : List Pt → Prop
  | [] => False
  | [b] => b ∈ ps ∧ ∀ x ∈ ps, Le b x
  | b :: a :: st => b ∈ ps ∧ Lt a b ∧ Sup ps a b ∧ Turn a st b ∧ Dn ps (a :: st)
theorem Dn.mem {ps st : List Pt} {b : Pt} (d : Dn ps (b :: st)) : b ∈ ps := by
  cases st with
  | nil => exact d.1
  | cons => exact d.1
theorem Dn.tail {ps st : List Pt} {b a : Pt} (d : Dn ps (b :: a :: st)) : Dn ps (a :: st) := d.2.2.2.2
theorem Dn.all {ps : List Pt} : ∀ {st : List Pt}, Dn ps st → ∀ x ∈ st, x ∈ ps
  | [b], d, x, hx => by rw [List.mem_singleton] at hx; subst hx; exact d.1
  | b :: a :: st, d, x, hx => by
    rcases List.mem_cons.mp hx with rfl | hx
    · exact d.1
    · exact d.tail.all x hx
theorem Dn.of {ps ps' : List Pt} (e : ∀ x, x ∈ ps ↔ x ∈ ps') : ∀ {st : List Pt}, Dn ps st → Dn ps' st
  | [b], d => ⟨(e _).mp d.1, fun x hx => d.2 x ((e _).mpr hx)⟩
  | b :: a :: st, d => ⟨(e _).mp d.1, d.2.1, fun x hx => d.2.2.1 x ((e _).mpr hx), d.2.2.2.1, d.tail.of e⟩

theorem pop_ok {ps : List Pt} {p : Pt} (hle : ∀ x ∈ ps, Le x p) : ∀ (st : List Pt) (b : Pt), Dn ps (b :: st) → (∀ x ∈ ps, Lt b x → 0 ≤ crs b p x) →
    ∃ b' st', popW (b :: st) p = b' :: st' ∧ Dn ps (b' :: st') ∧ (∀ x ∈ ps, Lt b' x → 0 ≤ crs b' p x) ∧ Turn b' st' p
  | [], b, d, inv => ⟨b, [], rfl, d, inv, trivial⟩
  | a :: st, b, d, inv => by
    by_cases hc : crs a b p ≤ 0
    · rw [popW, if_pos hc]
      refine pop_ok hle st a d.tail fun x hx hax => ?_
      obtain ⟨hb, hab, sup, _, _⟩ := d
      have hbp := hle b hb
      have hap := hab.trans_le hbp
      have h0 : 0 ≤ crs a p b := by rw [crs_sw]; omega
      rcases tricho x b with rfl | hxb | hbx
      · exact h0
      · exact ahead hap hab hax h0 (sup x hx)
      · rcases (hle x hx).cases with rfl | hxp
        · rw [crs_r]; omega
        · exact behind hxp (hbx.trans hxp) hap h0 (inv x hx hbx)
    · rw [popW, if_neg hc]
      exact ⟨b, a :: st, rfl, d, inv, by show 0 < crs a b p; omega⟩
theorem Dn.grow {ps : List Pt} {p : Pt} : ∀ {st : List Pt} {b : Pt}, Dn ps (b :: st) → Le b p → (∀ a st', st = a :: st' → 0 ≤ crs a b p) → Dn (p :: ps) (b :: st)
  | [], b, d, h, _ => ⟨List.mem_cons_of_mem _ d.1, fun x hx => by
    rcases List.mem_cons.mp hx with rfl | hx
    · exact h
    · exact d.2 x hx⟩
  | a :: st, b, d, h, t => by
    obtain ⟨hb, hab, sup, tn, dt⟩ := d
    have h0 := t a st rfl
    refine ⟨List.mem_cons_of_mem _ hb, hab, fun x hx => ?_, tn, dt.grow (hab.trans_le h).le fun a' st' e => ?_⟩
    · rcases List.mem_cons.mp hx with rfl | hx
      · exact h0
      · exact sup x hx
    · subst e
      have ha : Lt a' a := dt.2.1
      have tn : 0 < crs a' a b := tn
      exact along ha hab (hab.trans_le h) (by omega) h0
theorem push_ok {ps st : List Pt} {b p : Pt} (d : Dn ps (b :: st)) (hb : ∀ x ∈ ps, Le x b) (hle : ∀ x ∈ ps, Le x p) : ∃ st', push (b :: st) p = p :: st' ∧ Dn (p :: ps) (p :: st') := by
  obtain ⟨b', st', e, d', inv, tn⟩ := pop_ok hle st b d fun x hx h => ((hb x hx).not_lt h).elim
  have hbp := hle b' d'.mem
  unfold push
  rw [e]
  simp only
  have gr : Dn (p :: ps) (b' :: st') := d'.grow hbp fun a st'' e => by
    subst e
    have : 0 < crs a b' p := tn
    omega
  by_cases hb' : b' = p
  · subst hb'
    rw [if_pos rfl]
    exact ⟨st', rfl, gr⟩
  · rw [if_neg hb']
    have hlt : Lt b' p := hbp.cases.resolve_left hb'
    refine ⟨b' :: st', rfl, List.mem_cons_self, hlt, fun x hx => ?_, tn, gr⟩
    rcases List.mem_cons.mp hx with rfl | hx
    · rw [crs_r]; omega
    · rcases tricho x b' with rfl | h | h
      · rw [crs_m]; omega
      · cases st' with
        | nil => exact ((d'.2 x hx).not_lt h).elim
        | cons a st'' =>
          have tn : 0 < crs a b' p := tn
          exact round h d'.2.1 hlt (d'.2.2.1 x hx) (by omega)
      · exact inv x hx h

noncomputable def lo (L : List Pt) : List Pt := (srt L).foldl push []
theorem pushes_ok : ∀ (qs ps st : List Pt) (b : Pt), Dn ps (b :: st) → (∀ x ∈ ps, Le x b) → SortedP (b :: qs) → ∃ b' st', qs.foldl push (b :: st) = b' :: st' ∧ Dn (qs.reverse ++ ps) (b' :: st') ∧ ∀ x ∈ qs.reverse ++ ps, Le x b'
  | [], ps, st, b, d, hb, _ => ⟨b, st, rfl, d, hb⟩
  | q :: qs, ps, st, b, d, hb, s => by
    have hbq : Le b q := (List.pairwise_cons.mp s).1 q (by simp)
    obtain ⟨st', e, d'⟩ := push_ok (p := q) d hb fun x hx => (hb x hx).trans hbq
    obtain ⟨b'', st'', e2, d2, h2⟩ := pushes_ok qs (q :: ps) st' q d' (fun x hx => by
      rcases List.mem_cons.mp hx with rfl | hx
      · exact Le.refl _
      · exact (hb x hx).trans hbq) (List.pairwise_cons.mp s).2
    refine ⟨b'', st'', ?_, ?_, ?_⟩
    · rw [List.foldl_cons, e, e2]
    · simpa using d2
    · simpa using h2
theorem lo_ok {L : List Pt} (h : L ≠ []) : ∃ b st, lo L = b :: st ∧ Dn L (b :: st) ∧ ∀ x ∈ L, Le x b := by
  have hp := srt_perm L
  have hs := srt_sorted L
  cases e : srt L with
  | nil => rw [e] at hp; exact absurd hp.symm.eq_nil h
  | cons p qs =>
    rw [e] at hp hs
    obtain ⟨b, st, e1, d, hb⟩ := pushes_ok qs [p] [] p ⟨by simp, fun x hx => by rw [List.mem_singleton] at hx; subst hx; exact Le.refl _⟩ (fun x hx => by rw [List.mem_singleton] at hx; subst hx; exact Le.refl _) hs
    have hm : ∀ x, x ∈ qs.reverse ++ [p] ↔ x ∈ L := fun x => by rw [← hp.mem_iff]; simp [or_comm]
    refine ⟨b, st, ?_, d.of hm, fun x hx => hb x ((hm x).mpr hx)⟩
    unfold lo
    rw [e, List.foldl_cons]
    exact e1
end Mink

/-! PlC -/
namespace Mink
open PySem PySem.W PyProof.Rows PySem.Calls

theorem stick {a u p q : Pt} (h1 : Lt u p) (h2 : Lt p q) (h0 : crs p q u = 0) (h : 0 < crs a p q) : crs a p u < 0 := by
  have e0 : cr (sb q p) (sb p u) = 0 := by have : cr (sb q p) (sb p u) = - crs p q u := by { unfold cr sb crs; grind }; omega
  have e1 : 0 < cr (sb q p) (sb a p) := by have : cr (sb q p) (sb a p) = crs a p q := by { unfold cr sb crs; grind }; omega
  have := par (lt_pos.mp h2) (lt_pos.mp h1) e0 e1
  have e2 : cr (sb p u) (sb a p) = - crs a p u := by unfold cr sb crs; grind
  omega
theorem next_eq {ps s s' : List Pt} {a a' b : Pt} (d : Dn ps (b :: a :: s)) (d' : Dn ps (b :: a' :: s')) (h : Lt a a') : False := by
  have h1 := d.2.2.1 a' d'.tail.mem
  have h2 := d'.2.2.1 a d.tail.mem
  have h0 : crs a' b a = 0 := by
    have : crs a' b a = - crs a b a' := by unfold crs; grind
    omega
  cases s' with
  | nil => exact (d'.tail.2 a d.tail.mem).not_lt h
  | cons a'' s'' =>
    have tn : 0 < crs a'' a' b := d'.2.2.2.1
    have := stick h d'.2.1 h0 tn
    have := d'.tail.2.2.1 a d.tail.mem
    omega
theorem Dn.uniq {ps : List Pt} : ∀ (st st' : List Pt) (b : Pt), Dn ps (b :: st) → Dn ps (b :: st') → st = st'
  | [], [], _, _, _ => rfl
  | [], a :: _, b, d, d' => ((d.2 a d'.tail.mem).not_lt d'.2.1).elim
  | a :: _, [], b, d, d' => ((d'.2 a d.tail.mem).not_lt d.2.1).elim
  | a :: s, a' :: s', b, d, d' => by
    have e : a = a' := by
      rcases tricho a a' with h | h | h
      · exact h
      · exact (next_eq d d' h).elim
      · exact (next_eq d' d h).elim
    subst e
    rw [Dn.uniq s s' a d.tail d'.tail]
theorem lo_eq {L st : List Pt} {b : Pt} (d : Dn L (b :: st)) (hb : ∀ x ∈ L, Le x b) : lo L = b :: st := by
  obtain ⟨b', st', e, d', hb'⟩ := lo_ok (List.ne_nil_of_mem d.mem)
  have : b' = b := (hb b' d'.mem).antisymm (hb' b d.mem)
  subst this
  rw [e, Dn.uniq st' st b' d' d]

/-! maps -/
structure Nice (t : Pt → Pt) : Prop where
  le : ∀ a b p, crs (t a) (t b) (t p) ≤ 0 ↔ crs a b p ≤ 0
  inj : ∀ a b, t a = t b → a = b
theorem Nice.pop {t : Pt → Pt} (n : Nice t) (st : List Pt) (p : Pt) : popW (st.map t) (t p) = (popW st p).map t := by
  fun_induction popW st p with
  | case1 a b st p h ih =>
    simp only [List.map_cons] at ih ⊢
    rw [popW, if_pos ((n.le _ _ _).mpr h)]
    exact ih
  | case2 a b st p h =>
    simp only [List.map_cons]
    rw [popW, if_neg (fun q => h ((n.le _ _ _).mp q))]
  | case3 st p h =>
    match st, h with
    | [], _ => rfl
    | [a], _ => rfl
    | b :: a :: st, h => exact absurd rfl (h b a st)
theorem Nice.push {t : Pt → Pt} (n : Nice t) (st : List Pt) (p : Pt) : push (st.map t) (t p) = (push st p).map t := by
  unfold Mink.push
  rw [n.pop]
  cases popW st p with
  | nil => rfl
  | cons b st' =>
    simp only [List.map_cons]
    by_cases h : b = p
    · rw [if_pos h, if_pos (by rw [h])]; rfl
    · rw [if_neg h, if_neg (fun e => h (n.inj _ _ e))]; rfl
theorem Nice.pushes {t : Pt → Pt} (n : Nice t) : ∀ (qs st : List Pt), (qs.map t).foldl Mink.push (st.map t) = (qs.foldl Mink.push st).map t
  | [], _ => rfl
  | q :: qs, st => by rw [List.map_cons, List.foldl_cons, n.push, n.pushes qs, List.foldl_cons]
theorem Nice.half {t : Pt → Pt} (n : Nice t) (qs : List Pt) : half (qs.map t) = (half qs).map t := by
  unfold Mink.half
  have := n.pushes qs []
  rw [List.map_nil] at this
  rw [this, List.map_reverse]
theorem Nice.corners {t : Pt → Pt} (n : Nice t) (qs : List Pt) : cornersOf (qs.map t) = (cornersOf qs).map t := by
  have e : (Mink.half (qs.map t)).dropLast ++ (Mink.half (qs.map t).reverse).dropLast = ((Mink.half qs).dropLast ++ (Mink.half qs.reverse).dropLast).map t := by
    rw [← List.map_reverse, n.half, n.half, List.map_append, List.map_dropLast, List.map_dropLast]
  unfold cornersOf
  simp only
  rw [e]
  by_cases h : (Mink.half qs).dropLast ++ (Mink.half qs.reverse).dropLast = []
  · rw [if_neg (by rw [h]; simp), if_neg (by rw [h]; simp), List.map_take]
  · rw [if_pos (fun q => h (List.map_eq_nil_iff.mp q)), if_pos h]
theorem srt_map {t : Pt → Pt} (m : ∀ a b, Le a b → Le (t a) (t b)) (L : List Pt) : srt (L.map t) = (srt L).map t := by
  refine (srt_eq ?_ ((srt_perm L).map t)).symm
  exact List.Pairwise.map t (fun a b h => m a b h) (srt_sorted L)
theorem cor_map {t : Pt → Pt} (n : Nice t) (m : ∀ a b, Le a b → Le (t a) (t b)) (L : List Pt) : cor (L.map t) = (cor L).map t := by
  unfold cor
  rw [srt_map m, n.corners]
theorem nice_ng : Nice ng := ⟨fun a b p => by
    have : crs (ng a) (ng b) (ng p) = crs a b p := by unfold crs ng; grind
    rw [this], fun a b h => by
    unfold ng at h
    simp only [Prod.mk.injEq] at h
    exact Prod.ext (by omega) (by omega)⟩
theorem ng_ng (p : Pt) : ng (ng p) = p := by unfold ng; simp
theorem ng_le {a b : Pt} (h : Le a b) : Le (ng b) (ng a) := by unfold Le ng at *; simp only; omega
theorem ng_lt {a b : Pt} (h : Lt a b) : Lt (ng b) (ng a) := by unfold Lt ng at *; simp only; omega
theorem ng_crs (a b p : Pt) : crs (ng a) (ng b) (ng p) = crs a b p := by unfold crs ng; grind
theorem map_ng_ng (L : List Pt) : (L.map ng).map ng = L := by rw [List.map_map]; simp [Function.comp_def, ng_ng]
theorem srt_ng (L : List Pt) : srt (L.map ng) = (srt L).reverse.map ng := by
  refine (srt_eq ?_ (((List.reverse_perm _).trans (srt_perm L)).map ng)).symm
  refine List.Pairwise.map ng (R := fun a b => Le b a) (fun a b h => ng_le h) ?_
  rw [List.pairwise_reverse]
  exact srt_sorted L
noncomputable def up (L : List Pt) : List Pt := lo (L.map ng)
theorem half_lo (L : List Pt) : half (srt L) = (lo L).reverse := rfl
theorem half_up (L : List Pt) : half (srt L).reverse = ((up L).map ng).reverse := by
  have h : (up L).reverse = half ((srt L).reverse.map ng) := by unfold up lo Mink.half; rw [srt_ng]
  rw [nice_ng.half] at h
  rw [← List.map_reverse, h, map_ng_ng]
/-- the corners, told by the two chains -/
theorem cor_eq (L : List Pt) : cor L = if (lo L).tail.reverse ++ ((up L).map ng).tail.reverse ≠ [] then (lo L).tail.reverse ++ ((up L).map ng).tail.reverse else (srt L).take 1 := by
  have dl : ∀ l : List Pt, l.reverse.dropLast = l.tail.reverse := fun l => by cases l <;> simp
  unfold cor cornersOf
  simp only
  rw [half_lo, half_up, dl, dl]
end Mink

/-! PlD -/
namespace Mink
open PySem PySem.W PyProof.Rows PySem.Calls

theorem Dn.bot {ps : List Pt} : ∀ {st : List Pt} {b : Pt}, Dn ps (b :: st) → (st = [] ∧ ∀ x ∈ ps, Le b x) ∨ ∃ s a, st = s ++ [a] ∧ a ∈ ps ∧ ∀ x ∈ ps, Le a x
  | [], b, d => .inl ⟨rfl, d.2⟩
  | a :: st, b, d => by
    rcases d.tail.bot with ⟨rfl, h⟩ | ⟨s, a', rfl, ha, h⟩
    · exact .inr ⟨[], a, rfl, d.tail.mem, h⟩
    · exact .inr ⟨a :: s, a', rfl, ha, h⟩
theorem Dn.lone {ps st : List Pt} {b : Pt} (d : Dn ps (b :: st)) (h : ∀ x ∈ ps, x = b) : st = [] := by
  cases st with
  | nil => rfl
  | cons a st =>
    have e := h a d.tail.mem
    have := d.2.1
    rw [e] at this
    exact this.irrefl.elim
theorem mem_ng {L : List Pt} {x : Pt} : ng x ∈ L.map ng ↔ x ∈ L := by
  rw [List.mem_map]
  constructor
  · rintro ⟨y, hy, e⟩
    rw [← ng_ng x, ← e, ng_ng]; exact hy
  · exact fun h => ⟨x, h, rfl⟩
theorem mem_ng' {L : List Pt} {x : Pt} : x ∈ L.map ng ↔ ng x ∈ L := by rw [← mem_ng (x := ng x), ng_ng]
/-- the two chains and the corners -/
theorem chains {L : List Pt} (h : L ≠ []) :
    (∃ a, a ∈ L ∧ (∀ x ∈ L, x = a) ∧ lo L = [a] ∧ up L = [ng a] ∧ cor L = [a]) ∨
    (∃ a z s s', a ∈ L ∧ z ∈ L ∧ Lt a z ∧ (∀ x ∈ L, Le a x ∧ Le x z) ∧ lo L = z :: (s ++ [a]) ∧ up L = ng a :: (s' ++ [ng z]) ∧ Dn L (z :: (s ++ [a])) ∧ Dn (L.map ng) (ng a :: (s' ++ [ng z])) ∧ cor L = (a :: s.reverse) ++ (z :: (s'.map ng).reverse)) := by
  obtain ⟨z, st, e, d, hz⟩ := lo_ok h
  obtain ⟨b', st', e', d', hb'⟩ := lo_ok (L := L.map ng) (by simpa using h)
  obtain ⟨a, rfl⟩ : ∃ a, b' = ng a := ⟨ng b', (ng_ng _).symm⟩
  have ha : a ∈ L := mem_ng.mp d'.mem
  have hle : ∀ x ∈ L, Le a x := fun x hx => by
    have := ng_le (hb' (ng x) (mem_ng.mpr hx))
    rwa [ng_ng, ng_ng] at this
  have hup : up L = ng a :: st' := e'
  have hzm := d.mem
  rcases (hle z hzm).cases with rfl | hlt
  · left
    have all : ∀ x ∈ L, x = a := fun x hx => (hz x hx).antisymm (hle x hx)
    have h1 := d.lone all
    have h2 := d'.lone (fun x hx => by
      have := all (ng x) (mem_ng'.mp hx)
      rw [← ng_ng x, this])
    subst h1 h2
    refine ⟨a, ha, all, e, hup, ?_⟩
    rw [cor_eq, e, hup]
    simp only [List.tail_cons, List.map_cons, List.reverse_nil, List.map_nil, List.append_nil]
    rw [if_neg (by simp)]
    have hp := srt_perm L
    cases es : srt L with
    | nil => rw [es] at hp; exact absurd hp.symm.eq_nil h
    | cons x r =>
      have : x = a := all x (hp.mem_iff.mp (by rw [es]; simp))
      rw [this]; rfl
  · right
    obtain ⟨s, rfl⟩ : ∃ s, st = s ++ [a] := by
      rcases d.bot with ⟨rfl, hm⟩ | ⟨s, a', rfl, ha', hm⟩
      · exact ((hm a ha).not_lt hlt).elim
      · exact ⟨s, by rw [(hm a ha).antisymm (hle a' ha')]⟩
    obtain ⟨s', rfl⟩ : ∃ s', st' = s' ++ [ng z] := by
      rcases d'.bot with ⟨rfl, hm⟩ | ⟨s', w, rfl, hw, hm⟩
      · exact ((hm (ng z) (mem_ng.mpr hzm)).not_lt (ng_lt hlt)).elim
      · have h1 := hm (ng z) (mem_ng.mpr hzm)
        have h2 := ng_le (hz (ng w) (mem_ng'.mp hw))
        rw [ng_ng] at h2
        exact ⟨s', by rw [h1.antisymm h2]⟩
    refine ⟨a, z, s, s', ha, hzm, hlt, fun x hx => ⟨hle x hx, hz x hx⟩, e, hup, d, d', ?_⟩
    rw [cor_eq, e, hup]
    simp only [List.tail_cons, List.map_cons, List.map_append, List.reverse_append, List.reverse_cons, List.reverse_nil, List.nil_append, List.cons_append, List.map_nil, ng_ng]
    rw [if_pos (by simp)]

theorem lo_sub_cor {L : List Pt} (h : L ≠ []) : ∀ x ∈ lo L, x ∈ cor L := by
  rcases chains h with ⟨a, _, _, e, _, ec⟩ | ⟨a, z, s, s', _, _, _, _, e, _, _, _, ec⟩ <;> rw [e, ec] <;> intro x hx <;> simp at hx ⊢ <;> grind
theorem up_sub_cor {L : List Pt} (h : L ≠ []) : ∀ x ∈ up L, ng x ∈ cor L := by
  rcases chains h with ⟨a, _, _, _, e, ec⟩ | ⟨a, z, s, s', _, _, _, _, _, e, _, _, ec⟩ <;> rw [e, ec] <;> intro x hx <;> simp at hx ⊢
  · rw [hx, ng_ng]
  · rcases hx with rfl | hx | rfl
    · rw [ng_ng]; simp
    · exact .inr (.inr (.inr ⟨x.1, x.2, hx, rfl⟩))
    · rw [ng_ng]; simp
theorem Dn.sub {ps ps' : List Pt} (e : ∀ x ∈ ps', x ∈ ps) : ∀ {st : List Pt}, Dn ps st → (∀ x ∈ st, x ∈ ps') → Dn ps' st
  | [b], d, m => ⟨m b (by simp), fun x hx => d.2 x (e x hx)⟩
  | b :: a :: st, d, m => ⟨m b (by simp), d.2.1, fun x hx => d.2.2.1 x (e x hx), d.2.2.2.1, d.tail.sub e fun x hx => m x (List.mem_cons_of_mem _ hx)⟩
theorem cor_ne {L : List Pt} (h : L ≠ []) : cor L ≠ [] := by
  rcases chains h with ⟨a, _, _, _, e, ec⟩ | ⟨a, z, s, s', _, _, _, _, _, e, _, _, ec⟩ <;> rw [ec] <;> simp
theorem lo_cor {L : List Pt} (h : L ≠ []) : lo (cor L) = lo L := by
  obtain ⟨z, st, e, d, hz⟩ := lo_ok h
  have hm := lo_sub_cor h
  rw [e] at hm ⊢
  exact lo_eq (d.sub (cor_mem L) hm) fun x hx => hz x (cor_mem L x hx)
theorem up_cor {L : List Pt} (h : L ≠ []) : up (cor L) = up L := by
  obtain ⟨z, st, e, d, hz⟩ := lo_ok (L := L.map ng) (by simpa using h)
  have hm := up_sub_cor h
  have e' : up L = z :: st := e
  rw [e'] at hm ⊢
  have hs : ∀ x ∈ (cor L).map ng, x ∈ L.map ng := fun x hx => mem_ng'.mpr (cor_mem L _ (mem_ng'.mp hx))
  exact lo_eq (d.sub hs fun x hx => mem_ng'.mpr (hm x hx)) fun x hx => hz x (hs x hx)
theorem cor_cor {L : List Pt} (h : L ≠ []) : cor (cor L) = cor L := by
  rcases chains h with ⟨a, _, _, e, e', ec⟩ | ⟨a, z, s, s', _, _, _, _, e, e', _, _, ec⟩
  · rw [ec]; rfl
  · rw [cor_eq (cor L), lo_cor h, up_cor h, cor_eq L, e, e']
    simp

/-! sums along the chains -/
noncomputable def dsum (g : Pt → Pt → Int) : List Pt → Int
  | b :: a :: st => g a b + dsum g (a :: st)
  | _ => 0
noncomputable def prs : Pt → List Pt → List (Pt × Pt)
  | _, [] => []
  | p, q :: r => (p, q) :: prs q r
theorem prs_len : ∀ (p : Pt) (l : List Pt), (prs p l).length = l.length
  | _, [] => rfl
  | _, q :: r => by simp [prs, prs_len q r]
theorem prs_at : ∀ (p : Pt) (l : List Pt) (k : Nat), k < l.length → (prs p l)[k]? = some ((p :: l).getD k (0, 0), l.getD k (0, 0))
  | p, q :: r, 0, _ => by simp [prs]
  | p, q :: r, k + 1, h => by
    have := prs_at q r k (by simpa using h)
    simp only [prs, List.getElem?_cons_succ, this]
    simp
theorem prs_app : ∀ (p : Pt) (l : List Pt) (q : Pt) (r : List Pt), prs p (l ++ q :: r) = prs p (l ++ [q]) ++ prs q r
  | p, [], q, r => rfl
  | p, x :: l, q, r => by simp [prs, prs_app x l q r]
theorem cyc_prs (l : List Pt) (x : Pt) : cyc (l ++ [x]) = prs x (l ++ [x]) := by
  apply List.ext_getElem?
  intro k
  by_cases hk : k < (l ++ [x]).length
  · rw [cyc_at hk, prs_at _ _ _ hk]
    congr 2
    unfold prv
    cases k with
    | zero => simp
    | succ k =>
      have hk' : k < l.length := by simpa using hk
      simp [hk']
  · rw [List.getElem?_eq_none (by rw [cyc_len]; omega), List.getElem?_eq_none (by rw [prs_len]; omega)]
theorem dsum_prs (g : Pt → Pt → Int) (a : Pt) : ∀ (s : List Pt) (z : Pt), dsum g (z :: (s ++ [a])) = ((prs a (s.reverse ++ [z])).map fun e => g e.1 e.2).sum
  | [], z => by simp [dsum, prs]
  | c :: s, z => by
    rw [List.cons_append, dsum, dsum_prs g a s c, List.reverse_cons, List.append_assoc, List.singleton_append, prs_app a s.reverse c [z]]
    simp only [List.map_append, List.sum_append, prs, List.map_cons, List.map_nil, List.sum_cons, List.sum_nil]
    omega
/-- a sum round the corners -/
noncomputable def csum (g : Pt → Pt → Int) (l : List Pt) : Int := ((cyc l).map fun e => g e.1 e.2).sum
theorem csum_cor (g : Pt → Pt → Int) (g0 : ∀ p, g p p = 0) {L : List Pt} (h : L ≠ []) : csum g (cor L) = dsum g (lo L) + dsum g ((up L).map ng) := by
  rcases chains h with ⟨a, _, _, e, e', ec⟩ | ⟨a, z, s, s', _, _, _, _, e, e', _, _, ec⟩
  · rw [ec, e, e']
    show g a a + 0 = 0 + 0
    rw [g0]
  · rw [e, e']
    have e2 : (ng a :: (s' ++ [ng z])).map ng = a :: (s'.map ng ++ [z]) := by simp [ng_ng]
    rw [e2, dsum_prs, dsum_prs]
    generalize s'.map ng = t at ec
    have hl : ∃ l x, cor L = l ++ [x] ∧ prs x [a] ++ prs a (s.reverse ++ [z]) ++ prs z t.reverse = prs x (cor L) ∧ prs z (t.reverse ++ [a]) = prs z t.reverse ++ prs x [a] := by
      cases t with
      | nil =>
        refine ⟨a :: s.reverse, z, by rw [ec]; rfl, ?_, rfl⟩
        rw [ec]
        simp [prs]
      | cons y t =>
        refine ⟨(a :: s.reverse) ++ (z :: t.reverse), y, by rw [ec]; simp, ?_, ?_⟩
        · rw [ec]
          show (y, a) :: (prs a (s.reverse ++ [z]) ++ prs z (y :: t).reverse) = (y, a) :: prs a (s.reverse ++ z :: (y :: t).reverse)
          rw [prs_app a s.reverse z (y :: t).reverse]
        · rw [List.reverse_cons, List.append_assoc, List.singleton_append, prs_app z t.reverse y [a]]
    obtain ⟨l, x, e1, e3, e4⟩ := hl
    unfold csum
    rw [e1, cyc_prs, ← e1, ← e3, e4]
    simp only [List.map_append, List.sum_append]
    omega
end Mink

/-! PlE -/
namespace Mink
open PySem PySem.W PyProof.Rows PySem.Calls

theorem Dn.desc {ps : List Pt} : ∀ {st : List Pt}, Dn ps st → st.Pairwise fun x y => Lt y x
  | [b], _ => List.pairwise_singleton _ _
  | b :: a :: st, d => by
    have ih := d.tail.desc
    refine List.pairwise_cons.mpr ⟨fun y hy => ?_, ih⟩
    rcases List.mem_cons.mp hy with rfl | hy
    · exact d.2.1
    · exact ((List.pairwise_cons.mp ih).1 y hy).trans d.2.1
theorem desc_nodup {st : List Pt} (h : st.Pairwise fun x y => Lt y x) : st.Nodup := List.Pairwise.imp (fun h e => by subst e; exact h.irrefl) h
theorem nodup_rev {l : List Pt} (h : l.Nodup) : l.reverse.Nodup := by
  unfold List.Nodup
  rw [List.pairwise_reverse]
  exact List.Pairwise.imp (fun h e => h e.symm) h
theorem Dn.nbr {ps : List Pt} {a p : Pt} : ∀ {s : List Pt} {b : Pt}, Dn ps (b :: (s ++ [a])) → p ∈ s → ∃ c q, c ∈ ps ∧ q ∈ ps ∧ Lt c p ∧ Lt p q ∧ Sup ps c p ∧ Sup ps p q ∧ 0 < crs c p q
  | x :: s, b, d, hp => by
    rcases List.mem_cons.mp hp with rfl | hp
    · cases s with
      | nil =>
        have d' : Dn ps (b :: p :: [a]) := d
        exact ⟨a, b, d'.tail.tail.mem, d'.mem, d'.tail.2.1, d'.2.1, d'.tail.2.2.1, d'.2.2.1, d'.2.2.2.1⟩
      | cons y s =>
        have d' : Dn ps (b :: p :: y :: (s ++ [a])) := d
        exact ⟨y, b, d'.tail.tail.mem, d'.mem, d'.tail.2.1, d'.2.1, d'.tail.2.2.1, d'.2.2.1, d'.2.2.2.1⟩
    · exact Dn.nbr (s := s) (b := x) d.tail hp
theorem cor_few {L : List Pt} (h : L ≠ []) : (cor L).length ≤ L.length := by
  rcases chains h with ⟨a, ha, _, e, e', ec⟩ | ⟨a, z, s, s', _, _, hlt, _, e, e', d, d', ec⟩
  · rw [ec]
    exact List.length_pos_of_mem ha
  · refine List.Nodup.length_le_of_subset ?_ (cor_mem L)
    have n1 := desc_nodup d.desc
    have n2 := desc_nodup d'.desc
    rw [ec, List.nodup_append]
    refine ⟨?_, ?_, ?_⟩
    · have : (a :: s.reverse) = (s ++ [a]).reverse := by simp
      rw [this]
      exact nodup_rev (List.nodup_cons.mp n1).2
    · have : (z :: (s'.map ng).reverse) = ((s' ++ [ng z]).reverse).map ng := by simp [ng_ng]
      rw [this]
      refine List.Pairwise.map ng (R := fun a b => a ≠ b) (fun x y h e => h (by rw [← ng_ng x, e, ng_ng])) ?_
      exact nodup_rev (List.nodup_cons.mp n2).2
    · intro p hp q hq e
      subst e
      have hz : p = z ∨ ng p ∈ s' := by
        rcases List.mem_cons.mp hq with h | h
        · exact .inl h
        · right
          rw [List.mem_reverse] at h
          exact mem_ng'.mp h
      have h1 := (List.nodup_cons.mp n1).1
      have h2 := (List.nodup_cons.mp n2).1
      rcases List.mem_cons.mp hp with rfl | hp
      · rcases hz with rfl | hz
        · exact hlt.irrefl
        · exact h2 (List.mem_append_left _ hz)
      · have hp : p ∈ s := List.mem_reverse.mp hp
        rcases hz with rfl | hz
        · exact h1 (List.mem_append_left _ hp)
        · obtain ⟨c, q, hc, hq, l1, l2, s1, s2, tn⟩ := d.nbr hp
          obtain ⟨_, q', _, hq', _, l2', _, s2', _⟩ := d'.nbr hz
          have hu : ng q' ∈ L := mem_ng'.mp hq'
          have lu : Lt (ng q') p := by have := ng_lt l2'; rwa [ng_ng] at this
          have k1 := s2 (ng q') hu
          have k2 := s2' (ng q) (mem_ng.mpr hq)
          have k2 : 0 ≤ crs p (ng q') q := by have e := ng_crs p (ng q') q; rw [ng_ng] at e; rw [← e]; exact k2
          have k0 : crs p q (ng q') = 0 := by have := crs_sw p q (ng q'); omega
          have := stick lu l2 k0 tn
          have := s1 (ng q') hu
          omega

/-- the same points, the same corners -/
theorem lo_set {L L' : List Pt} (h : L ≠ []) (e : ∀ x, x ∈ L ↔ x ∈ L') : lo L' = lo L := by
  obtain ⟨z, st, el, d, hz⟩ := lo_ok h
  rw [el]
  exact lo_eq (d.of e) fun x hx => hz x ((e x).mpr hx)
theorem up_set {L L' : List Pt} (h : L ≠ []) (e : ∀ x, x ∈ L ↔ x ∈ L') : up L' = up L :=
  lo_set (L := L.map ng) (by simpa using h) fun x => by rw [mem_ng', mem_ng']; exact e _
theorem cor_chains {L L' : List Pt} (h : L ≠ []) (h' : L' ≠ []) (e1 : lo L = lo L') (e2 : up L = up L') : cor L = cor L' := by
  rcases chains h with ⟨a, _, _, e, e', ec⟩ | ⟨a, z, s, s', _, _, _, _, e, e', _, _, ec⟩ <;>
    rcases chains h' with ⟨b, _, _, f, f', fc⟩ | ⟨b, y, t, t', _, _, _, _, f, f', _, _, fc⟩
  · rw [e, f] at e1
    rw [ec, fc, List.singleton_inj.mp e1]
  · rw [e, f] at e1
    simp at e1
  · rw [e, f] at e1
    simp at e1
  · rw [cor_eq L, cor_eq L', ← e1, ← e2]
    rw [e, e']
    simp
theorem cor_set {L L' : List Pt} (h : L ≠ []) (e : ∀ x, x ∈ L ↔ x ∈ L') : cor L = cor L' :=
  cor_chains h (fun h' => by
    obtain ⟨x, hx⟩ := List.exists_mem_of_ne_nil _ h
    have := (e x).mp hx
    rw [h'] at this; cases this) (lo_set h e).symm (up_set h e).symm
theorem mem_sums {C D : List Pt} {p : Pt} : p ∈ sums C D ↔ ∃ a ∈ C, ∃ b ∈ D, p = ad a b := by
  constructor
  · intro h
    obtain ⟨a, ha, b, hb, e⟩ := sums_mem h
    exact ⟨a, ha, b, hb, e⟩
  · rintro ⟨a, ha, b, hb, rfl⟩
    unfold sums
    rw [List.mem_flatMap]
    exact ⟨a, ha, List.mem_map.mpr ⟨b, hb, rfl⟩⟩
theorem sums_ne {C D : List Pt} (h : C ≠ []) (h' : D ≠ []) : sums C D ≠ [] := by
  obtain ⟨x, hx⟩ := List.exists_mem_of_ne_nil _ h
  obtain ⟨y, hy⟩ := List.exists_mem_of_ne_nil _ h'
  exact List.ne_nil_of_mem (mem_sums.mpr ⟨x, hx, y, hy, rfl⟩)
theorem ad_comm (a b : Pt) : ad a b = ad b a := by unfold ad; simp [Int.add_comm]
theorem fact_turned {C D : List Pt} (h : C ≠ []) (h' : D ≠ []) : cor (sums D C) = cor (sums C D) :=
  cor_set (sums_ne h' h) fun x => by
    rw [mem_sums, mem_sums]
    constructor <;> rintro ⟨a, ha, b, hb, rfl⟩ <;> exact ⟨b, hb, a, ha, ad_comm _ _⟩

/-! areas -/
noncomputable def ar2 (p q : Pt) : Int := p.1 * q.2 - q.1 * p.2
theorem area_csum (l : List Pt) : area l = csum ar2 l := rfl
theorem prs_map (t : Pt → Pt) : ∀ (p : Pt) (l : List Pt), prs (t p) (l.map t) = (prs p l).map fun e => (t e.1, t e.2)
  | _, [] => rfl
  | p, q :: r => by simp [prs, prs_map t q r]
theorem cyc_map (t : Pt → Pt) (l : List Pt) : cyc (l.map t) = (cyc l).map fun e => (t e.1, t e.2) := by
  rcases List.eq_nil_or_concat l with rfl | ⟨l, x, rfl⟩
  · rfl
  · have e : (l.concat x).map t = l.map t ++ [t x] := by simp
    rw [e, cyc_prs, show l.map t ++ [t x] = (l ++ [x]).map t by simp, prs_map, List.concat_eq_append, cyc_prs]
theorem csum_map (g : Pt → Pt → Int) (t : Pt → Pt) (l : List Pt) : csum g (l.map t) = csum (fun p q => g (t p) (t q)) l := by
  unfold csum
  rw [cyc_map, List.map_map]; rfl
theorem csum_add (g k : Pt → Pt → Int) (l : List Pt) : csum (fun p q => g p q + k p q) l = csum g l + csum k l := by
  unfold csum
  induction cyc l with
  | nil => rfl
  | cons e r ih => simp only [List.map_cons, List.sum_cons, ih]; omega
theorem csum_mul (c : Int) (g : Pt → Pt → Int) (l : List Pt) : csum (fun p q => c * g p q) l = c * csum g l := by
  unfold csum
  induction cyc l with
  | nil => simp
  | cons e r ih => simp only [List.map_cons, List.sum_cons, ih, Int.mul_add]
theorem csum_congr {g k : Pt → Pt → Int} (h : ∀ p q, g p q = k p q) (l : List Pt) : csum g l = csum k l := by
  have : g = k := by funext p q; exact h p q
  rw [this]
theorem prs_tel (f : Pt → Int) : ∀ (p : Pt) (l : List Pt) (x : Pt), ((prs p (l ++ [x])).map fun e => f e.2 - f e.1).sum = f x - f p
  | p, [], x => by simp [prs]
  | p, q :: l, x => by simp only [List.cons_append, prs, List.map_cons, List.sum_cons, prs_tel f q l x]; omega
theorem csum_tel (f : Pt → Int) (l : List Pt) : csum (fun p q => f q - f p) l = 0 := by
  rcases List.eq_nil_or_concat l with rfl | ⟨l, x, rfl⟩
  · rfl
  · rw [List.concat_eq_append]
    unfold csum
    rw [cyc_prs, prs_tel]; omega
theorem steps_csum (f : Pt → Int) (l : List Pt) : ((steps l).map f).sum = csum (fun p q => f (q.1 - p.1, q.2 - p.2)) l := by
  unfold steps csum
  rw [List.map_map]; rfl
theorem fact_zx (l : List Pt) : ((steps l).map (·.1)).sum = 0 := by rw [steps_csum]; exact csum_tel (·.1) l
theorem fact_zy (l : List Pt) : ((steps l).map (·.2)).sum = 0 := by rw [steps_csum]; exact csum_tel (·.2) l
theorem area_tri (l : List Pt) : area (l.map tri) = 9 * area l := by
  rw [area_csum, area_csum, csum_map, ← csum_mul]
  refine csum_congr (fun p q => ?_) l
  unfold ar2 tri
  grind
theorem area_mv (l : List Pt) : area (l.map mv) = area l := by
  rw [area_csum, area_csum, csum_map]
  have e : ∀ p q, ar2 (mv p) (mv q) = ar2 p q + ((fun x : Pt => 3 * x.1 + 2 * x.2) q - (fun x : Pt => 3 * x.1 + 2 * x.2) p) := fun p q => by
    unfold ar2 mv
    grind
  rw [csum_congr e, csum_add, csum_tel]
  omega
theorem nice_tri : Nice tri := ⟨fun a b p => by
    have : crs (tri a) (tri b) (tri p) = 9 * crs a b p := by unfold crs tri; grind
    rw [this]; omega, fun a b h => by
    unfold tri at h
    simp only [Prod.mk.injEq] at h
    exact Prod.ext (by omega) (by omega)⟩
theorem nice_mv : Nice mv := ⟨fun a b p => by
    have : crs (mv a) (mv b) (mv p) = crs a b p := by unfold crs mv; grind
    rw [this], fun a b h => by
    unfold mv at h
    simp only [Prod.mk.injEq] at h
    exact Prod.ext (by omega) (by omega)⟩
theorem fact_nine {P : List Pt} (h : P ≠ []) : area (cor ((cor P).map tri)) = 9 * area (cor P) := by
  rw [cor_map nice_tri (fun a b h => by unfold Le tri at *; simp only; omega), cor_cor h, area_tri]
theorem sums_mv (C D : List Pt) : sums (C.map mv) D = (sums C D).map mv := by
  unfold sums
  rw [List.flatMap_map, List.map_flatMap]
  congr 1
  funext p
  rw [List.map_map]
  refine List.map_congr_left fun q _ => ?_
  unfold mv
  simp only [Function.comp, Prod.mk.injEq]
  omega
theorem fact_moved (C D : List Pt) : area (cor (sums (C.map mv) D)) = area (cor (sums C D)) := by
  rw [sums_mv, cor_map nice_mv (fun a b h => by unfold Le mv at *; simp only; omega), area_mv]
end Mink

/-! PlF -/
namespace Mink
open PySem PySem.W PyProof.Rows PySem.Calls

theorem ad_ng (a b : Pt) : ng (ad a b) = ad (ng a) (ng b) := by unfold ng ad; simp only [Prod.mk.injEq]; omega
theorem sums_ng (C D : List Pt) : (sums C D).map ng = sums (C.map ng) (D.map ng) := by
  unfold sums
  rw [List.flatMap_map, List.map_flatMap]
  congr 1
  funext p
  rw [List.map_map, List.map_map]
  exact List.map_congr_left fun q _ => ad_ng p q

theorem par_nn {a b c : Pt} (ha : pos a) (hb : pos b) (h : cr a b = 0) (h1 : 0 ≤ cr a c) : 0 ≤ cr b c := by
  rcases Int.lt_or_le (cr b c) 0 with h2 | h2
  · have h3 : 0 < cr b (ng c) := by have : cr b (ng c) = - cr b c := by { unfold cr ng; grind }; omega
    have := par hb ha (by have := cr_swap a b; omega) h3
    have : cr a (ng c) = - cr a c := by unfold cr ng; grind
    omega
  · exact h2

/-! the most of the points, a way -/
noncomputable def mx : List Pt → Pt → Int
  | [], _ => 0
  | [p], f => cr p f
  | p :: q :: r, f => max (cr p f) (mx (q :: r) f)
theorem mx_le : ∀ {C : List Pt} {f : Pt} {p : Pt}, p ∈ C → cr p f ≤ mx C f
  | [q], f, p, h => by rw [List.mem_singleton] at h; subst h; exact Int.le_refl _
  | q :: x :: r, f, p, h => by
    rw [mx]
    rcases List.mem_cons.mp h with rfl | h
    · omega
    · have := mx_le (f := f) h; omega
theorem mx_at : ∀ {C : List Pt} (f : Pt), C ≠ [] → ∃ p ∈ C, mx C f = cr p f
  | [q], f, _ => ⟨q, by simp, rfl⟩
  | q :: x :: r, f, _ => by
    obtain ⟨p, hp, e⟩ := mx_at (C := x :: r) f (by simp)
    rw [mx]
    rcases Int.le_total (mx (x :: r) f) (cr q f) with h | h
    · exact ⟨q, by simp, by omega⟩
    · exact ⟨p, List.mem_cons_of_mem _ hp, by omega⟩
theorem mx_eq {C : List Pt} {f b : Pt} (hb : b ∈ C) (h : ∀ x ∈ C, 0 ≤ cr f (sb x b)) : mx C f = cr b f := by
  obtain ⟨p, hp, e⟩ := mx_at f (List.ne_nil_of_mem hb)
  have h1 := mx_le (f := f) hb
  have h2 := h p hp
  have : cr f (sb p b) = cr b f - cr p f := by unfold cr sb; grind
  omega

/-! two chains made one -/
noncomputable def ms : List Pt → List Pt → List Pt
  | b :: a :: s, d :: c :: t =>
    if 0 < cr (sb b a) (sb d c) then ad b d :: ms (b :: a :: s) (c :: t)
    else if cr (sb b a) (sb d c) < 0 then ad b d :: ms (a :: s) (d :: c :: t)
    else ad b d :: ms (a :: s) (c :: t)
  | [b], t => t.map (ad b)
  | s, [d] => s.map fun x => ad x d
  | _, _ => []
termination_by s t => s.length + t.length

noncomputable def Edg (st : List Pt) (g : Pt) : Prop := ∀ w v r, st = w :: v :: r → 0 < cr (sb w v) g
noncomputable def Abv (C : List Pt) (b : Pt) (t : List Pt) : Prop := ∀ d c t', t = d :: c :: t' → ∀ x ∈ C, Lt b x → 0 ≤ cr (sb d c) (sb x b)
/-- the sums that parallels share -/
noncomputable def Hm (h : Pt → Int) : Prop := ∀ e f, pos e → pos f → cr e f = 0 → h (ad e f) = h e + h f
structure Ms (C D S T R : List Pt) : Prop where
  dn : Dn (sums C D) R
  area : dsum ar2 R = dsum ar2 S + dsum ar2 T + dsum (fun p q => mx D (sb q p)) S + dsum (fun p q => mx C (sb q p)) T
  hom : ∀ h, Hm h → dsum (fun p q => h (sb q p)) R = dsum (fun p q => h (sb q p)) S + dsum (fun p q => h (sb q p)) T
  len : R.length + 1 ≤ S.length + T.length
  edg : ∀ g, Edg S g → Edg T g → Edg R g

theorem Turn.edg {a b c : Pt} {st : List Pt} (h : Turn b (a :: st) c) : 0 < cr (sb b a) (sb c b) := by
  have h : 0 < crs a b c := h
  have : cr (sb b a) (sb c b) = crs a b c := by unfold cr sb crs; grind
  omega
theorem Edg.turn {b c : Pt} {st : List Pt} (h : Edg (b :: st) (sb c b)) : Turn b st c := by
  cases st with
  | nil => trivial
  | cons a st =>
    have := h b a st rfl
    have e : cr (sb b a) (sb c b) = crs a b c := by unfold cr sb crs; grind
    show 0 < crs a b c
    omega
theorem Dn.edg {ps st : List Pt} {b a : Pt} (d : Dn ps (b :: a :: st)) : Edg (a :: st) (sb b a) := by
  intro w v r e
  simp only [List.cons.injEq] at e
  obtain ⟨rfl, rfl⟩ := e
  exact d.2.2.2.1.edg

/-- the corner of the one bears the edge of the other -/
theorem bears {C s : List Pt} {b f : Pt} (dS : Dn C (b :: s)) (pf : pos f) (hE : Edg (b :: s) f) (up : ∀ x ∈ C, Lt b x → 0 ≤ cr f (sb x b)) : ∀ x ∈ C, 0 ≤ cr f (sb x b) := by
  intro x hx
  rcases tricho x b with rfl | h | h
  · have : cr f (sb x x) = 0 := by unfold cr sb; grind
    omega
  · cases s with
    | nil => exact ((dS.2 x hx).not_lt h).elim
    | cons a s =>
      have e1 : cr (sb b x) (sb b a) = crs a b x := by unfold cr sb crs; grind
      have := dS.2.2.1 x hx
      have := hp (lt_pos.mp h) (lt_pos.mp dS.2.1) pf (by omega) (Int.le_of_lt (hE b a s rfl))
      have e2 : cr (sb b x) f = cr f (sb x b) := by unfold cr sb; grind
      omega
  · exact up x hx h
theorem ad_lt {b c d : Pt} (h : Lt c d) : Lt (ad b c) (ad b d) := by unfold Lt ad at *; simp only; omega
/-- one edge of the second taken -/
theorem step_f {C D s t r : List Pt} {b c d : Pt} (dS : Dn C (b :: s)) (dT : Dn D (d :: c :: t)) (hE : Edg (b :: s) (sb d c)) (up : Abv C b (d :: c :: t)) (M : Ms C D (b :: s) (c :: t) (ad b c :: r)) : Ms C D (b :: s) (d :: c :: t) (ad b d :: ad b c :: r) := by
  have pf := lt_pos.mp dT.2.1
  have be := bears dS pf hE (up d c t rfl)
  have hm := mx_eq dS.mem be
  have ee : sb (ad b d) (ad b c) = sb d c := by unfold sb ad; simp only [Prod.mk.injEq]; omega
  have eT : Edg (c :: t) (sb d c) := dT.edg
  refine ⟨⟨mem_sums.mpr ⟨b, dS.mem, d, dT.mem, rfl⟩, ad_lt dT.2.1, fun x hx => ?_, ?_, M.dn⟩, ?_, fun h hh => ?_, ?_, fun g h1 h2 => ?_⟩
  · obtain ⟨p, hp, q, hq, rfl⟩ := mem_sums.mp hx
    have h1 := be p hp
    have h2 := dT.2.2.1 q hq
    have : crs (ad b c) (ad b d) (ad p q) = cr (sb d c) (sb p b) + crs c d q := by unfold crs cr ad sb; grind
    omega
  · have := M.edg _ hE eT
    rw [← ee] at this
    exact this.turn
  · show ar2 (ad b c) (ad b d) + dsum ar2 (ad b c :: r) = _
    rw [M.area]
    show _ = _ + (ar2 c d + dsum ar2 (c :: t)) + _ + (mx C (sb d c) + dsum (fun p q => mx C (sb q p)) (c :: t))
    rw [hm]
    have : ar2 (ad b c) (ad b d) = ar2 c d + cr b (sb d c) := by unfold ar2 cr ad sb; grind
    omega
  · show h (sb (ad b d) (ad b c)) + dsum (fun p q => h (sb q p)) (ad b c :: r) = _ + (h (sb d c) + dsum (fun p q => h (sb q p)) (c :: t))
    rw [M.hom h hh, ee]
    omega
  · have := M.len
    simp only [List.length_cons] at *
    omega
  · intro w v r' e
    simp only [List.cons.injEq] at e
    obtain ⟨rfl, rfl, _⟩ := e
    rw [ee]
    exact h2 d c t rfl
theorem Ms.swap {C D S T R : List Pt} (M : Ms C D S T R) : Ms D C T S R :=
  ⟨M.dn.of fun x => by rw [mem_sums, mem_sums]; constructor <;> rintro ⟨a, ha, b, hb, rfl⟩ <;> exact ⟨b, hb, a, ha, ad_comm _ _⟩, by rw [M.area]; omega, fun h hh => by rw [M.hom h hh]; omega, by have := M.len; omega, fun g h1 h2 => M.edg g h2 h1⟩
theorem step_e {C D s t r : List Pt} {a b d : Pt} (dS : Dn C (b :: a :: s)) (dT : Dn D (d :: t)) (hE : Edg (d :: t) (sb b a)) (up : Abv D d (b :: a :: s)) (M : Ms C D (a :: s) (d :: t) (ad a d :: r)) : Ms C D (b :: a :: s) (d :: t) (ad b d :: ad a d :: r) := by
  rw [ad_comm b d, ad_comm a d]
  rw [ad_comm a d] at M
  exact (step_f dT dS hE up M.swap).swap
theorem step_p {C D s t r : List Pt} {a b c d : Pt} (dS : Dn C (b :: a :: s)) (dT : Dn D (d :: c :: t)) (h0 : cr (sb b a) (sb d c) = 0) (M : Ms C D (a :: s) (c :: t) (ad a c :: r)) : Ms C D (b :: a :: s) (d :: c :: t) (ad b d :: ad a c :: r) := by
  have pe := lt_pos.mp dS.2.1
  have pf := lt_pos.mp dT.2.1
  have h0' : cr (sb d c) (sb b a) = 0 := by have := cr_swap (sb b a) (sb d c); omega
  have be : ∀ x ∈ C, 0 ≤ cr (sb d c) (sb x a) := fun x hx => par_nn pe pf h0 (dS.2.2.1 x hx)
  have bf : ∀ x ∈ D, 0 ≤ cr (sb b a) (sb x c) := fun x hx => par_nn pf pe h0' (dT.2.2.1 x hx)
  have m1 := mx_eq dS.tail.mem be
  have m2 := mx_eq dT.tail.mem bf
  have ee : sb (ad b d) (ad a c) = ad (sb b a) (sb d c) := by unfold sb ad; simp only [Prod.mk.injEq]; omega
  have hab : Lt a b := dS.2.1
  have hcd : Lt c d := dT.2.1
  have cra : ∀ u, cr u (ad (sb b a) (sb d c)) = cr u (sb b a) + cr u (sb d c) := fun u => by unfold cr ad; grind
  refine ⟨⟨mem_sums.mpr ⟨b, dS.mem, d, dT.mem, rfl⟩, by unfold Lt ad at *; simp only; omega, fun x hx => ?_, ?_, M.dn⟩, ?_, fun h hh => ?_, ?_, fun g h1 h2 => ?_⟩
  · obtain ⟨p, hp, q, hq, rfl⟩ := mem_sums.mp hx
    have h1 := be p hp
    have h2 := bf q hq
    have h3 := dS.2.2.1 p hp
    have h4 := dT.2.2.1 q hq
    have : crs (ad a c) (ad b d) (ad p q) = crs a b p + cr (sb d c) (sb p a) + cr (sb b a) (sb q c) + crs c d q := by unfold crs cr ad sb; grind
    omega
  · have := M.edg (ad (sb b a) (sb d c)) (fun w v r e => by
      have k1 := dS.edg w v r e
      simp only [List.cons.injEq] at e
      obtain ⟨rfl, rfl⟩ := e
      have := hp1 (lt_pos.mp dS.tail.2.1) pe pf k1 (by omega)
      rw [cra]; omega) (fun w v r e => by
      have k1 := dT.edg w v r e
      simp only [List.cons.injEq] at e
      obtain ⟨rfl, rfl⟩ := e
      have := hp1 (lt_pos.mp dT.tail.2.1) pf pe k1 (by omega)
      rw [cra]; omega)
    rw [← ee] at this
    exact this.turn
  · show ar2 (ad a c) (ad b d) + dsum ar2 (ad a c :: r) = _
    rw [M.area]
    show _ = (ar2 a b + dsum ar2 (a :: s)) + (ar2 c d + dsum ar2 (c :: t)) + (mx D (sb b a) + dsum (fun p q => mx D (sb q p)) (a :: s)) + (mx C (sb d c) + dsum (fun p q => mx C (sb q p)) (c :: t))
    rw [m1, m2]
    have : ar2 (ad a c) (ad b d) = ar2 a b + ar2 c d + cr a (sb d c) + cr c (sb b a) := by unfold ar2 cr ad sb; grind
    omega
  · show h (sb (ad b d) (ad a c)) + dsum (fun p q => h (sb q p)) (ad a c :: r) = (h (sb b a) + dsum (fun p q => h (sb q p)) (a :: s)) + (h (sb d c) + dsum (fun p q => h (sb q p)) (c :: t))
    rw [M.hom h hh, ee, hh _ _ pe pf h0]
    omega
  · have := M.len
    simp only [List.length_cons] at *
    omega
  · intro w v r' e
    simp only [List.cons.injEq] at e
    obtain ⟨rfl, rfl, _⟩ := e
    rw [ee]
    have k1 := h1 b a s rfl
    have k2 := h2 d c t rfl
    have : cr (ad (sb b a) (sb d c)) g = cr (sb b a) g + cr (sb d c) g := by unfold cr ad; grind
    omega
end Mink

/-! PlG -/
namespace Mink
open PySem PySem.W PyProof.Rows PySem.Calls

theorem abv_f {C D t : List Pt} {b c d : Pt} (up : Abv C b (d :: c :: t)) (dT : Dn D (d :: c :: t)) : Abv C b (c :: t) := by
  intro c' c₀ t' e x hx hbx
  have k1 := dT.edg _ _ _ e
  simp only [List.cons.injEq] at e
  obtain ⟨rfl, rfl⟩ := e
  exact hp (lt_pos.mp dT.tail.2.1) (lt_pos.mp dT.2.1) (lt_pos.mp hbx) (Int.le_of_lt k1) (up d c _ rfl x hx hbx)
theorem sup_cr {a b x : Pt} : cr (sb b a) (sb x a) = crs a b x := rfl
theorem abv_e {D s t : List Pt} {a b c d : Pt} (hab : Lt a b) (dT : Dn D (d :: c :: t)) (h : 0 ≤ cr (sb b a) (sb d c)) : Abv D c (b :: a :: s) := by
  intro b' a' s' e y hy hcy
  simp only [List.cons.injEq] at e
  obtain ⟨rfl, rfl, _⟩ := e
  exact hp (lt_pos.mp hab) (lt_pos.mp dT.2.1) (lt_pos.mp hcy) h (dT.2.2.1 y hy)
theorem abv_p {C D s t : List Pt} {a b c d : Pt} (dS : Dn C (b :: a :: s)) (dT : Dn D (d :: c :: t)) (h : cr (sb d c) (sb b a) = 0) : Abv C a (c :: t) := by
  intro c' c₀ t' e x hx hax
  have k1 := dT.edg _ _ _ e
  simp only [List.cons.injEq] at e
  obtain ⟨rfl, rfl⟩ := e
  have pf' := lt_pos.mp dT.tail.2.1
  have pf := lt_pos.mp dT.2.1
  have pe := lt_pos.mp dS.2.1
  have k2 := hp1 pf' pf pe k1 (by omega)
  exact hp pf' pe (lt_pos.mp hax) (Int.le_of_lt k2) (dS.2.2.1 x hx)
theorem edg_one {b : Pt} (g : Pt) : Edg [b] g := by intro w v r e; simp at e
theorem edg_of {b a g : Pt} {s : List Pt} (h : 0 < cr (sb b a) g) : Edg (b :: a :: s) g := by
  intro w v r e
  simp only [List.cons.injEq] at e
  obtain ⟨rfl, rfl, _⟩ := e
  exact h
theorem abv_one {C : List Pt} {b d : Pt} : Abv C b [d] := by intro w v r e; simp at e
theorem ms_r (b : Pt) (t : List Pt) : ms [b] t = t.map (ad b) := by rw [ms]
theorem ms_l (s : List Pt) (d : Pt) (h : s ≠ []) : ms s [d] = s.map fun x => ad x d := by
  match s, h with
  | [b], _ => rw [ms_r]; rfl
  | b :: a :: s, _ => rw [ms]; intro x h; simp at h

theorem ms_ok {C D : List Pt} (s t : List Pt) (b d : Pt) (dS : Dn C (b :: s)) (dT : Dn D (d :: t)) (u1 : Abv C b (d :: t)) (u2 : Abv D d (b :: s)) : ∃ r, ms (b :: s) (d :: t) = ad b d :: r ∧ Ms C D (b :: s) (d :: t) (ad b d :: r) := by
  match s, t with
  | [], [] =>
    refine ⟨[], by rw [ms_r]; rfl, ⟨mem_sums.mpr ⟨b, dS.mem, d, dT.mem, rfl⟩, fun x hx => ?_⟩, rfl, fun _ _ => rfl, by simp, fun g _ _ => edg_one g⟩
    obtain ⟨p, hp, q, hq, rfl⟩ := mem_sums.mp hx
    have h1 := dS.2 p hp
    have h2 := dT.2 q hq
    unfold Le ad at *
    simp only
    omega
  | [], c :: t =>
    obtain ⟨r, e, M⟩ := ms_ok [] t b c dS dT.tail (abv_f u1 dT) abv_one
    refine ⟨ad b c :: r, ?_, step_f dS dT (edg_one _) u1 M⟩
    rw [ms_r] at e ⊢
    rw [List.map_cons, e]
  | a :: s, [] =>
    obtain ⟨r, e, M⟩ := ms_ok s [] a d dS.tail dT abv_one (abv_f u2 dS)
    refine ⟨ad a d :: r, ?_, step_e dS dT (edg_one _) u2 M⟩
    rw [ms_l _ _ (by simp)] at e ⊢
    rw [List.map_cons, e]
  | a :: s, c :: t =>
    rcases Int.lt_trichotomy (cr (sb b a) (sb d c)) 0 with h | h | h
    · have h' : 0 < cr (sb d c) (sb b a) := by have := cr_swap (sb b a) (sb d c); omega
      obtain ⟨r, e, M⟩ := ms_ok s (c :: t) a d dS.tail dT (abv_e dT.2.1 dS (Int.le_of_lt h')) (abv_f u2 dS)
      refine ⟨ad a d :: r, ?_, step_e dS dT (edg_of h') u2 M⟩
      rw [ms, if_neg (by omega), if_pos h, e]
    · have h' : cr (sb d c) (sb b a) = 0 := by have := cr_swap (sb b a) (sb d c); omega
      obtain ⟨r, e, M⟩ := ms_ok s t a c dS.tail dT.tail (abv_p dS dT h') (abv_p dT dS h)
      refine ⟨ad a c :: r, ?_, step_p dS dT h M⟩
      rw [ms, if_neg (by omega), if_neg (by omega), e]
    · obtain ⟨r, e, M⟩ := ms_ok (a :: s) t b c dS dT.tail (abv_f u1 dT) (abv_e dS.2.1 dT (Int.le_of_lt h))
      refine ⟨ad b c :: r, ?_, step_f dS dT (edg_of h) u1 M⟩
      rw [ms, if_pos h, e]
termination_by s.length + t.length

/-- the chain of the sums -/
theorem lo_sums {C D : List Pt} (h : C ≠ []) (h' : D ≠ []) : Ms C D (lo C) (lo D) (lo (sums C D)) := by
  obtain ⟨b, s, e, dS, hb⟩ := lo_ok h
  obtain ⟨d, t, e', dT, hd⟩ := lo_ok h'
  obtain ⟨r, _, M⟩ := ms_ok s t b d dS dT (fun _ _ _ _ x hx hl => ((hb x hx).not_lt hl).elim) (fun _ _ _ _ x hx hl => ((hd x hx).not_lt hl).elim)
  have : lo (sums C D) = ad b d :: r := lo_eq M.dn fun x hx => by
    obtain ⟨p, hp, q, hq, rfl⟩ := mem_sums.mp hx
    have h1 := hb p hp
    have h2 := hd q hq
    unfold Le ad at *
    simp only
    omega
  rw [e, e', this]
  exact M
theorem up_sums {C D : List Pt} (h : C ≠ []) (h' : D ≠ []) : Ms (C.map ng) (D.map ng) (up C) (up D) (up (sums C D)) := by
  have := lo_sums (C := C.map ng) (D := D.map ng) (by simpa using h) (by simpa using h')
  unfold up
  rw [sums_ng]
  exact this
theorem dsum_map (g : Pt → Pt → Int) (t : Pt → Pt) : ∀ st : List Pt, dsum g (st.map t) = dsum (fun p q => g (t p) (t q)) st
  | [] => rfl
  | [_] => rfl
  | b :: a :: st => by
    have := dsum_map g t (a :: st)
    simp only [List.map_cons] at this ⊢
    rw [dsum, dsum, this]
theorem ar2_self (p : Pt) : ar2 p p = 0 := by unfold ar2; grind
theorem ar2_ng (p q : Pt) : ar2 (ng p) (ng q) = ar2 p q := by unfold ar2 ng; grind
theorem dsum_congr {g k : Pt → Pt → Int} (h : ∀ p q, g p q = k p q) (l : List Pt) : dsum g l = dsum k l := by
  have : g = k := by funext p q; exact h p q
  rw [this]
theorem area_chains {L : List Pt} (h : L ≠ []) : area (cor L) = dsum ar2 (lo L) + dsum ar2 (up L) := by
  rw [area_csum, csum_cor ar2 ar2_self h, dsum_map, dsum_congr ar2_ng]
/-- the most, round the other -/
noncomputable def around (C D : List Pt) : Int := csum (fun p q => mx C (sb q p)) (cor D)
theorem mx_map_ng {C : List Pt} (h : C ≠ []) (f : Pt) : mx C (ng f) = mx (C.map ng) f := by
  obtain ⟨p, hp, e⟩ := mx_at (ng f) h
  obtain ⟨q, hq, e'⟩ := mx_at (C := C.map ng) f (by simpa using h)
  have h1 := mx_le (f := f) (mem_ng.mpr hp)
  have h2 := mx_le (f := ng f) (mem_ng'.mp hq)
  have k1 : cr (ng p) f = cr p (ng f) := by unfold cr ng; grind
  have k2 : cr (ng q) (ng f) = cr q f := by unfold cr ng; grind
  omega
theorem mx_self {C : List Pt} (h : C ≠ []) (p : Pt) : mx C (sb p p) = 0 := by
  obtain ⟨q, _, e⟩ := mx_at (sb p p) h
  rw [e]; unfold cr sb; grind
theorem around_chains {C D : List Pt} (h : C ≠ []) (h' : D ≠ []) : around C D = dsum (fun p q => mx C (sb q p)) (lo D) + dsum (fun p q => mx (C.map ng) (sb q p)) (up D) := by
  unfold around
  rw [csum_cor _ (mx_self h) h', dsum_map]
  congr 1
  refine dsum_congr (fun p q => ?_) _
  rw [← mx_map_ng h]
  congr 1
  unfold sb ng
  simp only [Prod.mk.injEq]
  omega
theorem area_sums {C D : List Pt} (h : C ≠ []) (h' : D ≠ []) : area (cor (sums C D)) = area (cor C) + area (cor D) + around D C + around C D := by
  rw [area_chains (sums_ne h h'), area_chains h, area_chains h', around_chains h h', around_chains h' h, (lo_sums h h').area, (up_sums h h').area]
  omega
theorem hom_chains {C D : List Pt} (h : C ≠ []) (h' : D ≠ []) (k : Pt → Int) (hk : Hm k) (hn : ∀ e, k (ng e) = k e) (k0 : k (0, 0) = 0) :
    csum (fun p q => k (sb q p)) (cor (sums C D)) = csum (fun p q => k (sb q p)) (cor C) + csum (fun p q => k (sb q p)) (cor D) := by
  have g0 : ∀ p, k (sb p p) = 0 := fun p => by rw [show sb p p = (0, 0) by unfold sb; simp, k0]
  have e : ∀ p q, k (sb (ng q) (ng p)) = k (sb q p) := fun p q => by
    rw [← hn (sb q p)]
    congr 1
    unfold sb ng
    simp only [Prod.mk.injEq]
    omega
  rw [csum_cor _ g0 (sums_ne h h'), csum_cor _ g0 h, csum_cor _ g0 h', dsum_map, dsum_map, dsum_map, dsum_congr e, dsum_congr e, dsum_congr e, (lo_sums h h').hom k hk, (up_sums h h').hom k hk]
  omega
end Mink

/-! PlH -/
namespace Mink
open PySem PySem.W PyProof.Rows PySem.Calls

theorem dsum_mx {C : List Pt} : ∀ {st : List Pt}, Dn C st → dsum (fun p q => mx C (sb q p)) st = dsum ar2 st
  | [b], _ => rfl
  | b :: a :: st, d => by
    rw [dsum, dsum, dsum_mx d.tail, mx_eq d.tail.mem (f := sb b a) fun x hx => d.2.2.1 x hx]
    have : cr a (sb b a) = ar2 a b := by unfold cr sb ar2; grind
    rw [this]
theorem around_self {C : List Pt} (h : C ≠ []) : around C C = area (cor C) := by
  rw [around_chains h h, area_chains h]
  obtain ⟨b, s, e, dS, _⟩ := lo_ok h
  obtain ⟨d, t, e', dT, _⟩ := lo_ok (L := C.map ng) (by simpa using h)
  have e' : up C = d :: t := e'
  rw [e, e', dsum_mx dS, dsum_mx dT]
theorem csum_le {g k : Pt → Pt → Int} (h : ∀ p q, g p q ≤ k p q) (l : List Pt) : csum g l ≤ csum k l := by
  unfold csum
  induction cyc l with
  | nil => exact Int.le_refl _
  | cons e r ih => simp only [List.map_cons, List.sum_cons]; have := h e.1 e.2; omega
theorem around_nn {C D : List Pt} (h : C ≠ []) : 0 ≤ around C D := by
  obtain ⟨x, hx⟩ := List.exists_mem_of_ne_nil _ h
  have h1 := csum_le (g := fun p q => (fun y => cr x y) q - (fun y => cr x y) p) (k := fun p q => mx C (sb q p)) (fun p q => by
    have := mx_le (f := sb q p) hx
    have e : cr x (sb q p) = cr x q - cr x p := by unfold cr sb; grind
    simp only
    omega) (cor D)
  rw [csum_tel] at h1
  exact h1
theorem area_nn {C : List Pt} (h : C ≠ []) : 0 ≤ area (cor C) := by rw [← around_self h]; exact around_nn h

theorem hm_x : Hm fun e => ab e.1 := by
  intro e f pe pf _
  have h1 := pe.nn
  have h2 := pf.nn
  show ab (e.1 + f.1) = ab e.1 + ab f.1
  unfold ab
  rw [if_neg (by omega), if_neg (by omega), if_neg (by omega)]
theorem hm_y : Hm fun e => ab e.2 := by
  intro e f pe pf h0
  have h1 := pe.nn
  have h2 := pf.nn
  show ab (e.2 + f.2) = ab e.2 + ab f.2
  have key : (0 ≤ e.2 ∧ 0 ≤ f.2) ∨ (e.2 ≤ 0 ∧ f.2 ≤ 0) := by
    unfold cr at h0
    rcases pe with pe | ⟨pe, pe2⟩
    · rcases pf with pf | ⟨pf, pf2⟩
      · rcases Int.lt_trichotomy e.2 0 with h | h | h
        · right
          refine ⟨Int.le_of_lt h, ?_⟩
          rcases Int.lt_or_le 0 f.2 with q | q
          · have := Int.mul_pos pe q
            have := Int.mul_neg_of_neg_of_pos h pf
            omega
          · exact q
        · rw [h] at h0 ⊢
          have : f.2 = 0 := by
            rcases Int.lt_trichotomy f.2 0 with q | q | q
            · have := Int.mul_neg_of_pos_of_neg pe q; omega
            · exact q
            · have := Int.mul_pos pe q; omega
          omega
        · left
          refine ⟨Int.le_of_lt h, ?_⟩
          rcases Int.lt_or_le f.2 0 with q | q
          · have := Int.mul_neg_of_pos_of_neg pe q
            have := Int.mul_pos h pf
            omega
          · exact q
      · rw [pf] at h0
        have := Int.mul_pos pe pf2
        omega
    · left
      rw [pe] at h0
      have : f.1 = 0 := by
        rcases Int.lt_or_le 0 f.1 with q | q
        · have := Int.mul_pos pe2 q; omega
        · omega
      unfold pos at pf
      omega
  unfold ab
  rcases key with ⟨k1, k2⟩ | ⟨k1, k2⟩
  · rw [if_neg (by omega), if_neg (by omega), if_neg (by omega)]
  · by_cases h3 : e.2 = 0 <;> by_cases h4 : f.2 = 0
    · rw [h3, h4]; rfl
    · rw [h3, Int.zero_add]; simp
    · rw [h4, Int.add_zero]; simp
    · rw [if_pos (by omega), if_pos (by omega), if_pos (by omega)]; omega
theorem ab_neg (a : Int) : ab (-a) = ab a := by unfold ab; split <;> split <;> omega
theorem fact_ax {P Q : List Pt} (h : P ≠ []) (h' : Q ≠ []) : ((steps (cor (sums (cor P) (cor Q)))).map fun e => ab e.1).sum = ((steps (cor P)).map fun e => ab e.1).sum + ((steps (cor Q)).map fun e => ab e.1).sum := by
  have := hom_chains (cor_ne h) (cor_ne h') (fun e => ab e.1) hm_x (fun e => ab_neg e.1) rfl
  rw [cor_cor h, cor_cor h'] at this
  rw [steps_csum, steps_csum, steps_csum]
  exact this
theorem fact_ay {P Q : List Pt} (h : P ≠ []) (h' : Q ≠ []) : ((steps (cor (sums (cor P) (cor Q)))).map fun e => ab e.2).sum = ((steps (cor P)).map fun e => ab e.2).sum + ((steps (cor Q)).map fun e => ab e.2).sum := by
  have := hom_chains (cor_ne h) (cor_ne h') (fun e => ab e.2) hm_y (fun e => ab_neg e.2) rfl
  rw [cor_cor h, cor_cor h'] at this
  rw [steps_csum, steps_csum, steps_csum]
  exact this
theorem cor_length {L : List Pt} (h : L ≠ []) : (cor L).length = max 1 ((lo L).length + (up L).length - 2) ∧ 1 ≤ (lo L).length ∧ 1 ≤ (up L).length := by
  rcases chains h with ⟨a, _, _, e, e', ec⟩ | ⟨a, z, s, s', _, _, _, _, e, e', _, _, ec⟩
  · rw [e, e', ec]; simp
  · rw [e, e', ec]; simp; omega
theorem fact_few {P Q : List Pt} (h : P ≠ []) (h' : Q ≠ []) : (cor (sums (cor P) (cor Q))).length ≤ max 1 (cor P).length + max 1 (cor Q).length := by
  have h1 := cor_length (sums_ne (cor_ne h) (cor_ne h'))
  have h2 := cor_length h
  have h3 := cor_length h'
  have l1 := (lo_sums (cor_ne h) (cor_ne h')).len
  have l2 := (up_sums (cor_ne h) (cor_ne h')).len
  rw [lo_cor h, lo_cor h'] at l1
  rw [up_cor h, up_cor h'] at l2
  omega
theorem fact_area {P Q : List Pt} (h : P ≠ []) (h' : Q ≠ []) : area (cor (sums (cor P) (cor Q))) = area (cor P) + area (cor Q) + around (cor Q) (cor P) + around (cor P) (cor Q) := by
  have := area_sums (cor_ne h) (cor_ne h')
  rwa [cor_cor h, cor_cor h'] at this
theorem fact_four {P : List Pt} (h : P ≠ []) : area (cor (sums (cor P) (cor P))) = 4 * area (cor P) := by
  rw [fact_area h h, around_self (cor_ne h), cor_cor h]
  omega
/-- each edge bears all -/
theorem cyc_sup {L : List Pt} (h : L ≠ []) : ∀ e ∈ cyc (cor L), Sup L e.1 e.2 := by
  obtain ⟨b, s, el, dS, _⟩ := lo_ok h
  obtain ⟨d, t, eu, dT, _⟩ := lo_ok (L := L.map ng) (by simpa using h)
  have eu : up L = d :: t := eu
  let g : Pt → Pt → Int := fun p q => if ∀ x ∈ L, 0 ≤ crs p q x then 0 else 1
  have g0 : ∀ p, g p p = 0 := fun p => if_pos fun x _ => by rw [crs_l]; omega
  have z1 : ∀ st, Dn L st → dsum g st = 0 := by
    intro st
    induction st with
    | nil => intro _; rfl
    | cons b st ih =>
      intro d
      cases st with
      | nil => rfl
      | cons a st =>
        rw [dsum, ih d.tail]
        have : g a b = 0 := if_pos d.2.2.1
        omega
  have z2 : ∀ st, Dn (L.map ng) st → dsum g (st.map ng) = 0 := by
    intro st
    induction st with
    | nil => intro _; rfl
    | cons b st ih =>
      intro d
      cases st with
      | nil => rfl
      | cons a st =>
        have := ih d.tail
        simp only [List.map_cons] at this ⊢
        rw [dsum, this]
        have : g (ng a) (ng b) = 0 := if_pos fun x hx => by
          have := d.2.2.1 (ng x) (mem_ng.mpr hx)
          rw [← ng_ng x, ng_crs]; exact this
        omega
  have z := csum_cor g g0 h
  rw [el, eu, z1 _ dS, z2 _ dT] at z
  have key : ∀ l : List (Pt × Pt), (l.map fun e => g e.1 e.2).sum = 0 → ∀ e ∈ l, g e.1 e.2 = 0 := by
    intro l
    have nn : ∀ p q, 0 ≤ g p q := fun p q => by show 0 ≤ (if _ then (0 : Int) else 1); split <;> omega
    have nns : ∀ l : List (Pt × Pt), 0 ≤ (l.map fun e => g e.1 e.2).sum := by
      intro l
      induction l with
      | nil => exact Int.le_refl _
      | cons e r ih => simp only [List.map_cons, List.sum_cons]; have := nn e.1 e.2; omega
    induction l with
    | nil => intro _ e he; cases he
    | cons e r ih =>
      intro hs e' he
      simp only [List.map_cons, List.sum_cons] at hs
      have h1 := nn e.1 e.2
      have h2 := nns r
      rcases List.mem_cons.mp he with rfl | he
      · omega
      · exact ih (by omega) e' he
  intro e he
  have := key _ z e he
  by_cases hc : ∀ x ∈ L, 0 ≤ crs e.1 e.2 x
  · exact hc
  · have : g e.1 e.2 = 1 := if_neg hc
    omega
end Mink

/-! PlI -/
namespace Mink
open PySem PySem.W PyProof.Rows PySem.Calls

theorem prod_le {p q s t : Int} (h1 : p ≤ s) (h1' : -s ≤ p) (h2 : q ≤ t) (h2' : -t ≤ q) : p * q ≤ s * t := by
  have e1 := Int.mul_nonneg (show 0 ≤ s - p by omega) (show 0 ≤ t + q by omega)
  have e2 := Int.mul_nonneg (show 0 ≤ s + p by omega) (show 0 ≤ t - q by omega)
  have : (s - p) * (t + q) + (s + p) * (t - q) = 2 * (s * t) - 2 * (p * q) := by grind
  omega
theorem le_of_mul {a b c : Int} (h : 0 < c) (h2 : c * a ≤ c * b) : a ≤ b := Int.le_of_mul_le_mul_left h2 h

section
variable {a3 a4 b3 b4 s1 s2 : Int}
/-- both bound by the second -/
theorem mk_alpha {w : Int} (p3 : 0 ≤ a3) (p4 : 0 ≤ a4) (q3 : 0 < b3) (q4 : 0 < b4) (n1 : 0 ≤ s1) (n2 : 0 ≤ s2) (h3 : a3 * s2 ≤ b3 * s1) (h4 : a4 * s2 ≤ b4 * s1) (hw : b3 * b4 * w ≤ s2 * s2) : w * (a3 * a4 + b3 * b4 + 2 * (a3 * b4)) ≤ (s1 + s2) * (s1 + s2) := by
  have k : 0 ≤ a3 * a4 + b3 * b4 + 2 * (a3 * b4) := by
    have := Int.mul_nonneg p3 p4
    have := Int.mul_pos q3 q4
    have := Int.mul_nonneg p3 (Int.le_of_lt q4)
    omega
  have e1 : (a3 * s2) * (a4 * s2) ≤ (b3 * s1) * (b4 * s1) := Int.mul_le_mul h3 h4 (Int.mul_nonneg p4 n2) (Int.mul_nonneg (Int.le_of_lt q3) n1)
  have e2 : (a3 * s2) * (b4 * s2) ≤ (b3 * s1) * (b4 * s2) := Int.mul_le_mul_of_nonneg_right h3 (Int.mul_nonneg (Int.le_of_lt q4) n2)
  have e3 := Int.mul_le_mul_of_nonneg_right hw k
  refine le_of_mul (Int.mul_pos q3 q4) ?_
  have i1 : b3 * b4 * (w * (a3 * a4 + b3 * b4 + 2 * (a3 * b4))) = b3 * b4 * w * (a3 * a4 + b3 * b4 + 2 * (a3 * b4)) := by grind
  have i2 : s2 * s2 * (a3 * a4 + b3 * b4 + 2 * (a3 * b4)) = (a3 * s2) * (a4 * s2) + b3 * b4 * (s2 * s2) + 2 * ((a3 * s2) * (b4 * s2)) := by grind
  have i3 : b3 * b4 * ((s1 + s2) * (s1 + s2)) = (b3 * s1) * (b4 * s1) + b3 * b4 * (s2 * s2) + 2 * ((b3 * s1) * (b4 * s2)) := by grind
  omega
/-- neither -/
theorem mk_gamma {w : Int} (D0 : 0 < a3 * b4 - a4 * b3) (p3 : 0 < a3) (q4 : 0 < b4) (p4 : 0 ≤ a4) (q3 : 0 ≤ b3) (hw : (a3 * b4 - a4 * b3) * (a3 * b4) * w ≤ 2 * (a3 * b4 * (s1 * s2)) - a3 * a4 * (s2 * s2) - b3 * b4 * (s1 * s1)) : w * (a3 * a4 + b3 * b4 + 2 * (a3 * b4)) ≤ (s1 + s2) * (s1 + s2) := by
  have k : 0 ≤ a3 * a4 + b3 * b4 + 2 * (a3 * b4) := by
    have := Int.mul_nonneg (Int.le_of_lt p3) p4
    have := Int.mul_nonneg q3 (Int.le_of_lt q4)
    have := Int.mul_pos p3 q4
    omega
  have e3 := Int.mul_le_mul_of_nonneg_right hw k
  refine le_of_mul (Int.mul_pos D0 (Int.mul_pos p3 q4)) ?_
  have sq : 0 ≤ ((a3 + b3) * b4 * s1 - (a4 + b4) * a3 * s2) * ((a3 + b3) * b4 * s1 - (a4 + b4) * a3 * s2) := PyProof.Rows.square_nonneg _
  have i : (a3 * b4 - a4 * b3) * (a3 * b4) * ((s1 + s2) * (s1 + s2)) - (2 * (a3 * b4 * (s1 * s2)) - a3 * a4 * (s2 * s2) - b3 * b4 * (s1 * s1)) * (a3 * a4 + b3 * b4 + 2 * (a3 * b4)) = ((a3 + b3) * b4 * s1 - (a4 + b4) * a3 * s2) * ((a3 + b3) * b4 * s1 - (a4 + b4) * a3 * s2) := by grind
  have i1 : (a3 * b4 - a4 * b3) * (a3 * b4) * (w * (a3 * a4 + b3 * b4 + 2 * (a3 * b4))) = (a3 * b4 - a4 * b3) * (a3 * b4) * w * (a3 * a4 + b3 * b4 + 2 * (a3 * b4)) := by grind
  omega

theorem k_zero {w : Int} (h : a3 * a4 + b3 * b4 + 2 * (a3 * b4) = 0) : w * (a3 * a4 + b3 * b4 + 2 * (a3 * b4)) ≤ (s1 + s2) * (s1 + s2) := by
  rw [h, Int.mul_zero]; exact PyProof.Rows.square_nonneg _
theorem mk_a {X3 X4 Y3 Y4 : Int} (p3 : 0 ≤ a3) (p4 : 0 ≤ a4) (q3 : 0 < b3) (q4 : 0 ≤ b4) (x3 : 0 ≤ X3) (x4 : 0 ≤ X4) (n1 : 0 ≤ s1) (n2 : 0 ≤ s2) (D0 : 0 ≤ a3 * b4 - a4 * b3) (l2 : b3 * X3 + b4 * X4 ≤ s2) (y32 : b3 * Y3 ≤ s2) (y42 : b4 * Y4 ≤ s2) (h3 : a3 * s2 ≤ b3 * s1) :
    (X3 * Y4 + X4 * Y3) * (a3 * a4 + b3 * b4 + 2 * (a3 * b4)) ≤ (s1 + s2) * (s1 + s2) := by
  by_cases hb : b4 = 0
  · subst hb
    have : a4 = 0 := by
      rcases Int.lt_or_le 0 a4 with h | h
      · have := Int.mul_pos h q3; omega
      · omega
    subst this
    exact k_zero (by simp)
  · have q4 : 0 < b4 := by omega
    refine mk_alpha p3 p4 q3 q4 n1 n2 h3 ?_ ?_
    · refine le_of_mul q3 ?_
      have e1 := Int.mul_le_mul_of_nonneg_right (show a4 * b3 ≤ a3 * b4 by omega) n2
      have e2 := Int.mul_le_mul_of_nonneg_left h3 (Int.le_of_lt q4)
      have i1 : b3 * (a4 * s2) = a4 * b3 * s2 := by grind
      have i2 : a3 * b4 * s2 = b4 * (a3 * s2) := by grind
      have i3 : b4 * (b3 * s1) = b3 * (b4 * s1) := by grind
      omega
    · have e1 := Int.mul_le_mul_of_nonneg_left y42 (Int.mul_nonneg (Int.le_of_lt q3) x3)
      have e2 := Int.mul_le_mul_of_nonneg_left y32 (Int.mul_nonneg (Int.le_of_lt q4) x4)
      have e3 := Int.mul_le_mul_of_nonneg_right l2 n2
      have i1 : b3 * b4 * (X3 * Y4 + X4 * Y3) = b3 * X3 * (b4 * Y4) + b4 * X4 * (b3 * Y3) := by grind
      have i2 : (b3 * X3 + b4 * X4) * s2 = b3 * X3 * s2 + b4 * X4 * s2 := by grind
      omega
theorem mk_hard {X3 X4 Y3 Y4 : Int} (p3 : 0 ≤ a3) (p4 : 0 ≤ a4) (q3 : 0 ≤ b3) (q4 : 0 ≤ b4) (x3 : 0 ≤ X3) (x4 : 0 ≤ X4) (n1 : 0 ≤ s1) (n2 : 0 ≤ s2) (D0 : 0 ≤ a3 * b4 - a4 * b3)
    (l1 : a3 * X3 + a4 * X4 ≤ s1) (l2 : b3 * X3 + b4 * X4 ≤ s2) (y31 : a3 * Y3 ≤ s1) (y41 : a4 * Y4 ≤ s1) (y32 : b3 * Y3 ≤ s2) (y42 : b4 * Y4 ≤ s2) :
    (X3 * Y4 + X4 * Y3) * (a3 * a4 + b3 * b4 + 2 * (a3 * b4)) ≤ (s1 + s2) * (s1 + s2) := by
  by_cases hα : 0 < b3 ∧ a3 * s2 ≤ b3 * s1
  · exact mk_a p3 p4 hα.1 q4 x3 x4 n1 n2 D0 l2 y32 y42 hα.2
  · by_cases hβ : 0 < a4 ∧ b4 * s1 ≤ a4 * s2
    · have := mk_a (a3 := b4) (a4 := b3) (b3 := a4) (b4 := a3) (s1 := s2) (s2 := s1) (X3 := X4) (X4 := X3) (Y3 := Y4) (Y4 := Y3) q4 q3 hβ.1 p3 x4 x3 n2 n1 (by have i1 : b4 * a3 = a3 * b4 := Int.mul_comm _ _; have i2 : b3 * a4 = a4 * b3 := Int.mul_comm _ _; omega) (by omega) y41 y31 hβ.2
      have i : (X4 * Y3 + X3 * Y4) * (b4 * b3 + a4 * a3 + 2 * (b4 * a3)) = (X3 * Y4 + X4 * Y3) * (a3 * a4 + b3 * b4 + 2 * (a3 * b4)) := by grind
      have i2 : (s2 + s1) * (s2 + s1) = (s1 + s2) * (s1 + s2) := by grind
      omega
    · by_cases ha : a3 = 0
      · subst ha
        have : b3 = 0 := by
          rcases Int.lt_or_le 0 b3 with h | h
          · exact (hα ⟨h, by have := Int.mul_nonneg q3 n1; omega⟩).elim
          · omega
        subst this
        exact k_zero (by simp)
      · by_cases hb : b4 = 0
        · subst hb
          have : a4 = 0 := by
            rcases Int.lt_or_le 0 a4 with h | h
            · exact (hβ ⟨h, by have := Int.mul_nonneg p4 n2; omega⟩).elim
            · omega
          subst this
          exact k_zero (by simp)
        · have p3 : 0 < a3 := by omega
          have q4 : 0 < b4 := by omega
          have g1 : b3 * s1 ≤ a3 * s2 := by
            by_cases h : 0 < b3
            · have := fun q => hα ⟨h, q⟩; omega
            · have : b3 = 0 := by omega
              subst this
              have := Int.mul_nonneg (Int.le_of_lt p3) n2; omega
          have g2 : a4 * s2 ≤ b4 * s1 := by
            by_cases h : 0 < a4
            · have := fun q => hβ ⟨h, q⟩; omega
            · have : a4 = 0 := by omega
              subst this
              have := Int.mul_nonneg (Int.le_of_lt q4) n1; omega
          have D1 : 0 < a3 * b4 - a4 * b3 := by
            rcases Int.lt_or_le 0 (a3 * b4 - a4 * b3) with h | h
            · exact h
            · exfalso
              have e : a4 * b3 = a3 * b4 := by omega
              have pp := Int.mul_pos p3 q4
              have hb3 : 0 < b3 := by
                rcases Int.lt_or_le 0 b3 with h | h
                · exact h
                · have : b3 = 0 := by omega
                  subst this; omega
              have ha4 : 0 < a4 := by
                rcases Int.lt_or_le 0 a4 with h | h
                · exact h
                · have : a4 = 0 := by omega
                  subst this; omega
              have g1 : b3 * s1 < a3 * s2 := by have := fun q => hα ⟨hb3, q⟩; omega
              have g2 : a4 * s2 < b4 * s1 := by have := fun q => hβ ⟨ha4, q⟩; omega
              have m1 := Int.mul_lt_mul_of_pos_left g1 ha4
              have m2 := Int.mul_lt_mul_of_pos_left g2 p3
              have i1 : a4 * (b3 * s1) = a4 * b3 * s1 := by grind
              have i2 : a3 * (b4 * s1) = a3 * b4 * s1 := by grind
              have i3 : a4 * (a3 * s2) = a3 * (a4 * s2) := by grind
              rw [e] at i1
              omega
          refine mk_gamma D1 p3 q4 p4 q3 ?_
          have e1 := Int.mul_le_mul_of_nonneg_left y42 (Int.mul_nonneg (Int.le_of_lt p3) x3)
          have e2 := Int.mul_le_mul_of_nonneg_left y31 (Int.mul_nonneg (Int.le_of_lt q4) x4)
          have i1 : a3 * b4 * (X3 * Y4 + X4 * Y3) = a3 * X3 * (b4 * Y4) + b4 * X4 * (a3 * Y3) := by grind
          have e3 : a3 * b4 * (X3 * Y4 + X4 * Y3) ≤ a3 * X3 * s2 + b4 * X4 * s1 := by omega
          have e4 := Int.mul_le_mul_of_nonneg_left e3 (Int.le_of_lt D1)
          have t1 := Int.mul_nonneg (Int.mul_nonneg (Int.le_of_lt q4) (show 0 ≤ a3 * s2 - b3 * s1 by omega)) (show 0 ≤ s1 - (a3 * X3 + a4 * X4) by omega)
          have t2 := Int.mul_nonneg (Int.mul_nonneg (Int.le_of_lt p3) (show 0 ≤ b4 * s1 - a4 * s2 by omega)) (show 0 ≤ s2 - (b3 * X3 + b4 * X4) by omega)
          have i2 : 2 * (a3 * b4 * (s1 * s2)) - a3 * a4 * (s2 * s2) - b3 * b4 * (s1 * s1) - (a3 * b4 - a4 * b3) * (a3 * X3 * s2 + b4 * X4 * s1) = b4 * (a3 * s2 - b3 * s1) * (s1 - (a3 * X3 + a4 * X4)) + a3 * (b4 * s1 - a4 * s2) * (s2 - (b3 * X3 + b4 * X4)) := by grind
          have i3 : (a3 * b4 - a4 * b3) * (a3 * b4) * (X3 * Y4 + X4 * Y3) = (a3 * b4 - a4 * b3) * (a3 * b4 * (X3 * Y4 + X4 * Y3)) := by grind
          omega

/-- what two sides of a sum bound -/
structure Bnd (a3 a4 s x3 x4 : Int) : Prop where
  u3 : a3 * x3 ≤ s
  d3 : -s ≤ a3 * x3
  u4 : a4 * x4 ≤ s
  d4 : -s ≤ a4 * x4
  u : a3 * x3 + a4 * x4 ≤ s
  d : -s ≤ a3 * x3 + a4 * x4
theorem Bnd.neg {a3 a4 s x3 x4 : Int} (b : Bnd a3 a4 s x3 x4) : Bnd a3 a4 s (-x3) (-x4) := by
  obtain ⟨h1, h2, h3, h4, h5, h6⟩ := b
  constructor <;> simp only [Int.mul_neg] <;> omega
theorem mk_sign {x3 x4 y3 y4 : Int} (p3 : 0 ≤ a3) (p4 : 0 ≤ a4) (q3 : 0 ≤ b3) (q4 : 0 ≤ b4) (n1 : 0 ≤ s1) (n2 : 0 ≤ s2) (D0 : 0 ≤ a3 * b4 - a4 * b3) (x1 : Bnd a3 a4 s1 x3 x4) (x2 : Bnd b3 b4 s2 x3 x4) (y1 : Bnd a3 a4 s1 y3 y4) (y2 : Bnd b3 b4 s2 y3 y4) (hx3 : 0 ≤ x3) (hx4 : 0 ≤ x4) :
    (x3 * y4 - x4 * y3) * (a3 * a4 + b3 * b4 + 2 * (a3 * b4)) ≤ (s1 + s2) * (s1 + s2) := by
  have := mk_hard (Y3 := -y3) (Y4 := y4) p3 p4 q3 q4 hx3 hx4 n1 n2 D0 x1.u x2.u (by rw [Int.mul_neg]; have := y1.d3; omega) y1.u4 (by rw [Int.mul_neg]; have := y2.d3; omega) y2.u4
  have i : x3 * y4 + x4 * -y3 = x3 * y4 - x4 * y3 := by grind
  rwa [i] at this
theorem mk_all {x3 x4 y3 y4 : Int} (p3 : 0 ≤ a3) (p4 : 0 ≤ a4) (q3 : 0 ≤ b3) (q4 : 0 ≤ b4) (n1 : 0 ≤ s1) (n2 : 0 ≤ s2) (D0 : 0 ≤ a3 * b4 - a4 * b3) (x1 : Bnd a3 a4 s1 x3 x4) (x2 : Bnd b3 b4 s2 x3 x4) (y1 : Bnd a3 a4 s1 y3 y4) (y2 : Bnd b3 b4 s2 y3 y4) :
    (x3 * y4 - x4 * y3) * (a3 * a4 + b3 * b4 + 2 * (a3 * b4)) ≤ (s1 + s2) * (s1 + s2) := by
  by_cases hx : (0 ≤ x3 ∧ 0 ≤ x4)
  · exact mk_sign p3 p4 q3 q4 n1 n2 D0 x1 x2 y1 y2 hx.1 hx.2
  by_cases hx' : (x3 ≤ 0 ∧ x4 ≤ 0)
  · have := mk_sign p3 p4 q3 q4 n1 n2 D0 x1.neg x2.neg y1.neg y2.neg (by omega) (by omega)
    have i : -x3 * -y4 - -x4 * -y3 = x3 * y4 - x4 * y3 := by grind
    rwa [i] at this
  by_cases hy : (0 ≤ y3 ∧ 0 ≤ y4)
  · have := mk_sign p3 p4 q3 q4 n1 n2 D0 y1 y2 x1.neg x2.neg hy.1 hy.2
    have i : y3 * -x4 - y4 * -x3 = x3 * y4 - x4 * y3 := by grind
    rwa [i] at this
  by_cases hy' : (y3 ≤ 0 ∧ y4 ≤ 0)
  · have := mk_sign p3 p4 q3 q4 n1 n2 D0 y1.neg y2.neg x1 x2 (by omega) (by omega)
    have i : -y3 * x4 - -y4 * x3 = x3 * y4 - x4 * y3 := by grind
    rwa [i] at this
  -- the signs differ in both
  have k1 := Int.mul_nonneg p3 p4
  have k2 := Int.mul_nonneg q3 q4
  have k3 := Int.mul_nonneg p3 q4
  have k : 0 ≤ a3 * a4 + b3 * b4 + 2 * (a3 * b4) := by omega
  have i0 : (s1 + s2) * (s1 + s2) = s1 * s1 + s2 * s2 + 2 * (s1 * s2) := by grind
  have one : (x3 * y4) * (a3 * a4 + b3 * b4 + 2 * (a3 * b4)) ≤ (s1 + s2) * (s1 + s2) := by
    have e1 := prod_le x1.u3 x1.d3 y1.u4 y1.d4
    have e2 := prod_le x2.u3 x2.d3 y2.u4 y2.d4
    have e3 := prod_le x1.u3 x1.d3 y2.u4 y2.d4
    have i : (x3 * y4) * (a3 * a4 + b3 * b4 + 2 * (a3 * b4)) = a3 * x3 * (a4 * y4) + b3 * x3 * (b4 * y4) + 2 * (a3 * x3 * (b4 * y4)) := by grind
    omega
  have two : (-(x4 * y3)) * (a3 * a4 + b3 * b4 + 2 * (a3 * b4)) ≤ (s1 + s2) * (s1 + s2) := by
    have e1 := prod_le y1.neg.u3 y1.neg.d3 x1.u4 x1.d4
    have e2 := prod_le y2.neg.u3 y2.neg.d3 x2.u4 x2.d4
    have e3 := prod_le y1.neg.u3 y1.neg.d3 x2.u4 x2.d4
    have i : (-(x4 * y3)) * (a3 * a4 + b3 * b4 + 2 * (a3 * b4)) = a3 * -y3 * (a4 * x4) + b3 * -y3 * (b4 * x4) + 2 * (a3 * -y3 * (b4 * x4)) := by grind
    omega
  have less : x3 * y4 - x4 * y3 ≤ x3 * y4 ∨ x3 * y4 - x4 * y3 ≤ -(x4 * y3) := by
    rcases Int.lt_or_le 0 x3 with h | h
    · have h4 : x4 < 0 := by omega
      rcases Int.lt_or_le 0 y3 with g | g
      · right
        have := Int.mul_neg_of_pos_of_neg h (show y4 < 0 by omega)
        omega
      · left
        have := Int.mul_nonneg_of_nonpos_of_nonpos (Int.le_of_lt h4) g
        omega
    · have h4 : 0 < x4 := by omega
      rcases Int.lt_or_le 0 y3 with g | g
      · left
        have := Int.mul_pos h4 g
        omega
      · right
        have := Int.mul_nonpos_of_nonpos_of_nonneg h (show 0 ≤ y4 by omega)
        omega
  rcases less with h | h
  · have := Int.mul_le_mul_of_nonneg_right h k; omega
  · have := Int.mul_le_mul_of_nonneg_right h k; omega
end
end Mink

/-! PlJ -/
namespace Mink
open PySem PySem.W PyProof.Rows PySem.Calls

theorem quad0 {C : List Pt} {c0 c1 c2 c3 f1 f2 f3 f4 : Pt} (m0 : c0 ∈ C) (m1 : c1 ∈ C) (m2 : c2 ∈ C) (m3 : c3 ∈ C) (z1 : f1.1 + f2.1 + f3.1 + f4.1 = 0) (z2 : f1.2 + f2.2 + f3.2 + f4.2 = 0)
    (ha : 0 ≤ cr f1 f2) (hb : cr f1 f2 ≤ cr f2 f3) (hd : cr f1 f2 ≤ cr f4 f1) {S : Int} (hS : S = mx C f1 + mx C f2 + mx C f3 + mx C f4) : cr (sb c2 c0) (sb c3 c1) * (cr f1 f2 + cr f3 f4) ≤ S * S := by
  have e1 : f1.1 = -(f2.1 + f3.1 + f4.1) := by omega
  have e2 : f1.2 = -(f2.2 + f3.2 + f4.2) := by omega
  have r1 : cr f1 f3 = cr f4 f1 - cr f1 f2 := by unfold cr; rw [e1, e2]; grind
  have r2 : cr f4 f2 = cr f2 f3 - cr f1 f2 := by unfold cr; rw [e1, e2]; grind
  have r3 : cr f3 f4 = cr f2 f3 + cr f4 f1 - cr f1 f2 := by unfold cr; rw [e1, e2]; grind
  rcases Int.lt_or_le 0 (cr f3 f4) with hc | hc
  · -- the two sums
    have low1 : ∀ p ∈ C, ∀ q ∈ C, ∀ r ∈ C, cr f4 f1 * (cr q f3 - cr p f3) + cr f1 f3 * (cr r f4 - cr p f4) ≤ cr f3 f4 * mx C f1 + cr f4 f1 * mx C f3 + cr f1 f3 * mx C f4 := by
      intro p hp q hq r hr
      have k1 := Int.mul_le_mul_of_nonneg_left (mx_le (f := f1) hp) (Int.le_of_lt hc)
      have k2 := Int.mul_le_mul_of_nonneg_left (mx_le (f := f3) hq) (show 0 ≤ cr f4 f1 by omega)
      have k3 := Int.mul_le_mul_of_nonneg_left (mx_le (f := f4) hr) (show 0 ≤ cr f1 f3 by omega)
      have i : cr f3 f4 * cr p f1 = -(cr f4 f1 * cr p f3 + cr f1 f3 * cr p f4) := by unfold cr; grind
      simp only [Int.mul_sub]
      omega
    have low2 : ∀ p ∈ C, ∀ q ∈ C, ∀ r ∈ C, cr f4 f2 * (cr q f3 - cr p f3) + cr f2 f3 * (cr r f4 - cr p f4) ≤ cr f3 f4 * mx C f2 + cr f4 f2 * mx C f3 + cr f2 f3 * mx C f4 := by
      intro p hp q hq r hr
      have k1 := Int.mul_le_mul_of_nonneg_left (mx_le (f := f2) hp) (Int.le_of_lt hc)
      have k2 := Int.mul_le_mul_of_nonneg_left (mx_le (f := f3) hq) (show 0 ≤ cr f4 f2 by omega)
      have k3 := Int.mul_le_mul_of_nonneg_left (mx_le (f := f4) hr) (show 0 ≤ cr f2 f3 by omega)
      have i : cr f3 f4 * cr p f2 = -(cr f4 f2 * cr p f3 + cr f2 f3 * cr p f4) := by unfold cr; grind
      simp only [Int.mul_sub]
      omega
    have bnd : ∀ {a3 a4 s : Int} {p q : Pt}, p ∈ C → q ∈ C → (∀ p ∈ C, ∀ q ∈ C, ∀ r ∈ C, a3 * (cr q f3 - cr p f3) + a4 * (cr r f4 - cr p f4) ≤ s) → Bnd a3 a4 s (cr (sb q p) f3) (cr (sb q p) f4) := by
      intro a3 a4 s p q hp hq low
      have x3 : cr (sb q p) f3 = cr q f3 - cr p f3 := by unfold cr sb; grind
      have x4 : cr (sb q p) f4 = cr q f4 - cr p f4 := by unfold cr sb; grind
      rw [x3, x4]
      have k1 := low p hp q hq p hp
      have k2 := low q hq p hp q hq
      have k3 := low p hp p hp q hq
      have k4 := low q hq q hq p hp
      have k5 := low p hp q hq q hq
      have k6 := low q hq p hp p hp
      simp only [Int.mul_sub] at *
      constructor <;> simp only [Int.mul_sub] <;> omega
    have n1 := low1 c0 m0 c0 m0 c0 m0
    have n2 := low2 c0 m0 c0 m0 c0 m0
    simp only [Int.sub_self, Int.mul_zero, Int.add_zero] at n1 n2
    have D0 : 0 ≤ cr f4 f1 * cr f2 f3 - cr f1 f3 * cr f4 f2 := by
      have : cr f4 f1 * cr f2 f3 - cr f1 f3 * cr f4 f2 = cr f1 f2 * cr f3 f4 := by rw [r1, r2, r3]; grind
      have := Int.mul_nonneg ha (Int.le_of_lt hc)
      omega
    have fin := mk_all (show 0 ≤ cr f4 f1 by omega) (show 0 ≤ cr f1 f3 by omega) (show 0 ≤ cr f4 f2 by omega) (show 0 ≤ cr f2 f3 by omega) n1 n2 D0 (bnd m0 m2 low1) (bnd m0 m2 low2) (bnd m1 m3 low1) (bnd m1 m3 low2)
    have i1 : cr (sb c2 c0) f3 * cr (sb c3 c1) f4 - cr (sb c2 c0) f4 * cr (sb c3 c1) f3 = cr (sb c2 c0) (sb c3 c1) * cr f3 f4 := by unfold cr; grind
    have i2 : cr f4 f1 * cr f1 f3 + cr f4 f2 * cr f2 f3 + 2 * (cr f4 f1 * cr f2 f3) = cr f3 f4 * (cr f1 f2 + cr f3 f4) := by rw [r1, r2, r3]; grind
    have i3 : cr f3 f4 * mx C f1 + cr f4 f1 * mx C f3 + cr f1 f3 * mx C f4 + (cr f3 f4 * mx C f2 + cr f4 f2 * mx C f3 + cr f2 f3 * mx C f4) = cr f3 f4 * S := by rw [hS, r1, r2, r3]; grind
    rw [i1, i2, i3] at fin
    refine le_of_mul (Int.mul_pos hc hc) ?_
    have i4 : cr f3 f4 * cr f3 f4 * (cr (sb c2 c0) (sb c3 c1) * (cr f1 f2 + cr f3 f4)) = cr (sb c2 c0) (sb c3 c1) * cr f3 f4 * (cr f3 f4 * (cr f1 f2 + cr f3 f4)) := by grind
    have i5 : cr f3 f4 * cr f3 f4 * (S * S) = cr f3 f4 * S * (cr f3 f4 * S) := by grind
    omega
  · have : cr f1 f2 + cr f3 f4 = 0 := by omega
    rw [this, Int.mul_zero]
    exact PyProof.Rows.square_nonneg S
theorem quad {C : List Pt} {c0 c1 c2 c3 f1 f2 f3 f4 : Pt} (m0 : c0 ∈ C) (m1 : c1 ∈ C) (m2 : c2 ∈ C) (m3 : c3 ∈ C) (z1 : f1.1 + f2.1 + f3.1 + f4.1 = 0) (z2 : f1.2 + f2.2 + f3.2 + f4.2 = 0)
    (ha : 0 ≤ cr f1 f2) (hb : 0 ≤ cr f2 f3) (hc : 0 ≤ cr f3 f4) (hd : 0 ≤ cr f4 f1) {S : Int} (hS : S = mx C f1 + mx C f2 + mx C f3 + mx C f4) : cr (sb c2 c0) (sb c3 c1) * (cr f1 f2 + cr f3 f4) ≤ S * S := by
  have e1 : f1.1 = -(f2.1 + f3.1 + f4.1) := by omega
  have e2 : f1.2 = -(f2.2 + f3.2 + f4.2) := by omega
  have r3 : cr f1 f2 + cr f3 f4 = cr f2 f3 + cr f4 f1 := by unfold cr; rw [e1, e2]; grind
  have least : (cr f1 f2 ≤ cr f2 f3 ∧ cr f1 f2 ≤ cr f4 f1) ∨ (cr f2 f3 ≤ cr f3 f4 ∧ cr f2 f3 ≤ cr f1 f2) ∨ (cr f3 f4 ≤ cr f4 f1 ∧ cr f3 f4 ≤ cr f2 f3) ∨ (cr f4 f1 ≤ cr f1 f2 ∧ cr f4 f1 ≤ cr f3 f4) := by omega
  rcases least with ⟨h1, h2⟩ | ⟨h1, h2⟩ | ⟨h1, h2⟩ | ⟨h1, h2⟩
  · exact quad0 m0 m1 m2 m3 z1 z2 ha h1 h2 hS
  · rw [r3]
    exact quad0 (f1 := f2) (f2 := f3) (f3 := f4) (f4 := f1) m0 m1 m2 m3 (by omega) (by omega) hb h1 h2 (by omega)
  · rw [Int.add_comm (cr f1 f2)]
    exact quad0 (f1 := f3) (f2 := f4) (f3 := f1) (f4 := f2) m0 m1 m2 m3 (by omega) (by omega) hc h1 h2 (by omega)
  · rw [r3, Int.add_comm (cr f2 f3)]
    exact quad0 (f1 := f4) (f2 := f1) (f3 := f2) (f4 := f3) m0 m1 m2 m3 (by omega) (by omega) hd h1 h2 (by omega)

theorem four_of {C : List Pt} (h : C ≠ []) (h4 : C.length ≤ 4) : ∃ c0 c1 c2 c3, c0 ∈ C ∧ c1 ∈ C ∧ c2 ∈ C ∧ c3 ∈ C ∧ area C = cr (sb c2 c0) (sb c3 c1) := by
  match C, h, h4 with
  | [a], _, _ => exact ⟨a, a, a, a, by simp, by simp, by simp, by simp, by show ar2 a a + 0 = _; unfold ar2 cr sb; grind⟩
  | [a, b], _, _ => exact ⟨a, a, a, a, by simp, by simp, by simp, by simp, by show ar2 b a + (ar2 a b + 0) = _; unfold ar2 cr sb; grind⟩
  | [a, b, c], _, _ => exact ⟨a, b, c, c, by simp, by simp, by simp, by simp, by show ar2 c a + (ar2 a b + (ar2 b c + 0)) = _; unfold ar2 cr sb; grind⟩
  | [a, b, c, d], _, _ => exact ⟨a, b, c, d, by simp, by simp, by simp, by simp, by show ar2 d a + (ar2 a b + (ar2 b c + (ar2 c d + 0))) = _; unfold ar2 cr sb; grind⟩
  | a :: b :: c :: d :: e :: r, _, h4 => simp at h4
theorem edges_of {Q : List Pt} (h : Q ≠ []) (h4 : (cor Q).length ≤ 4) : ∃ f1 f2 f3 f4 : Pt, f1.1 + f2.1 + f3.1 + f4.1 = 0 ∧ f1.2 + f2.2 + f3.2 + f4.2 = 0 ∧ 0 ≤ cr f1 f2 ∧ 0 ≤ cr f2 f3 ∧ 0 ≤ cr f3 f4 ∧ 0 ≤ cr f4 f1 ∧ area (cor Q) = cr f1 f2 + cr f3 f4 ∧
    ∀ k : Pt → Int, k (0, 0) = 0 → csum (fun p q => k (sb q p)) (cor Q) = k f1 + k f2 + k f3 + k f4 := by
  have sup := cyc_sup h
  have mem := cor_mem Q
  have ne := cor_ne h
  generalize hD : cor Q = D at *
  have self : ∀ p : Pt, sb p p = (0, 0) := fun p => by unfold sb; simp
  match D, ne, h4 with
  | [a], _, _ =>
    refine ⟨(0, 0), (0, 0), (0, 0), (0, 0), rfl, rfl, by decide, by decide, by decide, by decide, ?_, fun k k0 => ?_⟩
    · show ar2 a a + 0 = _; unfold ar2 cr; grind
    · show k (sb a a) + 0 = _; rw [self]; omega
  | [a, b], _, _ =>
    refine ⟨sb a b, sb b a, (0, 0), (0, 0), by unfold sb; simp only; omega, by unfold sb; simp only; omega, ?_, ?_, ?_, ?_, ?_, fun k k0 => ?_⟩
    · have : cr (sb a b) (sb b a) = 0 := by unfold cr sb; grind
      omega
    · rw [cr_zero]; omega
    · rw [cr_zero]; omega
    · have : cr (0, 0) (sb a b) = 0 := by unfold cr; grind
      omega
    · show ar2 b a + (ar2 a b + 0) = _; unfold ar2 cr sb; grind
    · show k (sb a b) + (k (sb b a) + 0) = _; omega
  | [a, b, c], _, _ =>
    have s1 := sup (c, a) (by show _ ∈ [(c, a), (a, b), (b, c)]; simp) b (mem b (by simp))
    have s2 := sup (a, b) (by show _ ∈ [(c, a), (a, b), (b, c)]; simp) c (mem c (by simp))
    refine ⟨sb a c, sb b a, sb c b, (0, 0), by unfold sb; simp only; omega, by unfold sb; simp only; omega, ?_, ?_, ?_, ?_, ?_, fun k k0 => ?_⟩
    · have : cr (sb a c) (sb b a) = crs c a b := by unfold cr sb crs; grind
      simp only at s1; omega
    · have : cr (sb b a) (sb c b) = crs a b c := by unfold cr sb crs; grind
      simp only at s2; omega
    · rw [cr_zero]; omega
    · have : cr (0, 0) (sb a c) = 0 := by unfold cr; grind
      omega
    · show ar2 c a + (ar2 a b + (ar2 b c + 0)) = _; unfold ar2 cr sb; grind
    · show k (sb a c) + (k (sb b a) + (k (sb c b) + 0)) = _; omega
  | [a, b, c, d], _, _ =>
    have s1 := sup (d, a) (by show _ ∈ [(d, a), (a, b), (b, c), (c, d)]; simp) b (mem b (by simp))
    have s2 := sup (a, b) (by show _ ∈ [(d, a), (a, b), (b, c), (c, d)]; simp) c (mem c (by simp))
    have s3 := sup (b, c) (by show _ ∈ [(d, a), (a, b), (b, c), (c, d)]; simp) d (mem d (by simp))
    have s4 := sup (c, d) (by show _ ∈ [(d, a), (a, b), (b, c), (c, d)]; simp) a (mem a (by simp))
    simp only at s1 s2 s3 s4
    refine ⟨sb a d, sb b a, sb c b, sb d c, by unfold sb; simp only; omega, by unfold sb; simp only; omega, ?_, ?_, ?_, ?_, ?_, fun k k0 => ?_⟩
    · have : cr (sb a d) (sb b a) = crs d a b := by unfold cr sb crs; grind
      omega
    · have : cr (sb b a) (sb c b) = crs a b c := by unfold cr sb crs; grind
      omega
    · have : cr (sb c b) (sb d c) = crs b c d := by unfold cr sb crs; grind
      omega
    · have : cr (sb d c) (sb a d) = crs c d a := by unfold cr sb crs; grind
      omega
    · show ar2 d a + (ar2 a b + (ar2 b c + (ar2 c d + 0))) = _; unfold ar2 cr sb; grind
    · show k (sb a d) + (k (sb b a) + (k (sb c b) + (k (sb d c) + 0))) = _; omega
  | a :: b :: c :: d :: e :: r, _, h4 => simp at h4
theorem mx_zero {C : List Pt} (h : C ≠ []) : mx C (0, 0) = 0 := by
  obtain ⟨p, _, e⟩ := mx_at (0, 0) h
  rw [e, cr_zero]
theorem mink_one {P Q : List Pt} (h : P ≠ []) (h' : Q ≠ []) (h4 : (cor P).length ≤ 4) (h4' : (cor Q).length ≤ 4) : area (cor P) * area (cor Q) ≤ around (cor P) (cor Q) * around (cor P) (cor Q) := by
  obtain ⟨c0, c1, c2, c3, m0, m1, m2, m3, ea⟩ := four_of (cor_ne h) h4
  obtain ⟨f1, f2, f3, f4, z1, z2, p1, p2, p3, p4, eb, ek⟩ := edges_of h' h4'
  have hS := ek (mx (cor P)) (mx_zero (cor_ne h))
  have e : around (cor P) (cor Q) = mx (cor P) f1 + mx (cor P) f2 + mx (cor P) f3 + mx (cor P) f4 := by
    unfold around
    rw [cor_cor h']
    exact hS
  rw [ea, eb]
  exact quad m0 m1 m2 m3 z1 z2 p1 p2 p3 p4 e

theorem facts_of {P Q : List Pt} (h : P ≠ []) (h' : Q ≠ []) (h4 : P.length ≤ 4) (h4' : Q.length ≤ 4) (t : ∀ p ∈ P, Ti p) (t' : ∀ p ∈ Q, Ti p) : Facts (cor P) (cor Q) (cor (sums (cor P) (cor Q))) := by
  have l := Nat.le_trans (cor_few h) h4
  have l' := Nat.le_trans (cor_few h') h4'
  have ea := fact_area h h'
  have n1 := around_nn (D := cor P) (cor_ne h')
  have n2 := around_nn (D := cor Q) (cor_ne h)
  have a1 := area_nn h
  have a2 := area_nn h'
  have k1 := mink_one h' h l' l
  have k2 := mink_one h h' l l'
  refine ⟨l, l', fun p hp => t p (cor_mem P p hp), fun p hp => t' p (cor_mem Q p hp), rfl, fact_turned (cor_ne h) (cor_ne h'), a1, a2, ?_, ?_, ?_, fact_four h, fact_nine h, fact_zx _, fact_zy _, fact_ax h h', fact_ay h h', fact_few h h', fact_moved _ _⟩
  · omega
  · omega
  · have e : area (cor (sums (cor P) (cor Q))) - area (cor P) - area (cor Q) = around (cor Q) (cor P) + around (cor P) (cor Q) := by omega
    rw [e]
    generalize around (cor Q) (cor P) = x at *
    generalize around (cor P) (cor Q) = y at *
    generalize area (cor P) = u at *
    generalize area (cor Q) = v at *
    have i1 : (x + y) * (x + y) = x * x + y * y + 2 * (x * y) := by grind
    have i2 : 4 * u * v = 4 * (u * v) := by grind
    have i3 : v * u = u * v := Int.mul_comm _ _
    rcases Int.le_total x y with g | g
    · have := Int.mul_le_mul_of_nonneg_left g n1
      omega
    · have := Int.mul_le_mul_of_nonneg_right g n2
      omega
theorem all_facts (ns : List Int) : Facts (cor (ptsOf ns 0)) (cor (ptsOf ns 1)) (cor (sums (cor (ptsOf ns 0)) (cor (ptsOf ns 1)))) := by
  have ne : ∀ k, k < 2 → ptsOf ns k ≠ [] := fun k hk e => by
    have : (ptsOf ns k).length = 0 := by rw [e]; rfl
    have nl := nums_len ns
    simp [ptsOf] at this
    omega
  exact facts_of (ne 0 (by decide)) (ne 1 (by decide)) (ptsOf_len ns 0) (ptsOf_len ns 1) (pts_ti ns 0) (pts_ti ns 1)
end Mink

/-! MkEnd -/
set_option maxRecDepth 100000
set_option maxHeartbeats 8000000
namespace Mink
open PySem PySem.W PyProof.Rows PySem.Calls
theorem post_ok (args : List WData) : PySem.Challenge.rw_ic0004_01.row.claim.post args (.bool true) args = true := by
  with_unfolding_all rfl
/-- the walk and the plain law, behind the head -/
theorem finish {w : World} {s₁ : Shared} {K : Frag} {mg mb : Str → Option Value} {p : Program} {loose : List Str} {mean : ExcName → Option Value} {ns : List Int} {vs : List Value} {ls fa : Addr} {h₁ : Heap} {tk : Nat} {m : Str → Option Value} {cd : Value} {o₁ o₂ o₃ o₄ : Obj} {v₁ v₂ v₃ v₄ : Option Value} {Q : Flow → Shared → Prop} {E : Value → Shared → Prop}
    (X : K.In s₁.heap) (T : Top p loose mean mg mb s₁.heap) (hL : s₁.heap.IsList ls vs.toArray) (hI : IntsAre vs ns) (hn : ¬ ((63 : Nat) : Int) < ns.length) (F : Fr s₁.heap s₁.heap.objs.size h₁ m)
    (N : News s₁.heap s₁.heap.objs.size h₁ [(s₁.heap.objs.size + 1 + 1 + 1 + 1, o₄), (s₁.heap.objs.size + 1 + 1 + 1, o₃), (s₁.heap.objs.size + 1 + 1, o₂), (s₁.heap.objs.size + 1, o₁)]) (e : m "script" = some (.ref ls))
    (d₁ : o₁.data = .cell v₁) (d₂ : o₂.data = .cell v₂) (d₃ : o₃.data = .cell v₃) (d₄ : o₄.data = .cell v₄)
    (hW : ∀ (h : Heap), K.In h → h.Ns mainGlobals mg → h.Ns builtinsNs mb → h.NoLimit → (∀ x : Str, x ≠ "__name__" → mb x = bootBuiltins x) → World' h mg mb)
    (hQ : ∀ h' k', Gr [] s₁.heap h' → Q (.ret (.bool true)) { s₁ with heap := h', toks := k' }) :
    wpAny (model PySem.Challenge.rw_ic0004_01.row.prog w) (callerA.deeper (env12 s₁.heap.objs.size fa cd)) (execs (bodyOf 12) (env12 s₁.heap.objs.size fa cd)) Q E { s₁ with heap := h₁, toks := tk } := by
  have W := hW _ X T.g T.b T.nolimit T.builtins
  have U : Gr [] s₁.heap h₁ := .of_keeps F.keep
  refine (law_0 (c := ⟨_, w, s₁⟩) (L := s₁.heap.objs.size) (m := m) (v₁ := v₁) (v₂ := v₂) (v₃ := v₃) (v₄ := v₄) W ?_ U ?_ F.ns e ?_ ?_ ?_ ?_ (U.lst hL (by simp)) hI (by omega) (all_facts ns)).into (k := tk) ?_
  · exact ⟨rfl, show callerA.depth + 1 + 6 < recursionLimit by decide, show callerA.units + 3 + 100 * 6 + 100 < cLine by decide⟩
  · exact fun i _ => Heap.get?_none_of_le (Nat.le_add_right _ _)
  · exact ⟨o₁, (N (s₁.heap.objs.size + 1, o₁) (by simp)).1, d₁⟩
  · exact ⟨o₂, (N (s₁.heap.objs.size + 1 + 1, o₂) (by simp)).1, d₂⟩
  · exact ⟨o₃, (N (s₁.heap.objs.size + 1 + 1 + 1, o₃) (by simp)).1, d₃⟩
  · exact ⟨o₄, (N (s₁.heap.objs.size + 1 + 1 + 1 + 1, o₄) (by simp)).1, d₄⟩
  · rintro f h' k' ⟨rfl, g⟩
    exact hQ h' k' g
end Mink
open PySem PySem.W PyProof.Rows

theorem PySem.Challenge.cw_ic0004_01_holds : PySem.Challenge.rw_ic0004_01.Holds := by
  w_on
  o_law
  k_head
  case hw => w_witness2
  k_go0
  all_goals try k_fold
  rename_i h₁ tk₁ F o₄ o₃ o₂ o₁ d₄ d₃ d₂ d₁ N0 X0
  refine Mink.finish (by assumption) (by assumption) (by assumption) (by assumption) (by assumption) F N0 ?_ d₁ d₂ d₃ d₄ ?_ ?_
  · rfl
  · intro h X g b lim bb
    exact {
      T := ⟨g, b, lim⟩
      bis := ⟨32, mg_of X g (by rfl), ⟨_, _, _, _, _, _, _, _, X 32 _ (by rfl), (by rfl), codeRec_of X (by rfl), ⟨fun c h' a x t U => ⟨[("a", a), ("x", x), ("lo", .int 0 t), ("hi", .none), ("key", .none)], fun k => kp_binds (X.keeps U.keeps) (fun S => by rfl), locs rfl, rfl, rfl, rfl, rfl, rfl⟩,
        fun c h' a x U => ⟨[("a", a), ("x", x), ("lo", .int 0 _), ("hi", .none), ("key", .none)], _, fun k => kp_binds (X.keeps U.keeps) (fun S => by rfl), locs rfl, rfl, rfl, rfl, rfl, rfl⟩⟩⟩, mg_none_of X g (by rfl)⟩
      ins := ⟨23, mg_of X g (by rfl), ⟨_, _, _, _, _, _, _, _, X 23 _ (by rfl), (by rfl), codeRec_of X (by rfl), ⟨fun c h' a x U => ⟨[("a", a), ("x", x), ("lo", .int 0 _), ("hi", .none), ("key", .none)], _, fun k => kp_binds (X.keeps U.keeps) (fun S => by rfl), locs rfl, rfl, rfl, rfl, rfl, rfl⟩⟩⟩⟩
      cross := ⟨53, mg_of X g (by rfl), ⟨_, _, _, _, _, _, X 53 _ (by rfl), (by rfl), codeRec_of X (by rfl)⟩⟩
      corners := ⟨60, mg_of X g (by rfl), ⟨_, _, _, _, _, _, X 60 _ (by rfl), (by rfl), codeRec_of X (by rfl)⟩⟩
      area := ⟨65, mg_of X g (by rfl), ⟨_, _, _, _, _, _, X 65 _ (by rfl), (by rfl), codeRec_of X (by rfl)⟩⟩
      steps := ⟨70, mg_of X g (by rfl), ⟨_, _, _, _, _, _, X 70 _ (by rfl), (by rfl), codeRec_of X (by rfl)⟩⟩
      sum := ⟨75, mg_of X g (by rfl), ⟨_, _, _, _, _, _, X 75 _ (by rfl), (by rfl), codeRec_of X (by rfl)⟩⟩
      addc := ⟨46, mg_of X g (by rfl), ⟨_, _, _, _, _, _, X 46 _ (by rfl), (by rfl), codeRec_of X (by rfl)⟩⟩
      addf := ⟨39, mg_of X g (by rfl), ⟨_, _, _, _, _, _, X 39 _ (by rfl), (by rfl), codeRec_of X (by rfl)⟩⟩
      none := by
        intro x hx
        simp only [List.mem_cons, List.not_mem_nil, or_false] at hx
        rcases hx with rfl | rfl | rfl | rfl | rfl | rfl | rfl | rfl <;> exact mg_none_of X g (by rfl)
      len := (bb _ (by decide)).trans (by decide +kernel)
      sorted := (bb _ (by decide)).trans (by decide +kernel)
      bsum := (bb _ (by decide)).trans (by decide +kernel)
      range := (bb _ (by decide)).trans (by decide +kernel)
      abs := (bb _ (by decide)).trans (by decide +kernel)
      min := (bb _ (by decide)).trans (by decide +kernel)
      max := (bb _ (by decide)).trans (by decide +kernel)
      tuple := (bb _ (by decide)).trans (by decide +kernel) }
  · intro h' k' g
    exact ⟨.inl ⟨.bool true, .bool true, [], rfl, fun _ => rfl, .bool true, Mink.post_ok _, fun _ => ⟨List.nodup_nil, fun _ m => nomatch m⟩⟩, g.keeps, rfl, by assumption⟩
