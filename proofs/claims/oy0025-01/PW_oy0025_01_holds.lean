import PyProof.Rows.All
import Wide.All
import OpenK.AllK
import Wide.FinOn
import PySem.Challenge.RW_oy0025_01
open PySem PySem.W PyProof.Rows
set_option Elab.async false
set_option maxRecDepth 100000
set_option maxHeartbeats 8000000
set_option linter.all false
namespace Mine
open_top hd for PySem.Challenge.rw_oy0025_01
end Mine
section
open PySem PySem.W PyProof.Rows PySem.Calls
namespace Mine
abbrev P0 : Program := PySem.Challenge.pw_oy0025_01
/-- a run of a tree from a heap: it ends, and P of what it hands back and of the heap -/
def W {α : Type} (w : World) (A : Around) (t : Sem α) (h : Heap) (P : α → Heap → Prop) : Prop :=
  ∀ (s : Shared) (Q : α → Shared → Prop) (E : Value → Shared → Prop), s.heap = h → (∀ v h' tk, P v h' → Q v { s with heap := h', toks := tk }) → wpAny (model P0 w) A t Q E s
def isTab (o : Obj) : Bool := match o with
  | ⟨.none, _, .fields _, _⟩ => true
  | _ => false
/-- what the code table of the lambda may hold -/
def TabOk (h : Heap) : Prop := ∃ ps, h.get? 55 = some (tabObj ps) ∧ (ps = #[] ∨ ∃ c, ps = #[rawInt 55, rawInt 36, .ref c] ∧ h.CodeRec (.ref c) "_law_summed.<locals>.<lambda>")
def isDict (o : Obj) : Bool := match o.data with
  | .dict .. => true
  | _ => false
/-- where the law's own objects begin -/
structure Start where
  n : Addr
  big : 71 ≤ n
abbrev Nn : Type := Inhabited Start
def Nn.n [s : Nn] : Addr := s.default.n
theorem Nn.big [s : Nn] : 71 ≤ Nn.n := s.default.big
/-- what may change: a code table, a frame's slots -/
def lose [Nn] (b : Addr) (o : Obj) : Bool := isTab o || (isDict o && decide (Nn.n ≤ b))
variable [Nn]
theorem lose_of {b : Addr} {o : Obj} (h : isTab o = false) (d : isDict o = false) : lose b o = false := by unfold lose; rw [h, d]; rfl
theorem lose_seq {b : Addr} {o : Obj} {its : Array Value} {n : Nat} (d : o.data = .seq its n) : lose b o = false := lose_of (by unfold isTab; split; (simp at d); rfl) (by unfold isDict; rw [d])
theorem lose_func {b : Addr} {o : Obj} {fd : FuncData} (d : o.data = .func fd) : lose b o = false := lose_of (by unfold isTab; split; (simp at d); rfl) (by unfold isDict; rw [d])
structure Ext (h h' : Heap) : Prop where
  keep : ∀ b o, h.get? b = some o → lose b o = false → h'.get? b = some o
  up : ∀ b o, h.get? b = some o → isDict o = true → ∃ sl, h'.get? b = some { o with slots := sl }
  tab : TabOk h → TabOk h'
  live : ∀ b o, h.get? b = some o → ∃ o', h'.get? b = some o'
  cod : ∀ c q, h.CodeRec c q → h'.CodeRec c q
  tabs : ∀ b o, h.get? b = some o → isTab o = true → b ≠ 55 → h'.get? b = some o
theorem Ext.refl (h : Heap) : Ext h h := ⟨fun _ _ e _ => e, fun _ o e _ => ⟨o.slots, e⟩, id, fun _ o e => ⟨o, e⟩, fun _ _ x => x, fun _ _ e _ _ => e⟩
theorem Ext.trans {a b c : Heap} (x : Ext a b) (y : Ext b c) : Ext a c := ⟨fun p o e t => y.keep p o (x.keep p o e t) t, fun p o e t => (x.up p o e t).elim fun sl e' => (y.up p { o with slots := sl } e' t).elim fun sl' e'' => ⟨sl', e''⟩, fun t => y.tab (x.tab t), fun p o e => let ⟨o', e'⟩ := x.live p o e; y.live p o' e', fun c q r => y.cod c q (x.cod c q r), fun b o e t n => y.tabs b o (x.tabs b o e t n) t n⟩
theorem Ext.fresh {a b : Heap} (x : Ext a b) {p : Addr} (e : b.get? p = none) : a.get? p = none := by
  cases z : a.get? p with
  | none => rfl
  | some o => obtain ⟨o', e'⟩ := x.live p o z; rw [e] at e'; cases e'
theorem Ext.of_keep {h h' : Heap} (k : ∀ b o, h.get? b = some o → h'.get? b = some o) : Ext h h' :=
  ⟨fun b o e _ => k b o e, fun b o e _ => ⟨o.slots, k b o e⟩, fun ⟨ps, e, r⟩ => ⟨ps, k _ _ e, r.imp id fun ⟨c, e1, c', o, vs, t, a1, a2, a3, a4⟩ => ⟨c, e1, c', o, vs, t, a1, k _ _ a2, a3, a4⟩⟩, fun b o e => ⟨o, k b o e⟩, fun c q ⟨c', o, vs, t, a1, a2, a3, a4⟩ => ⟨c', o, vs, t, a1, k _ _ a2, a3, a4⟩, fun b o e _ _ => k b o e⟩
theorem Ext.push {h : Heap} (o : Obj) : Ext h (h.push o) := Ext.of_keep fun _ _ e => Heap.get?_push_of_some _ e
theorem Ext.isList {h h' : Heap} (x : Ext h h') {a : Addr} {items : Array Value} (l : h.IsList a items) : h'.IsList a items := by
  obtain ⟨o, e, c, n, d⟩ := l
  exact ⟨o, x.keep a o e (lose_seq d), c, n, d⟩
theorem Ext.ns {h h' : Heap} (x : Ext h h') {a : Addr} {m} (l : h.Ns a m) : h'.Ns a m := by
  obtain ⟨o, es, ep, e, d, r⟩ := l
  obtain ⟨sl, e'⟩ := x.up a o e (by unfold isDict; rw [d])
  exact ⟨_, es, ep, e', d, r⟩
theorem Ext.cell {h h' : Heap} (x : Ext h h') {a : Addr} {v} (l : h.IsCell a v) : h'.IsCell a v := by
  obtain ⟨o, e, d⟩ := l
  exact ⟨o, x.keep a o e (lose_of (by unfold isTab; split; (simp at d); rfl) (by unfold isDict; rw [d])), d⟩
section
variable {α β : Type} {w : World} {A : Around} {h : Heap}
theorem W.mono {t : Sem α} {P P' : α → Heap → Prop} (x : W w A t h P) (k : ∀ v h', P v h' → P' v h') : W w A t h P' :=
  fun s Q E hs q => x s Q E hs fun v h' tk p => q v h' tk (k v h' p)
theorem W.pure {a : α} {P : α → Heap → Prop} (x : P a h) : W w A (Pure.pure a) h P := fun s Q E hs q => wpAny_pure (by have := q a h s.toks x; subst hs; exact this)
theorem W.bind {m : Sem α} {f : α → Sem β} {P : β → Heap → Prop} (x : W w A m h (fun a h' => W w A (f a) h' P)) : W w A (m >>= f) h P :=
  fun s Q E hs q => wpAny_bind (x s _ E hs fun v h' tk p => p _ Q E rfl fun v' h'' tk' p' => q v' h'' tk' p')
end
/-- what stands at the top, as far as it is asked -/
structure Sta (w : World) (h : Heap) : Prop where
  part : (Mine.hd.heap_39 w.params).In h
  top : ∃ mg mb, h.Ns mainGlobals mg ∧ h.Ns builtinsNs mb ∧ (∀ x, x ≠ Str.ofString "__name__" → mb x = bootBuiltins x) ∧ h.BuiltinsAt mg 55
  lim : h.NoLimit
  tab : TabOk h
  sz : ∃ b o, Nn.n ≤ b + 1 ∧ h.get? b = some o
def lose71 (b : Addr) (o : Obj) : Bool := isTab o || (isDict o && decide (71 ≤ b))
omit [Nn] in
theorem part_plain (w : World) : ((Mine.hd.heap_39 w.params).all fun p => !lose71 p.1 p.2) = true := by kernel_rfl
theorem lose_71 {b : Addr} {o : Obj} (h : lose71 b o = false) : lose b o = false := by
  unfold lose71 at h; unfold lose
  simp only [Bool.or_eq_false_iff, Bool.and_eq_false_iff, decide_eq_false_iff_not] at h ⊢
  exact ⟨h.1, h.2.imp id fun z q => z (Nat.le_trans Nn.big q)⟩
theorem lookup_mem' {K : Frag} {b : Addr} {o : Obj} : K.lookup b = some o → (b, o) ∈ K := by
  intro e
  induction K with
  | nil => cases e
  | cons p r ih =>
    rw [List.lookup_cons] at e
    cases q : b == p.1 with
    | true => rw [q] at e; cases e; rw [beq_iff_eq.mp q]; exact .head _
    | false => rw [q] at e; exact .tail _ (ih e)
theorem Sta.mono {w : World} {h h' : Heap} (S : Sta w h) (x : Ext h h') : Sta w h' := by
  refine ⟨fun b o e => x.keep b o (S.part b o e) ?_, ?_, ?_, x.tab S.tab, ?_⟩
  · have := List.all_eq_true.mp (part_plain w) _ (lookup_mem' e)
    exact lose_71 (by simpa using this)
  · obtain ⟨mg, mb, a, b, c, bm, ob, d1, d2, d3, d4, d5, d6, d7, d8⟩ := S.top
    refine ⟨mg, mb, x.ns a, x.ns b, c, bm, ob, d1, d2, d3, d4, x.keep _ _ d5 (lose_of ?_ (by unfold isDict; rw [d8])), d6, d7, d8⟩
    unfold isTab; split
    · simp at d6
    · rfl
  · obtain ⟨mc, a, b⟩ := S.lim
    exact ⟨mc, x.ns a, b⟩
  · obtain ⟨b, o, l, e⟩ := S.sz
    obtain ⟨o', e'⟩ := x.live b o e
    exact ⟨b, o', l, e'⟩
theorem Sta.size {w : World} {h : Heap} (S : Sta w h) : Nn.n ≤ h.objs.size := by
  obtain ⟨b, o, l, e⟩ := S.sz
  exact Nat.le_trans l (Heap.lt_size e)
section
variable {w : World} {A : Around} {h : Heap} {env : Env} {P : Value → Heap → Prop}
theorem w_int {i : Int} {k : Nat} {pos : Pos} (x : ∀ t, P (.int i t) h) : W w A (eval (.Constant (.int i) k pos) env) h P :=
  fun s _ _ hs q => wpAny_Constant_int (q _ s.heap _ (hs ▸ x _))
theorem w_str {i : Str} {k : Nat} {pos : Pos} (x : ∀ t, P (.str i t) h) : W w A (eval (.Constant (.str i) k pos) env) h P :=
  fun s _ _ hs q => Constant_str (q _ s.heap _ (hs ▸ x _))
theorem w_local {x : Str} {pos : Pos} {m : Str → Option Value} {v : Value} (hn : h.Ns env.locals m) (hv : m x = some v) (p : P v h)
    (hk : env.scope.kind = .function := by rfl) (hl : env.kindOf x = some .local := by rfl) (hd : (x == ("__debug__" : Str)) = false := by decide) : W w A (eval (.Name x pos) env) h P :=
  fun s _ _ hs q => by subst hs; exact wpAny_Name (wpAny_loadName_local hk hl hn hv (q v s.heap s.toks p)) hd
theorem w_cell {x : Str} {pos : Pos} {c : Addr} {v : Value} (hc : env.cells.lookup x = some c) (hv : h.IsCell c (some v)) (p : P v h)
    (hk : env.scope.kind = .function := by rfl) (hl : env.kindOf x = some .cell := by rfl) (hd : (x == ("__debug__" : Str)) = false := by decide) : W w A (eval (.Name x pos) env) h P :=
  fun s _ _ hs q => by subst hs; exact wpAny_Name (wpAny_loadName_cell hk hl hc hv (q v s.heap s.toks p)) hd
theorem w_free {x : Str} {pos : Pos} {c : Addr} {v : Value} (hc : env.cells.lookup x = some c) (hv : h.IsCell c (some v)) (p : P v h)
    (hk : env.scope.kind = .function := by rfl) (hl : env.kindOf x = some .free := by rfl) (hd : (x == ("__debug__" : Str)) = false := by decide) (hn : (x == ("__classdict__" : Str)) = false := by decide) : W w A (eval (.Name x pos) env) h P :=
  fun s _ _ hs q => by subst hs; exact wpAny_Name (wpAny_loadName_free hk hl hc hv (q v s.heap s.toks p) hn) hd
theorem w_global {x : Str} {pos : Pos} {v : Value} (S : Sta w h) (e : nsIn (Mine.hd.heap_39 w.params) mainGlobals x = some (some v)) (p : P v h)
    (hk : env.scope.kind = .function := by rfl) (hl : env.kindOf x = some .globalImplicit := by rfl) (hg : env.globals = mainGlobals := by rfl) (hd : (x == ("__debug__" : Str)) = false := by decide) : W w A (eval (.Name x pos) env) h P :=
  fun s _ _ hs q => by
    subst hs
    obtain ⟨mg, mb, a, b, c, _⟩ := S.top
    exact Name_function_global hk hl (loadGlobal_global (by rw [hg]; exact a) (mg_of S.part a e) (q v s.heap s.toks p)) hd
theorem w_builtin {x : Str} {pos : Pos} {v : Value} (S : Sta w h) (e : nsIn (Mine.hd.heap_39 w.params) mainGlobals x = some none) (hv : bootBuiltins x = some v) (p : P v h) (hx : x ≠ Str.ofString "__name__" := by decide)
    (hk : env.scope.kind = .function := by rfl) (hl : env.kindOf x = some .globalImplicit := by rfl) (hg : env.globals = mainGlobals := by rfl) (hb : env.builtins = builtinsNs := by rfl) (hd : (x == ("__debug__" : Str)) = false := by decide) : W w A (eval (.Name x pos) env) h P :=
  fun s _ _ hs q => by
    subst hs
    obtain ⟨mg, mb, a, b, c, _⟩ := S.top
    exact Name_function_global hk hl (loadGlobal_builtin (by rw [hg]; exact a) (mg_none_of S.part a e) (by rw [hb]; exact b) ((c x hx).trans hv) (q v s.heap s.toks p)) hd
theorem w_binop {l r : Expr} {op : Operator} {pos : Pos} (x : W w A (eval l env) h fun a h₁ => W w A (eval r env) h₁ fun b h₂ => W w A (binaryOp op a b) h₂ P) : W w A (eval (.BinOp l op r pos) env) h P :=
  fun s _ E hs q => wpAny_BinOp (x s _ E hs fun a h₁ t₁ p₁ => p₁ _ _ E rfl fun b h₂ t₂ p₂ => p₂ _ _ E rfl fun v h₃ t₃ p₃ => q v h₃ t₃ p₃)
theorem w_unop {l : Expr} {op : UnaryOp} {pos : Pos} (x : W w A (eval l env) h fun a h₁ => W w A (unaryOp op a) h₁ P) : W w A (eval (.UnaryOp op l pos) env) h P :=
  fun s _ E hs q => wpAny_UnaryOp (x s _ E hs fun a h₁ t₁ p₁ => p₁ _ _ E rfl fun v h₃ t₃ p₃ => q v h₃ t₃ p₃)
theorem w_add {a b : Int} {t u : Tok} (x : ∀ t, P (.int (a + b) t) h) : W w A (binaryOp .Add (.int a t) (.int b u)) h P := fun s _ _ hs q => PyProof.Rows.add_int (q _ s.heap _ (hs ▸ x _))
theorem w_sub {a b : Int} {t u : Tok} (x : ∀ t, P (.int (a - b) t) h) : W w A (binaryOp .Sub (.int a t) (.int b u)) h P := fun s _ _ hs q => PyProof.Rows.sub_int (q _ s.heap _ (hs ▸ x _))
theorem w_mul {a b : Int} {t u : Tok} (hm : IntMulOk a b) (x : ∀ t, P (.int (a * b) t) h) : W w A (binaryOp .Mult (.int a t) (.int b u)) h P := fun s _ _ hs q => PyProof.Rows.mul_int (q _ s.heap _ (hs ▸ x _)) hm
theorem w_neg {a : Int} {t : Tok} (x : ∀ t, P (.int (-a) t) h) : W w A (unaryOp .USub (.int a t)) h P := fun s _ _ hs q => PyProof.Rows.neg_int (q _ s.heap _ (hs ▸ x _))
theorem w_mod {a b : Int} {t u : Tok} (hb : b ≠ 0) (x : ∀ t, P (.int (a.fmod b) t) h) : W w A (binaryOp .Mod (.int a t) (.int b u)) h P := fun s _ _ hs q => PyProof.Rows.mod_int' hb (q _ s.heap _ (hs ▸ x _))
theorem fresh_size (h : Heap) : h.get? h.objs.size = none := by
  cases e : h.get? h.objs.size with
  | none => rfl
  | some o => exact absurd (Heap.lt_size e) (Nat.lt_irrefl _)
theorem pushed_list (h : Heap) (its : Array Value) : (h.push { cls := .type "list", data := .seq its }).IsList h.objs.size its := ⟨_, Heap.get?_push_size _ rfl, rfl, _, rfl⟩
theorem w_list {elts : List Expr} {pos : Pos} (x : W w A (spliced (backTo pos (starEach elts env))) h fun vs h₁ => vs.length ≤ sizeLine ∧ ∀ a h₂, Ext h₁ h₂ → h₂.IsList a vs.toArray → h₁.get? a = none → P (.ref a) h₂) :
    W w A (eval (.List elts pos) env) h P :=
  fun s _ E hs q => wpAny_List (x s _ E hs fun vs h₁ t₁ p => ⟨p.1, q _ _ _ (p.2 _ _ (Ext.push _) (pushed_list _ _) (fresh_size _))⟩)
theorem w_nil {pos : Pos} {P : List Value → Heap → Prop} (x : P [] h) : W w A (spliced (backTo pos (starEach [] env))) h P := fun s _ _ hs q => spliced_none (q _ s.heap s.toks (hs ▸ x))
theorem w_cons {e : Expr} {rest : List Expr} {pos : Pos} {P : List Value → Heap → Prop} (x : W w A (eval e env) h fun v h₁ => W w A (spliced (backTo pos (starEach rest env))) h₁ fun vs h₂ => P (v :: vs) h₂)
    (he : starEach (e :: rest) env = (false, eval e env) :: starEach rest env := by rfl) : W w A (spliced (backTo pos (starEach (e :: rest) env))) h P :=
  fun s _ E hs q => spliced_more (x s _ E hs fun v h₁ t₁ p₁ => p₁ _ _ E rfl fun vs h₂ t₂ p₂ => q _ _ _ p₂) he
theorem w_subscript {value slice : Expr} {pos : Pos} (x : W w A (eval value env) h fun o h₁ => W w A (eval slice env) h₁ fun i h₂ => W w A (subscriptTail value slice o i) h₂ P) : W w A (eval (.Subscript value slice pos) env) h P :=
  fun s _ E hs q => Subscript_ (x s _ E hs fun a h₁ t₁ p₁ => p₁ _ _ E rfl fun b h₂ t₂ p₂ => p₂ _ _ E rfl fun v h₃ t₃ p₃ => q v h₃ t₃ p₃)
theorem w_item {value slice : Expr} {l : Addr} {items : Array Value} {k : Int} {u : Tok} {v : Value} (hl : h.IsList l items) (h0 : 0 ≤ k) (hx : items[k.toNat]? = some v) (p : P v h) (hhi : k < 2 ^ 63 := by omega)
    (hs : subscripted slice false (.ref l) (.int k u) = operate [.ref l, .int k u] (getItem (.ref l) (.int k u)) := by with_unfolding_all rfl) : W w A (subscriptTail value slice (.ref l) (.int k u)) h P :=
  fun s _ _ e q => by subst e; exact tail_any hl.typeIs list_getitem_lookup (wpAny_getItem_list hl h0 hhi hx (q v s.heap s.toks p)) hs
theorem w_item_neg {value slice : Expr} {l : Addr} {items : Array Value} {k : Int} {u : Tok} {v : Value} (hl : h.IsList l items) (h0 : k < 0) (h1 : -(items.size : Int) ≤ k) (hx : items[(k + items.size).toNat]? = some v) (p : P v h) (hlo : -2 ^ 63 ≤ k := by omega)
    (hs : subscripted slice false (.ref l) (.int k u) = operate [.ref l, .int k u] (getItem (.ref l) (.int k u)) := by with_unfolding_all rfl) : W w A (subscriptTail value slice (.ref l) (.int k u)) h P :=
  fun s _ _ e q => by subst e; exact tail_any hl.typeIs list_getitem_lookup (wpAny_getItem_list_neg hl h0 h1 hlo hx (q v s.heap s.toks p)) hs
theorem w_part_none (p : P .none h) : W w A (evalPart none env) h P := fun s _ _ e q => by subst e; exact wpAny_evalPart_none (q _ s.heap s.toks p)
theorem w_part_some {e : Expr} (x : W w A (eval e env) h P) : W w A (evalPart (some e) env) h P := x
def IsSl (h : Heap) (a : Addr) (vl vu : Value) : Prop := h.IsSliceOf a vl vu .none
theorem w_sl {lower upper : Option Expr} {pos : Pos} (x : W w A (evalPart lower env) h fun vl h₁ => W w A (evalPart upper env) h₁ fun vu h₂ => ∀ a h₃, Ext h₂ h₃ → IsSl h₃ a vl vu → P (.ref a) h₃) :
    W w A (eval (.Slice lower upper none pos) env) h P :=
  fun s _ E hs q => wpAny_Slice (x s _ E hs fun vl h₁ t₁ p₁ => p₁ _ _ E rfl fun vu h₂ t₂ p₂ => wpAny_evalPart_none (q _ _ _ (p₂ _ _ (Ext.push _) ⟨_, Heap.get?_push_size _ rfl, rfl, rfl⟩)))
theorem w_slice {value slice : Expr} {l sl : Addr} {items : Array Value} {vl vu : Value} {lo hi : Option Int} (hl : h.IsList l items) (hs : IsSl h sl vl vu) (h1 : IsPart vl lo) (h2 : IsPart vu hi) (hz : items.size ≤ sizeLine)
    (p : ∀ a h', Ext h h' → h'.IsList a (slicePick items lo hi none) → h.get? a = none → P (.ref a) h')
    (he : subscripted slice false (.ref l) (.ref sl) = operate [.ref sl, .ref l] (getItem (.ref l) (.ref sl)) := by with_unfolding_all rfl) : W w A (subscriptTail value slice (.ref l) (.ref sl)) h P :=
  fun s _ _ e q => by subst e; exact tail_any hl.typeIs list_getitem_lookup (wpAny_getItem_list_slice hl hs h1 h2 .none (by intro x; cases x) (q _ _ _ (p _ _ (Ext.push _) (pushed_list _ _) (fresh_size _))) hz) he
theorem w_concat {l b : Addr} {vs ws : Array Value} (hl : h.IsList l vs) (hb : h.IsList b ws) (hz : vs.size + ws.size ≤ sizeLine)
    (p : ∀ a h', Ext h h' → h'.IsList a (vs ++ ws) → h.get? a = none → P (.ref a) h') : W w A (binaryOp .Add (.ref l) (.ref b)) h P :=
  fun s _ _ e q => by
    subst e
    obtain ⟨⟨cls, dd, data, sl⟩, ho, hc, n, hd⟩ := id hl
    obtain ⟨⟨cls2, dd2, data2, sl2⟩, ho2, hc2, n2, hd2⟩ := id hb
    simp only at hc hd hc2 hd2
    subst hc hd hc2 hd2
    exact concat_meets ⟨_, ho, rfl⟩ ⟨_, ho2, rfl⟩ noFill_list_add seq_list_add PySem.F.slot_list_add PySem.F.entry_list_add (PySem.F.args_list_add_2 _ _) (list_addW l b vs ws n n2 dd dd2 sl sl2 hz)
      ⟨ho, ho2, q _ _ _ (p _ _ (Ext.push _) (pushed_list _ _) (fresh_size _))⟩
theorem w_call {x : Str} {np pos : Pos} {args : List Expr} (y : W w A (eval (.Name x np) env) h fun f h₁ => W w A (callWith pos f [] (backTo pos (starEach args env)) []) h₁ P) : W w A (eval (.Call (.Name x np) args [] pos) env) h P :=
  fun s _ E hs q => wpAny_Call_NameR (y s _ E hs fun a h₁ t₁ p₁ => p₁ _ _ E rfl q)
theorem w_args {f : Value} {x : Sem Value} {rest : List (Bool × Sem Value)} {P : Args → Heap → Prop} (y : W w A (spliced ((false, x) :: rest)) h fun vs h' => P ⟨vs, []⟩ h') : W w A (evalArgs f true ((false, x) :: rest) []) h P :=
  fun s _ E hs q => evalArgs_plain (y s _ E hs fun vs h₁ t₁ p₁ => q _ _ _ p₁)
theorem w_callBuiltin {pos : Pos} {id : String} {first : List Value} {e : Expr} {es : List Expr} (he : starEach (e :: es) env = (false, eval e env) :: starEach es env) (hp : (backTo pos (starEach (e :: es) env)).any (·.1) = false)
    (y : W w A (spliced (backTo pos (starEach (e :: es) env))) h fun vs h' => W w A (call (.builtin id) (first ++ vs)) h' P) : W w A (callWith pos (.builtin id) first (backTo pos (starEach (e :: es) env)) []) h P :=
  fun s _ E hs q => PySem.Calls.callWith_builtin hp (by
    rw [he] at y ⊢
    exact evalArgs_plain (y s _ E hs fun vs h₁ t₁ p₁ => p₁ _ _ E rfl q))
theorem w_callType {pos : Pos} {T : String} {first : List Value} {e : Expr} {es : List Expr} (he : starEach (e :: es) env = (false, eval e env) :: starEach es env) (hp : (backTo pos (starEach (e :: es) env)).any (·.1) = false)
    (y : W w A (spliced (backTo pos (starEach (e :: es) env))) h fun vs h' => W w A (call (.type T) (first ++ vs)) h' P) : W w A (callWith pos (.type T) first (backTo pos (starEach (e :: es) env)) []) h P :=
  fun s _ E hs q => PyProof.Rows.callWith_type hp (by
    rw [he] at y ⊢
    exact evalArgs_plain (y s _ E hs fun vs h₁ t₁ p₁ => p₁ _ _ E rfl q))
theorem w_callFn {pos : Pos} {f : Addr} {o : Obj} {fd : FuncData} {first : List Value} {e : Expr} {es : List Expr} (hf : h.get? f = some o) (hd : o.data = .func fd) (he : starEach (e :: es) env = (false, eval e env) :: starEach es env)
    (y : W w A (spliced (backTo pos (starEach (e :: es) env))) h fun vs h' => Ext h h' ∧ W w A (call (.ref f) (first ++ vs)) h' P) : W w A (callWith pos (.ref f) first (backTo pos (starEach (e :: es) env)) []) h P :=
  fun s _ E hs q => callWith_function_kw (by
    rw [he] at y ⊢
    exact evalArgs_plain (y s _ E hs fun vs h₁ t₁ p₁ => ⟨⟨p₁.1.keep _ _ hf (lose_func hd), hd⟩, p₁.2 _ _ E rfl q⟩))
theorem w_len {l : Addr} {items : Array Value} (hl : h.IsList l items) (hz : (items.size : Int) < 2 ^ 63) (x : ∀ t, P (.int items.size t) h) : W w A (call (.builtin "len") [.ref l]) h P :=
  fun s _ _ e q => by subst e; exact call_len_list hl hz (q _ s.heap _ (x _))
theorem w_range1 {n : Int} {t : Tok} (x : ∀ r h' t u v, Ext h h' → IsRange h' r 0 n 1 t u v → P (.ref r) h') : W w A (call (.type "range") [.int n t]) h P :=
  fun s _ _ e q => by subst e; exact call_range_1 (q _ _ _ (x _ _ _ _ _ (Ext.push _) (IsRange.new ..)))
theorem w_range2 {a n : Int} {t u : Tok} (x : ∀ r h' t u v, Ext h h' → IsRange h' r a n 1 t u v → P (.ref r) h') : W w A (call (.type "range") [.int a t, .int n u]) h P :=
  fun s _ _ e q => by subst e; exact call_range_2 (q _ _ _ (x _ _ _ _ _ (Ext.push _) (IsRange.new ..)))
theorem w_listCopy {l : Addr} {items : Array Value} (hl : h.IsList l items) (hz : items.size ≤ sizeLine) (x : ∀ a h', Ext h h' → h'.IsList a items → h.get? a = none → P (.ref a) h') : W w A (call (.type "list") [.ref l]) h P :=
  fun s _ _ e q => by
    subst e
    obtain ⟨o, ho, hc, n, hd⟩ := hl
    exact call_list_seq (hsz := hz) l (.inl rfl) ho hc hd fun h' c' hk hD => q _ _ _ (x _ _ (Ext.of_keep hk) ⟨_, hD, rfl, c', rfl⟩ (fresh_size _))
end
end Mine
end
section
open PySem PySem.W PyProof.Rows PySem.Calls
namespace Mine
variable [Nn]
/-- lists and tuples stay -/
def Sq (h h' : Heap) : Prop := ∀ b o its n, h.get? b = some o → o.data = .seq its n → h'.get? b = some o
theorem Sq.refl (h : Heap) : Sq h h := fun _ _ _ _ e _ => e
theorem Sq.trans {a b c : Heap} (x : Sq a b) (y : Sq b c) : Sq a c := fun p o i n e d => y p o i n (x p o i n e d) d
theorem Ext.sq {h h' : Heap} (x : Ext h h') : Sq h h' := fun b o i n e d => x.keep b o e (lose_seq d)
theorem Sq.isList {h h' : Heap} (x : Sq h h') {a : Addr} {its : Array Value} (l : h.IsList a its) : h'.IsList a its := by
  obtain ⟨o, e, c, n, d⟩ := l
  exact ⟨o, x a o its n e d, c, n, d⟩
theorem Sq.isTuple {h h' : Heap} (x : Sq h h') {a : Addr} {its : Array Value} (l : h.IsTuple a its) : h'.IsTuple a its := by
  obtain ⟨o, e, c, n, d⟩ := l
  exact ⟨o, x a o its n e d, c, n, d⟩
theorem sq_of_same {h h' : Heap} {a : Addr} (s : Heap.SameBut a h h') (k : ∀ o its n, h.get? a = some o → o.data ≠ .seq its n) : Sq h h' := fun b o i n e d => by
  by_cases q : b = a
  · subst q; exact absurd d (k o i n e)
  · exact (s.2 b q).trans e
theorem ns_seq {h : Heap} {a : Addr} {m} (x : h.Ns a m) : ∀ o its n, h.get? a = some o → o.data ≠ .seq its n := by
  obtain ⟨o, es, ep, e, d, _⟩ := x
  intro o' its n e' d'
  rw [e] at e'; cases e'; rw [d] at d'; cases d'
theorem cell_seq {h : Heap} {a : Addr} {v} (x : h.IsCell a v) : ∀ o its n, h.get? a = some o → o.data ≠ .seq its n := by
  obtain ⟨o, e, d⟩ := x
  intro o' its n e' d'
  rw [e] at e'; cases e'; rw [d] at d'; cases d'
theorem ext_of_same {h₀ h h' : Heap} {a : Addr} (x : Ext h₀ h) (s : Heap.SameBut a h h') (k : h₀.get? a = none) (nt : ∀ o, h.get? a = some o → isTab o = false) (nf : ∀ o vs, h.get? a = some o → o.data ≠ .fields vs) : Ext h₀ h' := by
  refine ⟨fun b o e t => (s.2 b fun q => ?_).trans (x.keep b o e t), fun b o e t => ?_, fun t => ?_, fun b o e => ?_, fun c q r => ?_, fun b o e t n => (s.2 b fun q => by subst q; rw [k] at e; cases e).trans (x.tabs b o e t n)⟩
  · subst q; rw [k] at e; cases e
  · obtain ⟨sl, e'⟩ := x.up b o e t
    exact ⟨sl, (s.2 b fun q => by subst q; rw [k] at e; cases e).trans e'⟩
  · obtain ⟨ps, e, r⟩ := x.tab t
    have h55 : (55 : Addr) ≠ a := fun q => by subst q; exact absurd (nt _ e) (by simp [isTab])
    refine ⟨ps, (s.2 _ h55).trans e, r.imp id fun ⟨c, e1, c', o, vs, t', a1, a2, a3, a4⟩ => ⟨c, e1, c', o, vs, t', a1, (s.2 _ fun q => ?_).trans a2, a3, a4⟩⟩
    subst q; exact absurd a3 (nf _ _ a2)
  · obtain ⟨o', e'⟩ := x.live b o e
    exact ⟨o', (s.2 b fun q => by subst q; rw [k] at e; cases e).trans e'⟩
  · obtain ⟨c', o, vs, t', a1, a2, a3, a4⟩ := x.cod c q r
    exact ⟨c', o, vs, t', a1, (s.2 _ fun q => by subst q; exact absurd a3 (nf _ _ a2)).trans a2, a3, a4⟩
/-- all stay but frames, cells, code tables -/
def solid (o : Obj) : Bool := match o.data with
  | .dict .. => false
  | .cell .. => false
  | _ => !isTab o
def So (h h' : Heap) : Prop := ∀ b o, h.get? b = some o → solid o = true → h'.get? b = some o
theorem So.refl (h : Heap) : So h h := fun _ _ e _ => e
theorem So.trans {a b c : Heap} (x : So a b) (y : So b c) : So a c := fun p o e t => y p o (x p o e t) t
theorem So.sq {h h' : Heap} (x : So h h') : Sq h h' := fun b o i n e d => x b o e (by unfold solid; rw [d]; simp only [Bool.not_eq_true']; unfold isTab; split; (simp at d); rfl)
theorem solid_lose {b : Addr} {o : Obj} (t : solid o = true) : lose b o = false := by
  unfold solid at t; split at t
  · cases t
  · cases t
  · rename_i h1 h2
    refine lose_of (by simpa using t) ?_
    unfold isDict; split
    · rename_i a b e; exact absurd e (h1 a b)
    · rfl
theorem Ext.so {h h' : Heap} (x : Ext h h') : So h h' := fun b o e t => x.keep b o e (solid_lose t)
theorem so_of_same {h h' : Heap} {a : Addr} (s : Heap.SameBut a h h') (k : ∀ o, h.get? a = some o → solid o = false) : So h h' := fun b o e d => by
  by_cases q : b = a
  · subst q; rw [k o e] at d; cases d
  · exact (s.2 b q).trans e
theorem ns_so {h : Heap} {a : Addr} {m} (x : h.Ns a m) : ∀ o, h.get? a = some o → solid o = false := by
  obtain ⟨o, es, ep, e, d, _⟩ := x
  intro o' e'; rw [e] at e'; cases e'; unfold solid; rw [d]
theorem cell_so {h : Heap} {a : Addr} {v} (x : h.IsCell a v) : ∀ o, h.get? a = some o → solid o = false := by
  obtain ⟨o, e, d⟩ := x
  intro o' e'; rw [e] at e'; cases e'; unfold solid; rw [d]
/-- a call's own frame: its names, its cells, and all that stood ahead of the call -/
structure Fm (h₀ : Heap) (env : Env) (m cm : Str → Option Value) (h : Heap) : Prop where
  ns : h.Ns env.locals m
  cell : ∀ n c, env.cells.lookup n = some c → h.IsCell c (cm n)
  apart : ∀ n n' c, env.cells.lookup n = some c → env.cells.lookup n' = some c → n = n'
  ext : Ext h₀ h
  offL : h₀.get? env.locals = none
  big : Nn.n ≤ env.locals
  offC : ∀ n c, env.kindOf n = some .cell → env.cells.lookup n = some c → h₀.get? c = none
def upd (m : Str → Option Value) (x : Str) (v : Value) : Str → Option Value := fun y => if y = x then some v else m y
theorem upd_self {m : Str → Option Value} {x : Str} {v : Value} : upd m x v x = some v := by simp [upd]
theorem upd_ne {m : Str → Option Value} {x y : Str} {v : Value} (h : y ≠ x) : upd m x v y = m y := by simp [upd, h]
theorem Fm.step {h₀ h h' : Heap} {env : Env} {m cm} (F : Fm h₀ env m cm h) (x : Ext h h') : Fm h₀ env m cm h' :=
  ⟨x.ns F.ns, fun n c e => x.cell (F.cell n c e), F.apart, F.ext.trans x, F.offL, F.big, F.offC⟩
theorem ns_nt {h : Heap} {a : Addr} {m} (x : h.Ns a m) : ∀ o, h.get? a = some o → isTab o = false := by
  obtain ⟨o, es, ep, e, d, _⟩ := x
  intro o' e'; rw [e] at e'; cases e'
  unfold isTab; split
  · simp at d
  · rfl
theorem ns_nf {h : Heap} {a : Addr} {m} (x : h.Ns a m) : ∀ o vs, h.get? a = some o → o.data ≠ .fields vs := by
  obtain ⟨o, es, ep, e, d, _⟩ := x
  intro o' vs e' d'; rw [e] at e'; cases e'; rw [d] at d'; cases d'
theorem cell_nt {h : Heap} {a : Addr} {m} (x : h.IsCell a m) : ∀ o, h.get? a = some o → isTab o = false := by
  obtain ⟨o, e, d⟩ := x
  intro o' e'; rw [e] at e'; cases e'
  unfold isTab; split
  · simp at d
  · rfl
theorem cell_nf {h : Heap} {a : Addr} {m} (x : h.IsCell a m) : ∀ o vs, h.get? a = some o → o.data ≠ .fields vs := by
  obtain ⟨o, e, d⟩ := x
  intro o' vs e' d'; rw [e] at e'; cases e'; rw [d] at d'; cases d'
theorem ns_ne_cell {h : Heap} {a c : Addr} {m v} (x : h.Ns a m) (y : h.IsCell c v) : c ≠ a := by
  obtain ⟨o, es, ep, e, d, _⟩ := x
  obtain ⟨o', e', d'⟩ := y
  rintro rfl
  rw [e] at e'; cases e'; rw [d] at d'; cases d'
theorem cell_same {h h' : Heap} {a c : Addr} {v} (s : Heap.SameBut a h h') (n : c ≠ a) (y : h.IsCell c v) : h'.IsCell c v := by
  obtain ⟨o, e, d⟩ := y
  exact ⟨o, (s.2 c n).trans e, d⟩
section
variable {w : World} {A : Around} {h h₀ : Heap} {env : Env} {m cm : Str → Option Value}
theorem w_store {x : Str} {v : Value} {P : Unit → Heap → Prop} (F : Fm h₀ env m cm h) (p : ∀ h', Fm h₀ env (upd m x v) cm h' → So h h' → P () h')
    (hl : env.kindOf x = some .local := by rfl) (hp : (env.scope.kind == .class || (env.scope.kind == .module && env.locals != env.globals)) = false := by rfl) : W w A (storeName env x v) h P :=
  fun s _ _ e q => by
    subst e
    refine wpAny_storeName_local hl F.ns (fun h' hn hs => q _ h' _ (p h' ⟨hn, fun n c e => cell_same hs (ns_ne_cell F.ns (F.cell n c e)) (F.cell n c e), F.apart, ?_, F.offL, F.big, F.offC⟩ (so_of_same hs (ns_so F.ns)))) hp
    exact ext_of_same F.ext hs F.offL (ns_nt F.ns) (ns_nf F.ns)
theorem w_storeC {x : Str} {c : Addr} {v : Value} {P : Unit → Heap → Prop} (F : Fm h₀ env m cm h) (hc : env.cells.lookup x = some c) (p : ∀ h', Fm h₀ env m (upd cm x v) h' → So h h' → P () h')
    (hk : env.scope.kind = .function := by rfl) (hl : env.kindOf x = some .cell := by rfl) : W w A (storeName env x v) h P :=
  fun s _ _ e q => by
    subst e
    have C := F.cell x c hc
    refine wpAny_storeName_cell hk hl hc C fun h' hv hs => q _ h' _ (p h' ⟨?_, fun n c' e => ?_, F.apart, ext_of_same F.ext hs (F.offC x c hl hc) (cell_nt C) (cell_nf C), F.offL, F.big, F.offC⟩ (so_of_same hs (cell_so C)))
    · exact F.ns.sameBut hs (Ne.symm (ns_ne_cell F.ns C))
    · by_cases q : n = x
      · subst q; rw [hc] at e; cases e; rw [upd_self]; exact hv
      · rw [upd_ne q]
        exact cell_same hs (fun z => q (F.apart n x c (z ▸ e) hc)) (F.cell n c' e)
end
section
variable {w : World} {A : Around} {h : Heap} {env : Env} {P : Flow → Heap → Prop}
theorem w_done {P : Flow → Heap → Prop} (x : P .next h) : W w A (execs [] env) h P := fun s _ _ e q => by subst e; exact wpAny_execs_nil (q _ s.heap s.toks x)
theorem w_stmt {st : Stmt} {rest : List Stmt} (x : W w A (exec st env) h fun f h' => match f with | .next => W w A (execs rest env) h' P | f => P f h') : W w A (execs (st :: rest) env) h P :=
  fun s _ E hs q => wpAny_execs_cons (x s _ E hs fun f h' tk p => by
    cases f with
    | next => exact p _ _ E rfl q
    | brk => exact q _ _ _ p
    | cont => exact q _ _ _ p
    | ret v => exact q _ _ _ p)
theorem w_return {e : Expr} {pos : Pos} (x : W w A (eval e env) h fun v h' => P (.ret v) h') : W w A (exec (.Return (some e) pos) env) h P :=
  fun s _ E hs q => wpAny_Return_some (x s _ E hs fun v h' tk p => q _ _ _ p)
theorem w_assign {x : Str} {pos' pos : Pos} {value : Expr} (y : W w A (eval value env) h fun v h₁ => W w A (storeName env x v) h₁ fun _ h₂ => P .next h₂)
    (hsw : swapsWith value (some (.Name x pos')) pos.line env = pure false := by rfl) : W w A (exec (.Assign [.Name x pos'] value pos) env) h P :=
  fun s _ E hs q => wpAny_Assign_Name (y s _ E hs fun v h₁ t₁ p₁ => p₁ _ _ E rfl fun _ h₂ t₂ p₂ => q _ _ _ p₂) hsw
theorem w_if {test : Expr} {body orelse : List Stmt} {pos : Pos} (y : W w A (PySem.isTrue test env (eval test env)) h fun b h₁ => if b = true then W w A (execs body env) h₁ P else W w A (execs orelse env) h₁ P) : W w A (exec (.If test body orelse pos) env) h P :=
  fun s _ E hs q => wpAny_If (y s _ E hs fun b h₁ t₁ p₁ => by
    cases b with
    | true => exact p₁ _ _ E rfl q
    | false => exact p₁ _ _ E rfl q)
theorem w_isTrue_cmp {l r : Expr} {op : CmpOp} {pos : Pos} {whole : Sem Value} {P : Bool → Heap → Prop} (x : W w A (eval l env) h fun a h₁ => W w A (eval r env) h₁ fun b h₂ => W w A (compareOp op a b) h₂ fun c h₃ => W w A (truthy c) h₃ P)
    (hm : behindInMarks op r = false := by with_unfolding_all rfl) : W w A (PySem.isTrue (.Compare l [op] [r] pos) env whole) h P :=
  fun s _ E hs q => wpAny_isTrue_Compare1 (x s _ E hs fun a h₁ t₁ p₁ => p₁ _ _ E rfl fun b h₂ t₂ p₂ => p₂ _ _ E rfl fun c h₃ t₃ p₃ => p₃ _ _ E rfl q) hm
theorem w_cmp {l r : Expr} {op : CmpOp} {pos : Pos} {P : Value → Heap → Prop} (x : W w A (eval l env) h fun a h₁ => W w A (eval r env) h₁ fun b h₂ => W w A (compareOp op a b) h₂ P)
    (hm : behindInMarks op r = false := by with_unfolding_all rfl) : W w A (eval (.Compare l [op] [r] pos) env) h P :=
  fun s _ E hs q => wpAny_Compare1 (x s _ E hs fun a h₁ t₁ p₁ => p₁ _ _ E rfl fun b h₂ t₂ p₂ => p₂ _ _ E rfl q) hm
theorem w_truthy_bool {b : Bool} {P : Bool → Heap → Prop} (x : P b h) : W w A (truthy (.bool b)) h P := fun s _ _ e q => by subst e; exact wpAny_pure (q _ s.heap s.toks x)
/-- a loop from here on -/
def LoopOk (w : World) (A : Around) (env : Env) (target : Expr) (it : Value) (body orelse : List Stmt) (P : Flow → Heap → Prop) (h : Heap) : Prop :=
  ∃ (Inv : Nat → Heap → Prop) (n : Nat), Inv n h ∧ ∀ n h, Inv n h → W w A (pyNext it) h fun r h₁ => match r with
    | none => W w A (execs orelse env) h₁ P
    | some v => W w A (letOwnedTupleGo target it v) h₁ fun _ h₁' => W w A (assign target env v) h₁' fun _ h₂ => W w A (execs body env) h₂ fun f h₃ => match f with
      | .next | .cont => ∃ m, m < n ∧ Inv m h₃
      | .brk => P .next h₃
      | .ret v => P (.ret v) h₃
theorem w_for {target iter : Expr} {body orelse : List Stmt} {pos : Pos} (x : W w A (eval iter env) h fun xv h₁ => W w A (pyIter xv) h₁ fun it h₂ => LoopOk w A env target it body orelse P h₂)
    (hs : ∀ x, foldedSetIterable iter env x = pure x := by intro _; rfl) : W w A (exec (.For target iter body orelse pos) env) h P :=
  fun s Q E e q => wpAny_For (x s _ E e fun xv h₁ t₁ p₁ => p₁ _ _ E rfl fun it h₂ t₂ p₂ => by
    obtain ⟨Inv, n, h0, turn⟩ := p₂
    refine codeAny_forLoop_any (fun n s' => ∃ h' tk, s' = { s with heap := h', toks := tk } ∧ Inv n h') ?_ n ⟨h₂, t₂, rfl, h0⟩
    rintro n _ ⟨h', tk, rfl, hi⟩
    refine turn n h' hi _ _ _ rfl fun r h₃ t₃ p₃ => ?_
    cases r with
    | none => exact p₃ _ _ _ rfl fun f h₄ t₄ p₄ => q f h₄ t₄ p₄
    | some v =>
      refine p₃ _ _ _ rfl fun _ h₄ t₄ p₄ => p₄ _ _ _ rfl fun _ h₅ t₅ p₅ => p₅ _ _ _ rfl fun f h₆ t₆ p₆ => ?_
      cases f with
      | next => obtain ⟨m, hm, hI⟩ := p₆; exact ⟨m, hm, h₆, t₆, rfl, hI⟩
      | cont => obtain ⟨m, hm, hI⟩ := p₆; exact ⟨m, hm, h₆, t₆, rfl, hI⟩
      | brk => exact q _ _ _ p₆
      | ret v => exact q _ _ _ p₆) hs
theorem w_noTuple {target : Expr} {it v : Value} {P : Unit → Heap → Prop} (x : P () h) (e : letOwnedTupleGo target it v = pure () := by rfl) : W w A (letOwnedTupleGo target it v) h P := by
  rw [e]; exact W.pure x
theorem w_assignName {x : Str} {pos : Pos} {v : Value} {P : Unit → Heap → Prop} (y : W w A (storeName env x v) h P) : W w A (assign (.Name x pos) env v) h P := fun s _ E hs q => wpAny_assign_Name (y s _ E hs q)
end
end Mine
end
section
open PySem PySem.W PyProof.Rows PySem.Calls
namespace Mine
variable [Nn]
theorem mem_of_lookup {β : Type} {x : Str} {v : β} : ∀ {l : List (Str × β)}, l.lookup x = some v → (x, v) ∈ l
  | [], e => by cases e
  | p :: r, e => by
    rw [List.lookup_cons] at e
    cases q : x == p.1 with
    | true => rw [q] at e; cases e; rw [beq_iff_eq.mp q]; exact .head _
    | false => rw [q] at e; exact .tail _ (mem_of_lookup e)
theorem apart_of {cs : List (Str × Addr)} (x : cs.Pairwise fun x y => x.2 ≠ y.2) {n n' : Str} {c : Addr} (a : (n, c) ∈ cs) (b : (n', c) ∈ cs) : n = n' := by
  induction cs with
  | nil => cases a
  | cons p r ih =>
    rw [List.pairwise_cons] at x
    rcases List.mem_cons.mp a with e | a' <;> rcases List.mem_cons.mp b with e' | b'
    · rw [← e] at e'; cases e'; rfl
    · exact absurd rfl (by have := x.1 _ b'; rw [← e] at this; exact this)
    · exact absurd rfl (by have := x.1 _ a'; rw [← e'] at this; exact this)
    · exact ih x.2 a' b'
theorem none_of_le {h : Heap} {a : Addr} (l : h.objs.size ≤ a) : h.get? a = none := by
  cases e : h.get? a with
  | none => rfl
  | some o => exact absurd (Heap.lt_size e) (Nat.not_lt.mpr l)
section
variable {w : World} {A : Around} {h : Heap} {P : Value → Heap → Prop} {name qual : Str} {params : Arguments} {body : List Stmt} {scope : Scope} {dV kV doc pm cdv ct : Value} {an : Option Addr} {fo : Obj} {f : Addr} {args : List Value} {binds : List (Str × Value)}
theorem w_enter (S : Sta w h) (hroom : A.depth < recursionLimit) (ho : h.get? f = some fo) (hd : fo.data = .func (fnX name qual params body scope [] dV kV doc pm an cdv ct)) (hcd : h.CodeRec cdv qual)
    (hbind : ∀ s : Shared, s.heap = h → BindsTo s (fnX name qual params body scope [] dV kV doc pm an cdv ct) ⟨args, []⟩ binds) (hloc : ∀ y ∈ binds, scope.names.lookup y.1 = some .local) (hcell : ∀ x ∈ scope.names, x.2 ≠ .cell)
    (x : ∀ L h₁, Fm h (envX qual scope L f cdv []) (fun y => binds.reverse.lookup y) (fun _ => none) h₁ → W w (A.deeper (envX qual scope L f cdv [])) (execs body (envX qual scope L f cdv [])) h₁ fun fl h' => P (match fl with | .ret v => v | _ => .none) h')
    (hco : scope.isCoroutine = false := by rfl) (hgen : scope.isGenerator = false := by rfl) (hk : scope.kind = .function := by rfl) : W w A (call (.ref f) args) h P :=
  fun s _ E e q => by
    subst e
    refine wpAny_call (codeAny_call_def (fd := fnX name qual params body scope [] dV kV doc pm an cdv ct) (body := body) (binds := binds) hroom ho hd S.lim hcd rfl (hbind s rfl) hcell hloc (fun h₁ hns hk₁ => ?_) hco hgen hk)
    exact x s.heap.objs.size h₁ ⟨hns, (fun n c e => nomatch e), (fun n n' c e => nomatch e), Ext.of_keep hk₁, fresh_size _, S.size, (fun n c _ e => nomatch e)⟩ _ _ _ rfl fun fl h' tk p => q _ _ _ p
theorem w_enterC (S : Sta w h) (hroom : A.depth < recursionLimit) (ho : h.get? f = some fo) (hd : fo.data = .func (fnX name qual params body scope [] dV kV doc pm an cdv ct)) (hcd : h.CodeRec cdv qual)
    (hbind : ∀ s : Shared, s.heap = h → BindsTo s (fnX name qual params body scope [] dV kV doc pm an cdv ct) ⟨args, []⟩ binds) (hkind : (binds.all fun y => scope.names.lookup y.1 == some .local || scope.names.lookup y.1 == some .cell) = true)
    (x : ∀ L h₁, Fm h (envX qual scope L f cdv (cellsFrom (L + 1) scope.names [])) (bindL (envX qual scope L f cdv (cellsFrom (L + 1) scope.names [])).kindOf binds fun _ => none) (bindC (envX qual scope L f cdv (cellsFrom (L + 1) scope.names [])).kindOf binds fun _ => none) h₁ →
      W w (A.deeper (envX qual scope L f cdv (cellsFrom (L + 1) scope.names []))) (execs body (envX qual scope L f cdv (cellsFrom (L + 1) scope.names []))) h₁ fun fl h' => P (match fl with | .ret v => v | _ => .none) h')
    (hco : scope.isCoroutine = false := by rfl) (hgen : scope.isGenerator = false := by rfl) (hk : scope.kind = .function := by rfl) : W w A (call (.ref f) args) h P :=
  fun s _ E e q => by
    subst e
    refine wpAny_call (codeAny_call_function hroom ho hd hco hgen rfl hcd (hbind s rfl _ _ _ _ ?_))
    refine wpAny_newFunctionEnv_cells hk (kindsX hkind _) fun env' he s' y => ?_
    subst he
    refine ⟨S.lim.keeps y.toInCall.keep, codeAny_func ?_⟩
    obtain ⟨h₁, tk, rfl, hk₁⟩ := y.done
    refine x s.heap.objs.size h₁ ⟨y.toInCall.ns, y.cell, fun n n' c e e' => apart_of y.apart (mem_of_lookup e) (mem_of_lookup e'), Ext.of_keep hk₁, fresh_size _, S.size, fun n c _ e => none_of_le (Nat.le_of_lt (y.above n c (mem_of_lookup e)))⟩ _ _ _ rfl fun fl h' tk p => q _ _ _ p
end
/-- an object that a step may change with no harm to the code table -/
def Plain (o : Obj) : Prop := isTab o = false ∧ ∀ vs q t, o.data = .fields vs → vs[1]? ≠ some (.str q t)
theorem ext_but {h₀ h h' : Heap} {wr : List Addr} (x : Ext h₀ h) (k : ∀ b o, b ∉ wr → h.get? b = some o → h'.get? b = some o) (off : ∀ b ∈ wr, h₀.get? b = none) (pl : ∀ b ∈ wr, ∀ o, h.get? b = some o → Plain o) : Ext h₀ h' := by
  refine ⟨fun b o e t => k b o (fun q => ?_) (x.keep b o e t), fun b o e t => ?_, fun t => ?_, fun b o e => ?_, fun c q r => ?_, fun b o e t n => k b o (fun q => by rw [off b q] at e; cases e) (x.tabs b o e t n)⟩
  · rw [off b q] at e; cases e
  · obtain ⟨sl, e'⟩ := x.up b o e t
    exact ⟨sl, k b _ (fun q => by rw [off b q] at e; cases e) e'⟩
  · obtain ⟨ps, e, r⟩ := x.tab t
    refine ⟨ps, k _ _ (fun q => absurd (pl _ q _ e).1 (by simp [isTab])) e, r.imp id fun ⟨c, e1, c', o, vs, t', a1, a2, a3, a4⟩ => ⟨c, e1, c', o, vs, t', a1, k _ _ (fun q => ?_) a2, a3, a4⟩⟩
    exact (pl _ q _ a2).2 _ _ _ a3 a4
  · obtain ⟨o', e'⟩ := x.live b o e
    exact ⟨o', k b o' (fun q => by rw [off b q] at e; cases e) e'⟩
  · obtain ⟨c', o, vs, t', a1, a2, a3, a4⟩ := x.cod c q r
    exact ⟨c', o, vs, t', a1, k _ _ (fun q => (pl _ q _ a2).2 _ _ _ a3 a4) a2, a3, a4⟩
theorem plain_list {h : Heap} {a : Addr} {its} (l : h.IsList a its) : ∀ o, h.get? a = some o → Plain o := by
  obtain ⟨o, e, c, n, d⟩ := l
  intro o' e'; rw [e] at e'; cases e'
  refine ⟨?_, fun vs q t d' => ?_⟩
  · unfold isTab; split
    · simp at c
    · rfl
  · rw [d] at d'; cases d'
theorem plain_ns {h : Heap} {a : Addr} {m} (l : h.Ns a m) : ∀ o, h.get? a = some o → Plain o := fun o e => ⟨ns_nt l o e, fun vs _ _ d => absurd d (ns_nf l o vs e)⟩
/-- an iterator's object -/
def ItObj (h : Heap) (I : Addr) : Prop := ∃ o vs, h.get? I = some o ∧ o.data = .fields vs ∧ Plain o
theorem sq_but {h h' : Heap} {wr : List Addr} (k : ∀ b o, b ∉ wr → h.get? b = some o → h'.get? b = some o) (n : ∀ b ∈ wr, ∀ o its m, h.get? b = some o → o.data ≠ .seq its m) : Sq h h' :=
  fun b o its m e d => k b o (fun q => n b q o its m e d) e
theorem it_seq {h : Heap} {I : Addr} (x : ItObj h I) : ∀ b ∈ [I], ∀ o its m, h.get? b = some o → o.data ≠ .seq its m := by
  obtain ⟨o, vs, e, d, _⟩ := x
  intro b hb o' its m e' d'
  rw [List.mem_singleton.mp hb, e] at e'; cases e'; rw [d] at d'; cases d'
theorem it_plain {h : Heap} {I : Addr} (x : ItObj h I) : ∀ b ∈ [I], ∀ o, h.get? b = some o → Plain o := by
  obtain ⟨o, vs, e, d, p⟩ := x
  intro b hb o' e'
  rw [List.mem_singleton.mp hb, e] at e'; cases e'; exact p
theorem hide_sq {h : Heap} {D : Addr} : Sq (h.hide D) h := fun b o _ _ e _ => Heap.of_hide e
theorem sq_hide {h h' : Heap} {D : Addr} (x : Sq h h') : Sq (h.hide D) (h'.hide D) := fun b o its n e d => by
  have q : b ≠ D := fun z => by rw [z, Heap.hide_self] at e; cases e
  rw [Heap.hide_ne h' q]; exact x b o its n (Heap.of_hide e) d
theorem sq_hide_same {h h' : Heap} {D : Addr} (x : Heap.SameBut D h h') : Sq (h.hide D) (h'.hide D) := fun b o its n e d => by
  have q : b ≠ D := fun z => by rw [z, Heap.hide_self] at e; cases e
  rw [Heap.hide_ne h' q, x.2 b q]; exact Heap.of_hide e
abbrev tests (ifs : List Expr) (cenv : Env) : Sem Bool := forIn ifs true fun c r => if r = true then do let ok ← isTrue c cenv (eval c cenv); pure (ForInStep.yield ok) else pure (ForInStep.yield r)
section
variable {w : World} {A : Around} {E : Value → Shared → Prop} {env : Env}
theorem comp_block {elt iter : Expr} {x : Str} {px : Pos} {ifs : List Expr} {scope : Scope} {cl : List (Str × Addr)} {pos : Pos} {s₂ : Shared} {h₁ : Heap} {I : Addr} {fp : List Addr} {n : Nat} {Pv : Nat → Value → Prop} {St : Nat → Heap → Prop} {RR : Value → Addr → Result → Shared → Prop}
    (Wk : Walks P0 w A I fp [I] n Pv St) (hsz : n ≤ sizeLine) (hit : ∀ i h, St i h → ItObj h I) (hnt : ∀ i h, St i h → ∀ b ∈ fp, ∀ o, h.get? b = some o → lose b o = false)
    (hcell : ∀ y ∈ scope.names, y.2 ≠ .cell) (hkind : scope.kind = .function) (hx : scope.names.lookup x = some .local)
    (h12 : Ext h₁ s₂.heap) (hI : h₁.get? I = none) (hst : St 0 s₂.heap) (hfp : ∀ b ∈ fp, b < s₂.heap.objs.size)
    (J : Nat → List Value → Heap → Prop) (Jm : ∀ i ys g g', Sq g g' → J i ys g → J i ys g') (J0 : J 0 [] h₁)
    (turn : ∀ i ys v C m g h, i < n → Pv i v → J i ys g → Sq g h → Ext h₁ h → h.Ns C m → m x = some v → ys.length ≤ i →
      W w A (tests ifs (compEnvC scope cl C env)) h fun ok h' => Ext h h' ∧
        if ok = true then W w A (eval elt (compEnvC scope cl C env)) h' fun y h'' => Ext h' h'' ∧ ∀ g', Sq g g' → (∀ b o its k, h''.get? b = some o → o.data = .seq its k → h.get? b = none → g'.get? b = some o) → J (i + 1) (ys ++ [y]) g'
        else ∀ g', Sq g g' → J (i + 1) ys g')
    (hRR : ∀ D C h' tk m' ys, h'.Ns C m' → h'.IsList D ys.toArray → D ≠ C → s₂.heap.get? D = none → s₂.heap.get? C = none → Ext h₁ h' → J n ys (h'.hide D) → ys.length ≤ n → RR (.ref D) C (.ok .next) { s₂ with heap := h', toks := tk }) :
    wpAny (model P0 w) A (newList []) (fun acc s₃ => wpAny (model P0 w) A (newFunctionEnv scope env.globals cl [] env.qual none .none (some env)) (fun cenv s₄ =>
      codeAny (model P0 w) A (.compStart (.ListComp elt [⟨.Name x px, iter, ifs, 0⟩] scope pos) 0 (.ref I) acc { cenv with scope := relabel scope env }) (RR acc cenv.locals) s₄) E s₃) E s₂ := by
  refine wpAny_newObj_type (wpAny_newFunctionEnv hcell (by intro y hy; simp at hy) (fun g₁ hns₁ hsb₁ => ?_) hkind)
  dsimp only at hns₁ hsb₁ ⊢
  generalize hH2 : s₂.heap.push { cls := .type "list", dict := none, data := .seq ([] : List Value).toArray } = H2 at hns₁ hsb₁ ⊢
  have hC : H2.objs.size = s₂.heap.objs.size + 1 := by rw [← hH2, Heap.size_push]
  generalize hDd : s₂.heap.objs.size = D at *
  generalize hCc : H2.objs.size = C at *
  have hDC : D ≠ C := by rw [hC]; exact Nat.ne_of_lt (Nat.lt_succ_self _)
  have below : ∀ b, b < D → b ≠ C ∧ b ≠ D := fun b hb => ⟨by rw [hC]; exact Nat.ne_of_lt (Nat.lt_succ_of_lt hb), Nat.ne_of_lt hb⟩
  have hDf : D ∉ fp := fun hm => Nat.lt_irrefl _ (hfp _ hm)
  have hCf : C ∉ fp := fun hm => by have := hfp _ hm; rw [hC] at this; exact Nat.lt_irrefl _ (Nat.lt_of_succ_lt this)
  have hIf : I ∈ fp := Wk.sub I (List.mem_singleton.mpr rfl)
  have hCI : I ≠ C := (below I (hfp I hIf)).1
  have hDI : I ≠ D := (below I (hfp I hIf)).2
  have old : ∀ b o, s₂.heap.get? b = some o → g₁.get? b = some o := fun b o e => by
    have hb : b < D := hDd ▸ Heap.lt_size e
    exact hsb₁.extBut b o (below b hb).1 (Heap.get?_push_of_some _ (hH2 ▸ Heap.get?_push_of_some _ e))
  have hacc : g₁.get? D = some (LCg.lst []) := by
    refine hsb₁.extBut _ _ hDC (Heap.get?_push_of_some _ ?_)
    rw [← hH2, ← hDd]; exact Heap.get?_push_size _ rfl
  have fr2 : ∀ b, D ≤ b → s₂.heap.get? b = none := fun b hb => none_of_le (hDd ▸ hb)
  have hD2 : s₂.heap.get? D = none := fr2 D (Nat.le_refl _)
  have hC2 : s₂.heap.get? C = none := fr2 C (by rw [hC]; exact Nat.le_succ _)
  have gone : ∀ a, s₂.heap.get? a = none → ∀ o, h₁.get? a ≠ some o := fun a ha o e => by rw [h12.fresh ha] at e; cases e
  have hst₁ : St 0 g₁ := Wk.frame _ _ _ hst fun b _ o e => old b o e
  have hE₁ : Ext h₁ g₁ := h12.trans (Ext.of_keep old)
  -- an object of h₁ that is kept is none of ours
  have keepStep : ∀ {a b : Heap} {c : Addr}, Ext h₁ a → Heap.SameBut c a b → s₂.heap.get? c = none → (∀ o, a.get? c = some o → Plain o) → Ext h₁ b := fun {a b c} x s hn pl => by
    refine ⟨fun p o e t => (s.2 p fun q => ?_).trans (x.keep p o e t), fun p o e t => ?_, fun t => ?_, fun p o e => ?_, fun c q r => ?_, fun p o e t n => (s.2 p fun q => by subst q; exact gone _ hn o e).trans (x.tabs p o e t n)⟩
    · subst q; exact gone _ hn o e
    · obtain ⟨sl, e'⟩ := x.up p o e t
      exact ⟨sl, (s.2 p fun q => by subst q; exact gone _ hn o e).trans e'⟩
    · obtain ⟨ps, e, r⟩ := x.tab t
      refine ⟨ps, (s.2 _ fun q => ?_).trans e, r.imp id fun ⟨c1, e1, c', o, vs, t', a1, a2, a3, a4⟩ => ⟨c1, e1, c', o, vs, t', a1, (s.2 _ fun q => ?_).trans a2, a3, a4⟩⟩
      · subst q; exact absurd (pl _ e).1 (by simp [isTab])
      · subst q; exact (pl _ a2).2 _ _ _ a3 a4
    · obtain ⟨o', e'⟩ := x.live p o e
      refine ⟨o', (s.2 p fun q => ?_).trans e'⟩
      subst q; obtain ⟨o2, e2⟩ := h12.live _ o e; rw [hn] at e2; cases e2
    · obtain ⟨c', o, vs, t', a1, a2, a3, a4⟩ := x.cod c q r
      exact ⟨c', o, vs, t', a1, (s.2 _ fun q => by subst q; exact (pl _ a2).2 _ _ _ a3 a4).trans a2, a3, a4⟩
  have loop : ∀ s₃ : Shared, s₃ = { s₂ with heap := g₁, toks := s₂.toks + ([] : List (Str × Value)).length } →
      codeAny (model P0 w) A (.compLoop (.ListComp elt [⟨.Name x px, iter, ifs, 0⟩] scope pos) 0 (.ref I) (.ref D) (compEnvC scope cl C env)) (RR (.ref D) C) s₃ := by
    rintro s₃ rfl
    refine codeAny_compLoop_tests
      (fun k s' => ∃ h' tk i ys m', s' = { s₂ with heap := h', toks := tk } ∧ i ≤ n ∧ k = n + 1 - i ∧ ys.length ≤ i ∧ St i h' ∧ h'.Ns C m' ∧ (∃ kk, h'.get? D = some { cls := .type "list", data := .seq ys.toArray kk }) ∧ Ext h₁ h' ∧ J i ys (h'.hide D)) ?_ (n + 1)
      ⟨g₁, _, 0, [], _, rfl, Nat.zero_le _, rfl, Nat.le_refl _, hst₁, hns₁, ⟨_, hacc⟩, hE₁, Jm _ _ _ _ (fun b o its k e d => ?_) J0⟩
    · rintro k s' ⟨h', tk, i, ys, m', rfl, hi, rfl, hyl, hst', hn', ⟨kk, hD'⟩, hE', hJ'⟩
      by_cases hlt : i < n
      · refine Wk.item i _ _ _ hlt hst' fun v h₂ tk₂ hPv hst₂ hk₂ => ?_
        have hn₂ : h₂.Ns C m' := hn'.at' fun o e => hk₂ _ o (by simpa using Ne.symm hCI) e
        refine wpAny_assign_Name (wpAny_storeName_local (lookup_relabel_local hx) hn₂ (fun h₃ hn₃ hs₃ => ?_) (by simp [compEnvC, relabel, hkind]))
        have hE₂ : Ext h₁ h₂ := ext_but hE' hk₂ (fun b hb => by rw [List.mem_singleton.mp hb]; exact hI) (it_plain (hit _ _ hst'))
        have hE₃ : Ext h₁ h₃ := keepStep hE₂ hs₃ hC2 (plain_ns hn₂)
        have hst₃ : St (i + 1) h₃ := Wk.frame _ _ _ hst₂ fun b hb o e => hs₃.extBut b o (fun q => hCf (by have q' : b = C := q; rw [← q']; exact hb)) e
        have hD₃ : h₃.get? D = some { cls := .type "list", data := .seq ys.toArray kk } := hs₃.extBut _ _ hDC (hk₂ _ _ (by simpa using Ne.symm hDI) hD')
        have sq3 : Sq h' h₃ := Sq.trans (sq_but hk₂ (it_seq (hit _ _ hst'))) (sq_of_same hs₃ (ns_seq hn₂))
        have T := turn i ys v C _ (h'.hide D) h₃ hlt hPv hJ' (hide_sq.trans sq3) hE₃ hn₃ (by simp) hyl
        refine T { s₂ with heap := h₃, toks := _ } _ _ rfl fun ok h₄ tk₄ p₄ => ?_
        obtain ⟨e34, p₄⟩ := p₄
        cases ok with
        | false =>
          simp only [Bool.false_eq_true, if_false] at p₄ ⊢
          refine ⟨n + 1 - (i + 1), by omega, h₄, tk₄, i + 1, ys, _, rfl, hlt, rfl, by omega, Wk.frame _ _ _ hst₃ fun b hb o e => e34.keep b o e (hnt _ _ hst₃ b hb o e), e34.ns hn₃, ⟨kk, e34.keep _ _ hD₃ rfl⟩, hE₃.trans e34, p₄ _ (sq_hide (sq3.trans e34.sq))⟩
        | true =>
          simp only [if_true] at p₄ ⊢
          refine p₄ { s₂ with heap := h₄, toks := tk₄ } _ _ rfl fun y h₅ tk₅ p₅ => ?_
          obtain ⟨e45, p₅⟩ := p₅
          have e35 := e34.trans e45
          have hD₅ := e35.keep _ _ hD₃ rfl
          refine append_at (hsz := by rw [List.size_toArray]; omega) hD₅ fun h₆ hs₆ hD₆ => ?_
          have hn₅ := e35.ns hn₃
          refine ⟨n + 1 - (i + 1), by omega, h₆, tk₅, i + 1, ys ++ [y], _, rfl, hlt, rfl, by simp; omega, Wk.frame _ _ _ hst₃ fun b hb o e => hs₆.extBut b o (fun q => hDf (q ▸ hb)) (e35.keep b o e (hnt _ _ hst₃ b hb o e)),
            hn₅.sameBut hs₆ (Ne.symm hDC), ⟨kk + 1, by rw [hD₆, List.push_toArray]⟩, keepStep (hE₃.trans e35) hs₆ hD2 (plain_list ⟨_, hD₅, rfl, _, rfl⟩), ?_⟩
          refine p₅ _ ((sq_hide (sq3.trans e35.sq)).trans (sq_hide_same hs₆)) fun b o its k e d hb => ?_
          have q : b ≠ D := fun z => by rw [z, hD₃] at hb; cases hb
          rw [Heap.hide_ne h₆ q, hs₆.2 b q]; exact e
      · obtain rfl : i = n := Nat.le_antisymm hi (Nat.not_lt.mp hlt)
        refine Wk.done _ _ _ hst' fun h₂ tk₂ hk₂ => ?_
        have hn₂ : h₂.Ns C m' := hn'.at' fun o e => hk₂ _ o (by simpa using Ne.symm hCI) e
        refine hRR D C h₂ tk₂ m' ys hn₂ ⟨_, hk₂ _ _ (by simpa using Ne.symm hDI) hD', rfl, _, rfl⟩ hDC hD2 hC2 (ext_but hE' hk₂ (fun b hb => by rw [List.mem_singleton.mp hb]; exact hI) (it_plain (hit _ _ hst'))) (Jm _ _ _ _ (sq_hide (sq_but hk₂ (it_seq (hit _ _ hst')))) hJ') hyl
    · have q : b ≠ D := fun z => by
        subst z
        exact gone _ hD2 o e
      rw [Heap.hide_ne g₁ q]; exact hE₁.sq b o its k e d
  exact codeAny_compStart_list (loop _ rfl) (Wk.self 0 _ _ _ hst₁ (loop _ rfl))
end
end Mine
end
section
open PySem PySem.W PyProof.Rows PySem.Calls
namespace Mine
variable [Nn]
/-- what a for or a comprehension goes over: a list, or a range by ones -/
inductive Src (xv : Value) (h : Heap) : Nat → (Nat → Value → Prop) → Prop
  | list {a : Addr} {items : Array Value} : xv = .ref a → h.IsList a items → Src xv h items.size fun i v => items[i]? = some v
  | range {r : Addr} {a b : Int} {t u v : Tok} {n : Nat} : xv = .ref r → IsRange h r a b 1 t u v → Builtin.Range.small a b 1 = true → Builtin.Range.rangeSize a b 1 = (n : Int) → Src xv h n fun i v => ∃ t, v = .int (a + (i : Int)) t
theorem solid_it {h : Heap} {I : Addr} (x : ItObj h I) : ∀ o, h.get? I = some o → solid o = true := by
  obtain ⟨o, vs, e, d, p⟩ := x
  intro o' e'; rw [e] at e'; cases e'; unfold solid; rw [d]; simp [p.1]
theorem solid_list {h : Heap} {a : Addr} {its} (x : h.IsList a its) : ∀ o, h.get? a = some o → solid o = true := by
  intro o e
  have p := plain_list x o e
  obtain ⟨o', e', c, n, d⟩ := x
  rw [e] at e'; cases e'; unfold solid; rw [d]; simp [p.1]
/-- an iterator over it, in a heap that has grown by it -/
structure Iter (w : World) (A : Around) (I : Addr) (n : Nat) (Pv : Nat → Value → Prop) (St : Nat → Heap → Prop) (fp : List Addr) : Prop where
  walks : Walks P0 w A I fp [I] n Pv St
  it : ∀ i h, St i h → ItObj h I
  sd : ∀ i h, St i h → ∀ b ∈ fp, ∀ o, h.get? b = some o → solid o = true
theorem listIter_it {h : Heap} {I l : Addr} {i : Nat} (x : h.IsListIter I l i) : ItObj h I := by
  obtain ⟨o, e, c, d⟩ := x
  refine ⟨o, _, e, d, ?_, fun vs q t d' => ?_⟩
  · unfold isTab; split
    · simp at c
    · rfl
  · rw [d] at d'; cases d'; intro z; cases z
theorem rangeIter_it {h : Heap} {I : Addr} {a b c : Int} (x : IsRangeIter h I a b c) : ItObj h I :=
  ⟨_, _, x, rfl, rfl, fun vs q t d => by cases d; intro z; cases z⟩
theorem iter_list {w : World} {A : Around} (hh : A.handled = none) (I ax : Addr) (hne : ax ≠ I) (items : Array Value) :
    Iter w A I items.size (fun i v => items[i]? = some v) (fun i h => h.IsListIter I ax i ∧ h.IsList ax items) [I, ax] :=
  ⟨Walks.list hh I ax hne items, fun i h s => listIter_it s.1, fun i h s b hb o e => by
    rcases List.mem_cons.mp hb with rfl | hb
    · exact solid_it (listIter_it s.1) o e
    · rw [List.mem_singleton.mp hb] at e; exact solid_list s.2 o e⟩
theorem iter_range {w : World} {A : Around} (hh : A.handled = none) (I : Addr) (a : Int) (n : Nat) :
    Iter w A I n (fun i v => ∃ t, v = .int (a + (i : Int)) t) (fun i h => IsRangeIter h I (a + (i : Nat) * 1) ((n : Int) - (i : Nat)) 1) [I] :=
  ⟨LCg.range_walks hh a n, fun i h s => rangeIter_it s, fun i h s b hb o e => by rw [List.mem_singleton.mp hb] at e; exact solid_it (rangeIter_it s) o e⟩
section
variable {w : World} {A : Around} {h : Heap} {env : Env}
theorem w_iter {xv : Value} {n : Nat} {Pv : Nat → Value → Prop} {P : Value → Heap → Prop} (hh : A.handled = none) (S : Src xv h n Pv)
    (p : ∀ I St fp h', Iter w A I n Pv St fp → (∀ b o, h.get? b = some o → h'.get? b = some o) → h.get? I = none → St 0 h' → (∀ b ∈ fp, b < h'.objs.size) → P (.ref I) h') : W w A (pyIter xv) h P :=
  fun s _ E e q => by
    subst e
    cases S with
    | list hv hl =>
      subst hv
      rename_i a items
      have hlt : a < s.heap.objs.size := by obtain ⟨_, e, _⟩ := hl; exact Heap.lt_size e
      refine wpAny_pyIter_list hl (q _ _ _ (p _ _ _ _ (iter_list hh s.heap.objs.size a (Nat.ne_of_lt hlt) items) (fun _ _ e => Heap.get?_push_of_some _ e) (fresh_size _) ⟨⟨_, Heap.get?_push_size _ rfl, rfl, rfl⟩, hl.push _⟩ fun b hb => ?_))
      show b < (s.heap.push _).objs.size
      rw [Heap.size_push]
      rcases List.mem_cons.mp hb with rfl | hb
      · exact Nat.lt_succ_self _
      · rw [List.mem_singleton.mp hb]; exact Nat.lt_succ_of_lt hlt
    | range hv hr hs hn =>
      subst hv
      rename_i a b t u v r
      refine wpAny_pyIter_range hr hs (q _ _ _ (p _ _ _ _ (iter_range hh s.heap.objs.size _ n) (fun _ _ e => Heap.get?_push_of_some _ e) (fresh_size _) ?_ fun b hb => ?_))
      · show IsRangeIter _ _ _ _ _
        rw [hn]; simpa using Heap.get?_push_size _ rfl
      · rw [List.mem_singleton.mp hb]
        show s.heap.objs.size < (s.heap.push _).objs.size
        rw [Heap.size_push]; exact Nat.lt_succ_self _
theorem Fm.iter {h₀ h h' : Heap} {env : Env} {m cm} {I : Addr} (F : Fm h₀ env m cm h) (k : ∀ b o, b ∉ [I] → h.get? b = some o → h'.get? b = some o) (x : ItObj h I) (hI : h₀.get? I = none) : Fm h₀ env m cm h' := by
  have s := solid_it x
  refine ⟨F.ns.at' fun o e => k _ o (fun q => ?_) e, fun n c e => ?_, F.apart, ext_but F.ext k (fun b hb => by rw [List.mem_singleton.mp hb]; exact hI) (it_plain x), F.offL, F.big, F.offC⟩
  · rw [List.mem_singleton.mp q] at e; have a := s o e; have b := ns_so F.ns o (by rw [List.mem_singleton.mp q]; exact e); rw [a] at b; cases b
  · obtain ⟨o, e', d⟩ := F.cell n c e
    refine ⟨o, k _ o (fun q => ?_) e', d⟩
    have b := cell_so (F.cell n c e) o e'
    rw [List.mem_singleton.mp q] at e'; rw [s o e'] at b; cases b
theorem so_iter {h h' : Heap} {I : Addr} (k : ∀ b o, b ∉ [I] → h.get? b = some o → h'.get? b = some o) (x : ItObj h I) : Sq h h' := sq_but k (it_seq x)
theorem Iter.stay {I : Addr} {n : Nat} {Pv : Nat → Value → Prop} {St : Nat → Heap → Prop} {fp : List Addr} (K : Iter w A I n Pv St fp) {i : Nat} {h h' : Heap} (st : St i h) (x : So h h') : St i h' :=
  K.walks.frame _ _ _ st fun b hb o e => x b o e (K.sd _ _ st b hb o e)
theorem w_next {I : Addr} {n i : Nat} {Pv : Nat → Value → Prop} {St : Nat → Heap → Prop} {fp : List Addr} {P : Option Value → Heap → Prop} (K : Iter w A I n Pv St fp) (hi : i < n) (st : St i h)
    (p : ∀ v h', Pv i v → St (i + 1) h' → (∀ b o, b ∉ [I] → h.get? b = some o → h'.get? b = some o) → P (some v) h') : W w A (pyNext (.ref I)) h P :=
  fun s _ E e q => by subst e; exact K.walks.item i s _ E hi st fun v h' tk a b c => q _ _ _ (p v h' a b c)
theorem w_nextEnd {I : Addr} {n : Nat} {Pv : Nat → Value → Prop} {St : Nat → Heap → Prop} {fp : List Addr} {P : Option Value → Heap → Prop} (K : Iter w A I n Pv St fp) (st : St n h)
    (p : ∀ h', (∀ b o, b ∉ [I] → h.get? b = some o → h'.get? b = some o) → P none h') : W w A (pyNext (.ref I)) h P :=
  fun s _ E e q => by subst e; exact K.walks.done s _ E st fun h' tk c => q _ _ _ (p h' c)
theorem w_self {I : Addr} {n i : Nat} {Pv : Nat → Value → Prop} {St : Nat → Heap → Prop} {fp : List Addr} {P : Value → Heap → Prop} (K : Iter w A I n Pv St fp) (st : St i h) (p : P (.ref I) h) : W w A (pyIter (.ref I)) h P :=
  fun s _ E e q => by subst e; exact K.walks.self i s _ E st (q _ s.heap s.toks p)
/-- the turns of a comprehension over such a source -/
structure Turns (w : World) (A : Around) (env : Env) (scope : Scope) (cl : List (Str × Addr)) (x : Str) (ifs : List Expr) (elt : Expr) (h₁ : Heap) (n : Nat) (Pv : Nat → Value → Prop) (J : Nat → List Value → Heap → Prop) : Prop where
  mono : ∀ i ys g g', Sq g g' → J i ys g → J i ys g'
  start : J 0 [] h₁
  turn : ∀ i ys v C m g h, i < n → Pv i v → J i ys g → Sq g h → Ext h₁ h → h.Ns C m → m x = some v → ys.length ≤ i →
      W w A (tests ifs (compEnvC scope cl C env)) h fun ok h' => Ext h h' ∧
        if ok = true then W w A (eval elt (compEnvC scope cl C env)) h' fun y h'' => Ext h' h'' ∧ ∀ g', Sq g g' → (∀ b o its k, h''.get? b = some o → o.data = .seq its k → h.get? b = none → g'.get? b = some o) → J (i + 1) (ys ++ [y]) g'
        else ∀ g', Sq g g' → J (i + 1) ys g'
theorem w_comp {elt iter : Expr} {x : Str} {px : Pos} {ifs : List Expr} {scope : Scope} {cl : List (Str × Addr)} {pos : Pos} {P : Value → Heap → Prop} (hh : A.handled = none)
    (y : W w A (eval iter env) h fun xv h₁ => ∃ n Pv J, Src xv h₁ n Pv ∧ n ≤ sizeLine ∧ Turns w A env scope cl x ifs elt h₁ n Pv J ∧ ∀ D h' ys, Ext h₁ h' → J n ys h' → h'.IsList D ys.toArray → h₁.get? D = none → ys.length ≤ n → P (.ref D) h')
    (hclos : closureFor scope env = pure cl := by rfl) (hcell : ∀ z ∈ scope.names, z.2 ≠ .cell := by decide) (hkind : scope.kind = .function := by rfl)
    (hnames : ∀ z ∈ scope.names, z.2 = .local → scope.names.lookup z.1 = some .local := by decide) (hx : scope.names.lookup x = some .local := by rfl) (hs : ∀ x, foldedSetIterable iter env x = pure x := by intro _; rfl) :
    W w A (eval (.ListComp elt [⟨.Name x px, iter, ifs, 0⟩] scope pos) env) h P :=
  fun s Q E e q => by
    rw [eval_ListComp]
    refine wpAny_comprehension_free (use := none) rfl hs hclos hkind hnames (y s _ E e fun xv h₁ t₁ p₁ => ?_)
    obtain ⟨n, Pv, J, S, hz, T, fin⟩ := p₁
    refine w_iter (w := w) hh S (P := fun it h₂ => ∃ I St fp, it = .ref I ∧ Iter w A I n Pv St fp ∧ (∀ b o, h₁.get? b = some o → h₂.get? b = some o) ∧ h₁.get? I = none ∧ St 0 h₂ ∧ (∀ b ∈ fp, b < h₂.objs.size))
      (fun I St fp h' a b c d f => ⟨I, St, fp, rfl, a, b, c, d, f⟩) _ _ _ rfl fun it h₂ t₂ p₂ => ?_
    obtain ⟨I, St, fp, rfl, K, kp, hI, st, hfp⟩ := p₂
    refine comp_block (s₂ := { s with heap := h₂, toks := t₂ }) (RR := fun acc C => compPost (model P0 w) A E none Q acc C) K.walks hz K.it (fun i h s b hb o e => solid_lose (K.sd i h s b hb o e)) hcell hkind hx (Ext.of_keep kp) hI st hfp J T.mono T.start T.turn ?_
    intro D C h' tk m' ys hn hl hDC hD hC hE hJ hlen
    refine ⟨m', hn, fun h'' hs'' => q _ h'' _ (fin D h'' ys ?_ (T.mono _ _ _ _ (hide_sq.trans (sq_of_same hs'' (ns_seq hn))) hJ) (hl.extBut hs''.extBut hDC) ?_ hlen)⟩
    · exact ext_but (wr := [C]) hE (fun b o hb e => hs''.extBut b o (by simpa using hb) e) (fun b hb => by
        rw [List.mem_singleton.mp hb]
        cases z : h₁.get? C with
        | none => rfl
        | some o => exact absurd (kp C o z) (by rw [show h₂.get? C = none from hC]; intro q; cases q)) (fun b hb o e => by rw [List.mem_singleton.mp hb] at e; exact plain_ns hn o e)
    · cases z : h₁.get? D with
      | none => rfl
      | some o => have := kp D o z; rw [show h₂.get? D = none from hD] at this; cases this
theorem w_tests0 {cenv : Env} {P : Bool → Heap → Prop} (p : P true h) : W w A (tests [] cenv) h P := fun s _ _ e q => by subst e; exact wpAny_tests_nil (q _ s.heap s.toks p)
theorem w_tests1 {c : Expr} {cenv : Env} {P : Bool → Heap → Prop} (x : W w A (isTrue c cenv (eval c cenv)) h P) : W w A (tests [c] cenv) h P := fun s _ E e q => wpAny_tests_one (x s _ E e q)
end
end Mine
end
section
open PySem PySem.W PyProof.Rows PySem.Calls
namespace Mine
variable [Nn]
theorem fill : Mine.hd.heap_39 = Mine.hd.heap_39 ∧ PySem.Challenge.rw_oy0025_01 = PySem.Challenge.rw_oy0025_01 := by
  k_fill
  exact ⟨rfl, rfl⟩
theorem ns_range (w : World) : nsIn (Mine.hd.heap_39 w.params) mainGlobals (Str.ofString "range") = some none := by k_is
theorem ns_len (w : World) : nsIn (Mine.hd.heap_39 w.params) mainGlobals (Str.ofString "len") = some none := by k_is
theorem ns_list (w : World) : nsIn (Mine.hd.heap_39 w.params) mainGlobals (Str.ofString "list") = some none := by k_is
theorem ns_sorted (w : World) : nsIn (Mine.hd.heap_39 w.params) mainGlobals (Str.ofString "sorted") = some none := by k_is
theorem ns_enumerate (w : World) : nsIn (Mine.hd.heap_39 w.params) mainGlobals (Str.ofString "enumerate") = some none := by k_is
theorem ns_iter (w : World) : nsIn (Mine.hd.heap_39 w.params) mainGlobals (Str.ofString "iter") = some none := by k_is
theorem ns_hex (w : World) : nsIn (Mine.hd.heap_39 w.params) mainGlobals (Str.ofString "hex") = some none := by k_is
theorem ns_ValueError (w : World) : nsIn (Mine.hd.heap_39 w.params) mainGlobals (Str.ofString "ValueError") = some none := by k_is
theorem ns_times (w : World) : nsIn (Mine.hd.heap_39 w.params) mainGlobals (Str.ofString "_law_times") = some (some (.ref 53)) := by k_is
theorem ns_reduce (w : World) : nsIn (Mine.hd.heap_39 w.params) mainGlobals (Str.ofString "reduce") = some (some (.ref 38)) := by k_is
theorem ns_laid (w : World) : nsIn (Mine.hd.heap_39 w.params) mainGlobals (Str.ofString "_law_laid") = some (some (.ref 65)) := by k_is
theorem ns_summed (w : World) : nsIn (Mine.hd.heap_39 w.params) mainGlobals (Str.ofString "_law_summed") = some (some (.ref 60)) := by k_is
theorem ns_roots (w : World) : nsIn (Mine.hd.heap_39 w.params) mainGlobals (Str.ofString "_law_roots") = some (some (.ref 43)) := by k_is
theorem ns_chosen (w : World) : nsIn (Mine.hd.heap_39 w.params) mainGlobals (Str.ofString "_law_chosen") = some (some (.ref 48)) := by k_is
theorem ns_pretty (w : World) : nsIn (Mine.hd.heap_39 w.params) mainGlobals (Str.ofString "pretty_flags") = some (some (.ref 29)) := by k_is
theorem ns_diff (w : World) : nsIn (Mine.hd.heap_39 w.params) mainGlobals (Str.ofString "unorderable_list_difference") = some (some (.ref 21)) := by k_is
theorem ns_missing (w : World) : nsIn (Mine.hd.heap_39 w.params) mainGlobals (Str.ofString "_initial_missing") = some (some (.ref 30)) := by k_is
theorem ns_names (w : World) : nsIn (Mine.hd.heap_39 w.params) mainGlobals (Str.ofString "COMPILER_FLAG_NAMES") = some (some (.ref 22)) := by k_is
theorem bb_range : bootBuiltins (Str.ofString "range") = some (.type "range") := by boot_by_name
theorem bb_len : bootBuiltins (Str.ofString "len") = some (.builtin "len") := by boot_by_name
theorem bb_list : bootBuiltins (Str.ofString "list") = some (.type "list") := by boot_by_name
theorem bb_sorted : bootBuiltins (Str.ofString "sorted") = some (.builtin "sorted") := by boot_by_name
theorem bb_enumerate : bootBuiltins (Str.ofString "enumerate") = some (.type "enumerate") := by boot_by_name
theorem bb_iter : bootBuiltins (Str.ofString "iter") = some (.builtin "iter") := by boot_by_name
theorem bb_hex : bootBuiltins (Str.ofString "hex") = some (.builtin "hex") := by boot_by_name
theorem bb_ValueError : bootBuiltins (Str.ofString "ValueError") = some (.type "ValueError") := by boot_by_name
section
variable {w : World} {A : Around} {h : Heap} {P : Value → Heap → Prop} {name qual : Str} {params : Arguments} {body : List Stmt} {scope : Scope} {dV kV doc pm cdv ct : Value} {an : Option Addr} {oc : Value} {od : Option Addr} {osl : Array (Option Value)} {f : Addr} {args : List Value} {binds : List (Str × Value)}
theorem w_enterK (binds : List (Str × Value)) (S : Sta w h) (hroom : A.depth < recursionLimit) (ho : (Mine.hd.heap_39 w.params).lookup f = some ⟨oc, od, .func (fnX name qual params body scope [] dV kV doc pm an cdv ct), osl⟩) (hcd : codeIn (Mine.hd.heap_39 w.params) cdv qual = true)
    (hbind : ∀ s : Shared, s.heap = h → BindsTo s (fnX name qual params body scope [] dV kV doc pm an cdv ct) ⟨args, []⟩ binds) (hkind : (binds.all fun y => scope.names.lookup y.1 == some .local || scope.names.lookup y.1 == some .cell) = true)
    (x : ∀ L h₁, Fm h (envX qual scope L f cdv (cellsFrom (L + 1) scope.names [])) (bindL (envX qual scope L f cdv (cellsFrom (L + 1) scope.names [])).kindOf binds fun _ => none) (bindC (envX qual scope L f cdv (cellsFrom (L + 1) scope.names [])).kindOf binds fun _ => none) h₁ →
      W w (A.deeper (envX qual scope L f cdv (cellsFrom (L + 1) scope.names []))) (execs body (envX qual scope L f cdv (cellsFrom (L + 1) scope.names []))) h₁ fun fl h' => P (match fl with | .ret v => v | _ => .none) h')
    (hco : scope.isCoroutine = false) (hgen : scope.isGenerator = false) (hk : scope.kind = .function) : W w A (call (.ref f) args) h P :=
  w_enterC S hroom (S.part _ _ ho) rfl (codeRec_of S.part hcd) hbind hkind x hco hgen hk
theorem w_enterP (binds : List (Str × Value)) (S : Sta w h) (hroom : A.depth < recursionLimit) (ho : (Mine.hd.heap_39 w.params).lookup f = some ⟨oc, od, .func (fnX name qual params body scope [] dV kV doc pm an cdv ct), osl⟩) (hcd : codeIn (Mine.hd.heap_39 w.params) cdv qual = true)
    (hbind : ∀ s : Shared, s.heap = h → BindsTo s (fnX name qual params body scope [] dV kV doc pm an cdv ct) ⟨args, []⟩ binds) (hloc : ∀ y ∈ binds, scope.names.lookup y.1 = some .local) (hcell : ∀ x ∈ scope.names, x.2 ≠ .cell)
    (x : ∀ L h₁, Fm h (envX qual scope L f cdv []) (fun y => binds.reverse.lookup y) (fun _ => none) h₁ → W w (A.deeper (envX qual scope L f cdv [])) (execs body (envX qual scope L f cdv [])) h₁ fun fl h' => P (match fl with | .ret v => v | _ => .none) h')
    (hco : scope.isCoroutine = false) (hgen : scope.isGenerator = false) (hk : scope.kind = .function) : W w A (call (.ref f) args) h P :=
  w_enter S hroom (S.part _ _ ho) rfl (codeRec_of S.part hcd) hbind hloc hcell x hco hgen hk
end
end Mine
end
section
open PySem PySem.W PyProof.Rows PySem.Calls
namespace Mine
variable [Nn]
/-- the frames that stand -/
def FrOk (h : Heap) (l : List Env) : Prop := ∀ env ∈ l, env.scope.kind ≠ .module ∧ ∃ L m, env.frame = some L ∧ Nn.n ≤ L ∧ h.Ns L m
theorem FrOk.mono {h h' : Heap} {l : List Env} (x : FrOk h l) (e : Ext h h') : FrOk h' l := fun env he => by
  obtain ⟨a, L, m, b, c, d⟩ := x env he
  exact ⟨a, L, m, b, c, e.ns d⟩
theorem FrOk.funs {h h₁ base : Heap} : ∀ {l : List Env}, FrOk h l → (∀ b o, h.get? b = some o → h₁.get? b = some o) → (∀ L, L ∈ l.filterMap (·.frame) → base.get? L = none) → h₁.FunFrames base l
  | [], _, _, _ => trivial
  | env :: r, x, k, n => by
    obtain ⟨a, L, m, b, c, o, es, ep, d, d1, _⟩ := x env (.head _)
    refine ⟨a, ⟨L, o, b, n L ?_, k _ _ d, fun vs q => by rw [d1] at q; cases q⟩, FrOk.funs (fun e he => x e (.tail _ he)) k fun L' hL' => n L' ?_⟩
    · rw [List.filterMap_cons, b]; exact .head _
    · rw [List.filterMap_cons, b]; exact .tail _ hL'
theorem FrOk.at {h : Heap} {l : List Env} (x : FrOk h l) {L : Addr} (hm : L ∈ l.filterMap (·.frame)) : Nn.n ≤ L ∧ ∃ m, h.Ns L m := by
  obtain ⟨env, he, hf⟩ := List.mem_filterMap.mp hm
  obtain ⟨_, L', m, b, c, d⟩ := x env he
  rw [hf] at b; cases b
  exact ⟨c, m, d⟩
omit [Nn] in
theorem tab_dict {o : Obj} (t : isTab o = true) : isDict o = false := by
  unfold isTab at t; split at t
  · rfl
  · cases t
/-- all stands but the frames' slots -/
theorem ext_frames {h h' : Heap} {l : List Env} (x : FrOk h l) (b : (hideAll h (l.filterMap (·.frame))).StaysIn h') (u : ∀ b o, h.get? b = some o → (∀ vs, o.data ≠ .fields vs) → ∃ sl, h'.get? b = some { o with slots := sl }) : Ext h h' := by
  have dict : ∀ L, L ∈ l.filterMap (·.frame) → ∀ o, h.get? L = some o → isDict o = true ∧ Nn.n ≤ L := fun L hL o e => by
    obtain ⟨c, m, o', es, ep, d, d1, _⟩ := x.at hL
    rw [e] at d; cases d
    exact ⟨by unfold isDict; rw [d1], c⟩
  have off : ∀ a o, h.get? a = some o → isDict o = false → a ∉ l.filterMap (·.frame) := fun a o e d hm => by rw [(dict a hm o e).1] at d; cases d
  have kp : ∀ a o, h.get? a = some o → isDict o = false → h'.get? a = some o := fun a o e d => b a o (hideAll_get _ e (off a o e d))
  have nf : ∀ o, isDict o = true → ∀ vs, o.data ≠ .fields vs := fun o d vs q => by unfold isDict at d; rw [q] at d; cases d
  refine ⟨fun a o e t => ?_, fun a o e d => u a o e (nf o d), fun t => ?_, fun a o e => ?_, fun c q ⟨c', o, vs, t', a1, a2, a3, a4⟩ => ⟨c', o, vs, t', a1, kp _ _ a2 (by unfold isDict; rw [a3]), a3, a4⟩, fun a o e t n => kp a o e (tab_dict t)⟩
  · by_cases hm : a ∈ l.filterMap (·.frame)
    · obtain ⟨d, c⟩ := dict a hm o e
      unfold lose at t; rw [d, decide_eq_true c] at t; simp at t
    · exact b a o (hideAll_get _ e hm)
  · obtain ⟨ps, e, r⟩ := t
    exact ⟨ps, kp _ _ e rfl, r.imp id fun ⟨c, e1, c', o, vs, t', a1, a2, a3, a4⟩ => ⟨c, e1, c', o, vs, t', a1, kp _ _ a2 (by unfold isDict; rw [a3]), a3, a4⟩⟩
  · cases d : isDict o with
    | true => obtain ⟨sl, e'⟩ := u a o e (nf o d); exact ⟨_, e'⟩
    | false => exact ⟨o, kp a o e d⟩
theorem sub_ve : isSubtype (.type "ValueError") (.type "BaseException") = pure true := by rw [isSubtype_type]; kernel_rfl
theorem sub_vv : isSubtype (.type "ValueError") (.type "ValueError") = pure true := by rw [isSubtype_type]; kernel_rfl
theorem sub_vt : isSubtype (.type ((Manifest.find? "ValueError").elim "type" fun y => y.metatype)) (.type "tuple") = pure false := by
  first | (rw [isSubtype_type]; kernel_rfl) | kernel_rfl
theorem caught {w : World} {A : Around} {env : Env} {outer : List Env} {h : Heap} {L e : Addr} {np pos : Pos} {b₀ : Stmt} {suite : List Stmt} {s₁ : Shared} {Q : Flow → Shared → Prop} {E : Value → Shared → Prop} {P : Flow → Heap → Prop}
    (S : Sta w h) (hfr : A.frames = some (env :: outer)) (hf : env.frame = some L) (x : FrOk h (env :: outer)) (hx : Heap.NewExc h s₁.heap e "ValueError")
    (k : ∀ h', Ext h h' → W w (A.mark (some (.ref e))) (execs (b₀ :: suite) env) h' P) (q : ∀ v h' tk, P v h' → Q v { s₁ with heap := h', toks := tk })
    (hk : env.scope.kind = .function := by rfl) (hl : env.kindOf (Str.ofString "ValueError") = some .globalImplicit := by rfl) (hg : env.globals = mainGlobals := by rfl) (hb : env.builtins = builtinsNs := by rfl) :
    wpAny (model P0 w) A (noteFrame (.ref e) env) (fun _ s₂ => wpAny (model P0 w) A (setFlight (.ref e) none) (fun _ s₃ => wpAny (model P0 w) A (handleBy (.ref e) env [.ExceptHandler (some (.Name (Str.ofString "ValueError") np)) none (b₀ :: suite) pos]) Q E s₃) E s₂) E s₁ := by
  obtain ⟨ob, tp, he, hcls, hd⟩ := hx.there
  have hnone : ∀ L, L ∈ (env :: outer).filterMap (·.frame) → (hideAll h ((env :: outer).filterMap (·.frame))).get? L = none := fun L hL => hideAll_none _ hL
  have hff : s₁.heap.FunFrames (hideAll h ((env :: outer).filterMap (·.frame))) (env :: outer) := FrOk.funs x hx.keeps hnone
  have hkb : (hideAll h ((env :: outer).filterMap (·.frame))).StaysIn s₁.heap := fun b o e' => hx.keeps b o (of_hideAll _ e')
  have hen : (hideAll h ((env :: outer).filterMap (·.frame))).get? e = none := by
    cases z : (hideAll h ((env :: outer).filterMap (·.frame))).get? e with
    | none => rfl
    | some o => have := of_hideAll _ z; rw [hx.new] at this; cases this
  unfold noteFrame
  simp only [hf]
  refine wpAny_bind (wpAny_field he hd (x := .none) rfl ?_)
  rw [if_neg (by decide)]
  refine wpAny_entryW hfr hff hf he hkb hen hd (by show 1 < 6; decide) rfl fun h2 hN => ?_
  obtain ⟨k1, k2, k3, k4⟩ := hN
  refine wpAny_setFlight_noneW k1 k2 k3 fun h3 a1 a2 a3 a4 => ?_
  have u3 : ∀ b o, h.get? b = some o → (∀ vs, o.data ≠ .fields vs) → ∃ sl, h3.get? b = some { o with slots := sl } := fun b o e' n => by
    obtain ⟨sl, e2⟩ := k4 b o (hx.keeps b o e') n
    exact ⟨sl, a4 b _ e2 n⟩
  have e3 : Ext h h3 := ext_frames x a1 u3
  refine wpAny_handleBy_builtin (X := "ValueError") (T := "ValueError") (b := true) sub_ve sub_vt sub_vv ?_
  refine w_builtin (S.mono e3) (ns_ValueError w) bb_ValueError (P := fun c h' => c = .type "ValueError" ∧ h' = h3) ⟨rfl, rfl⟩ (by decide) hk hl hg hb (by decide) _ _ _ rfl ?_
  rintro _ _ tk ⟨rfl, rfl⟩
  obtain ⟨ob3, he3, hc3⟩ := (Heap.TracedW.at a3).there
  refine ⟨rfl, ⟨ob3, he3, hc3.trans hcls⟩, ?_⟩
  rw [if_pos rfl]
  refine wpAny_setFlight_noneW a1 a2 (Heap.TracedW.at a3) fun h4 b1 b2 b3 b4 => ?_
  have e4 : Ext h h4 := ext_frames x b1 fun b o e' n => by
    obtain ⟨sl, e2⟩ := u3 b o e' n
    exact ⟨sl, b4 b _ e2 n⟩
  exact k h4 e4 _ _ _ rfl fun v h' tk p => q v h' tk p
end Mine
end
section
open PySem PySem.W PyProof.Rows PySem.Calls
namespace Mine
variable [Nn]
/-- a list of its own make, to be changed -/
def PL (h : Heap) (a : Addr) (vs : List Value) : Prop := ∃ n, h.get? a = some { cls := .type "list", data := .seq vs.toArray n }
theorem PL.isList {h : Heap} {a : Addr} {vs : List Value} (x : PL h a vs) : h.IsList a vs.toArray := let ⟨n, e⟩ := x; ⟨_, e, rfl, n, rfl⟩
theorem PL.sq {h h' : Heap} {a : Addr} {vs : List Value} (x : PL h a vs) (s : Sq h h') : PL h' a vs := let ⟨n, e⟩ := x; ⟨n, s _ _ _ _ e rfl⟩
theorem PL.same {h h' : Heap} {a b : Addr} {vs : List Value} (x : PL h a vs) (s : Heap.SameBut b h h') (ne : a ≠ b) : PL h' a vs := let ⟨n, e⟩ := x; ⟨n, (s.2 a ne).trans e⟩
theorem Fm.list {h₀ h h' : Heap} {env : Env} {m cm} {a : Addr} {its} (F : Fm h₀ env m cm h) (s : Heap.SameBut a h h') (x : h.IsList a its) (o : h₀.get? a = none) : Fm h₀ env m cm h' := by
  have pl := plain_list x
  have ne : ∀ b m, h.Ns b m → b ≠ a := fun b m n q => by
    subst q
    obtain ⟨o, e, c, k, d⟩ := x
    exact ns_seq n o _ _ e d
  refine ⟨F.ns.sameBut s (ne _ _ F.ns), fun n c e => cell_same s (fun q => ?_) (F.cell n c e), F.apart, ext_but (wr := [a]) F.ext (fun b o hb e => (s.2 b (by simpa using hb)).trans e) (fun b hb => by rw [List.mem_singleton.mp hb]; exact o) (fun b hb o e => by rw [List.mem_singleton.mp hb] at e; exact pl o e), F.offL, F.big, F.offC⟩
  subst q
  obtain ⟨o, e', c', k, d⟩ := x
  exact cell_seq (F.cell n _ e) o _ _ e' d
theorem Fm.base {h₀ h g : Heap} {env : Env} {m cm} (F : Fm h env m cm g) (x : Ext h₀ h) : Fm h₀ env m cm g :=
  ⟨F.ns, F.cell, F.apart, x.trans F.ext, x.fresh F.offL, F.big, fun n c a b => x.fresh (F.offC n c a b)⟩
theorem mapSeq_list {f : Array Value → Array Value} {xs ys : Array Value} {n : Nat} (e : f xs = ys) (d : ys.size ≠ xs.size) : Obj.mapSeq f { cls := .type "list", data := .seq xs n } = { cls := .type "list", data := .seq ys (n + 1) } := by
  subst e
  simp only [Obj.mapSeq]
  rw [if_neg (by simpa using d)]
section
variable {w : World} {A : Around} {h : Heap} {env : Env}
theorem w_while {test : Expr} {body orelse : List Stmt} {pos : Pos} {P : Flow → Heap → Prop} (Inv : Nat → Heap → Prop)
    (turn : ∀ n g, Inv n g → W w A (PySem.isTrue test env (eval test env)) g fun b g₁ => if b = true then W w A (execs body env) g₁ fun f g₂ => (match f with
      | .next | .cont => ∃ m, m < n ∧ Inv m g₂
      | .brk => P .next g₂
      | .ret v => P (.ret v) g₂) else W w A (execs orelse env) g₁ P) (n : Nat) (h0 : Inv n h) : W w A (exec (.While test body orelse pos) env) h P :=
  fun s Q E e q => wpAny_While (by
    refine codeAny_whileLoop (fun n s' => ∃ h' tk, s' = { s with heap := h', toks := tk } ∧ Inv n h') ?_ n ⟨h, s.toks, by subst e; rfl, h0⟩
    rintro n _ ⟨h', tk, rfl, hi⟩
    refine turn n h' hi _ _ _ rfl fun b h₁ t₁ p₁ => ?_
    cases b with
    | false => exact p₁ _ _ _ rfl fun f h₂ t₂ p₂ => q f h₂ t₂ p₂
    | true =>
      refine p₁ _ _ _ rfl fun f h₂ t₂ p₂ => ?_
      cases f with
      | next => obtain ⟨m, hm, hI⟩ := p₂; exact ⟨m, hm, h₂, t₂, rfl, hI⟩
      | cont => obtain ⟨m, hm, hI⟩ := p₂; exact ⟨m, hm, h₂, t₂, rfl, hI⟩
      | brk => exact q _ _ _ p₂
      | ret v => exact q _ _ _ p₂)
theorem w_listP {elts : List Expr} {pos : Pos} {P : Value → Heap → Prop} (x : W w A (spliced (backTo pos (starEach elts env))) h fun vs h₁ => vs.length ≤ sizeLine ∧ ∀ a h₂, Ext h₁ h₂ → PL h₂ a vs → h₁.get? a = none → P (.ref a) h₂) :
    W w A (eval (.List elts pos) env) h P :=
  fun s _ E hs q => wpAny_List (x s _ E hs fun vs h₁ t₁ p => ⟨p.1, q _ _ _ (p.2 _ _ (Ext.push _) ⟨_, Heap.get?_push_size _ rfl⟩ (fresh_size _))⟩)
theorem w_listCopyP {l : Addr} {vs : List Value} {P : Value → Heap → Prop} (hl : h.IsList l vs.toArray) (hz : vs.length ≤ sizeLine) (x : ∀ a h', Ext h h' → PL h' a vs → h.get? a = none → P (.ref a) h') : W w A (call (.type "list") [.ref l]) h P :=
  fun s _ _ e q => by
    subst e
    obtain ⟨o, ho, hc, n, hd⟩ := hl
    exact call_list_seq (hsz := by simpa using hz) l (.inl rfl) ho hc hd fun h' c' hk hD => q _ _ _ (x _ _ (Ext.of_keep hk) ⟨c', hD⟩ (fresh_size _))
theorem w_isTrue {e : Expr} {whole : Sem Value} {P : Bool → Heap → Prop} (x : W w A whole h fun v h₁ => W w A (truthy v) h₁ P)
    (he : PySem.isTrue e env whole = (do let v ← whole; standAt e.pos; holding [v] (truthy v)) := by rfl) : W w A (PySem.isTrue e env whole) h P :=
  fun s _ E es q => isTrue_plain (x s _ E es fun v h₁ t₁ p₁ => p₁ _ _ E rfl q) he
theorem w_truthy_list {l : Addr} {items : Array Value} {P : Bool → Heap → Prop} (hl : h.IsList l items) (hz : (items.size : Int) < 2 ^ 63) (p : P (!items.isEmpty) h) : W w A (truthy (.ref l)) h P :=
  fun s _ E e q => by subst e; exact wpAny_truthy_list hl hz (q _ s.heap _ p)
theorem w_tuple {elts : List Expr} {k : Nat} {pos : Pos} {P : Value → Heap → Prop} (x : W w A (spliced (backTo pos (starEach elts env))) h fun vs h₁ => vs.length ≤ sizeLine ∧ ∀ a h₂, Ext h₁ h₂ → h₂.IsTuple a vs.toArray → h₁.get? a = none → P (.ref a) h₂) :
    W w A (eval (.Tuple elts k pos) env) h P :=
  fun s _ E hs q => wpAny_Tuple (x s _ E hs fun vs h₁ t₁ p => ⟨p.1, q _ _ _ (p.2 _ _ (Ext.push _) ⟨_, Heap.get?_push_size _ rfl, rfl, _, rfl⟩ (fresh_size _))⟩)
theorem w_meth {o : Expr} {name : Str} {apos pos : Pos} {args : List Expr} {id : String} {P : Value → Heap → Prop} (slot : Slot "list" name id) (hty : typeOf (.builtin id) = pure (.type "method_descriptor"))
    (x : W w A (eval o env) h fun ov h₁ => ∃ a vs, ov = .ref a ∧ PL h₁ a vs ∧ W w A (callWith pos (.builtin id) [ov] (backTo pos (starEach args env)) []) h₁ P)
    (h1 : attributeBase o name env (eval o env) = eval o env := by rfl)
    (h2 : (((backTo pos (starEach args env)).all fun x => !x.fst) && (backToKw pos (keywordEach [] env)).all (fun x => x.fst.isSome) && decide ((args.length + ([] : List Keyword).length + if ([] : List Keyword).isEmpty = true then 0 else 1) < 30)) = true := by rfl)
    (h3 : (apos.endLine == pos.line) = true := by rfl) : W w A (eval (.Call (.Attribute o name apos) args [] pos) env) h P :=
  fun s _ E hs q => wpAny_Call_method h1 h2 h3 PySem.F.plainAttrs_list slot hty (x s _ E hs fun ov h₁ t₁ p => by
    obtain ⟨a, vs, rfl, ⟨n, e⟩, k⟩ := p
    exact ⟨⟨_, e, rfl⟩, fun a' q => by cases q; exact ⟨_, e, rfl⟩, k _ _ E rfl q⟩)
theorem w_callBuiltin0 {pos : Pos} {id : String} {first : List Value} {P : Value → Heap → Prop} (y : W w A (call (.builtin id) first) h P) : W w A (callWith pos (.builtin id) first (backTo pos (starEach [] env)) []) h P :=
  fun s _ E hs q => PySem.Calls.callWith_builtin rfl (PySem.evalArgs_none (by
    show wpAny _ A (call (.builtin id) (first ++ [])) _ E s
    rw [List.append_nil]; exact y s _ E hs q))
theorem w_pop {a : Addr} {vs : List Value} {v : Value} {P : Value → Heap → Prop} (x : PL h a (vs ++ [v])) (hz : vs.length + 1 ≤ sizeLine) (p : ∀ h', Heap.SameBut a h h' → PL h' a vs → P v h') : W w A (call (.builtin "list.pop") [.ref a]) h P :=
  fun s _ E e q => by
    subst e
    obtain ⟨n, e⟩ := x
    have hs : (vs ++ [v]).toArray.size = vs.length + 1 := by simp
    refine call_meets PySem.F.slot_list_pop ⟨_, e, rfl⟩ PySem.F.entry_list_pop (PySem.F.args_list_pop_1 _) (PySem.MeetsSeq.list_pop_last a _ n v (by rw [hs]; simp) (by rw [hs]; exact hz)) ⟨e, q _ _ _ (p _ (Heap.SameBut.update ..) ⟨n + 1, ?_⟩)⟩
    have hm : Obj.mapSeq (fun xs => xs.eraseIdxIfInBounds ((vs ++ [v]).toArray.size - 1)) { cls := .type "list", data := .seq (vs ++ [v]).toArray n } = { cls := .type "list", data := .seq vs.toArray (n + 1) } := by
      have h1 : (vs ++ [v]).toArray.eraseIdxIfInBounds ((vs ++ [v]).toArray.size - 1) = vs.toArray := by
        apply Array.toList_inj.mp
        rw [Array.toList_eraseIdxIfInBounds, hs]
        simpa using kl_eraseL vs [] v
      exact mapSeq_list h1 (by rw [hs]; simp)
    rw [Heap.get?_update_self _ e (by rw [hm]; rfl), hm]
theorem w_append {a : Addr} {vs : List Value} {v : Value} {P : Value → Heap → Prop} (x : PL h a vs) (hz : vs.length ≤ sizeLine) (p : ∀ h', Heap.SameBut a h h' → PL h' a (vs ++ [v]) → P .none h') : W w A (call (.builtin "list.append") [.ref a, v]) h P :=
  fun s _ E e q => by
    subst e
    obtain ⟨n, e⟩ := x
    exact append_at (hsz := by simpa using hz) e fun h' hs he => q _ _ _ (p h' hs ⟨n + 1, by rw [he, List.push_toArray]⟩)
theorem w_exprNone {e : Expr} {pos : Pos} {P : Flow → Heap → Prop} (x : W w A (eval e env) h fun v h' => v = .none ∧ P .next h') (hi : interactive env = false := by rfl) (hs : swapsWith e none pos.line env = pure false := by rfl) : W w A (exec (.Expr e pos) env) h P :=
  fun s _ E es q => wpAny_Expr (x s _ E es fun v h' tk p => by
    obtain ⟨rfl, p⟩ := p
    exact q _ _ _ p) hi hs
end
theorem IntsAre.eqs {vs : List Value} {xs : List Int} (I : IntsAre vs xs) (k : Int) (t : Tok) : ∀ y, y ∈ vs.toArray → MeetsSeq.EqGives y (.int k t) (isInt k y) := by
  intro y hy
  have hy' : y ∈ vs := by simpa using hy
  clear hy
  induction I with
  | nil => cases hy'
  | cons n u _ ih =>
    rcases List.mem_cons.mp hy' with rfl | q
    · exact MeetsSeq.EqGives.int n k u t
    · exact ih q
theorem IntsAre.find {vs : List Value} {xs : List Int} (I : IntsAre vs xs) (k : Int) : k ∈ xs → ∃ j, ∃ (hj : j < vs.length), isInt k vs[j] = true ∧ (∀ m (hm : m < vs.length), m < j → isInt k vs[m] = false) ∧ IntsAre (vs.eraseIdx j) (xs.erase k) := by
  induction I with
  | nil => intro h; cases h
  | @cons n t vs ns I ih =>
    intro h
    by_cases q : n = k
    · subst q
      exact ⟨0, by simp, by simp [isInt], fun m _ h => absurd h (Nat.not_lt_zero _), by simpa using I⟩
    · have h' : k ∈ ns := by
        rcases List.mem_cons.mp h with e | e
        · exact absurd e.symm q
        · exact e
      obtain ⟨j, hj, a, b, c⟩ := ih h'
      refine ⟨j + 1, by simpa using hj, by simpa using a, fun m hm hlt => ?_, ?_⟩
      · cases m with
        | zero => simp [isInt, q]
        | succ m => simpa using b m (by simpa using hm) (by omega)
      · rw [List.erase_cons_tail (by simpa using q)]
        simpa using IntsAre.cons n t c
theorem IntsAre.findNot {vs : List Value} {xs : List Int} (I : IntsAre vs xs) (k : Int) (h : k ∉ xs) : ∀ m (hm : m < vs.length), isInt k vs[m] = false := by
  induction I with
  | nil => intro m hm; simp at hm
  | @cons n t vs ns I ih =>
    intro m hm
    cases m with
    | zero =>
      have : n ≠ k := fun q => h (by rw [q]; exact .head _)
      simp [isInt, this]
    | succ m => simpa using ih (fun q => h (.tail _ q)) m (by simpa using hm)
end Mine
end
section
open PySem PySem.W PyProof.Rows PySem.Calls
namespace Mine
variable [Nn]
theorem Fm.but {h₀ h h' : Heap} {env : Env} {m cm} {wr : List Addr} (F : Fm h₀ env m cm h) (k : ∀ b o, b ∉ wr → h.get? b = some o → h'.get? b = some o) (x : ∀ b ∈ wr, ItObj h b) (off : ∀ b ∈ wr, h₀.get? b = none) : Fm h₀ env m cm h' := by
  refine ⟨F.ns.at' fun o e => k _ o (fun q => ?_) e, fun n c e => ?_, F.apart, ext_but F.ext k off (fun b hb o e => it_plain (x b hb) b (List.mem_singleton.mpr rfl) o e), F.offL, F.big, F.offC⟩
  · have a := solid_it (x _ q) o e; have b := ns_so F.ns o e; rw [a] at b; cases b
  · obtain ⟨o, e', d⟩ := F.cell n c e
    refine ⟨o, k _ o (fun q => ?_) e', d⟩
    have b := cell_so (F.cell n c e) o e'
    rw [solid_it (x _ q) o e'] at b; cases b
theorem sq_buts {h h' : Heap} {wr : List Addr} (k : ∀ b o, b ∉ wr → h.get? b = some o → h'.get? b = some o) (x : ∀ b ∈ wr, ItObj h b) : Sq h h' := sq_but k fun b hb o its m e => it_seq (x b hb) b (List.mem_singleton.mpr rfl) o its m e
section
variable {w : World} {A : Around} {h : Heap} {env : Env}
theorem w_assign_comp {h₀ : Heap} {m cm : Str → Option Value} {elt iter : Expr} {x y : Str} {px py : Pos} {ifs : List Expr} {scope : Scope} {cl : List (Str × Addr)} {pos spos : Pos} {P : Flow → Heap → Prop} (hh : A.handled = none) (F : Fm h₀ env m cm h)
    (yy : W w A (eval iter env) h fun xv h₁ => Ext h h₁ ∧ ∃ n Pv J, Src xv h₁ n Pv ∧ n ≤ sizeLine ∧ Turns w A env scope cl x ifs elt h₁ n Pv J ∧ ∀ D h' ys, Fm h₀ env (upd m y (.ref D)) cm h' → Sq h₁ h' → J n ys h' → h'.IsList D ys.toArray → h₁.get? D = none → ys.length ≤ n → P .next h')
    (hsw : swapsWith (.ListComp elt [⟨.Name x px, iter, ifs, 0⟩] scope pos) (some (.Name y py)) spos.line env = pure true := by rfl)
    (hclos : closureFor scope env = pure cl := by rfl) (hcell : ∀ z ∈ scope.names, z.2 ≠ .cell := by decide) (hkind : scope.kind = .function := by rfl)
    (hnames : ∀ z ∈ scope.names, z.2 = .local → scope.names.lookup z.1 = some .local := by decide) (hx : scope.names.lookup x = some .local := by rfl)
    (hy : env.kindOf y = some .local := by rfl) (hp : (env.scope.kind == .class || (env.scope.kind == .module && env.locals != env.globals)) = false := by rfl) (hs : ∀ x, foldedSetIterable iter env x = pure x := by intro _; rfl) :
    W w A (exec (.Assign [.Name y py] (.ListComp elt [⟨.Name x px, iter, ifs, 0⟩] scope pos) spos) env) h P :=
  fun s Q E e q => by
    rw [exec_Assign_Name_used _ _ _ _ hsw]
    refine wpAny_bind (wpAny_standAt (wpAny_bind ?_))
    show wpAny (model P0 w) A (do let _ ← comprehension (.ListComp elt [⟨.Name x px, iter, ifs, 0⟩] scope pos) scope env _ (newList []) false (eval iter env) (some (assign (.Name y py) env))) _ _ s
    refine wpAny_bind (wpAny_mono (wpAny_comprehension_free (use := some (assign (.Name y py) env)) (Q := fun _ s' => Q .next s') rfl hs hclos hkind hnames (yy s _ E e fun xv h₁ t₁ p₁ => ?_)) (fun _ s' hq => wpAny_pure (wpAny_pure hq)) fun _ _ e => e)
    obtain ⟨e1, n, Pv, J, S, hz, T, fin⟩ := p₁
    refine w_iter (w := w) hh S (P := fun it h₂ => ∃ I St fp, it = .ref I ∧ Iter w A I n Pv St fp ∧ (∀ b o, h₁.get? b = some o → h₂.get? b = some o) ∧ h₁.get? I = none ∧ St 0 h₂ ∧ (∀ b ∈ fp, b < h₂.objs.size))
      (fun I St fp h' a b c d f => ⟨I, St, fp, rfl, a, b, c, d, f⟩) _ _ _ rfl fun it h₂ t₂ p₂ => ?_
    obtain ⟨I, St, fp, rfl, K, kp, hI, st, hfp⟩ := p₂
    refine comp_block (s₂ := { s with heap := h₂, toks := t₂ }) (RR := fun acc C => compPost (model P0 w) A E (some (assign (.Name y py) env)) (fun _ s' => Q .next s') acc C) K.walks hz K.it (fun i h s b hb o e => solid_lose (K.sd i h s b hb o e)) hcell hkind hx (Ext.of_keep kp) hI st hfp J T.mono T.start T.turn ?_
    intro D C h' tk m' ys hn hl hDC hD hC hE hJ hlen
    have g1 : ∀ a, h₂.get? a = none → h₁.get? a = none := fun a ha => (Ext.of_keep kp).fresh ha
    have F1 := F.step e1
    have F' := F1.step hE
    have hLC : C ≠ env.locals := by
      rintro rfl
      obtain ⟨o, es, ep, ho, _⟩ := F1.ns
      rw [g1 _ hC] at ho; cases ho
    show wpAny (model P0 w) A (assign (.Name y py) env (.ref D)) _ _ _
    refine wpAny_assign_Name (wpAny_storeName_local hy F'.ns (fun h₃ hn₃ hs₃ => ?_) hp)
    have F3 : Fm h₀ env (upd m y (.ref D)) cm h₃ := ⟨hn₃, fun n c e => cell_same hs₃ (ns_ne_cell F'.ns (F'.cell n c e)) (F'.cell n c e), F'.apart, ext_of_same F'.ext hs₃ F'.offL (ns_nt F'.ns) (ns_nf F'.ns), F'.offL, F'.big, F'.offC⟩
    have hnC : h₃.Ns C m' := hn.sameBut hs₃ hLC
    refine ⟨m', hnC, fun h₄ hs₄ => q _ h₄ _ (fin D h₄ ys ?_ ?_ ?_ ?_ (g1 _ hD) hlen)⟩
    · refine ⟨F3.ns.sameBut hs₄ (Ne.symm hLC), fun n c e => cell_same hs₄ (fun q => ?_) (F3.cell n c e), F3.apart, ext_of_same F3.ext hs₄ (F1.ext.fresh (g1 _ hC)) (ns_nt hnC) (ns_nf hnC), F3.offL, F3.big, F3.offC⟩
      obtain ⟨o, ho, _⟩ := F1.cell n c e
      rw [q, g1 _ hC] at ho; cases ho
    · exact (hE.sq.trans (sq_of_same hs₃ (ns_seq F'.ns))).trans (sq_of_same hs₄ (ns_seq hnC))
    · exact T.mono _ _ _ _ (hide_sq.trans ((sq_of_same hs₃ (ns_seq F'.ns)).trans (sq_of_same hs₄ (ns_seq hnC)))) hJ
    · exact ((sq_of_same hs₃ (ns_seq F'.ns)).trans (sq_of_same hs₄ (ns_seq hnC))).isList hl
theorem w_pow {a n : Int} {t u : Tok} {P : Value → Heap → Prop} (hn : 0 ≤ n) (hz : (Builtin.Int.intBits a : Int) * n ≤ 2 ^ 27) (x : ∀ t, P (.int (a ^ n.toNat) t) h) : W w A (binaryOp .Pow (.int a t) (.int n u)) h P :=
  fun s _ E e q => by subst e; exact PyProof.Rows.pow_int hn hz (q _ s.heap _ (x _))
theorem w_iadd {a b : Int} {t u : Tok} {P : Value → Heap → Prop} (x : ∀ t, P (.int (a + b) t) h) : W w A (inplaceOp .Add (.int a t) (.int b u)) h P :=
  fun s _ E e q => by subst e; exact wpAny_iadd_int (q _ s.heap _ (x _))
theorem w_augSub {o i value : Expr} {tpos pos : Pos} {op : Operator} {P : Flow → Heap → Prop}
    (x : W w A (eval o env) h fun ov h₁ => W w A (eval i env) h₁ fun iv h₂ => W w A (getItem ov iv) h₂ fun old h₃ => W w A (eval value env) h₃ fun v h₄ => W w A (inplaceOp op old v) h₄ fun new h₅ => W w A (setItem ov iv new) h₅ fun _ h₆ => P .next h₆)
    (ha : ∀ ov iv new : Value, augStore i ov iv new = (do holding [new, ov, iv] (setItem ov iv new); release [new, ov, iv] []; pure .next) := by intro _ _ _; rfl) : W w A (exec (.AugAssign (.Subscript o i tpos) op value pos) env) h P :=
  fun s _ E hs q => wpAny_AugAssign_SubscriptAny (x s _ E hs fun a h₁ t₁ p₁ => p₁ _ _ E rfl fun b h₂ t₂ p₂ => p₂ _ _ E rfl fun c h₃ t₃ p₃ => p₃ _ _ E rfl fun d h₄ t₄ p₄ => p₄ _ _ E rfl fun f h₅ t₅ p₅ => p₅ _ _ E rfl fun g h₆ t₆ p₆ => q _ _ _ p₆) ha
theorem w_getItem {l : Addr} {items : Array Value} {k : Int} {u : Tok} {v : Value} {P : Value → Heap → Prop} (hl : h.IsList l items) (h0 : 0 ≤ k) (hx : items[k.toNat]? = some v) (p : P v h) (hhi : k < 2 ^ 63 := by omega) : W w A (getItem (.ref l) (.int k u)) h P :=
  fun s _ E e q => by subst e; exact wpAny_getItem_list hl h0 hhi hx (q v s.heap s.toks p)
theorem w_setItem {l : Addr} {items : Array Value} {k : Int} {u : Tok} {v : Value} {P : Unit → Heap → Prop} (hl : h.IsList l items) (h0 : 0 ≤ k) (hn : k < items.size) (p : ∀ h', h'.IsList l (items.setIfInBounds k.toNat v) → Heap.SameBut l h h' → P () h') (hhi : k < 2 ^ 63 := by omega) : W w A (setItem (.ref l) (.int k u) v) h P :=
  fun s _ E e q => by subst e; exact wpAny_setItem_list hl h0 hhi hn fun h' a b => q _ _ _ (p h' a b)
end
theorem IntsAre.setAt {vs : List Value} {xs : List Int} (I : IntsAre vs xs) : ∀ (i : Nat) (x : Int) (t : Tok), IntsAre (vs.set i (.int x t)) (xs.set i x) := by
  induction I with
  | nil => intro i x t; exact .nil
  | cons n u I ih =>
    intro i x t
    cases i with
    | zero => exact .cons x t I
    | succ i => exact .cons n u (ih i x t)
end Mine
end
section
open PySem PySem.W PyProof.Rows PySem.Calls
namespace Mine
variable [Nn]
def Ints (h : Heap) (a : Addr) (xs : List Int) : Prop := ∃ vs, h.IsList a vs.toArray ∧ IntsAre vs xs
theorem Sq.ints {h h' : Heap} (x : Sq h h') {a : Addr} {xs : List Int} (l : Ints h a xs) : Ints h' a xs := let ⟨vs, l, i⟩ := l; ⟨vs, x.isList l, i⟩
def tmsAux (r prev : Int) : List Int → List Int
  | [] => [-r * prev]
  | c :: cs => (c - r * prev) :: tmsAux r c cs
def tms (r : Int) : List Int → List Int
  | [] => []
  | c :: cs => c :: tmsAux r c cs
theorem mulOk_left {a b : Int} (h1 : -(2 ^ 64) < a) (h2 : a < 2 ^ 64) : IntMulOk a b := by
  unfold IntMulOk
  have := intBits_le_64 h1 h2
  have q : decide (Builtin.Int.intBits a > shortFactorBits) = false := by
    rw [decide_eq_false_iff_not]; show ¬ (Builtin.Int.intBits a > 64); omega
  rw [q]; simp
theorem IntsAre.item {vs : List Value} {xs : List Int} (I : IntsAre vs xs) {i : Nat} {x : Int} (e : xs[i]? = some x) : ∃ t, vs.toArray[i]? = some (.int x t) := by
  obtain ⟨t, q⟩ := I.get i x e
  exact ⟨t, by simpa using q⟩
theorem sl_line : (16777216 : Nat) = sizeLine := rfl
/-- the middle of a row times (x - r) -/
def mid (r : Int) (row : List Int) : List Int := (List.range (row.length - 1)).map fun i => row.getD (i + 1) 0 - r * row.getD i 0
theorem tmsAux_eq (r : Int) : ∀ (cs : List Int) (c : Int), tmsAux r c cs = ((List.range cs.length).map fun i => (c :: cs).getD (i + 1) 0 - r * (c :: cs).getD i 0) ++ [-r * (c :: cs).getLast (by simp)]
  | [], c => by simp [tmsAux]
  | d :: cs, c => by
    rw [tmsAux, tmsAux_eq r cs d, List.length_cons, List.range_succ_eq_map]
    simp [List.map_map, Function.comp_def]
set_option maxHeartbeats 1000000 in
theorem times_spec {w : World} {A : Around} {h : Heap} {la : Addr} {r c : Int} {tr : Tok} {cs : List Int} (S : Sta w h) (hA : A.handled = none) (hdep : A.depth + 2 < recursionLimit) (hl : Ints h la (c :: cs)) (hlen : cs.length ≤ 1000)
    (h1 : -(2 ^ 62) < r) (h2 : r < 2 ^ 62) : W w A (call (.ref 53) [.ref la, .int r tr]) h fun v h' => Ext h h' ∧ ∃ a, v = .ref a ∧ Ints h' a (tms r (c :: cs)) ∧ h.get? a = none := by
  refine' w_enterK [(Str.ofString "row", .ref la), (Str.ofString "root", .int r tr)] S (by omega) ?k6 ?k7 ?k8 ?k9 ?_ ?c1 ?c2 ?c3
  case k6 => k_is
  case k7 => k_is
  case k8 => exact fun s e => BindsTo.of_eq rfl
  case k9 => exact rfl
  case c1 => exact rfl
  case c2 => exact rfl
  case c3 => exact rfl
  intro L h₁ F
  have hrow : h₁.IsCell (L + 1) (some (.ref la)) := F.cell (Str.ofString "row") _ rfl
  have hroot : h₁.IsCell (L + 1 + 1) (some (.int r tr)) := F.cell (Str.ofString "root") _ rfl
  obtain ⟨vs, hl₁, hI⟩ := F.ext.sq.ints hl
  have e1 := F.ext
  clear F
  have hvl : vs.length = cs.length + 1 := hI.length
  have hsz : vs.toArray.size = cs.length + 1 := by simpa using hvl
  have hz : vs.toArray.size ≤ sizeLine := by rw [hsz, ← sl_line]; omega
  refine w_stmt (w_return (w_binop (w_binop (w_subscript (w_cell rfl hrow (w_sl (w_part_none (w_part_some (w_int fun t sl h2' e2 hs2 => ?_)))))))))
  refine w_slice (e2.isList hl₁) hs2 .none (.int 1 t) hz fun a3 h3 e3 l3 f3 => ?_
  have e13 := e2.trans e3
  have e14 := e1.trans e13
  have S3 := S.mono e14
  refine w_comp hA ?_
  refine w_call (w_builtin S3 (ns_range w) bb_range (w_callType rfl rfl (w_cons (w_int fun t1 => w_cons ?_))))
  refine w_call (w_builtin S3 (ns_len w) bb_len (w_callBuiltin rfl rfl (w_cons (w_cell rfl (e13.cell hrow) (w_nil ?_)))))
  refine w_len (e13.isList hl₁) (by rw [hsz]; omega) fun t2 => w_nil (w_range2 fun ra h4 u1 u2 u3 e4 hr4 => ?_)
  have e15 := e13.trans e4
  refine ⟨cs.length, _, fun i ys g => ∃ xs, IntsAre ys xs ∧ xs = (List.range i).map fun i => (c :: cs).getD (i + 1) 0 - r * (c :: cs).getD i 0, .range rfl hr4 ?_ ?_, by rw [← sl_line]; omega, ⟨fun i ys g g' _ x => x, ⟨[], .nil, rfl⟩, ?_⟩, ?_⟩
  · exact small_one (by omega) (by omega) (by rw [hsz]; omega) (by rw [hsz]; omega)
  · rw [rangeSize_one, hsz]; split <;> omega
  · intro i ys v C m g h5 hi hv hJ hsq e5 hns hm hy
    obtain ⟨tk, rfl⟩ := hv
    refine w_tests0 ⟨Ext.refl _, ?_⟩
    rw [if_pos rfl]
    obtain ⟨xs, hxs, rfl⟩ := hJ
    have e16 := e15.trans e5
    obtain ⟨ta, ha⟩ := IntsAre.item hI (i := i + 1) (x := (c :: cs).getD (i + 1) 0) (by simp [List.getD, hi])
    obtain ⟨tb, hb⟩ := IntsAre.item hI (i := i) (x := (c :: cs).getD i 0) (by
      rw [List.getD_eq_getElem?_getD, List.getElem?_eq_getElem (by simp; omega)]; rfl)
    refine w_binop (w_subscript (w_cell rfl (e16.cell hrow) (w_local hns hm ?_)))
    refine w_item (v := .int ((c :: cs).getD (i + 1) 0) ta) (e16.isList hl₁) (by omega) (by rw [← ha]; congr 1; omega) ?_
    refine w_binop (w_cell rfl (e16.cell hroot) (w_subscript (w_cell rfl (e16.cell hrow) (w_binop (w_local hns hm (w_int fun t7 => w_sub fun t8 => ?_))))))
    refine w_item (v := .int ((c :: cs).getD i 0) tb) (e16.isList hl₁) (by omega) (by rw [← hb]; congr 1; omega) ?_
    refine w_mul (mulOk_left (by omega) (by omega)) fun t9 => w_sub fun t10 => ⟨Ext.refl _, fun g' _ _ => ⟨_, hxs.append (.cons _ _ .nil), ?_⟩⟩
    rw [List.range_succ, List.map_append]; rfl
  · intro D h6 ys e6 hJ hD hDf hy
    have e16 := e15.trans e6
    obtain ⟨xs, hxs, rfl⟩ := hJ
    have hp : IntsAre (vs.take 1) [c] := hI.take 1
    rw [show slicePick vs.toArray none (some 1) none = (vs.take 1).toArray from slicePick_upto' _ 1] at l3
    have hps : (vs.take 1).length = 1 := hp.length
    refine w_concat ((e4.trans e6).isList l3) hD ?_ fun a7 h7 e7 l7 f7 => ?_
    · rw [List.size_toArray, List.size_toArray, hps, ← sl_line]; omega
    have e17 := e16.trans e7
    have hll : (c :: cs).getLast? = some ((c :: cs).getLast (by simp)) := by rw [List.getLast?_eq_some_getLast]
    obtain ⟨tl, hlast⟩ := IntsAre.item hI (i := cs.length) (x := (c :: cs).getLast (by simp)) (by rw [← hll, List.getLast?_eq_getElem?]; rfl)
    refine w_list (w_cons (w_binop (w_unop (w_cell rfl (e17.cell hroot) (w_neg fun t11 => w_subscript (w_cell rfl (e17.cell hrow) (w_unop (w_int fun t12 => w_neg fun t13 => ?_))))))))
    refine w_item_neg (v := .int ((c :: cs).getLast (by simp)) tl) (e17.isList hl₁) (by omega) (by rw [hsz]; omega) (by rw [← hlast, hsz]; congr 1; omega) ?_
    refine w_mul (mulOk_left (by omega) (by omega)) fun t14 => w_nil ⟨by rw [← sl_line]; simp, fun a8 h8 e8 l8 f8 => ?_⟩
    refine w_concat (e8.isList l7) l8 ?_ fun a9 h9 e9 l9 f9 => ⟨(e1.trans e17).trans (e8.trans e9), a9, rfl, ⟨(vs.take 1 ++ ys) ++ [.int (-r * (c :: cs).getLast (by simp)) t14], ?_, ?_⟩, ((e1.trans e17).trans e8).fresh f9⟩
    · rw [Array.size_append, List.size_toArray, List.size_toArray, List.size_toArray, hps, ← sl_line]; simp; omega
    · simpa using l9
    · rw [tms, tmsAux_eq]
      have := (hp.append hxs).append (.cons (-r * (c :: cs).getLast (by simp)) t14 .nil)
      simpa using this
end Mine
end
section
open PySem PySem.W PyProof.Rows PySem.Calls
namespace Mine
variable [Nn]
section
variable {w : World} {A : Around} {h : Heap}
theorem w_iterB {l : Addr} {items : Array Value} {P : Value → Heap → Prop} (hl : h.IsList l items) (p : ∀ I h', (∀ b o, h.get? b = some o → h'.get? b = some o) → h.get? I = none → h'.IsListIter I l 0 → l ≠ I → P (.ref I) h') : W w A (call (.builtin "iter") [.ref l]) h P :=
  fun s _ E e q => by
    subst e
    have hlt : l < s.heap.objs.size := by obtain ⟨_, e, _⟩ := hl; exact Heap.lt_size e
    refine call_function_entry (by decide +kernel) (by decide +kernel) kdk_entry_iter (kdk_args_iter _) ?_
    unfold Builtin.«iter»
    refine wpAny_bind (m := someArgs "iter" 1 2 _) (wpAny_of_eq (a := [Value.ref l]) (by first | rfl | kernel_rfl!) ?_)
    show wpAny _ _ (pyIter (.ref l) >>= _) _ _ _
    refine wpAny_bind (wpAny_pyIter_list hl ?_)
    exact wpAny_pure ⟨_, rfl, q _ _ _ (p _ _ (fun _ _ e => Heap.get?_push_of_some _ e) (fresh_size _) ⟨_, Heap.get?_push_size _ rfl, rfl, rfl⟩ (Nat.ne_of_lt hlt))⟩
theorem w_is_int {i : Int} {t : Tok} {b : Addr} {P : Value → Heap → Prop} (p : P (.bool false) h) : W w A (compareOp .Is (.int i t) (.ref b)) h P :=
  fun s _ E e q => by subst e; exact wpAny_is_other rfl (by intro z; cases z) (q _ s.heap s.toks p)
theorem w_is_list {a b : Addr} {its : Array Value} {ob : Obj} {P : Value → Heap → Prop} (hl : h.IsList a its) (hb : h.get? b = some ob) (hc : ob.cls ≠ .type "list") (p : P (.bool false) h) : W w A (compareOp .Is (.ref a) (.ref b)) h P :=
  fun s _ E e q => by
    subst e
    obtain ⟨o, ho, c, n, d⟩ := hl
    have hne : a ≠ b := by rintro rfl; rw [ho] at hb; cases hb; exact hc c
    show wpAny (model P0 w) A (isSame (.ref a) (.ref b) >>= fun b => pure (Value.bool b)) _ E s
    refine wpAny_bind ?_
    show wpAny (model P0 w) A (if (a == b) = true then pure true else _) _ E s
    rw [if_neg (by simpa using hne)]
    refine wpAny_bind (wpAny_load ho (wpAny_bind (wpAny_load hb ?_)))
    rw [c]
    exact wpAny_pure (wpAny_pure (q _ s.heap s.toks p))
end
/-- a value that is none of the missing one -/
inductive Init (h : Heap) : Value → Prop
  | int (i : Int) (t : Tok) : Init h (.int i t)
  | list {a : Addr} {its : Array Value} : h.IsList a its → Init h (.ref a)
set_option maxHeartbeats 1000000 in
theorem reduce_spec {w : World} {A : Around} {h : Heap} {f sa : Addr} {v₀ : Value} {items : Array Value} {fo : Obj} {fd : FuncData} (S : Sta w h) (hA : A.handled = none) (hdep : A.depth + 2 < recursionLimit)
    (hf : h.get? f = some fo) (hfd : fo.data = .func fd) (hl : h.IsList sa items) (hi : Init h v₀)
    (J : Nat → Value → Heap → Prop) (Jm : ∀ i v g g', Sq g g' → J i v g → J i v g') (J0 : J 0 v₀ h)
    (step : ∀ i x v g B, items[i]? = some x → J i v g → Ext h g → B.handled = none → B.depth = A.depth + 1 → B.units = A.units + 3 → W w B (call (.ref f) [v, x]) g fun v' g' => Ext g g' ∧ J (i + 1) v' g') :
    W w A (call (.ref 38) [.ref f, .ref sa, v₀]) h fun v h' => Ext h h' ∧ J items.size v h' := by
  refine' w_enterP [(Str.ofString "function", .ref f), (Str.ofString "sequence", .ref sa), (Str.ofString "initial", v₀)] S (by omega) ?k6 ?k7 ?k8 ?k9 ?k10 ?_ ?c1 ?c2 ?c3
  case k6 => k_is
  case k7 => k_is
  case k8 => exact fun s e => binds_K (e ▸ S.part) rfl (by k_is) rfl rfl rfl
  case k9 => exact locs rfl
  case k10 => decide
  case c1 => exact rfl
  case c2 => exact rfl
  case c3 => exact rfl
  intro L h₁ F
  have S₁ := S.mono F.ext
  refine w_stmt (w_assign (w_call (w_builtin S₁ (ns_iter w) bb_iter (w_callBuiltin rfl rfl (w_cons (w_local F.ns rfl (w_nil ?_)))))))
  refine w_iterB (F.ext.isList hl) fun I h2 k2 hI st2 hne => ?_
  have e2 := Ext.of_keep k2
  refine w_store (F.step e2) fun h3 F3 s3 => ?_
  have S3 := S.mono F3.ext
  refine w_stmt (w_if (w_isTrue_cmp (w_local F3.ns (v := v₀) rfl (w_global S3 (ns_missing w) ?_))))
  have hmiss : h3.get? 30 = some _ := S3.part 30 _ (by k_is)
  have tail : ∀ {A' : Around} {P : Value → Heap → Prop}, P (.bool false) h3 → W w A' (compareOp .Is v₀ (.ref 30)) h3 P := fun p => by
    cases hi with
    | int i t => exact w_is_int p
    | list l => exact w_is_list (F3.ext.isList l) hmiss (by decide) p
  refine tail (w_truthy_bool ?_)
  rw [if_neg (by decide)]
  refine w_stmt (w_assign (w_local F3.ns (v := v₀) rfl (w_store F3 fun h4 F4 s4 => w_done ?_)))
  -- the loop
  have K : ∀ {A' : Around}, A'.handled = none → Iter w A' I _ _ _ _ := fun hA' => iter_list hA' I sa hne items
  have st4 : h4.IsListIter I sa 0 ∧ h4.IsList sa items := (K hA).stay ((K hA).stay ⟨st2, e2.isList (F.ext.isList hl)⟩ s3) s4
  have hI0 : h.get? I = none := F.ext.fresh hI
  refine w_stmt (w_for (w_local F4.ns (v := .ref I) rfl ?_))
  refine w_self (K hA) st4 ⟨fun n g => ∃ i v m, n = items.size - i ∧ i ≤ items.size ∧ (g.IsListIter I sa i ∧ g.IsList sa items) ∧ Fm h _ m (fun _ => none) g ∧ m (Str.ofString "function") = some (.ref f) ∧ m (Str.ofString "value") = some v ∧ J i v g, items.size,
    ⟨0, v₀, _, rfl, Nat.zero_le _, st4, F4, rfl, rfl, Jm _ _ _ _ ((F.ext.trans e2).sq.trans (s3.sq.trans s4.sq)) J0⟩, ?_⟩
  rintro n g ⟨i, v, m, rfl, hi, st, Fg, hmf, hmv, hJ⟩
  by_cases hlt : i < items.size
  · refine w_next (K hA) hlt st fun x g1 hx st1 k1 => ?_
    have it := (K hA).it _ _ st
    have F1 := Fg.iter k1 it hI0
    refine w_noTuple (w_assignName (w_store F1 fun g2 F2 s2 => ?_))
    have S2 := S.mono F2.ext
    refine w_stmt (w_assign (w_call (w_local F2.ns (v := .ref f) (by rw [upd_ne (by decide)]; exact hmf) ?_)))
    refine w_callFn (F2.ext.keep _ _ hf (lose_func hfd)) hfd rfl (w_cons (w_local F2.ns (v := v) (by rw [upd_ne (by decide)]; exact hmv) (w_cons (w_local F2.ns upd_self (w_nil ⟨Ext.refl _, ?_⟩)))))
    have sq2 : Sq g g2 := (so_iter k1 it).trans s2.sq
    refine (step i x v g2 (A.deeper _) hx (Jm _ _ _ _ sq2 hJ) F2.ext hA rfl rfl).mono fun v' g3 p3 => ?_
    obtain ⟨e3, hJ3⟩ := p3
    refine w_store (F2.step e3) fun g4 F4 s4 => w_done ?_
    refine ⟨items.size - (i + 1), by omega, i + 1, v', _, rfl, hlt, (K hA).stay ((K hA).stay ((K hA).stay st1 s2) e3.so) s4, F4, by rw [upd_ne (by decide), upd_ne (by decide)]; exact hmf, upd_self, Jm _ _ _ _ s4.sq hJ3⟩
  · obtain rfl : i = items.size := by omega
    refine w_nextEnd (K hA) st fun g1 k1 => w_done ?_
    have it := (K hA).it _ _ st
    have F1 := Fg.iter k1 it hI0
    refine w_stmt (w_return (w_local F1.ns hmv ⟨F1.ext, Jm _ _ _ _ (so_iter k1 it) hJ⟩))
end Mine
end
section
open PySem PySem.W PyProof.Rows PySem.Calls
namespace Mine
variable [Nn]
inductive RowsAre (h : Heap) : List Value → List (List Int) → Prop
  | nil : RowsAre h [] []
  | cons {b : Addr} {xs : List Int} {vs : List Value} {xss : List (List Int)} : Ints h b xs → RowsAre h vs xss → RowsAre h (.ref b :: vs) (xs :: xss)
def Rows (h : Heap) (a : Addr) (xss : List (List Int)) : Prop := ∃ vs, h.IsList a vs.toArray ∧ RowsAre h vs xss
theorem Sq.rowsAre {h h' : Heap} (x : Sq h h') {vs : List Value} {xss : List (List Int)} (r : RowsAre h vs xss) : RowsAre h' vs xss := by
  induction r with
  | nil => exact .nil
  | cons a _ ih => exact .cons (x.ints a) ih
theorem Sq.rows {h h' : Heap} (x : Sq h h') {a : Addr} {xss : List (List Int)} (l : Rows h a xss) : Rows h' a xss := let ⟨vs, l, i⟩ := l; ⟨vs, x.isList l, x.rowsAre i⟩
theorem RowsAre.length {h : Heap} {vs : List Value} {xss : List (List Int)} (r : RowsAre h vs xss) : vs.length = xss.length := by
  induction r with
  | nil => rfl
  | cons _ _ ih => simp [ih]
theorem RowsAre.get {h : Heap} {vs : List Value} {xss : List (List Int)} (r : RowsAre h vs xss) : ∀ (i : Nat) (xs : List Int), xss[i]? = some xs → ∃ b, vs[i]? = some (.ref b) ∧ Ints h b xs := by
  induction r with
  | nil => intro i xs e; simp at e
  | cons a _ ih =>
    intro i xs e
    cases i with
    | zero => simp at e; subst e; exact ⟨_, rfl, a⟩
    | succ i => simpa using ih i xs (by simpa using e)
theorem RowsAre.take {h : Heap} {vs : List Value} {xss : List (List Int)} (r : RowsAre h vs xss) : ∀ k : Nat, RowsAre h (vs.take k) (xss.take k) := by
  induction r with
  | nil => intro k; simpa using RowsAre.nil
  | cons a _ ih =>
    intro k
    cases k with
    | zero => exact .nil
    | succ k => exact .cons a (ih k)
theorem RowsAre.drop {h : Heap} {vs : List Value} {xss : List (List Int)} (r : RowsAre h vs xss) : ∀ k : Nat, RowsAre h (vs.drop k) (xss.drop k) := by
  induction r with
  | nil => intro k; simpa using RowsAre.nil
  | cons a r ih =>
    intro k
    cases k with
    | zero => exact .cons a r
    | succ k => exact ih k
theorem RowsAre.append {h : Heap} {vs us : List Value} {xss yss : List (List Int)} (r : RowsAre h vs xss) (q : RowsAre h us yss) : RowsAre h (vs ++ us) (xss ++ yss) := by
  induction r with
  | nil => exact q
  | cons a _ ih => exact .cons a ih
theorem getD_some {α : Type} {d : α} {xs : List α} {i : Nat} (h : i < xs.length) : xs[i]? = some (xs.getD i d) := by
  rw [List.getD_eq_getElem?_getD, List.getElem?_eq_getElem h]; rfl
def red (s row : List Int) (k : Nat) : List Int := (List.range 6).map fun i => s.getD k 0 * row.getD i 0 - row.getD k 0 * s.getD i 0
def laidGo : Nat → Nat → List (List Int) → List Int → List (List Int)
  | 0, _, st, _ => st
  | n + 1, k, st, row => if row.getD k 0 ≠ 0 then (if st.getD k [] = [] then st.take k ++ [row] ++ st.drop (k + 1) else laidGo n (k + 1) st (red (st.getD k []) row k)) else laidGo n (k + 1) st row
def laid (st : List (List Int)) (row : List Int) : List (List Int) := laidGo 6 0 st row
/-- every number of it below 2 ^ b -/
def Bd (b : Nat) (xs : List Int) : Prop := ∀ x ∈ xs, x.natAbs < 2 ^ b
theorem Bd.getD {b : Nat} {xs : List Int} (h : Bd b xs) (i : Nat) : (xs.getD i 0).natAbs < 2 ^ b := by
  rw [List.getD_eq_getElem?_getD]
  cases e : xs[i]? with
  | none => simpa using Nat.two_pow_pos b
  | some x => simpa using h x (List.mem_of_getElem? e)
theorem Bd.mono {b c : Nat} {xs : List Int} (h : Bd b xs) (l : b ≤ c) : Bd c xs := fun x hx => Nat.lt_of_lt_of_le (h x hx) (Nat.pow_le_pow_right (by omega) l)
theorem mulOk_bd {a b : Int} {m n : Nat} (h1 : a.natAbs < 2 ^ m) (h2 : b.natAbs < 2 ^ n) (l : m + n ≤ 100000000) : IntMulOk a b := by
  have p := PyProof.Rows.intBits_le h1
  have q := PyProof.Rows.intBits_le h2
  unfold IntMulOk Builtin.Int.intTooBig
  have : bitsLine = 134217728 := by decide
  rw [this]
  simp only [Bool.and_eq_true, decide_eq_true_eq]
  omega
theorem red_bd {s row : List Int} {k m n : Nat} (h1 : Bd m s) (h2 : Bd n row) : Bd (n + (m + 1)) (red s row k) := by
  intro x hx
  obtain ⟨i, _, rfl⟩ := List.mem_map.mp hx
  have a := h1.getD k
  have b := h2.getD i
  have c := h2.getD k
  have d := h1.getD i
  have p : (s.getD k 0 * row.getD i 0).natAbs < 2 ^ (m + n) := by rw [Int.natAbs_mul, Nat.pow_add]; exact Nat.mul_lt_mul'' a b
  have q : (row.getD k 0 * s.getD i 0).natAbs < 2 ^ (m + n) := by rw [Int.natAbs_mul, Nat.add_comm, Nat.pow_add]; exact Nat.mul_lt_mul'' c d
  have e : 2 ^ (n + (m + 1)) = 2 * 2 ^ (m + n) := by rw [show n + (m + 1) = (m + n) + 1 by omega, Nat.pow_succ]; omega
  show (s.getD k 0 * row.getD i 0 - row.getD k 0 * s.getD i 0).natAbs < 2 ^ (n + (m + 1))
  rw [e]
  generalize s.getD k 0 * row.getD i 0 = u at *
  generalize row.getD k 0 * s.getD i 0 = v at *
  omega
section
variable {w : World} {A : Around} {h : Heap}
theorem w_ne_int {a b : Int} {t u : Tok} {P : Value → Heap → Prop} (p : P (.bool (a != b)) h) : W w A (compareOp .NotEq (.int a t) (.int b u)) h P := fun s _ E e q => by subst e; exact PyProof.Rows.ne_int (q _ s.heap s.toks p)
theorem w_eq_ints {a b : Addr} {xs ys : List Int} {P : Value → Heap → Prop} (ha : Ints h a xs) (hb : Ints h b ys) (hu : A.units + 64 < cLine) (p : P (.bool (decide (xs = ys))) h) : W w A (compareOp .Eq (.ref a) (.ref b)) h P :=
  fun s _ E e q => by
    subst e
    obtain ⟨vs, l, i⟩ := ha
    obtain ⟨us, l', i'⟩ := hb
    exact eq_intsK l i l' i' hu (q _ s.heap s.toks p)
end
set_option maxHeartbeats 1000000 in
theorem laid_spec {w : World} {A : Around} {h : Heap} {sa ra : Addr} {st : List (List Int)} {row : List Int} {σ β : Nat} (S : Sta w h) (hA : A.handled = none) (hdep : A.depth + 2 < recursionLimit) (hu : A.units + 100 < cLine)
    (hst : Rows h sa st) (hrow : Ints h ra row) (l6 : st.length = 6) (r6 : row.length = 6) (sh : ∀ s ∈ st, s = [] ∨ s.length = 6) (bs : ∀ s ∈ st, Bd σ s) (br : Bd β row) (hb : β + 8 * (σ + 1) ≤ 100000000) :
    W w A (call (.ref 65) [.ref sa, .ref ra]) h fun v h' => Ext h h' ∧ ∃ a, v = .ref a ∧ Rows h' a (laid st row) := by
  refine' w_enterK [(Str.ofString "stairs", .ref sa), (Str.ofString "row", .ref ra)] S (by omega) ?k6 ?k7 ?k8 ?k9 ?_ ?c1 ?c2 ?c3
  case k6 => k_is
  case k7 => k_is
  case k8 => exact fun s e => BindsTo.of_eq rfl
  case k9 => exact rfl
  case c1 => exact rfl
  case c2 => exact rfl
  case c3 => exact rfl
  intro L h₁ F
  have S₁ := S.mono F.ext
  refine w_stmt (w_for (w_call (w_builtin S₁ (ns_range w) bb_range (w_callType rfl rfl (w_cons (w_int fun t1 => w_nil (w_range1 fun r h2 u1 u2 u3 e2 hr => ?_)))))))
  have F2 := F.step e2
  refine w_iter hA (.range (n := 6) rfl hr (small_one (by omega) (by omega) (by omega) (by omega)) (by decide)) fun I St fp h3 K k3 hI st0 _ => ?_
  have e3 := Ext.of_keep k3
  have hI0 : h.get? I = none := F2.ext.fresh hI
  refine ⟨fun n g => ∃ k rw ra m cm, n = 6 - k ∧ k ≤ 6 ∧ St k g ∧ Fm h _ m cm g ∧ cm (Str.ofString "stairs") = some (.ref sa) ∧ cm (Str.ofString "row") = some (.ref ra) ∧ Ints g ra rw ∧ rw.length = 6 ∧ Bd (β + k * (σ + 1)) rw ∧ laid st row = laidGo (6 - k) k st rw, 6,
    ⟨0, row, ra, _, _, rfl, by omega, st0, F2.step e3, rfl, rfl, (F2.ext.trans e3).sq.ints hrow, r6, by simpa using br, rfl⟩, ?_⟩
  rintro n g ⟨k, rw, ra, m, cm, rfl, hk, stk, Fg, hcs, hcr, hrw, rw6, brw, hgo⟩
  by_cases hlt : k < 6
  · refine w_next K hlt stk fun x g1 hx st1 k1 => ?_
    obtain ⟨tk, rfl⟩ := hx
    have it := K.it _ _ stk
    have F1 := Fg.iter k1 it hI0
    refine w_noTuple (w_assignName (w_storeC F1 rfl fun g2 F2 s2 => ?_))
    have sq2 : Sq g g2 := (so_iter k1 it).trans s2.sq
    have cs := F2.cell (Str.ofString "stairs") _ rfl
    have cr := F2.cell (Str.ofString "row") _ rfl
    have ck := F2.cell (Str.ofString "k") _ rfl
    rw [upd_ne (by decide), hcs] at cs
    rw [upd_ne (by decide), hcr] at cr
    rw [upd_self] at ck
    obtain ⟨vs, hrl, hri⟩ := sq2.ints hrw
    obtain ⟨us, hsl, hsi⟩ := F2.ext.sq.rows hst
    obtain ⟨ta, ha⟩ := IntsAre.item hri (i := k) (x := rw.getD k 0) (getD_some (by omega))
    refine w_stmt (w_if (w_isTrue_cmp (w_subscript (w_cell rfl cr (w_cell rfl ck ?_)))))
    refine w_item (v := .int (rw.getD k 0) ta) hrl (by omega) (by rw [← ha]; congr 1; omega) ?_
    refine w_int fun t2 => w_ne_int (w_truthy_bool ?_)
    have hgo' : laidGo (6 - k) k st rw = laidGo (6 - (k + 1) + 1) k st rw := by congr 1; omega
    rw [hgo', laidGo] at hgo
    by_cases hz : rw.getD k 0 = 0
    · rw [if_neg (by simpa using hz)]
      rw [if_neg (by simpa using hz)] at hgo
      exact w_done (w_done ⟨6 - (k + 1), by omega, k + 1, rw, ra, m, _, rfl, hlt, K.stay st1 s2, F2, by rw [upd_ne (by decide)]; exact hcs, by rw [upd_ne (by decide)]; exact hcr, sq2.ints hrw, rw6, brw.mono (by rw [Nat.succ_mul]; omega), hgo⟩)
    · rw [if_pos (by simpa using hz)]
      rw [if_pos (by simpa using hz)] at hgo
      obtain ⟨b, hub, hbi⟩ := hsi.get k (st.getD k []) (getD_some (by omega))
      have hsm : st.getD k [] ∈ st := by rw [List.getD_eq_getElem?_getD, List.getElem?_eq_getElem (by omega)]; exact List.getElem_mem _
      have hul : us.length = 6 := hsi.length.trans l6
      refine w_stmt (w_if (w_isTrue_cmp (w_subscript (w_cell rfl cs (w_cell rfl ck ?_)))))
      refine w_item (v := .ref b) hsl (by omega) (by rw [List.getElem?_toArray, ← hub]; congr 1; omega) ?_
      refine w_list (w_nil ⟨by simp, fun a3 g3 e3 l3 f3 => ?_⟩)
      refine w_eq_ints (e3.sq.ints hbi) ⟨[], l3, .nil⟩ (by show A.units + 3 + 64 < cLine; omega) (w_truthy_bool ?_)
      by_cases hn : st.getD k [] = []
      · rw [if_pos (by simpa using hn)]
        rw [if_pos hn] at hgo
        -- the stair is laid
        have hz : us.toArray.size ≤ sizeLine := by rw [List.size_toArray, hul, ← sl_line]; omega
        refine w_stmt (w_return (w_binop (w_binop (w_subscript (w_cell rfl (e3.cell cs) (w_sl (w_part_none (w_part_some (w_cell rfl (e3.cell ck) fun sl g4 e4 hs4 => ?_)))))))))
        have E4 := e3.trans e4
        refine w_slice (E4.isList hsl) hs4 .none (.int _ tk) hz fun a5 g5 e5 l5 f5 => ?_
        have E5 := E4.trans e5
        rw [show ((0 : Int) + (k : Int)) = ((k : Nat) : Int) by omega, slicePick_upto'] at l5
        refine w_list (w_cons (w_cell rfl (E5.cell cr) (w_nil ⟨by rw [← sl_line]; simp, fun a6 g6 e6 l6' f6 => ?_⟩)))
        have E6 := E5.trans e6
        refine w_concat (e6.isList l5) l6' (by rw [List.size_toArray, List.size_toArray, ← sl_line]; simp; omega) fun a7 g7 e7 l7 f7 => ?_
        have E7 := E6.trans e7
        refine w_subscript (w_cell rfl (E7.cell cs) (w_sl (w_part_some (w_binop (w_cell rfl (E7.cell ck) (w_int fun t8 => w_add fun t9 => w_part_none fun sl8 g8 e8 hs8 => ?_))))))
        have E8 := E7.trans e8
        refine w_slice (E8.isList hsl) hs8 (.int _ t9) .none hz fun a9 g9 e9 l9 f9 => ?_
        have E9 := E8.trans e9
        rw [show ((0 : Int) + (k : Int) + 1) = ((k + 1 : Nat) : Int) by omega, slicePick_from'] at l9
        refine w_concat ((e8.trans e9).isList l7) l9 (by rw [Array.size_append, List.size_toArray, List.size_toArray, List.size_toArray, ← sl_line]; simp; omega) fun a10 g10 e10 l10 f10 => ?_
        have E10 := E9.trans e10
        refine ⟨F2.ext.trans E10, a10, rfl, (us.take k ++ [.ref ra]) ++ us.drop (k + 1), by simpa using l10, ?_⟩
        rw [hgo]
        exact ((E10.sq.rowsAre (hsi.take k)).append (.cons ((sq2.trans E10.sq).ints hrw) .nil)).append (E10.sq.rowsAre (hsi.drop (k + 1)))
      · rw [if_neg (by simpa using hn)]
        rw [if_neg hn] at hgo
        refine w_done (w_stmt (w_assign ?_))
        have s6 : (st.getD k []).length = 6 := (sh _ hsm).resolve_left hn
        have S3 := S.mono (F2.ext.trans e3)
        refine w_comp hA (w_call (w_builtin S3 (ns_range w) bb_range (w_callType rfl rfl (w_cons (w_int fun t3 => w_nil (w_range1 fun r4 g4 v1 v2 v3 e4 hr4 => ?_))))))
        have E4 := e3.trans e4
        obtain ⟨ws, hbl, hbs⟩ := hbi
        refine ⟨6, _, fun i ys g => ∃ xs, IntsAre ys xs ∧ xs = (List.range i).map fun i => (st.getD k []).getD k 0 * rw.getD i 0 - rw.getD k 0 * (st.getD k []).getD i 0, .range rfl hr4 (small_one (by omega) (by omega) (by omega) (by omega)) (by decide), by rw [← sl_line]; omega,
          ⟨fun i ys g g' _ x => x, ⟨[], .nil, rfl⟩, ?_⟩, ?_⟩
        · intro i ys v C m5 g5 h5 hi hv hJ hsq e5 hns hm hy
          obtain ⟨t5, rfl⟩ := hv
          refine w_tests0 ⟨Ext.refl _, ?_⟩
          rw [if_pos rfl]
          obtain ⟨xs, hxs, rfl⟩ := hJ
          have E5 := E4.trans e5
          obtain ⟨tb, hb1⟩ := IntsAre.item hbs (i := k) (x := (st.getD k []).getD k 0) (getD_some (by omega))
          obtain ⟨tc, hb2⟩ := IntsAre.item hbs (i := i) (x := (st.getD k []).getD i 0) (getD_some (by omega))
          obtain ⟨td, hr2⟩ := IntsAre.item hri (i := i) (x := rw.getD i 0) (getD_some (by omega))
          have bst := bs _ hsm
          refine w_binop (w_binop (w_subscript (w_subscript (w_cell rfl (E5.cell cs) (w_cell rfl (E5.cell ck) ?_)))))
          refine w_item (v := .ref b) (E5.isList hsl) (by omega) (by rw [List.getElem?_toArray, ← hub]; congr 1; omega) (w_cell rfl (E5.cell ck) ?_)
          refine w_item (v := .int ((st.getD k []).getD k 0) tb) (E5.isList hbl) (by omega) (by rw [← hb1]; congr 1; omega) ?_
          refine w_subscript (w_cell rfl (E5.cell cr) (w_local hns hm ?_))
          refine w_item (v := .int (rw.getD i 0) td) (E5.isList hrl) (by omega) (by rw [← hr2]; congr 1; omega) ?_
          have hkk : k * (σ + 1) ≤ 6 * (σ + 1) := Nat.mul_le_mul_right _ hk
          refine w_mul (mulOk_bd (bst.getD k) (brw.getD i) (by omega)) fun t6 => ?_
          refine w_binop (w_subscript (w_cell rfl (E5.cell cr) (w_cell rfl (E5.cell ck) ?_)))
          refine w_item (v := .int (rw.getD k 0) ta) (E5.isList hrl) (by omega) (by rw [← ha]; congr 1; omega) ?_
          refine w_subscript (w_subscript (w_cell rfl (E5.cell cs) (w_cell rfl (E5.cell ck) ?_)))
          refine w_item (v := .ref b) (E5.isList hsl) (by omega) (by rw [List.getElem?_toArray, ← hub]; congr 1; omega) (w_local hns hm ?_)
          refine w_item (v := .int ((st.getD k []).getD i 0) tc) (E5.isList hbl) (by omega) (by rw [← hb2]; congr 1; omega) ?_
          refine w_mul (mulOk_bd (brw.getD k) (bst.getD i) (by omega)) fun t7 => w_sub fun t8 => ⟨Ext.refl _, fun g' _ _ => ⟨_, hxs.append (.cons _ _ .nil), ?_⟩⟩
          rw [List.range_succ, List.map_append]; rfl
        · intro D h6 ys e6 hJ hD hDf hy
          obtain ⟨xs, hxs, rfl⟩ := hJ
          have E6 := E4.trans e6
          refine w_storeC (F2.step E6) rfl fun g7 F7 s7 => w_done (w_done ?_)
          refine ⟨6 - (k + 1), by omega, k + 1, red (st.getD k []) rw k, D, m, _, rfl, hlt, K.stay (K.stay (K.stay st1 s2) E6.so) s7, F7, by rw [upd_ne (by decide), upd_ne (by decide)]; exact hcs, upd_self, s7.sq.ints ⟨ys, hD, hxs⟩, by simp [red], ?_, hgo⟩
          refine (red_bd (bs _ hsm) brw).mono ?_
          rw [Nat.succ_mul]; omega
  · obtain rfl : k = 6 := by omega
    refine w_nextEnd K stk fun g1 k1 => w_done ?_
    have it := K.it _ _ stk
    have F1 := Fg.iter k1 it hI0
    have cs := F1.cell (Str.ofString "stairs") _ rfl
    rw [hcs] at cs
    refine w_stmt (w_return (w_cell rfl cs ⟨F1.ext, sa, rfl, ?_⟩))
    rw [hgo]
    exact F1.ext.sq.rows hst
end Mine
end
section
open PySem PySem.W PyProof.Rows PySem.Calls
namespace Mine
variable [Nn]
def uldGo : List Int → List Int → List Int → List Int × List Int
  | [], ys, ms => (ms, ys)
  | x :: r, ys, ms => if x ∈ ys then uldGo r (ys.erase x) ms else uldGo r ys (ms ++ [x])
def uld (xs ys : List Int) : List Int × List Int := uldGo xs.reverse ys []
theorem snoc_inv {vs : List Value} {xs : List Int} {x : Int} (I : IntsAre vs (xs ++ [x])) : ∃ us t, vs = us ++ [.int x t] ∧ IntsAre us xs := by
  induction xs generalizing vs with
  | nil =>
    obtain ⟨t, vs', rfl, h⟩ := I.cons_inv
    cases h
    exact ⟨[], t, rfl, .nil⟩
  | cons y ys ih =>
    obtain ⟨t, vs', rfl, h⟩ := IntsAre.cons_inv (show IntsAre vs (y :: (ys ++ [x])) from I)
    obtain ⟨us, u, rfl, h'⟩ := ih h
    exact ⟨.int y t :: us, u, rfl, .cons y t h'⟩
theorem w_tryRemove {w : World} {A : Around} {g : Heap} {env : Env} {outer : List Env} {L aa : Addr} {m : Str → Option Value} {nA nI : Str} {p1 p2 p3 p4 p5 p6 p7 p8 : Pos} {b₀ : Stmt} {suite : List Stmt} {x : Int} {tx : Tok} {us : List Value} {ys : List Int} {P : Flow → Heap → Prop}
    (S : Sta w g) (hA : A.handled = none) (hfr : A.frames = some (env :: outer)) (hf : env.frame = some L) (fo : FrOk g (env :: outer)) (hn : g.Ns env.locals m) (hmA : m nA = some (.ref aa)) (hmI : m nI = some (.int x tx)) (pa : PL g aa us) (ia : IntsAre us ys) (hz : us.length ≤ sizeLine)
    (yes : x ∈ ys → ∀ g' us', Heap.SameBut aa g g' → PL g' aa us' → IntsAre us' (ys.erase x) → P .next g') (no : x ∉ ys → ∀ g' e, Ext g g' → W w (A.mark (some (.ref e))) (execs (b₀ :: suite) env) g' P)
    (hk : env.scope.kind = .function) (hlA : env.kindOf nA = some .local) (hlI : env.kindOf nI = some .local) (hdA : (nA == ("__debug__" : Str)) = false) (hdI : (nI == ("__debug__" : Str)) = false)
    (hl : env.kindOf (Str.ofString "ValueError") = some .globalImplicit) (hg : env.globals = mainGlobals) (hb : env.builtins = builtinsNs) (h3 : (p2.endLine == p4.line) = true) (hi : interactive env = false) :
    W w A (exec (.Try [.Expr (.Call (.Attribute (.Name nA p1) (Str.ofString "remove") p2) [.Name nI p3] [] p4) p5] [.ExceptHandler (some (.Name (Str.ofString "ValueError") p6)) none (b₀ :: suite) p7] [] [] p8) env) g P := by
  intro s Q E es q
  subst es
  refine wpAny_Try_except (wpAny_execs_cons (wpAny_Expr ?_ hi rfl))
  refine wpAny_Call_method rfl rfl h3 PySem.F.plainAttrs_list PySem.F.slot_list_remove PySem.F.type_list_remove ?_
  refine w_local hn hmA (P := fun v h' => v = .ref aa ∧ h' = s.heap) ⟨rfl, rfl⟩ hk hlA hdA _ _ _ rfl ?_
  rintro _ _ tk1 ⟨rfl, rfl⟩
  obtain ⟨n, e⟩ := pa
  refine ⟨⟨_, e, rfl⟩, fun a' q => by cases q; exact ⟨_, e, rfl⟩, ?_⟩
  refine PySem.Calls.callWith_builtin rfl (evalArgs_plain (Calls.spliced_cons ?_))
  show wpAny (model P0 w) A (eval (.Name nI p3) env) _ _ _
  refine w_local hn hmI (P := fun v h' => v = .int x tx ∧ h' = s.heap) ⟨rfl, rfl⟩ hk hlI hdI _ _ _ rfl ?_
  rintro _ _ tk2 ⟨rfl, rfl⟩
  refine Calls.spliced_nil ?_
  show wpAny (model P0 w) A (call (.builtin "list.remove") [.ref aa, .int x tx]) _ _ _
  by_cases hx : x ∈ ys
  · obtain ⟨j, hj, a, b, c⟩ := IntsAre.find ia x hx
    refine call_meets PySem.F.slot_list_remove ⟨_, e, rfl⟩ PySem.F.entry_list_remove (PySem.F.args_list_remove_2 _ _)
      (MeetsSeq.list_remove aa us.toArray n (.int x tx) (isInt x) (IntsAre.eqs ia x tx) j (by simpa using hj) (by simpa using a) (fun m hm hlt => by simpa using b m (by simpa using hm) hlt) (by simpa using hz)) ⟨e, ?_⟩
    refine wpAny_execs_nil (wpAny_execs_nil (q _ _ _ (yes hx _ (us.eraseIdx j) (Heap.SameBut.update ..) ⟨n + 1, ?_⟩ c)))
    have hm : Obj.mapSeq (fun xs => xs.eraseIdxIfInBounds j) { cls := .type "list", data := .seq us.toArray n } = { cls := .type "list", data := .seq (us.eraseIdx j).toArray (n + 1) } := by
      refine mapSeq_list ?_ ?_
      · apply Array.toList_inj.mp
        simp [Array.toList_eraseIdxIfInBounds]
      · simp [List.length_eraseIdx, hj]; omega
    rw [Heap.get?_update_self _ e (by rw [hm]; rfl), hm]
  · refine call_meets PySem.F.slot_list_remove ⟨_, e, rfl⟩ PySem.F.entry_list_remove (PySem.F.args_list_remove_2 _ _)
      (MeetsSeq.list_remove_none aa us.toArray n (.int x tx) (isInt x) (IntsAre.eqs ia x tx) (fun m hm => by simpa using IntsAre.findNot ia x hx m (by simpa using hm))) ⟨e, hA, fun h' tk ex hxn => ?_⟩
    exact caught S hfr hf fo hxn (fun g' eg => no hx g' ex eg) (fun v h' tk p => q v h' tk p) hk hl hg hb
set_option maxHeartbeats 1000000 in
theorem diff_spec {w : World} {A : Around} {h₀ h : Heap} {outer : List Env} {ea aa : Addr} {vs us : List Value} {xs ys : List Int} (S₀ : Sta w h₀) (x₀ : Ext h₀ h) (hA : A.handled = none) (hdep : A.depth + 2 < recursionLimit) (hfr : A.frames = some outer) (hfo : FrOk h₀ outer)
    (he : PL h ea vs) (hi : IntsAre vs xs) (ha : PL h aa us) (hj : IntsAre us ys) (hne : ea ≠ aa) (o1 : h₀.get? ea = none) (o2 : h₀.get? aa = none) (lx : xs.length ≤ 1000) (ly : ys.length ≤ 1000) :
    W w A (call (.ref 21) [.ref ea, .ref aa]) h fun v h' => Ext h₀ h' ∧ ∃ t ma, v = .ref t ∧ h'.IsTuple t #[.ref ma, .ref aa] ∧ Ints h' ma (uld xs ys).1 ∧ Ints h' aa (uld xs ys).2 := by
  have S := S₀.mono x₀
  refine' w_enterP [(Str.ofString "expected", .ref ea), (Str.ofString "actual", .ref aa)] S (by omega) ?k6 ?k7 ?k8 ?k9 ?k10 ?_ ?c1 ?c2 ?c3
  case k6 => k_is
  case k7 => k_is
  case k8 => exact fun s e => BindsTo.of_eq rfl
  case k9 => exact locs rfl
  case k10 => decide
  case c1 => exact rfl
  case c2 => exact rfl
  case c3 => exact rfl
  intro L h₁ F
  have F₁ := F.base x₀
  refine w_stmt (w_assign (w_listP (w_nil ⟨by simp, fun ma h2 e2 l2 f2 => ?_⟩)))
  have pe : PL h2 ea vs := he.sq (F.ext.trans e2).sq
  have pa : PL h2 aa us := ha.sq (F.ext.trans e2).sq
  have nem : ∀ {b vs}, PL h b vs → b ≠ ma := fun {b vs} p q => by
    subst q
    obtain ⟨n, e⟩ := p.sq F.ext.sq
    rw [f2] at e; cases e
  have ne1 := nem he
  have ne2 := nem ha
  have o3 : h₀.get? ma = none := F₁.ext.fresh f2
  refine w_store (F₁.step e2) fun h3 F3 s3 => ?_
  refine w_stmt (w_while (fun n g => ∃ r ys' ms vs' us' ws m, n = r.length ∧ r.length ≤ 1000 ∧ ys'.length ≤ 1000 ∧ ms.length + r.length ≤ 1000 ∧ Fm h₀ _ m (fun _ => none) g ∧ m (Str.ofString "expected") = some (.ref ea) ∧ m (Str.ofString "actual") = some (.ref aa) ∧ m (Str.ofString "missing") = some (.ref ma) ∧
    PL g ea vs' ∧ IntsAre vs' r.reverse ∧ PL g aa us' ∧ IntsAre us' ys' ∧ PL g ma ws ∧ IntsAre ws ms ∧ uld xs ys = uldGo r ys' ms) ?_ xs.length
    ⟨xs.reverse, ys, [], vs, us, [], _, by simp, by simpa using lx, ly, by simpa using lx, F3, rfl, rfl, rfl, pe.sq s3.sq, by simpa using hi, pa.sq s3.sq, hj, l2.sq s3.sq, .nil, rfl⟩)
  rintro n g ⟨r, ys', ms, vs', us', ws, m, rfl, lr, ly', lm, Fg, m1, m2, m3, pe, ie, pa, ia, pm, im, hgo⟩
  have hvl : vs'.length = r.length := by rw [ie.length]; simp
  have hul : us'.length = ys'.length := ia.length
  have hwl : ws.length = ms.length := im.length
  refine w_isTrue (w_local Fg.ns m1 (w_truthy_list pe.isList (by rw [List.size_toArray]; omega) ?_))
  cases r with
  | nil =>
    have : vs' = [] := by simpa using hvl
    subst this
    rw [if_neg (by simp)]
    refine w_done ?_
    refine w_stmt (w_return (w_tuple (w_cons (w_local Fg.ns m3 (w_cons (w_local Fg.ns m2 (w_nil ⟨by rw [← sl_line]; simp, fun t g2 e2 l2 f2 => ?_⟩)))))))
    refine ⟨Fg.ext.trans e2, t, ma, rfl, l2, ?_, ?_⟩
    · rw [hgo]; exact e2.sq.ints ⟨ws, pm.isList, im⟩
    · rw [hgo]; exact e2.sq.ints ⟨us', pa.isList, ia⟩
  | cons x r =>
    rw [List.reverse_cons] at ie
    obtain ⟨vs2, tx, rfl, ie2⟩ := snoc_inv ie
    have hv2 : vs2.length = r.length := by have := ie2.length; simpa using this
    rw [if_pos (by simp)]
    refine w_stmt (w_assign (w_meth PySem.F.slot_list_pop PySem.F.type_list_pop (w_local Fg.ns m1 ⟨ea, _, rfl, pe, w_callBuiltin0 (w_pop pe (by rw [← sl_line]; simp at lr; omega) fun g2 s2 pe2 => ?_)⟩)))
    have F2 := Fg.list s2 pe.isList o1
    have pa2 := pa.same s2 (Ne.symm hne)
    have pm2 := pm.same s2 (Ne.symm ne1)
    refine w_store F2 fun g3 F3 s3 => ?_
    have nI : (upd m (Str.ofString "item") (Value.int x tx)) (Str.ofString "item") = some (.int x tx) := upd_self
    have n1 : (upd m (Str.ofString "item") (Value.int x tx)) (Str.ofString "expected") = some (.ref ea) := by rw [upd_ne (by decide)]; exact m1
    have n2 : (upd m (Str.ofString "item") (Value.int x tx)) (Str.ofString "actual") = some (.ref aa) := by rw [upd_ne (by decide)]; exact m2
    have n3 : (upd m (Str.ofString "item") (Value.int x tx)) (Str.ofString "missing") = some (.ref ma) := by rw [upd_ne (by decide)]; exact m3
    refine w_stmt (w_tryRemove (L := L) (outer := outer) (S₀.mono F3.ext) hA (by rw [show (A.deeper _).frames = A.frames.map (_ :: ·) from rfl, hfr]; rfl) rfl ?_ F3.ns n2 nI (pa2.sq s3.sq) ia (by rw [← sl_line]; omega) ?_ ?_ rfl rfl rfl (by decide) (by decide) rfl rfl rfl rfl rfl)
    · intro env he
      rcases List.mem_cons.mp he with rfl | he
      · exact ⟨(fun q => nomatch q), L, _, rfl, F3.big, F3.ns⟩
      · exact (hfo.mono F3.ext) env he
    · intro hx g4 us4 s4 pa4 ia4
      rw [uldGo, if_pos hx] at hgo
      refine w_done ⟨r.length, by simp, r, ys'.erase x, ms, vs2, us4, ws, _, rfl, by simp at lr; omega, Nat.le_trans (List.length_erase_le ..) ly', by simp at lm; omega, F3.list s4 (pa2.sq s3.sq).isList o2, n1, n2, n3, (pe2.sq s3.sq).same s4 hne, ie2, pa4, ia4, (pm2.sq s3.sq).same s4 (Ne.symm ne2), im, hgo⟩
    · intro hx g4 ex e4
      rw [uldGo, if_neg hx] at hgo
      have F4 := F3.step e4
      refine w_stmt (w_exprNone (w_meth PySem.F.slot_list_append PySem.F.type_list_append (w_local F4.ns n3 ⟨ma, _, rfl, (pm2.sq s3.sq).sq e4.sq, w_callBuiltin rfl rfl (w_cons (w_local F4.ns nI (w_nil ?_)))⟩)))
      refine w_append ((pm2.sq s3.sq).sq e4.sq) (by rw [← sl_line]; omega) fun g5 s5 pm5 => ⟨rfl, w_done (w_done ?_)⟩
      refine ⟨r.length, by simp, r, ys', ms ++ [x], vs2, us', _, _, rfl, by simp at lr; omega, ly', by simp at lm ⊢; omega, F4.list s5 ((pm2.sq s3.sq).sq e4.sq).isList o3, n1, n2, n3, ((pe2.sq s3.sq).sq e4.sq).same s5 ne1, ie2, ((pa2.sq s3.sq).sq e4.sq).same s5 ne2, ia, pm5, im.append (.cons x tx .nil), hgo⟩
end Mine
end
section
open PySem PySem.W PyProof.Rows PySem.Calls
namespace Mine
variable [Nn]
section
variable {w : World} {A : Around} {h : Heap} {env : Env}
theorem w_assignTuple2 {x y : Str} {px py pos : Pos} {k : Nat} {t : Addr} {a b : Value} {P : Unit → Heap → Prop} (hA : A.handled = none) (ht : h.IsTuple t #[a, b])
    (p : ∀ h', Ext h h' → W w A (storeName env x a) h' fun _ h₂ => W w A (storeName env y b) h₂ P) : W w A (assign (.Tuple [.Name x px, .Name y py] k pos) env (.ref t)) h P :=
  fun s _ E e q => by
    subst e
    refine wpAny_assign_Tuple hA ht rfl rfl fun h' hx => ?_
    have e1 : Ext s.heap h' := Ext.of_keep fun b o e => hx b o (Nat.ne_of_lt (Heap.lt_size e)) e
    show wpAny (model P0 w) A (assignInOrder [assign (.Name x px) env, assign (.Name y py) env] [a, b]) _ E _
    refine PySem.wpAny_assignInOrder_more (wpAny_assign_Name (p h' e1 _ _ _ rfl fun _ h₂ t₂ p₂ => ?_))
    exact PySem.wpAny_assignInOrder_more (wpAny_assign_Name (p₂ _ _ _ rfl fun _ h₃ t₃ p₃ => PySem.wpAny_assignInOrder_none (q _ _ _ p₃)))
theorem w_enumerate {l : Addr} {items : Array Value} {P : Value → Heap → Prop} (hl : h.IsList l items)
    (p : ∀ e it h', (∀ b o, h.get? b = some o → h'.get? b = some o) → h.get? e = none → h.get? it = none → e ≠ it → l ≠ e → l ≠ it → (∃ old, IsEnum h' e it 0 old) → h'.IsListIter it l 0 → P (.ref e) h') : W w A (call (.type "enumerate") [.ref l]) h P :=
  fun s _ E e q => by
    subst e
    have hlt : l < s.heap.objs.size := by obtain ⟨_, e, _⟩ := hl; exact Heap.lt_size e
    exact call_enumerate_list hl fun h' a b c d => q _ _ _ (p _ _ h' d (none_of_le (Nat.le_succ _)) (fresh_size _) (Nat.succ_ne_self _) (Nat.ne_of_lt (Nat.lt_succ_of_lt hlt)) (Nat.ne_of_lt hlt) ⟨_, a⟩ b)
end
theorem enum_it {h : Heap} {e it : Addr} {i : Int} {old : Value} (x : IsEnum h e it i old) : ItObj h e := ⟨_, _, x, rfl, rfl, fun vs q t d => by cases d; intro z; cases z⟩
theorem enumOut_it {h : Heap} {e it : Addr} {i : Int} {v : Value} {a : Addr} (x : IsEnumOut h e it i v a) : ItObj h e := ⟨_, _, x, rfl, rfl, fun vs q t d => by cases d; intro z; cases z⟩
section
variable {w : World} {A : Around} {h : Heap} {I : Addr} {fp wr : List Addr} {n i : Nat} {Pt : Nat → Array Value → Prop} {St : Nat → Heap → Prop} {Mid : Nat → Addr → Heap → Prop}
theorem w_selfT {P : Value → Heap → Prop} (K : WalksT P0 w A I fp wr n Pt St Mid) (st : St i h) (p : P (.ref I) h) : W w A (pyIter (.ref I)) h P := fun s _ E e q => by subst e; exact K.self i s _ E st (q _ s.heap s.toks p)
theorem w_nextT {P : Option Value → Heap → Prop} (K : WalksT P0 w A I fp wr n Pt St Mid) (hi : i < n) (st : St i h) (p : ∀ T vals h', Pt i vals → h'.IsTuple T vals → Mid i T h' → (∀ b o, b ∉ wr → h.get? b = some o → h'.get? b = some o) → P (some (.ref T)) h') : W w A (pyNext (.ref I)) h P :=
  fun s _ E e q => by subst e; exact K.item i s _ E hi st fun T vals h' tk a _ b c d => q _ _ _ (p T vals h' a b c d)
theorem w_goT {T : Addr} {elts : List Expr} {k : Nat} {pos : Pos} {P : Unit → Heap → Prop} (K : WalksT P0 w A I fp wr n Pt St Mid) (md : Mid i T h) (p : ∀ h', St (i + 1) h' → (∀ b o, b ∉ wr → h.get? b = some o → h'.get? b = some o) → P () h') : W w A (letOwnedTupleGo (.Tuple elts k pos) (.ref I) (.ref T)) h P :=
  fun s _ E e q => by subst e; exact K.go elts k pos i T s _ E md fun h' a b => q _ _ _ (p h' a b)
theorem w_endT {P : Option Value → Heap → Prop} (K : WalksT P0 w A I fp wr n Pt St Mid) (st : St n h) (p : ∀ h', (∀ b o, b ∉ wr → h.get? b = some o → h'.get? b = some o) → P none h') : W w A (pyNext (.ref I)) h P :=
  fun s _ E e q => by subst e; exact K.done s _ E st fun h' tk c => q _ _ _ (p h' c)
end
theorem bits10 : (Builtin.Int.intBits 10 : Int) = 4 := by decide
set_option maxHeartbeats 1000000 in
theorem roots_spec {w : World} {A : Around} {h : Heap} {la : Addr} {vs : List Value} {ns : List Int} (S : Sta w h) (hA : A.handled = none) (hdep : A.depth + 2 < recursionLimit) (hl : h.IsList la vs.toArray) (hi : IntsAre vs ns) (hlen : ns.length ≤ 100000) :
    W w A (call (.ref 43) [.ref la]) h fun v h' => Ext h h' ∧ ∃ t a b xs ys, v = .ref t ∧ h'.IsTuple t #[.ref a, .ref b] ∧ Ints h' a xs ∧ Ints h' b ys ∧ xs.length = 3 ∧ ys.length = 3 ∧ (∀ x ∈ xs, -(2 ^ 62) < x ∧ x < 2 ^ 62) ∧ (∀ x ∈ ys, -(2 ^ 62) < x ∧ x < 2 ^ 62) := by
  refine' w_enterP [(Str.ofString "script", .ref la)] S (by omega) ?k6 ?k7 ?k8 ?k9 ?k10 ?_ ?c1 ?c2 ?c3
  case k6 => k_is
  case k7 => k_is
  case k8 => exact fun s e => BindsTo.of_eq rfl
  case k9 => exact locs rfl
  case k10 => decide
  case c1 => exact rfl
  case c2 => exact rfl
  case c3 => exact rfl
  intro L h₁ F
  have hvl := hi.length
  refine w_stmt (w_assign (w_list (w_cons (w_int fun t1 => w_cons (w_int fun t2 => w_cons (w_unop (w_int fun t3 => w_neg fun t3' => w_cons (w_int fun t4 => w_cons (w_unop (w_int fun t5 => w_neg fun t5' => w_cons (w_int fun t6 => w_nil ⟨by rw [← sl_line]; simp, fun ca h2 e2 l2 f2 => ?_⟩)))))))))))
  refine w_store (F.step e2) fun h3 F3 s3 => ?_
  have l3 := s3.sq.isList l2
  have o3 : h.get? ca = none := F.ext.fresh f2
  have S3 := S.mono F3.ext
  refine w_stmt (w_for ?_)
  refine w_call (w_builtin S3 (ns_enumerate w) bb_enumerate (w_callType rfl rfl (w_cons (w_subscript (w_local F3.ns (v := .ref la) rfl (w_sl (w_part_none (w_part_some (w_int fun t7 sl h4 e4 hs4 => ?_)))))))))
  refine w_slice ((F3.ext.trans e4).isList hl) hs4 .none (.int 60 t7) (by rw [List.size_toArray, ← sl_line]; omega) fun sa h5 e5 l5 f5 => w_nil ?_
  rw [show slicePick vs.toArray none (some 60) none = (vs.take 60).toArray from slicePick_upto' _ 60] at l5
  have iS : IntsAre (vs.take 60) (ns.take 60) := hi.take 60
  refine w_enumerate l5 fun e it h6 k6 fe fit hei hle hli en6 it6 => ?_
  have e6 := Ext.of_keep k6
  have F6 := (F3.step (e4.trans e5)).step e6
  have oe : h.get? e = none := (F3.step (e4.trans e5)).ext.fresh fe
  have oit : h.get? it = none := (F3.step (e4.trans e5)).ext.fresh fit
  have Wk : ∀ {A' : Around}, A'.handled = none → WalksT P0 w A' e _ _ _ _ _ _ := fun hA' => WalksT.enumerate hA' e it sa hei hle hli (vs.take 60).toArray
  have st6 : (∃ old, IsEnum h6 e it ((0 : Nat) : Int) old) ∧ h6.IsListIter it sa 0 ∧ h6.IsList sa (vs.take 60).toArray := ⟨en6, it6, e6.isList l5⟩
  have ca5 : h5.IsList ca _ := (e4.trans e5).isList l3
  have nee : e ≠ ca := by rintro rfl; obtain ⟨o, z, _⟩ := ca5; rw [fe] at z; cases z
  have nei : it ≠ ca := by rintro rfl; obtain ⟨o, z, _⟩ := ca5; rw [fit] at z; cases z
  have nes : sa ≠ ca := by rintro rfl; obtain ⟨o, z, _⟩ := e4.isList l3; rw [f5] at z; cases z
  have stSo : ∀ {i : Nat} {g g' : Heap}, ((∃ old, IsEnum g e it (i : Int) old) ∧ g.IsListIter it sa i ∧ g.IsList sa (vs.take 60).toArray) → So g g' → ((∃ old, IsEnum g' e it (i : Int) old) ∧ g'.IsListIter it sa i ∧ g'.IsList sa (vs.take 60).toArray) := fun {i g g'} st so => by
    obtain ⟨⟨old, a⟩, b, c⟩ := st
    refine ⟨⟨old, so _ _ a rfl⟩, ?_, so.sq.isList c⟩
    obtain ⟨o, z, r⟩ := id b
    exact ⟨o, so _ _ z (solid_it (listIter_it b) o z), r⟩
  have stCa : ∀ {i : Nat} {g g' : Heap}, ((∃ old, IsEnum g e it (i : Int) old) ∧ g.IsListIter it sa i ∧ g.IsList sa (vs.take 60).toArray) → Heap.SameBut ca g g' → ((∃ old, IsEnum g' e it (i : Int) old) ∧ g'.IsListIter it sa i ∧ g'.IsList sa (vs.take 60).toArray) := fun {i g g'} st so => by
    obtain ⟨⟨old, a⟩, ⟨o, z, r⟩, ⟨o', z', r'⟩⟩ := st
    exact ⟨⟨old, (so.2 e nee).trans a⟩, ⟨o, (so.2 it nei).trans z, r⟩, ⟨o', (so.2 sa nes).trans z', r'⟩⟩
  have itObj : ∀ {i : Nat} {g : Heap}, ((∃ old, IsEnum g e it (i : Int) old) ∧ g.IsListIter it sa i ∧ g.IsList sa (vs.take 60).toArray) → ∀ b ∈ [e, it], ItObj g b := fun {i g} st b hb => by
    obtain ⟨⟨old, a⟩, c, d⟩ := st
    rcases List.mem_cons.mp hb with rfl | hb
    · exact enum_it a
    · rw [List.mem_singleton.mp hb]; exact listIter_it c
  have off2 : ∀ b ∈ [e, it], h.get? b = none := fun b hb => by
    rcases List.mem_cons.mp hb with rfl | hb
    · exact oe
    · rw [List.mem_singleton.mp hb]; exact oit
  refine w_selfT (Wk hA) (i := 0) st6 ⟨fun n g => ∃ (i : Nat) (xs : List Int) (us : List Value) (m : Str → Option Value), n = (vs.take 60).toArray.size - i ∧ i ≤ (vs.take 60).toArray.size ∧ ((∃ old, IsEnum g e it (i : Int) old) ∧ g.IsListIter it sa i ∧ g.IsList sa (vs.take 60).toArray) ∧ Fm h _ m (fun _ => none) g ∧ m (Str.ofString "cells") = some (.ref ca) ∧ g.IsList ca us.toArray ∧ IntsAre us xs ∧ xs.length = 6, _,
    ⟨0, [1, 2, -3, 2, -3, 5], _, _, rfl, Nat.zero_le _, st6, F6, rfl, e6.isList ca5, .cons _ _ (.cons _ _ (.cons _ _ (.cons _ _ (.cons _ _ (.cons _ _ .nil))))), rfl⟩, ?_⟩
  rintro n g ⟨i, xs, us, m, rfl, hile, st, Fg, hmc, lc, ic, x6⟩
  have hus : us.length = 6 := ic.length.trans x6
  by_cases hlt : i < (vs.take 60).toArray.size
  · refine w_nextT (Wk hA) hlt st fun T vals g1 hP hT md k1 => ?_
    obtain ⟨ti, xv, hxv, rfl⟩ := hP
    have F1 := Fg.but k1 (itObj st) off2
    have sq1 := sq_buts k1 (itObj st)
    have it1 : ∀ b ∈ [e, it], ItObj g1 b := fun b hb => by
      obtain ⟨⟨x, a⟩, c, d⟩ := md
      rcases List.mem_cons.mp hb with rfl | hb
      · exact enumOut_it a
      · rw [List.mem_singleton.mp hb]; exact listIter_it c
    refine w_goT (Wk hA) md fun g2 st2 k2 => ?_
    have F2 := F1.but k2 it1 off2
    have sq2 := sq1.trans (sq_buts k2 it1)
    refine w_assignTuple2 hA ((sq_buts k2 it1).isTuple hT) fun g3 e3 => w_store (F2.step e3) fun g4 F4 s4 => w_store F4 fun g5 F5 s5 => ?_
    obtain ⟨num, tn, hxn⟩ : ∃ num tn, xv = .int num tn := by
      have := iS.all xv (List.mem_of_getElem? (by simpa using hxv))
      exact this
    subst hxn
    have lc5 := (s4.sq.trans s5.sq).isList (e3.isList (sq2.isList lc))
    have hj : ((i : Int).fmod 6) = (i : Int) % 6 := Int.fmod_eq_emod_of_nonneg _ (by omega)
    have j0 : 0 ≤ (i : Int).fmod 6 := by omega
    have j6 : (i : Int).fmod 6 < 6 := by omega
    obtain ⟨tc, hc⟩ := IntsAre.item ic (i := ((i : Int).fmod 6).toNat) (x := xs.getD ((i : Int).fmod 6).toNat 0) (getD_some (by omega))
    refine w_stmt (w_augSub (w_local F5.ns (v := .ref ca) (by rw [upd_ne (by decide), upd_ne (by decide)]; exact hmc) (w_binop (w_local F5.ns (v := .int i ti) (by rw [upd_ne (by decide)]; exact upd_self) (w_int fun t8 => w_mod (by omega) fun t9 => ?_)))))
    refine w_getItem lc5 j0 hc (w_local F5.ns upd_self (w_iadd fun t10 => w_setItem lc5 j0 (by rw [List.size_toArray, hus]; exact j6) fun g6 l6 s6 => w_done ?_))
    have F6' := F5.list s6 lc5 o3
    refine ⟨(vs.take 60).toArray.size - (i + 1), by omega, i + 1, xs.set ((i : Int).fmod 6).toNat (xs.getD ((i : Int).fmod 6).toNat 0 + num), us.set ((i : Int).fmod 6).toNat (.int (xs.getD ((i : Int).fmod 6).toNat 0 + num) t10), _, rfl, hlt, stCa (stSo (stSo (stSo st2 e3.so) s4) s5) s6, F6', by rw [upd_ne (by decide), upd_ne (by decide)]; exact hmc, ?_, IntsAre.setAt ic _ _ t10, by simpa using x6⟩
    rw [← List.setIfInBounds_toArray]; exact l6
  · obtain rfl : i = (vs.take 60).toArray.size := by omega
    refine w_endT (Wk hA) st fun g1 k1 => w_done ?_
    have F1 := Fg.but k1 (itObj st) off2
    have lc1 := (sq_buts k1 (itObj st)).isList lc
    refine w_stmt (w_assign_comp hA F1 (w_local F1.ns hmc ⟨Ext.refl _, _, _, fun i ys g => ∃ zs, IntsAre ys zs ∧ zs.length = i ∧ ∀ z ∈ zs, -(2 ^ 62) < z ∧ z < 2 ^ 62, .list rfl lc1, by rw [List.size_toArray, hus, ← sl_line]; omega, ⟨fun i ys g g' _ x => x, ⟨[], .nil, rfl, fun z hz => nomatch hz⟩, ?_⟩, ?_⟩))
    · intro i ys v C m5 g5 h5 hi' hv hJ hsq e5 hns hm hy
      obtain ⟨num, tn, hxn⟩ : ∃ num tn, v = .int num tn := ic.all v (List.mem_of_getElem? (by simpa using hv))
      subst hxn
      refine w_tests0 ⟨Ext.refl _, ?_⟩
      rw [if_pos rfl]
      obtain ⟨zs, hzs, lz, bz⟩ := hJ
      have hb10 : (Builtin.Int.intBits 10 : Int) * 17 ≤ 2 ^ 27 := by rw [bits10]; decide
      have hb18 : (Builtin.Int.intBits 10 : Int) * 18 ≤ 2 ^ 27 := by rw [bits10]; decide
      have m5 : IntMulOk 5 ((10 : Int) ^ (17 : Int).toNat) := mulOk_left (by decide) (by decide)
      refine w_binop (w_binop (w_binop (w_local hns hm (w_binop (w_int fun _ => w_binop (w_int fun _ => w_int fun _ => w_pow (by decide) hb10 fun _ => w_mul m5 fun _ => w_add fun _ => ?_))))))
      refine w_binop (w_int fun _ => w_int fun _ => w_pow (by decide) hb18 fun _ => w_mod (by decide) fun _ => ?_)
      refine w_binop (w_int fun _ => w_binop (w_int fun _ => w_int fun _ => w_pow (by decide) hb10 fun _ => w_mul m5 fun _ => w_sub fun _ => ⟨Ext.refl _, fun g' _ _ => ⟨_, hzs.append (.cons _ _ .nil), by simp [lz], ?_⟩⟩))
      intro z hz
      rcases List.mem_append.mp hz with hz | hz
      · exact bz z hz
      · rw [List.mem_singleton.mp hz]
        have h1 := Int.fmod_nonneg_of_pos (num + 5 * 10 ^ (17 : Int).toNat) (b := 10 ^ (18 : Int).toNat) (by decide)
        have h2 := Int.fmod_lt_of_pos (num + 5 * 10 ^ (17 : Int).toNat) (b := 10 ^ (18 : Int).toNat) (by decide)
        generalize (num + 5 * 10 ^ (17 : Int).toNat).fmod (10 ^ (18 : Int).toNat) = q at *
        have e1 : ((10 : Int) ^ (17 : Int).toNat) = 100000000000000000 := by decide
        have e2 : ((10 : Int) ^ (18 : Int).toNat) = 1000000000000000000 := by decide
        rw [e1]; rw [e2] at h2
        omega
    · intro D h7 ys F7 s7 hJ hD hDf hy
      obtain ⟨zs, hzs, lz, bz⟩ := hJ
      rw [List.size_toArray, hus] at lz
      have hyl : ys.length = 6 := hzs.length.trans lz
      have hyz : ys.toArray.size ≤ sizeLine := by rw [List.size_toArray, hyl, ← sl_line]; omega
      refine w_stmt (w_return (w_tuple (w_cons (w_subscript (w_local F7.ns upd_self (w_sl (w_part_none (w_part_some (w_int fun t11 sl8 h8 e8 hs8 => ?_)))))))))
      refine w_slice (e8.isList hD) hs8 .none (.int 3 t11) hyz fun a9 h9 e9 l9 f9 => ?_
      rw [show slicePick ys.toArray none (some 3) none = (ys.take 3).toArray from slicePick_upto' _ 3] at l9
      have e89 := e8.trans e9
      refine w_cons (w_subscript (w_local (e89.ns F7.ns) upd_self (w_sl (w_part_some (w_int fun t12 => w_part_none fun sl10 h10 e10 hs10 => ?_)))))
      refine w_slice ((e89.trans e10).isList hD) hs10 (.int 3 t12) .none hyz fun a11 h11 e11 l11 f11 => ?_
      rw [show slicePick ys.toArray (some 3) none none = (ys.drop 3).toArray from slicePick_from' _ 3] at l11
      refine w_nil ⟨by rw [← sl_line]; simp, fun t h12 e12 l12 f12 => ?_⟩
      have e912 := (e10.trans e11).trans e12
      refine ⟨F7.ext.trans (e89.trans e912), t, a9, a11, zs.take 3, zs.drop 3, rfl, l12, ⟨_, e912.isList l9, hzs.take 3⟩, ⟨_, e12.isList l11, hzs.drop 3⟩, by simp [lz], by simp [lz], fun x hx => bz x (List.mem_of_mem_take hx), fun x hx => bz x (List.mem_of_mem_drop hx)⟩
end Mine
end
section
open PySem PySem.W PyProof.Rows PySem.Calls
namespace Mine
variable [Nn]
def nm (i : Nat) : Str := if i = 0 then Str.ofString "OPTIMIZED" else if i = 1 then Str.ofString "NEWLOCALS" else Str.ofString "VARARGS"
def pfGo : Nat → Nat → Int → List Str → List Str
  | 0, _, fl, ns => ns ++ [baseText "0x" 16 fl]
  | n + 1, i, fl, ns => if Builtin.bitAnd fl (1 * 2 ^ i) ≠ 0 then (if Builtin.bitXor fl (1 * 2 ^ i) = 0 then ns ++ [nm i] else pfGo n (i + 1) (Builtin.bitXor fl (1 * 2 ^ i)) (ns ++ [nm i])) else pfGo n (i + 1) fl ns
def pf (f : Int) : List Str := pfGo 32 0 f []
def pfText (f : Int) : Str := Txt.join (Str.ofString ", ") (pf f)
theorem bits_facts : ∀ (f : Fin 8) (i : Fin 32), Builtin.bitAnd (f.val : Int) (1 * 2 ^ i.val) ≠ 0 → i.val ≤ 2 ∧ 0 ≤ Builtin.bitXor (f.val : Int) (1 * 2 ^ i.val) ∧ Builtin.bitXor (f.val : Int) (1 * 2 ^ i.val) ≤ 7 := by decide +kernel
theorem bits_at {fl : Int} {i : Nat} (h0 : 0 ≤ fl) (h7 : fl ≤ 7) (hi : i < 32) (hb : Builtin.bitAnd fl (1 * 2 ^ i) ≠ 0) : i ≤ 2 ∧ 0 ≤ Builtin.bitXor fl (1 * 2 ^ i) ∧ Builtin.bitXor fl (1 * 2 ^ i) ≤ 7 := by
  obtain ⟨n, rfl⟩ := Int.eq_ofNat_of_zero_le h0
  exact bits_facts ⟨n, by omega⟩ ⟨i, hi⟩ hb
theorem join_facts : ∀ f : Fin 8, JoinOk (Str.ofString ", ") (pf (f.val : Int)) = true := by decide +kernel
theorem hex_facts : ∀ f : Fin 8, (baseText "0x" 16 (f.val : Int)).length ≤ 100 := by decide +kernel
section
variable {w : World} {A : Around} {h : Heap} {env : Env}
theorem w_lshift {a n : Int} {t u : Tok} {P : Value → Heap → Prop} (hn : 0 ≤ n) (hn2 : n ≤ 1000000) (ha : a.natAbs < 2 ^ 64) (x : ∀ t, P (.int (a * 2 ^ n.toNat) t) h) : W w A (binaryOp .LShift (.int a t) (.int n u)) h P :=
  fun s _ E e q => by subst e; exact PyProof.Rows.lshift_int_small hn hn2 ha (q _ s.heap _ (x _))
theorem w_and {a b : Int} {t u : Tok} {P : Value → Heap → Prop} (x : ∀ t, P (.int (Builtin.bitAnd a b) t) h) : W w A (binaryOp .BitAnd (.int a t) (.int b u)) h P := fun s _ E e q => by subst e; exact PyProof.Rows.and_int (q _ s.heap _ (x _))
theorem w_ixor {a b : Int} {t u : Tok} {P : Value → Heap → Prop} (x : ∀ t, P (.int (Builtin.bitXor a b) t) h) : W w A (inplaceOp .BitXor (.int a t) (.int b u)) h P := fun s _ E e q => by subst e; exact PyProof.Rows.ixor_int (q _ s.heap _ (x _))
theorem w_truthy_int {a : Int} {t : Tok} {P : Bool → Heap → Prop} (x : P (a != 0) h) : W w A (truthy (.int a t)) h P := fun s _ E e q => by subst e; exact PyProof.Rows.truthy_int (q _ s.heap s.toks x)
theorem w_augName {x : Str} {pos' pos : Pos} {op : Operator} {value : Expr} {m : Str → Option Value} {old : Value} {P : Flow → Heap → Prop} (hn : h.Ns env.locals m) (hv : m x = some old)
    (y : W w A (eval value env) h fun v h₁ => W w A (inplaceOp op old v) h₁ fun r h₂ => W w A (storeName env x r) h₂ fun _ h₃ => P .next h₃) (hk : env.scope.kind = .function := by rfl) (hl : env.kindOf x = some .local := by rfl) : W w A (exec (.AugAssign (.Name x pos') op value pos) env) h P :=
  fun s _ E e q => by
    subst e
    exact wpAny_AugAssign_Name (wpAny_loadName_local hk hl hn hv (y s _ E rfl fun v h₁ t₁ p₁ => p₁ _ _ E rfl fun r h₂ t₂ p₂ => p₂ _ _ E rfl fun _ h₃ t₃ p₃ => q _ _ _ p₃))
theorem w_isTrue_not {x : Expr} {pos : Pos} {whole : Sem Value} {P : Bool → Heap → Prop} (y : W w A (PySem.isTrue x env (eval x env)) h fun c h' => P (!c) h') : W w A (PySem.isTrue (.UnaryOp .Not x pos) env whole) h P :=
  fun s _ E e q => isTrue_not (y s _ E e fun c h' tk p => q _ _ _ p)
theorem w_break {pos : Pos} {P : Flow → Heap → Prop} (x : P .brk h) : W w A (exec (.Break pos) env) h P := fun s _ E e q => by subst e; exact wpAny_Break (q _ s.heap s.toks x)
theorem w_hex {i : Int} {t : Tok} {P : Value → Heap → Prop} (hz : (baseText "0x" 16 i).length ≤ sizeLine) (x : ∀ t, P (.str (baseText "0x" 16 i) t) h) : W w A (call (.builtin "hex") [.int i t]) h P :=
  fun s _ E e q => by subst e; exact PySem.P.hex_of_int (q _ s.heap _ (x _)) hz
theorem w_methD {o : Expr} {name : Str} {apos pos : Pos} {args : List Expr} {id : String} {P : Value → Heap → Prop} (slot : Slot "dict" name id) (hty : typeOf (.builtin id) = pure (.type "method_descriptor"))
    (x : W w A (eval o env) h fun ov h₁ => ∃ a ob, ov = .ref a ∧ h₁.get? a = some ob ∧ ob.cls = .type "dict" ∧ ob.dict = none ∧ W w A (callWith pos (.builtin id) [ov] (backTo pos (starEach args env)) []) h₁ P)
    (h1 : attributeBase o name env (eval o env) = eval o env := by rfl)
    (h2 : (((backTo pos (starEach args env)).all fun x => !x.fst) && (backToKw pos (keywordEach [] env)).all (fun x => x.fst.isSome) && decide ((args.length + ([] : List Keyword).length + if ([] : List Keyword).isEmpty = true then 0 else 1) < 30)) = true := by rfl)
    (h3 : (apos.endLine == pos.line) = true := by rfl) : W w A (eval (.Call (.Attribute o name apos) args [] pos) env) h P :=
  fun s _ E hs q => wpAny_Call_method h1 h2 h3 PySem.F.plainAttrs_dict slot hty (x s _ E hs fun ov h₁ t₁ p => by
    obtain ⟨a, ob, rfl, e, c, d, k⟩ := p
    exact ⟨⟨_, e, c⟩, fun a' q => by cases q; exact ⟨_, e, d⟩, k _ _ E rfl q⟩)
theorem w_methS {o : Expr} {name : Str} {apos pos : Pos} {args : List Expr} {id : String} {P : Value → Heap → Prop} (slot : Slot "str" name id) (hty : typeOf (.builtin id) = pure (.type "method_descriptor"))
    (x : W w A (eval o env) h fun ov h₁ => ∃ a t, ov = .str a t ∧ W w A (callWith pos (.builtin id) [ov] (backTo pos (starEach args env)) []) h₁ P)
    (h1 : attributeBase o name env (eval o env) = eval o env := by rfl)
    (h2 : (((backTo pos (starEach args env)).all fun x => !x.fst) && (backToKw pos (keywordEach [] env)).all (fun x => x.fst.isSome) && decide ((args.length + ([] : List Keyword).length + if ([] : List Keyword).isEmpty = true then 0 else 1) < 30)) = true := by rfl)
    (h3 : (apos.endLine == pos.line) = true := by rfl) : W w A (eval (.Call (.Attribute o name apos) args [] pos) env) h P :=
  fun s _ E hs q => wpAny_Call_method h1 h2 h3 PySem.F.plainAttrs_str slot hty (x s _ E hs fun ov h₁ t₁ p => by
    obtain ⟨a, t, rfl, k⟩ := p
    exact ⟨typeIs_str _ _ _, (fun a' q => by cases q), k _ _ E rfl q⟩)
end
abbrev Fm.env {h₀ h : Heap} {env : Env} {m cm} (_ : Fm h₀ env m cm h) : Env := env
theorem w_iterX {w : World} {A : Around} {h : Heap} {xv : Value} {n : Nat} {Pv : Nat → Value → Prop} {P : Value → Heap → Prop} (hh : A.handled = none) (S : Src xv h n Pv)
    (p : ∀ I St fp h', Iter w A I n Pv St fp → (∀ b o, h.get? b = some o → h'.get? b = some o) → h.get? I = none → St 0 h' → (∀ b ∈ fp, b = I ∨ xv = .ref b) → P (.ref I) h') : W w A (pyIter xv) h P :=
  fun s _ E e q => by
    subst e
    cases S with
    | list hv hl =>
      subst hv
      rename_i a items
      have hlt : a < s.heap.objs.size := by obtain ⟨_, e, _⟩ := hl; exact Heap.lt_size e
      refine wpAny_pyIter_list hl (q _ _ _ (p _ _ _ _ (iter_list hh s.heap.objs.size a (Nat.ne_of_lt hlt) items) (fun _ _ e => Heap.get?_push_of_some _ e) (fresh_size _) ⟨⟨_, Heap.get?_push_size _ rfl, rfl, rfl⟩, hl.push _⟩ fun b hb => ?_))
      rcases List.mem_cons.mp hb with rfl | hb
      · exact .inl rfl
      · rw [List.mem_singleton.mp hb]; exact .inr rfl
    | range hv hr hs hn =>
      subst hv
      rename_i a b t u v r
      refine wpAny_pyIter_range hr hs (q _ _ _ (p _ _ _ _ (iter_range hh s.heap.objs.size _ n) (fun _ _ e => Heap.get?_push_of_some _ e) (fresh_size _) ?_ fun b hb => ?_))
      · show IsRangeIter _ _ _ _ _
        rw [hn]; simpa using Heap.get?_push_size _ rfl
      · rw [List.mem_singleton.mp hb]; exact .inl rfl
theorem Iter.same {w : World} {A : Around} {I : Addr} {n : Nat} {Pv : Nat → Value → Prop} {St : Nat → Heap → Prop} {fp : List Addr} (K : Iter w A I n Pv St fp) {i : Nat} {h h' : Heap} {a : Addr} (st : St i h) (x : Heap.SameBut a h h') (na : a ∉ fp) : St i h' :=
  K.walks.frame _ _ _ st fun b hb o e => (x.2 b fun q => na (q ▸ hb)).trans e
def cfn : List (Int × PyData) := [(1, .str (Str.ofString "OPTIMIZED")), (2, .str (Str.ofString "NEWLOCALS")), (4, .str (Str.ofString "VARARGS")), (8, .str (Str.ofString "VARKEYWORDS")), (16, .str (Str.ofString "NESTED")), (32, .str (Str.ofString "GENERATOR")), (64, .str (Str.ofString "NOFREE")), (128, .str (Str.ofString "COROUTINE")), (256, .str (Str.ofString "ITERABLE_COROUTINE")), (512, .str (Str.ofString "ASYNC_GENERATOR"))]
theorem keyed22 {w : World} {h : Heap} (S : Sta w h) : KTD.Keyed h 22 cfn := kt_keyed_in S.part (by kernel_rfl)
theorem look22 : ∀ i : Fin 3, KTD.datumAt (1 * 2 ^ i.val : Int) cfn = some (.str (nm i.val))
  | 0 => rfl
  | 1 => rfl
  | 2 => rfl
theorem w_get22 {w : World} {A : Around} {h : Heap} {i : Nat} {t : Tok} {y : Str} {u : Tok} {P : Value → Heap → Prop} (S : Sta w h) (hi : i ≤ 2) (x : ∀ t, P (.str (nm i) t) h) : W w A (call (.builtin "dict.get") [.ref 22, .int (1 * 2 ^ i) t, .str y u]) h P :=
  fun s _ E e q => by
    subst e
    refine call_get2_intTab (keyed22 S P0 w) (PyProof.V.Flat.str y u) fun v hv => ?_
    rw [KTD.lookup_keyed, look22 ⟨i, by omega⟩] at hv
    obtain ⟨t', rfl⟩ := PyProof.V.Flat.str_inv hv
    exact q _ s.heap _ (x t')
theorem w_join {w : World} {A : Around} {h : Heap} {D : Addr} {x : Str} {t : Tok} {l : List (Str × Tok)} {P : Value → Heap → Prop} (hl : h.IsList D (strValues l).toArray) (hok : JoinOk x (l.map (·.1)) = true) (p : ∀ t, P (.str (Txt.join x (l.map (·.1))) t) h) : W w A (call (.builtin "str.join") [.str x t, .ref D]) h P :=
  fun s _ E e q => by subst e; exact SC.join hl rfl hok fun t' k => q _ s.heap _ (p t')
theorem hex_at {f : Int} (h0 : 0 ≤ f) (h7 : f ≤ 7) : (baseText "0x" 16 f).length ≤ sizeLine := by
  obtain ⟨n, rfl⟩ := Int.eq_ofNat_of_zero_le h0
  have := hex_facts ⟨n, by omega⟩
  rw [← sl_line]; simp only at this; omega
theorem hexp_facts : ∀ i : Fin 3, (baseText "0x" 16 (1 * 2 ^ i.val : Int)).length ≤ 100 := by decide +kernel
theorem join_at {f : Int} (h0 : 0 ≤ f) (h7 : f ≤ 7) : JoinOk (Str.ofString ", ") (pf f) = true := by
  obtain ⟨n, rfl⟩ := Int.eq_ofNat_of_zero_le h0
  exact join_facts ⟨n, by omega⟩
theorem strValues_snoc (l : List (Str × Tok)) (x : Str) (t : Tok) : strValues l ++ [.str x t] = strValues (l ++ [(x, t)]) := by simp [strValues]
set_option maxHeartbeats 1000000 in
theorem pretty_spec {w : World} {A : Around} {h : Heap} {f : Int} {tf : Tok} (S : Sta w h) (hA : A.handled = none) (hdep : A.depth + 2 < recursionLimit) (f0 : 0 ≤ f) (f7 : f ≤ 7) :
    W w A (call (.ref 29) [.int f tf]) h fun v h' => Ext h h' ∧ ∃ t, v = .str (pfText f) t := by
  refine' w_enterP [(Str.ofString "flags", .int f tf)] S (by omega) ?k6 ?k7 ?k8 ?k9 ?k10 ?_ ?c1 ?c2 ?c3
  case k6 => k_is
  case k7 => k_is
  case k8 => exact fun s e => BindsTo.of_eq rfl
  case k9 => exact locs rfl
  case k10 => decide
  case c1 => exact rfl
  case c2 => exact rfl
  case c3 => exact rfl
  intro L h₁ F
  refine w_stmt (w_assign (w_listP (w_nil ⟨by simp, fun na h2 e2 l2 f2 => ?_⟩)))
  refine w_store (F.step e2) fun h3 F3 s3 => ?_
  have S3 := S.mono F3.ext
  have o3 : h.get? na = none := F.ext.fresh f2
  refine w_stmt (W.mono (P := fun fl g => fl = .next ∧ ∃ (m : Str → Option Value) (l : List (Str × Tok)), Fm h F.env m (fun _ => none) g ∧ m (Str.ofString "names") = some (.ref na) ∧ PL g na (strValues l) ∧ l.map (·.1) = pf f) ?_ ?_)
  case refine_2 =>
    rintro _ g ⟨rfl, m, l, Fg, hm, pl, hl⟩
    refine w_stmt ?_
    refine w_return ?_
    with_reducible refine w_methS PySem.F.slot_str_join PySem.F.type_str_join ?_ ?m1 ?m2 ?m3
    case m1 => rfl
    case m2 => rfl
    case m3 => rfl
    refine w_str ?_
    intro t1
    refine ⟨_, _, rfl, ?_⟩
    refine w_callBuiltin rfl rfl (w_cons (w_local Fg.ns hm (w_nil ?_)))
    refine w_join pl.isList (by rw [hl]; exact join_at f0 f7) fun t2 => ⟨Fg.ext, t2, by rw [hl]; rfl⟩
  refine w_for (w_call (w_builtin S3 (ns_range w) bb_range (w_callType rfl rfl (w_cons (w_int fun t1 => w_nil (w_range1 fun r h4 u1 u2 u3 e4 hr4 => ?_))))))
  refine w_iterX hA (.range rfl hr4 (small_one (by omega) (by omega) (by omega) (by omega)) (show _ = ((32 : Nat) : Int) by decide)) fun I St fp h5 K kp hI st hfp => ?_
  have hI0 : h.get? I = none := (F3.step e4).ext.fresh hI
  have F5 := (F3.step e4).step (Ext.of_keep kp)
  have hnf : na ∉ fp := fun q => by
    obtain ⟨nn, en⟩ := PL.sq l2 (s3.sq.trans e4.sq)
    rcases hfp na q with q | q
    · subst q; rw [hI] at en; cases en
    · cases q; unfold IsRange at hr4; rw [en] at hr4; simp at hr4
  refine ⟨fun n g => ∃ (i : Nat) (fl : Int) (tl : Tok) (l : List (Str × Tok)) (m : Str → Option Value), n = 32 - i ∧ i ≤ 32 ∧ St i g ∧ Fm h _ m (fun _ => none) g ∧ m (Str.ofString "flags") = some (.int fl tl) ∧ m (Str.ofString "names") = some (.ref na) ∧ PL g na (strValues l) ∧ 0 ≤ fl ∧ fl ≤ 7 ∧ l.length ≤ i ∧ pf f = pfGo (32 - i) i fl (l.map (·.1)), 32,
    ⟨0, f, tf, [], _, rfl, by omega, st, F5, rfl, rfl, PL.sq l2 ((s3.sq.trans e4.sq).trans (Ext.of_keep kp).sq), f0, f7, Nat.le_refl _, rfl⟩, ?_⟩
  rintro n g ⟨i, fl, tl, l, m, rfl, hi, sti, Fg, hmf, hmn, pl, l0, l7, hll, hpf⟩
  by_cases hlt : i < 32
  · refine w_next K hlt sti fun x g1 hx st1 k1 => ?_
    obtain ⟨tk, rfl⟩ := hx
    have it := K.it _ _ sti
    have F1 := Fg.iter k1 it hI0
    refine w_noTuple (w_assignName (w_store F1 fun g2 F2 s2 => ?_))
    have sq2 : Sq g g2 := (so_iter k1 it).trans s2.sq
    refine w_stmt (w_assign (w_binop (w_int fun t2 => w_local F2.ns upd_self (w_lshift (by omega) (by omega) (by decide) fun t3 => ?_))))
    rw [show ((0 : Int) + (i : Int)).toNat = i by omega]
    refine w_store F2 fun g3 F3 s3 => ?_
    have pl3 : PL g3 na (strValues l) := pl.sq (sq2.trans s3.sq)
    have S3 := S.mono F3.ext
    refine w_stmt (w_if (w_isTrue (w_binop (w_local F3.ns (v := .int fl tl) (by rw [upd_ne (by decide), upd_ne (by decide)]; exact hmf) (w_local F3.ns upd_self (w_and fun t4 => w_truthy_int ?_))))))
    have hgo : pfGo (32 - i) i fl (l.map (·.1)) = pfGo (32 - (i + 1) + 1) i fl (l.map (·.1)) := by congr 1; omega
    rw [hgo, pfGo] at hpf
    by_cases hb : Builtin.bitAnd fl (1 * 2 ^ i) = 0
    · rw [if_neg (by simpa using hb)]
      rw [if_neg (by simpa using hb)] at hpf
      refine w_done (w_done ⟨32 - (i + 1), by omega, i + 1, fl, tl, l, _, rfl, hlt, K.stay (K.stay st1 s2) s3, F3, by rw [upd_ne (by decide), upd_ne (by decide)]; exact hmf, by rw [upd_ne (by decide), upd_ne (by decide)]; exact hmn, pl3, l0, l7, by omega, hpf⟩)
    · rw [if_pos (by simpa using hb)]
      rw [if_pos hb] at hpf
      obtain ⟨i2, x0, x7⟩ := bits_at l0 l7 hlt hb
      have hx : ((baseText "0x" 16 (1 * 2 ^ i : Int)).length : Nat) ≤ sizeLine := by
        have := hexp_facts ⟨i, by omega⟩
        rw [← sl_line]; simp only at this; omega
      refine w_stmt (w_exprNone (w_meth PySem.F.slot_list_append PySem.F.type_list_append (w_local F3.ns (v := .ref na) (by rw [upd_ne (by decide), upd_ne (by decide)]; exact hmn) ⟨na, _, rfl, pl3, w_callBuiltin rfl rfl (w_cons ?_)⟩)))
      obtain ⟨o22, e22, c22, d22⟩ : ∃ o, g3.get? 22 = some o ∧ o.cls = .type "dict" ∧ o.dict = none := ⟨_, S3.part 22 _ (by k_is), rfl, rfl⟩
      refine w_methD PySem.F.slot_dict_get PySem.F.type_dict_get (w_global S3 (ns_names w) ⟨22, o22, rfl, e22, c22, d22, w_callBuiltin rfl rfl (w_cons (w_local F3.ns upd_self (w_cons ?_)))⟩)
      refine w_call (w_builtin S3 (ns_hex w) bb_hex (w_callBuiltin rfl rfl (w_cons (w_local F3.ns upd_self (w_nil (w_hex hx fun t5 => w_nil ?_))))))
      refine w_get22 S3 i2 fun t6 => w_nil ?_
      refine w_append pl3 (by simp [strValues]; rw [← sl_line]; omega) fun g4 s4 pl4 => ⟨rfl, ?_⟩
      have F4 := F3.list s4 pl3.isList o3
      have st4 : St (i + 1) g4 := K.same (K.stay (K.stay st1 s2) s3) s4 hnf
      refine w_stmt (w_augName F4.ns (old := .int fl tl) (by rw [upd_ne (by decide), upd_ne (by decide)]; exact hmf) (w_local F4.ns upd_self (w_ixor fun t7 => w_store F4 fun g5 F5 s5 => ?_)))
      rw [strValues_snoc] at pl4
      refine w_stmt (w_if (w_isTrue_not (w_isTrue (w_local F5.ns upd_self (w_truthy_int ?_)))))
      by_cases hz : Builtin.bitXor fl (1 * 2 ^ i) = 0
      · rw [if_pos (by simpa using hz)]
        rw [if_pos hz] at hpf
        refine w_stmt (w_break ⟨rfl, _, _, F5, by rw [upd_ne (by decide), upd_ne (by decide), upd_ne (by decide)]; exact hmn, pl4.sq s5.sq, by rw [hpf]; simp⟩)
      · rw [if_neg (by simpa using hz)]
        rw [if_neg hz] at hpf
        refine w_done (w_done (w_done ⟨32 - (i + 1), by omega, i + 1, _, t7, _, _, rfl, hlt, K.stay st4 s5, F5, upd_self, by rw [upd_ne (by decide), upd_ne (by decide), upd_ne (by decide)]; exact hmn, pl4.sq s5.sq, x0, x7, by simp; omega, by rw [hpf]; simp⟩))
  · obtain rfl : i = 32 := by omega
    refine w_nextEnd K sti fun g1 k1 => ?_
    have it := K.it _ _ sti
    have F1 := Fg.iter k1 it hI0
    have pl1 := pl.sq (so_iter k1 it)
    have S1 := S.mono F1.ext
    refine w_stmt (w_exprNone (w_meth PySem.F.slot_list_append PySem.F.type_list_append (w_local F1.ns hmn ⟨na, _, rfl, pl1, w_callBuiltin rfl rfl (w_cons ?_)⟩)))
    refine w_call (w_builtin S1 (ns_hex w) bb_hex (w_callBuiltin rfl rfl (w_cons (w_local F1.ns hmf (w_nil (w_hex (hex_at l0 l7) fun t5 => w_nil ?_))))))
    refine w_append pl1 (by simp [strValues]; rw [← sl_line]; omega) fun g4 s4 pl4 => ⟨rfl, w_done ?_⟩
    have F4 := F1.list s4 pl1.isList o3
    rw [strValues_snoc] at pl4
    exact ⟨rfl, _, _, F4, hmn, pl4, by rw [hpf]; simp [pfGo]⟩
end Mine
end
section
open PySem PySem.W PyProof.Rows PySem.Calls
namespace Mine
variable [Nn]
def nms : List Str := [Str.ofString "OPTIMIZED", Str.ofString "NEWLOCALS", Str.ofString "VARARGS", Str.ofString "0x0"]
def plc (x : Str) : Nat := nms.findIdx fun y => y.cps.toList == x.cps.toList
def wds (f : Int) : List Str := Txt.split (pfText f) (Str.ofString ", ")
def chs (f : Int) : List Int := ((wds f).map fun x => (plc x : Int)).filter fun p => decide (p < 3)
theorem wds_facts : ∀ f : Fin 8, ((wds (f.val : Int)).all fun x => decide (plc x < 4)) = true ∧ (wds (f.val : Int)).length ≤ 10 ∧ (pfText (f.val : Int)).length ≤ 100 ∧
    (Builtin.Str.partsBetween (pfText (f.val : Int)) (Builtin.Str.occurrences (pfText (f.val : Int)) (Str.ofString ", ") 0 (pfText (f.val : Int)).length ((pfText (f.val : Int)).length + 1)) (Str.ofString ", ").length).length ≤ 100 := by decide +kernel
theorem wds_at {f : Int} (f0 : 0 ≤ f) (f7 : f ≤ 7) : ((wds f).all fun x => decide (plc x < 4)) = true ∧ (wds f).length ≤ 10 ∧ (pfText f).length ≤ 100 ∧
    (Builtin.Str.partsBetween (pfText f) (Builtin.Str.occurrences (pfText f) (Str.ofString ", ") 0 (pfText f).length ((pfText f).length + 1)) (Str.ofString ", ").length).length ≤ 100 := by
  obtain ⟨n, rfl⟩ := Int.eq_ofNat_of_zero_le f0
  exact wds_facts ⟨n, by omega⟩
theorem chs_facts : ([0, 1, 2, 3, 4, 5, 6, 7] : List Int).map chs = [[], [0], [1], [0, 1], [2], [0, 2], [1, 2], [0, 1, 2]] := by decide +kernel
section
variable {w : World} {A : Around} {h : Heap} {env : Env}
theorem w_lt_int {a b : Int} {t u : Tok} {P : Value → Heap → Prop} (p : P (.bool (decide (a < b))) h) : W w A (compareOp .Lt (.int a t) (.int b u)) h P := fun s _ E e q => by subst e; exact PyProof.Rows.lt_int (q _ s.heap s.toks p)
theorem w_split {x y : Str} {t u : Tok} {P : Value → Heap → Prop} (hy : (y.length == 0) = false) (h1 : x.length ≤ sizeLine) (h2 : (Builtin.Str.partsBetween x (Builtin.Str.occurrences x y 0 x.length (x.length + 1)) y.length).length ≤ sizeLine)
    (p : ∀ D l h', l.map (·.1) = Txt.split x y → Ext h h' → h'.IsList D (strValues l).toArray → P (.ref D) h') : W w A (call (.builtin "str.split") [.str x t, .str y u]) h P :=
  fun s _ E e q => by
    subst e
    exact SCH.split1 (P := fun h' => ∀ b o, s.heap.get? b = some o → h'.get? b = some o) (fun h' ob k b o e => Heap.get?_push_of_some _ (k b o e)) (fun _ _ e => e) hy (fun D l h' k a b c => q _ _ _ (p D l h' a (Ext.of_keep b) c)) h1 h2
theorem w_index {a : Addr} {l : List (Str × Tok)} {x : Str} {u : Tok} {P : Value → Heap → Prop} (hl : PL h a (strValues l)) (hm : l.map (·.1) = nms) (hj : plc x < 4) (p : ∀ t, P (.int (plc x) t) h) : W w A (call (.builtin "list.index") [.ref a, .str x u]) h P :=
  fun s _ E e q => by
    subst e
    obtain ⟨n, e⟩ := hl
    have hll : l.length = 4 := by have := congrArg List.length hm; simpa [nms] using this
    have hsz : (strValues l).toArray.size = 4 := by simpa [strValues] using hll
    have hat : ∀ m (hm' : m < (strValues l).toArray.size), ∃ (hm2 : m < nms.length) (t : Tok), (strValues l).toArray[m] = .str nms[m] t := fun m hm' => by
      have h4 : m < l.length := by omega
      refine ⟨by simp [nms]; omega, l[m].2, ?_⟩
      have : nms[m]'(by simp [nms]; omega) = l[m].1 := by simp [← hm]
      rw [this]; simp [strValues]
    let ev : Value → Bool := fun v => match v with | .str y _ => y.cps.toList == x.cps.toList | _ => false
    refine call_meets PySem.F.slot_list_index ⟨_, e, rfl⟩ PySem.F.entry_list_index (PySem.F.args_list_index_2 _ _)
      (MeetsSeq.list_index a (strValues l).toArray n (.str x u) ev (fun y hy => ?_) (plc x) (by omega) (by omega) ?_ ?_) ⟨e, q _ s.heap _ (p _)⟩
    · have : y ∈ strValues l := by simpa using hy
      obtain ⟨z, hz, rfl⟩ := List.mem_map.mp this
      exact SeqRoads2.EqGives.str _ _ _ _
    · obtain ⟨h2, t, e2⟩ := hat (plc x) (by omega)
      rw [e2]
      exact List.findIdx_getElem (xs := nms) (p := fun y : Str => y.cps.toList == x.cps.toList) (w := h2)
    · intro m hm' hlt
      obtain ⟨h2, t, e2⟩ := hat m hm'
      rw [e2]
      have := List.not_of_lt_findIdx hlt
      simpa [ev] using this
end
set_option maxHeartbeats 1000000 in
theorem chosen_spec {w : World} {A : Around} {h : Heap} {f : Int} {tf : Tok} (S : Sta w h) (hA : A.handled = none) (hdep : A.depth + 3 < recursionLimit) (f0 : 0 ≤ f) (f7 : f ≤ 7) :
    W w A (call (.ref 48) [.int f tf]) h fun v h' => Ext h h' ∧ ∃ a, v = .ref a ∧ Ints h' a (chs f) ∧ h.get? a = none := by
  refine' w_enterK [(Str.ofString "flags", .int f tf)] S (by omega) ?k6 ?k7 ?k8 ?k9 ?_ ?c1 ?c2 ?c3
  case k6 => k_is
  case k7 => k_is
  case k8 => exact fun s e => BindsTo.of_eq rfl
  case k9 => exact rfl
  case c1 => exact rfl
  case c2 => exact rfl
  case c3 => exact rfl
  intro L h₁ F
  obtain ⟨wa, wl, pl, pp⟩ := wds_at f0 f7
  refine w_stmt (w_assign (w_listP (w_cons (w_str fun t1 => w_cons (w_str fun t2 => w_cons (w_str fun t3 => w_cons (w_str fun t4 => w_nil ⟨by rw [← sl_line]; simp, fun na h2 e2 l2 f2 => ?_⟩)))))))
  refine w_storeC (F.step e2) rfl fun h3 F3 s3 => ?_
  have S3 := S.mono F3.ext
  have pn : PL h3 na (strValues [(Str.ofString "OPTIMIZED", t1), (Str.ofString "NEWLOCALS", t2), (Str.ofString "VARARGS", t3), (Str.ofString "0x0", t4)]) := l2.sq s3.sq
  refine w_stmt (w_assign_comp hA F3 (w_methS PySem.F.slot_str_split PySem.F.type_str_split (w_call (w_global S3 (ns_pretty w) ?_))))
  obtain ⟨o29, e29, fd29, d29⟩ : ∃ o, h3.get? 29 = some o ∧ ∃ fd, o.data = .func fd := ⟨_, S3.part 29 _ (by k_is), _, rfl⟩
  refine w_callFn e29 d29 rfl (w_cons (w_local F3.ns rfl (w_nil ⟨Ext.refl _, ?_⟩)))
  refine W.mono (pretty_spec (A := A.deeper _) S3 hA (by show A.depth + 1 + 2 < recursionLimit; omega) f0 f7) ?_
  rintro v h4 ⟨e4, t5, rfl⟩
  refine ⟨pfText f, t5, rfl, w_callBuiltin rfl rfl (w_cons (w_str fun t6 => w_nil ?_))⟩
  refine w_split rfl (by rw [← sl_line]; omega) (by rw [← sl_line]; omega) fun D l h5 hl e5 l5 => ?_
  have hl' : l.map (·.1) = wds f := hl
  have hlen : l.length = (wds f).length := by rw [← hl', List.length_map]
  refine ⟨e4.trans e5, _, _, fun i ys g => PL g na _ ∧ IntsAre ys (((wds f).take i).map fun x => (plc x : Int)), .list rfl l5, by rw [← sl_line]; simp [strValues]; omega, ⟨fun i ys g g' q x => ⟨x.1.sq q, x.2⟩, ⟨pn.sq (e4.trans e5).sq, .nil⟩, ?_⟩, ?_⟩
  · intro i ys v C m g h6 hi hv hJ hsq e6 hns hm hy
    have hil : i < l.length := by simpa [strValues] using hi
    have hiw : i < (wds f).length := by omega
    have hw : (wds f)[i] = l[i].1 := by simp [← hl']
    obtain rfl : v = .str (wds f)[i] l[i].2 := by
      rw [hw]
      have : (strValues l).toArray[i]? = some (.str l[i].1 l[i].2) := by simp [strValues, hil]
      rw [this] at hv; cases hv; rfl
    have pn6 := hJ.1.sq hsq
    refine w_tests0 ⟨Ext.refl _, ?_⟩
    rw [if_pos rfl]
    have cn := e6.cell ((e4.trans e5).cell (F3.cell (Str.ofString "names") _ rfl))
    rw [upd_self] at cn
    refine w_meth PySem.F.slot_list_index PySem.F.type_list_index (w_cell rfl cn ⟨na, _, rfl, pn6, w_callBuiltin rfl rfl (w_cons (w_local hns hm (w_nil ?_)))⟩)
    refine w_index pn6 rfl ?_ fun t7 => ⟨Ext.refl _, fun g' q _ => ⟨hJ.1.sq q, ?_⟩⟩
    · have := List.all_eq_true.mp wa _ (List.getElem_mem hiw)
      simpa using this
    · rw [List.take_succ_eq_append_getElem hiw, List.map_append]
      exact hJ.2.append (.cons _ _ .nil)
  · intro D' h7 ys F7 s7 hJ hD hDf hy
    have hyl : ys.toArray.size ≤ 10 := by have : (strValues l).toArray.size = l.length := by simp [strValues]
                                          rw [List.size_toArray]; omega
    have hsz : (strValues l).toArray.size = (wds f).length := by simp [strValues, hlen]
    obtain ⟨_, hI⟩ := hJ
    rw [hsz, List.take_length] at hI
    refine w_stmt (w_return (w_comp hA (w_local F7.ns upd_self ?_)))
    refine ⟨_, _, fun i zs g => IntsAre zs ((((wds f).map fun x => (plc x : Int)).take i).filter fun p => decide (p < 3)), .list rfl hD, by rw [← sl_line]; omega, ⟨fun i ys g g' q x => x, .nil, ?_⟩, ?_⟩
    · intro i zs v C m g h8 hi hv hJ hsq e8 hns hm hy
      have hil : i < ((wds f).map fun x => (plc x : Int)).length := by rw [← hI.length]; simpa using hi
      obtain ⟨t8, hv'⟩ := IntsAre.item hI (i := i) (x := ((wds f).map fun x => (plc x : Int))[i]) (List.getElem?_eq_getElem hil)
      rw [hv'] at hv; cases hv
      refine w_tests1 (w_isTrue_cmp (w_local hns hm (w_int fun t9 => w_lt_int (w_truthy_bool ⟨Ext.refl _, ?_⟩))))
      by_cases hq : ((wds f).map fun x => (plc x : Int))[i] < 3
      · rw [if_pos (by simpa using hq)]
        refine w_local hns hm ⟨Ext.refl _, fun g' _ _ => ?_⟩
        rw [List.take_succ_eq_append_getElem hil, List.filter_append, List.filter_cons, if_pos (by simpa using hq), List.filter_nil]
        exact hJ.append (.cons _ _ .nil)
      · rw [if_neg (by simpa using hq)]
        intro g' _
        rw [List.take_succ_eq_append_getElem hil, List.filter_append, List.filter_cons, if_neg (by simpa using hq), List.filter_nil, List.append_nil]
        exact hJ
    · intro D9 h9 zs e9 hJ hD9 hf9 hy9
      refine ⟨F7.ext.trans e9, D9, rfl, ⟨zs, hD9, ?_⟩, F7.ext.fresh hf9⟩
      rw [List.size_toArray, hI.length, List.take_length] at hJ
      exact hJ
end Mine
end
section
open PySem PySem.W PyProof.Rows PySem.Calls
namespace Mine
variable [Nn]
def pn (roots : List Int) (ch : List Int) : Int := ch.foldl (fun told p => -told * roots.getD p.toNat 0) 1
def smd1 (roots s c : List Int) : List Int := s.set c.length (s.getD c.length 0 + pn roots c)
def smd (roots : List Int) (sets : List (List Int)) : List Int := sets.foldl (smd1 roots) [0, 0, 0, 0]
section
variable {w : World} {A : Around} {h : Heap} {env : Env}
theorem tab_ne {h : Heap} (t : TabOk h) {b : Addr} {o : Obj} (e : h.get? b = some o) (l : isTab o = false) : b ≠ 55 := by
  rintro rfl
  obtain ⟨ps, e', _⟩ := t
  rw [e] at e'; cases e'; simp [isTab] at l
theorem w_lambda {params : Arguments} {body : Expr} {scope : Scope} {pos : Pos} {clos : List (Str × Addr)} {c : Addr} {P : Value → Heap → Prop} (S : Sta w h) (C : CodeHd h c 55) (hl : pos.line = 55) (hcl : pos.col = 36)
    (p : ∀ f h' c' pm ctv, Ext h h' → h'.get? f = some (kla_obj "<lambda>" "_law_summed.<locals>.<lambda>" params body scope clos pm c' ctv) → h'.CodeRec (.ref c') "_law_summed.<locals>.<lambda>" → P (.ref f) h')
    (hcode : env.code = .ref c) (hq : env.qual ++ "<lambda>" = ("_law_summed.<locals>.<lambda>" : Str)) (hcs : closureFor scope env = pure clos) (hdef : defaultsOf params env = ([], [])) (hg : env.globals = mainGlobals) :
    W w A (eval (.Lambda params body scope pos) env) h P :=
  fun s _ E e q => by
    subst e
    refine kla_eval hdef ?_
    rw [hq]
    obtain ⟨mg, mb, a, b, cc, hb⟩ := S.top
    obtain ⟨ps, e55, r⟩ := S.tab
    have hgP : mainGlobals ≠ 55 := by decide
    rcases r with rfl | ⟨c', rfl, cr⟩
    · refine kla_makeFunction hcs hg a hcode C e55 trivial rfl hgP hb fun c' ctv h' tk k hge hlt rec tab => ?_
      have ex : Ext s.heap h' := by
        refine ⟨fun b o e l => k b o ?_ e, fun b o e d => ⟨o.slots, k b o ?_ e⟩, fun _ => ⟨_, tab, .inr ⟨c', ?_, rec⟩⟩, fun b o e => ?_, fun c q r => ?_, fun b o e _ n => k b o n e⟩
        · exact tab_ne S.tab e (by unfold lose at l; simp at l; simpa using l.1)
        · refine tab_ne S.tab e ?_
          unfold isTab; split
          · simp [isDict] at d
          · rfl
        · simp [hl, hcl]
        · by_cases z : b = 55
          · exact ⟨_, z ▸ tab⟩
          · exact ⟨o, k b o z e⟩
        · obtain ⟨c2, o, vs, t', a1, a2, a3, a4⟩ := r
          refine ⟨c2, o, vs, t', a1, k _ _ (fun z => ?_) a2, a3, a4⟩
          rw [show c2 = 55 from z, e55] at a2; cases a2; cases a3; simp at a4
      exact q _ _ _ (p _ _ c' _ ctv (ex.trans (Ext.push _)) (Heap.get?_push_size _ rfl) (by
        obtain ⟨c'', o, vs, t, a1, a2, a3, a4⟩ := rec
        exact ⟨c'', o, vs, t, a1, Heap.get?_push_of_some _ a2, a3, a4⟩))
    · refine kla_makeFunctionHit (cv := .ref c') hcs hg a hcode C e55 ⟨⟩ ?_ hb fun ctv h' tk k hsz => ?_
      · simp [codeAmong, hl, hcl, rawInt]
      · exact q _ _ _ (p _ _ c' _ ctv ((Ext.of_keep k).trans (Ext.push _)) (Heap.get?_push_size _ rfl) (by
          obtain ⟨c'', o, vs, t, a1, a2, a3, a4⟩ := cr
          exact ⟨c'', o, vs, t, a1, Heap.get?_push_of_some _ (k _ _ a2), a3, a4⟩))
theorem w_callLam {f c' : Addr} {name qual : Str} {params : Arguments} {body : Expr} {scope : Scope} {clos : List (Str × Addr)} {pm ctv : Value} {args : List Value} {P : Value → Heap → Prop} (binds : List (Str × Value)) (S : Sta w h) (hroom : A.depth < recursionLimit)
    (hf : h.get? f = some (kla_obj name qual params body scope clos pm c' ctv)) (hcd : h.CodeRec (.ref c') qual) (hbind : bindArgs (kla_fn name qual params body scope clos pm (.ref c') ctv) ⟨args, []⟩ = pure binds) (hloc : ∀ y ∈ binds, scope.names.lookup y.1 = some .local)
    (hcell : ∀ x ∈ scope.names, x.2 ≠ .cell) (hco : scope.isCoroutine = false) (hgen : scope.isGenerator = false) (hk : scope.kind = .function)
    (x : ∀ L h₁, Ext h h₁ → h₁.Ns L (fun y => binds.reverse.lookup y) → W w (A.deeper (envX qual scope L f (.ref c') clos)) (eval body (envX qual scope L f (.ref c') clos)) h₁ P) : W w A (call (.ref f) args) h P :=
  fun s _ E e q => by
    subst e
    refine wpAny_call (kla_callFunE hroom hf rfl hco hgen rfl hcd ?_)
    rw [hbind]
    refine wpAny_pure (wpAny_newFunctionEnv hcell hloc (fun h₁ hns hsb => ?_) hk)
    have hk₁ : ∀ b o, s.heap.get? b = some o → h₁.get? b = some o := fun b o e => hsb.extBut b o (Nat.ne_of_lt (Heap.lt_size e)) (Heap.get?_push_of_some _ e)
    refine ⟨S.lim.keeps hk₁, ?_⟩
    show codeAny _ _ (.expr body (envX qual scope s.heap.objs.size f (.ref c') clos)) _ _
    exact kla_codeExpr (x s.heap.objs.size h₁ (Ext.of_keep hk₁) hns _ _ _ rfl fun v h' tk p => q _ _ _ p)
end
theorem pn_succ (roots ch : List Int) (i : Nat) (hi : i < ch.length) : pn roots (ch.take (i + 1)) = -(pn roots (ch.take i)) * roots.getD (ch[i]).toNat 0 := by
  unfold pn; rw [List.take_succ_eq_append_getElem hi, List.foldl_append]; rfl
theorem smd_succ (roots : List Int) (sets : List (List Int)) (i : Nat) (hi : i < sets.length) : smd roots (sets.take (i + 1)) = smd1 roots (smd roots (sets.take i)) sets[i] := by
  unfold smd; rw [List.take_succ_eq_append_getElem hi, List.foldl_append]; rfl
theorem smd_len (roots : List Int) : ∀ (sets : List (List Int)) (s : List Int), (sets.foldl (smd1 roots) s).length = s.length
  | [], s => rfl
  | c :: r, s => by rw [List.foldl_cons, smd_len roots r]; simp [smd1]
theorem chd59 (w : World) : codeHdIn (Mine.hd.heap_39 w.params) 59 55 = true := by kernel_rfl
theorem lam_q : (Str.ofString "_law_summed" ++ ".<locals>.") ++ "<lambda>" = ("_law_summed.<locals>.<lambda>" : Str) := by decide +kernel
theorem mulOk_right {a b : Int} (h1 : -(2 ^ 64) < b) (h2 : b < 2 ^ 64) : IntMulOk a b := IntMulOk.of_right (intBits_le_64 h1 h2)
set_option maxHeartbeats 1000000 in
theorem summed_spec {w : World} {A : Around} {h : Heap} {ra sa : Addr} {roots : List Int} {sets : List (List Int)} (S : Sta w h) (hA : A.handled = none) (hdep : A.depth + 4 < recursionLimit) (hr : Ints h ra roots) (hs : Rows h sa sets) (r3 : roots.length = 3)
    (rb : ∀ x ∈ roots, -(2 ^ 62) < x ∧ x < 2 ^ 62) (hsz : sets.length ≤ 1000) (hc : ∀ c ∈ sets, c.length ≤ 3 ∧ ∀ p ∈ c, 0 ≤ p ∧ p < 3) :
    W w A (call (.ref 60) [.ref ra, .ref sa]) h fun v h' => Ext h h' ∧ ∃ a, v = .ref a ∧ Ints h' a (smd roots sets) ∧ h.get? a = none := by
  refine' w_enterK [(Str.ofString "roots", .ref ra), (Str.ofString "sets", .ref sa)] S (by omega) ?k6 ?k7 ?k8 ?k9 ?_ ?c1 ?c2 ?c3
  case k6 => k_is
  case k7 => k_is
  case k8 => exact fun s e => BindsTo.of_eq rfl
  case k9 => exact rfl
  case c1 => exact rfl
  case c2 => exact rfl
  case c3 => exact rfl
  intro L h₁ F
  refine w_stmt (w_assign (w_list (w_cons (w_int fun t1 => w_cons (w_int fun t2 => w_cons (w_int fun t3 => w_cons (w_int fun t4 => w_nil ⟨by rw [← sl_line]; simp, fun ca h2 e2 l2 f2 => ?_⟩)))))))
  refine w_store (F.step e2) fun h3 F3 s3 => ?_
  have l3 := s3.sq.isList l2
  have o3 : h.get? ca = none := F.ext.fresh f2
  obtain ⟨vs, hsl, hsi⟩ := hs
  have hvl := hsi.length
  refine w_stmt (w_for (w_local F3.ns rfl ?_))
  refine w_iterX hA (.list rfl (F3.ext.isList hsl)) fun I St fp h4 K kp hI st hfp => ?_
  have hI0 : h.get? I = none := F3.ext.fresh hI
  have F4 := F3.step (Ext.of_keep kp)
  have hnf : ca ∉ fp := fun q => by
    rcases hfp ca q with q | q
    · subst q; obtain ⟨o, e, _⟩ := l3; rw [hI] at e; cases e
    · cases q; obtain ⟨o, e, _⟩ := hsl; rw [o3] at e; cases e
  refine ⟨fun n g => ∃ (i : Nat) (us : List Value) (m : Str → Option Value), n = vs.toArray.size - i ∧ i ≤ vs.toArray.size ∧ St i g ∧ Fm h _ m _ g ∧ m (Str.ofString "sums") = some (.ref ca) ∧ g.IsList ca us.toArray ∧ IntsAre us (smd roots (sets.take i)), _,
    ⟨0, _, _, rfl, Nat.zero_le _, st, F4, rfl, (Ext.of_keep kp).isList l3, .cons _ _ (.cons _ _ (.cons _ _ (.cons _ _ .nil)))⟩, ?_⟩
  rintro n g ⟨i, us, m, rfl, hile, sti, Fg, hms, lc, ic⟩
  have hlen4 : (smd roots (sets.take i)).length = 4 := smd_len roots _ _
  have hul : us.length = 4 := ic.length.trans hlen4
  by_cases hlt : i < vs.toArray.size
  · refine w_next K hlt sti fun x g1 hx st1 k1 => ?_
    have it := K.it _ _ sti
    have F1 := Fg.iter k1 it hI0
    have his : i < sets.length := by rw [← hvl]; simpa using hlt
    obtain ⟨b, hb, hbi⟩ := hsi.get i sets[i] (List.getElem?_eq_getElem his)
    obtain rfl : x = .ref b := by rw [List.getElem?_toArray, hb] at hx; cases hx; rfl
    obtain ⟨c3, cp⟩ := hc _ (List.getElem_mem his)
    refine w_noTuple (w_assignName (w_store F1 fun g2 F2 s2 => ?_))
    have sq2 : Sq g g2 := (so_iter k1 it).trans s2.sq
    have lc2 := sq2.isList lc
    have S2 := S.mono F2.ext
    obtain ⟨ws, hbl, hbs⟩ := F2.ext.sq.ints hbi
    have hwl := hbs.length
    refine w_stmt (w_augSub (w_local F2.ns (v := .ref ca) (by rw [upd_ne (by decide)]; exact hms) ?_))
    refine w_call (w_builtin S2 (ns_len w) bb_len (w_callBuiltin rfl rfl (w_cons (w_local F2.ns upd_self (w_nil ?_)))))
    refine w_len hbl (by rw [List.size_toArray, hwl]; omega) fun t5 => ?_
    rw [List.size_toArray, hwl]
    obtain ⟨tc, hcc⟩ := IntsAre.item ic (i := sets[i].length) (x := (smd roots (sets.take i)).getD sets[i].length 0) (getD_some (by omega))
    refine w_getItem lc2 (by omega) (v := .int ((smd roots (sets.take i)).getD sets[i].length 0) tc) (by rw [← hcc]; congr 1) ?_
    refine w_call (w_global S2 (ns_reduce w) ?_)
    obtain ⟨o38, e38, fd38, d38⟩ : ∃ o, g2.get? 38 = some o ∧ ∃ fd, o.data = .func fd := ⟨_, S2.part 38 _ (by k_is), _, rfl⟩
    refine w_callFn e38 d38 rfl (w_cons ?_)
    refine w_lambda S2 (codeHd_of_K S2.part (chd59 w)) rfl rfl (fun f h' c' pm ctv ef hf hcr => ?_) rfl lam_q rfl rfl rfl
    have F5 := F2.step ef
    refine w_cons (w_local F5.ns upd_self (w_cons (w_int fun t6 => w_nil ⟨ef, ?_⟩)))
    have cr := F5.cell (Str.ofString "roots") _ rfl
    have S5 := S.mono F5.ext
    obtain ⟨rs, hrl, hri⟩ := F5.ext.sq.ints hr
    have hrl3 : rs.length = 3 := hri.length.trans r3
    refine W.mono (reduce_spec (A := A.deeper _) S5 hA (by show A.depth + 1 + 2 < recursionLimit; omega) hf rfl (ef.isList hbl) (.int 1 t6) (fun j v g => ∃ t, v = .int (pn roots (sets[i].take j)) t) (fun _ _ _ _ _ x => x) ⟨t6, rfl⟩ ?_) ?_
    · rintro j y v g6 B hy ⟨tv, rfl⟩ e6 hB hBd hBu
      have hjl : j < sets[i].length := by
        have := (Array.getElem?_eq_some_iff.mp hy).1
        rw [List.size_toArray, hwl] at this; exact this
      obtain ⟨tp, hp⟩ := IntsAre.item hbs (i := j) (x := sets[i][j]) (List.getElem?_eq_getElem hjl)
      rw [hp] at hy; cases hy
      obtain ⟨p0, p3⟩ := cp _ (List.getElem_mem hjl)
      refine w_callLam [(Str.ofString "told", .int _ tv), (Str.ofString "place", .int sets[i][j] tp)] (S5.mono e6) (by rw [hBd]; show A.depth + 1 + 1 < recursionLimit; omega) (e6.keep _ _ hf rfl) (e6.cod _ _ hcr) rfl (locs rfl) (by decide) rfl rfl rfl fun L' g7 e7 hns => ?_
      have e67 := e6.trans e7
      obtain ⟨tr, hrr⟩ := IntsAre.item hri (i := sets[i][j].toNat) (x := roots.getD sets[i][j].toNat 0) (getD_some (by omega))
      have hrm : roots.getD sets[i][j].toNat 0 ∈ roots := by rw [List.getD_eq_getElem?_getD, List.getElem?_eq_getElem (by omega)]; exact List.getElem_mem _
      obtain ⟨r1, r2⟩ := rb _ hrm
      refine w_binop (w_unop (w_local hns rfl (w_neg fun t7 => w_subscript (w_free rfl (e67.cell cr) (w_local hns rfl ?_)))))
      refine w_item (e67.isList hrl) p0 hrr ?_
      refine w_mul (mulOk_right (by omega) (by omega)) fun t8 => ⟨e7, t8, ?_⟩
      rw [pn_succ _ _ _ hjl]
    · rintro v g6 ⟨e6, tv, rfl⟩
      rw [List.size_toArray, hwl, List.take_length]
      have lc6 := (ef.trans e6).isList lc2
      refine w_iadd fun t9 => w_setItem lc6 (by omega) (by rw [List.size_toArray, hul]; omega) fun g7 l7 s7 => w_done ?_
      have F7 := (F5.step e6).list s7 lc6 o3
      refine ⟨vs.toArray.size - (i + 1), by omega, i + 1, us.set sets[i].length (.int ((smd roots (sets.take i)).getD sets[i].length 0 + pn roots sets[i]) t9), _, rfl, hlt, K.same (K.stay (K.stay st1 s2) (ef.trans e6).so) s7 hnf, F7, by rw [upd_ne (by decide)]; exact hms, ?_, ?_⟩
      · rw [← List.setIfInBounds_toArray]; exact l7
      · rw [smd_succ _ _ _ his]; exact IntsAre.setAt ic _ _ t9
  · obtain rfl : i = vs.toArray.size := by omega
    refine w_nextEnd K sti fun g1 k1 => w_done ?_
    have it := K.it _ _ sti
    have F1 := Fg.iter k1 it hI0
    refine w_stmt (w_return (w_local F1.ns hms ⟨F1.ext, ca, rfl, ⟨us, (so_iter k1 it).isList lc, ?_⟩, o3⟩))
    rw [List.size_toArray, hvl, List.take_length] at ic
    exact ic
end Mine
end
section
open PySem PySem.W PyProof.Rows PySem.Calls
namespace Mine
variable [Nn]
/-- the same of a code -/
def WC (w : World) (A : Around) (c : Code) (h : Heap) (P : Flow → Heap → Prop) : Prop :=
  ∀ (s : Shared) (R : Result → Shared → Prop), s.heap = h → (∀ f h' tk, P f h' → R (.ok f) { s with heap := h', toks := tk }) → codeAny (model P0 w) A c R s
section
variable {w : World} {A : Around} {h : Heap} {env : Env}
theorem compTurn_in (elt t0 i0 t1 i1 : Expr) (scope : Scope) (pos : Pos) (it acc : Value) (env : Env) :
    compTurn (.ListComp elt [⟨t0, i0, [], 0⟩, ⟨t1, i1, [], 0⟩] scope pos) 1 it acc env = (standAt i1.pos >>= fun _ => pyNext it >>= fun r => match r with
      | none => pure (.done .next)
      | some v => letOwnedTupleGo t1 it v >>= fun _ => assign t1 env v >>= fun _ =>
        (eval elt env >>= fun x => call (.builtin "list.append") [acc, x] >>= fun _ => pure ()) >>= fun _ =>
          again (.compLoop (.ListComp elt [⟨t0, i0, [], 0⟩, ⟨t1, i1, [], 0⟩] scope pos) 1 it acc env)) := by rfl
theorem compTurn_out (elt t0 i0 t1 i1 : Expr) (scope : Scope) (pos : Pos) (it acc : Value) (env : Env) :
    compTurn (.ListComp elt [⟨t0, i0, [], 0⟩, ⟨t1, i1, [], 0⟩] scope pos) 0 it acc env = (standAt i0.pos >>= fun _ => pyNext it >>= fun r => match r with
      | none => pure (.done .next)
      | some v => letOwnedTupleGo t0 it v >>= fun _ => assign t0 env v >>= fun _ =>
        (eval i1 env >>= fun x => standAt i1.pos >>= fun _ => foldedSetIterable i1 env x >>= fun x => holding [x] (pyIter x) >>= fun it1 =>
          runOwn (.compStart (.ListComp elt [⟨t0, i0, [], 0⟩, ⟨t1, i1, [], 0⟩] scope pos) 1 it1 acc env) env >>= fun _ =>
          again (.compLoop (.ListComp elt [⟨t0, i0, [], 0⟩, ⟨t1, i1, [], 0⟩] scope pos) 0 it acc env))) := by rfl
theorem wc_in {elt t0 i0 t1 i1 : Expr} {scope : Scope} {pos : Pos} {it acc : Value} {P : Flow → Heap → Prop} (Inv : Nat → Heap → Prop)
    (turn : ∀ n g, Inv n g → W w A (pyNext it) g fun r g₁ => match r with
      | none => P .next g₁
      | some v => W w A (assign t1 env v) g₁ fun _ g₂ => W w A (eval elt env) g₂ fun x g₃ => W w A (call (.builtin "list.append") [acc, x]) g₃ fun _ g₄ => ∃ m, m < n ∧ Inv m g₄)
    (n : Nat) (h0 : Inv n h) (ht : ∀ v, letOwnedTupleGo t1 it v = pure () := by intro _; rfl) : WC w A (.compLoop (.ListComp elt [⟨t0, i0, [], 0⟩, ⟨t1, i1, [], 0⟩] scope pos) 1 it acc env) h P := by
  intro s R e q
  subst e
  refine codeAny_loop rfl (fun n s' => ∃ h' tk, s' = { s with heap := h', toks := tk } ∧ Inv n h') ?_ n ⟨s.heap, s.toks, rfl, h0⟩
  rintro n _ ⟨h', tk, rfl, hI⟩
  show wpAny (model P0 w) A ((compTurn (.ListComp elt [⟨t0, i0, [], 0⟩, ⟨t1, i1, [], 0⟩] scope pos) 1 it acc env).onRaise (fun x => do noteFrame x env; theTreesLotGoes x)) _ _ _
  refine wpAny_noted ?_
  rw [compTurn_in]
  refine wpAny_bind (wpAny_standAt (wpAny_bind (turn n h' hI _ _ _ rfl fun r h₁ t₁ p₁ => ?_)))
  cases r with
  | none => exact wpAny_pure (q _ _ _ p₁)
  | some v =>
    refine wpAny_bind (wpAny_of_eq (ht v) ?_)
    refine wpAny_bind (p₁ _ _ _ rfl fun _ h₂ t₂ p₂ => wpAny_bind (wpAny_bind (p₂ _ _ _ rfl fun x h₃ t₃ p₃ => wpAny_bind (p₃ _ _ _ rfl fun _ h₄ t₄ p₄ => wpAny_pure (wpAny_pure ⟨rfl, ?_⟩)))))
    obtain ⟨m, hm, hI'⟩ := p₄
    exact ⟨m, hm, h₄, t₄, rfl, hI'⟩
theorem wc_start1 {elt t0 i0 t1 i1 : Expr} {scope : Scope} {pos : Pos} {it acc : Value} {P : Flow → Heap → Prop} (self : ∀ (s : Shared) (Q : Value → Shared → Prop) (E : Value → Shared → Prop), s.heap = h → Q it s → wpAny (model P0 w) A (pyIter it) Q E s)
    (x : WC w A (.compLoop (.ListComp elt [⟨t0, i0, [], 0⟩, ⟨t1, i1, [], 0⟩] scope pos) 1 it acc env) h P) : WC w A (.compStart (.ListComp elt [⟨t0, i0, [], 0⟩, ⟨t1, i1, [], 0⟩] scope pos) 1 it acc env) h P := by
  intro s R e q
  refine codeAny_of_tree ?_
  show wpAny (model P0 w) A ((compStart (.ListComp elt [⟨t0, i0, [], 0⟩, ⟨t1, i1, [], 0⟩] scope pos) 1 it acc env).onRaise (fun x => do noteFrame x env; standAt theWindowsPlace)) _ _ s
  refine wpAny_notedAt ?_
  unfold compStart
  show wpAny _ _ (ask >>= _) _ _ s
  refine wpAny_bind (wpAny_askSetting (wpAny_ite ?_))
  have L := x s R e q
  split
  · first
      | exact wpAny_bind (wpAny_pure (wpAny_pure (And.intro rfl L)))
      | exact wpAny_pure (And.intro rfl L)
  · first
      | exact wpAny_bind (wpAny_rule (wpAny_bind (wpAny_standAt (wpAny_bind (self _ _ _ e (wpAny_pure (And.intro rfl L)))))))
      | (refine wpAny_bind (wpAny_rule ?_); show wpAny _ _ (standAt i1.pos >>= _) _ _ s; exact wpAny_bind (wpAny_standAt (wpAny_bind (self _ _ _ e (wpAny_pure (And.intro rfl L))))))
theorem wc_start0 {elt : Expr} {g : Expr} {i0 : Expr} {rest : List Comprehension} {scope : Scope} {pos : Pos} {it acc : Value} {P : Flow → Heap → Prop} (self : ∀ (s : Shared) (Q : Value → Shared → Prop) (E : Value → Shared → Prop), s.heap = h → Q it s → wpAny (model P0 w) A (pyIter it) Q E s)
    (x : WC w A (.compLoop (.ListComp elt (⟨g, i0, [], 0⟩ :: rest) scope pos) 0 it acc env) h P) : WC w A (.compStart (.ListComp elt (⟨g, i0, [], 0⟩ :: rest) scope pos) 0 it acc env) h P :=
  fun s R e q => codeAny_compStart_list (x s R e q) (self _ _ _ e (x s R e q))
theorem wc_out {elt t0 i0 t1 i1 : Expr} {scope : Scope} {pos : Pos} {it acc : Value} {P : Flow → Heap → Prop} (Inv : Nat → Heap → Prop)
    (turn : ∀ n g, Inv n g → W w A (pyNext it) g fun r g₁ => match r with
      | none => P .next g₁
      | some v => W w A (assign t0 env v) g₁ fun _ g₂ => W w A (eval i1 env) g₂ fun x g₃ => W w A (pyIter x) g₃ fun it1 g₄ =>
        WC w A (.compStart (.ListComp elt [⟨t0, i0, [], 0⟩, ⟨t1, i1, [], 0⟩] scope pos) 1 it1 acc env) g₄ fun _ g₅ => ∃ m, m < n ∧ Inv m g₅)
    (n : Nat) (h0 : Inv n h) (ht : ∀ v, letOwnedTupleGo t0 it v = pure () := by intro _; rfl) (hs : ∀ x, foldedSetIterable i1 env x = pure x := by intro _; rfl) : WC w A (.compLoop (.ListComp elt [⟨t0, i0, [], 0⟩, ⟨t1, i1, [], 0⟩] scope pos) 0 it acc env) h P := by
  intro s R e q
  subst e
  refine codeAny_loop rfl (fun n s' => ∃ h' tk, s' = { s with heap := h', toks := tk } ∧ Inv n h') ?_ n ⟨s.heap, s.toks, rfl, h0⟩
  rintro n _ ⟨h', tk, rfl, hI⟩
  show wpAny (model P0 w) A ((compTurn (.ListComp elt [⟨t0, i0, [], 0⟩, ⟨t1, i1, [], 0⟩] scope pos) 0 it acc env).onRaise (fun x => do noteFrame x env; theTreesLotGoes x)) _ _ _
  refine wpAny_noted ?_
  rw [compTurn_out]
  refine wpAny_bind (wpAny_standAt (wpAny_bind (turn n h' hI _ _ _ rfl fun r h₁ t₁ p₁ => ?_)))
  cases r with
  | none => exact wpAny_pure (q _ _ _ p₁)
  | some v =>
    refine wpAny_bind (wpAny_of_eq (ht v) ?_)
    refine wpAny_bind (p₁ _ _ _ rfl fun _ h₂ t₂ p₂ => wpAny_bind (p₂ _ _ _ rfl fun x h₃ t₃ p₃ => wpAny_bind (wpAny_standAt (wpAny_bind ?_))))
    rw [hs]
    refine wpAny_pure (wpAny_bind (wpAny_holding (p₃ _ _ _ rfl fun it1 h₄ t₄ p₄ => wpAny_bind (wpAny_runOwn (p₄ _ _ rfl fun f h₅ t₅ p₅ => wpAny_pure ⟨rfl, ?_⟩)))))
    obtain ⟨m, hm, hI'⟩ := p₅
    exact ⟨m, hm, h₅, t₅, rfl, hI'⟩
theorem comp_enter {e : Expr} {scope : Scope} {it : Value} {hb : Heap} {s₂ : Shared} {E : Value → Shared → Prop} {RR : Value → Addr → Result → Shared → Prop} (hsz : Nn.n ≤ s₂.heap.objs.size) (xb : Ext hb s₂.heap) (hcell : ∀ y ∈ scope.names, y.2 ≠ .cell) (hkind : scope.kind = .function)
    (Post : List Value → Heap → Prop)
    (x : ∀ D C m g, Fm hb (compEnvC scope [] C env) m (fun _ => none) g → (∀ b o, s₂.heap.get? b = some o → g.get? b = some o) → PL g D [] → s₂.heap.get? D = none → D ≠ C →
      WC w A (.compStart e 0 it (.ref D) (compEnvC scope [] C env)) g fun f g' => f = .next ∧ ∃ m' ys, Fm hb (compEnvC scope [] C env) m' (fun _ => none) g' ∧ PL g' D ys ∧ Post ys g')
    (hRR : ∀ D C h' tk m' ys, h'.Ns C m' → PL h' D ys → D ≠ C → s₂.heap.get? D = none → s₂.heap.get? C = none → Ext hb h' → Post ys h' → RR (.ref D) C (.ok .next) { s₂ with heap := h', toks := tk }) :
    wpAny (model P0 w) A (newList []) (fun acc s₃ => wpAny (model P0 w) A (newFunctionEnv scope env.globals [] [] env.qual none .none (some env)) (fun cenv s₄ =>
      codeAny (model P0 w) A (.compStart e 0 it acc { cenv with scope := relabel scope env }) (RR acc cenv.locals) s₄) E s₃) E s₂ := by
  refine wpAny_newObj_type (wpAny_newFunctionEnv hcell (by intro y hy; simp at hy) (fun g₁ hns₁ hsb₁ => ?_) hkind)
  dsimp only at hns₁ hsb₁ ⊢
  generalize hH2 : s₂.heap.push { cls := .type "list", dict := none, data := .seq ([] : List Value).toArray } = H2 at hns₁ hsb₁ ⊢
  have hC : H2.objs.size = s₂.heap.objs.size + 1 := by rw [← hH2, Heap.size_push]
  generalize hDd : s₂.heap.objs.size = D at *
  generalize hCc : H2.objs.size = C at *
  have hDC : D ≠ C := by rw [hC]; exact Nat.ne_of_lt (Nat.lt_succ_self _)
  have old : ∀ b o, s₂.heap.get? b = some o → g₁.get? b = some o := fun b o e => by
    have hb : b < D := hDd ▸ Heap.lt_size e
    exact hsb₁.extBut b o (by rw [hC]; exact Nat.ne_of_lt (Nat.lt_succ_of_lt hb)) (Heap.get?_push_of_some _ (hH2 ▸ Heap.get?_push_of_some _ e))
  have hacc : PL g₁ D [] := by
    refine ⟨0, hsb₁.extBut _ _ hDC (Heap.get?_push_of_some _ ?_)⟩
    rw [← hH2, ← hDd]; exact Heap.get?_push_size _ rfl
  have hD2 : s₂.heap.get? D = none := none_of_le (Nat.le_of_eq hDd)
  have hC2 : s₂.heap.get? C = none := none_of_le (by rw [hDd, hC]; exact Nat.le_succ _)
  have F : Fm hb (compEnvC scope [] C env) _ (fun _ => none) g₁ := ⟨hns₁, (fun n c e => nomatch e), (fun n n' c e => nomatch e), xb.trans (Ext.of_keep old), xb.fresh hC2, by show Nn.n ≤ C; rw [hC]; exact Nat.le_succ_of_le hsz, (fun n c _ e => nomatch e)⟩
  refine x D C _ g₁ F old hacc hD2 hDC _ _ rfl ?_
  rintro f h' tk ⟨rfl, m', ys, Fx, pl, po⟩
  exact hRR D C h' tk m' ys Fx.ns pl hDC hD2 hC2 Fx.ext po
end
end Mine
end
section
open PySem PySem.W PyProof.Rows PySem.Calls PySem.SeqAt
namespace Mine
variable [Nn]
abbrev dataOf (xss : List (List Int)) : PyData := .list (xss.map fun xs => .list (xs.map .int))
theorem reads_rowsAre {h : Heap} {vs : List Value} {xss : List (List Int)} (r : RowsAre h vs xss) : ∃ as, ReadsAll h vs (xss.map fun xs => .list (xs.map .int)) as := by
  induction r with
  | nil => exact ⟨_, .nil⟩
  | cons i _ ih =>
    obtain ⟨vs', l, hi⟩ := i
    obtain ⟨as, hh⟩ := ih
    exact ⟨_, .cons (reads_of_ints l hi) hh⟩
theorem reads_rows {h : Heap} {a : Addr} {xss : List (List Int)} (r : Rows h a xss) : ∃ as, Reads h (.ref a) (dataOf xss) as := by
  obtain ⟨vs, ⟨o, ho, hc, n, hd⟩, hr⟩ := r
  obtain ⟨as, hh⟩ := reads_rowsAre hr
  exact ⟨_, Reads.list ho hc hd (by simpa using hh)⟩
omit [Nn] in
theorem canLay_rows : ∀ xss : List (List Int), PyData.canLayAll0 (xss.map fun xs => .list (xs.map .int)) = true
  | [] => by simp [PyData.canLayAll0]
  | xs :: r => by simp [PyData.canLayAll0, PyData.canLay0, canLayAll0_ints, canLay_rows r]
omit [Nn] in
theorem depth_rows : ∀ xss : List (List Int), PyData.depthAll (xss.map fun xs => .list (xs.map .int)) ≤ 3
  | [] => by simp [PyData.depthAll]
  | xs :: r => by
    have := depth_rows r
    have := PySem.W.depthAll_ints xs
    simp only [List.map_cons, PyData.depthAll, PyData.depth]
    omega
omit [Nn] in
theorem shaped_rows (xss : List (List Int)) : shaped (dataOf xss) = true := by
  have h1 := depth_rows xss
  have h2 : PyData.depth (dataOf xss) ≤ 64 := by simp only [dataOf, PyData.depth]; omega
  show (PyData.canLay0 (dataOf xss) && decide (PyData.depth (dataOf xss) ≤ 64)) = true
  rw [Bool.and_eq_true]
  exact ⟨by simp only [PyData.canLay0]; exact canLay_rows xss, decide_eq_true h2⟩
omit [Nn] in
theorem noMix_rows : ∀ xss : List (List Int), noMixAll (xss.map fun xs => .list (xs.map .int)) (xss.map fun xs => .list (xs.map .int)) = true
  | [] => by simp [noMixAll]
  | xs :: r => by simp [noMixAll, noMix, noMix_ints, noMix_rows r]
section
variable {w : World} {A : Around} {h : Heap} {env : Env}
theorem w_ne_rows {a b : Addr} {xss : List (List Int)} {P : Value → Heap → Prop} (ha : Rows h a xss) (hb : Rows h b xss) (hu : A.units + 64 < cLine) (p : P (.bool false) h) : W w A (compareOp .NotEq (.ref a) (.ref b)) h P :=
  fun s _ E e q => by
    subst e
    obtain ⟨as, ra⟩ := reads_rows ha
    obtain ⟨bs, rb⟩ := reads_rows hb
    refine ne_dataH_same ra rb (shaped_rows _) (shaped_rows _) hu (by simp only [noMix]; exact noMix_rows xss) ?_
    rw [PySem.Spec.same_self]
    exact q _ s.heap s.toks p
theorem w_ne_ints {a b : Addr} {xs ys : List Int} {P : Value → Heap → Prop} (ha : Ints h a xs) (hb : Ints h b ys) (hu : A.units + 64 < cLine) (p : P (.bool (!decide (xs = ys))) h) : W w A (compareOp .NotEq (.ref a) (.ref b)) h P :=
  fun s _ E e q => by
    subst e
    obtain ⟨vs, l, i⟩ := ha
    obtain ⟨us, l', i'⟩ := hb
    exact ne_intsK l i l' i' hu (q _ s.heap s.toks p)
theorem w_tupItem {value slice : Expr} {t : Addr} {items : Array Value} {k : Nat} {u : Tok} {v : Value} {P : Value → Heap → Prop} (ht : h.IsTuple t items) (hx : items[k]? = some v) (hk : k < 1000) (p : P v h)
    (hs : subscripted slice false (.ref t) (.int k u) = operate [.ref t, .int k u] (getItem (.ref t) (.int k u)) := by with_unfolding_all rfl) : W w A (subscriptTail value slice (.ref t) (.int k u)) h P :=
  fun s _ _ e q => by
    subst e
    have ht' : IsTup s.heap t items := ht
    have hlt : k < items.size := (Array.getElem?_eq_some_iff.mp hx).1
    exact tail_any ht'.typeIs PySem.F.slot_tuple_getitem.lookup (getItem_tuple ht' (by omega) (by omega) (j := k) (by unfold seqIndex?; simp only [Int.not_lt.mpr (Int.natCast_nonneg k), if_false]; simp [hlt]) hx (q v s.heap s.toks p)) hs
theorem w_sorted {l : Addr} {xs : List Int} {P : Value → Heap → Prop} (hl : Ints h l xs) (h64 : xs.length < 64) (p : ∀ a h' ns, Ext h h' → Ints h' a ns → ns.Perm xs → ns.Pairwise (· ≤ ·) → h.get? a = none → P (.ref a) h') : W w A (call (.builtin "sorted") [.ref l]) h P :=
  fun s _ E e q => by
    subst e
    obtain ⟨vs, l, i⟩ := hl
    refine sorted_ints l i (by rw [i.length]; exact h64) fun out ns' hi hp hs => q _ _ _ (p _ _ ns' (Ext.of_keep fun b o e => sortedAll_old e) ?_ hp hs (none_of_le (Nat.le_succ _)))
    obtain ⟨k, hk⟩ := sortedAll_at s.heap vs out
    exact ⟨out.toList, ⟨_, hk, rfl, k, by simp [seqObj]⟩, hi⟩
omit [Nn] in
theorem itemsOf_ints {a : Int} {acc : Array Value} {n : Nat} (x : ItemsOf (fun i v => ∃ t, v = .int (a + (i : Int) * 1) t) acc n) : IntsAre acc.toList ((List.range n).map fun i : Nat => a + (i : Int)) := by
  obtain ⟨hn, hx⟩ := x
  obtain ⟨l⟩ := acc
  simp only [List.size_toArray] at hn
  subst hn
  suffices H : ∀ (l : List Value) (k : Nat), (∀ j v, l[j]? = some v → ∃ t, v = Value.int (a + ((k + j : Nat) : Int) * 1) t) → IntsAre l ((List.range l.length).map fun i : Nat => a + ((k + i : Nat) : Int)) by
    have := H l 0 (fun j v e => by
      obtain ⟨t, e'⟩ := hx j v (by simpa using e)
      exact ⟨t, by rw [e']; simp⟩)
    simpa using this
  intro l
  induction l with
  | nil => intro k _; exact .nil
  | cons v r ih =>
    intro k hk
    obtain ⟨t, rfl⟩ := hk 0 v rfl
    rw [List.length_cons, List.range_succ_eq_map, List.map_cons, List.map_map]
    have := ih (k + 1) fun j v e => by
      obtain ⟨t, e'⟩ := hk (j + 1) v (by simpa using e)
      exact ⟨t, by rw [e', show k + (j + 1) = k + 1 + j by omega]⟩
    have e1 : a + ((k + 0 : Nat) : Int) * 1 = a + ((k + 0 : Nat) : Int) := by omega
    rw [e1]
    refine .cons _ _ ?_
    have e2 : ((fun i : Nat => a + ((k + i : Nat) : Int)) ∘ Nat.succ) = fun i : Nat => a + ((k + 1 + i : Nat) : Int) := by funext i; simp only [Function.comp]; omega
    rw [e2]; exact this
theorem w_listRange {r : Addr} {a b : Int} {t u v : Tok} {n : Nat} {P : Value → Heap → Prop} (hh : A.handled = none) (hr : IsRange h r a b 1 t u v) (hs : Builtin.Range.small a b 1 = true) (hn : Builtin.Range.rangeSize a b 1 = (n : Int)) (hz : n ≤ 1000)
    (p : ∀ D h', Ext h h' → Ints h' D ((List.range n).map fun i : Nat => a + (i : Int)) → P (.ref D) h') : W w A (call (.type "list") [.ref r]) h P :=
  fun s _ E e q => by
    subst e
    exact call_list_range hh hr hs hn (by omega) fun h' tk acc c hk hg hi => q _ _ _ (p _ _ (Ext.of_keep hk) ⟨acc.toList, ⟨_, hg, rfl, c, rfl⟩, itemsOf_ints hi⟩)
theorem w_assignT {x y : Str} {px py pos spos : Pos} {k : Nat} {value : Expr} {P : Flow → Heap → Prop} (z : W w A (eval value env) h fun v h₁ => W w A (assign (.Tuple [.Name x px, .Name y py] k pos) env v) h₁ fun _ h₂ => P .next h₂)
    (hs : swapsWithSole [.Tuple [.Name x px, .Name y py] k pos] value spos.line env = pure false := by rfl) (hw : swappedStores [.Tuple [.Name x px, .Name y py] k pos] value env = pure none := by rfl) : W w A (exec (.Assign [.Tuple [.Name x px, .Name y py] k pos] value spos) env) h P :=
  fun s _ E e q => wpAny_Assign_stores (z s _ E e fun v h₁ t₁ p₁ => by
    show wpAny (model P0 w) A (assignAll v [assign (.Tuple [.Name x px, .Name y py] k pos) env]) _ _ _
    exact p₁ _ _ _ rfl fun _ h₂ t₂ p₂ => q _ _ _ p₂) hs hw
omit [Nn] in
theorem mulList0 {prog : Program} {s : Shared} {E : Value → Shared → Prop} {l : Addr} {items : Array Value} {k : Nat} {x : Int} {u : Tok} {Q : Value → Shared → Prop}
    (hl : s.heap.get? l = some { cls := .type "list", dict := none, data := .seq items k, slots := #[] })
    (hlo : -(2 ^ 63 : Int) ≤ x) (hhi : x < 2 ^ 63) (hsz : items.size * x.toNat ≤ 2 ^ 24)
    (h : Q (.ref s.heap.objs.size) { s with heap := s.heap.push { cls := .type "list", data := .seq (List.foldl (fun x1 x2 => x1 ++ x2) #[] (List.replicate (if items.isEmpty = true then 0 else x.toNat) items)) } }) :
    wpAny (model prog w) A (binaryOp .Mult (.ref l) (.int x u)) Q E s :=
  wpAny_binaryOp_repeat_ref (T := "list") (U := "int") (by decide) ⟨_, hl, rfl⟩ (fun s' => typeIs_int s' x u) noFill_list_mul PySem.F.fills_int_mul PySem.F.slot_int_rmul repeat_list PySem.F.slot_int_index.lookup
    (call_meets PySem.F.slot_int_rmul (typeIs_int s x u) PySem.F.entry_int_rmul (PySem.F.args_int_rmul_2 _ _) (int___rmul___int_list x u l items k)
      ⟨hl, rfl, ⟨_, hl, rfl⟩, call_meets PySem.F.slot_list_mul ⟨_, hl, rfl⟩ PySem.F.entry_list_mul (PySem.F.args_list_mul_2 _ _)
        (AutoListH.list___mul___list_int_3 l items k x u (by simp [Builtin.List.listFitsIndex]; omega) (by omega) (by simp [Builtin.List.listTooLong, sizeLine]; omega))
        ⟨hl, h⟩⟩)
theorem w_mulList {l : Addr} {x : Nat} {u t : Tok} {i : Int} {P : Value → Heap → Prop} (hl : PL h l [.int 0 t]) (hi : i = (x : Int)) (hx : x ≤ 1000) (p : ∀ a h', Ext h h' → h'.IsList a (List.replicate x (.int 0 t)).toArray → P (.ref a) h') : W w A (binaryOp .Mult (.ref l) (.int i u)) h P :=
  fun s _ E e q => by
    subst e hi
    obtain ⟨n, hl⟩ := hl
    refine mulList0 hl (by omega) (by omega) (by simp; omega) (q _ _ _ (p _ _ (Ext.push _) ?_))
    refine ⟨_, Heap.get?_push_size _ rfl, rfl, 0, ?_⟩
    simp only [listMul_foldl]
    simp
theorem w_assign_comp2 {h₀ : Heap} {m cm : Str → Option Value} {elt iter i1 : Expr} {x x1 y : Str} {px px1 py : Pos} {scope : Scope} {pos spos : Pos} {P : Flow → Heap → Prop} (hh : A.handled = none) (F : Fm h₀ env m cm h) (S : Sta w h)
    (yy : W w A (eval iter env) h fun xv h₁ => Ext h h₁ ∧ W w A (pyIter xv) h₁ fun it h₂ => Ext h₁ h₂ ∧ ∃ Post : List Value → Heap → Prop, (∀ ys g g', Sq g g' → Post ys g → Post ys g') ∧
      (∀ D C m g, Fm h₁ (compEnvC scope [] C env) m (fun _ => none) g → (∀ b o, h₂.get? b = some o → g.get? b = some o) → PL g D [] → h₂.get? D = none → D ≠ C →
        WC w A (.compStart (.ListComp elt [⟨.Name x px, iter, [], 0⟩, ⟨.Name x1 px1, i1, [], 0⟩] scope pos) 0 it (.ref D) (compEnvC scope [] C env)) g fun f g' => f = .next ∧ ∃ m' ys, Fm h₁ (compEnvC scope [] C env) m' (fun _ => none) g' ∧ PL g' D ys ∧ Post ys g') ∧
      ∀ D h' ys, Fm h₀ env (upd m y (.ref D)) cm h' → PL h' D ys → Post ys h' → h.get? D = none → P .next h')
    (hsw : swapsWith (.ListComp elt [⟨.Name x px, iter, [], 0⟩, ⟨.Name x1 px1, i1, [], 0⟩] scope pos) (some (.Name y py)) spos.line env = pure true := by rfl)
    (hclos : closureFor scope env = pure [] := by rfl) (hcell : ∀ z ∈ scope.names, z.2 ≠ .cell := by decide) (hkind : scope.kind = .function := by rfl)
    (hnames : ∀ z ∈ scope.names, z.2 = .local → scope.names.lookup z.1 = some .local := by decide)
    (hy : env.kindOf y = some .local := by rfl) (hp : (env.scope.kind == .class || (env.scope.kind == .module && env.locals != env.globals)) = false := by rfl) (hs : ∀ x, foldedSetIterable iter env x = pure x := by intro _; rfl) :
    W w A (exec (.Assign [.Name y py] (.ListComp elt [⟨.Name x px, iter, [], 0⟩, ⟨.Name x1 px1, i1, [], 0⟩] scope pos) spos) env) h P :=
  fun s Q E e q => by
    rw [exec_Assign_Name_used _ _ _ _ hsw]
    refine wpAny_bind (wpAny_standAt (wpAny_bind ?_))
    show wpAny (model P0 w) A (do let _ ← comprehension (.ListComp elt [⟨.Name x px, iter, [], 0⟩, ⟨.Name x1 px1, i1, [], 0⟩] scope pos) scope env _ (newList []) false (eval iter env) (some (assign (.Name y py) env))) _ _ s
    refine wpAny_bind (wpAny_mono (wpAny_comprehension_free (use := some (assign (.Name y py) env)) (Q := fun _ s' => Q .next s') rfl hs hclos hkind hnames (yy s _ E e fun xv h₁ t₁ p₁ => ?_)) (fun _ s' hq => wpAny_pure (wpAny_pure hq)) fun _ _ e => e)
    obtain ⟨e1, p₁⟩ := p₁
    refine p₁ _ _ _ rfl fun it h₂ t₂ p₂ => ?_
    obtain ⟨e2, Post, Pm, walk, fin⟩ := p₂
    have S2 := S.mono (e1.trans e2)
    refine comp_enter (s₂ := { s with heap := h₂, toks := t₂ }) (RR := fun acc C => compPost (model P0 w) A E (some (assign (.Name y py) env)) (fun _ s' => Q .next s') acc C) S2.size e2 hcell hkind Post walk ?_
    intro D C h' tk m' ys hn hl hDC hD hC hE hJ
    have F2 := F.step (e1.trans e2)
    have F' := (F.step e1).step hE
    have hLC : C ≠ env.locals := by
      rintro rfl
      obtain ⟨o, es, ep, ho, _⟩ := F2.ns
      rw [show h₂.get? env.locals = none from hC] at ho; cases ho
    show wpAny (model P0 w) A (assign (.Name y py) env (.ref D)) _ _ _
    refine wpAny_assign_Name (wpAny_storeName_local hy F'.ns (fun h₃ hn₃ hs₃ => ?_) hp)
    have F3 : Fm h₀ env (upd m y (.ref D)) cm h₃ := ⟨hn₃, fun n c e => cell_same hs₃ (ns_ne_cell F'.ns (F'.cell n c e)) (F'.cell n c e), F'.apart, ext_of_same F'.ext hs₃ F'.offL (ns_nt F'.ns) (ns_nf F'.ns), F'.offL, F'.big, F'.offC⟩
    have hnC : h₃.Ns C m' := hn.sameBut hs₃ hLC
    have sq4 : ∀ {h₄}, Heap.SameBut C h₃ h₄ → Sq h' h₄ := fun hs₄ => (sq_of_same hs₃ (ns_seq F'.ns)).trans (sq_of_same hs₄ (ns_seq hnC))
    refine ⟨m', hnC, fun h₄ hs₄ => q _ h₄ _ (fin D h₄ ys ?_ (hl.sq (sq4 hs₄)) (Pm _ _ _ (sq4 hs₄) hJ) ((e1.trans e2).fresh hD))⟩
    refine ⟨F3.ns.sameBut hs₄ (Ne.symm hLC), fun n c e => cell_same hs₄ (fun q => ?_) (F3.cell n c e), F3.apart, ext_of_same F3.ext hs₄ (F2.ext.fresh hC) (ns_nt hnC) (ns_nf hnC), F3.offL, F3.big, F3.offC⟩
    obtain ⟨o, ho, _⟩ := F2.cell n c e
    rw [q, show h₂.get? C = none from hC] at ho; cases ho
end
end Mine
end
section
open PySem PySem.W PyProof.Rows PySem.Calls
namespace Mine
section
variable [Nn]
def poly (xs : List Int) : List Int := xs.foldl (fun c r => tms r c) [1]
def shf (row : List Int) (k : Nat) : List Int := (List.replicate k 0 ++ row) ++ List.replicate (2 - k) 0
def shs (p q : List Int) : List (List Int) := [shf p 0, shf p 1, shf p 2, shf q 0, shf q 1, shf q 2]
def stq (rows : List (List Int)) : List (List Int) := rows.foldl laid [[], [], [], [], [], []]
def com (xs ys : List Int) : List Int := (uld xs (uld xs ys).1).1
def setsT : List (List Int) := [[], [0], [1], [0, 1], [2], [0, 2], [1, 2], [0, 1, 2]]
structure Facts (xs ys : List Int) : Prop where
  sx : smd xs setsT = poly xs
  sy : smd ys setsT = poly ys
  px : (com xs ys ++ (uld xs ys).1).Perm xs
  py : (com xs ys ++ (uld xs ys).2).Perm ys
  gaps : (List.range 6).filter (fun k => (stq (shs (poly xs) (poly ys))).getD k [] = []) = (List.range (com xs ys).length).map fun i => 6 - (com xs ys).length + i
  last : ((stq (shs (poly xs) (poly ys))).getD (5 - (com xs ys).length) []).drop (5 - (com xs ys).length) = (poly (com xs ys)).map fun c => (((stq (shs (poly xs) (poly ys))).getD (5 - (com xs ys).length) []).drop (5 - (com xs ys).length)).getD 0 0 * c
theorem tmsAux_len (r : Int) : ∀ (cs : List Int) (c : Int), (tmsAux r c cs).length = cs.length + 1
  | [], _ => rfl
  | d :: cs, c => by simp [tmsAux, tmsAux_len r cs d]
theorem poly_snoc (zs : List Int) (z : Int) : poly (zs ++ [z]) = tms z (poly zs) := by simp [poly, List.foldl_append]
theorem poly_len (zs : List Int) : (poly zs).length = zs.length + 1 := by
  suffices H : ∀ (zs c : List Int), c ≠ [] → (zs.foldl (fun c r => tms r c) c).length = zs.length + c.length from H zs [1] (by simp)
  intro zs
  induction zs with
  | nil => intro c _; simp
  | cons z r ih =>
    intro c hc
    cases c with
    | nil => exact absurd rfl hc
    | cons d ds => rw [List.foldl_cons, ih _ (by simp [tms])]; simp [tms, tmsAux_len]; omega
theorem poly_spec {w : World} {A : Around} {hb h : Heap} {ra one : Addr} {zs : List Int} (S : Sta w h) (hA : A.handled = none) (hdep : A.depth + 4 < recursionLimit) (xb : Ext hb h) (hr : Ints h ra zs) (h1 : Ints h one [1]) (o1 : hb.get? one = none)
    (lz : zs.length ≤ 100) (bz : ∀ z ∈ zs, -(2 ^ 62) < z ∧ z < 2 ^ 62) : W w A (call (.ref 38) [.ref 53, .ref ra, .ref one]) h fun v h' => Ext h h' ∧ ∃ a, v = .ref a ∧ Ints h' a (poly zs) ∧ hb.get? a = none := by
  obtain ⟨o53, e53, fd53, d53⟩ : ∃ o, h.get? 53 = some o ∧ ∃ fd, o.data = .func fd := ⟨_, S.part 53 _ (by k_is), _, rfl⟩
  obtain ⟨vs, hl, hi⟩ := hr
  obtain ⟨us, hl1, hi1⟩ := id h1
  have hvl := hi.length
  refine W.mono (reduce_spec S hA (by omega) e53 d53 hl (.list hl1) (fun i v g => ∃ a, v = .ref a ∧ Ints g a (poly (zs.take i)) ∧ hb.get? a = none) (fun i v g g' q ⟨a, e, x, y⟩ => ⟨a, e, q.ints x, y⟩) ⟨one, rfl, h1, o1⟩ ?_) ?_
  · rintro i x v g B hx ⟨a, rfl, ia, oa⟩ eg hB hBd hBu
    have hil : i < zs.length := by
      have := (Array.getElem?_eq_some_iff.mp hx).1
      rw [List.size_toArray, hvl] at this; exact this
    obtain ⟨tp, hp⟩ := IntsAre.item hi (i := i) (x := zs[i]) (List.getElem?_eq_getElem hil)
    rw [hp] at hx; cases hx
    obtain ⟨b1, b2⟩ := bz _ (List.getElem_mem hil)
    have pl := poly_len (zs.take i)
    rw [List.take_succ_eq_append_getElem hil, poly_snoc]
    generalize poly (zs.take i) = c at *
    cases c with
    | nil => simp at pl
    | cons c cs =>
      have : cs.length ≤ 1000 := by simp at pl; omega
      refine W.mono (times_spec (S.mono eg) hB (by rw [hBd]; omega) ia this b1 b2) ?_
      rintro _ g' ⟨e', a', rfl, i', f'⟩
      exact ⟨e', a', rfl, i', (xb.trans eg).fresh f'⟩
  · rintro v h' ⟨e', a, rfl, ia, oa⟩
    rw [List.size_toArray, hvl, List.take_length] at ia
    exact ⟨e', a, rfl, ia, oa⟩
theorem shf_take (row : List Int) : ∀ j : Nat, j < 3 → [shf row 0, shf row 1, shf row 2].take (j + 1) = [shf row 0, shf row 1, shf row 2].take j ++ [shf row j]
  | 0, _ => rfl
  | 1, _ => rfl
  | 2, _ => rfl
theorem shs_take {h : Heap} {us : List Value} {xs ys : List Int} (r : RowsAre h us [poly xs, poly ys]) (lx : xs.length = 3) (ly : ys.length = 3) : ∀ (i : Nat) (x : Value), i < 2 → us.toArray[i]? = some x →
    ∃ ra row, x = .ref ra ∧ Ints h ra row ∧ row.length = 4 ∧ (shs (poly xs) (poly ys)).take (3 * (i + 1)) = (shs (poly xs) (poly ys)).take (3 * i) ++ [shf row 0, shf row 1, shf row 2]
  | 0, x, _, hx => by
    obtain ⟨b, hb, hbi⟩ := r.get 0 _ rfl
    refine ⟨b, _, ?_, hbi, by rw [poly_len, lx], rfl⟩
    have : us.toArray[0]? = some (.ref b) := by simpa using hb
    rw [this] at hx; cases hx; rfl
  | 1, x, _, hx => by
    obtain ⟨b, hb, hbi⟩ := r.get 1 _ rfl
    refine ⟨b, _, ?_, hbi, by rw [poly_len, ly], rfl⟩
    have : us.toArray[1]? = some (.ref b) := by simpa using hb
    rw [this] at hx; cases hx; rfl
theorem ints_rep : ∀ (n : Nat) (t : Tok), IntsAre (List.replicate n (.int 0 t)) (List.replicate n 0)
  | 0, t => .nil
  | n + 1, t => by rw [List.replicate_succ, List.replicate_succ]; exact .cons _ _ (ints_rep n t)
theorem rep_arr {ta tb : Tok} {j : Nat} {rs : List Value} : ((List.replicate j (Value.int 0 ta)).toArray ++ rs.toArray) ++ (List.replicate (2 - j) (Value.int 0 tb)).toArray = ((List.replicate j (Value.int 0 ta) ++ rs) ++ List.replicate (2 - j) (Value.int 0 tb)).toArray := by
  apply Array.toList_inj.mp; simp only [Array.toList_append]
theorem two_rows {p q : Value} {fa sa : Addr} {h : Heap} {xs ys : List Int} {f : List Int → List Int} (hx : Ints h fa xs) (hy : Ints h sa ys) (lx : xs.length = 3) (ly : ys.length = 3) (bx : ∀ x ∈ xs, -(2 ^ 62) < x ∧ x < 2 ^ 62) (by' : ∀ x ∈ ys, -(2 ^ 62) < x ∧ x < 2 ^ 62) :
    ∀ (i : Nat) (v : Value), i < 2 → #[Value.ref fa, Value.ref sa][i]? = some v → ∃ ra ws, v = .ref ra ∧ Ints h ra ws ∧ ws.length = 3 ∧ (∀ x ∈ ws, -(2 ^ 62) < x ∧ x < 2 ^ 62) ∧ [f xs, f ys].take (i + 1) = [f xs, f ys].take i ++ [f ws]
  | 0, v, _, hv => by cases hv; exact ⟨fa, xs, rfl, hx, lx, bx, rfl⟩
  | 1, v, _, hv => by cases hv; exact ⟨sa, ys, rfl, hy, ly, by', rfl⟩
theorem tmsAux_bd {r : Int} {b : Nat} (hr : r.natAbs < 2 ^ 62) : ∀ (cs : List Int) (c : Int), c.natAbs < 2 ^ b → Bd b cs → Bd (b + 63) (tmsAux r c cs) := by
  have two : ∀ b : Nat, 2 ^ (b + 63) = 2 * 2 ^ (b + 62) := fun b => by rw [show b + 63 = (b + 62) + 1 by omega, Nat.pow_succ]; omega
  have mul : ∀ {c : Int} {b : Nat}, c.natAbs < 2 ^ b → (r * c).natAbs < 2 ^ (b + 62) := fun {c b} h => by
    rw [Int.natAbs_mul, Nat.pow_add, Nat.mul_comm]; exact Nat.mul_lt_mul'' h hr
  intro cs
  induction cs with
  | nil =>
    intro c hc _ x hx
    rw [show tmsAux r c [] = [-r * c] from rfl, List.mem_singleton] at hx
    subst hx
    have := mul hc
    rw [Int.neg_mul, Int.natAbs_neg, two]; omega
  | cons d ds ih =>
    intro c hc hb x hx
    rw [tmsAux] at hx
    rcases List.mem_cons.mp hx with rfl | hx
    · have h1 := mul hc
      have h2 : d.natAbs < 2 ^ (b + 62) := Nat.lt_of_lt_of_le (hb d (.head _)) (Nat.pow_le_pow_right (by omega) (by omega))
      rw [two]
      generalize r * c = u at *
      omega
    · exact ih d (hb d (.head _)) (fun y hy => hb y (.tail _ hy)) x hx
theorem tms_bd {r : Int} {b : Nat} {row : List Int} (hr : r.natAbs < 2 ^ 62) (hb : Bd b row) : Bd (b + 63) (tms r row) := by
  cases row with
  | nil => intro x hx; cases hx
  | cons c cs =>
    intro x hx
    rcases List.mem_cons.mp hx with rfl | hx
    · exact Nat.lt_of_lt_of_le (hb x (.head _)) (Nat.pow_le_pow_right (by omega) (by omega))
    · exact tmsAux_bd hr cs c (hb c (.head _)) (fun y hy => hb y (.tail _ hy)) x hx
theorem poly_bd (zs : List Int) (hz : ∀ z ∈ zs, -(2 ^ 62) < z ∧ z < 2 ^ 62) : Bd (1 + 63 * zs.length) (poly zs) := by
  suffices H : ∀ (zs c : List Int) (b : Nat), (∀ z ∈ zs, -(2 ^ 62) < z ∧ z < 2 ^ 62) → Bd b c → Bd (b + 63 * zs.length) (zs.foldl (fun c r => tms r c) c) from H zs [1] 1 hz (by intro x hx; rw [List.mem_singleton.mp hx]; decide)
  intro zs
  induction zs with
  | nil => intro c b _ h; simpa using h
  | cons z r ih =>
    intro c b hz h
    have hz1 := hz z (.head _)
    rw [List.foldl_cons]
    have := ih (tms z c) (b + 63) (fun y hy => hz y (.tail _ hy)) (tms_bd (by omega) h)
    exact this.mono (by simp only [List.length_cons]; omega)
theorem shf_bd {b : Nat} {row : List Int} (h : Bd b row) (k : Nat) : Bd b (shf row k) := by
  intro x hx
  unfold shf at hx
  simp only [List.mem_append, List.mem_replicate] at hx
  rcases hx with (⟨_, rfl⟩ | hx) | ⟨_, rfl⟩
  · exact Nat.two_pow_pos b
  · exact h x hx
  · exact Nat.two_pow_pos b
theorem shf_len {row : List Int} {k : Nat} (h : row.length = 4) (hk : k ≤ 2) : (shf row k).length = 6 := by unfold shf; simp; omega
def Ok (σ : Nat) (st : List (List Int)) : Prop := st.length = 6 ∧ ∀ s ∈ st, (s = [] ∨ s.length = 6) ∧ Bd σ s
theorem laidGo_ok {σ B : Nat} {st : List (List Int)} (o : Ok σ st) (hσ : σ ≤ B) : ∀ (n k b : Nat) (row : List Int), n + k = 6 → row.length = 6 → Bd b row → b + n * (σ + 1) ≤ B → Ok B (laidGo n k st row)
  | 0, k, b, row, _, _, _, _ => ⟨o.1, fun s hs => ⟨(o.2 s hs).1, (o.2 s hs).2.mono hσ⟩⟩
  | n + 1, k, b, row, hk, hl, hb, hB => by
    rw [Nat.succ_mul] at hB
    rw [laidGo]
    split
    · split
      · refine ⟨by simp [o.1]; omega, fun s hs => ?_⟩
        simp only [List.mem_append, List.mem_singleton] at hs
        rcases hs with (hs | rfl) | hs
        · have := o.2 s (List.mem_of_mem_take hs); exact ⟨this.1, this.2.mono hσ⟩
        · exact ⟨.inr hl, hb.mono (by omega)⟩
        · have := o.2 s (List.mem_of_mem_drop hs); exact ⟨this.1, this.2.mono hσ⟩
      · rename_i hne
        have hm : st.getD k [] ∈ st := by rw [List.getD_eq_getElem?_getD, List.getElem?_eq_getElem (by rw [o.1]; omega)]; exact List.getElem_mem _
        exact laidGo_ok o hσ n (k + 1) (b + (σ + 1)) _ (by omega) (by simp [red]) (red_bd (o.2 _ hm).2 hb) (by omega)
    · exact laidGo_ok o hσ n (k + 1) b row (by omega) hl hb (by omega)
def sg : Nat → Nat
  | 0 => 0
  | i + 1 => 190 + 6 * (sg i + 1)
theorem laid_ok {i : Nat} {st : List (List Int)} {row : List Int} (o : Ok (sg i) st) (hl : row.length = 6) (hb : Bd 190 row) : Ok (sg (i + 1)) (laid st row) :=
  laidGo_ok o (by rw [sg]; omega) 6 0 190 row rfl hl hb (by rw [sg]; omega)
theorem sg_le : ∀ i : Nat, i < 6 → 190 + 8 * (sg i + 1) ≤ 100000000
  | 0, _ => by decide
  | 1, _ => by decide
  | 2, _ => by decide
  | 3, _ => by decide
  | 4, _ => by decide
  | 5, _ => by decide
theorem shs_ok {p q : List Int} (lp : p.length = 4) (lq : q.length = 4) (bp : Bd 190 p) (bq : Bd 190 q) : ∀ s ∈ shs p q, s.length = 6 ∧ Bd 190 s := by
  intro s hs
  simp only [shs, List.mem_cons, List.not_mem_nil, or_false] at hs
  rcases hs with rfl | rfl | rfl | rfl | rfl | rfl
  · exact ⟨shf_len lp (by omega), shf_bd bp _⟩
  · exact ⟨shf_len lp (by omega), shf_bd bp _⟩
  · exact ⟨shf_len lp (by omega), shf_bd bp _⟩
  · exact ⟨shf_len lq (by omega), shf_bd bq _⟩
  · exact ⟨shf_len lq (by omega), shf_bd bq _⟩
  · exact ⟨shf_len lq (by omega), shf_bd bq _⟩
theorem ok0 : Ok 0 [[], [], [], [], [], []] := ⟨rfl, fun s hs => by
  simp only [List.mem_cons, List.not_mem_nil, or_false, or_self] at hs
  subst hs
  exact ⟨.inl rfl, fun x hx => by cases hx⟩⟩
theorem stairs_spec {w : World} {A : Around} {h : Heap} {ra one : Addr} {rows : List (List Int)} (S : Sta w h) (hA : A.handled = none) (hdep : A.depth + 4 < recursionLimit) (hu : A.units + 200 < cLine) (hr : Rows h ra rows) (h1 : Rows h one [[], [], [], [], [], []])
    (lz : rows.length = 6) (ok : ∀ s ∈ rows, s.length = 6 ∧ Bd 190 s) : W w A (call (.ref 38) [.ref 65, .ref ra, .ref one]) h fun v h' => Ext h h' ∧ ∃ a, v = .ref a ∧ Rows h' a (stq rows) ∧ Ok (sg 6) (stq rows) := by
  obtain ⟨o65, e65, fd65, d65⟩ : ∃ o, h.get? 65 = some o ∧ ∃ fd, o.data = .func fd := ⟨_, S.part 65 _ (by k_is), _, rfl⟩
  obtain ⟨vs, hl, hi⟩ := hr
  obtain ⟨us, hl1, hi1⟩ := id h1
  have hvl := hi.length
  refine W.mono (reduce_spec S hA (by omega) e65 d65 hl (.list hl1) (fun i v g => ∃ a, v = .ref a ∧ Rows g a (stq (rows.take i)) ∧ Ok (sg i) (stq (rows.take i))) (fun i v g g' q ⟨a, e, x, y⟩ => ⟨a, e, q.rows x, y⟩) ⟨one, rfl, h1, ok0⟩ ?_) ?_
  · rintro i x v g B hx ⟨a, rfl, ia, oa⟩ eg hB hBd hBu
    have hil : i < rows.length := by
      have := (Array.getElem?_eq_some_iff.mp hx).1
      rw [List.size_toArray, hvl] at this; exact this
    obtain ⟨b, hb, hbi⟩ := hi.get i rows[i] (List.getElem?_eq_getElem hil)
    rw [List.getElem?_toArray, hb] at hx; cases hx
    obtain ⟨l6, b6⟩ := ok _ (List.getElem_mem hil)
    have e : stq (rows.take (i + 1)) = laid (stq (rows.take i)) rows[i] := by unfold stq; rw [List.take_succ_eq_append_getElem hil, List.foldl_append]; rfl
    rw [e]
    refine W.mono (laid_spec (σ := sg i) (β := 190) (S.mono eg) hB (by rw [hBd]; omega) (by rw [hBu]; omega) ia (eg.sq.ints hbi) oa.1 l6 (fun s hs => (oa.2 s hs).1) (fun s hs => (oa.2 s hs).2) b6 (sg_le i (by omega))) ?_
    rintro _ g' ⟨e', a', rfl, i'⟩
    exact ⟨e', a', rfl, i', laid_ok oa l6 b6⟩
  · rintro v h' ⟨e', a, rfl, ia, oa⟩
    rw [List.size_toArray, hvl, List.take_length] at ia oa
    rw [lz] at oa
    exact ⟨e', a, rfl, ia, oa⟩
theorem range_filter_succ (p : Nat → Prop) [DecidablePred p] (i : Nat) : (List.range (i + 1)).filter (fun k => p k) = (List.range i).filter (fun k => p k) ++ if p i then [i] else [] := by
  rw [List.range_succ, List.filter_append]
  by_cases h : p i <;> simp [h]
/-! ## the plain law: sequences and the operators t(i + 1) - a t(i) -/
def op (a : Int) (t : Nat → Int) : Nat → Int := fun i => t (i + 1) - a * t i
def ops : List Int → (Nat → Int) → Nat → Int
  | [], t => t
  | a :: A, t => op a (ops A t)
theorem op_comm (a b : Int) (t : Nat → Int) : op a (op b t) = op b (op a t) := by
  funext i; simp only [op]; grind
theorem ops_op (a : Int) : ∀ (A : List Int) (t : Nat → Int), ops A (op a t) = op a (ops A t)
  | [], _ => rfl
  | b :: A, t => by simp only [ops]; rw [ops_op a A t, op_comm]
theorem ops_append : ∀ (A B : List Int) (t : Nat → Int), ops (A ++ B) t = ops A (ops B t)
  | [], _, _ => rfl
  | a :: A, B, t => by show op a (ops (A ++ B) t) = op a (ops A (ops B t)); rw [ops_append A B t]
theorem ops_comm : ∀ (A B : List Int) (t : Nat → Int), ops A (ops B t) = ops B (ops A t)
  | [], _, _ => rfl
  | a :: A, B, t => by show op a (ops A (ops B t)) = ops B (op a (ops A t)); rw [ops_op, ops_comm A B t]
theorem ops_perm {A B : List Int} (p : A.Perm B) : ∀ t : Nat → Int, ops A t = ops B t := by
  induction p with
  | nil => intro t; rfl
  | cons a _ ih => intro t; simp only [ops]; rw [ih]
  | swap a b l => intro t; simp only [ops]; rw [op_comm]
  | trans _ _ i j => intro t; rw [i, j]
/-- what it says of i, it has from t(i .. i + |A|) -/
theorem ops_congr : ∀ (A : List Int) (t u : Nat → Int) (i : Nat), (∀ j, i ≤ j → j ≤ i + A.length → t j = u j) → ops A t i = ops A u i
  | [], t, u, i, h => h i (Nat.le_refl _) (Nat.le_refl _)
  | a :: A, t, u, i, h => by
    simp only [List.length_cons] at h
    simp only [ops, op]
    rw [ops_congr A t u (i + 1) fun j p q => h j (by omega) (by omega), ops_congr A t u i fun j p q => h j (by omega) (by omega)]
theorem ops_zero : ∀ (A : List Int) (i : Nat), ops A (fun _ => 0) i = 0
  | [], _ => rfl
  | a :: A, i => by simp [ops, op, ops_zero A]
theorem ops_nought {A : List Int} {t : Nat → Int} {i : Nat} (h : ∀ j, i ≤ j → j ≤ i + A.length → t j = 0) : ops A t i = 0 := by
  rw [ops_congr A t (fun _ => 0) i h, ops_zero]
theorem ops_shift : ∀ (A : List Int) (t : Nat → Int) (m i : Nat), ops A (fun j => t (j + m)) i = ops A t (i + m)
  | [], _, _, _ => rfl
  | a :: A, t, m, i => by
    simp only [ops, op]
    rw [ops_shift A t m (i + 1), ops_shift A t m i, show i + 1 + m = i + m + 1 by omega]
/-- a beginning of noughts, and the rule: all noughts -/
theorem ops_forward : ∀ (A : List Int) (t : Nat → Int) (L : Nat), (∀ i, i < L → ops A t i = 0) → (∀ i, i < A.length → t i = 0) → ∀ i, i < L + A.length → t i = 0
  | [], t, L, h, _, i, hi => h i hi
  | a :: A, t, L, h, h0, i, hi => by
    simp only [List.length_cons] at h0 hi
    have z : ∀ j, j < L + 1 → ops A t j = 0 := by
      intro j
      induction j with
      | zero => intro _; exact ops_nought fun j _ q => h0 j (by omega)
      | succ j ih =>
        intro hj
        have := h j (by omega)
        simp only [ops, op] at this
        rw [ih (by omega)] at this
        omega
    exact ops_forward A t (L + 1) z (fun j q => h0 j (by omega)) i (by omega)
/-- times (a - b) for each b -/
def gpr (a : Int) : List Int → Int
  | [] => 1
  | b :: B => (a - b) * gpr a B
theorem gpr_ne {a : Int} : ∀ {B : List Int}, a ∉ B → gpr a B ≠ 0
  | [], _ => by simp [gpr]
  | b :: B, h => by
    simp only [List.mem_cons, not_or] at h
    simp only [gpr]
    exact Int.mul_ne_zero (by omega) (gpr_ne h.2)
theorem ops_geo (a : Int) : ∀ (B : List Int) (w : Nat → Int) (L i : Nat), (∀ j, j < L → w (j + 1) = a * w j) → i + B.length ≤ L → ops B w i = gpr a B * w i
  | [], w, L, i, _, _ => by simp [ops, gpr]
  | b :: B, w, L, i, h, hi => by
    simp only [List.length_cons] at hi
    simp only [ops, op, gpr]
    rw [ops_geo a B w L (i + 1) h (by omega), ops_geo a B w L i h (by omega), h i (by omega)]
    grind
theorem peel (B : List Int) : ∀ (A : List Int) (u : Nat → Int) (L M : Nat), (∀ a ∈ A, a ∉ B) → B.length ≤ L → A.length ≤ M → (∀ i, i < L → ops A u i = 0) → (∀ i, i < M → ops B u i = 0) → ∀ i, i < L + A.length → u i = 0
  | [], u, L, M, _, _, _, h, _, i, hi => h i hi
  | a :: A, u, L, M, hd, hB, hM, h, hb, i, hi => by
    simp only [List.length_cons] at hM hi
    have geo : ∀ j, j < L → ops A u (j + 1) = a * ops A u j := by
      intro j hj
      have := h j hj
      simp only [ops, op] at this
      omega
    have z0 : ops A u 0 = 0 := by
      have e := ops_geo a B (ops A u) L 0 geo (by omega)
      rw [← ops_comm, ops_nought fun j _ q => hb j (by omega)] at e
      rcases Int.mul_eq_zero.mp e.symm with e | e
      · exact absurd e (gpr_ne (hd a (by simp)))
      · exact e
    have z : ∀ j, j < L + 1 → ops A u j = 0 := by
      intro j
      induction j with
      | zero => intro _; exact z0
      | succ j ih => intro hj; rw [geo j (by omega), ih (by omega)]; simp
    exact peel B A u (L + 1) M (fun a q => hd a (by simp [q])) (by omega) (by omega) z hb i (by omega)
/-- a sequence that keeps the rule and begins at m -/
def stp (a c : Int) (w : Nat → Int) : Nat → Int
  | 0 => c
  | i + 1 => a * stp a c w i + w i
theorem op_stp (a c : Int) (w : Nat → Int) : op a (stp a c w) = w := by
  funext i; simp only [op, stp]; omega
theorem fund : ∀ (A : List Int) (m : Nat), m < A.length → ∃ t : Nat → Int, (∀ i, ops A t i = 0) ∧ (∀ i, i < m → t i = 0) ∧ t m = 1
  | [], m, h => by simp at h
  | a :: A, 0, _ => ⟨stp a 1 fun _ => 0, fun i => by simp only [ops]; rw [← ops_op, op_stp, ops_zero], fun i h => by omega, rfl⟩
  | a :: A, m + 1, h => by
    obtain ⟨t, h1, h2, h3⟩ := fund A m (by simpa using h)
    have z : ∀ i, i ≤ m → stp a 0 t i = 0 := by
      intro i
      induction i with
      | zero => intro _; rfl
      | succ i ih => intro hi; simp only [stp]; rw [ih (by omega), h2 i (by omega)]; simp
    refine ⟨stp a 0 t, fun i => by simp only [ops]; rw [← ops_op, op_stp, h1], fun i hi => z i (by omega), ?_⟩
    simp only [stp]
    rw [z m (Nat.le_refl _), h3]; simp
/-! ## a row against a sequence -/
def pr : List Int → (Nat → Int) → Int
  | [], _ => 0
  | c :: cs, t => c * t cs.length + pr cs t
theorem pr_congr : ∀ (c : List Int) (t u : Nat → Int), (∀ i, i < c.length → t i = u i) → pr c t = pr c u
  | [], _, _, _ => rfl
  | c :: cs, t, u, h => by
    simp only [List.length_cons] at h
    simp only [pr]
    rw [h _ (by omega), pr_congr cs t u fun i q => h i (by omega)]
theorem pr_zero : ∀ c : List Int, pr c (fun _ => 0) = 0
  | [] => rfl
  | c :: cs => by simp [pr, pr_zero cs]
theorem pr_nought {c : List Int} {t : Nat → Int} (h : ∀ i, i < c.length → t i = 0) : pr c t = 0 := by
  rw [pr_congr c t (fun _ => 0) h, pr_zero]
theorem pr_smul (d : Int) : ∀ (c : List Int) (t : Nat → Int), pr c (fun i => d * t i) = d * pr c t
  | [], _ => by simp [pr]
  | c :: cs, t => by simp only [pr]; rw [pr_smul d cs t]; grind
theorem pr_front (c : List Int) (t : Nat → Int) : ∀ k, pr (List.replicate k 0 ++ c) t = pr c t
  | 0 => rfl
  | k + 1 => by rw [List.replicate_succ, List.cons_append]; simp only [pr]; rw [pr_front c t k]; simp
theorem pr_back (m : Nat) : ∀ (c : List Int) (t : Nat → Int), pr (c ++ List.replicate m 0) t = pr c fun i => t (i + m)
  | [], t => by
    have := pr_front [] t m
    simpa [pr] using this
  | c :: cs, t => by
    rw [List.cons_append]; simp only [pr]; rw [pr_back m cs t]; simp
theorem pr_tmsAux (r : Int) (t : Nat → Int) : ∀ (cs : List Int) (p : Int), pr (tmsAux r p cs) t = pr cs (op r t) - r * p * t cs.length
  | [], p => by simp [tmsAux, pr]; grind
  | c :: cs, p => by
    simp only [tmsAux, pr]
    rw [pr_tmsAux r t cs c, tmsAux_len]
    simp only [List.length_cons, op]
    grind
theorem pr_tms (r : Int) (t : Nat → Int) : ∀ c : List Int, pr (tms r c) t = pr c (op r t)
  | [] => rfl
  | c :: cs => by
    simp only [tms, pr]
    rw [pr_tmsAux, tmsAux_len]
    simp only [op]
    grind
theorem pr_fold (t : Nat → Int) : ∀ (zs c : List Int), pr (zs.foldl (fun c r => tms r c) c) t = pr c (ops zs t)
  | [], _ => rfl
  | z :: zs, c => by rw [List.foldl_cons, pr_fold t zs, pr_tms]; rfl
theorem pr_poly (zs : List Int) (t : Nat → Int) : pr (poly zs) t = ops zs t 0 := by
  rw [poly, pr_fold]; simp [pr]
theorem pr_shf (zs : List Int) (k : Nat) (t : Nat → Int) : pr (shf (poly zs) k) t = ops zs t (2 - k) := by
  rw [shf, pr_back, pr_front, pr_poly, ops_shift, Nat.zero_add]
theorem six {c : List Int} (h : c.length = 6) : ∃ c0 c1 c2 c3 c4 c5, c = [c0, c1, c2, c3, c4, c5] := by
  match c, h with
  | [a, b, c, d, e, f], _ => exact ⟨a, b, c, d, e, f, rfl⟩
theorem pr_six {c : List Int} (h : c.length = 6) (t : Nat → Int) : pr c t = c.getD 0 0 * t 5 + c.getD 1 0 * t 4 + c.getD 2 0 * t 3 + c.getD 3 0 * t 2 + c.getD 4 0 * t 1 + c.getD 5 0 * t 0 := by
  obtain ⟨a, b, d, e, f, g, rfl⟩ := six h
  simp [pr]; grind
theorem red_len (s row : List Int) (k : Nat) : (red s row k).length = 6 := by simp [red]
theorem red_get (s row : List Int) (k i : Nat) (h : i < 6) : (red s row k).getD i 0 = s.getD k 0 * row.getD i 0 - row.getD k 0 * s.getD i 0 := by
  rw [red, List.getD_eq_getElem?_getD, List.getElem?_map, List.getElem?_range h]; rfl
theorem pr_red {s row : List Int} (k : Nat) (hs : s.length = 6) (hr : row.length = 6) (t : Nat → Int) : pr (red s row k) t = s.getD k 0 * pr row t - row.getD k 0 * pr s t := by
  rw [pr_six (red_len _ _ _), pr_six hs, pr_six hr]
  simp only [red_get _ _ _ 0 (by decide), red_get _ _ _ 1 (by decide), red_get _ _ _ 2 (by decide), red_get _ _ _ 3 (by decide), red_get _ _ _ 4 (by decide), red_get _ _ _ 5 (by decide)]
  grind
/-- noughts ahead of place j -/
def Zb (j : Nat) (s : List Int) : Prop := ∀ i, i < j → s.getD i 0 = 0
theorem pr_drop : ∀ (j : Nat) (s : List Int) (t : Nat → Int), Zb j s → pr s t = pr (s.drop j) t
  | 0, _, _, _ => rfl
  | j + 1, [], _, _ => rfl
  | j + 1, c :: s, t, h => by
    have h0 : c = 0 := h 0 (by omega)
    rw [List.drop_succ_cons, ← pr_drop j s t fun i q => h (i + 1) (by omega)]
    simp [pr, h0]
theorem pr_lead {j : Nat} {s : List Int} (hs : s.length = 6) (hj : j < 6) (t : Nat → Int) (h : Zb j s) : pr s t = s.getD j 0 * t (5 - j) + pr (s.drop (j + 1)) t := by
  rw [pr_drop j s t h, List.drop_eq_getElem_cons (by omega)]
  simp only [pr]
  rw [List.getD_eq_getElem?_getD, List.getElem?_eq_getElem (by omega), List.length_drop, show s.length - (j + 1) = 5 - j by omega]
  rfl
theorem pr_Zb {s : List Int} (hs : s.length = 6) (t : Nat → Int) (h : Zb 6 s) : pr s t = 0 := by
  rw [pr_drop 6 s t h, List.drop_of_length_le (by omega)]; rfl
/-! ## the stairs -/
/-- a stair at place k -/
def Sk (P : List Int → Prop) (k : Nat) (s : List Int) : Prop := s = [] ∨ (s.length = 6 ∧ Zb k s ∧ s.getD k 0 ≠ 0 ∧ P s)
def Stairs (P : List Int → Prop) (st : List (List Int)) : Prop := st.length = 6 ∧ ∀ k, k < 6 → Sk P k (st.getD k [])
/-- all the stairs are nought against t -/
def Nul (t : Nat → Int) (st : List (List Int)) : Prop := ∀ k, k < 6 → pr (st.getD k []) t = 0
/-- P holds of a lessened row -/
def Cl (P : List Int → Prop) : Prop := ∀ s row k, s.length = 6 → row.length = 6 → P s → P row → P (red s row k)
theorem put_get {st : List (List Int)} {row : List Int} {k j : Nat} (hk : k < st.length) : (st.take k ++ [row] ++ st.drop (k + 1)).getD j [] = if j = k then row else st.getD j [] := by
  have e : st.take k ++ [row] ++ st.drop (k + 1) = st.set k row := by
    rw [List.set_eq_take_append_cons_drop, if_pos hk, List.append_assoc]; rfl
  rw [e, List.getD_eq_getElem?_getD, List.getElem?_set, List.getD_eq_getElem?_getD]
  by_cases h : k = j
  · subst h; simp [hk]
  · rw [if_neg h, if_neg (fun q => h q.symm)]
theorem laidGo_law {P : List Int → Prop} (cl : Cl P) : ∀ (n k : Nat) (st : List (List Int)) (row : List Int), n + k = 6 → Stairs P st → row.length = 6 → Zb k row → P row →
    Stairs P (laidGo n k st row) ∧ ∀ t, Nul t (laidGo n k st row) → Nul t st ∧ pr row t = 0
  | 0, k, st, row, hk, S, hl, hz, hp => ⟨S, fun t N => ⟨N, pr_Zb hl t (by rwa [show k = 6 by omega] at hz)⟩⟩
  | n + 1, k, st, row, hk, S, hl, hz, hp => by
    have hk6 : k < 6 := by omega
    rw [laidGo]
    by_cases h0 : row.getD k 0 ≠ 0
    · rw [if_pos h0]
      by_cases he : st.getD k [] = []
      · rw [if_pos he]
        constructor
        · refine ⟨by simp [S.1]; omega, fun j hj => ?_⟩
          rw [put_get (by rw [S.1]; exact hk6)]
          by_cases hjk : j = k
          · rw [if_pos hjk, hjk]; exact .inr ⟨hl, hz, h0, hp⟩
          · rw [if_neg hjk]; exact S.2 j hj
        · intro t N
          constructor
          · intro j hj
            by_cases hjk : j = k
            · rw [hjk, he]; rfl
            · have := N j hj
              rw [put_get (by rw [S.1]; exact hk6), if_neg hjk] at this
              exact this
          · have := N k hk6
            rw [put_get (by rw [S.1]; exact hk6), if_pos rfl] at this
            exact this
      · rw [if_neg he]
        rcases S.2 k hk6 with q | ⟨sl, sz, s0, sp⟩
        · exact absurd q he
        have rz : Zb (k + 1) (red (st.getD k []) row k) := by
          intro i hi
          rw [red_get _ _ _ _ (by omega)]
          by_cases hik : i = k
          · rw [hik, Int.mul_comm]; omega
          · rw [hz i (by omega), sz i (by omega)]; simp
        obtain ⟨S', N'⟩ := laidGo_law cl n (k + 1) st _ (by omega) S (red_len _ row k) rz (cl _ _ k sl hl sp hp)
        refine ⟨S', fun t N => ?_⟩
        obtain ⟨n1, n2⟩ := N' t N
        refine ⟨n1, ?_⟩
        rw [pr_red k sl hl, n1 k hk6] at n2
        simp only [Int.mul_zero, Int.sub_zero] at n2
        rcases Int.mul_eq_zero.mp n2 with e | e
        · exact absurd e s0
        · exact e
    · rw [if_neg h0]
      have rz : Zb (k + 1) row := by
        intro i hi
        by_cases hik : i = k
        · rw [hik]; exact Classical.not_not.mp h0
        · exact hz i (by omega)
      exact laidGo_law cl n (k + 1) st row (by omega) S hl rz hp
theorem laid_law {P : List Int → Prop} (cl : Cl P) {st : List (List Int)} {row : List Int} (S : Stairs P st) (hl : row.length = 6) (hp : P row) : Stairs P (laid st row) ∧ ∀ t, Nul t (laid st row) → Nul t st ∧ pr row t = 0 :=
  laidGo_law cl 6 0 st row rfl S hl (fun i h => by omega) hp
theorem fold_law {P : List Int → Prop} (cl : Cl P) : ∀ (rows : List (List Int)) (st : List (List Int)), Stairs P st → (∀ r ∈ rows, r.length = 6 ∧ P r) → Stairs P (rows.foldl laid st) ∧ ∀ t, Nul t (rows.foldl laid st) → Nul t st ∧ ∀ r ∈ rows, pr r t = 0
  | [], st, S, _ => ⟨S, fun t N => ⟨N, by simp⟩⟩
  | r :: rows, st, S, h => by
    obtain ⟨h1, h2⟩ := h r (by simp)
    obtain ⟨S1, N1⟩ := laid_law cl S h1 h2
    obtain ⟨S2, N2⟩ := fold_law cl rows _ S1 fun r q => h r (by simp [q])
    refine ⟨S2, fun t N => ?_⟩
    obtain ⟨a, b⟩ := N2 t N
    obtain ⟨c, d⟩ := N1 t a
    refine ⟨c, fun r q => ?_⟩
    rcases List.mem_cons.mp q with rfl | q
    · exact d
    · exact b r q
theorem stq_law {P : List Int → Prop} (cl : Cl P) {rows : List (List Int)} (h : ∀ r ∈ rows, r.length = 6 ∧ P r) : Stairs P (stq rows) ∧ ∀ t, Nul t (stq rows) → ∀ r ∈ rows, pr r t = 0 := by
  have S0 : Stairs P [[], [], [], [], [], []] := by
    refine ⟨rfl, fun k hk => .inl ?_⟩
    match k, hk with
    | 0, _ | 1, _ | 2, _ | 3, _ | 4, _ | 5, _ => rfl
  obtain ⟨S, N⟩ := fold_law cl rows _ S0 h
  exact ⟨S, fun t n => (N t n).2⟩
/-- where a stair is lacking, some sequence that begins there is nought against all the others -/
theorem solve {P : List Int → Prop} {st : List (List Int)} (S : Stairs P st) {k : Nat} (hk : k < 6) (he : st.getD k [] = []) :
    ∀ m j, m + j = k → ∃ t : Nat → Int, t (5 - k) ≠ 0 ∧ (∀ i, i < 5 - k → t i = 0) ∧ ∀ i, j ≤ i → i < 6 → pr (st.getD i []) t = 0
  | 0, j, h => by
    refine ⟨fun i => if i = 5 - k then 1 else 0, by simp, fun i hi => if_neg (by omega), fun i hj hi => ?_⟩
    rcases S.2 i hi with q | ⟨sl, sz, s0, _⟩
    · rw [q]; rfl
    · have : i ≠ k := fun q => by rw [q, he] at sl; simp at sl
      rw [pr_drop i _ _ sz]
      exact pr_nought fun z hz => if_neg (by rw [List.length_drop, sl] at hz; omega)
  | m + 1, j, h => by
    obtain ⟨t, t1, t2, t3⟩ := solve S hk he m (j + 1) (by omega)
    rcases S.2 j (by omega) with q | ⟨sl, sz, s0, _⟩
    · refine ⟨t, t1, t2, fun i hj hi => ?_⟩
      by_cases hij : i = j
      · rw [hij, q]; rfl
      · exact t3 i (by omega) hi
    · generalize hs : st.getD j [] = s at *
      refine ⟨fun i => if i = 5 - j then -pr (s.drop (j + 1)) t else s.getD j 0 * t i, ?_, ?_, fun i hj hi => ?_⟩
      · show (if _ then _ else _) ≠ _
        rw [if_neg (by omega)]; exact Int.mul_ne_zero s0 t1
      · intro i hi
        show (if _ then _ else _) = _
        rw [if_neg (by omega), t2 i hi]; simp
      · by_cases hij : i = j
        · rw [hij, hs, pr_lead sl (by omega) _ sz, if_pos rfl, pr_congr _ _ (fun i => s.getD j 0 * t i) fun z hz => if_neg (by rw [List.length_drop, sl] at hz; omega), pr_smul]
          grind
        · rcases S.2 i hi with q | ⟨rl, rz, r0, _⟩
          · rw [q]; rfl
          · rw [pr_drop i _ _ rz, pr_congr _ _ (fun i => s.getD j 0 * t i) fun z hz => if_neg (by rw [List.length_drop, rl] at hz; omega), pr_smul, ← pr_drop i _ _ rz, t3 i (by omega) hi]
            simp
/-! ## rows that the polynomial of h goes into -/
def Mul (h : List Int) (s : List Int) : Prop := ∀ t : Nat → Int, (∀ i, i < 6 - h.length → ops h t i = 0) → pr s t = 0
theorem mul_cl (h : List Int) : Cl (Mul h) := by
  intro s row k hs hr ps pr' t ht
  rw [pr_red k hs hr, ps t ht, pr' t ht]; simp
theorem mul_nought {h : List Int} {v : List Int} (hv : v.length = 6) (M : Mul h v) {k : Nat} (hk : 6 - h.length ≤ k) (hk6 : k < 6) (z : Zb k v) : v.getD k 0 = 0 := by
  obtain ⟨t, t1, t2, t3⟩ := fund h (5 - k) (by omega)
  have e := M t fun i _ => t1 i
  rw [pr_lead hv hk6 t z, t3, pr_nought fun i hi => t2 i (by rw [List.length_drop, hv] at hi; omega)] at e
  omega
theorem mul_none {h : List Int} {v : List Int} (hv : v.length = 6) (M : Mul h v) (z : Zb (6 - h.length) v) : Zb 6 v := by
  have : ∀ k, k ≤ 6 → Zb k v := by
    intro k
    induction k with
    | zero => intro _ i hi; omega
    | succ k ih =>
      intro hk i hi
      by_cases hik : i = k
      · rw [hik]
        by_cases hh : k < 6 - h.length
        · exact z k hh
        · exact mul_nought hv M (by omega) (by omega) (ih (by omega))
      · exact ih (by omega) i (by omega)
  exact this 6 (Nat.le_refl _)
/-! ## the roots in common -/
theorem uldGo_count (z : Int) : ∀ (xs ys ms : List Int), (uldGo xs ys ms).1.count z = ms.count z + (xs.count z - ys.count z) ∧ (uldGo xs ys ms).2.count z = ys.count z - xs.count z
  | [], ys, ms => by simp [uldGo]
  | x :: r, ys, ms => by
    rw [uldGo]
    by_cases h : x ∈ ys
    · rw [if_pos h]
      obtain ⟨a, b⟩ := uldGo_count z r (ys.erase x) ms
      rw [a, b, List.count_erase, List.count_cons]
      by_cases q : x = z
      · subst q
        have := List.count_pos_iff.mpr h
        simp; omega
      · simp [q]
    · rw [if_neg h]
      obtain ⟨a, b⟩ := uldGo_count z r ys (ms ++ [x])
      rw [a, b, List.count_append, List.count_cons, List.count_cons]
      by_cases q : x = z
      · subst q
        have := List.count_eq_zero.mpr h
        simp; omega
      · simp [q]
theorem uld_count (z : Int) (xs ys : List Int) : (uld xs ys).1.count z = xs.count z - ys.count z ∧ (uld xs ys).2.count z = ys.count z - xs.count z := by
  have := uldGo_count z xs.reverse ys []
  rw [List.count_reverse] at this
  simpa [uld] using this
theorem com_count (z : Int) (xs ys : List Int) : (com xs ys).count z = xs.count z - (xs.count z - ys.count z) := by
  rw [com, (uld_count z _ _).1, (uld_count z _ _).1]
theorem com_px (xs ys : List Int) : (com xs ys ++ (uld xs ys).1).Perm xs := by
  rw [List.perm_iff_count]; intro z
  rw [List.count_append, com_count, (uld_count z _ _).1]; omega
theorem com_py (xs ys : List Int) : (com xs ys ++ (uld xs ys).2).Perm ys := by
  rw [List.perm_iff_count]; intro z
  rw [List.count_append, com_count, (uld_count z _ _).2]; omega
theorem uld_apart (xs ys : List Int) : ∀ a ∈ (uld xs ys).1, a ∉ (uld xs ys).2 := by
  intro a h q
  have h := List.count_pos_iff.mpr h
  have q := List.count_pos_iff.mpr q
  rw [(uld_count a _ _).1] at h
  rw [(uld_count a _ _).2] at q
  omega
/-! ## the coefficients both ways -/
theorem smd_poly {xs : List Int} (h : xs.length = 3) : smd xs setsT = poly xs := by
  match xs, h with
  | [a, b, c], _ =>
    simp [smd, setsT, smd1, pn, poly, tms, tmsAux]
    grind
/-! ## the law -/
theorem shf_six {zs : List Int} (h : zs.length = 3) {k : Nat} (hk : k ≤ 2) : (shf (poly zs) k).length = 6 := by
  simp [shf, poly_len, h]; omega
theorem mul_shf {c l zs : List Int} (p : (c ++ l).Perm zs) (h : zs.length = 3) {k : Nat} (hk : k ≤ 2) : Mul c (shf (poly zs) k) := by
  intro t ht
  have pl := p.length_eq
  rw [List.length_append, h] at pl
  rw [pr_shf, ← ops_perm p, ops_append, ops_comm]
  exact ops_nought fun j h1 h2 => ht j (by omega)
theorem mul_last (c : List Int) (h : c.length ≤ 3) : Mul c (List.replicate (5 - c.length) 0 ++ poly c) := by
  intro t ht
  rw [pr_front, pr_poly]
  exact ht 0 (by omega)
theorem sub_pr (d : Int) (s u : List Int) (t : Nat → Int) (hs : s.length = 6) (hu : u.length = 6) : pr ((List.range 6).map fun i => s.getD i 0 - d * u.getD i 0) t = pr s t - d * pr u t := by
  obtain ⟨a, b, c, e, f, g, rfl⟩ := six hs
  obtain ⟨a', b', c', e', f', g', rfl⟩ := six hu
  simp [pr, List.range_succ]; grind
theorem shs_mem {p q r : List Int} (h : r ∈ shs p q) : ∃ k, k ≤ 2 ∧ (r = shf p k ∨ r = shf q k) := by
  simp [shs] at h
  rcases h with h | h | h | h | h | h
  · exact ⟨0, by omega, .inl h⟩
  · exact ⟨1, by omega, .inl h⟩
  · exact ⟨2, by omega, .inl h⟩
  · exact ⟨0, by omega, .inr h⟩
  · exact ⟨1, by omega, .inr h⟩
  · exact ⟨2, by omega, .inr h⟩
theorem mem_shs {p q : List Int} {k : Nat} (h : k ≤ 2) : shf p k ∈ shs p q ∧ shf q k ∈ shs p q := by
  match k, h with
  | 0, _ | 1, _ | 2, _ => simp [shs]
theorem stairs_law {xs ys c l b : List Int} (hx : xs.length = 3) (hy : ys.length = 3) (px : (c ++ l).Perm xs) (py : (c ++ b).Perm ys) (ap : ∀ a ∈ l, a ∉ b) :
    Stairs (Mul c) (stq (shs (poly xs) (poly ys))) ∧ ∀ k, k < 6 → ((stq (shs (poly xs) (poly ys))).getD k [] = [] ↔ 6 - c.length ≤ k) := by
  have lx := px.length_eq
  have ly := py.length_eq
  rw [List.length_append, hx] at lx
  rw [List.length_append, hy] at ly
  obtain ⟨S, N⟩ := stq_law (mul_cl c) (rows := shs (poly xs) (poly ys)) (by
    intro r hr
    obtain ⟨k, hk, rfl | rfl⟩ := shs_mem hr
    · exact ⟨shf_six hx hk, mul_shf px hx hk⟩
    · exact ⟨shf_six hy hk, mul_shf py hy hk⟩)
  refine ⟨S, fun k hk => ⟨fun he => ?_, fun hc => ?_⟩⟩
  · refine Nat.le_of_not_lt fun hlt => ?_
    obtain ⟨t, t1, t2, t3⟩ := solve S hk he k 0 rfl
    have nx : ∀ j, j < 3 → ops xs t j = 0 := fun j hj => by
      have := N t (fun i hi => t3 i (Nat.zero_le _) hi) _ (mem_shs (k := 2 - j) (by omega)).1
      rwa [pr_shf, show 2 - (2 - j) = j by omega] at this
    have ny : ∀ j, j < 3 → ops ys t j = 0 := fun j hj => by
      have := N t (fun i hi => t3 i (Nat.zero_le _) hi) _ (mem_shs (k := 2 - j) (by omega)).2
      rwa [pr_shf, show 2 - (2 - j) = j by omega] at this
    have u0 := peel b l (ops c t) 3 3 ap (by omega) (by omega) (fun i hi => by rw [ops_comm, ← ops_append, ops_perm px]; exact nx i hi) (fun i hi => by rw [ops_comm, ← ops_append, ops_perm py]; exact ny i hi)
    exact t1 (ops_forward c t (3 + l.length) u0 (fun i hi => t2 i (by omega)) (5 - k) (by omega))
  · rcases S.2 k hk with q | ⟨sl, sz, s0, sp⟩
    · exact q
    · exact absurd (mul_nought sl sp hc hk sz) s0
theorem last_law {xs ys c l b : List Int} (hx : xs.length = 3) (hy : ys.length = 3) (px : (c ++ l).Perm xs) (py : (c ++ b).Perm ys) (ap : ∀ a ∈ l, a ∉ b) :
    ((stq (shs (poly xs) (poly ys))).getD (5 - c.length) []).drop (5 - c.length) = (poly c).map fun d => (((stq (shs (poly xs) (poly ys))).getD (5 - c.length) []).drop (5 - c.length)).getD 0 0 * d := by
  have lx := px.length_eq
  rw [List.length_append, hx] at lx
  obtain ⟨S, G⟩ := stairs_law hx hy px py ap
  rcases S.2 (5 - c.length) (by omega) with q | ⟨sl, sz, s0, sp⟩
  · have := (G _ (by omega)).mp q; omega
  generalize (stq (shs (poly xs) (poly ys))).getD (5 - c.length) [] = s at *
  obtain ⟨u, hu⟩ : ∃ u, u = List.replicate (5 - c.length) 0 ++ poly c := ⟨_, rfl⟩
  have ul : u.length = 6 := by rw [hu]; simp [poly_len]; omega
  have uz : ∀ i, i < 5 - c.length → u.getD i 0 = 0 := fun i hi => by
    rw [hu, List.getD_eq_getElem?_getD, List.getElem?_append_left (by simpa using hi), List.getElem?_replicate, if_pos hi]; rfl
  have ud : u.drop (5 - c.length) = poly c := by rw [hu]; exact List.drop_left' (by simp)
  have p0 : ∀ zs : List Int, ∀ c : List Int, (zs.foldl (fun c r => tms r c) (1 :: c)).getD 0 0 = 1 := by
    intro zs
    induction zs with
    | nil => intro c; rfl
    | cons z r ih => intro c; rw [List.foldl_cons]; exact ih _
  have u1 : u.getD (5 - c.length) 0 = 1 := by
    have := p0 c []
    rw [show c.foldl (fun c r => tms r c) [1] = poly c from rfl, ← ud] at this
    simpa [List.getD_eq_getElem?_getD, List.getElem?_drop] using this
  have d0 : (s.drop (5 - c.length)).getD 0 0 = s.getD (5 - c.length) 0 := by simp [List.getD_eq_getElem?_getD, List.getElem?_drop]
  rw [d0, ← ud]
  obtain ⟨d, hd⟩ : ∃ d, d = s.getD (5 - c.length) 0 := ⟨_, rfl⟩
  rw [← hd]
  have vz := mul_none (h := c) (v := (List.range 6).map fun i => s.getD i 0 - d * u.getD i 0) (by simp) (fun t ht => by
    rw [sub_pr d s u t sl ul, sp t ht, hu, mul_last c (by omega) t ht]; simp) (fun i hi => by
    rw [List.getD_eq_getElem?_getD, List.getElem?_map, List.getElem?_range (by omega)]
    show s.getD i 0 - d * u.getD i 0 = 0
    by_cases hik : i = 5 - c.length
    · rw [hik, u1, ← hd]; omega
    · rw [sz i (by omega), uz i (by omega)]; simp)
  apply List.ext_getElem?
  intro i
  rw [List.getElem?_map, List.getElem?_drop, List.getElem?_drop]
  by_cases hi : 5 - c.length + i < 6
  · have e := vz _ hi
    rw [List.getD_eq_getElem?_getD, List.getElem?_map, List.getElem?_range hi] at e
    have e : s.getD (5 - c.length + i) 0 - d * u.getD (5 - c.length + i) 0 = 0 := e
    rw [List.getD_eq_getElem?_getD, List.getD_eq_getElem?_getD, List.getElem?_eq_getElem (by omega), List.getElem?_eq_getElem (by omega)] at e
    rw [List.getElem?_eq_getElem (by omega), List.getElem?_eq_getElem (by omega)]
    simp only [Option.map_some, Option.some.injEq]
    simp only [Option.getD_some] at e
    omega
  · rw [List.getElem?_eq_none (by omega), List.getElem?_eq_none (by omega)]; rfl
theorem gaps_law {n : Nat} (hn : n ≤ 3) {st : List (List Int)} (G : ∀ k, k < 6 → (st.getD k [] = [] ↔ 6 - n ≤ k)) : (List.range 6).filter (fun k => st.getD k [] = []) = (List.range n).map fun i => 6 - n + i := by
  have : (List.range 6).filter (fun k => st.getD k [] = []) = (List.range 6).filter fun k => decide (6 - n ≤ k) := by
    apply List.filter_congr
    intro k hk
    rw [List.mem_range] at hk
    exact decide_eq_decide.mpr (G k hk)
  rw [this]
  match n, hn with
  | 0, _ | 1, _ | 2, _ | 3, _ => decide
theorem facts_all {xs ys : List Int} (hx : xs.length = 3) (hy : ys.length = 3) : Facts xs ys where
  sx := smd_poly hx
  sy := smd_poly hy
  px := com_px xs ys
  py := com_py xs ys
  gaps := gaps_law (by have := (com_px xs ys).length_eq; rw [List.length_append] at this; omega) (stairs_law hx hy (com_px xs ys) (com_py xs ys) (uld_apart xs ys)).2
  last := last_law hx hy (com_px xs ys) (com_py xs ys) (uld_apart xs ys)
end
theorem has70 (w : World) : ((Mine.hd.heap_39 w.params).lookup 70).isSome = true := by kernel_rfl
theorem part_size {w : World} {h : Heap} (X : (Mine.hd.heap_39 w.params).In h) : 71 ≤ h.objs.size := by
  cases e : (Mine.hd.heap_39 w.params).lookup 70 with
  | none => have := has70 w; rw [e] at this; cases this
  | some o => exact Heap.lt_size (X 70 o e)
theorem max_live {h : Heap} : ∀ n : Nat, (∀ b o, h.get? b = some o → b < n) → (∃ b o, h.get? b = some o) → ∃ b o, h.get? b = some o ∧ ∀ b' o', h.get? b' = some o' → b' ≤ b
  | 0, hn, ⟨b, o, e⟩ => absurd (hn b o e) (Nat.not_lt_zero _)
  | n + 1, hn, ex => by
    cases q : h.get? n with
    | some o => exact ⟨n, o, q, fun b' o' e' => Nat.le_of_lt_succ (hn b' o' e')⟩
    | none =>
      refine max_live n (fun b o e => ?_) ex
      refine Nat.lt_of_le_of_ne (Nat.le_of_lt_succ (hn b o e)) ?_
      rintro rfl
      rw [q] at e; cases e
theorem fin_law {w : World} {s₁ : Shared} {h₁ : Heap} {tk : Tok} {A : Around} {env : Env} {body : List Stmt} {m cm : Str → Option Value} {Q : Flow → Shared → Prop} {E : Value → Shared → Prop} {p : Program} {loose : List Str} {mean : ExcName → Option Value} {mg mb : Str → Option Value} {L : Addr}
    (X : (Mine.hd.heap_39 w.params).In (ghostOf s₁.heap [(59, 55)])) (T : Top p loose mean mg mb (ghostOf s₁.heap [(59, 55)])) (hT : ∀ P : Addr, P ∈ [55] → s₁.heap.get? P = some (tabObj #[]))
    (F : Fr (ghostOf s₁.heap [(59, 55)]) L h₁ m) (h55 : h₁.get? 55 = some (tabObj #[])) (hL : L = s₁.heap.objs.size) (hE : env.locals = L)
    (hc : ∀ n c, env.cells.lookup n = some c → h₁.IsCell c (cm n)) (ap : ∀ n n' c, env.cells.lookup n = some c → env.cells.lookup n' = some c → n = n') (ab : ∀ n c, env.cells.lookup n = some c → s₁.heap.objs.size < c)
    (walk : ∀ [Nn], Sta w s₁.heap → Fm s₁.heap env m cm h₁ → W w A (execs body env) h₁ fun f h' => f = .ret (.bool true) ∧ ∃ m' cm', Fm s₁.heap env m' cm' h')
    (fin : ∀ h' tk' m', Fr (ghostOf s₁.heap [(59, 55)]) L h' m' → (∃ ps, h'.get? 55 = some (tabObj ps)) → Q (.ret (.bool true)) { heap := h', gens := s₁.gens, drawn := s₁.drawn, toks := tk', os := s₁.os }) :
    wpAny (model P0 w) A (execs body env) Q E { heap := h₁, gens := s₁.gens, drawn := s₁.drawn, toks := tk, os := s₁.os } := by
  have hT' := hT 55 (.head _)
  have kp : ∀ b o, s₁.heap.get? b = some o → h₁.get? b = some o := fun b o e => by
    by_cases q : b = 55
    · subst q; rw [hT'] at e; cases e; exact h55
    · exact F.keep b o (ghost_ne e (by simpa using q))
  have lo : ∀ b o, (ghostOf s₁.heap [(59, 55)]).get? b = some o → s₁.heap.get? b = some o := fun b o e => of_hideAll _ e
  have X1 : (Mine.hd.heap_39 w.params).In s₁.heap := fun b o e => lo b o (X b o e)
  obtain ⟨bm, om, em, hmax⟩ := max_live (h := s₁.heap) s₁.heap.objs.size (fun b o e => Heap.lt_size e) ⟨55, _, hT'⟩
  have big : 71 ≤ bm + 1 := by
    cases e : (Mine.hd.heap_39 w.params).lookup 70 with
    | none => have := has70 w; rw [e] at this; cases this
    | some o => exact Nat.succ_le_succ (hmax 70 o (X1 70 o e))
  letI : Nn := ⟨bm + 1, big⟩
  have E1 : Ext s₁.heap h₁ := Ext.of_keep kp
  have Fm1 : Fm s₁.heap env m cm h₁ := ⟨by rw [hE]; exact F.ns, hc, ap, E1, by rw [hE, hL]; exact fresh_size _, by rw [hE, hL]; exact Heap.lt_size em, fun n c _ e => none_of_le (Nat.le_of_lt (ab n c e))⟩
  have S : Sta w s₁.heap := by
    refine ⟨X1, ?_, T.nolimit.keeps lo, ⟨#[], hT', .inl rfl⟩, ⟨bm, om, Nat.le_refl _, em⟩⟩
    refine ⟨mg, mb, T.g.keeps lo, T.b.keeps lo, T.builtins, ?_⟩
    obtain ⟨bm, ob, b1, b2, b3, b4, b5, b6⟩ := T.bmain
    refine ⟨bm, ob, b1, b2, fun q => ?_, fun q => ?_, lo _ _ b3, b4, b5, b6⟩
    · obtain ⟨o, es, ep, e, hd, _⟩ := T.g
      rw [q, e] at b3; cases b3; rw [hd] at b6; cases b6
    · have e := lo _ _ b3
      rw [q, hT'] at e; cases e; cases b4
  refine walk S Fm1 _ _ _ rfl ?_
  rintro f h' tk' ⟨rfl, m', cm', Fx⟩
  have x := Fx.ext
  obtain ⟨ps, e55, _⟩ := x.tab ⟨#[], hT', .inl rfl⟩
  have keep' : ∀ b o, (ghostOf s₁.heap [(59, 55)]).get? b = some o → h'.get? b = some o := fun b o e => by
    have n55 : b ≠ 55 := by rintro rfl; rw [hideAll_none _ (by simp)] at e; cases e
    have e1 := lo b o e
    have hb : b < bm + 1 := Nat.lt_succ_of_le (hmax b o e1)
    cases t : isTab o with
    | true => exact x.tabs b o e1 t n55
    | false =>
      refine x.keep b o e1 ?_
      unfold lose; rw [t]
      have : ¬ (Nn.n ≤ b) := Nat.not_le.mpr hb
      simp [this]
  exact fin h' tk' m' ⟨hE ▸ Fx.ns, keep', F.above⟩ ⟨ps, e55⟩
abbrev lawCells (L : Addr) : List (Str × Addr) := [(Str.ofString "last", L + 1 + 1 + 1), (Str.ofString "stairs", L + 1 + 1), (Str.ofString "sets", L + 1)]
theorem law_look (L : Addr) (n : Str) (c : Addr) (e : (lawCells L).lookup n = some c) : (n = Str.ofString "sets" ∧ c = L + 1) ∨ (n = Str.ofString "stairs" ∧ c = L + 1 + 1) ∨ (n = Str.ofString "last" ∧ c = L + 1 + 1 + 1) := by
  letI : Nn := ⟨71, Nat.le_refl _⟩
  have := mem_of_lookup e
  simp at this
  rcases this with h | h | h
  · exact .inr (.inr h)
  · exact .inr (.inl h)
  · exact .inl h
theorem law_cells {h : Heap} {v : Option Value} (L : Addr) (a : h.IsCell (L + 1) v) (b : h.IsCell (L + 1 + 1) v) (c : h.IsCell (L + 1 + 1 + 1) v) : ∀ n c, (lawCells L).lookup n = some c → h.IsCell c v := fun n c' e => by
  rcases law_look L n c' e with ⟨_, rfl⟩ | ⟨_, rfl⟩ | ⟨_, rfl⟩
  · exact a
  · exact b
  · exact c
theorem law_apart (L : Addr) : ∀ n n' c, (lawCells L).lookup n = some c → (lawCells L).lookup n' = some c → n = n' := fun n n' c e e' => by
  have h1 : L + 1 + 1 ≠ L + 1 := Nat.succ_ne_self _
  have h2 : L + 1 + 1 + 1 ≠ L + 1 + 1 := Nat.succ_ne_self _
  have h3 : L + 1 + 1 + 1 ≠ L + 1 := Nat.ne_of_gt (Nat.lt_succ_of_lt (Nat.lt_succ_self _))
  rcases law_look L n c e with ⟨rfl, rfl⟩ | ⟨rfl, rfl⟩ | ⟨rfl, rfl⟩ <;> rcases law_look L n' _ e' with ⟨rfl, q⟩ | ⟨rfl, q⟩ | ⟨rfl, q⟩ <;> first | rfl | exact absurd q h1 | exact absurd q h2 | exact absurd q h3 | exact absurd q.symm h1 | exact absurd q.symm h2 | exact absurd q.symm h3
theorem law_above (L : Addr) : ∀ n c, (lawCells L).lookup n = some c → L < c := fun n c e => by
  rcases law_look L n c e with ⟨rfl, rfl⟩ | ⟨rfl, rfl⟩ | ⟨rfl, rfl⟩
  · exact Nat.lt_succ_self _
  · exact Nat.lt_succ_of_lt (Nat.lt_succ_self _)
  · exact Nat.lt_succ_of_lt (Nat.lt_succ_of_lt (Nat.lt_succ_self _))
set_option maxHeartbeats 20000000 in
theorem law_holds : PySem.Challenge.rw_oy0025_01.Holds := Mine.hd (by
  k_go0
  rename_i w s₀ s₁ mg mb G Y fad o pm cd doc ho hcd hg X V T B TE TW nss hs hlay0 hL1 hr1 hl2 b1 b2 las vss b3 hL ra w1 r0 hI hr hc1 hc2 hD h₁ tk o1 o2 o3 d1 d2 d3 X0 X' T' K' F' N' l0
  have c1 := (N' _ (.head _)).1
  have c2 := (N' _ (.tail _ (.head _))).1
  have c3 := (N' _ (.tail _ (.tail _ (.head _)))).1
  refine fin_law (cm := fun _ => none) X' T' hT8 F' (N' _ (.tail _ (.tail _ (.tail _ (.head _))))).1 rfl rfl (law_cells (v := none) (s₁.heap.objs.size) ⟨_, c3, d3⟩ ⟨_, c2, d2⟩ ⟨_, c1, d1⟩) (law_apart s₁.heap.objs.size) (law_above s₁.heap.objs.size) ?_ ?_
  · intro _ S F
    clear F' T' X' K' N' X0 d1 d2 d3 c1 c2 c3 w1 r0 ra hr hD
    have hl : s₁.heap.IsList las vss.toArray := hL
    have hi := hI
    have hlen : nss.length ≤ 63 := by omega
    obtain ⟨A, hAA⟩ : ∃ A, A = callerA := ⟨_, rfl⟩
    rw [← hAA]
    have hA : A.handled = none := by rw [hAA]; rfl
    have hdep : A.depth + 10 < recursionLimit := by rw [hAA]; decide
    have hu : A.units + 500 < cLine := by rw [hAA]; decide
    have hfr : A.frames = some [] := by rw [hAA]; rfl
    clear hAA
    have facts : ∀ xs ys : List Int, xs.length = 3 → ys.length = 3 → Facts xs ys := fun xs ys hx hy => facts_all hx hy
    have S1 := S.mono F.ext
    -- first, second
    obtain ⟨o43, e43, fd43, d43⟩ : ∃ o, h₁.get? 43 = some o ∧ ∃ fd, o.data = .func fd := ⟨_, S1.part 43 _ (by k_is), _, rfl⟩
    refine w_stmt (w_assignT (w_call (w_global S1 (ns_roots w) (w_callFn e43 d43 rfl (w_cons (w_local F.ns rfl (w_nil ⟨Ext.refl _, ?_⟩)))))))
    refine W.mono (roots_spec (A := A.deeper _) S1 hA (by show A.depth + 1 + 2 < recursionLimit; omega) (F.ext.isList hl) hi (by omega)) ?_
    rintro _ h2 ⟨e2, t, fa, sa, xs, ys, rfl, ht, hx, hy, lx, ly, bx, by'⟩
    refine w_assignTuple2 hA ht fun h3 e3 => w_store ((F.step e2).step e3) fun h4 F4 s4 => w_store F4 fun h5 F5 s5 => ?_
    have hx5 := (e3.sq.trans (s4.sq.trans s5.sq)).ints hx
    have hy5 := (e3.sq.trans (s4.sq.trans s5.sq)).ints hy
    have fc := facts xs ys lx ly
    clear F F4 hx hy e3 s4 s5 e2 ht
    have S5 := S.mono F5.ext
    -- sets
    refine w_stmt (w_assign (w_comp hA (w_call (w_builtin S5 (ns_range w) bb_range (w_callType rfl rfl (w_cons (w_int fun t1 => w_nil (w_range1 fun r h6 u1 u2 u3 e6 hr6 => ?_))))))))
    have F6 := F5.step e6
    refine ⟨8, _, fun i ys g => RowsAre g ys ((List.range i).map fun f : Nat => chs (f : Int)), .range rfl hr6 (small_one (by omega) (by omega) (by omega) (by omega)) (by decide), by rw [← sl_line]; omega, ⟨fun i ys g g' q x => q.rowsAre x, .nil, ?_⟩, ?_⟩
    · intro i zs v C m g h7 hi' hv hJ hsq e7 hns hm hy'
      obtain ⟨t7, rfl⟩ := hv
      have S7 := S.mono (F6.ext.trans e7)
      refine w_tests0 ⟨Ext.refl _, ?_⟩
      rw [if_pos rfl]
      obtain ⟨o48, e48, fd48, d48⟩ : ∃ o, h7.get? 48 = some o ∧ ∃ fd, o.data = .func fd := ⟨_, S7.part 48 _ (by k_is), _, rfl⟩
      refine w_call (w_global S7 (ns_chosen w) (w_callFn e48 d48 rfl (w_cons (w_local hns hm (w_nil ⟨Ext.refl _, ?_⟩)))))
      refine W.mono (chosen_spec (A := A.deeper _) S7 hA (by show A.depth + 1 + 3 < recursionLimit; omega) (by omega) (by omega)) ?_
      rintro _ h8 ⟨e8, a8, rfl, i8, f8⟩
      refine ⟨e8, fun g' q new => ?_⟩
      rw [List.range_succ, List.map_append]
      refine (q.rowsAre hJ).append (.cons ?_ .nil)
      obtain ⟨us, ⟨o, ho, oc, on, od⟩, iu⟩ := i8
      rw [show (0 : Int) + (i : Int) = (i : Int) by omega] at iu
      exact ⟨us, ⟨o, new _ _ _ _ ho od f8, oc, on, od⟩, iu⟩
    intro D h7 zs e7 hJ hD hDf hz
    rw [show ((List.range 8).map fun f : Nat => chs (f : Int)) = setsT from chs_facts] at hJ
    refine w_storeC (F6.step e7) rfl fun h8 F8 s8 => ?_
    have sets8 : Rows h8 D setsT := ⟨zs, s8.sq.isList hD, s8.sq.rowsAre hJ⟩
    have hx8 := ((e6.trans e7).sq.trans s8.sq).ints hx5
    have hy8 := ((e6.trans e7).sq.trans s8.sq).ints hy5
    have S8 := S.mono F8.ext
    clear F5 F6 hx5 hy5 S5 hJ hD hDf e7 s8
    -- rows
    refine w_stmt (w_assign_comp hA F8 (w_list (w_cons (w_local F8.ns (v := .ref fa) rfl (w_cons (w_local F8.ns (v := .ref sa) rfl (w_nil ⟨by rw [← sl_line]; simp, fun b9 h9 e9 l9 f9 => ⟨e9, ?_⟩⟩)))))))
    refine ⟨_, _, fun i zs g => Ints g fa xs ∧ Ints g sa ys ∧ RowsAre g zs ([poly xs, poly ys].take i), .list rfl l9, by rw [← sl_line]; simp, ⟨fun i ys g g' q x => ⟨q.ints x.1, q.ints x.2.1, q.rowsAre x.2.2⟩, ⟨e9.sq.ints hx8, e9.sq.ints hy8, .nil⟩, ?_⟩, ?_⟩
    · intro i zs v C m g h10 hi' hv hJ hsq e10 hns hm hy'
      have S10 := S8.mono (e9.trans e10)
      refine w_tests0 ⟨Ext.refl _, ?_⟩
      rw [if_pos rfl]
      obtain ⟨ra, ws, rfl, hra, lw, bw, tk⟩ := two_rows (p := .none) (q := .none) (f := poly) (hsq.ints hJ.1) (hsq.ints hJ.2.1) lx ly bx by' i v (by simpa using hi') hv
      obtain ⟨o38, e38, fd38, d38⟩ : ∃ o, h10.get? 38 = some o ∧ ∃ fd, o.data = .func fd := ⟨_, S10.part 38 _ (by k_is), _, rfl⟩
      refine w_call (w_global S10 (ns_reduce w) (w_callFn e38 d38 rfl (w_cons (w_global S10 (ns_times w) (w_cons (w_local hns hm (w_cons (w_list (w_cons (w_int fun t11 => w_nil ⟨by rw [← sl_line]; simp, fun o11 h11 e11 l11 f11 => w_nil ⟨e11, ?_⟩⟩))))))))))
      refine W.mono (poly_spec (A := A.deeper _) (hb := h10) (S10.mono e11) hA (by show A.depth + 1 + 4 < recursionLimit; omega) e11 (e11.sq.ints hra) ⟨_, l11, .cons _ _ .nil⟩ f11 (by omega) bw) ?_
      rintro _ h12 ⟨e12, a12, rfl, i12, f12⟩
      refine ⟨e11.trans e12, fun g' q new => ⟨q.ints hJ.1, q.ints hJ.2.1, ?_⟩⟩
      rw [tk]
      refine (q.rowsAre hJ.2.2).append (.cons ?_ .nil)
      obtain ⟨us, ⟨o, ho, oc, on, od⟩, iu⟩ := i12
      exact ⟨us, ⟨o, new _ _ _ _ ho od f12, oc, on, od⟩, iu⟩
    intro D2 h10 zs2 F10 s10 hJ hD2 hDf hz2
    have hx10 := hJ.1
    have hy10 := hJ.2.1
    have rows10 : Rows h10 D2 [poly xs, poly ys] := ⟨zs2, hD2, hJ.2.2⟩
    have sets10 : Rows h10 D setsT := (e9.sq.trans s10).rows sets8
    have S10 := S.mono F10.ext
    clear F8 S8 hx8 hy8 sets8 hJ hD2 hDf s10 e9 l9 f9 hz2
    -- the coefficients both ways
    have cs10 := F10.cell (Str.ofString "sets") _ rfl
    rw [upd_self] at cs10
    refine w_stmt (w_if (w_isTrue_cmp (w_local F10.ns upd_self (w_comp hA (w_list (w_cons (w_local F10.ns (v := .ref fa) rfl (w_cons (w_local F10.ns (v := .ref sa) rfl (w_nil ⟨by rw [← sl_line]; simp, fun b9 h9 e9 l9 f9 => ?_⟩))))))))))
    refine ⟨_, _, fun i zs g => Ints g fa xs ∧ Ints g sa ys ∧ Rows g D setsT ∧ RowsAre g zs ([poly xs, poly ys].take i), .list rfl l9, by rw [← sl_line]; simp, ⟨fun i ys g g' q x => ⟨q.ints x.1, q.ints x.2.1, q.rows x.2.2.1, q.rowsAre x.2.2.2⟩, ⟨e9.sq.ints hx10, e9.sq.ints hy10, e9.sq.rows sets10, .nil⟩, ?_⟩, ?_⟩
    · intro i zs v C m g h11 hi' hv hJ hsq e11 hns hm hy'
      have S11 := S10.mono (e9.trans e11)
      refine w_tests0 ⟨Ext.refl _, ?_⟩
      rw [if_pos rfl]
      obtain ⟨ra, ws, rfl, hra, lw, bw, tk⟩ := two_rows (p := .none) (q := .none) (f := fun z => smd z setsT) (hsq.ints hJ.1) (hsq.ints hJ.2.1) lx ly bx by' i v (by simpa using hi') hv
      rw [fc.sx, fc.sy] at tk
      obtain ⟨o60, e60, fd60, d60⟩ : ∃ o, h11.get? 60 = some o ∧ ∃ fd, o.data = .func fd := ⟨_, S11.part 60 _ (by k_is), _, rfl⟩
      refine w_call (w_global S11 (ns_summed w) (w_callFn e60 d60 rfl (w_cons (w_local hns hm (w_cons (w_cell rfl ((e9.trans e11).cell cs10) (w_nil ⟨Ext.refl _, ?_⟩)))))))
      refine W.mono (summed_spec (A := A.deeper _) S11 hA (by show A.depth + 1 + 4 < recursionLimit; omega) hra (hsq.rows hJ.2.2.1) lw bw (by decide) (by decide)) ?_
      rintro _ h12 ⟨e12, a12, rfl, i12, f12⟩
      refine ⟨e12, fun g' q new => ⟨q.ints hJ.1, q.ints hJ.2.1, q.rows hJ.2.2.1, ?_⟩⟩
      rw [tk]
      refine (q.rowsAre hJ.2.2.2).append (.cons ?_ .nil)
      obtain ⟨us, ⟨o, ho, oc, on, od⟩, iu⟩ := i12
      exact ⟨us, ⟨o, new _ _ _ _ ho od f12, oc, on, od⟩, iu⟩
    intro D3 h11 zs3 e11 hJ hD3 hDf3 hz3
    have E11 := e9.trans e11
    have rows11 := E11.sq.rows rows10
    refine w_ne_rows rows11 ⟨zs3, hD3, hJ.2.2.2⟩ (by show A.units + 3 + 64 < cLine; omega) (w_truthy_bool ?_)
    rw [if_neg (by decide)]
    have F11 := F10.step E11
    have hx11 := hJ.1
    have hy11 := hJ.2.1
    have S11 := S.mono F11.ext
    clear hJ hD3 hDf3 hz3 E11 e9 e11 l9 f9 rows10 sets10 cs10 hx10 hy10 S10 F10
    refine w_done ?_
    -- shifted
    obtain ⟨us, lD2, rD2⟩ := rows11
    have hul : us.length = 2 := rD2.length
    refine w_stmt (w_assign_comp2 hA F11 S11 (w_local F11.ns (v := .ref D2) upd_self ⟨Ext.refl _, w_iterX hA (.list rfl lD2) fun I St fp h12 K kp hI st hfp => ⟨Ext.of_keep kp, fun zs g => Ints g fa xs ∧ Ints g sa ys ∧ RowsAre g zs (shs (poly xs) (poly ys)), fun zs g g' q x => ⟨q.ints x.1, q.ints x.2.1, q.rowsAre x.2.2⟩, ?_, ?_⟩⟩))
    · intro D4 C m g Fg kg pl oD hDC
      have stg : St 0 g := K.walks.frame _ _ _ st fun b hb o e => kg b o e
      have nD : D4 ∉ fp := fun q => by
        rcases hfp D4 q with q | q
        · obtain ⟨o, _, e, _⟩ := K.it _ _ st; rw [← q, oD] at e; cases e
        · cases q; obtain ⟨o, e, _⟩ := (Ext.of_keep kp).isList lD2; rw [oD] at e; cases e
      have oD11 : h11.get? D4 = none := (Ext.of_keep kp).fresh oD
      refine wc_start0 (fun s Q E e q => K.walks.self 0 s Q E (e ▸ stg) q) (wc_out (fun n g => ∃ i m zs, n = 2 - i ∧ i ≤ 2 ∧ St i g ∧ Fm h11 _ m (fun _ => none) g ∧ PL g D4 zs ∧ RowsAre (g.hide D4) zs ((shs (poly xs) (poly ys)).take (3 * i))) ?_ 2 ⟨0, m, [], rfl, by omega, stg, Fg, pl, .nil⟩)
      rintro n g2 ⟨i, m2, zs, rfl, hi2, st2, F2, pl2, r2⟩
      by_cases hlt : i < 2
      · refine w_next K (by rw [List.size_toArray, hul]; exact hlt) st2 fun x g3 hx st3 k3 => ?_
        have it2 := K.it _ _ st2
        have F3 := F2.iter k3 it2 hI
        have sq3 := so_iter k3 it2
        obtain ⟨ra, row, rfl, hra, lrow, tk⟩ := shs_take rD2 lx ly i x hlt hx
        refine w_assignName (w_store F3 fun g4 F4 s4 => ?_)
        have S4 := S11.mono F4.ext
        refine w_call (w_builtin S4 (ns_range w) bb_range (w_callType rfl rfl (w_cons (w_int fun t1 => w_nil (w_range1 fun r g5 u1 u2 u3 e5 hr5 => ?_)))))
        refine w_iterX hA (.range (n := 3) rfl hr5 (small_one (by omega) (by omega) (by omega) (by omega)) (by decide)) fun I1 St1 fp1 g6 K1 kp1 hI1 st1 hfp1 => ?_
        have F5 := F4.step e5
        have F6 := F5.step (Ext.of_keep kp1)
        have st4 : St (i + 1) g5 := K.stay (K.stay st3 s4) e5.so
        have hI1' : h11.get? I1 = none := F5.ext.fresh hI1
        have n1 : ∀ b ∈ fp, b ≠ I1 := fun b hb q => by
          subst q
          rcases hfp b hb with q | q
          · subst q; obtain ⟨o, _, e, _⟩ := K.it _ _ st4; rw [hI1] at e; cases e
          · cases q; obtain ⟨o, e, _⟩ := lD2; rw [hI1'] at e; cases e
        have pl5 : PL g5 D4 zs := pl2.sq ((sq3.trans s4.sq).trans e5.sq)
        have nD1 : D4 ∉ fp1 := fun q => by
          rcases hfp1 D4 q with q | q
          · obtain ⟨o, e⟩ := pl5; rw [q, hI1] at e; cases e
          · cases q; obtain ⟨o, e⟩ := pl5; unfold IsRange at hr5; rw [e] at hr5; simp at hr5
        refine wc_start1 (fun s Q E e q => K1.walks.self 0 s Q E (e ▸ st1) q) (wc_in (fun n g => ∃ j m zs', n = 3 - j ∧ j ≤ 3 ∧ St1 j g ∧ St (i + 1) g ∧ Fm h11 _ m (fun _ => none) g ∧ m (Str.ofString "row") = some (.ref ra) ∧ PL g D4 zs' ∧ zs'.length ≤ 100 + j ∧ RowsAre (g.hide D4) zs' ((shs (poly xs) (poly ys)).take (3 * i) ++ [shf row 0, shf row 1, shf row 2].take j)) ?_ 3
          ⟨0, _, zs, rfl, by omega, st1, K.walks.frame _ _ _ st4 fun b _ o e => kp1 b o e, F6, upd_self, pl5.sq (Ext.of_keep kp1).sq, by rw [r2.length, List.length_take]; simp [shs]; omega, by simpa using (sq_hide (((sq3.trans s4.sq).trans e5.sq).trans (Ext.of_keep kp1).sq)).rowsAre r2⟩)
        rintro n g7 ⟨j, m7, zs7, rfl, hj3, st7, sto7, F7, hmr, pl7, z7, r7⟩
        by_cases hj : j < 3
        · refine w_next K1 hj st7 fun y g8 hy st8 k8 => ?_
          obtain ⟨ty, rfl⟩ := hy
          have it7 := K1.it _ _ st7
          have F8 := F7.iter k8 it7 hI1'
          have sto8 : St (i + 1) g8 := K.walks.frame _ _ _ sto7 fun b hb o e => k8 b o (by simpa using n1 b hb) e
          refine w_assignName (w_store F8 fun g9 F9 s9 => ?_)
          have sq9 : Sq g7 g9 := (so_iter k8 it7).trans s9.sq
          refine w_binop (w_binop (w_binop (w_listP (w_cons (w_int fun ta => w_nil ⟨by rw [← sl_line]; simp, fun b10 g10 e10 l10 f10 => ?_⟩)))))
          refine w_local (e10.ns F9.ns) upd_self (w_mulList (x := j) l10 (by omega) (by omega) fun b11 g11 e11 l11 => ?_)
          have E11 := e10.trans e11
          obtain ⟨rs, hrl, hri⟩ := (F9.ext.trans E11).sq.ints hra
          have hrsl : rs.length = 4 := hri.length.trans lrow
          refine w_local (E11.ns F9.ns) (v := .ref ra) (by rw [upd_ne (by decide)]; exact hmr) (w_concat l11 hrl (by rw [List.size_toArray, List.size_toArray, List.length_replicate, hrsl, ← sl_line]; omega) fun b12 g12 e12 l12 f12 => ?_)
          have E12 := E11.trans e12
          refine w_binop (w_listP (w_cons (w_int fun tb => w_nil ⟨by rw [← sl_line]; simp, fun b13 g13 e13 l13 f13 => ?_⟩)))
          have E13 := E12.trans e13
          refine w_binop (w_int fun t14 => w_local (E13.ns F9.ns) upd_self (w_sub fun t15 => w_mulList (x := 2 - j) l13 (by omega) (by omega) fun b14 g14 e14 l14 => ?_))
          refine w_concat ((e13.trans e14).isList l12) l14 (by simp [hrsl]; rw [← sl_line]; omega) fun b15 g15 e15 l15 f15 => ?_
          have E15 := (E13.trans e14).trans e15
          have F15 := F9.step E15
          have pl15 : PL g15 D4 zs7 := pl7.sq (sq9.trans E15.sq)
          refine w_append pl15 (by rw [← sl_line]; omega) fun g16 s16 pl16 => ?_
          have F16 := F15.list s16 pl15.isList oD11
          rw [rep_arr] at l15
          have i15 : Ints g15 b15 (shf row j) := ⟨_, l15, ((ints_rep j ta).append hri).append (ints_rep (2 - j) tb)⟩
          have nb15 : b15 ≠ D4 := by
            rintro rfl
            obtain ⟨o, e⟩ := pl7.sq (sq9.trans (E13.trans e14).sq)
            rw [f15] at e; cases e
          have i16 : Ints (g16.hide D4) b15 (shf row j) := by
            obtain ⟨vs, ⟨o, e, r⟩, i⟩ := i15
            exact ⟨vs, ⟨o, by rw [Heap.hide_ne g16 nb15, s16.2 b15 nb15]; exact e, r⟩, i⟩
          refine ⟨3 - (j + 1), by omega, j + 1, _, _, rfl, hj, K1.same (K1.stay (K1.stay st8 s9) E15.so) s16 nD1, K.same (K.stay (K.stay sto8 s9) E15.so) s16 nD, F16, by rw [upd_ne (by decide)]; exact hmr, pl16, by simp; omega, ?_⟩
          rw [shf_take row j hj, ← List.append_assoc]
          exact (((sq_hide (sq9.trans E15.sq)).trans (sq_hide_same s16)).rowsAre r7).append (.cons i16 .nil)
        · obtain rfl : j = 3 := by omega
          refine w_nextEnd K1 st7 fun g8 k8 => ?_
          have it7 := K1.it _ _ st7
          refine ⟨2 - (i + 1), by omega, i + 1, m7, zs7, rfl, hlt, K.walks.frame _ _ _ sto7 fun b hb o e => k8 b o (by simpa using n1 b hb) e, F7.iter k8 it7 hI1', pl7.sq (so_iter k8 it7), ?_⟩
          rw [tk]; exact (sq_hide (so_iter k8 it7)).rowsAre r7
      · obtain rfl : i = 2 := by omega
        refine w_nextEnd K (by rw [List.size_toArray, hul]; exact st2) fun g3 k3 => ?_
        have it2 := K.it _ _ st2
        have F3 := F2.iter k3 it2 hI
        exact ⟨rfl, m2, zs, F3, pl2.sq (so_iter k3 it2), F3.ext.sq.ints hx11, F3.ext.sq.ints hy11, hide_sq.rowsAre ((sq_hide (so_iter k3 it2)).rowsAre r2)⟩
    intro D4 h12' zs4 F12 pl12 r12 f12
    obtain ⟨hx12, hy12, r12⟩ := r12
    have S12 := S.mono F12.ext
    have rows12 : Rows h12' D4 (shs (poly xs) (poly ys)) := ⟨zs4, pl12.isList, r12⟩
    clear hul lD2 rD2 hx11 hy11 S11 F11
    -- stairs
    obtain ⟨o38, e38, fd38, d38⟩ : ∃ o, h12'.get? 38 = some o ∧ ∃ fd, o.data = .func fd := ⟨_, S12.part 38 _ (by k_is), _, rfl⟩
    have nil6 : ∀ {A' : Around} {env : Env} {pos pos' : Pos} {rest : List Expr} {h : Heap} {P : List Value → Heap → Prop}, (∀ a h', Ext h h' → Ints h' a [] → W w A' (spliced (backTo pos (starEach rest env))) h' fun vs h₂ => P (.ref a :: vs) h₂) → W w A' (spliced (backTo pos (starEach (.List [] pos' :: rest) env))) h P := fun k => w_cons (w_list (w_nil ⟨by simp, fun a h' e l _ => k a h' e ⟨_, l, .nil⟩⟩))
    refine w_stmt (w_assign (w_call (w_global S12 (ns_reduce w) (w_callFn e38 d38 rfl ?_))))
    refine w_cons ?_
    refine w_global S12 (ns_laid w) ?_
    refine w_cons ?_
    refine w_local F12.ns upd_self ?_
    refine w_cons ?_
    refine w_list ?_
    refine nil6 ?_
    intro a1 g1 x1 i1
    refine nil6 ?_
    intro a2 g2 x2 i2
    refine nil6 ?_
    intro a3 g3 x3 i3
    refine nil6 ?_
    intro a4 g4 x4 i4
    refine nil6 ?_
    intro a5 g5 x5 i5
    refine nil6 ?_
    intro a6 g6 x6 i6
    refine w_nil ⟨by rw [← sl_line]; simp, fun a7 g7 x7 l7 f7 => w_nil ⟨?_, ?_⟩⟩
    · exact (((((x1.trans x2).trans x3).trans x4).trans x5).trans x6).trans x7
    have E7 : Ext h12' g7 := (((((x1.trans x2).trans x3).trans x4).trans x5).trans x6).trans x7
    have ok6 : ∀ s ∈ shs (poly xs) (poly ys), s.length = 6 ∧ Bd 190 s := shs_ok (by rw [poly_len, lx]) (by rw [poly_len, ly]) ((poly_bd xs bx).mono (by rw [lx]; omega)) ((poly_bd ys by').mono (by rw [ly]; omega))
    refine W.mono (stairs_spec (A := A.deeper _) (S12.mono E7) hA (by show A.depth + 1 + 4 < recursionLimit; omega) (by show A.units + 3 + 200 < cLine; omega) (E7.sq.rows rows12) ⟨_, l7, .cons (((((x2.trans x3).trans x4).trans x5).trans x6).trans x7 |>.sq.ints i1) (.cons ((((x3.trans x4).trans x5).trans x6).trans x7 |>.sq.ints i2) (.cons (((x4.trans x5).trans x6).trans x7 |>.sq.ints i3) (.cons ((x5.trans x6).trans x7 |>.sq.ints i4) (.cons (x6.trans x7 |>.sq.ints i5) (.cons (x7.sq.ints i6) .nil)))))⟩ rfl ok6) ?_
    rintro _ h13 ⟨e13, st, rfl, rst, okst⟩
    refine w_storeC (F12.step (E7.trans e13)) rfl fun h14 F14 s14 => ?_
    have hx14 := ((E7.trans e13).sq.trans s14.sq).ints hx12
    have hy14 := ((E7.trans e13).sq.trans s14.sq).ints hy12
    have st14 := s14.sq.rows rst
    have S14 := S.mono F14.ext
    clear hx12 hy12 S12 F12 rows12 pl12 r12 f12 E7 e13 x1 x2 x3 x4 x5 x6 x7 i1 i2 i3 i4 i5 i6 l7 rst e38 d38 s14
    -- lacking, beyond
    have fr : ∀ {g : Heap} {m cm : Str → Option Value} {env : Env} {L : Addr}, Fm s₁.heap env m cm g → env.frame = some env.locals → env.scope.kind ≠ .module → FrOk g [env] := fun {g m cm env L} Fg e k env' he => by
      rw [List.mem_singleton.mp he]
      exact ⟨k, env.locals, m, e, Fg.big, Fg.ns⟩
    obtain ⟨o21, e21, fd21, d21⟩ : ∃ o, h14.get? 21 = some o ∧ ∃ fd, o.data = .func fd := ⟨_, S14.part 21 _ (by k_is), _, rfl⟩
    obtain ⟨vx, hxl, hxi⟩ := id hx14
    obtain ⟨vy, hyl, hyi⟩ := id hy14
    have lvx : vx.length = 3 := hxi.length.trans lx
    have lvy : vy.length = 3 := hyi.length.trans ly
    refine w_stmt (w_assignT (w_call (w_global S14 (ns_diff w) (w_callFn e21 d21 rfl (w_cons (w_call (w_builtin S14 (ns_list w) bb_list (w_callType rfl rfl (w_cons (w_local F14.ns (v := .ref fa) rfl (w_nil (w_listCopyP hxl (by rw [lvx, ← sl_line]; omega) fun c1 g1 x1 p1 f1 => ?_))))))))))))
    refine w_cons (w_call (w_builtin (S14.mono x1) (ns_list w) bb_list (w_callType rfl rfl (w_cons (w_local (x1.ns F14.ns) (v := .ref sa) rfl (w_nil (w_listCopyP (x1.isList hyl) (by rw [lvy, ← sl_line]; omega) fun c2 g2 x2 p2 f2 => w_nil ⟨x1.trans x2, ?_⟩)))))))
    have ne12 : c1 ≠ c2 := by rintro rfl; obtain ⟨n, e⟩ := p1; rw [f2] at e; cases e
    refine W.mono (diff_spec (A := A.deeper _) (h₀ := h14) S14 (x1.trans x2) hA (by show A.depth + 1 + 2 < recursionLimit; omega) (by rw [show (A.deeper _).frames = A.frames.map (_ :: ·) from rfl, hfr]; rfl) (fr (L := 0) F14 rfl (by intro z; cases z)) (p1.sq x2.sq) hxi p2 hyi ne12 f1 (x1.fresh f2) (by omega) (by omega)) ?_
    rintro _ h15 ⟨e15, t15, la15, rfl, ht15, il15, ib15⟩
    refine w_assignTuple2 hA ht15 fun h16 e16 => w_store ((F14.step e15).step e16) fun h17 F17 s17 => w_store F17 fun h18 F18 s18 => ?_
    have E18 : Sq h15 h18 := e16.sq.trans (s17.sq.trans s18.sq)
    have hx18 := (e15.sq.trans E18).ints hx14
    have hy18 := (e15.sq.trans E18).ints hy14
    have st18 := (e15.sq.trans E18).rows st14
    have il18 := E18.ints il15
    have ib18 := E18.ints ib15
    have S18 := S.mono F18.ext
    clear F14 F17 e15 e16 s17 s18 E18 il15 ib15 ht15 S14 hx14 hy14 st14 p1 p2 x1 x2 f1 f2 e21 d21 hxl hxi hyl hyi lvx lvy
    obtain ⟨be, m, cm, F18, ib18, m1, m2, m3, m4, m5⟩ : ∃ be m cm, Fm s₁.heap F18.env m cm h18 ∧ Ints h18 be (uld xs ys).2 ∧ m (Str.ofString "first") = some (.ref fa) ∧ m (Str.ofString "second") = some (.ref sa) ∧ m (Str.ofString "lacking") = some (.ref la15) ∧ m (Str.ofString "beyond") = some (.ref be) ∧ cm (Str.ofString "stairs") = some (.ref st) :=
      ⟨c2, _, _, F18, ib18, by rw [upd_ne (by decide), upd_ne (by decide)]; rfl, by rw [upd_ne (by decide), upd_ne (by decide)]; rfl, by rw [upd_ne (by decide)]; exact upd_self, upd_self, upd_self⟩
    dsimp only [Fm.env] at F18
    -- common
    obtain ⟨o21, e21, fd21, d21⟩ : ∃ o, h18.get? 21 = some o ∧ ∃ fd, o.data = .func fd := ⟨_, S18.part 21 _ (by k_is), _, rfl⟩
    obtain ⟨vx, hxl, hxi⟩ := id hx18
    obtain ⟨vy, hyl, hyi⟩ := id il18
    have lvx : vx.length = 3 := hxi.length.trans lx
    have ll : (uld xs ys).1.length ≤ 3 := by have := fc.px.length_eq; rw [List.length_append, lx] at this; omega
    have lb : (uld xs ys).2.length ≤ 3 := by have := fc.py.length_eq; rw [List.length_append, ly] at this; omega
    have lc : (com xs ys).length ≤ 3 := by have := fc.px.length_eq; rw [List.length_append, lx] at this; omega
    have lvy : vy.length ≤ 3 := by rw [hyi.length]; exact ll
    refine w_stmt (w_assign (w_subscript (w_call (w_global S18 (ns_diff w) (w_callFn e21 d21 rfl (w_cons (w_call (w_builtin S18 (ns_list w) bb_list (w_callType rfl rfl (w_cons (w_local F18.ns m1 (w_nil (w_listCopyP hxl (by rw [lvx, ← sl_line]; omega) fun c1 g1 x1 p1 f1 => ?_)))))))))))))
    refine w_cons (w_call (w_builtin (S18.mono x1) (ns_list w) bb_list (w_callType rfl rfl (w_cons (w_local (x1.ns F18.ns) m3 (w_nil (w_listCopyP (x1.isList hyl) (by rw [← sl_line]; omega) fun c2 g2 x2 p2 f2 => w_nil ⟨x1.trans x2, ?_⟩)))))))
    have ne12 : c1 ≠ c2 := by rintro rfl; obtain ⟨n, e⟩ := p1; rw [f2] at e; cases e
    refine W.mono (diff_spec (A := A.deeper _) (h₀ := h18) S18 (x1.trans x2) hA (by show A.depth + 1 + 2 < recursionLimit; omega) (by rw [show (A.deeper _).frames = A.frames.map (_ :: ·) from rfl, hfr]; rfl) (fr (L := 0) F18 rfl (by intro z; cases z)) (p1.sq x2.sq) hxi p2 hyi ne12 f1 (x1.fresh f2) (by omega) (by omega)) ?_
    rintro _ h19 ⟨e19, t19, co, rfl, ht19, ic19, _⟩
    refine w_int fun t20 => w_tupItem (k := 0) ht19 rfl (by omega) (w_store (F18.step e19) fun h20 F20 s20 => ?_)
    have ic20 : Ints h20 co (com xs ys) := s20.sq.ints ic19
    have E20 : Sq h18 h20 := e19.sq.trans s20.sq
    have hx20 := E20.ints hx18
    have hy20 := E20.ints hy18
    have st20 := E20.rows st18
    have il20 := E20.ints il18
    have ib20 := E20.ints ib18
    have S20 := S.mono F20.ext
    clear hxl hxi hyl hyi lvx lvy e21 d21 p1 p2 x1 x2 f1 f2 ht19 ic19 e19 s20 E20 hx18 hy18 st18 il18 ib18 S18 F18
    -- sorted
    obtain ⟨vc, hcl, hci⟩ := id ic20
    obtain ⟨vl, hll, hli⟩ := id il20
    obtain ⟨vb, hbl, hbi⟩ := id ib20
    have zc := hci.length
    have zl := hli.length
    have zb := hbi.length
    have m1' : upd m (Str.ofString "common") (.ref co) (Str.ofString "first") = some (.ref fa) := by rw [upd_ne (by decide)]; exact m1
    have m2' : upd m (Str.ofString "common") (.ref co) (Str.ofString "second") = some (.ref sa) := by rw [upd_ne (by decide)]; exact m2
    have m3' : upd m (Str.ofString "common") (.ref co) (Str.ofString "lacking") = some (.ref la15) := by rw [upd_ne (by decide)]; exact m3
    have m4' : upd m (Str.ofString "common") (.ref co) (Str.ofString "beyond") = some (.ref be) := by rw [upd_ne (by decide)]; exact m4
    refine w_stmt (w_if (w_isTrue_cmp (w_list (w_cons (w_call (w_builtin S20 (ns_sorted w) bb_sorted (w_callBuiltin rfl rfl (w_cons (w_binop (w_local F20.ns upd_self (w_local F20.ns m3' (w_concat hcl hll (by rw [List.size_toArray, List.size_toArray, ← sl_line]; omega) fun a1 g1 x1 l1 f1 => w_nil ?_))))))))))))
    have i1 : Ints g1 a1 (com xs ys ++ (uld xs ys).1) := ⟨vc ++ vl, by simpa using l1, hci.append hli⟩
    refine w_sorted i1 (by rw [List.length_append]; omega) fun a2 g2 n2 x2 i2 pm2 so2 f2 => ?_
    have X2 := x1.trans x2
    refine w_cons (w_call (w_builtin (S20.mono X2) (ns_sorted w) bb_sorted (w_callBuiltin rfl rfl (w_cons (w_binop (w_local (X2.ns F20.ns) upd_self (w_local (X2.ns F20.ns) m4' (w_concat (X2.isList hcl) (X2.isList hbl) (by rw [List.size_toArray, List.size_toArray, ← sl_line]; omega) fun a3 g3 x3 l3 f3 => w_nil ?_))))))))
    have i3 : Ints g3 a3 (com xs ys ++ (uld xs ys).2) := ⟨vc ++ vb, by simpa using l3, hci.append hbi⟩
    refine w_sorted i3 (by rw [List.length_append]; omega) fun a4 g4 n4 x4 i4 pm4 so4 f4 => w_nil ⟨by rw [← sl_line]; simp, fun a5 g5 x5 l5 f5 => ?_⟩
    have X5 := (X2.trans x3).trans (x4.trans x5)
    refine w_list (w_cons (w_call (w_builtin (S20.mono X5) (ns_sorted w) bb_sorted (w_callBuiltin rfl rfl (w_cons (w_local (X5.ns F20.ns) m1' (w_nil (w_sorted (X5.sq.ints hx20) (by omega) fun a6 g6 n6 x6 i6 pm6 so6 f6 => ?_))))))))
    have X6 := X5.trans x6
    refine w_cons (w_call (w_builtin (S20.mono X6) (ns_sorted w) bb_sorted (w_callBuiltin rfl rfl (w_cons (w_local (X6.ns F20.ns) m2' (w_nil (w_sorted (X6.sq.ints hy20) (by omega) fun a7 g7 n7 x7 i7 pm7 so7 f7 => w_nil ⟨by rw [← sl_line]; simp, fun a8 g8 x8 l8 f8 => ?_⟩)))))))
    have X8 := X6.trans (x7.trans x8)
    have un : ∀ {a b : List Int}, a.Perm b → a.Pairwise (· ≤ ·) → b.Pairwise (· ≤ ·) → a = b := fun p u v => List.Perm.eq_of_pairwise (fun x y _ _ h1 h2 => Int.le_antisymm h1 h2) u v p
    have q1 : n2 = n6 := un ((pm2.trans fc.px).trans pm6.symm) so2 so6
    have q2 : n4 = n7 := un ((pm4.trans fc.py).trans pm7.symm) so4 so7
    subst q1 q2
    have r5 : Rows g8 a5 [n2, n4] := ⟨_, ((x6.trans x7).trans x8).isList l5, .cons ((((((x3.trans x4).trans x5).trans x6).trans x7).trans x8).sq.ints i2) (.cons ((((x5.trans x6).trans x7).trans x8).sq.ints i4) .nil)⟩
    have r8 : Rows g8 a8 [n2, n4] := ⟨_, l8, .cons ((x7.trans x8).sq.ints i6) (.cons (x8.sq.ints i7) .nil)⟩
    refine w_ne_rows r5 r8 (by show A.units + 3 + 64 < cLine; omega) (w_truthy_bool ?_)
    rw [if_neg (by decide)]
    refine w_done ?_
    have F21 := F20.step X8
    have S21 := S.mono F21.ext
    have ic21 := X8.sq.ints ic20
    have st21 := X8.sq.rows st20
    clear X8 r5 r8 un x7 x8 X6 x6 X5 x5 x4 x3 X2 x2 x1 l8 l5 l3 l1 i1 i2 i3 i4 i6 i7 hcl hci hll hli hbl hbi zc zl zb m1' m2' m3' m4' pm2 pm4 pm6 pm7 so2 so4 S20 F20 ic20 st20 il20 ib20 hx20 hy20
    -- size
    obtain ⟨vc, hcl, hci⟩ := id ic21
    have zc := hci.length
    refine w_stmt (w_assign (w_call (w_builtin S21 (ns_len w) bb_len (w_callBuiltin rfl rfl (w_cons (w_local F21.ns upd_self (w_nil (w_len hcl (by rw [List.size_toArray]; omega) fun t22 => w_store F21 fun h22 F22 s22 => ?_))))))))
    have hz22 : (vc.toArray.size : Int) = ((com xs ys).length : Int) := by rw [List.size_toArray, zc]
    rw [hz22] at F22
    have ic22 := s22.sq.ints ic21
    have st22 := s22.sq.rows st21
    have S22 := S.mono F22.ext
    have m6 : upd (upd m (Str.ofString "common") (.ref co)) (Str.ofString "size") (.int (com xs ys).length t22) (Str.ofString "common") = some (.ref co) := by rw [upd_ne (by decide)]; exact upd_self
    have cst := F22.cell (Str.ofString "stairs") _ rfl
    rw [m5] at cst
    clear hcl hci zc hz22 s22 ic21 st21 S21 F21
    generalize hS : stq (shs (poly xs) (poly ys)) = ST at *
    generalize hC : com xs ys = CO at *
    obtain ⟨vst, hstl, hsti⟩ := id st22
    have zst : vst.length = 6 := hsti.length.trans okst.1
    -- the gaps
    refine w_stmt (w_if (w_isTrue_cmp (w_comp hA (w_call (w_builtin S22 (ns_range w) bb_range (w_callType rfl rfl (w_cons (w_int fun t23 => w_nil (w_range1 fun r h23 u1 u2 u3 e23 hr23 => ?_)))))))))
    refine ⟨6, _, fun i zs g => IntsAre zs (((List.range i).filter (fun k => ST.getD k [] = [])).map fun k : Nat => (k : Int)), .range rfl hr23 (small_one (by omega) (by omega) (by omega) (by omega)) (by decide), by rw [← sl_line]; omega, ⟨fun i ys g g' _ x => x, .nil, ?_⟩, ?_⟩
    · intro i zs v C m7 g h24 hi24 hv hJ hsq e24 hns hm hy24
      obtain ⟨t24, rfl⟩ := hv
      have E24 := e23.trans e24
      obtain ⟨b, hb, hbi⟩ := hsti.get i (ST.getD i []) (getD_some (by rw [okst.1]; omega))
      refine w_tests1 (w_isTrue_cmp (w_subscript (w_cell rfl (E24.cell cst) (w_local hns hm ?_))))
      refine w_item (v := .ref b) (E24.isList hstl) (by omega) (by rw [List.getElem?_toArray, ← hb]; congr 1; omega) ?_
      refine w_list (w_nil ⟨by simp, fun a25 h25 e25 l25 f25 => ?_⟩)
      refine w_eq_ints ((E24.trans e25).sq.ints hbi) ⟨[], l25, .nil⟩ (by show A.units + 3 + 64 < cLine; omega) (w_truthy_bool ⟨e25, ?_⟩)
      by_cases hq : ST.getD i [] = []
      · rw [if_pos (by simpa using hq)]
        refine w_local (e25.ns hns) hm ⟨Ext.refl _, fun g' _ _ => ?_⟩
        rw [range_filter_succ (fun k => ST.getD k [] = []), if_pos hq, List.map_append, show (0 : Int) + (i : Int) = ((i : Nat) : Int) by omega]
        exact hJ.append (.cons _ _ .nil)
      · rw [if_neg (by simpa using hq)]
        intro g' _
        rw [range_filter_succ (fun k => ST.getD k [] = []), if_neg hq, List.append_nil]
        exact hJ
    intro D5 h26 zs5 e26 hJ hD5 hDf5 hz5
    have E26 := e23.trans e26
    refine w_call (w_builtin (S22.mono E26) (ns_list w) bb_list (w_callType rfl rfl (w_cons (w_call (w_builtin (S22.mono E26) (ns_range w) bb_range (w_callType rfl rfl (w_cons (w_binop (w_int fun t27 => w_local (E26.ns F22.ns) upd_self (w_sub fun t28 => w_cons (w_int fun t29 => w_nil (w_range2 fun r2 h27 v1 v2 v3 e27 hr27 => w_nil ?_))))))))))))
    refine w_listRange hA hr27 (small_one (by omega) (by omega) (by omega) (by omega)) (n := CO.length) (by rw [rangeSize_one]; split <;> omega) (by omega) fun D6 h28 e28 i28 => ?_
    have E28 := E26.trans (e27.trans e28)
    have gaps : ((List.range 6).filter (fun k => ST.getD k [] = [])).map (fun k : Nat => (k : Int)) = (List.range CO.length).map fun i : Nat => (6 : Int) - (CO.length : Int) + (i : Int) := by
      have g0 := fc.gaps
      rw [hS, hC] at g0
      rw [g0, List.map_map]
      refine List.map_congr_left fun i hi' => ?_
      have := List.mem_range.mp hi'
      simp only [Function.comp]; omega
    refine w_ne_ints ((e27.trans e28).sq.ints ⟨zs5, hD5, hJ⟩) i28 (by show A.units + 3 + 64 < cLine; omega) (w_truthy_bool ?_)
    rw [gaps, decide_eq_true rfl, if_neg (by decide)]
    refine w_done ?_
    have F28 := F22.step E28
    -- last
    have z5 : ((5 : Int) - (CO.length : Int)) = ((5 - CO.length : Nat) : Int) := by omega
    obtain ⟨b, hb, hbi⟩ := hsti.get (5 - CO.length) (ST.getD (5 - CO.length) []) (getD_some (by rw [okst.1]; omega))
    have hsm : ST.getD (5 - CO.length) [] ∈ ST := by rw [List.getD_eq_getElem?_getD, List.getElem?_eq_getElem (by rw [okst.1]; omega)]; exact List.getElem_mem _
    obtain ⟨vb, hbl, hbv⟩ := id hbi
    have zb : vb.length ≤ 6 := by rw [hbv.length]; rcases (okst.2 _ hsm).1 with q | q <;> rw [q] <;> simp
    refine w_stmt (w_assign (w_subscript (w_subscript (w_cell rfl (E28.cell cst) (w_binop (w_int fun t30 => w_local F28.ns upd_self (w_sub fun t31 => ?_)))))))
    refine w_item (v := .ref b) (E28.isList hstl) (by omega) (by rw [List.getElem?_toArray, ← hb]; congr 1; omega) ?_
    refine w_sl (w_part_some (w_binop (w_int fun t32 => w_local F28.ns upd_self (w_sub fun t33 => w_part_none fun sl h29 e29 hs29 => ?_))))
    refine w_slice ((E28.trans e29).isList hbl) hs29 (.int _ t33) .none (by rw [List.size_toArray, ← sl_line]; omega) fun l30 h30 e30 l30' f30 => ?_
    rw [z5, show slicePick vb.toArray (some ((5 - CO.length : Nat) : Int)) none none = (vb.drop (5 - CO.length)).toArray from slicePick_from' _ _] at l30'
    refine w_storeC ((F28.step e29).step e30) rfl fun h31 F31 s31 => ?_
    have la31 : Ints h31 l30 ((ST.getD (5 - CO.length) []).drop (5 - CO.length)) := ⟨_, s31.sq.isList l30', hbv.drop _⟩
    have ic31 := ((E28.trans (e29.trans e30)).sq.trans s31.sq).ints ic22
    have cl31 := F31.cell (Str.ofString "last") _ rfl
    rw [upd_self] at cl31
    have S31 := S.mono F31.ext
    have last := fc.last
    rw [hS, hC] at last
    have bla : Bd (sg 6) ((ST.getD (5 - CO.length) []).drop (5 - CO.length)) := fun x hx => (okst.2 _ hsm).2 x (List.mem_of_mem_drop hx)
    generalize hLA : (ST.getD (5 - CO.length) []).drop (5 - CO.length) = LA at *
    clear hb hbi hsm hbl hbv zb E28 e29 e30 s31 l30' F28 hs29 e26 E26 e27 e28 hr27 hJ hD5 i28 e23 hr23 hstl hsti zst st22 ic22 S22 F22 cst
    -- the last line
    have bco : ∀ z ∈ CO, -(2 ^ 62) < z ∧ z < 2 ^ 62 := fun z hz => bx z (fc.px.subset (List.mem_append_left _ (hC ▸ hz)))
    have bpo := poly_bd CO bco
    obtain ⟨o38, e38, fd38, d38⟩ : ∃ o, h31.get? 38 = some o ∧ ∃ fd, o.data = .func fd := ⟨_, S31.part 38 _ (by k_is), _, rfl⟩
    refine w_stmt (w_return (w_cmp (w_cell rfl cl31 (w_comp hA (w_call (w_global S31 (ns_reduce w) (w_callFn e38 d38 rfl (w_cons (w_global S31 (ns_times w) (w_cons (w_local F31.ns m6 (w_cons (w_list (w_cons (w_int fun t34 => w_nil ⟨by rw [← sl_line]; simp, fun o32 h32 e32 l32 f32 => w_nil ⟨e32, ?_⟩⟩)))))))))))))))
    refine W.mono (poly_spec (A := A.deeper _) (hb := h31) (S31.mono e32) hA (by show A.depth + 1 + 4 < recursionLimit; omega) e32 (e32.sq.ints ic31) ⟨_, l32, .cons _ _ .nil⟩ f32 (by omega) bco) ?_
    rintro _ h33 ⟨e33, a33, rfl, ⟨v33, l33, i33⟩, f33⟩
    have z33 : v33.length = CO.length + 1 := i33.length.trans (poly_len CO)
    have E33 := e32.trans e33
    have la33 := E33.sq.ints la31
    have zla : LA.length = CO.length + 1 := by rw [last, List.length_map, poly_len]
    refine ⟨_, _, fun i zs g => IntsAre zs (((poly CO).take i).map fun c => LA.getD 0 0 * c), .list rfl l33, by rw [List.size_toArray, ← sl_line]; omega, ⟨fun i ys g g' _ x => x, .nil, ?_⟩, ?_⟩
    · intro i zs v C m7 g h34 hi34 hv hJ hsq e34 hns hm hy34
      have hil : i < (poly CO).length := by rw [poly_len, ← z33]; simpa using hi34
      obtain ⟨t35, hv'⟩ := IntsAre.item i33 (i := i) (x := (poly CO)[i]) (List.getElem?_eq_getElem hil)
      rw [hv'] at hv; cases hv
      refine w_tests0 ⟨Ext.refl _, ?_⟩
      rw [if_pos rfl]
      obtain ⟨v35, l35, i35⟩ := e34.sq.ints la33
      obtain ⟨t36, h36⟩ := IntsAre.item i35 (i := 0) (x := LA.getD 0 0) (getD_some (by omega))
      refine w_binop (w_subscript (w_cell rfl ((E33.trans e34).cell cl31) (w_int fun t37 => w_item (v := .int (LA.getD 0 0) t36) l35 (by omega) h36 (w_local hns hm ?_))))
      refine w_mul (mulOk_bd (bla.getD 0) (bpo _ (List.getElem_mem hil)) ?_) fun t38 => ⟨Ext.refl _, fun g' _ _ => ?_⟩
      · have : sg 6 ≤ 2000000 := by decide
        omega
      · rw [List.take_succ_eq_append_getElem hil, List.map_append]
        exact hJ.append (.cons _ _ .nil)
    intro D7 h36 zs7 e36 hJ hD7 hDf7 hz7
    rw [List.size_toArray, z33, ← poly_len CO, List.take_length, ← last] at hJ
    refine w_eq_ints (e36.sq.ints la33) ⟨zs7, hD7, hJ⟩ (by show A.units + 3 + 64 < cLine; omega) ?_
    rw [decide_eq_true rfl]
    exact ⟨rfl, _, _, F31.step (E33.trans e36)⟩
  · intro h' tk' m' Ff Gr
    refine ⟨?_, Gr, trivial⟩
    show GoodW _ _ _ _ _ (.ok (.ret (.bool true))) _
    wrow_close)
end Mine
end
theorem PySem.Challenge.cw_oy0025_01_holds : PySem.Challenge.rw_oy0025_01.Holds :=
  Mine.law_holds
